import JvmDerived
import JvmDerived.Pilot.@@N@@Statement
import JvmDerived.Pilot.@@N@@Code
set_option linter.unusedVariables false
set_option linter.unusedSimpArgs false
namespace Jvm.Pilot.@@N@@
open Jvm Jvm.ClassFile Sem Op Lib Jvm.Free Jvm.Stand Jvm.LawKit Jvm.RoadKit Bundle Jvm.Pilot.@@N@@.Jvm.D
/-- one invocation: program, environment, the state at the invocation, method, arguments, the frames below, the method's record, its code -/
abbrev OG := Program × Env × State × MethodId × Array Value × List Frame × Method × Code
/-- the whole run: the launch, the heap's size at the law's start, the law's arguments -/
abbrev OW := Launch × Nat × Array Value
/-- one method: its bytes, its number of locals, its class, its name, what it returns, the room it asks -/
abbrev OM := ByteArray × Nat × String × String × Option FieldType × Room
/-- where a walk stands -/
def oSt (Z : State) (ω : OW) (γ : OG) (κ : OM) (T : State) (h : Heap) (cs ss : Nat) : Prop :=
  γ.1.tables.exec = Jvm.exec ∧ γ.2.2.2.2.2.2.2.code = κ.1 ∧ γ.2.2.2.2.2.2.2.maxLocals = κ.2.1 ∧ γ.2.2.1.vm.findClass κ.2.2.1 = some γ.2.2.2.1.cls ∧ γ.2.2.2.2.2.2.1.name = κ.2.2.2.1 ∧
  γ.2.2.2.2.2.2.1.sig.returnType = κ.2.2.2.2.1 ∧ γ.2.2.2.2.2.2.1.locks = false ∧ Z.Warmed39 γ.2.2.1.vm ∧ (∀ d ∈ tables_1, d.before ω.2.2 Z = true) ∧ ω.2.1 ≤ γ.2.2.1.heap.size ∧ T.heap = h ∧
  ∃ locs, Stand γ.1 ω.1 γ.2.1 κ.2.2.2.2.2 γ.2.2.1 γ.2.2.2.1 γ.2.2.2.2.1 γ.2.2.2.2.2.1 γ.2.2.2.2.2.2.1 γ.2.2.2.2.2.2.2 T locs cs ss ∧ Fr ω.2.1 locs
/-- from here the method returns, and Q holds of what it returns and of the heap it leaves -/
def oWP (ω : OW) (γ : OG) (κ : OM) (Q : Option Value → Heap → Prop) (T : State) (pc : Nat) (L : Array Slot) (S : List Value) : Prop :=
  ∃ s₂ o, Steps γ.1.tables γ.2.1 γ.2.2.2.2.2.1 (T.setTop (mkF γ.2.2.2.1 pc L S)) s₂ ∧ s₂.status = .running ∧ Ended s₂ γ.2.2.2.2.2.1 o ∧
    ∃ v Lc, o = .returned v ∧ (Fr ω.2.1 Lc ∧ Q v s₂.heap) ∧ FrameEnd γ.2.2.1 o s₂ Lc κ.2.2.2.2.2.cells κ.2.2.2.2.2.slots
/-- a method's contract -/
def oC (Z : State) (ω : OW) (y : MethodName) (κ : OM) (ws : List Jvm.Cond) (as : Array Value) (h : Heap) (Q : Option Value → Heap → Prop) : Prop :=
  MetFree ω.1 y (head1 (Jvm.Cond.code y κ.1 κ.2.1 κ.2.2.2.2.1 :: ws) κ.2.2.2.2.2) (fun a U => a = as ∧ Z.Warmed39 U.vm ∧ U.heap = h) (fun _ _ _ _ _ => True)
    (fun _ U o U' => ∃ v Lc, o = .returned v ∧ (Fr ω.2.1 Lc ∧ Q v U'.heap) ∧ FrameEnd U o U' Lc κ.2.2.2.2.2.cells κ.2.2.2.2.2.slots)
theorem oC_of {Z : State} {ω : OW} {y : MethodName} {κ : OM} {ws : List Jvm.Cond} {as : Array Value} {h : Heap} {Q : Option Value → Heap → Prop} {L : Array Slot} (hw : ∀ d ∈ tables_1, d.before ω.2.2 Z = true) (hn0 : ω.2.1 ≤ h.size)
    (hpn : plainName y.cls = true) (hcl : κ.2.2.1 = y.cls) (hnm : κ.2.2.2.1 = y.name) (hef : ∀ m, entryFrame m as κ.2.1 = mkF m 0 L []) (body : ∀ γ T, oSt Z ω γ κ T h 0 0 → oWP ω γ κ Q T 0 L []) : oC Z ω y κ ws as h Q := by
  refine MetFree.of_bodySF (plainFor_of_name hpn) hisR ?_
  intro p e s m args below meth c s₁ Bd hml0 hP hK
  obtain ⟨rfl, hZ, hh⟩ := hP
  have hown : s.vm.findClass y.cls = some m.cls := findClass_of_methodNamed Bd.named
  have hnm' := (name_of_methodNamed Bd.named Bd.method).1
  have X0 := Stand.of_body Bd
  have e0 : s₁.heap = h := by rw [← hh, Bd.state]; rfl
  have hlk : meth.locks = false := BodyLoose.notSynchronized Bd
  obtain ⟨s₂, o, h1, h2, h3, h4⟩ := body (p, e, s, m, args, below, meth, c) s₁ ⟨Bd.exec, Bd.bytes, hml0, by rw [hcl]; exact hown, by rw [hnm]; exact hnm', Bd.returns, hlk, hZ, hw, by rw [hh]; exact hn0, e0, [], X0, Fr.nil _⟩
  exact ⟨s₂, o, castTop (hef m) h1, h2, h3, h4⟩
section Walk
variable {Z : State} {ω : OW} {γ : OG} {κ : OM} {Q : Option Value → Heap → Prop} {T : State} {h : Heap} {cs ss : Nat} {pc : Nat} {L : Array Slot} {S : List Value}
theorem oSt_n0 (X : oSt Z ω γ κ T h cs ss) : ω.2.1 ≤ h.size := by
  obtain ⟨-, -, -, -, -, -, -, -, -, hn0, hT, locs, Y, -⟩ := X
  have q : γ.2.2.1.heap.size ≤ T.heap.size := Y.same.2.1
  rw [hT] at q
  exact Nat.le_trans hn0 q
theorem oSt_w (X : oSt Z ω γ κ T h cs ss) : ∀ d ∈ tables_1, d.before ω.2.2 Z = true := by
  obtain ⟨-, -, -, -, -, -, -, -, hw, -⟩ := X; exact hw
theorem oSt_at (X : oSt Z ω γ κ T h cs ss) (i : Nat) {d : Jvm.Cond} (hi : tables_1[i]? = some d) : d.before ω.2.2 Z = true := oSt_w X _ (List.mem_of_getElem? hi)
theorem ow_iload (X : oSt Z ω γ κ T h cs ss) (pc' : Nat) {k : Nat} {v : Int32} (hd : decode κ.1 pc = .ok (.iload k, 2)) (hp : pc + 2 = pc') (hl : L[k]? = some (.val (.int v)))
    (K : oWP ω γ κ Q T pc' L (.int v :: S)) : oWP ω γ κ Q T pc L (S) := by
  obtain ⟨hx, hby, -, -, -, -, -, -, -, -, -, locs, Y, -⟩ := X
  subst hp
  obtain ⟨s₂, o, hs, r⟩ := K
  exact ⟨s₂, o, XS.iload Y.here hx rfl (hb hby hd) hl hs, r⟩
theorem ow_iloadN (X : oSt Z ω γ κ T h cs ss) (pc' : Nat) {k : Fin 4} {v : Int32} (hd : decode κ.1 pc = .ok (.iload_n k, 1)) (hp : pc + 1 = pc') (hl : L[k.val]? = some (.val (.int v)))
    (K : oWP ω γ κ Q T pc' L (.int v :: S)) : oWP ω γ κ Q T pc L (S) := by
  obtain ⟨hx, hby, -, -, -, -, -, -, -, -, -, locs, Y, -⟩ := X
  subst hp
  obtain ⟨s₂, o, hs, r⟩ := K
  exact ⟨s₂, o, XS.iloadN Y.here hx rfl (hb hby hd) hl hs, r⟩
theorem ow_istore (X : oSt Z ω γ κ T h cs ss) (pc' : Nat) {k : Nat} {v : Int32} {L' : Array Slot} (hd : decode κ.1 pc = .ok (.istore k, 2)) (hp : pc + 2 = pc') (hl : storeLocals L k (.int v) = some L')
    (K : oWP ω γ κ Q T pc' L' (S)) : oWP ω γ κ Q T pc L (.int v :: S) := by
  obtain ⟨hx, hby, -, -, -, -, -, -, -, -, -, locs, Y, -⟩ := X
  subst hp
  obtain ⟨s₂, o, hs, r⟩ := K
  exact ⟨s₂, o, XS.istore Y.here hx rfl (hb hby hd) rfl hl hs, r⟩
theorem ow_istoreN (X : oSt Z ω γ κ T h cs ss) (pc' : Nat) {k : Fin 4} {v : Int32} {L' : Array Slot} (hd : decode κ.1 pc = .ok (.istore_n k, 1)) (hp : pc + 1 = pc') (hl : storeLocals L k.val (.int v) = some L')
    (K : oWP ω γ κ Q T pc' L' (S)) : oWP ω γ κ Q T pc L (.int v :: S) := by
  obtain ⟨hx, hby, -, -, -, -, -, -, -, -, -, locs, Y, -⟩ := X
  subst hp
  obtain ⟨s₂, o, hs, r⟩ := K
  exact ⟨s₂, o, XS.istoreN Y.here hx rfl (hb hby hd) rfl hl hs, r⟩
theorem ow_lload (X : oSt Z ω γ κ T h cs ss) (pc' : Nat) {k : Nat} {v : Int64} (hd : decode κ.1 pc = .ok (.lload k, 2)) (hp : pc + 2 = pc') (hl : L[k]? = some (.val (.long v)))
    (K : oWP ω γ κ Q T pc' L (.long v :: S)) : oWP ω γ κ Q T pc L (S) := by
  obtain ⟨hx, hby, -, -, -, -, -, -, -, -, -, locs, Y, -⟩ := X
  subst hp
  obtain ⟨s₂, o, hs, r⟩ := K
  exact ⟨s₂, o, XS.lload Y.here hx rfl (hb hby hd) hl hs, r⟩
theorem ow_lloadN (X : oSt Z ω γ κ T h cs ss) (pc' : Nat) {k : Fin 4} {v : Int64} (hd : decode κ.1 pc = .ok (.lload_n k, 1)) (hp : pc + 1 = pc') (hl : L[k.val]? = some (.val (.long v)))
    (K : oWP ω γ κ Q T pc' L (.long v :: S)) : oWP ω γ κ Q T pc L (S) := by
  obtain ⟨hx, hby, -, -, -, -, -, -, -, -, -, locs, Y, -⟩ := X
  subst hp
  obtain ⟨s₂, o, hs, r⟩ := K
  exact ⟨s₂, o, XS.lloadN Y.here hx rfl (hb hby hd) hl hs, r⟩
theorem ow_lstore (X : oSt Z ω γ κ T h cs ss) (pc' : Nat) {k : Nat} {v : Int64} {L' : Array Slot} (hd : decode κ.1 pc = .ok (.lstore k, 2)) (hp : pc + 2 = pc') (hl : storeLocals L k (.long v) = some L')
    (K : oWP ω γ κ Q T pc' L' (S)) : oWP ω γ κ Q T pc L (.long v :: S) := by
  obtain ⟨hx, hby, -, -, -, -, -, -, -, -, -, locs, Y, -⟩ := X
  subst hp
  obtain ⟨s₂, o, hs, r⟩ := K
  exact ⟨s₂, o, XS.lstore Y.here hx rfl (hb hby hd) rfl hl hs, r⟩
theorem ow_lstoreN (X : oSt Z ω γ κ T h cs ss) (pc' : Nat) {k : Fin 4} {v : Int64} {L' : Array Slot} (hd : decode κ.1 pc = .ok (.lstore_n k, 1)) (hp : pc + 1 = pc') (hl : storeLocals L k.val (.long v) = some L')
    (K : oWP ω γ κ Q T pc' L' (S)) : oWP ω γ κ Q T pc L (.long v :: S) := by
  obtain ⟨hx, hby, -, -, -, -, -, -, -, -, -, locs, Y, -⟩ := X
  subst hp
  obtain ⟨s₂, o, hs, r⟩ := K
  exact ⟨s₂, o, XS.lstoreN Y.here hx rfl (hb hby hd) rfl hl hs, r⟩
theorem ow_aload (X : oSt Z ω γ κ T h cs ss) (pc' : Nat) {k : Nat} {v : Value} (hd : decode κ.1 pc = .ok (.aload k, 2)) (hp : pc + 2 = pc') (hl : L[k]? = some (.val v)) (hv : v.isRef = true)
    (K : oWP ω γ κ Q T pc' L (v :: S)) : oWP ω γ κ Q T pc L (S) := by
  obtain ⟨hx, hby, -, -, -, -, -, -, -, -, -, locs, Y, -⟩ := X
  subst hp
  obtain ⟨s₂, o, hs, r⟩ := K
  exact ⟨s₂, o, XS.aload Y.here hx rfl (hb hby hd) hl hv hs, r⟩
theorem ow_aloadN (X : oSt Z ω γ κ T h cs ss) (pc' : Nat) {k : Fin 4} {v : Value} (hd : decode κ.1 pc = .ok (.aload_n k, 1)) (hp : pc + 1 = pc') (hl : L[k.val]? = some (.val v)) (hv : v.isRef = true)
    (K : oWP ω γ κ Q T pc' L (v :: S)) : oWP ω γ κ Q T pc L (S) := by
  obtain ⟨hx, hby, -, -, -, -, -, -, -, -, -, locs, Y, -⟩ := X
  subst hp
  obtain ⟨s₂, o, hs, r⟩ := K
  exact ⟨s₂, o, XS.aloadN Y.here hx rfl (hb hby hd) hl hv hs, r⟩
theorem ow_astore (X : oSt Z ω γ κ T h cs ss) (pc' : Nat) {k : Nat} {v : Value} {L' : Array Slot} (hd : decode κ.1 pc = .ok (.astore k, 2)) (hp : pc + 2 = pc') (hv : v.isRef = true) (hl : storeLocals L k v = some L')
    (K : oWP ω γ κ Q T pc' L' (S)) : oWP ω γ κ Q T pc L (v :: S) := by
  obtain ⟨hx, hby, -, -, -, -, -, -, -, -, -, locs, Y, -⟩ := X
  subst hp
  obtain ⟨s₂, o, hs, r⟩ := K
  exact ⟨s₂, o, XS.astore Y.here hx rfl (hb hby hd) rfl hv hl hs, r⟩
theorem ow_astoreN (X : oSt Z ω γ κ T h cs ss) (pc' : Nat) {k : Fin 4} {v : Value} {L' : Array Slot} (hd : decode κ.1 pc = .ok (.astore_n k, 1)) (hp : pc + 1 = pc') (hv : v.isRef = true) (hl : storeLocals L k.val v = some L')
    (K : oWP ω γ κ Q T pc' L' (S)) : oWP ω γ κ Q T pc L (v :: S) := by
  obtain ⟨hx, hby, -, -, -, -, -, -, -, -, -, locs, Y, -⟩ := X
  subst hp
  obtain ⟨s₂, o, hs, r⟩ := K
  exact ⟨s₂, o, XS.astoreN Y.here hx rfl (hb hby hd) rfl hv hl hs, r⟩
theorem ow_iconst (X : oSt Z ω γ κ T h cs ss) (pc' : Nat) {i : Int} (v : Int32) (hd : decode κ.1 pc = .ok (.iconst i, 1)) (hp : pc + 1 = pc') (hv : Int32.ofInt i = v)
    (K : oWP ω γ κ Q T pc' L (.int v :: S)) : oWP ω γ κ Q T pc L (S) := by
  obtain ⟨hx, hby, -, -, -, -, -, -, -, -, -, locs, Y, -⟩ := X
  subst hp
  obtain ⟨s₂, o, hs, r⟩ := K
  subst hv; exact ⟨s₂, o, XS.iconst Y.here hx rfl (hb hby hd) hs, r⟩
theorem ow_bipush (X : oSt Z ω γ κ T h cs ss) (pc' : Nat) {i : Int} (v : Int32) (hd : decode κ.1 pc = .ok (.bipush i, 2)) (hp : pc + 2 = pc') (hv : (Int8.ofInt i).toInt32 = v)
    (K : oWP ω γ κ Q T pc' L (.int v :: S)) : oWP ω γ κ Q T pc L (S) := by
  obtain ⟨hx, hby, -, -, -, -, -, -, -, -, -, locs, Y, -⟩ := X
  subst hp
  obtain ⟨s₂, o, hs, r⟩ := K
  subst hv; exact ⟨s₂, o, XS.bipush Y.here hx rfl (hb hby hd) hs, r⟩
theorem ow_sipush (X : oSt Z ω γ κ T h cs ss) (pc' : Nat) {i : Int} (v : Int32) (hd : decode κ.1 pc = .ok (.sipush i, 3)) (hp : pc + 3 = pc') (hv : (Int16.ofInt i).toInt32 = v)
    (K : oWP ω γ κ Q T pc' L (.int v :: S)) : oWP ω γ κ Q T pc L (S) := by
  obtain ⟨hx, hby, -, -, -, -, -, -, -, -, -, locs, Y, -⟩ := X
  subst hp
  obtain ⟨s₂, o, hs, r⟩ := K
  subst hv; exact ⟨s₂, o, XS.sipush Y.here hx rfl (hb hby hd) hs, r⟩
theorem ow_lconst (X : oSt Z ω γ κ T h cs ss) (pc' : Nat) {k : Fin 2} (v : Int64) (hd : decode κ.1 pc = .ok (.lconst k, 1)) (hp : pc + 1 = pc') (hv : Int64.ofNat k = v)
    (K : oWP ω γ κ Q T pc' L (.long v :: S)) : oWP ω γ κ Q T pc L (S) := by
  obtain ⟨hx, hby, -, -, -, -, -, -, -, -, -, locs, Y, -⟩ := X
  subst hp
  obtain ⟨s₂, o, hs, r⟩ := K
  subst hv; exact ⟨s₂, o, XS.lconst Y.here hx rfl (hb hby hd) hs, r⟩
theorem ow_anull (X : oSt Z ω γ κ T h cs ss) (pc' : Nat)  (hd : decode κ.1 pc = .ok (.aconst_null, 1)) (hp : pc + 1 = pc') 
    (K : oWP ω γ κ Q T pc' L (.null :: S)) : oWP ω γ κ Q T pc L (S) := by
  obtain ⟨hx, hby, -, -, -, -, -, -, -, -, -, locs, Y, -⟩ := X
  subst hp
  obtain ⟨s₂, o, hs, r⟩ := K
  exact ⟨s₂, o, XS.aconstNull Y.here hx rfl (hb hby hd) hs, r⟩
theorem ow_iinc (X : oSt Z ω γ κ T h cs ss) (pc' : Nat) {k : Nat} {i : Int} {x : Int32} {L' : Array Slot} (v : Int32) (hd : decode κ.1 pc = .ok (.iinc k i, 3)) (hp : pc + 3 = pc') (hv : Int32.ofInt i = v) (hl : L[k]? = some (.val (.int x))) (hl' : storeLocals L k (.int (x + v)) = some L')
    (K : oWP ω γ κ Q T pc' L' (S)) : oWP ω γ κ Q T pc L (S) := by
  obtain ⟨hx, hby, -, -, -, -, -, -, -, -, -, locs, Y, -⟩ := X
  subst hp
  obtain ⟨s₂, o, hs, r⟩ := K
  subst hv; exact ⟨s₂, o, XS.iinc Y.here hx rfl (hb hby hd) hl hl' hs, r⟩
theorem ow_iadd (X : oSt Z ω γ κ T h cs ss) (pc' : Nat) {x y : Int32} (hd : decode κ.1 pc = .ok (.iadd, 1)) (hp : pc + 1 = pc') 
    (K : oWP ω γ κ Q T pc' L (.int (x + y) :: S)) : oWP ω γ κ Q T pc L (.int y :: .int x :: S) := by
  obtain ⟨hx, hby, -, -, -, -, -, -, -, -, -, locs, Y, -⟩ := X
  subst hp
  obtain ⟨s₂, o, hs, r⟩ := K
  exact ⟨s₂, o, XS.iadd Y.here hx rfl (hb hby hd) rfl hs, r⟩
theorem ow_isub (X : oSt Z ω γ κ T h cs ss) (pc' : Nat) {x y : Int32} (hd : decode κ.1 pc = .ok (.isub, 1)) (hp : pc + 1 = pc') 
    (K : oWP ω γ κ Q T pc' L (.int (x - y) :: S)) : oWP ω γ κ Q T pc L (.int y :: .int x :: S) := by
  obtain ⟨hx, hby, -, -, -, -, -, -, -, -, -, locs, Y, -⟩ := X
  subst hp
  obtain ⟨s₂, o, hs, r⟩ := K
  exact ⟨s₂, o, XS.isub Y.here hx rfl (hb hby hd) rfl hs, r⟩
theorem ow_imul (X : oSt Z ω γ κ T h cs ss) (pc' : Nat) {x y : Int32} (hd : decode κ.1 pc = .ok (.imul, 1)) (hp : pc + 1 = pc') 
    (K : oWP ω γ κ Q T pc' L (.int (x * y) :: S)) : oWP ω γ κ Q T pc L (.int y :: .int x :: S) := by
  obtain ⟨hx, hby, -, -, -, -, -, -, -, -, -, locs, Y, -⟩ := X
  subst hp
  obtain ⟨s₂, o, hs, r⟩ := K
  exact ⟨s₂, o, XS.imul Y.here hx rfl (hb hby hd) rfl hs, r⟩
theorem ow_iand (X : oSt Z ω γ κ T h cs ss) (pc' : Nat) {x y : Int32} (hd : decode κ.1 pc = .ok (.iand, 1)) (hp : pc + 1 = pc') 
    (K : oWP ω γ κ Q T pc' L (.int (x &&& y) :: S)) : oWP ω γ κ Q T pc L (.int y :: .int x :: S) := by
  obtain ⟨hx, hby, -, -, -, -, -, -, -, -, -, locs, Y, -⟩ := X
  subst hp
  obtain ⟨s₂, o, hs, r⟩ := K
  exact ⟨s₂, o, XS.iand Y.here hx rfl (hb hby hd) rfl hs, r⟩
theorem ow_ior (X : oSt Z ω γ κ T h cs ss) (pc' : Nat) {x y : Int32} (hd : decode κ.1 pc = .ok (.ior, 1)) (hp : pc + 1 = pc') 
    (K : oWP ω γ κ Q T pc' L (.int (x ||| y) :: S)) : oWP ω γ κ Q T pc L (.int y :: .int x :: S) := by
  obtain ⟨hx, hby, -, -, -, -, -, -, -, -, -, locs, Y, -⟩ := X
  subst hp
  obtain ⟨s₂, o, hs, r⟩ := K
  exact ⟨s₂, o, XS.ior Y.here hx rfl (hb hby hd) rfl hs, r⟩
theorem ow_ixor (X : oSt Z ω γ κ T h cs ss) (pc' : Nat) {x y : Int32} (hd : decode κ.1 pc = .ok (.ixor, 1)) (hp : pc + 1 = pc') 
    (K : oWP ω γ κ Q T pc' L (.int (x ^^^ y) :: S)) : oWP ω γ κ Q T pc L (.int y :: .int x :: S) := by
  obtain ⟨hx, hby, -, -, -, -, -, -, -, -, -, locs, Y, -⟩ := X
  subst hp
  obtain ⟨s₂, o, hs, r⟩ := K
  exact ⟨s₂, o, XS.ixor Y.here hx rfl (hb hby hd) rfl hs, r⟩
theorem ow_ishl (X : oSt Z ω γ κ T h cs ss) (pc' : Nat) {x y : Int32} (hd : decode κ.1 pc = .ok (.ishl, 1)) (hp : pc + 1 = pc') 
    (K : oWP ω γ κ Q T pc' L (.int (x <<< (y &&& 31)) :: S)) : oWP ω γ κ Q T pc L (.int y :: .int x :: S) := by
  obtain ⟨hx, hby, -, -, -, -, -, -, -, -, -, locs, Y, -⟩ := X
  subst hp
  obtain ⟨s₂, o, hs, r⟩ := K
  exact ⟨s₂, o, XS.ishl Y.here hx rfl (hb hby hd) rfl hs, r⟩
theorem ow_ishr (X : oSt Z ω γ κ T h cs ss) (pc' : Nat) {x y : Int32} (hd : decode κ.1 pc = .ok (.ishr, 1)) (hp : pc + 1 = pc') 
    (K : oWP ω γ κ Q T pc' L (.int (x >>> (y &&& 31)) :: S)) : oWP ω γ κ Q T pc L (.int y :: .int x :: S) := by
  obtain ⟨hx, hby, -, -, -, -, -, -, -, -, -, locs, Y, -⟩ := X
  subst hp
  obtain ⟨s₂, o, hs, r⟩ := K
  exact ⟨s₂, o, XS.ishr Y.here hx rfl (hb hby hd) rfl hs, r⟩
theorem ow_iushr (X : oSt Z ω γ κ T h cs ss) (pc' : Nat) {x y : Int32} (hd : decode κ.1 pc = .ok (.iushr, 1)) (hp : pc + 1 = pc') 
    (K : oWP ω γ κ Q T pc' L (.int ((x.toUInt32 >>> (y &&& 31).toUInt32).toInt32) :: S)) : oWP ω γ κ Q T pc L (.int y :: .int x :: S) := by
  obtain ⟨hx, hby, -, -, -, -, -, -, -, -, -, locs, Y, -⟩ := X
  subst hp
  obtain ⟨s₂, o, hs, r⟩ := K
  exact ⟨s₂, o, XS.iushr Y.here hx rfl (hb hby hd) rfl hs, r⟩
theorem ow_ineg (X : oSt Z ω γ κ T h cs ss) (pc' : Nat) {x : Int32} (hd : decode κ.1 pc = .ok (.ineg, 1)) (hp : pc + 1 = pc') 
    (K : oWP ω γ κ Q T pc' L (.int (-x) :: S)) : oWP ω γ κ Q T pc L (.int x :: S) := by
  obtain ⟨hx, hby, -, -, -, -, -, -, -, -, -, locs, Y, -⟩ := X
  subst hp
  obtain ⟨s₂, o, hs, r⟩ := K
  exact ⟨s₂, o, XS.ineg Y.here hx rfl (hb hby hd) rfl hs, r⟩
theorem ow_idiv (X : oSt Z ω γ κ T h cs ss) (pc' : Nat) {x y : Int32} (hd : decode κ.1 pc = .ok (.idiv, 1)) (hp : pc + 1 = pc') (hy : y ≠ 0)
    (K : oWP ω γ κ Q T pc' L (.int (x / y) :: S)) : oWP ω γ κ Q T pc L (.int y :: .int x :: S) := by
  obtain ⟨hx, hby, -, -, -, -, -, -, -, -, -, locs, Y, -⟩ := X
  subst hp
  obtain ⟨s₂, o, hs, r⟩ := K
  exact ⟨s₂, o, XS.idiv Y.here hx rfl (hb hby hd) rfl hy hs, r⟩
theorem ow_irem (X : oSt Z ω γ κ T h cs ss) (pc' : Nat) {x y : Int32} (hd : decode κ.1 pc = .ok (.irem, 1)) (hp : pc + 1 = pc') (hy : y ≠ 0)
    (K : oWP ω γ κ Q T pc' L (.int (x % y) :: S)) : oWP ω γ κ Q T pc L (.int y :: .int x :: S) := by
  obtain ⟨hx, hby, -, -, -, -, -, -, -, -, -, locs, Y, -⟩ := X
  subst hp
  obtain ⟨s₂, o, hs, r⟩ := K
  exact ⟨s₂, o, iremM Y hx rfl (hb hby hd) rfl hy hs, r⟩
theorem ow_ladd (X : oSt Z ω γ κ T h cs ss) (pc' : Nat) {x y : Int64} (hd : decode κ.1 pc = .ok (.ladd, 1)) (hp : pc + 1 = pc') 
    (K : oWP ω γ κ Q T pc' L (.long (x + y) :: S)) : oWP ω γ κ Q T pc L (.long y :: .long x :: S) := by
  obtain ⟨hx, hby, -, -, -, -, -, -, -, -, -, locs, Y, -⟩ := X
  subst hp
  obtain ⟨s₂, o, hs, r⟩ := K
  exact ⟨s₂, o, XS.ladd Y.here hx rfl (hb hby hd) rfl hs, r⟩
theorem ow_lsub (X : oSt Z ω γ κ T h cs ss) (pc' : Nat) {x y : Int64} (hd : decode κ.1 pc = .ok (.lsub, 1)) (hp : pc + 1 = pc') 
    (K : oWP ω γ κ Q T pc' L (.long (x - y) :: S)) : oWP ω γ κ Q T pc L (.long y :: .long x :: S) := by
  obtain ⟨hx, hby, -, -, -, -, -, -, -, -, -, locs, Y, -⟩ := X
  subst hp
  obtain ⟨s₂, o, hs, r⟩ := K
  exact ⟨s₂, o, XS.lsub Y.here hx rfl (hb hby hd) rfl hs, r⟩
theorem ow_lmul (X : oSt Z ω γ κ T h cs ss) (pc' : Nat) {x y : Int64} (hd : decode κ.1 pc = .ok (.lmul, 1)) (hp : pc + 1 = pc') 
    (K : oWP ω γ κ Q T pc' L (.long (x * y) :: S)) : oWP ω γ κ Q T pc L (.long y :: .long x :: S) := by
  obtain ⟨hx, hby, -, -, -, -, -, -, -, -, -, locs, Y, -⟩ := X
  subst hp
  obtain ⟨s₂, o, hs, r⟩ := K
  exact ⟨s₂, o, XS.lmul Y.here hx rfl (hb hby hd) rfl hs, r⟩
theorem ow_land (X : oSt Z ω γ κ T h cs ss) (pc' : Nat) {x y : Int64} (hd : decode κ.1 pc = .ok (.land, 1)) (hp : pc + 1 = pc') 
    (K : oWP ω γ κ Q T pc' L (.long (x &&& y) :: S)) : oWP ω γ κ Q T pc L (.long y :: .long x :: S) := by
  obtain ⟨hx, hby, -, -, -, -, -, -, -, -, -, locs, Y, -⟩ := X
  subst hp
  obtain ⟨s₂, o, hs, r⟩ := K
  exact ⟨s₂, o, XS.land Y.here hx rfl (hb hby hd) rfl hs, r⟩
theorem ow_lor (X : oSt Z ω γ κ T h cs ss) (pc' : Nat) {x y : Int64} (hd : decode κ.1 pc = .ok (.lor, 1)) (hp : pc + 1 = pc') 
    (K : oWP ω γ κ Q T pc' L (.long (x ||| y) :: S)) : oWP ω γ κ Q T pc L (.long y :: .long x :: S) := by
  obtain ⟨hx, hby, -, -, -, -, -, -, -, -, -, locs, Y, -⟩ := X
  subst hp
  obtain ⟨s₂, o, hs, r⟩ := K
  exact ⟨s₂, o, XS.lor Y.here hx rfl (hb hby hd) rfl hs, r⟩
theorem ow_lxor (X : oSt Z ω γ κ T h cs ss) (pc' : Nat) {x y : Int64} (hd : decode κ.1 pc = .ok (.lxor, 1)) (hp : pc + 1 = pc') 
    (K : oWP ω γ κ Q T pc' L (.long (x ^^^ y) :: S)) : oWP ω γ κ Q T pc L (.long y :: .long x :: S) := by
  obtain ⟨hx, hby, -, -, -, -, -, -, -, -, -, locs, Y, -⟩ := X
  subst hp
  obtain ⟨s₂, o, hs, r⟩ := K
  exact ⟨s₂, o, XS.lxor Y.here hx rfl (hb hby hd) rfl hs, r⟩
theorem ow_lshl (X : oSt Z ω γ κ T h cs ss) (pc' : Nat) {x : Int64} {y : Int32} (hd : decode κ.1 pc = .ok (.lshl, 1)) (hp : pc + 1 = pc') 
    (K : oWP ω γ κ Q T pc' L (.long (x <<< (y &&& 0x3f).toInt64) :: S)) : oWP ω γ κ Q T pc L (.int y :: .long x :: S) := by
  obtain ⟨hx, hby, -, -, -, -, -, -, -, -, -, locs, Y, -⟩ := X
  subst hp
  obtain ⟨s₂, o, hs, r⟩ := K
  exact ⟨s₂, o, XS.lshl Y.here hx rfl (hb hby hd) rfl hs, r⟩
theorem ow_lshr (X : oSt Z ω γ κ T h cs ss) (pc' : Nat) {x : Int64} {y : Int32} (hd : decode κ.1 pc = .ok (.lshr, 1)) (hp : pc + 1 = pc') 
    (K : oWP ω γ κ Q T pc' L (.long (x >>> (y &&& 0x3f).toInt64) :: S)) : oWP ω γ κ Q T pc L (.int y :: .long x :: S) := by
  obtain ⟨hx, hby, -, -, -, -, -, -, -, -, -, locs, Y, -⟩ := X
  subst hp
  obtain ⟨s₂, o, hs, r⟩ := K
  exact ⟨s₂, o, XS.lshr Y.here hx rfl (hb hby hd) rfl hs, r⟩
theorem ow_lushr (X : oSt Z ω γ κ T h cs ss) (pc' : Nat) {x : Int64} {y : Int32} (hd : decode κ.1 pc = .ok (.lushr, 1)) (hp : pc + 1 = pc') 
    (K : oWP ω γ κ Q T pc' L (.long ((x.toUInt64 >>> (y &&& 0x3f).toInt64.toUInt64).toInt64) :: S)) : oWP ω γ κ Q T pc L (.int y :: .long x :: S) := by
  obtain ⟨hx, hby, -, -, -, -, -, -, -, -, -, locs, Y, -⟩ := X
  subst hp
  obtain ⟨s₂, o, hs, r⟩ := K
  exact ⟨s₂, o, XS.lushr Y.here hx rfl (hb hby hd) rfl hs, r⟩
theorem ow_ldiv (X : oSt Z ω γ κ T h cs ss) (pc' : Nat) {x y : Int64} (hd : decode κ.1 pc = .ok (.ldiv, 1)) (hp : pc + 1 = pc') (hy : y ≠ 0)
    (K : oWP ω γ κ Q T pc' L (.long (x / y) :: S)) : oWP ω γ κ Q T pc L (.long y :: .long x :: S) := by
  obtain ⟨hx, hby, -, -, -, -, -, -, -, -, -, locs, Y, -⟩ := X
  subst hp
  obtain ⟨s₂, o, hs, r⟩ := K
  exact ⟨s₂, o, XS.ldiv Y.here hx rfl (hb hby hd) rfl hy hs, r⟩
theorem ow_lrem (X : oSt Z ω γ κ T h cs ss) (pc' : Nat) {x y : Int64} (hd : decode κ.1 pc = .ok (.lrem, 1)) (hp : pc + 1 = pc') (hy : y ≠ 0)
    (K : oWP ω γ κ Q T pc' L (.long (x % y) :: S)) : oWP ω γ κ Q T pc L (.long y :: .long x :: S) := by
  obtain ⟨hx, hby, -, -, -, -, -, -, -, -, -, locs, Y, -⟩ := X
  subst hp
  obtain ⟨s₂, o, hs, r⟩ := K
  rw [← lrem_mod] at hs; exact ⟨s₂, o, XS.lrem Y.here hx rfl (hb hby hd) rfl hy hs, r⟩
theorem ow_i2l (X : oSt Z ω γ κ T h cs ss) (pc' : Nat) {x : Int32} (hd : decode κ.1 pc = .ok (.i2l, 1)) (hp : pc + 1 = pc') 
    (K : oWP ω γ κ Q T pc' L (.long x.toInt64 :: S)) : oWP ω γ κ Q T pc L (.int x :: S) := by
  obtain ⟨hx, hby, -, -, -, -, -, -, -, -, -, locs, Y, -⟩ := X
  subst hp
  obtain ⟨s₂, o, hs, r⟩ := K
  exact ⟨s₂, o, XS.i2l Y.here hx rfl (hb hby hd) rfl hs, r⟩
theorem ow_l2i (X : oSt Z ω γ κ T h cs ss) (pc' : Nat) {x : Int64} (hd : decode κ.1 pc = .ok (.l2i, 1)) (hp : pc + 1 = pc') 
    (K : oWP ω γ κ Q T pc' L (.int x.toInt32 :: S)) : oWP ω γ κ Q T pc L (.long x :: S) := by
  obtain ⟨hx, hby, -, -, -, -, -, -, -, -, -, locs, Y, -⟩ := X
  subst hp
  obtain ⟨s₂, o, hs, r⟩ := K
  exact ⟨s₂, o, XS.l2i Y.here hx rfl (hb hby hd) rfl hs, r⟩
theorem ow_i2b (X : oSt Z ω γ κ T h cs ss) (pc' : Nat) {x : Int32} (hd : decode κ.1 pc = .ok (.i2b, 1)) (hp : pc + 1 = pc') 
    (K : oWP ω γ κ Q T pc' L (.int x.toInt8.toInt32 :: S)) : oWP ω γ κ Q T pc L (.int x :: S) := by
  obtain ⟨hx, hby, -, -, -, -, -, -, -, -, -, locs, Y, -⟩ := X
  subst hp
  obtain ⟨s₂, o, hs, r⟩ := K
  exact ⟨s₂, o, XS.i2b Y.here hx rfl (hb hby hd) rfl hs, r⟩
theorem ow_i2c (X : oSt Z ω γ κ T h cs ss) (pc' : Nat) {x : Int32} (hd : decode κ.1 pc = .ok (.i2c, 1)) (hp : pc + 1 = pc') 
    (K : oWP ω γ κ Q T pc' L (.int x.toUInt32.toUInt16.toUInt32.toInt32 :: S)) : oWP ω γ κ Q T pc L (.int x :: S) := by
  obtain ⟨hx, hby, -, -, -, -, -, -, -, -, -, locs, Y, -⟩ := X
  subst hp
  obtain ⟨s₂, o, hs, r⟩ := K
  exact ⟨s₂, o, XS.i2c Y.here hx rfl (hb hby hd) rfl hs, r⟩
theorem ow_i2s (X : oSt Z ω γ κ T h cs ss) (pc' : Nat) {x : Int32} (hd : decode κ.1 pc = .ok (.i2s, 1)) (hp : pc + 1 = pc') 
    (K : oWP ω γ κ Q T pc' L (.int x.toInt16.toInt32 :: S)) : oWP ω γ κ Q T pc L (.int x :: S) := by
  obtain ⟨hx, hby, -, -, -, -, -, -, -, -, -, locs, Y, -⟩ := X
  subst hp
  obtain ⟨s₂, o, hs, r⟩ := K
  exact ⟨s₂, o, XS.i2s Y.here hx rfl (hb hby hd) rfl hs, r⟩
theorem ow_dup (X : oSt Z ω γ κ T h cs ss) (pc' : Nat) {x : Value} (hd : decode κ.1 pc = .ok (.dup, 1)) (hp : pc + 1 = pc') (hc : x.category = 1)
    (K : oWP ω γ κ Q T pc' L (x :: x :: S)) : oWP ω γ κ Q T pc L (x :: S) := by
  obtain ⟨hx, hby, -, -, -, -, -, -, -, -, -, locs, Y, -⟩ := X
  subst hp
  obtain ⟨s₂, o, hs, r⟩ := K
  exact ⟨s₂, o, XS.dup Y.here hx rfl (hb hby hd) rfl hc hs, r⟩
theorem ow_pop (X : oSt Z ω γ κ T h cs ss) (pc' : Nat) {x : Value} (hd : decode κ.1 pc = .ok (.pop, 1)) (hp : pc + 1 = pc') (hc : x.category = 1)
    (K : oWP ω γ κ Q T pc' L (S)) : oWP ω γ κ Q T pc L (x :: S) := by
  obtain ⟨hx, hby, -, -, -, -, -, -, -, -, -, locs, Y, -⟩ := X
  subst hp
  obtain ⟨s₂, o, hs, r⟩ := K
  exact ⟨s₂, o, XS.pop Y.here hx rfl (hb hby hd) rfl hc hs, r⟩
theorem ow_dupX1 (X : oSt Z ω γ κ T h cs ss) (pc' : Nat) {x y : Value} (hd : decode κ.1 pc = .ok (.dup_x1, 1)) (hp : pc + 1 = pc') (hc : x.category = 1) (hc' : y.category = 1)
    (K : oWP ω γ κ Q T pc' L (x :: y :: x :: S)) : oWP ω γ κ Q T pc L (x :: y :: S) := by
  obtain ⟨hx, hby, -, -, -, -, -, -, -, -, -, locs, Y, -⟩ := X
  subst hp
  obtain ⟨s₂, o, hs, r⟩ := K
  exact ⟨s₂, o, XS.dupX1 Y.here hx rfl (hb hby hd) rfl hc hc' hs, r⟩
theorem ow_dup2 (X : oSt Z ω γ κ T h cs ss) (pc' : Nat) {x y : Value} (hd : decode κ.1 pc = .ok (.dup2, 1)) (hp : pc + 1 = pc') (hc : x.category = 1) (hc' : y.category = 1)
    (K : oWP ω γ κ Q T pc' L (x :: y :: x :: y :: S)) : oWP ω γ κ Q T pc L (x :: y :: S) := by
  obtain ⟨hx, hby, -, -, -, -, -, -, -, -, -, locs, Y, -⟩ := X
  subst hp
  obtain ⟨s₂, o, hs, r⟩ := K
  exact ⟨s₂, o, XT.dup2 Y.here hx rfl (hb hby hd) rfl hc hc' hs, r⟩
theorem oXpop2L {tb : Tables} [Ours tb] {e : Env} {below : List Frame} {T target : State} {m : MethodId} {c : Code} {g : JFrame} (h : At T m c below) (hx : tb.exec = Jvm.exec) (hg : g.method = m) {x : Int64} {rest : List Value} (hd : decode c.code g.pc = .ok (.pop2, 1)) (hs : g.stack = .long x :: rest)
    (hr : Steps tb e below (T.setTop { g with pc := g.pc + 1, stack := rest }) target) : Steps tb e below (T.setTop g) target := by
  subst hg
  jvm_step h [h.top, hx, hd, hs, Value.category]
  exact hr
theorem ow_pop2L (X : oSt Z ω γ κ T h cs ss) (pc' : Nat) {x : Int64} (hd : decode κ.1 pc = .ok (.pop2, 1)) (hp : pc + 1 = pc') 
    (K : oWP ω γ κ Q T pc' L (S)) : oWP ω γ κ Q T pc L (.long x :: S) := by
  obtain ⟨hx, hby, -, -, -, -, -, -, -, -, -, locs, Y, -⟩ := X
  subst hp
  obtain ⟨s₂, o, hs, r⟩ := K
  exact ⟨s₂, o, oXpop2L Y.here hx rfl (hb hby hd) rfl hs, r⟩
theorem ow_ldcI (X : oSt Z ω γ κ T h cs ss) (pc' i : Nat) {own : String} {idx : Nat} {v : Int32} (hw : tables_1[i]? = some (.constant own idx v)) (ho : κ.2.2.1 = own) (hd : decode κ.1 pc = .ok (.ldc idx, 2)) (hp : pc + 2 = pc')
    (K : oWP ω γ κ Q T pc' L (.int v :: S)) : oWP ω γ κ Q T pc L S := by
  have hw' := oSt_at X i hw
  obtain ⟨hx, hby, -, hown, -, -, -, hZ, -, -, -, locs, Y, -⟩ := X
  subst hp ho
  obtain ⟨s₂, o, hs, r⟩ := K
  exact ⟨s₂, o, Stand.ldcI Y hx hown (mv hZ hw') rfl (hb hby hd) hs, r⟩
theorem ow_ldcWI (X : oSt Z ω γ κ T h cs ss) (pc' i : Nat) {own : String} {idx : Nat} {v : Int32} (hw : tables_1[i]? = some (.constant own idx v)) (ho : κ.2.2.1 = own) (hd : decode κ.1 pc = .ok (.ldc_w idx, 3)) (hp : pc + 3 = pc')
    (K : oWP ω γ κ Q T pc' L (.int v :: S)) : oWP ω γ κ Q T pc L S := by
  have hw' := oSt_at X i hw
  obtain ⟨hx, hby, -, hown, -, -, -, hZ, -, -, -, locs, Y, -⟩ := X
  subst hp ho
  obtain ⟨s₂, o, hs, r⟩ := K
  exact ⟨s₂, o, Stand.ldcWI Y hx hown (mv hZ hw') rfl (hb hby hd) hs, r⟩
theorem ow_ldc2J (X : oSt Z ω γ κ T h cs ss) (pc' i : Nat) {own : String} {idx : Nat} {v : Int64} (hw : tables_1[i]? = some (.constantLong own idx v)) (ho : κ.2.2.1 = own) (hd : decode κ.1 pc = .ok (.ldc2_w idx, 3)) (hp : pc + 3 = pc')
    (K : oWP ω γ κ Q T pc' L (.long v :: S)) : oWP ω γ κ Q T pc L S := by
  have hw' := oSt_at X i hw
  obtain ⟨hx, hby, -, hown, -, -, -, hZ, -, -, -, locs, Y, -⟩ := X
  subst hp ho
  obtain ⟨s₂, o, hs, r⟩ := K
  exact ⟨s₂, o, Stand.ldc2J Y hx hown (mv hZ hw') rfl (hb hby hd) hs, r⟩
theorem ow_goto (X : oSt Z ω γ κ T h cs ss) (pc' : Nat) {o : Int} (hd : decode κ.1 pc = .ok (.goto o, 3)) (hp : (pc : Int) + o = (pc' : Int))
    (K : oWP ω γ κ Q T pc' L S) : oWP ω γ κ Q T pc L S := by
  obtain ⟨hx, hby, -, -, -, -, -, -, -, -, -, locs, Y, -⟩ := X
  obtain ⟨s₂, o, hs, r⟩ := K
  exact ⟨s₂, o, XS.goto Y.here hx rfl (pc0 := pc) rfl (hb hby hd) (by omega) (by omega) hs, r⟩
theorem ow_if (X : oSt Z ω γ κ T h cs ss) (pc' pq : Nat) {cd : ClassFile.Cond} {x : Int32} {o : Int} (hd : decode κ.1 pc = .ok (.ifCond cd o, 3)) (hp : pc + 3 = pc') (hq : (pc : Int) + o = (pq : Int))
    (Ky : ifCond.holds cd x = true → oWP ω γ κ Q T pq L S) (Kn : ifCond.holds cd x = false → oWP ω γ κ Q T pc' L S) : oWP ω γ κ Q T pc L (.int x :: S) := by
  obtain ⟨hx, hby, -, -, -, -, -, -, -, -, -, locs, Y, -⟩ := X
  subst hp
  cases hc : ifCond.holds cd x
  · obtain ⟨s₂, o, hs, r⟩ := Kn hc
    exact ⟨s₂, o, XS.ifNo Y.here hx rfl (hb hby hd) rfl hc hs, r⟩
  · obtain ⟨s₂, o, hs, r⟩ := Ky hc
    exact ⟨s₂, o, XS.ifYes Y.here hx rfl (pc0 := pc) rfl (hb hby hd) rfl hc (by omega) (by omega) hs, r⟩
theorem ow_icmp (X : oSt Z ω γ κ T h cs ss) (pc' pq : Nat) {cd : ClassFile.Cond} {x y : Int32} {o : Int} (hd : decode κ.1 pc = .ok (.if_icmp cd o, 3)) (hp : pc + 3 = pc') (hq : (pc : Int) + o = (pq : Int))
    (Ky : if_icmp.holds cd x y = true → oWP ω γ κ Q T pq L S) (Kn : if_icmp.holds cd x y = false → oWP ω γ κ Q T pc' L S) : oWP ω γ κ Q T pc L (.int y :: .int x :: S) := by
  obtain ⟨hx, hby, -, -, -, -, -, -, -, -, -, locs, Y, -⟩ := X
  subst hp
  cases hc : if_icmp.holds cd x y
  · obtain ⟨s₂, o, hs, r⟩ := Kn hc
    exact ⟨s₂, o, XS.icmpNo Y.here hx rfl (hb hby hd) rfl hc hs, r⟩
  · obtain ⟨s₂, o, hs, r⟩ := Ky hc
    exact ⟨s₂, o, XS.icmpYes Y.here hx rfl (pc0 := pc) rfl (hb hby hd) rfl hc (by omega) (by omega) hs, r⟩
theorem o0 : (0 : Int32).toInt = 0 := rfl
theorem ow_if_eq (X : oSt Z ω γ κ T h cs ss) (pc' pq : Nat) {x : Int32} {o : Int} (hd : decode κ.1 pc = .ok (.ifCond .eq o, 3)) (hp : pc + 3 = pc') (hq : (pc : Int) + o = (pq : Int))
    (Ky : x.toInt = 0 → oWP ω γ κ Q T pq L S) (Kn : x.toInt ≠ 0 → oWP ω γ κ Q T pc' L S) : oWP ω γ κ Q T pc L (.int x :: S) :=
  ow_if X pc' pq hd hp hq (fun q => Ky (by simp only [ifCond.holds, decide_eq_true_eq, decide_eq_false_iff_not, beq_iff_eq, bne_iff_ne, ne_eq, Int32.lt_iff_toInt_lt, Int32.le_iff_toInt_le, ← Int32.toInt_inj, o0, GT.gt, GE.ge, beq_eq_false_iff_ne, bne_eq_false_iff_eq, Decidable.not_not] at q; omega)) (fun q => Kn (by simp only [ifCond.holds, decide_eq_true_eq, decide_eq_false_iff_not, beq_iff_eq, bne_iff_ne, ne_eq, Int32.lt_iff_toInt_lt, Int32.le_iff_toInt_le, ← Int32.toInt_inj, o0, GT.gt, GE.ge, beq_eq_false_iff_ne, bne_eq_false_iff_eq, Decidable.not_not] at q; omega))
theorem ow_icmp_eq (X : oSt Z ω γ κ T h cs ss) (pc' pq : Nat) {x y : Int32} {o : Int} (hd : decode κ.1 pc = .ok (.if_icmp .eq o, 3)) (hp : pc + 3 = pc') (hq : (pc : Int) + o = (pq : Int))
    (Ky : x.toInt = y.toInt → oWP ω γ κ Q T pq L S) (Kn : x.toInt ≠ y.toInt → oWP ω γ κ Q T pc' L S) : oWP ω γ κ Q T pc L (.int y :: .int x :: S) :=
  ow_icmp X pc' pq hd hp hq (fun q => Ky (by simp only [if_icmp.holds, decide_eq_true_eq, decide_eq_false_iff_not, beq_iff_eq, bne_iff_ne, ne_eq, Int32.lt_iff_toInt_lt, Int32.le_iff_toInt_le, ← Int32.toInt_inj, o0, GT.gt, GE.ge, beq_eq_false_iff_ne, bne_eq_false_iff_eq, Decidable.not_not] at q; omega)) (fun q => Kn (by simp only [if_icmp.holds, decide_eq_true_eq, decide_eq_false_iff_not, beq_iff_eq, bne_iff_ne, ne_eq, Int32.lt_iff_toInt_lt, Int32.le_iff_toInt_le, ← Int32.toInt_inj, o0, GT.gt, GE.ge, beq_eq_false_iff_ne, bne_eq_false_iff_eq, Decidable.not_not] at q; omega))
theorem ow_if_ne (X : oSt Z ω γ κ T h cs ss) (pc' pq : Nat) {x : Int32} {o : Int} (hd : decode κ.1 pc = .ok (.ifCond .ne o, 3)) (hp : pc + 3 = pc') (hq : (pc : Int) + o = (pq : Int))
    (Ky : x.toInt ≠ 0 → oWP ω γ κ Q T pq L S) (Kn : x.toInt = 0 → oWP ω γ κ Q T pc' L S) : oWP ω γ κ Q T pc L (.int x :: S) :=
  ow_if X pc' pq hd hp hq (fun q => Ky (by simp only [ifCond.holds, decide_eq_true_eq, decide_eq_false_iff_not, beq_iff_eq, bne_iff_ne, ne_eq, Int32.lt_iff_toInt_lt, Int32.le_iff_toInt_le, ← Int32.toInt_inj, o0, GT.gt, GE.ge, beq_eq_false_iff_ne, bne_eq_false_iff_eq, Decidable.not_not] at q; omega)) (fun q => Kn (by simp only [ifCond.holds, decide_eq_true_eq, decide_eq_false_iff_not, beq_iff_eq, bne_iff_ne, ne_eq, Int32.lt_iff_toInt_lt, Int32.le_iff_toInt_le, ← Int32.toInt_inj, o0, GT.gt, GE.ge, beq_eq_false_iff_ne, bne_eq_false_iff_eq, Decidable.not_not] at q; omega))
theorem ow_icmp_ne (X : oSt Z ω γ κ T h cs ss) (pc' pq : Nat) {x y : Int32} {o : Int} (hd : decode κ.1 pc = .ok (.if_icmp .ne o, 3)) (hp : pc + 3 = pc') (hq : (pc : Int) + o = (pq : Int))
    (Ky : x.toInt ≠ y.toInt → oWP ω γ κ Q T pq L S) (Kn : x.toInt = y.toInt → oWP ω γ κ Q T pc' L S) : oWP ω γ κ Q T pc L (.int y :: .int x :: S) :=
  ow_icmp X pc' pq hd hp hq (fun q => Ky (by simp only [if_icmp.holds, decide_eq_true_eq, decide_eq_false_iff_not, beq_iff_eq, bne_iff_ne, ne_eq, Int32.lt_iff_toInt_lt, Int32.le_iff_toInt_le, ← Int32.toInt_inj, o0, GT.gt, GE.ge, beq_eq_false_iff_ne, bne_eq_false_iff_eq, Decidable.not_not] at q; omega)) (fun q => Kn (by simp only [if_icmp.holds, decide_eq_true_eq, decide_eq_false_iff_not, beq_iff_eq, bne_iff_ne, ne_eq, Int32.lt_iff_toInt_lt, Int32.le_iff_toInt_le, ← Int32.toInt_inj, o0, GT.gt, GE.ge, beq_eq_false_iff_ne, bne_eq_false_iff_eq, Decidable.not_not] at q; omega))
theorem ow_if_lt (X : oSt Z ω γ κ T h cs ss) (pc' pq : Nat) {x : Int32} {o : Int} (hd : decode κ.1 pc = .ok (.ifCond .lt o, 3)) (hp : pc + 3 = pc') (hq : (pc : Int) + o = (pq : Int))
    (Ky : x.toInt < 0 → oWP ω γ κ Q T pq L S) (Kn : 0 ≤ x.toInt → oWP ω γ κ Q T pc' L S) : oWP ω γ κ Q T pc L (.int x :: S) :=
  ow_if X pc' pq hd hp hq (fun q => Ky (by simp only [ifCond.holds, decide_eq_true_eq, decide_eq_false_iff_not, beq_iff_eq, bne_iff_ne, ne_eq, Int32.lt_iff_toInt_lt, Int32.le_iff_toInt_le, ← Int32.toInt_inj, o0, GT.gt, GE.ge, beq_eq_false_iff_ne, bne_eq_false_iff_eq, Decidable.not_not] at q; omega)) (fun q => Kn (by simp only [ifCond.holds, decide_eq_true_eq, decide_eq_false_iff_not, beq_iff_eq, bne_iff_ne, ne_eq, Int32.lt_iff_toInt_lt, Int32.le_iff_toInt_le, ← Int32.toInt_inj, o0, GT.gt, GE.ge, beq_eq_false_iff_ne, bne_eq_false_iff_eq, Decidable.not_not] at q; omega))
theorem ow_icmp_lt (X : oSt Z ω γ κ T h cs ss) (pc' pq : Nat) {x y : Int32} {o : Int} (hd : decode κ.1 pc = .ok (.if_icmp .lt o, 3)) (hp : pc + 3 = pc') (hq : (pc : Int) + o = (pq : Int))
    (Ky : x.toInt < y.toInt → oWP ω γ κ Q T pq L S) (Kn : y.toInt ≤ x.toInt → oWP ω γ κ Q T pc' L S) : oWP ω γ κ Q T pc L (.int y :: .int x :: S) :=
  ow_icmp X pc' pq hd hp hq (fun q => Ky (by simp only [if_icmp.holds, decide_eq_true_eq, decide_eq_false_iff_not, beq_iff_eq, bne_iff_ne, ne_eq, Int32.lt_iff_toInt_lt, Int32.le_iff_toInt_le, ← Int32.toInt_inj, o0, GT.gt, GE.ge, beq_eq_false_iff_ne, bne_eq_false_iff_eq, Decidable.not_not] at q; omega)) (fun q => Kn (by simp only [if_icmp.holds, decide_eq_true_eq, decide_eq_false_iff_not, beq_iff_eq, bne_iff_ne, ne_eq, Int32.lt_iff_toInt_lt, Int32.le_iff_toInt_le, ← Int32.toInt_inj, o0, GT.gt, GE.ge, beq_eq_false_iff_ne, bne_eq_false_iff_eq, Decidable.not_not] at q; omega))
theorem ow_if_ge (X : oSt Z ω γ κ T h cs ss) (pc' pq : Nat) {x : Int32} {o : Int} (hd : decode κ.1 pc = .ok (.ifCond .ge o, 3)) (hp : pc + 3 = pc') (hq : (pc : Int) + o = (pq : Int))
    (Ky : 0 ≤ x.toInt → oWP ω γ κ Q T pq L S) (Kn : x.toInt < 0 → oWP ω γ κ Q T pc' L S) : oWP ω γ κ Q T pc L (.int x :: S) :=
  ow_if X pc' pq hd hp hq (fun q => Ky (by simp only [ifCond.holds, decide_eq_true_eq, decide_eq_false_iff_not, beq_iff_eq, bne_iff_ne, ne_eq, Int32.lt_iff_toInt_lt, Int32.le_iff_toInt_le, ← Int32.toInt_inj, o0, GT.gt, GE.ge, beq_eq_false_iff_ne, bne_eq_false_iff_eq, Decidable.not_not] at q; omega)) (fun q => Kn (by simp only [ifCond.holds, decide_eq_true_eq, decide_eq_false_iff_not, beq_iff_eq, bne_iff_ne, ne_eq, Int32.lt_iff_toInt_lt, Int32.le_iff_toInt_le, ← Int32.toInt_inj, o0, GT.gt, GE.ge, beq_eq_false_iff_ne, bne_eq_false_iff_eq, Decidable.not_not] at q; omega))
theorem ow_icmp_ge (X : oSt Z ω γ κ T h cs ss) (pc' pq : Nat) {x y : Int32} {o : Int} (hd : decode κ.1 pc = .ok (.if_icmp .ge o, 3)) (hp : pc + 3 = pc') (hq : (pc : Int) + o = (pq : Int))
    (Ky : y.toInt ≤ x.toInt → oWP ω γ κ Q T pq L S) (Kn : x.toInt < y.toInt → oWP ω γ κ Q T pc' L S) : oWP ω γ κ Q T pc L (.int y :: .int x :: S) :=
  ow_icmp X pc' pq hd hp hq (fun q => Ky (by simp only [if_icmp.holds, decide_eq_true_eq, decide_eq_false_iff_not, beq_iff_eq, bne_iff_ne, ne_eq, Int32.lt_iff_toInt_lt, Int32.le_iff_toInt_le, ← Int32.toInt_inj, o0, GT.gt, GE.ge, beq_eq_false_iff_ne, bne_eq_false_iff_eq, Decidable.not_not] at q; omega)) (fun q => Kn (by simp only [if_icmp.holds, decide_eq_true_eq, decide_eq_false_iff_not, beq_iff_eq, bne_iff_ne, ne_eq, Int32.lt_iff_toInt_lt, Int32.le_iff_toInt_le, ← Int32.toInt_inj, o0, GT.gt, GE.ge, beq_eq_false_iff_ne, bne_eq_false_iff_eq, Decidable.not_not] at q; omega))
theorem ow_if_gt (X : oSt Z ω γ κ T h cs ss) (pc' pq : Nat) {x : Int32} {o : Int} (hd : decode κ.1 pc = .ok (.ifCond .gt o, 3)) (hp : pc + 3 = pc') (hq : (pc : Int) + o = (pq : Int))
    (Ky : 0 < x.toInt → oWP ω γ κ Q T pq L S) (Kn : x.toInt ≤ 0 → oWP ω γ κ Q T pc' L S) : oWP ω γ κ Q T pc L (.int x :: S) :=
  ow_if X pc' pq hd hp hq (fun q => Ky (by simp only [ifCond.holds, decide_eq_true_eq, decide_eq_false_iff_not, beq_iff_eq, bne_iff_ne, ne_eq, Int32.lt_iff_toInt_lt, Int32.le_iff_toInt_le, ← Int32.toInt_inj, o0, GT.gt, GE.ge, beq_eq_false_iff_ne, bne_eq_false_iff_eq, Decidable.not_not] at q; omega)) (fun q => Kn (by simp only [ifCond.holds, decide_eq_true_eq, decide_eq_false_iff_not, beq_iff_eq, bne_iff_ne, ne_eq, Int32.lt_iff_toInt_lt, Int32.le_iff_toInt_le, ← Int32.toInt_inj, o0, GT.gt, GE.ge, beq_eq_false_iff_ne, bne_eq_false_iff_eq, Decidable.not_not] at q; omega))
theorem ow_icmp_gt (X : oSt Z ω γ κ T h cs ss) (pc' pq : Nat) {x y : Int32} {o : Int} (hd : decode κ.1 pc = .ok (.if_icmp .gt o, 3)) (hp : pc + 3 = pc') (hq : (pc : Int) + o = (pq : Int))
    (Ky : y.toInt < x.toInt → oWP ω γ κ Q T pq L S) (Kn : x.toInt ≤ y.toInt → oWP ω γ κ Q T pc' L S) : oWP ω γ κ Q T pc L (.int y :: .int x :: S) :=
  ow_icmp X pc' pq hd hp hq (fun q => Ky (by simp only [if_icmp.holds, decide_eq_true_eq, decide_eq_false_iff_not, beq_iff_eq, bne_iff_ne, ne_eq, Int32.lt_iff_toInt_lt, Int32.le_iff_toInt_le, ← Int32.toInt_inj, o0, GT.gt, GE.ge, beq_eq_false_iff_ne, bne_eq_false_iff_eq, Decidable.not_not] at q; omega)) (fun q => Kn (by simp only [if_icmp.holds, decide_eq_true_eq, decide_eq_false_iff_not, beq_iff_eq, bne_iff_ne, ne_eq, Int32.lt_iff_toInt_lt, Int32.le_iff_toInt_le, ← Int32.toInt_inj, o0, GT.gt, GE.ge, beq_eq_false_iff_ne, bne_eq_false_iff_eq, Decidable.not_not] at q; omega))
theorem ow_if_le (X : oSt Z ω γ κ T h cs ss) (pc' pq : Nat) {x : Int32} {o : Int} (hd : decode κ.1 pc = .ok (.ifCond .le o, 3)) (hp : pc + 3 = pc') (hq : (pc : Int) + o = (pq : Int))
    (Ky : x.toInt ≤ 0 → oWP ω γ κ Q T pq L S) (Kn : 0 < x.toInt → oWP ω γ κ Q T pc' L S) : oWP ω γ κ Q T pc L (.int x :: S) :=
  ow_if X pc' pq hd hp hq (fun q => Ky (by simp only [ifCond.holds, decide_eq_true_eq, decide_eq_false_iff_not, beq_iff_eq, bne_iff_ne, ne_eq, Int32.lt_iff_toInt_lt, Int32.le_iff_toInt_le, ← Int32.toInt_inj, o0, GT.gt, GE.ge, beq_eq_false_iff_ne, bne_eq_false_iff_eq, Decidable.not_not] at q; omega)) (fun q => Kn (by simp only [ifCond.holds, decide_eq_true_eq, decide_eq_false_iff_not, beq_iff_eq, bne_iff_ne, ne_eq, Int32.lt_iff_toInt_lt, Int32.le_iff_toInt_le, ← Int32.toInt_inj, o0, GT.gt, GE.ge, beq_eq_false_iff_ne, bne_eq_false_iff_eq, Decidable.not_not] at q; omega))
theorem ow_icmp_le (X : oSt Z ω γ κ T h cs ss) (pc' pq : Nat) {x y : Int32} {o : Int} (hd : decode κ.1 pc = .ok (.if_icmp .le o, 3)) (hp : pc + 3 = pc') (hq : (pc : Int) + o = (pq : Int))
    (Ky : x.toInt ≤ y.toInt → oWP ω γ κ Q T pq L S) (Kn : y.toInt < x.toInt → oWP ω γ κ Q T pc' L S) : oWP ω γ κ Q T pc L (.int y :: .int x :: S) :=
  ow_icmp X pc' pq hd hp hq (fun q => Ky (by simp only [if_icmp.holds, decide_eq_true_eq, decide_eq_false_iff_not, beq_iff_eq, bne_iff_ne, ne_eq, Int32.lt_iff_toInt_lt, Int32.le_iff_toInt_le, ← Int32.toInt_inj, o0, GT.gt, GE.ge, beq_eq_false_iff_ne, bne_eq_false_iff_eq, Decidable.not_not] at q; omega)) (fun q => Kn (by simp only [if_icmp.holds, decide_eq_true_eq, decide_eq_false_iff_not, beq_iff_eq, bne_iff_ne, ne_eq, Int32.lt_iff_toInt_lt, Int32.le_iff_toInt_le, ← Int32.toInt_inj, o0, GT.gt, GE.ge, beq_eq_false_iff_ne, bne_eq_false_iff_eq, Decidable.not_not] at q; omega))
theorem ow_lcmp (X : oSt Z ω γ κ T h cs ss) (pc' : Nat) {x y : Int64} (hd : decode κ.1 pc = .ok (.lcmp, 1)) (hp : pc + 1 = pc')
    (K : oWP ω γ κ Q T pc' L (.int (lcmpW x y) :: S)) : oWP ω γ κ Q T pc L (.long y :: .long x :: S) := by
  obtain ⟨hx, hby, -, -, -, -, -, -, -, -, -, locs, Y, -⟩ := X
  subst hp
  obtain ⟨s₂, o, hs, r⟩ := K
  exact ⟨s₂, o, XS.lcmp Y.here hx rfl (hb hby hd) rfl hs, r⟩
theorem ow_lcmp_eq (X : oSt Z ω γ κ T h cs ss) (pc1 pc' pq : Nat) {x y : Int64} {o : Int} (hd : decode κ.1 pc = .ok (.lcmp, 1)) (hp1 : pc + 1 = pc1) (hd' : decode κ.1 pc1 = .ok (.ifCond .eq o, 3)) (hp : pc1 + 3 = pc') (hq : (pc1 : Int) + o = (pq : Int))
    (Ky : x.toInt = y.toInt → oWP ω γ κ Q T pq L S) (Kn : x.toInt ≠ y.toInt → oWP ω γ κ Q T pc' L S) : oWP ω γ κ Q T pc L (.long y :: .long x :: S) := by
  refine ow_lcmp X pc1 hd hp1 (ow_if_eq X pc' pq hd' hp hq (fun q => Ky ?_) (fun q => Kn ?_))
  · obtain ⟨c1, c2, c3⟩ := c_lcmp x y
    rcases Int.lt_trichotomy x.toInt y.toInt with a | a | a
    · have := c1 a; omega
    · have := c2 a; omega
    · have := c3 a; omega
  · obtain ⟨c1, c2, c3⟩ := c_lcmp x y
    rcases Int.lt_trichotomy x.toInt y.toInt with a | a | a
    · have := c1 a; omega
    · have := c2 a; omega
    · have := c3 a; omega
theorem ow_lcmp_ne (X : oSt Z ω γ κ T h cs ss) (pc1 pc' pq : Nat) {x y : Int64} {o : Int} (hd : decode κ.1 pc = .ok (.lcmp, 1)) (hp1 : pc + 1 = pc1) (hd' : decode κ.1 pc1 = .ok (.ifCond .ne o, 3)) (hp : pc1 + 3 = pc') (hq : (pc1 : Int) + o = (pq : Int))
    (Ky : x.toInt ≠ y.toInt → oWP ω γ κ Q T pq L S) (Kn : x.toInt = y.toInt → oWP ω γ κ Q T pc' L S) : oWP ω γ κ Q T pc L (.long y :: .long x :: S) := by
  refine ow_lcmp X pc1 hd hp1 (ow_if_ne X pc' pq hd' hp hq (fun q => Ky ?_) (fun q => Kn ?_))
  · obtain ⟨c1, c2, c3⟩ := c_lcmp x y
    rcases Int.lt_trichotomy x.toInt y.toInt with a | a | a
    · have := c1 a; omega
    · have := c2 a; omega
    · have := c3 a; omega
  · obtain ⟨c1, c2, c3⟩ := c_lcmp x y
    rcases Int.lt_trichotomy x.toInt y.toInt with a | a | a
    · have := c1 a; omega
    · have := c2 a; omega
    · have := c3 a; omega
theorem ow_lcmp_lt (X : oSt Z ω γ κ T h cs ss) (pc1 pc' pq : Nat) {x y : Int64} {o : Int} (hd : decode κ.1 pc = .ok (.lcmp, 1)) (hp1 : pc + 1 = pc1) (hd' : decode κ.1 pc1 = .ok (.ifCond .lt o, 3)) (hp : pc1 + 3 = pc') (hq : (pc1 : Int) + o = (pq : Int))
    (Ky : x.toInt < y.toInt → oWP ω γ κ Q T pq L S) (Kn : y.toInt ≤ x.toInt → oWP ω γ κ Q T pc' L S) : oWP ω γ κ Q T pc L (.long y :: .long x :: S) := by
  refine ow_lcmp X pc1 hd hp1 (ow_if_lt X pc' pq hd' hp hq (fun q => Ky ?_) (fun q => Kn ?_))
  · obtain ⟨c1, c2, c3⟩ := c_lcmp x y
    rcases Int.lt_trichotomy x.toInt y.toInt with a | a | a
    · have := c1 a; omega
    · have := c2 a; omega
    · have := c3 a; omega
  · obtain ⟨c1, c2, c3⟩ := c_lcmp x y
    rcases Int.lt_trichotomy x.toInt y.toInt with a | a | a
    · have := c1 a; omega
    · have := c2 a; omega
    · have := c3 a; omega
theorem ow_lcmp_ge (X : oSt Z ω γ κ T h cs ss) (pc1 pc' pq : Nat) {x y : Int64} {o : Int} (hd : decode κ.1 pc = .ok (.lcmp, 1)) (hp1 : pc + 1 = pc1) (hd' : decode κ.1 pc1 = .ok (.ifCond .ge o, 3)) (hp : pc1 + 3 = pc') (hq : (pc1 : Int) + o = (pq : Int))
    (Ky : y.toInt ≤ x.toInt → oWP ω γ κ Q T pq L S) (Kn : x.toInt < y.toInt → oWP ω γ κ Q T pc' L S) : oWP ω γ κ Q T pc L (.long y :: .long x :: S) := by
  refine ow_lcmp X pc1 hd hp1 (ow_if_ge X pc' pq hd' hp hq (fun q => Ky ?_) (fun q => Kn ?_))
  · obtain ⟨c1, c2, c3⟩ := c_lcmp x y
    rcases Int.lt_trichotomy x.toInt y.toInt with a | a | a
    · have := c1 a; omega
    · have := c2 a; omega
    · have := c3 a; omega
  · obtain ⟨c1, c2, c3⟩ := c_lcmp x y
    rcases Int.lt_trichotomy x.toInt y.toInt with a | a | a
    · have := c1 a; omega
    · have := c2 a; omega
    · have := c3 a; omega
theorem ow_lcmp_gt (X : oSt Z ω γ κ T h cs ss) (pc1 pc' pq : Nat) {x y : Int64} {o : Int} (hd : decode κ.1 pc = .ok (.lcmp, 1)) (hp1 : pc + 1 = pc1) (hd' : decode κ.1 pc1 = .ok (.ifCond .gt o, 3)) (hp : pc1 + 3 = pc') (hq : (pc1 : Int) + o = (pq : Int))
    (Ky : y.toInt < x.toInt → oWP ω γ κ Q T pq L S) (Kn : x.toInt ≤ y.toInt → oWP ω γ κ Q T pc' L S) : oWP ω γ κ Q T pc L (.long y :: .long x :: S) := by
  refine ow_lcmp X pc1 hd hp1 (ow_if_gt X pc' pq hd' hp hq (fun q => Ky ?_) (fun q => Kn ?_))
  · obtain ⟨c1, c2, c3⟩ := c_lcmp x y
    rcases Int.lt_trichotomy x.toInt y.toInt with a | a | a
    · have := c1 a; omega
    · have := c2 a; omega
    · have := c3 a; omega
  · obtain ⟨c1, c2, c3⟩ := c_lcmp x y
    rcases Int.lt_trichotomy x.toInt y.toInt with a | a | a
    · have := c1 a; omega
    · have := c2 a; omega
    · have := c3 a; omega
theorem ow_lcmp_le (X : oSt Z ω γ κ T h cs ss) (pc1 pc' pq : Nat) {x y : Int64} {o : Int} (hd : decode κ.1 pc = .ok (.lcmp, 1)) (hp1 : pc + 1 = pc1) (hd' : decode κ.1 pc1 = .ok (.ifCond .le o, 3)) (hp : pc1 + 3 = pc') (hq : (pc1 : Int) + o = (pq : Int))
    (Ky : x.toInt ≤ y.toInt → oWP ω γ κ Q T pq L S) (Kn : y.toInt < x.toInt → oWP ω γ κ Q T pc' L S) : oWP ω γ κ Q T pc L (.long y :: .long x :: S) := by
  refine ow_lcmp X pc1 hd hp1 (ow_if_le X pc' pq hd' hp hq (fun q => Ky ?_) (fun q => Kn ?_))
  · obtain ⟨c1, c2, c3⟩ := c_lcmp x y
    rcases Int.lt_trichotomy x.toInt y.toInt with a | a | a
    · have := c1 a; omega
    · have := c2 a; omega
    · have := c3 a; omega
  · obtain ⟨c1, c2, c3⟩ := c_lcmp x y
    rcases Int.lt_trichotomy x.toInt y.toInt with a | a | a
    · have := c1 a; omega
    · have := c2 a; omega
    · have := c3 a; omega
theorem ow_ifnull (X : oSt Z ω γ κ T h cs ss) (pc' pq : Nat) {v : Value} {o : Int} (hv : v.isRef = true) (hd : decode κ.1 pc = .ok (.ifnull o, 3)) (hp : pc + 3 = pc') (hq : (pc : Int) + o = (pq : Int))
    (Ky : v = .null → oWP ω γ κ Q T pq L S) (Kn : v ≠ .null → oWP ω γ κ Q T pc' L S) : oWP ω γ κ Q T pc L (v :: S) := by
  obtain ⟨hx, hby, -, -, -, -, -, -, -, -, -, locs, Y, -⟩ := X
  subst hp
  rcases ref_cases hv with rfl | ⟨a, rfl⟩
  · obtain ⟨s₂, o, hs, r⟩ := Ky rfl
    exact ⟨s₂, o, XS.ifnullYes Y.here hx rfl (pc0 := pc) rfl (hb hby hd) rfl (by omega) (by omega) hs, r⟩
  · obtain ⟨s₂, o, hs, r⟩ := Kn (by simp)
    exact ⟨s₂, o, XS.ifnullNo Y.here hx rfl (hb hby hd) rfl hs, r⟩
theorem ow_ifnonnull (X : oSt Z ω γ κ T h cs ss) (pc' pq : Nat) {v : Value} {o : Int} (hv : v.isRef = true) (hd : decode κ.1 pc = .ok (.ifnonnull o, 3)) (hp : pc + 3 = pc') (hq : (pc : Int) + o = (pq : Int))
    (Ky : v ≠ .null → oWP ω γ κ Q T pq L S) (Kn : v = .null → oWP ω γ κ Q T pc' L S) : oWP ω γ κ Q T pc L (v :: S) := by
  obtain ⟨hx, hby, -, -, -, -, -, -, -, -, -, locs, Y, -⟩ := X
  subst hp
  rcases ref_cases hv with rfl | ⟨a, rfl⟩
  · obtain ⟨s₂, o, hs, r⟩ := Kn rfl
    exact ⟨s₂, o, XS.ifnonnullNo Y.here hx rfl (hb hby hd) rfl hs, r⟩
  · obtain ⟨s₂, o, hs, r⟩ := Ky (by simp)
    exact ⟨s₂, o, XS.ifnonnullYes Y.here hx rfl (pc0 := pc) rfl (hb hby hd) rfl (by omega) (by omega) hs, r⟩
theorem ow_acmp_eq (X : oSt Z ω γ κ T h cs ss) (pc' pq : Nat) {v w : Value} {o : Int} (hv : v.isRef = true) (hw : w.isRef = true) (hd : decode κ.1 pc = .ok (.if_acmp .eq o, 3)) (hp : pc + 3 = pc') (hq : (pc : Int) + o = (pq : Int))
    (Ky : v = w → oWP ω γ κ Q T pq L S) (Kn : v ≠ w → oWP ω γ κ Q T pc' L S) : oWP ω γ κ Q T pc L (w :: v :: S) := by
  obtain ⟨hx, hby, -, -, -, -, -, -, -, -, -, locs, Y, -⟩ := X
  subst hp
  by_cases e : v = w
  · obtain ⟨s₂, o, hs, r⟩ := Ky e
    exact ⟨s₂, o, RoadKit.acmp Y hx rfl hv hw (pc0 := pc) rfl (hb hby hd) rfl (same := true) (by simp [e]) (by omega) (by simp [acV]; omega) hs, r⟩
  · obtain ⟨s₂, o, hs, r⟩ := Kn e
    exact ⟨s₂, o, RoadKit.acmp Y hx rfl hv hw (pc0 := pc) rfl (hb hby hd) rfl (same := false) (by simp [e]) (by omega) (by simp [acV]) hs, r⟩
theorem ow_acmp_ne (X : oSt Z ω γ κ T h cs ss) (pc' pq : Nat) {v w : Value} {o : Int} (hv : v.isRef = true) (hw : w.isRef = true) (hd : decode κ.1 pc = .ok (.if_acmp .ne o, 3)) (hp : pc + 3 = pc') (hq : (pc : Int) + o = (pq : Int))
    (Ky : v ≠ w → oWP ω γ κ Q T pq L S) (Kn : v = w → oWP ω γ κ Q T pc' L S) : oWP ω γ κ Q T pc L (w :: v :: S) := by
  obtain ⟨hx, hby, -, -, -, -, -, -, -, -, -, locs, Y, -⟩ := X
  subst hp
  by_cases e : v = w
  · obtain ⟨s₂, o, hs, r⟩ := Kn e
    exact ⟨s₂, o, RoadKit.acmp Y hx rfl hv hw (pc0 := pc) rfl (hb hby hd) rfl (same := true) (by simp [e]) (by omega) (by simp [acV]) hs, r⟩
  · obtain ⟨s₂, o, hs, r⟩ := Ky e
    exact ⟨s₂, o, RoadKit.acmp Y hx rfl hv hw (pc0 := pc) rfl (hb hby hd) rfl (same := false) (by simp [e]) (by omega) (by simp [acV]; omega) hs, r⟩
theorem ow_ret (X : oSt Z ω γ κ T h cs ss) {w : Value} {t : FieldType} {i : Instr} (hret : κ.2.2.2.2.1 = some t) (hn : narrow t w = w)
    (hi : (i = .ireturn ∧ (t = .int ∨ t = .boolean ∨ t = .byte ∨ t = .char ∨ t = .short) ∧ ∃ z, w = .int z) ∨ (i = .lreturn ∧ t = .long ∧ ∃ z, w = .long z) ∨ (i = .dreturn ∧ t = .double ∧ ∃ z, w = .double z) ∨ (i = .freturn ∧ t = .float ∧ ∃ z, w = .float z) ∨ (i = .areturn ∧ t.isReference = true ∧ w.isRef = true))
    (hd : decode κ.1 pc = .ok (i, 1)) (hc : cs ≤ κ.2.2.2.2.2.cells) (hsl : ss ≤ κ.2.2.2.2.2.slots) (hQ : Q (some w) h) : oWP ω γ κ Q T pc L (w :: S) := by
  obtain ⟨hx, hby, -, -, -, hr, hlk, -, -, -, hT, locs, Y, N⟩ := X
  obtain ⟨fs, hl, hrun, hended, hW, hsame⟩ := Y.leave (v := some w) (fun q => by rw [hr, hret] at q; cases q) hlk
  refine ⟨_, _, retOut Y hx (hr.trans hret) hn hi (hb hby hd) hl, hrun, hended, _, locs, rfl, ⟨N, ?_⟩, ⟨_, rfl⟩, hW, hsame.mono hc hsl⟩
  show Q (some w) T.heap
  rw [hT]; exact hQ
theorem ow_retI (X : oSt Z ω γ κ T h cs ss) {z : Int32} (hret : κ.2.2.2.2.1 = some .int) (hd : decode κ.1 pc = .ok (.ireturn, 1)) (hc : cs ≤ κ.2.2.2.2.2.cells) (hsl : ss ≤ κ.2.2.2.2.2.slots) (hQ : Q (some (.int z)) h) : oWP ω γ κ Q T pc L (.int z :: S) :=
  ow_ret X hret rfl (Or.inl ⟨rfl, Or.inl rfl, z, rfl⟩) hd hc hsl hQ
theorem ow_retZ (X : oSt Z ω γ κ T h cs ss) {z : Int32} (hret : κ.2.2.2.2.1 = some .boolean) (hd : decode κ.1 pc = .ok (.ireturn, 1)) (hc : cs ≤ κ.2.2.2.2.2.cells) (hsl : ss ≤ κ.2.2.2.2.2.slots) (hz : z = 0 ∨ z = 1) (hQ : Q (some (.int z)) h) : oWP ω γ κ Q T pc L (.int z :: S) :=
  ow_ret X hret (by rcases hz with rfl | rfl <;> rfl) (Or.inl ⟨rfl, Or.inr (Or.inl rfl), z, rfl⟩) hd hc hsl hQ
theorem ow_retC (X : oSt Z ω γ κ T h cs ss) {z : Int32} (hret : κ.2.2.2.2.1 = some .char) (hd : decode κ.1 pc = .ok (.ireturn, 1)) (hc : cs ≤ κ.2.2.2.2.2.cells) (hsl : ss ≤ κ.2.2.2.2.2.slots) (hz : z.toUInt32.toUInt16.toUInt32.toInt32 = z) (hQ : Q (some (.int z)) h) : oWP ω γ κ Q T pc L (.int z :: S) :=
  ow_ret X hret (by show Value.int z.toUInt32.toUInt16.toUInt32.toInt32 = _; rw [hz]) (Or.inl ⟨rfl, Or.inr (Or.inr (Or.inr (Or.inl rfl))), z, rfl⟩) hd hc hsl hQ
theorem ow_retJ (X : oSt Z ω γ κ T h cs ss) {z : Int64} (hret : κ.2.2.2.2.1 = some .long) (hd : decode κ.1 pc = .ok (.lreturn, 1)) (hc : cs ≤ κ.2.2.2.2.2.cells) (hsl : ss ≤ κ.2.2.2.2.2.slots) (hQ : Q (some (.long z)) h) : oWP ω γ κ Q T pc L (.long z :: S) :=
  ow_ret X hret rfl (Or.inr (Or.inl ⟨rfl, rfl, z, rfl⟩)) hd hc hsl hQ
theorem ow_retA (X : oSt Z ω γ κ T h cs ss) {v : Value} {t : FieldType} (hret : κ.2.2.2.2.1 = some t) (ht : t.isReference = true) (hv : v.isRef = true) (hd : decode κ.1 pc = .ok (.areturn, 1)) (hc : cs ≤ κ.2.2.2.2.2.cells) (hsl : ss ≤ κ.2.2.2.2.2.slots) (hQ : Q (some v) h) : oWP ω γ κ Q T pc L (v :: S) :=
  ow_ret X hret (by cases t <;> first | rfl | cases ht) (Or.inr (Or.inr (Or.inr (Or.inr ⟨rfl, ht, hv⟩)))) hd hc hsl hQ
theorem ow_retV (X : oSt Z ω γ κ T h cs ss) (hret : κ.2.2.2.2.1 = none) (hd : decode κ.1 pc = .ok (.return_, 1)) (hc : cs ≤ κ.2.2.2.2.2.cells) (hsl : ss ≤ κ.2.2.2.2.2.slots) (hQ : Q none h) : oWP ω γ κ Q T pc L [] := by
  obtain ⟨hx, hby, -, -, -, hr, hlk, -, -, -, hT, locs, Y, N⟩ := X
  obtain ⟨fs, hl, hrun, hended, hW, hsame⟩ := Y.leave (v := none) (fun _ => rfl) hlk
  refine ⟨_, _, Y.returnOut hx (hr.trans hret) (hb hby hd) hl, hrun, hended, _, locs, rfl, ⟨N, ?_⟩, ⟨_, rfl⟩, hW, hsame.mono hc hsl⟩
  show Q none T.heap
  rw [hT]; exact hQ
theorem ow_getF (X : oSt Z ω γ κ T h cs ss) (pc' i : Nat) {own O n d : String} {idx : Nat} {a : Addr} {v : Value} (hw : tables_1[i]? = some (.fieldLink own idx O n d)) (ho : κ.2.2.1 = own) (F : Fld Z h a O n d v) (hd : decode κ.1 pc = .ok (.getfield idx, 3)) (hp : pc + 3 = pc')
    (K : ∀ T', oSt Z ω γ κ T' h cs ss → oWP ω γ κ Q T' pc' L (v :: S)) : oWP ω γ κ Q T pc L (.ref a :: S) := by
  have hw' := oSt_at X i hw
  obtain ⟨hx, hby, hml, hown, hnm, hr, hlk, hZ, hT1, hn0, hT, locs, Y, N⟩ := X
  subst hp ho
  obtain ⟨T', Y', e', st⟩ := getF Y hx hZ hown (host := "") (Or.inl hw') Via.refl hT F (g := mkF γ.2.2.2.1 pc L (.ref a :: S)) rfl rfl (hb hby hd)
  obtain ⟨s₂, o, hs, r⟩ := K T' ⟨hx, hby, hml, hown, hnm, hr, hlk, hZ, hT1, hn0, e', locs, Y', N⟩
  exact ⟨s₂, o, st _ hs, r⟩
theorem ow_getS (X : oSt Z ω γ κ T h cs ss) (pc' i : Nat) {own O n d : String} {idx : Nat} {v : Value} (hw : tables_1[i]? = some (.fieldLink own idx O n d)) (ho : κ.2.2.1 = own) (F : Sta Z h O n d v) (hd : decode κ.1 pc = .ok (.getstatic idx, 3)) (hp : pc + 3 = pc')
    (K : ∀ T', oSt Z ω γ κ T' h cs ss → oWP ω γ κ Q T' pc' L (v :: S)) : oWP ω γ κ Q T pc L S := by
  have hw' := oSt_at X i hw
  obtain ⟨hx, hby, hml, hown, hnm, hr, hlk, hZ, hT1, hn0, hT, locs, Y, N⟩ := X
  subst hp ho
  obtain ⟨T', Y', e', st⟩ := getS Y hx hZ hown hw' Via.refl hT F (g := mkF γ.2.2.2.1 pc L S) rfl (hb hby hd) (host := "")
  obtain ⟨s₂, o, hs, r⟩ := K T' ⟨hx, hby, hml, hown, hnm, hr, hlk, hZ, hT1, hn0, e', locs, Y', N⟩
  exact ⟨s₂, o, st _ hs, r⟩
theorem ow_putF (X : oSt Z ω γ κ T h cs ss) (pc' i k : Nat) {own O n d C : String} {idx kk : Nat} {a : Addr} {v old : Value} {ty : FieldType} (hw : tables_1[i]? = some (.fieldLink own idx O n d)) (ho : κ.2.2.1 = own) (F : Fld Z h a O n d old) (E : Exa Z h a C)
    (hl : (Jvm.Cond.lays C O n d).before ω.2.2 Z = true ∨ ((Jvm.Cond.laysFinal C O n d).before ω.2.2 Z = true ∧ κ.2.2.1 = O ∧ κ.2.2.2.1 = "<init>")) (hi : tables_1[k]? = some (.instantiable C kk)) (hty : parseFieldDescriptor d = some ty) (hn : narrow ty v = v) (hf : fits ty v = true) (ha : ω.2.1 ≤ a)
    (hd : decode κ.1 pc = .ok (.putfield idx, 3)) (hp : pc + 3 = pc')
    (K : ∀ T' h', oSt Z ω γ κ T' h' cs ss → Wr h h' a (RoadKit.slotOf Z O n d) v → oWP ω γ κ Q T' pc' L S) : oWP ω γ κ Q T pc L (v :: .ref a :: S) := by
  have hw' := oSt_at X i hw
  have hi' := oSt_at X k hi
  obtain ⟨hx, hby, hml, hown, hnm, hr, hlk, hZ, hT1, hn0, hT, locs, Y, N⟩ := X
  subst hp ho
  obtain ⟨T', h', Y', e', W, st⟩ := putF Y hx hZ hown (host := "") (Or.inl hw') Via.refl hT F E (hl.imp id fun q => ⟨q.1, q.2.1, hnm.trans q.2.2⟩) hi' hty hn hf (g := mkF γ.2.2.2.1 pc L (v :: .ref a :: S)) rfl rfl (hb hby hd)
  obtain ⟨s₂, o, hs, r⟩ := K T' h' ⟨hx, hby, hml, hown, hnm, hr, hlk, hZ, hT1, hn0, e', _, Y', Fr.snoc Y' N ha⟩ W
  exact ⟨s₂, o, st _ hs, r⟩
theorem ow_new (X : oSt Z ω γ κ T h cs ss) (pc' i1 i2 i3 : Nat) {own C : String} {idx n : Nat} (w1 : tables_1[i1]? = some (.classLink own idx C)) (ho : κ.2.2.1 = own) (w2 : tables_1[i2]? = some (.instantiable C n)) (w3 : tables_1[i3]? = some (.initialized C))
    (hd : decode κ.1 pc = .ok (.new idx, 3)) (hp : pc + 3 = pc') (hc : cs + 1 ≤ κ.2.2.2.2.2.cells) (hsl : ss + n ≤ κ.2.2.2.2.2.slots)
    (K : ∀ T' h' a, a = h.size → oSt Z ω γ κ T' h' (cs + 1) (ss + n) → Ext h h' → Exa Z h' a C → (∀ {O nm d : String} {ty : FieldType}, Laid Z ω.2.2 C O nm d → parseFieldDescriptor d = some ty → Fld Z h' a O nm d (defaultValue ty)) → ω.2.1 ≤ a → oWP ω γ κ Q T' pc' L (.ref a :: S)) : oWP ω γ κ Q T pc L S := by
  have w1' := oSt_at X i1 w1
  have w2' := oSt_at X i2 w2
  have w3' := oSt_at X i3 w3
  have hN := oSt_n0 X
  obtain ⟨hx, hby, hml, hown, hnm, hr, hlk, hZ, hT1, hn0, hT, locs, Y, N⟩ := X
  subst hp ho
  obtain ⟨T', h', Y', e', E, A, D, -, st⟩ := newO Y hx hZ hown w1' w2' w3' hT (g := mkF γ.2.2.2.1 pc L S) rfl (hb hby hd) hc hsl
  obtain ⟨s₂, o, hs, r⟩ := K T' h' h.size rfl ⟨hx, hby, hml, hown, hnm, hr, hlk, hZ, hT1, hn0, e', _, Y', N⟩ E A D hN
  exact ⟨s₂, o, st _ hs, r⟩
theorem ow_initO (X : oSt Z ω γ κ T h cs ss) (pc' i1 i2 i3 : Nat) {own : String} {idx : Nat} {a : Addr} (w1 : tables_1[i1]? = some (.methodLink own idx Lib.objectInit)) (ho : κ.2.2.1 = own) (w2 : tables_1[i2]? = some (.instanceMethod Lib.objectInit)) (w3 : tables_1[i3]? = some (.code Lib.objectInit ⟨#[0xb1]⟩ 1 none))
    (hd : decode κ.1 pc = .ok (.invokespecial idx, 3)) (hp : pc + 3 = pc') (hL : L.size = κ.2.1) (hf : 1 ≤ κ.2.2.2.2.2.frames) {W : Nat} (hW : (S.map fun v => v.category).sum ≤ W) (hl : W + 12 ≤ κ.2.2.2.2.2.locals)
    (K : ∀ T', oSt Z ω γ κ T' h cs ss → oWP ω γ κ Q T' pc' L S) : oWP ω γ κ Q T pc L (.ref a :: S) := by
  have w1' := oSt_at X i1 w1
  have w2' := oSt_at X i2 w2
  have w3' := oSt_at X i3 w3
  obtain ⟨hx, hby, hml, hown, hnm, hr, hlk, hZ, hT1, hn0, hT, locs, Y, N⟩ := X
  subst hp ho
  obtain ⟨T', Y', e', st⟩ := initO Y hx hZ hown w1' w2' w3' hT (g := mkF γ.2.2.2.1 pc L (.ref a :: S)) rfl (by rw [hml]; exact hL) rfl (hb hby hd) hf (W := W) (by show 2 * 0 + _ ≤ _; omega) hl
  obtain ⟨s₂, o, hs, r⟩ := K T' ⟨hx, hby, hml, hown, hnm, hr, hlk, hZ, hT1, hn0, e', _, Y', N⟩
  exact ⟨s₂, o, st _ hs, r⟩
theorem ow_callS (X : oSt Z ω γ κ T h cs ss) (pc' i1 i2 i3 i4 : Nat) {own : String} {idx : Nat} {y : MethodName} {κ' : OM} {Q' : Option Value → Heap → Prop} {as : List Value} {ps : List FieldType} {rt : Option FieldType} {W : Nat} {S0 : List Value}
    (w1 : tables_1[i1]? = some (.methodLink own idx y)) (ho : κ.2.2.1 = own) (w2 : tables_1[i2]? = some (.static y)) (w3 : tables_1[i3]? = some (.initialized y.cls)) (w4 : tables_1[i4]? = some (.code y κ'.1 κ'.2.1 κ'.2.2.2.2.1)) (hy : y.cls ≠ "java/lang/invoke/MethodHandle" ∧ y.cls ≠ "java/lang/invoke/VarHandle")
    (C : oC Z ω y κ' [] as.toArray h Q') (hf : κ'.2.2.2.2.2.frames + 1 ≤ κ.2.2.2.2.2.frames) (hl : W + (κ'.2.1 + 11) + κ'.2.2.2.2.2.locals ≤ κ.2.2.2.2.2.locals) (hW : (S.map fun v => v.category).sum ≤ W) (hc : cs + κ'.2.2.2.2.2.cells ≤ κ.2.2.2.2.2.cells) (hs : ss + κ'.2.2.2.2.2.slots ≤ κ.2.2.2.2.2.slots)
    (hpd : parseMethodDescriptor y.desc = some ⟨ps, rt⟩) (hlen : as.length = ps.length) (hS : S0 = as.reverse ++ S) (hL : L.size = κ.2.1) (hd : decode κ.1 pc = .ok (.invokestatic idx, 3)) (hp : pc + 3 = pc')
    (K : ∀ v T' h', oSt Z ω γ κ T' h' (cs + κ'.2.2.2.2.2.cells) (ss + κ'.2.2.2.2.2.slots) → Q' v h' → oWP ω γ κ Q T' pc' L (v.toList ++ S)) : oWP ω γ κ Q T pc L S0 := by
  have w1' := oSt_at X i1 w1
  have w2' := oSt_at X i2 w2
  have w3' := oSt_at X i3 w3
  have w4' := oSt_at X i4 w4
  obtain ⟨hx, hby, hml, hown, hnm, hr, hlk, hZ, hT1, hn0, hT, locs, Y, N⟩ := X
  subst hp ho hS
  obtain ⟨v, vm₁, ⟨T', L', k', n'⟩, -, Y', ⟨Lc, ⟨hF, hQ⟩, q1, q2, q3⟩, st⟩ := Jvm.LawKit.callS Y hx (y := y) hown (mvT hZ w1') (mvT hZ w2') (mvT hZ w3') (mvT hZ w4') hy (backOf (W := W) (Q := fun v hh Lc => Fr ω.2.1 Lc ∧ Q' v hh) (bytes := κ'.1) (maxL := κ'.2.1) (ret := κ'.2.2.2.2.1) (rm := κ'.2.2.2.2.2) C hZ w4' w3' hf hl) (g := mkF γ.2.2.2.1 pc L (as.reverse ++ S)) rfl (by rw [hml]; exact hL) (argsL := as) (rest := S) (lenOf hpd hlen) rfl (by show 2 * 0 + _ ≤ _; omega) (hb hby hd) (fun _ _ => ⟨rfl, hT, hc, hs⟩)
  dsimp only [Pt.U, Pt.locs, Pt.cells, Pt.slots] at Y' q1 q2 q3 st hQ
  subst q1 q2 q3
  obtain ⟨s₂, o, hs, r⟩ := K v T' T'.heap ⟨hx, hby, hml, hown, hnm, hr, hlk, hZ, hT1, hn0, rfl, _, Y', N.app hF⟩ hQ
  exact ⟨s₂, o, st _ hs, r⟩
theorem ow_callC (X : oSt Z ω γ κ T h cs ss) (pc' i1 i2 i3 i4 : Nat) {own : String} {idx : Nat} {y : MethodName} {κ' : OM} {Q' : Option Value → Heap → Prop} {a : Addr} {as : List Value} {ps : List FieldType} {rt : Option FieldType} {W : Nat} {S0 : List Value}
    (hy1 : y.name = "<init>") (w1 : tables_1[i1]? = some (.methodLink own idx y)) (ho : κ.2.2.1 = own) (w2 : tables_1[i2]? = some (.instanceMethod y)) (w3 : tables_1[i3]? = some (.initialized y.cls)) (w4 : tables_1[i4]? = some (.code y κ'.1 κ'.2.1 κ'.2.2.2.2.1)) (hr0 : κ'.2.2.2.2.1 = none) (hy : y.cls ≠ "java/lang/invoke/MethodHandle" ∧ y.cls ≠ "java/lang/invoke/VarHandle")
    (C : oC Z ω y κ' [] (.ref a :: as).toArray h Q') (hf : κ'.2.2.2.2.2.frames + 1 ≤ κ.2.2.2.2.2.frames) (hl : W + (κ'.2.1 + 11) + κ'.2.2.2.2.2.locals ≤ κ.2.2.2.2.2.locals) (hW : (S.map fun v => v.category).sum ≤ W) (hc : cs + κ'.2.2.2.2.2.cells ≤ κ.2.2.2.2.2.cells) (hs : ss + κ'.2.2.2.2.2.slots ≤ κ.2.2.2.2.2.slots)
    (hpd : parseMethodDescriptor y.desc = some ⟨ps, rt⟩) (hlen : as.length = ps.length) (hS : S0 = as.reverse ++ .ref a :: S) (hL : L.size = κ.2.1) (hd : decode κ.1 pc = .ok (.invokespecial idx, 3)) (hp : pc + 3 = pc')
    (K : ∀ v T' h', oSt Z ω γ κ T' h' (cs + κ'.2.2.2.2.2.cells) (ss + κ'.2.2.2.2.2.slots) → Q' v h' → oWP ω γ κ Q T' pc' L (v.toList ++ S)) : oWP ω γ κ Q T pc L S0 := by
  have w1' := oSt_at X i1 w1
  have w2' := oSt_at X i2 w2
  have w3' := oSt_at X i3 w3
  have w4' := oSt_at X i4 w4
  obtain ⟨hx, hby, hml, hown, hnm, hr, hlk, hZ, hT1, hn0, hT, locs, Y, N⟩ := X
  subst hp ho hS
  obtain ⟨v, vm₁, ⟨T', L', k', n'⟩, -, Y', ⟨Lc, ⟨hF, hQ⟩, q1, q2, q3⟩, st⟩ := Y.specialBack hx (y := y) hy1 hown (mvT hZ w1') (mvT hZ w2') (mvT hZ (hr0 ▸ w4')) hy (backOf (W := W) (Q := fun v hh Lc => Fr ω.2.1 Lc ∧ Q' v hh) (bytes := κ'.1) (maxL := κ'.2.1) (ret := κ'.2.2.2.2.1) (rm := κ'.2.2.2.2.2) C hZ w4' w3' hf hl) (g := mkF γ.2.2.2.1 pc L (as.reverse ++ .ref a :: S)) rfl (by rw [hml]; exact hL) (Steps.refl _) (a := a) (argsL := as) (rest := S) (lenOf hpd hlen) rfl (by show 2 * 0 + _ ≤ _; omega) (hb hby hd) (fun _ _ => ⟨rfl, hT, hc, hs⟩)
  dsimp only [Pt.U, Pt.locs, Pt.cells, Pt.slots] at Y' q1 q2 q3 st hQ
  subst q1 q2 q3
  obtain ⟨s₂, o, hs, r⟩ := K v T' T'.heap ⟨hx, hby, hml, hown, hnm, hr, hlk, hZ, hT1, hn0, rfl, _, Y', N.app hF⟩ hQ
  exact ⟨s₂, o, st.trans hs, r⟩
theorem ow_callV (X : oSt Z ω γ κ T h cs ss) (pc' i1 i2 i3 i4 i5 i6 : Nat) {own C0 : String} {idx : Nat} {y : MethodName} {κ' : OM} {Q' : Option Value → Heap → Prop} {a : Addr} {as : List Value} {ps : List FieldType} {rt : Option FieldType} {W : Nat} {S0 : List Value}
    (w1 : tables_1[i1]? = some (.methodLink own idx y)) (ho : κ.2.2.1 = own) (w2 : tables_1[i2]? = some (.declares y)) (w3 : tables_1[i3]? = some (.selects C0 y y)) (w4 : tables_1[i4]? = some (.instanceMethod y)) (w5 : tables_1[i5]? = some (.code y κ'.1 κ'.2.1 κ'.2.2.2.2.1)) (w6 : tables_1[i6]? = some (.initialized y.cls)) (hy : y.cls ≠ "java/lang/invoke/MethodHandle" ∧ y.cls ≠ "java/lang/invoke/VarHandle")
    (E : Exa Z h a C0) (C : oC Z ω y κ' [] (.ref a :: as).toArray h Q') (hf : κ'.2.2.2.2.2.frames + 1 ≤ κ.2.2.2.2.2.frames) (hl : W + (κ'.2.1 + 11) + κ'.2.2.2.2.2.locals ≤ κ.2.2.2.2.2.locals) (hW : (S.map fun v => v.category).sum ≤ W) (hc : cs + κ'.2.2.2.2.2.cells ≤ κ.2.2.2.2.2.cells) (hs : ss + κ'.2.2.2.2.2.slots ≤ κ.2.2.2.2.2.slots)
    (hpd : parseMethodDescriptor y.desc = some ⟨ps, rt⟩) (hlen : as.length = ps.length) (hS : S0 = as.reverse ++ .ref a :: S) (hL : L.size = κ.2.1) (hd : decode κ.1 pc = .ok (.invokevirtual idx, 3)) (hp : pc + 3 = pc')
    (K : ∀ v T' h', oSt Z ω γ κ T' h' (cs + κ'.2.2.2.2.2.cells) (ss + κ'.2.2.2.2.2.slots) → Q' v h' → oWP ω γ κ Q T' pc' L (v.toList ++ S)) : oWP ω γ κ Q T pc L S0 := by
  have w1' := oSt_at X i1 w1
  have w2' := oSt_at X i2 w2
  have w3' := oSt_at X i3 w3
  have w4' := oSt_at X i4 w4
  have w5' := oSt_at X i5 w5
  have w6' := oSt_at X i6 w6
  obtain ⟨hx, hby, hml, hown, hnm, hr, hlk, hZ, hT1, hn0, hT, locs, Y, N⟩ := X
  subst hp ho hS
  obtain ⟨cq, kq, qa, qb, qc⟩ := isOf hZ hT E
  obtain ⟨v, vm₁, ⟨T', L', k', n'⟩, -, Y', ⟨Lc, ⟨hF, hQ⟩, q1, q2, q3⟩, st⟩ := Y.virtualBack hx (y := y) (z := y) hown (mvT hZ w1') (mvT hZ w2') (notFace_of_selects (args := #[]) (mvT hZ w3')) (mvT hZ w3') (mvT hZ w4') hy (backOf (W := W) (Q := fun v hh Lc => Fr ω.2.1 Lc ∧ Q' v hh) (bytes := κ'.1) (maxL := κ'.2.1) (ret := κ'.2.2.2.2.1) (rm := κ'.2.2.2.2.2) C hZ w5' w6' hf hl) qa qc (g := mkF γ.2.2.2.1 pc L (as.reverse ++ .ref a :: S)) rfl (by rw [hml]; exact hL) (Steps.refl _) (argsL := as) (rest := S) (lenOf hpd hlen) rfl (by show 2 * 0 + _ ≤ _; omega) (hb hby hd) (fun _ _ => ⟨rfl, hT, hc, hs⟩)
  dsimp only [Pt.U, Pt.locs, Pt.cells, Pt.slots] at Y' q1 q2 q3 st hQ
  subst q1 q2 q3
  obtain ⟨s₂, o, hs, r⟩ := K v T' T'.heap ⟨hx, hby, hml, hown, hnm, hr, hlk, hZ, hT1, hn0, rfl, _, Y', N.app hF⟩ hQ
  exact ⟨s₂, o, st.trans hs, r⟩
theorem ow_callP (X : oSt Z ω γ κ T h cs ss) (pc' i1 i2 i3 i4 i5 i6 : Nat) {own C0 : String} {idx nn : Nat} {y : MethodName} {κ' : OM} {Q' : Option Value → Heap → Prop} {a : Addr} {as : List Value} {ps : List FieldType} {rt : Option FieldType} {W : Nat} {S0 : List Value}
    (w1 : tables_1[i1]? = some (.methodLink own idx y)) (ho : κ.2.2.1 = own) (w2 : tables_1[i2]? = some (.instanceMethod y)) (w3 : tables_1[i3]? = some (.privateMethod y)) (w4 : tables_1[i4]? = some (.initialized y.cls)) (w5 : tables_1[i5]? = some (.code y κ'.1 κ'.2.1 κ'.2.2.2.2.1)) (w6 : tables_1[i6]? = some (.instantiable y.cls nn)) (hy : y.cls ≠ "java/lang/invoke/MethodHandle" ∧ y.cls ≠ "java/lang/invoke/VarHandle")
    (E : Exa Z h a C0) (C : oC Z ω y κ' [] (.ref a :: as).toArray h Q') (hf : κ'.2.2.2.2.2.frames + 1 ≤ κ.2.2.2.2.2.frames) (hl : W + (κ'.2.1 + 11) + κ'.2.2.2.2.2.locals ≤ κ.2.2.2.2.2.locals) (hW : (S.map fun v => v.category).sum ≤ W) (hc : cs + κ'.2.2.2.2.2.cells ≤ κ.2.2.2.2.2.cells) (hs : ss + κ'.2.2.2.2.2.slots ≤ κ.2.2.2.2.2.slots)
    (hpd : parseMethodDescriptor y.desc = some ⟨ps, rt⟩) (hlen : as.length = ps.length) (hS : S0 = as.reverse ++ .ref a :: S) (hL : L.size = κ.2.1) (hd : decode κ.1 pc = .ok (.invokevirtual idx, 3)) (hp : pc + 3 = pc')
    (K : ∀ v T' h', oSt Z ω γ κ T' h' (cs + κ'.2.2.2.2.2.cells) (ss + κ'.2.2.2.2.2.slots) → Q' v h' → oWP ω γ κ Q T' pc' L (v.toList ++ S)) : oWP ω γ κ Q T pc L S0 := by
  have w1' := oSt_at X i1 w1
  have w2' := oSt_at X i2 w2
  have w3' := oSt_at X i3 w3
  have w4' := oSt_at X i4 w4
  have w5' := oSt_at X i5 w5
  have w6' := oSt_at X i6 w6
  obtain ⟨hx, hby, hml, hown, hnm, hr, hlk, hZ, hT1, hn0, hT, locs, Y, N⟩ := X
  subst hp ho hS
  obtain ⟨cq, q1, q2⟩ := E.cell
  obtain ⟨ck, kk, i1, i2, -, i4, -⟩ := Cond.instantiable_spec (mvT (args := #[]) hZ w6')
  have hni : kk.isInterface = false := (Bool.or_eq_false_iff.mp i4).1
  have hpr := Cond.privateMethod_at (mvP (args := #[]) hZ w3')
  obtain ⟨v, vm₁, ⟨T', L', k', n'⟩, -, Y', ⟨Lc, ⟨hF, hQ⟩, q1, q2, q3⟩, st⟩ := Y.privateBack hx (y := y) hown (mvT hZ w1') (mvT hZ w2') (selects_self_of_private i1 i2 hni hpr (mvT hZ w2') hy) hpr (mvT hZ w5') hy (backOf (W := W) (Q := fun v hh Lc => Fr ω.2.1 Lc ∧ Q' v hh) (bytes := κ'.1) (maxL := κ'.2.1) (ret := κ'.2.2.2.2.1) (rm := κ'.2.2.2.2.2) C hZ w5' w4' hf hl) (g := mkF γ.2.2.2.1 pc L (as.reverse ++ .ref a :: S)) rfl (by rw [hml]; exact hL) (Steps.refl _) (a := a) (by rw [hT]; exact q1) q2 (argsL := as) (rest := S) (lenOf hpd hlen) rfl (by show 2 * 0 + _ ≤ _; omega) (hb hby hd) (fun _ _ => ⟨rfl, hT, hc, hs⟩)
  dsimp only [Pt.U, Pt.locs, Pt.cells, Pt.slots] at Y' q1 q2 q3 st hQ
  subst q1 q2 q3
  obtain ⟨s₂, o, hs, r⟩ := K v T' T'.heap ⟨hx, hby, hml, hown, hnm, hr, hlk, hZ, hT1, hn0, rfl, _, Y', N.app hF⟩ hQ
  exact ⟨s₂, o, st.trans hs, r⟩
end Walk
/-- an array: its component type, its length, what it holds -/
def oA (Z : State) (h : Heap) (a : Addr) (ty : FieldType) (n : Nat) (f : Nat → Value) : Prop := ∃ c : Cell, Arr Z h a c ty ∧ c.slots.size = n ∧ n < 2147483648 ∧ ∀ i, i < n → c.slots[i]? = some (f i)
section Arrays
variable {Z : State} {h h' : Heap} {a b : Addr} {ty : FieldType} {n sl : Nat} {f g : Nat → Value} {v : Value} {ws : List Addr}
theorem oA.lt (A : oA Z h a ty n f) : a < h.size := by obtain ⟨c, A, -⟩ := A; exact A.lt
theorem oA.small (A : oA Z h a ty n f) : n < 2147483648 := by obtain ⟨c, -, -, q, -⟩ := A; exact q
theorem oA.ext (A : oA Z h a ty n f) (E : Ext h h') : oA Z h' a ty n f := by obtain ⟨c, A, r⟩ := A; exact ⟨c, A.ext E, r⟩
theorem oA.other (A : oA Z h b ty n f) (W : Wr h h' a sl v) (q : b ≠ a) : oA Z h' b ty n f := by obtain ⟨c, A, r⟩ := A; exact ⟨c, A.other W q, r⟩
theorem oA.keep (A : oA Z h a ty n f) (K : Keep h h' ws) (q : a ∉ ws) : oA Z h' a ty n f := by obtain ⟨c, A, r⟩ := A; exact ⟨c, ⟨K.2.1 a c A.1 q, A.2⟩, r⟩
theorem oA.congr (A : oA Z h a ty n f) (q : ∀ i, i < n → f i = g i) : oA Z h a ty n g := by obtain ⟨c, A, r1, r2, r3⟩ := A; exact ⟨c, A, r1, r2, fun i hi => by rw [← q i hi]; exact r3 i hi⟩
theorem oA.set (A : oA Z h a ty n f) (W : Wr h h' a sl v) : oA Z h' a ty n (fun i => if i = sl then v else f i) := by
  obtain ⟨c, A, r1, r2, r3⟩ := A
  have hlt : sl < n := by
    obtain ⟨c', h1, -, h3, -⟩ := W
    cases A.1.symm.trans h1
    omega
  refine ⟨c.setSlot sl v, A.same W, (sz_set _ _ _).trans r1, r2, fun i hi => ?_⟩
  by_cases e : i = sl
  · subst e; simp [Cell.setSlot, r1, hlt]
  · simp only [e, if_false]
    rw [← r3 i hi]
    exact Array.getElem?_setIfInBounds_ne (Ne.symm e)
/-- one place changed -/
def oUpd {α : Type} (g : Nat → α) (k : Nat) (v : α) : Nat → α := fun i => if i = k then v else g i
theorem oUpd_hit {α : Type} (g : Nat → α) (k : Nat) (v : α) : oUpd g k v k = v := if_pos rfl
theorem oUpd_miss {α : Type} (g : Nat → α) {k i : Nat} (v : α) (q : i ≠ k) : oUpd g k v i = g i := if_neg q
def oZI : Nat → Int32 := fun _ => 0
def oZJ : Nat → Int64 := fun _ => 0
theorem oA.setI {g : Nat → Int32} {x : Int32} (A : oA Z h a ty n (fun i => .int (g i))) (W : Wr h h' a sl (.int x)) : oA Z h' a ty n (fun i => .int (oUpd g sl x i)) :=
  (A.set W).congr fun i _ => by unfold oUpd; split <;> rfl
theorem oA.setJ {g : Nat → Int64} {x : Int64} (A : oA Z h a ty n (fun i => .long (g i))) (W : Wr h h' a sl (.long x)) : oA Z h' a ty n (fun i => .long (oUpd g sl x i)) :=
  (A.set W).congr fun i _ => by unfold oUpd; split <;> rfl
theorem oNd {l : List Addr} (h : l.Nodup) (i j : Nat) (hij : i ≠ j) {a b : Addr} (ha : l[i]? = some a) (hb : l[j]? = some b) : a ≠ b := by
  intro e; subst e
  obtain ⟨h1, h2⟩ := List.getElem?_eq_some_iff.mp ha
  obtain ⟨h3, h4⟩ := List.getElem?_eq_some_iff.mp hb
  have q := List.pairwise_iff_getElem.mp h
  rcases Nat.lt_or_gt_of_ne hij with r | r
  · exact q i j h1 h3 r (h2.trans h4.symm)
  · exact q j i h3 h1 r (h4.trans h2.symm)
theorem oA.new {cA : ClassId} {k : Int32} (A : Arr Z h a (newA cA ty k) ty) (q : 0 ≤ k.toInt) : oA Z h a ty k.toInt.toNat (fun _ => defaultValue ty) := by
  have e : k.toNatClampNeg = k.toInt.toNat := rfl
  have := k.toInt_lt
  refine ⟨_, A, (sz_new _ _ _).trans e, by omega, fun i hi => ?_⟩
  have : i < k.toNatClampNeg := by rw [e]; exact hi
  simp [newA, this]
theorem oInb {j : Int32} {c : Cell} (r1 : c.slots.size = n) (q : 0 ≤ j.toInt) (q' : j.toInt < n) : ¬ (j < 0 ∨ c.slots.size ≤ j.toNatClampNeg) := by
  have e : j.toNatClampNeg = j.toInt.toNat := rfl
  rw [Int32.lt_iff_toInt_lt, r1, e, o0]; omega
end Arrays
section Walk2
variable {Z : State} {ω : OW} {γ : OG} {κ : OM} {Q : Option Value → Heap → Prop} {T : State} {h : Heap} {cs ss : Nat} {pc : Nat} {L : Array Slot} {S : List Value}
theorem ow_alen (X : oSt Z ω γ κ T h cs ss) (pc' : Nat) {a : Addr} {ty : FieldType} {n : Nat} {f : Nat → Value} {v : Int32} (A : oA Z h a ty n f) (hd : decode κ.1 pc = .ok (.arraylength, 1)) (hp : pc + 1 = pc') (hv : v.toInt = n)
    (K : oWP ω γ κ Q T pc' L (.int v :: S)) : oWP ω γ κ Q T pc L (.ref a :: S) := by
  obtain ⟨hx, hby, -, -, -, -, -, hZ, -, -, hT, locs, Y, -⟩ := X
  obtain ⟨c, A, r1, r2, -⟩ := A
  subst hp
  obtain ⟨s₂, o, hs, r⟩ := K
  have e : c.slots.size.toInt32 = v := Int32.toInt_inj.mp (by rw [hv, len_toInt (by omega), r1])
  exact ⟨s₂, o, Y.arraylength hx (by rw [hT]; exact A.1) (State.isArrayOf_alike hZ.alike A.2.1) (g := mkF γ.2.2.2.1 pc L (.ref a :: S)) rfl rfl (hb hby hd) _ (by rw [e]; exact hs), r⟩
theorem ow_iaload (X : oSt Z ω γ κ T h cs ss) (pc' : Nat) {a : Addr} {n : Nat} {f : Nat → Value} {j : Int32} {v : Value} (A : oA Z h a .int n f) (hd : decode κ.1 pc = .ok (.iaload, 1)) (hp : pc + 1 = pc') (h0 : 0 ≤ j.toInt) (h1 : j.toInt < n) (hv : f j.toInt.toNat = v)
    (K : oWP ω γ κ Q T pc' L (v :: S)) : oWP ω γ κ Q T pc L (.int j :: .ref a :: S) := by
  obtain ⟨hx, hby, -, -, -, -, -, hZ, -, -, hT, locs, Y, -⟩ := X
  obtain ⟨c, A, r1, r2, r3⟩ := A
  subst hp hv
  obtain ⟨s₂, o, hs, r⟩ := K
  exact ⟨s₂, o, Y.iaload hx (by rw [hT]; exact A.1) (State.isArrayOf_alike hZ.alike A.2.1) A.2.2 (oInb r1 h0 h1) (r3 _ (by show j.toInt.toNat < _; omega)) (g := mkF γ.2.2.2.1 pc L (.int j :: .ref a :: S)) rfl rfl (hb hby hd) _ hs, r⟩
theorem ow_laload (X : oSt Z ω γ κ T h cs ss) (pc' : Nat) {a : Addr} {n : Nat} {f : Nat → Value} {j : Int32} {v : Value} (A : oA Z h a .long n f) (hd : decode κ.1 pc = .ok (.laload, 1)) (hp : pc + 1 = pc') (h0 : 0 ≤ j.toInt) (h1 : j.toInt < n) (hv : f j.toInt.toNat = v)
    (K : oWP ω γ κ Q T pc' L (v :: S)) : oWP ω γ κ Q T pc L (.int j :: .ref a :: S) := by
  obtain ⟨hx, hby, -, -, -, -, -, hZ, -, -, hT, locs, Y, -⟩ := X
  obtain ⟨c, A, r1, r2, r3⟩ := A
  subst hp hv
  obtain ⟨s₂, o, hs, r⟩ := K
  exact ⟨s₂, o, Y.laload hx (by rw [hT]; exact A.1) (State.isArrayOf_alike hZ.alike A.2.1) A.2.2 (oInb r1 h0 h1) (r3 _ (by show j.toInt.toNat < _; omega)) (g := mkF γ.2.2.2.1 pc L (.int j :: .ref a :: S)) rfl rfl (hb hby hd) _ hs, r⟩
theorem ow_caload (X : oSt Z ω γ κ T h cs ss) (pc' : Nat) {a : Addr} {n : Nat} {f : Nat → Value} {j : Int32} {v : Value} (A : oA Z h a .char n f) (hd : decode κ.1 pc = .ok (.caload, 1)) (hp : pc + 1 = pc') (h0 : 0 ≤ j.toInt) (h1 : j.toInt < n) (hv : f j.toInt.toNat = v)
    (K : oWP ω γ κ Q T pc' L (v :: S)) : oWP ω γ κ Q T pc L (.int j :: .ref a :: S) := by
  obtain ⟨hx, hby, -, -, -, -, -, hZ, -, -, hT, locs, Y, -⟩ := X
  obtain ⟨c, A, r1, r2, r3⟩ := A
  subst hp hv
  obtain ⟨s₂, o, hs, r⟩ := K
  exact ⟨s₂, o, Y.caload hx (by rw [hT]; exact A.1) (State.isArrayOf_alike hZ.alike A.2.1) A.2.2 (oInb r1 h0 h1) (r3 _ (by show j.toInt.toNat < _; omega)) (g := mkF γ.2.2.2.1 pc L (.int j :: .ref a :: S)) rfl rfl (hb hby hd) _ hs, r⟩
theorem ow_baload (X : oSt Z ω γ κ T h cs ss) (pc' : Nat) {a : Addr} {n : Nat} {f : Nat → Value} {j : Int32} {v : Value} (A : oA Z h a .byte n f) (hd : decode κ.1 pc = .ok (.baload, 1)) (hp : pc + 1 = pc') (h0 : 0 ≤ j.toInt) (h1 : j.toInt < n) (hv : f j.toInt.toNat = v)
    (K : oWP ω γ κ Q T pc' L (v :: S)) : oWP ω γ κ Q T pc L (.int j :: .ref a :: S) := by
  obtain ⟨hx, hby, -, -, -, -, -, hZ, -, -, hT, locs, Y, -⟩ := X
  obtain ⟨c, A, r1, r2, r3⟩ := A
  subst hp hv
  obtain ⟨s₂, o, hs, r⟩ := K
  exact ⟨s₂, o, Y.baloadBytes hx (by rw [hT]; exact A.1) (State.isArrayOf_alike hZ.alike A.2.1) A.2.2 (oInb r1 h0 h1) (r3 _ (by show j.toInt.toNat < _; omega)) (g := mkF γ.2.2.2.1 pc L (.int j :: .ref a :: S)) rfl rfl (hb hby hd) _ hs, r⟩
theorem ow_baloadZ (X : oSt Z ω γ κ T h cs ss) (pc' : Nat) {a : Addr} {n : Nat} {f : Nat → Value} {j : Int32} {v : Value} (A : oA Z h a .boolean n f) (hd : decode κ.1 pc = .ok (.baload, 1)) (hp : pc + 1 = pc') (h0 : 0 ≤ j.toInt) (h1 : j.toInt < n) (hv : f j.toInt.toNat = v)
    (K : oWP ω γ κ Q T pc' L (v :: S)) : oWP ω γ κ Q T pc L (.int j :: .ref a :: S) := by
  obtain ⟨hx, hby, -, -, -, -, -, hZ, -, -, hT, locs, Y, -⟩ := X
  obtain ⟨c, A, r1, r2, r3⟩ := A
  subst hp hv
  obtain ⟨s₂, o, hs, r⟩ := K
  exact ⟨s₂, o, Y.baloadBooleans hx (by rw [hT]; exact A.1) (State.isArrayOf_alike hZ.alike A.2.1) A.2.2 (oInb r1 h0 h1) (r3 _ (by show j.toInt.toNat < _; omega)) (g := mkF γ.2.2.2.1 pc L (.int j :: .ref a :: S)) rfl rfl (hb hby hd) _ hs, r⟩
theorem ow_aaload (X : oSt Z ω γ κ T h cs ss) (pc' : Nat) {a : Addr} {ty : FieldType} {n : Nat} {f : Nat → Value} {j : Int32} {v : Value} (A : oA Z h a ty n f) (ht : ty.isReference = true) (hd : decode κ.1 pc = .ok (.aaload, 1)) (hp : pc + 1 = pc') (h0 : 0 ≤ j.toInt) (h1 : j.toInt < n) (hv : f j.toInt.toNat = v)
    (K : oWP ω γ κ Q T pc' L (v :: S)) : oWP ω γ κ Q T pc L (.int j :: .ref a :: S) := by
  obtain ⟨hx, hby, -, -, -, -, -, hZ, -, -, hT, locs, Y, -⟩ := X
  obtain ⟨c, A, r1, r2, r3⟩ := A
  subst hp hv
  obtain ⟨s₂, o, hs, r⟩ := K
  exact ⟨s₂, o, Y.aaload hx (by rw [hT]; exact A.1) (State.isArrayOf_alike hZ.alike A.2.1) ht A.2.2 (oInb r1 h0 h1) (r3 _ (by show j.toInt.toNat < _; omega)) (g := mkF γ.2.2.2.1 pc L (.int j :: .ref a :: S)) rfl rfl (hb hby hd) _ hs, r⟩
theorem ow_iastore (X : oSt Z ω γ κ T h cs ss) (pc' : Nat) {a : Addr} {n : Nat} {f : Nat → Value} {j : Int32} {x : Int32} (A : oA Z h a .int n f) (ha : ω.2.1 ≤ a) (hd : decode κ.1 pc = .ok (.iastore, 1)) (hp : pc + 1 = pc') (h0 : 0 ≤ j.toInt) (h1 : j.toInt < n)
    (K : ∀ T' h', oSt Z ω γ κ T' h' cs ss → Wr h h' a j.toInt.toNat (.int x) → oWP ω γ κ Q T' pc' L S) : oWP ω γ κ Q T pc L (.int x :: .int j :: .ref a :: S) := by
  obtain ⟨hx, hby, hml, hown, hnm, hr, hlk, hZ, hT1, hn0, hT, locs, Y, N⟩ := X
  obtain ⟨c, A, r1, r2, r3⟩ := A
  subst hp
  obtain ⟨T', h', Y', e', W, st⟩ := stI Y hx hZ hT A (oInb r1 h0 h1) (g := mkF γ.2.2.2.1 pc L (.int x :: .int j :: .ref a :: S)) rfl rfl (hb hby hd)
  obtain ⟨s₂, o, hs, r⟩ := K T' h' ⟨hx, hby, hml, hown, hnm, hr, hlk, hZ, hT1, hn0, e', _, Y', Fr.snoc Y' N ha⟩ W
  exact ⟨s₂, o, st _ hs, r⟩
theorem ow_lastore (X : oSt Z ω γ κ T h cs ss) (pc' : Nat) {a : Addr} {n : Nat} {f : Nat → Value} {j : Int32} {x : Int64} (A : oA Z h a .long n f) (ha : ω.2.1 ≤ a) (hd : decode κ.1 pc = .ok (.lastore, 1)) (hp : pc + 1 = pc') (h0 : 0 ≤ j.toInt) (h1 : j.toInt < n)
    (K : ∀ T' h', oSt Z ω γ κ T' h' cs ss → Wr h h' a j.toInt.toNat (.long x) → oWP ω γ κ Q T' pc' L S) : oWP ω γ κ Q T pc L (.long x :: .int j :: .ref a :: S) := by
  obtain ⟨hx, hby, hml, hown, hnm, hr, hlk, hZ, hT1, hn0, hT, locs, Y, N⟩ := X
  obtain ⟨c, A, r1, r2, r3⟩ := A
  subst hp
  obtain ⟨T', h', Y', e', W, st⟩ := stJ Y hx hZ hT A (oInb r1 h0 h1) (g := mkF γ.2.2.2.1 pc L (.long x :: .int j :: .ref a :: S)) rfl rfl (hb hby hd)
  obtain ⟨s₂, o, hs, r⟩ := K T' h' ⟨hx, hby, hml, hown, hnm, hr, hlk, hZ, hT1, hn0, e', _, Y', Fr.snoc Y' N ha⟩ W
  exact ⟨s₂, o, st _ hs, r⟩
theorem ow_castore (X : oSt Z ω γ κ T h cs ss) (pc' : Nat) {a : Addr} {n : Nat} {f : Nat → Value} {j : Int32} {x : Int32} (A : oA Z h a .char n f) (ha : ω.2.1 ≤ a) (hd : decode κ.1 pc = .ok (.castore, 1)) (hp : pc + 1 = pc') (h0 : 0 ≤ j.toInt) (h1 : j.toInt < n)
    (K : ∀ T' h', oSt Z ω γ κ T' h' cs ss → Wr h h' a j.toInt.toNat (.int (nar .char x)) → oWP ω γ κ Q T' pc' L S) : oWP ω γ κ Q T pc L (.int x :: .int j :: .ref a :: S) := by
  obtain ⟨hx, hby, hml, hown, hnm, hr, hlk, hZ, hT1, hn0, hT, locs, Y, N⟩ := X
  obtain ⟨c, A, r1, r2, r3⟩ := A
  subst hp
  obtain ⟨T', h', Y', e', W, st⟩ := stC Y hx hZ hT A (oInb r1 h0 h1) (g := mkF γ.2.2.2.1 pc L (.int x :: .int j :: .ref a :: S)) rfl rfl (hb hby hd)
  obtain ⟨s₂, o, hs, r⟩ := K T' h' ⟨hx, hby, hml, hown, hnm, hr, hlk, hZ, hT1, hn0, e', _, Y', Fr.snoc Y' N ha⟩ W
  exact ⟨s₂, o, st _ hs, r⟩
theorem ow_bastore (X : oSt Z ω γ κ T h cs ss) (pc' : Nat) {a : Addr} {n : Nat} {f : Nat → Value} {j : Int32} {x : Int32} (A : oA Z h a .byte n f) (ha : ω.2.1 ≤ a) (hd : decode κ.1 pc = .ok (.bastore, 1)) (hp : pc + 1 = pc') (h0 : 0 ≤ j.toInt) (h1 : j.toInt < n)
    (K : ∀ T' h', oSt Z ω γ κ T' h' cs ss → Wr h h' a j.toInt.toNat (.int x.toInt8.toInt32) → oWP ω γ κ Q T' pc' L S) : oWP ω γ κ Q T pc L (.int x :: .int j :: .ref a :: S) := by
  obtain ⟨hx, hby, hml, hown, hnm, hr, hlk, hZ, hT1, hn0, hT, locs, Y, N⟩ := X
  obtain ⟨c, A, r1, r2, r3⟩ := A
  subst hp
  obtain ⟨T', h', Y', e', W, st⟩ := stB Y hx hZ hT A (oInb r1 h0 h1) (g := mkF γ.2.2.2.1 pc L (.int x :: .int j :: .ref a :: S)) rfl rfl (hb hby hd)
  obtain ⟨s₂, o, hs, r⟩ := K T' h' ⟨hx, hby, hml, hown, hnm, hr, hlk, hZ, hT1, hn0, e', _, Y', Fr.snoc Y' N ha⟩ W
  exact ⟨s₂, o, st _ hs, r⟩
theorem ow_bastoreZ (X : oSt Z ω γ κ T h cs ss) (pc' : Nat) {a : Addr} {n : Nat} {f : Nat → Value} {j : Int32} {x : Int32} (A : oA Z h a .boolean n f) (ha : ω.2.1 ≤ a) (hd : decode κ.1 pc = .ok (.bastore, 1)) (hp : pc + 1 = pc') (h0 : 0 ≤ j.toInt) (h1 : j.toInt < n)
    (K : ∀ T' h', oSt Z ω γ κ T' h' cs ss → Wr h h' a j.toInt.toNat (.int (nar .boolean x)) → oWP ω γ κ Q T' pc' L S) : oWP ω γ κ Q T pc L (.int x :: .int j :: .ref a :: S) := by
  obtain ⟨hx, hby, hml, hown, hnm, hr, hlk, hZ, hT1, hn0, hT, locs, Y, N⟩ := X
  obtain ⟨c, A, r1, r2, r3⟩ := A
  subst hp
  obtain ⟨T', h', Y', e', W, st⟩ := stZ Y hx hZ hT A (oInb r1 h0 h1) (g := mkF γ.2.2.2.1 pc L (.int x :: .int j :: .ref a :: S)) rfl rfl (hb hby hd)
  obtain ⟨s₂, o, hs, r⟩ := K T' h' ⟨hx, hby, hml, hown, hnm, hr, hlk, hZ, hT1, hn0, e', _, Y', Fr.snoc Y' N ha⟩ W
  exact ⟨s₂, o, st _ hs, r⟩
theorem ow_aastore (X : oSt Z ω γ κ T h cs ss) (pc' : Nat) {a : Addr} {ty : FieldType} {n : Nat} {f : Nat → Value} {j : Int32} {v : Value} (A : oA Z h a ty n f) (ht : ty.isReference = true) (F : Sto Z h a v) (ha : ω.2.1 ≤ a) (hd : decode κ.1 pc = .ok (.aastore, 1)) (hp : pc + 1 = pc') (h0 : 0 ≤ j.toInt) (h1 : j.toInt < n)
    (K : ∀ T' h', oSt Z ω γ κ T' h' cs ss → Wr h h' a j.toInt.toNat v → oWP ω γ κ Q T' pc' L S) : oWP ω γ κ Q T pc L (v :: .int j :: .ref a :: S) := by
  obtain ⟨hx, hby, hml, hown, hnm, hr, hlk, hZ, hT1, hn0, hT, locs, Y, N⟩ := X
  obtain ⟨c, A, r1, r2, r3⟩ := A
  subst hp
  obtain ⟨T', h', Y', e', W, st⟩ := stR Y hx hZ hT A (oInb r1 h0 h1) ht F (g := mkF γ.2.2.2.1 pc L (v :: .int j :: .ref a :: S)) rfl rfl (hb hby hd)
  obtain ⟨s₂, o, hs, r⟩ := K T' h' ⟨hx, hby, hml, hown, hnm, hr, hlk, hZ, hT1, hn0, e', _, Y', Fr.snoc Y' N ha⟩ W
  exact ⟨s₂, o, st _ hs, r⟩
theorem ow_newP (X : oSt Z ω γ κ T h cs ss) (pc' i : Nat) {aty : ArrayType} {k : Int32} {cap : Nat} (hw : tables_1[i]? = some (.arrayClass (newarray.typeOf aty))) (hd : decode κ.1 pc = .ok (.newarray aty, 2)) (hp : pc + 2 = pc') (h0 : 0 ≤ k.toInt) (h1 : k.toInt ≤ cap) (hb1 : cap * 8 ≤ 536870912) (hc : cs + 1 ≤ κ.2.2.2.2.2.cells) (hsl : ss + cap ≤ κ.2.2.2.2.2.slots)
    (K : ∀ T' h' a, a = h.size → oSt Z ω γ κ T' h' (cs + 1) (ss + cap) → Ext h h' → oA Z h' a (newarray.typeOf aty) k.toInt.toNat (fun _ => defaultValue (newarray.typeOf aty)) → ω.2.1 ≤ a → oWP ω γ κ Q T' pc' L (.ref a :: S)) : oWP ω γ κ Q T pc L (.int k :: S) := by
  have hw' := oSt_at X i hw
  have hN := oSt_n0 X
  obtain ⟨hx, hby, hml, hown, hnm, hr, hlk, hZ, hT1, hn0, hT, locs, Y, N⟩ := X
  subst hp
  have hk : ¬ k < 0 := by rw [Int32.lt_iff_toInt_lt, o0]; omega
  have hk' : k.toNatClampNeg ≤ cap := by show k.toInt.toNat ≤ cap; omega
  obtain ⟨T', h', cA, Y', e', E, A, st⟩ := newP Y hx hZ hw' hT (g := mkF γ.2.2.2.1 pc L (.int k :: S)) rfl (hb hby hd) rfl hk hk' hb1 hc hsl
  obtain ⟨s₂, o, hs, r⟩ := K T' h' h.size rfl ⟨hx, hby, hml, hown, hnm, hr, hlk, hZ, hT1, hn0, e', _, Y', N⟩ E (oA.new A h0) hN
  exact ⟨s₂, o, st _ hs, r⟩
/-- a new array's class takes objects of C -/
def oOv (Z : State) (h : Heap) (a : Addr) (C : String) : Prop := ∃ (c : Cell) (ty : FieldType), Arr Z h a c ty ∧ Ovr Z c.cls C
theorem oOv.ext {h' : Heap} {a : Addr} {C : String} (O : oOv Z h a C) (E : Ext h h') : oOv Z h' a C := by obtain ⟨c, ty, A, O⟩ := O; exact ⟨c, ty, A.ext E, O⟩
theorem oOv.wr {h' : Heap} {a b : Addr} {C : String} {sl : Nat} {v : Value} (O : oOv Z h a C) (W : Wr h h' b sl v) : oOv Z h' a C := by
  obtain ⟨c, ty, A, O⟩ := O
  by_cases e : a = b
  · subst e; exact ⟨_, ty, A.same W, O⟩
  · exact ⟨c, ty, A.other W e, O⟩
theorem oOv.keep {h' : Heap} {a : Addr} {C : String} {ws : List Addr} (O : oOv Z h a C) (K : Keep h h' ws) (q : a ∉ ws) : oOv Z h' a C := by
  obtain ⟨c, ty, A, O⟩ := O; exact ⟨c, ty, ⟨K.2.1 a c A.1 q, A.2⟩, O⟩
theorem oOv.sto {a y : Addr} {C : String} (O : oOv Z h a C) (I : Ins Z h y C true) : Sto Z h a (.ref y) := by obtain ⟨c, ty, A, O⟩ := O; exact Sto.of A O I
theorem ow_newR (X : oSt Z ω γ κ T h cs ss) (pc' i1 i2 : Nat) {own C : String} {idx : Nat} {k : Int32} {cap : Nat} (w1 : tables_1[i1]? = some (.classLink own idx C)) (ho : κ.2.2.1 = own) (w2 : tables_1[i2]? = some (.arrayOver (.object C))) (hd : decode κ.1 pc = .ok (.anewarray idx, 3)) (hp : pc + 3 = pc') (h0 : 0 ≤ k.toInt) (h1 : k.toInt ≤ cap) (hb1 : cap * 8 ≤ 536870912) (hc : cs + 1 ≤ κ.2.2.2.2.2.cells) (hsl : ss + cap ≤ κ.2.2.2.2.2.slots)
    (K : ∀ T' h' a, a = h.size → oSt Z ω γ κ T' h' (cs + 1) (ss + cap) → Ext h h' → oA Z h' a (.object C) k.toInt.toNat (fun _ => .null) → oOv Z h' a C → ω.2.1 ≤ a → oWP ω γ κ Q T' pc' L (.ref a :: S)) : oWP ω γ κ Q T pc L (.int k :: S) := by
  have w1' := oSt_at X i1 w1
  have w2' := oSt_at X i2 w2
  have hN := oSt_n0 X
  obtain ⟨hx, hby, hml, hown, hnm, hr, hlk, hZ, hT1, hn0, hT, locs, Y, N⟩ := X
  subst hp ho
  have hk : ¬ k < 0 := by rw [Int32.lt_iff_toInt_lt, o0]; omega
  have hk' : k.toNatClampNeg ≤ cap := by show k.toInt.toNat ≤ cap; omega
  obtain ⟨T', h', cA, Y', e', E, A, O, st⟩ := newR Y hx hZ hown w1' w2' hT (g := mkF γ.2.2.2.1 pc L (.int k :: S)) rfl (hb hby hd) rfl hk hk' hb1 hc hsl
  obtain ⟨s₂, o, hs, r⟩ := K T' h' h.size rfl ⟨hx, hby, hml, hown, hnm, hr, hlk, hZ, hT1, hn0, e', _, Y', N⟩ E (oA.new A h0) ⟨_, _, A, O⟩ hN
  exact ⟨s₂, o, st _ hs, r⟩
end Walk2
def BR (Z : State) (h : Heap) (a : Addr) (v0 v1 v2 v3 : Value) : Prop := Exa Z h a "com/example/accrue/accrue/BitReader" ∧ Fld Z h a "com/example/accrue/accrue/BitReader" "bytes" "[B" v0 ∧ Fld Z h a "com/example/accrue/accrue/BitReader" "offset" "I" v1 ∧ Fld Z h a "com/example/accrue/accrue/BitReader" "bufferCount" "I" v2 ∧ Fld Z h a "com/example/accrue/accrue/BitReader" "buffer" "J" v3
theorem BR.lt {Z : State} {h : Heap} {a : Addr} {v0 v1 v2 v3 : Value} (R : BR Z h a v0 v1 v2 v3) : a < h.size := R.1.lt
theorem BR.ext {Z : State} {h h' : Heap} {a : Addr} {v0 v1 v2 v3 : Value} (R : BR Z h a v0 v1 v2 v3) (W : Ext h h') : BR Z h' a v0 v1 v2 v3 := by
  obtain ⟨E, F0, F1, F2, F3⟩ := R
  exact ⟨E.ext W, F0.ext W, F1.ext W, F2.ext W, F3.ext W⟩
theorem BR.other {Z : State} {h h' : Heap} {a b : Addr} {sl : Nat} {w : Value} {v0 v1 v2 v3 : Value} (R : BR Z h a v0 v1 v2 v3) (W : Wr h h' b sl w) (q : a ≠ b) : BR Z h' a v0 v1 v2 v3 := by
  obtain ⟨E, F0, F1, F2, F3⟩ := R
  exact ⟨E.wr W, F0.other W (Or.inl q), F1.other W (Or.inl q), F2.other W (Or.inl q), F3.other W (Or.inl q)⟩
theorem BR.keep {Z : State} {h h' : Heap} {a : Addr} {ws : List Addr} {v0 v1 v2 v3 : Value} (R : BR Z h a v0 v1 v2 v3) (K : Keep h h' ws) (q : a ∉ ws) : BR Z h' a v0 v1 v2 v3 := by
  obtain ⟨E, F0, F1, F2, F3⟩ := R
  exact ⟨E.keep K, F0.keep K q, F1.keep K q, F2.keep K q, F3.keep K q⟩
theorem BR.set_bytes {Z : State} {h h' : Heap} {a : Addr} {a0 : Array Value} {w : Value} {v0 v1 v2 v3 : Value} (hw : ∀ d ∈ tables_1, d.before a0 Z = true) (R : BR Z h a v0 v1 v2 v3) (W : Wr h h' a (RoadKit.slotOf Z "com/example/accrue/accrue/BitReader" "bytes" "[B") w) : BR Z h' a w v1 v2 v3 := by
  obtain ⟨E, F0, F1, F2, F3⟩ := R
  exact ⟨E.wr W, F0.same W, F1.other W (Or.inr (slot_ne (C := "com/example/accrue/accrue/BitReader") (Or.inl (hw _ (List.mem_of_getElem? (i := 18) rfl))) (Or.inr (hw _ (List.mem_of_getElem? (i := 11) rfl))) (by decide) (t := .int) (t' := (.array .byte)) (by decide) (by decide))), F2.other W (Or.inr (slot_ne (C := "com/example/accrue/accrue/BitReader") (Or.inl (hw _ (List.mem_of_getElem? (i := 20) rfl))) (Or.inr (hw _ (List.mem_of_getElem? (i := 11) rfl))) (by decide) (t := .int) (t' := (.array .byte)) (by decide) (by decide))), F3.other W (Or.inr (slot_ne (C := "com/example/accrue/accrue/BitReader") (Or.inl (hw _ (List.mem_of_getElem? (i := 28) rfl))) (Or.inr (hw _ (List.mem_of_getElem? (i := 11) rfl))) (by decide) (t := .long) (t' := (.array .byte)) (by decide) (by decide)))⟩
theorem BR.set_offset {Z : State} {h h' : Heap} {a : Addr} {a0 : Array Value} {w : Value} {v0 v1 v2 v3 : Value} (hw : ∀ d ∈ tables_1, d.before a0 Z = true) (R : BR Z h a v0 v1 v2 v3) (W : Wr h h' a (RoadKit.slotOf Z "com/example/accrue/accrue/BitReader" "offset" "I") w) : BR Z h' a v0 w v2 v3 := by
  obtain ⟨E, F0, F1, F2, F3⟩ := R
  exact ⟨E.wr W, F0.other W (Or.inr (slot_ne (C := "com/example/accrue/accrue/BitReader") (Or.inr (hw _ (List.mem_of_getElem? (i := 11) rfl))) (Or.inl (hw _ (List.mem_of_getElem? (i := 18) rfl))) (by decide) (t := (.array .byte)) (t' := .int) (by decide) (by decide))), F1.same W, F2.other W (Or.inr (slot_ne (C := "com/example/accrue/accrue/BitReader") (Or.inl (hw _ (List.mem_of_getElem? (i := 20) rfl))) (Or.inl (hw _ (List.mem_of_getElem? (i := 18) rfl))) (by decide) (t := .int) (t' := .int) (by decide) (by decide))), F3.other W (Or.inr (slot_ne (C := "com/example/accrue/accrue/BitReader") (Or.inl (hw _ (List.mem_of_getElem? (i := 28) rfl))) (Or.inl (hw _ (List.mem_of_getElem? (i := 18) rfl))) (by decide) (t := .long) (t' := .int) (by decide) (by decide)))⟩
theorem BR.set_bufferCount {Z : State} {h h' : Heap} {a : Addr} {a0 : Array Value} {w : Value} {v0 v1 v2 v3 : Value} (hw : ∀ d ∈ tables_1, d.before a0 Z = true) (R : BR Z h a v0 v1 v2 v3) (W : Wr h h' a (RoadKit.slotOf Z "com/example/accrue/accrue/BitReader" "bufferCount" "I") w) : BR Z h' a v0 v1 w v3 := by
  obtain ⟨E, F0, F1, F2, F3⟩ := R
  exact ⟨E.wr W, F0.other W (Or.inr (slot_ne (C := "com/example/accrue/accrue/BitReader") (Or.inr (hw _ (List.mem_of_getElem? (i := 11) rfl))) (Or.inl (hw _ (List.mem_of_getElem? (i := 20) rfl))) (by decide) (t := (.array .byte)) (t' := .int) (by decide) (by decide))), F1.other W (Or.inr (slot_ne (C := "com/example/accrue/accrue/BitReader") (Or.inl (hw _ (List.mem_of_getElem? (i := 18) rfl))) (Or.inl (hw _ (List.mem_of_getElem? (i := 20) rfl))) (by decide) (t := .int) (t' := .int) (by decide) (by decide))), F2.same W, F3.other W (Or.inr (slot_ne (C := "com/example/accrue/accrue/BitReader") (Or.inl (hw _ (List.mem_of_getElem? (i := 28) rfl))) (Or.inl (hw _ (List.mem_of_getElem? (i := 20) rfl))) (by decide) (t := .long) (t' := .int) (by decide) (by decide)))⟩
theorem BR.set_buffer {Z : State} {h h' : Heap} {a : Addr} {a0 : Array Value} {w : Value} {v0 v1 v2 v3 : Value} (hw : ∀ d ∈ tables_1, d.before a0 Z = true) (R : BR Z h a v0 v1 v2 v3) (W : Wr h h' a (RoadKit.slotOf Z "com/example/accrue/accrue/BitReader" "buffer" "J") w) : BR Z h' a v0 v1 v2 w := by
  obtain ⟨E, F0, F1, F2, F3⟩ := R
  exact ⟨E.wr W, F0.other W (Or.inr (slot_ne (C := "com/example/accrue/accrue/BitReader") (Or.inr (hw _ (List.mem_of_getElem? (i := 11) rfl))) (Or.inl (hw _ (List.mem_of_getElem? (i := 28) rfl))) (by decide) (t := (.array .byte)) (t' := .long) (by decide) (by decide))), F1.other W (Or.inr (slot_ne (C := "com/example/accrue/accrue/BitReader") (Or.inl (hw _ (List.mem_of_getElem? (i := 18) rfl))) (Or.inl (hw _ (List.mem_of_getElem? (i := 28) rfl))) (by decide) (t := .int) (t' := .long) (by decide) (by decide))), F2.other W (Or.inr (slot_ne (C := "com/example/accrue/accrue/BitReader") (Or.inl (hw _ (List.mem_of_getElem? (i := 20) rfl))) (Or.inl (hw _ (List.mem_of_getElem? (i := 28) rfl))) (by decide) (t := .int) (t' := .long) (by decide) (by decide))), F3.same W⟩
theorem own_add (x y : Int32) (h1 : -2147483648 ≤ x.toInt + y.toInt) (h2 : x.toInt + y.toInt < 2147483648) : (x + y).toInt = x.toInt + y.toInt := by
  have := c_iadd x y; have := rng32 (x + y); omega
theorem own_sub (x y : Int32) (h1 : -2147483648 ≤ x.toInt - y.toInt) (h2 : x.toInt - y.toInt < 2147483648) : (x - y).toInt = x.toInt - y.toInt := by
  have := c_isub x y; have := rng32 (x - y); omega
theorem own_addk (x k : Int32) (K : Int) (hk : k.toInt = K) (h0 : 0 ≤ K) (h1 : -2147483648 ≤ x.toInt) (h : x.toInt + K < 2147483648) : (x + k).toInt = x.toInt + K := by
  subst hk; exact own_add x k (by omega) h
theorem own_subk (x k : Int32) (K : Int) (hk : k.toInt = K) (h0 : 0 ≤ K) (h : -2147483648 ≤ x.toInt - K) : (x - k).toInt = x.toInt - K := by
  subst hk; have := rng32 x; exact own_sub x k h (by omega)
theorem own_exp (t : Int32) (h0 : 0 ≤ t.toInt) (h1 : t.toInt ≤ 1000) : ((t + (7 : Int32)) / (8 : Int32)).toInt = (t.toInt + 7) / 8 := by
  have e := own_addk t 7 7 rfl (by decide) (by omega) (by omega)
  have := (c_idiv (t + 7) 8 8 rfl (by decide)).1 (by omega)
  omega
theorem own_rem (x y : Int32) (h : 0 < y.toInt) : 0 ≤ ((x &&& (2147483647 : Int32)) % y).toInt ∧ ((x &&& (2147483647 : Int32)) % y).toInt < y.toInt := by
  have h1 := (c_andS x 2147483647).2.2 (by decide)
  have := (c_iremV (x &&& 2147483647) y).1 h1 h
  omega
theorem own_n (x : Int32) : 0 ≤ (x &&& (7 : Int32)).toInt ∧ (x &&& (7 : Int32)).toInt ≤ 7 := c_and x 7 (by decide)
theorem own_8n (n : Int32) (h0 : 0 ≤ n.toInt) (h1 : n.toInt ≤ 7) : ((8 : Int32) * n).toInt = 8 * n.toInt := by
  have e := c_imul 8 n; have e8 : (8 : Int32).toInt = 8 := rfl; have := rng32 ((8 : Int32) * n)
  rw [e8] at e; omega
theorem own_ne0 (x : Int32) (h : 0 < x.toInt) : x ≠ 0 := by intro e; rw [e] at h; exact absurd h (by decide)
theorem d1_0 : decode prog_2_method_1_code 0 = .ok (.aload_n 0, 1) := by decide +kernel
theorem d1_1 : decode prog_2_method_1_code 1 = .ok (.invokespecial 1, 3) := by decide +kernel
theorem d1_4 : decode prog_2_method_1_code 4 = .ok (.aload_n 0, 1) := by decide +kernel
theorem d1_5 : decode prog_2_method_1_code 5 = .ok (.aload_n 1, 1) := by decide +kernel
theorem d1_6 : decode prog_2_method_1_code 6 = .ok (.putfield 7, 3) := by decide +kernel
theorem d1_9 : decode prog_2_method_1_code 9 = .ok (.return_, 1) := by decide +kernel
def k1 : OM := (prog_2_method_1_code, 2, "com/example/accrue/accrue/BitReader", "<init>", none, { frames := 1, cells := 0, slots := 0, locals := 12 })
theorem pn1 : plainName "com/example/accrue/accrue/BitReader" = true := by first | (simp [plainName, overriddenIn]; done) | decide +kernel
theorem pd1 : parseMethodDescriptor "([B)V" = some ⟨[(.array .byte)], none⟩ := by decide +kernel
set_option maxRecDepth 65536 in
set_option maxHeartbeats 4000000 in
theorem C_init {Z : State} {ω : OW} {h : Heap} (hw_ : ∀ d ∈ tables_1, d.before ω.2.2 Z = true) (hn_ : ω.2.1 ≤ h.size) (a w : Addr) (F0 : BR Z h a .null (.int 0) (.int 0) (.long 0)) (ga : ω.2.1 ≤ a) :
    oC Z ω (⟨"com/example/accrue/accrue/BitReader", "<init>", "([B)V"⟩ : MethodName) k1 [] #[.ref a, .ref w] h (fun v h' => v = none ∧ Keep h h' [a] ∧ BR Z h' a (.ref w) (.int 0) (.int 0) (.long 0)) := by
  refine oC_of hw_ hn_ pn1 rfl rfl (L := #[.val (.ref a), .val (.ref w)]) (fun m => by first | rfl | (simp [entryFrame, mkF, argsToLocals, Value.category, k1]; done)) ?_
  intro γ T X
  refine ow_aloadN X 1 d1_0 rfl rfl rfl ?_
  refine ow_initO X 4 7 8 9 rfl rfl rfl rfl d1_1 rfl rfl (by decide) (W := 0) (Nat.le_of_eq rfl) (by decide) ?_
  intro T_1 X_1
  refine ow_aloadN X_1 5 d1_4 rfl rfl rfl ?_
  refine ow_aloadN X_1 6 d1_5 rfl rfl rfl ?_
  refine ow_putF X_1 9 10 2 rfl rfl F0.2.1 F0.1 (Or.inr ⟨oSt_at X_1 11 rfl, rfl, rfl⟩) rfl (ty := (.array .byte)) (by decide) rfl rfl ga d1_6 rfl ?_
  intro T_2 h_2 X_2 W_2
  have f3_0 : BR Z h_2 a (.ref w) (.int 0) (.int 0) (.long 0) := BR.set_bytes (oSt_w X_2) F0 W_2
  have f3_1 : Keep h h_2 [a] := (Keep.refl h [a]).wr W_2 (Or.inl (List.mem_of_getElem? (i := 0) rfl))
  refine ow_retV X_2 rfl d1_9 (by decide) (by decide) ?_
  exact ⟨rfl, f3_1, f3_0⟩
theorem d3_0 : decode prog_2_method_6_code 0 = .ok (.aload_n 0, 1) := by decide +kernel
theorem d3_1 : decode prog_2_method_6_code 1 = .ok (.getfield 23, 3) := by decide +kernel
theorem d3_4 : decode prog_2_method_6_code 4 = .ok (.aload_n 0, 1) := by decide +kernel
theorem d3_5 : decode prog_2_method_6_code 5 = .ok (.getfield 7, 3) := by decide +kernel
theorem d3_8 : decode prog_2_method_6_code 8 = .ok (.arraylength, 1) := by decide +kernel
theorem d3_9 : decode prog_2_method_6_code 9 = .ok (.if_icmp .ne 16, 3) := by decide +kernel
theorem d3_12 : decode prog_2_method_6_code 12 = .ok (.aload_n 0, 1) := by decide +kernel
theorem d3_13 : decode prog_2_method_6_code 13 = .ok (.getfield 19, 3) := by decide +kernel
theorem d3_16 : decode prog_2_method_6_code 16 = .ok (.bipush 8, 2) := by decide +kernel
theorem d3_18 : decode prog_2_method_6_code 18 = .ok (.if_icmp .ge 7, 3) := by decide +kernel
theorem d3_21 : decode prog_2_method_6_code 21 = .ok (.iconst 1, 1) := by decide +kernel
theorem d3_22 : decode prog_2_method_6_code 22 = .ok (.goto 4, 3) := by decide +kernel
theorem d3_25 : decode prog_2_method_6_code 25 = .ok (.iconst 0, 1) := by decide +kernel
theorem d3_26 : decode prog_2_method_6_code 26 = .ok (.ireturn, 1) := by decide +kernel
def k3 : OM := (prog_2_method_6_code, 1, "com/example/accrue/accrue/BitReader", "atEnd", (some .boolean), { frames := 0, cells := 0, slots := 0, locals := 0 })
theorem pn3 : plainName "com/example/accrue/accrue/BitReader" = true := by first | (simp [plainName, overriddenIn]; done) | decide +kernel
theorem pd3 : parseMethodDescriptor "()Z" = some ⟨[], (some .boolean)⟩ := by decide +kernel
set_option maxRecDepth 65536 in
set_option maxHeartbeats 4000000 in
theorem C_end {Z : State} {ω : OW} {h : Heap} (hw_ : ∀ d ∈ tables_1, d.before ω.2.2 Z = true) (hn_ : ω.2.1 ≤ h.size) (a w : Addr) (o bc nn : Int32) (bf : Value) (g : Nat → Int32) (F0 : BR Z h a (.ref w) (.int o) (.int bc) bf) (A0 : oA Z h w .byte nn.toInt.toNat (fun i => .int (g i))) (hn : 0 ≤ nn.toInt) (hb8 : bc.toInt < 8) :
    oC Z ω (⟨"com/example/accrue/accrue/BitReader", "atEnd", "()Z"⟩ : MethodName) k3 [] #[.ref a] h (fun v h' => ∃ z : Int32, v = some (.int z) ∧ h' = h ∧ ((z = 1 ∧ o.toInt = nn.toInt) ∨ (z = 0 ∧ o.toInt ≠ nn.toInt))) := by
  refine oC_of hw_ hn_ pn3 rfl rfl (L := #[.val (.ref a)]) (fun m => by first | rfl | (simp [entryFrame, mkF, argsToLocals, Value.category, k3]; done)) ?_
  intro γ T X
  refine ow_aloadN X 1 d3_0 rfl rfl rfl ?_
  refine ow_getF X 4 17 rfl rfl F0.2.2.1 d3_1 rfl ?_
  intro T_4 X_4
  refine ow_aloadN X_4 5 d3_4 rfl rfl rfl ?_
  refine ow_getF X_4 8 10 rfl rfl F0.2.1 d3_5 rfl ?_
  intro T_5 X_5
  refine ow_alen X_5 9 (v := nn) A0 d3_8 rfl (by omega) ?_
  refine ow_icmp_ne X_5 12 25 d3_9 rfl rfl (fun (c9 : o.toInt ≠ nn.toInt) => ?_) (fun (c9 : o.toInt = nn.toInt) => ?_)
  · refine ow_iconst X_5 26 (0 : Int32) d3_25 rfl rfl ?_
    refine ow_retZ X_5 rfl d3_26 (by decide) (by decide) (by decide) ?_
    exact ⟨_, rfl, rfl, Or.inr ⟨rfl, by omega⟩⟩
  · refine ow_aloadN X_5 13 d3_12 rfl rfl rfl ?_
    refine ow_getF X_5 16 19 rfl rfl F0.2.2.2.1 d3_13 rfl ?_
    intro T_6 X_6
    refine ow_bipush X_6 18 (8 : Int32) d3_16 rfl rfl ?_
    refine ow_icmp_ge X_6 21 25 d3_18 rfl rfl (fun (c18 : 8 ≤ bc.toInt) => ?_) (fun (c18 : bc.toInt < 8) => ?_)
    · refine ow_iconst X_6 26 (0 : Int32) d3_25 rfl rfl ?_
      refine ow_retZ X_6 rfl d3_26 (by decide) (by decide) (by decide) ?_
      exact ⟨_, rfl, rfl, Or.inr ⟨rfl, by omega⟩⟩
    · refine ow_iconst X_6 22 (1 : Int32) d3_21 rfl rfl ?_
      refine ow_goto X_6 26 d3_22 rfl ?_
      refine ow_retZ X_6 rfl d3_26 (by decide) (by decide) (by decide) ?_
      exact ⟨_, rfl, rfl, Or.inl ⟨rfl, by omega⟩⟩
theorem d5_0 : decode method_2_code 0 = .ok (.iload_n 0, 1) := by decide +kernel
theorem d5_1 : decode method_2_code 1 = .ok (.bipush 7, 2) := by decide +kernel
theorem d5_3 : decode method_2_code 3 = .ok (.iadd, 1) := by decide +kernel
theorem d5_4 : decode method_2_code 4 = .ok (.bipush 8, 2) := by decide +kernel
theorem d5_6 : decode method_2_code 6 = .ok (.idiv, 1) := by decide +kernel
theorem d5_7 : decode method_2_code 7 = .ok (.iload_n 1, 1) := by decide +kernel
theorem d5_8 : decode method_2_code 8 = .ok (.if_icmp .ne 7, 3) := by decide +kernel
theorem d5_11 : decode method_2_code 11 = .ok (.iconst 1, 1) := by decide +kernel
theorem d5_12 : decode method_2_code 12 = .ok (.goto 4, 3) := by decide +kernel
theorem d5_15 : decode method_2_code 15 = .ok (.iconst 0, 1) := by decide +kernel
theorem d5_16 : decode method_2_code 16 = .ok (.ireturn, 1) := by decide +kernel
def k5 : OM := (method_2_code, 2, "com/example/accrue/accrue/BitReaderAtEndPinLaw", "expected", (some .boolean), { frames := 0, cells := 0, slots := 0, locals := 0 })
theorem pn5 : plainName "com/example/accrue/accrue/BitReaderAtEndPinLaw" = true := by first | (simp [plainName, overriddenIn]; done) | decide +kernel
theorem pd5 : parseMethodDescriptor "(II)Z" = some ⟨[.int, .int], (some .boolean)⟩ := by decide +kernel
set_option maxRecDepth 65536 in
set_option maxHeartbeats 4000000 in
theorem C_exp {Z : State} {ω : OW} {h : Heap} (hw_ : ∀ d ∈ tables_1, d.before ω.2.2 Z = true) (hn_ : ω.2.1 ≤ h.size) (t nn : Int32) (h0 : 0 ≤ t.toInt) (h1 : t.toInt ≤ 1000) :
    oC Z ω (⟨"com/example/accrue/accrue/BitReaderAtEndPinLaw", "expected", "(II)Z"⟩ : MethodName) k5 [] #[.int t, .int nn] h (fun v h' => ∃ z : Int32, v = some (.int z) ∧ h' = h ∧ ((z = 1 ∧ (t.toInt + 7) / 8 = nn.toInt) ∨ (z = 0 ∧ (t.toInt + 7) / 8 ≠ nn.toInt))) := by
  refine oC_of hw_ hn_ pn5 rfl rfl (L := #[.val (.int t), .val (.int nn)]) (fun m => by first | rfl | (simp [entryFrame, mkF, argsToLocals, Value.category, k5]; done)) ?_
  intro γ T X
  refine ow_iloadN X 1 d5_0 rfl rfl ?_
  refine ow_bipush X 3 (7 : Int32) d5_1 rfl rfl ?_
  refine ow_iadd X 4 d5_3 rfl ?_
  refine ow_bipush X 6 (8 : Int32) d5_4 rfl rfl ?_
  refine ow_idiv X 7 d5_6 rfl (by decide) ?_
  refine ow_iloadN X 8 d5_7 rfl rfl ?_
  refine ow_icmp_ne X 11 15 d5_8 rfl rfl (fun (c8 : ((t + (7 : Int32)) / (8 : Int32)).toInt ≠ nn.toInt) => ?_) (fun (c8 : ((t + (7 : Int32)) / (8 : Int32)).toInt = nn.toInt) => ?_)
  · refine ow_iconst X 16 (0 : Int32) d5_15 rfl rfl ?_
    refine ow_retZ X rfl d5_16 (by decide) (by decide) (by decide) ?_
    have e := own_exp t h0 h1
    exact ⟨_, rfl, rfl, Or.inr ⟨rfl, by omega⟩⟩
  · refine ow_iconst X 12 (1 : Int32) d5_11 rfl rfl ?_
    refine ow_goto X 16 d5_12 rfl ?_
    refine ow_retZ X rfl d5_16 (by decide) (by decide) (by decide) ?_
    have e := own_exp t h0 h1
    exact ⟨_, rfl, rfl, Or.inl ⟨rfl, by omega⟩⟩
theorem d4_0 : decode prog_2_method_2_code 0 = .ok (.iload_n 1, 1) := by decide +kernel
theorem d4_1 : decode prog_2_method_2_code 1 = .ok (.bipush 32, 2) := by decide +kernel
theorem d4_3 : decode prog_2_method_2_code 3 = .ok (.if_icmp .le 24, 3) := by decide +kernel
theorem d4_6 : decode prog_2_method_2_code 6 = .ok (.aload_n 0, 1) := by decide +kernel
theorem d4_7 : decode prog_2_method_2_code 7 = .ok (.iload_n 1, 1) := by decide +kernel
theorem d4_8 : decode prog_2_method_2_code 8 = .ok (.bipush 32, 2) := by decide +kernel
theorem d4_10 : decode prog_2_method_2_code 10 = .ok (.isub, 1) := by decide +kernel
theorem d4_11 : decode prog_2_method_2_code 11 = .ok (.invokevirtual 15, 3) := by decide +kernel
theorem d4_14 : decode prog_2_method_2_code 14 = .ok (.lstore_n 2, 1) := by decide +kernel
theorem d4_15 : decode prog_2_method_2_code 15 = .ok (.lload_n 2, 1) := by decide +kernel
theorem d4_16 : decode prog_2_method_2_code 16 = .ok (.bipush 32, 2) := by decide +kernel
theorem d4_18 : decode prog_2_method_2_code 18 = .ok (.lshl, 1) := by decide +kernel
theorem d4_19 : decode prog_2_method_2_code 19 = .ok (.aload_n 0, 1) := by decide +kernel
theorem d4_20 : decode prog_2_method_2_code 20 = .ok (.bipush 32, 2) := by decide +kernel
theorem d4_22 : decode prog_2_method_2_code 22 = .ok (.invokevirtual 15, 3) := by decide +kernel
theorem d4_25 : decode prog_2_method_2_code 25 = .ok (.lor, 1) := by decide +kernel
theorem d4_26 : decode prog_2_method_2_code 26 = .ok (.lreturn, 1) := by decide +kernel
theorem d4_27 : decode prog_2_method_2_code 27 = .ok (.aload_n 0, 1) := by decide +kernel
theorem d4_28 : decode prog_2_method_2_code 28 = .ok (.getfield 19, 3) := by decide +kernel
theorem d4_31 : decode prog_2_method_2_code 31 = .ok (.iload_n 1, 1) := by decide +kernel
theorem d4_32 : decode prog_2_method_2_code 32 = .ok (.if_icmp .ge 72, 3) := by decide +kernel
theorem d4_35 : decode prog_2_method_2_code 35 = .ok (.aload_n 0, 1) := by decide +kernel
theorem d4_36 : decode prog_2_method_2_code 36 = .ok (.getfield 23, 3) := by decide +kernel
theorem d4_39 : decode prog_2_method_2_code 39 = .ok (.aload_n 0, 1) := by decide +kernel
theorem d4_40 : decode prog_2_method_2_code 40 = .ok (.getfield 7, 3) := by decide +kernel
theorem d4_43 : decode prog_2_method_2_code 43 = .ok (.arraylength, 1) := by decide +kernel
theorem d4_44 : decode prog_2_method_2_code 44 = .ok (.if_icmp .ne 13, 3) := by decide +kernel
theorem d4_47 : decode prog_2_method_2_code 47 = .ok (.new 26, 3) := by decide +kernel
theorem d4_50 : decode prog_2_method_2_code 50 = .ok (.dup, 1) := by decide +kernel
theorem d4_51 : decode prog_2_method_2_code 51 = .ok (.ldc 28, 2) := by decide +kernel
theorem d4_53 : decode prog_2_method_2_code 53 = .ok (.invokespecial 30, 3) := by decide +kernel
theorem d4_56 : decode prog_2_method_2_code 56 = .ok (.athrow, 1) := by decide +kernel
theorem d4_57 : decode prog_2_method_2_code 57 = .ok (.aload_n 0, 1) := by decide +kernel
theorem d4_58 : decode prog_2_method_2_code 58 = .ok (.aload_n 0, 1) := by decide +kernel
theorem d4_59 : decode prog_2_method_2_code 59 = .ok (.getfield 33, 3) := by decide +kernel
theorem d4_62 : decode prog_2_method_2_code 62 = .ok (.bipush 8, 2) := by decide +kernel
theorem d4_64 : decode prog_2_method_2_code 64 = .ok (.lshl, 1) := by decide +kernel
theorem d4_65 : decode prog_2_method_2_code 65 = .ok (.aload_n 0, 1) := by decide +kernel
theorem d4_66 : decode prog_2_method_2_code 66 = .ok (.getfield 7, 3) := by decide +kernel
theorem d4_69 : decode prog_2_method_2_code 69 = .ok (.aload_n 0, 1) := by decide +kernel
theorem d4_70 : decode prog_2_method_2_code 70 = .ok (.dup, 1) := by decide +kernel
theorem d4_71 : decode prog_2_method_2_code 71 = .ok (.getfield 23, 3) := by decide +kernel
theorem d4_74 : decode prog_2_method_2_code 74 = .ok (.dup_x1, 1) := by decide +kernel
theorem d4_75 : decode prog_2_method_2_code 75 = .ok (.iconst 1, 1) := by decide +kernel
theorem d4_76 : decode prog_2_method_2_code 76 = .ok (.iadd, 1) := by decide +kernel
theorem d4_77 : decode prog_2_method_2_code 77 = .ok (.putfield 23, 3) := by decide +kernel
theorem d4_80 : decode prog_2_method_2_code 80 = .ok (.baload, 1) := by decide +kernel
theorem d4_81 : decode prog_2_method_2_code 81 = .ok (.sipush 255, 3) := by decide +kernel
theorem d4_84 : decode prog_2_method_2_code 84 = .ok (.iand, 1) := by decide +kernel
theorem d4_85 : decode prog_2_method_2_code 85 = .ok (.i2l, 1) := by decide +kernel
theorem d4_86 : decode prog_2_method_2_code 86 = .ok (.lor, 1) := by decide +kernel
theorem d4_87 : decode prog_2_method_2_code 87 = .ok (.putfield 33, 3) := by decide +kernel
theorem d4_90 : decode prog_2_method_2_code 90 = .ok (.aload_n 0, 1) := by decide +kernel
theorem d4_91 : decode prog_2_method_2_code 91 = .ok (.dup, 1) := by decide +kernel
theorem d4_92 : decode prog_2_method_2_code 92 = .ok (.getfield 19, 3) := by decide +kernel
theorem d4_95 : decode prog_2_method_2_code 95 = .ok (.bipush 8, 2) := by decide +kernel
theorem d4_97 : decode prog_2_method_2_code 97 = .ok (.iadd, 1) := by decide +kernel
theorem d4_98 : decode prog_2_method_2_code 98 = .ok (.putfield 19, 3) := by decide +kernel
theorem d4_101 : decode prog_2_method_2_code 101 = .ok (.goto (-74), 3) := by decide +kernel
theorem d4_104 : decode prog_2_method_2_code 104 = .ok (.aload_n 0, 1) := by decide +kernel
theorem d4_105 : decode prog_2_method_2_code 105 = .ok (.dup, 1) := by decide +kernel
theorem d4_106 : decode prog_2_method_2_code 106 = .ok (.getfield 19, 3) := by decide +kernel
theorem d4_109 : decode prog_2_method_2_code 109 = .ok (.iload_n 1, 1) := by decide +kernel
theorem d4_110 : decode prog_2_method_2_code 110 = .ok (.isub, 1) := by decide +kernel
theorem d4_111 : decode prog_2_method_2_code 111 = .ok (.putfield 19, 3) := by decide +kernel
theorem d4_114 : decode prog_2_method_2_code 114 = .ok (.aload_n 0, 1) := by decide +kernel
theorem d4_115 : decode prog_2_method_2_code 115 = .ok (.getfield 33, 3) := by decide +kernel
theorem d4_118 : decode prog_2_method_2_code 118 = .ok (.aload_n 0, 1) := by decide +kernel
theorem d4_119 : decode prog_2_method_2_code 119 = .ok (.getfield 19, 3) := by decide +kernel
theorem d4_122 : decode prog_2_method_2_code 122 = .ok (.lushr, 1) := by decide +kernel
theorem d4_123 : decode prog_2_method_2_code 123 = .ok (.lconst 1, 1) := by decide +kernel
theorem d4_124 : decode prog_2_method_2_code 124 = .ok (.iload_n 1, 1) := by decide +kernel
theorem d4_125 : decode prog_2_method_2_code 125 = .ok (.lshl, 1) := by decide +kernel
theorem d4_126 : decode prog_2_method_2_code 126 = .ok (.lconst 1, 1) := by decide +kernel
theorem d4_127 : decode prog_2_method_2_code 127 = .ok (.lsub, 1) := by decide +kernel
theorem d4_128 : decode prog_2_method_2_code 128 = .ok (.land, 1) := by decide +kernel
theorem d4_129 : decode prog_2_method_2_code 129 = .ok (.lstore_n 2, 1) := by decide +kernel
theorem d4_130 : decode prog_2_method_2_code 130 = .ok (.aload_n 0, 1) := by decide +kernel
theorem d4_131 : decode prog_2_method_2_code 131 = .ok (.dup, 1) := by decide +kernel
theorem d4_132 : decode prog_2_method_2_code 132 = .ok (.getfield 33, 3) := by decide +kernel
theorem d4_135 : decode prog_2_method_2_code 135 = .ok (.lconst 1, 1) := by decide +kernel
theorem d4_136 : decode prog_2_method_2_code 136 = .ok (.aload_n 0, 1) := by decide +kernel
theorem d4_137 : decode prog_2_method_2_code 137 = .ok (.getfield 19, 3) := by decide +kernel
theorem d4_140 : decode prog_2_method_2_code 140 = .ok (.lshl, 1) := by decide +kernel
theorem d4_141 : decode prog_2_method_2_code 141 = .ok (.lconst 1, 1) := by decide +kernel
theorem d4_142 : decode prog_2_method_2_code 142 = .ok (.lsub, 1) := by decide +kernel
theorem d4_143 : decode prog_2_method_2_code 143 = .ok (.land, 1) := by decide +kernel
theorem d4_144 : decode prog_2_method_2_code 144 = .ok (.putfield 33, 3) := by decide +kernel
theorem d4_147 : decode prog_2_method_2_code 147 = .ok (.lload_n 2, 1) := by decide +kernel
theorem d4_148 : decode prog_2_method_2_code 148 = .ok (.lreturn, 1) := by decide +kernel
def k4 : OM := (prog_2_method_2_code, 4, "com/example/accrue/accrue/BitReader", "read", (some .long), { frames := 0, cells := 0, slots := 0, locals := 0 })
theorem pn4 : plainName "com/example/accrue/accrue/BitReader" = true := by first | (simp [plainName, overriddenIn]; done) | decide +kernel
theorem pd4 : parseMethodDescriptor "(I)J" = some ⟨[.int], (some .long)⟩ := by decide +kernel
def k4b : OM := (prog_2_method_2_code, 4, "com/example/accrue/accrue/BitReader", "read", (some .long), { frames := 1, cells := 0, slots := 0, locals := 24 })
set_option maxRecDepth 65536 in
set_option maxHeartbeats 4000000 in
theorem L_rd {Z : State} {ω : OW} {γ : OG} (h0 : Heap) (a w : Addr) (cnt nn : Int32) (g : Nat → Int32) (t : Int) (ga : ω.2.1 ≤ a) (ne : a ≠ w) (hn0 : 0 ≤ nn.toInt) (hn1 : nn.toInt ≤ 1000) (hc0 : 0 ≤ cnt.toInt) (hc1 : cnt.toInt ≤ 32) (hT : t + cnt.toInt ≤ 8 * nn.toInt) (d : Nat) : ∀ {T : State} {h : Heap} (X : oSt Z ω γ k4 T h 0 0) (o bc : Int32) (bf : Int64) (F0 : BR Z h a (.ref w) (.int o) (.int bc) (.long bf)) (A0 : oA Z h w .byte nn.toInt.toNat (fun i => .int (g i))) (K0 : Keep h0 h [a]) (h1 : 0 ≤ o.toInt) (h2 : o.toInt ≤ nn.toInt) (h3 : 0 ≤ bc.toInt) (h4 : bc.toInt < cnt.toInt + 8) (ht : 8 * o.toInt - bc.toInt = t) (hd_ : (40 - bc.toInt).toNat = d),
    oWP ω γ k4 (fun v h' => ∃ (rr bf' : Int64) (o' bc' : Int32), v = some (.long rr) ∧ Keep h0 h' [a] ∧ BR Z h' a (.ref w) (.int o') (.int bc') (.long bf') ∧ 0 ≤ o'.toInt ∧ o'.toInt ≤ nn.toInt ∧ 0 ≤ bc'.toInt ∧ bc'.toInt < 8 ∧ 8 * o'.toInt - bc'.toInt = t + cnt.toInt) T 27 #[.val (.ref a), .val (.int cnt), .unset, .unset] [] := by
  induction d using Nat.strongRecOn with
  | _ d ih =>
    intro T h X o bc bf F0 A0 K0 h1 h2 h3 h4 ht hd_
    refine ow_aloadN X 28 d4_27 rfl rfl rfl ?_
    refine ow_getF X 31 19 rfl rfl F0.2.2.2.1 d4_28 rfl ?_
    intro T_7 X_7
    refine ow_iloadN X_7 32 d4_31 rfl rfl ?_
    refine ow_icmp_ge X_7 35 104 d4_32 rfl rfl (fun (c32 : cnt.toInt ≤ bc.toInt) => ?_) (fun (c32 : bc.toInt < cnt.toInt) => ?_)
    · refine ow_aloadN X_7 105 d4_104 rfl rfl rfl ?_
      refine ow_dup X_7 106 d4_105 rfl rfl ?_
      refine ow_getF X_7 109 19 rfl rfl F0.2.2.2.1 d4_106 rfl ?_
      intro T_8 X_8
      refine ow_iloadN X_8 110 d4_109 rfl rfl ?_
      refine ow_isub X_8 111 d4_110 rfl ?_
      refine ow_putF X_8 114 19 2 rfl rfl F0.2.2.2.1 F0.1 (Or.inl (oSt_at X_8 20 rfl)) rfl (ty := .int) (by decide) rfl rfl ga d4_111 rfl ?_
      intro T_9 h_9 X_9 W_9
      have f10_0 : BR Z h_9 a (.ref w) (.int o) (.int (bc - cnt)) (.long bf) := BR.set_bufferCount (oSt_w X_9) F0 W_9
      have f10_1 : oA Z h_9 w .byte nn.toInt.toNat (fun i => .int (g i)) := A0.other W_9 (Ne.symm ne)
      have f10_2 : Keep h0 h_9 [a] := K0.wr W_9 (Or.inl (List.mem_of_getElem? (i := 0) rfl))
      refine ow_aloadN X_9 115 d4_114 rfl rfl rfl ?_
      refine ow_getF X_9 118 27 rfl rfl f10_0.2.2.2.2 d4_115 rfl ?_
      intro T_11 X_11
      refine ow_aloadN X_11 119 d4_118 rfl rfl rfl ?_
      refine ow_getF X_11 122 19 rfl rfl f10_0.2.2.2.1 d4_119 rfl ?_
      intro T_12 X_12
      refine ow_lushr X_12 123 d4_122 rfl ?_
      refine ow_lconst X_12 124 (1 : Int64) d4_123 rfl rfl ?_
      refine ow_iloadN X_12 125 d4_124 rfl rfl ?_
      refine ow_lshl X_12 126 d4_125 rfl ?_
      refine ow_lconst X_12 127 (1 : Int64) d4_126 rfl rfl ?_
      refine ow_lsub X_12 128 d4_127 rfl ?_
      refine ow_land X_12 129 d4_128 rfl ?_
      refine ow_lstoreN X_12 130 (L' := #[.val (.ref a), .val (.int cnt), .val (.long (((bf.toUInt64 >>> ((bc - cnt) &&& 0x3f).toInt64.toUInt64).toInt64) &&& (((1 : Int64) <<< (cnt &&& 0x3f).toInt64) - (1 : Int64)))), .second]) d4_129 rfl rfl ?_
      refine ow_aloadN X_12 131 d4_130 rfl rfl rfl ?_
      refine ow_dup X_12 132 d4_131 rfl rfl ?_
      refine ow_getF X_12 135 27 rfl rfl f10_0.2.2.2.2 d4_132 rfl ?_
      intro T_13 X_13
      refine ow_lconst X_13 136 (1 : Int64) d4_135 rfl rfl ?_
      refine ow_aloadN X_13 137 d4_136 rfl rfl rfl ?_
      refine ow_getF X_13 140 19 rfl rfl f10_0.2.2.2.1 d4_137 rfl ?_
      intro T_14 X_14
      refine ow_lshl X_14 141 d4_140 rfl ?_
      refine ow_lconst X_14 142 (1 : Int64) d4_141 rfl rfl ?_
      refine ow_lsub X_14 143 d4_142 rfl ?_
      refine ow_land X_14 144 d4_143 rfl ?_
      refine ow_putF X_14 147 27 2 rfl rfl f10_0.2.2.2.2 f10_0.1 (Or.inl (oSt_at X_14 28 rfl)) rfl (ty := .long) (by decide) rfl rfl ga d4_144 rfl ?_
      intro T_15 h_15 X_15 W_15
      have f16_0 : BR Z h_15 a (.ref w) (.int o) (.int (bc - cnt)) (.long (bf &&& (((1 : Int64) <<< ((bc - cnt) &&& 0x3f).toInt64) - (1 : Int64)))) := BR.set_buffer (oSt_w X_15) f10_0 W_15
      have f16_1 : oA Z h_15 w .byte nn.toInt.toNat (fun i => .int (g i)) := f10_1.other W_15 (Ne.symm ne)
      have f16_2 : Keep h0 h_15 [a] := f10_2.wr W_15 (Or.inl (List.mem_of_getElem? (i := 0) rfl))
      refine ow_lloadN X_15 148 d4_147 rfl rfl ?_
      refine ow_retJ X_15 rfl d4_148 (by decide) (by decide) ?_
      have e1 := own_sub bc cnt (by omega) (by omega)
      exact ⟨_, _, _, _, rfl, f16_2, f16_0, h1, h2, by omega, by omega, by omega⟩
    · refine ow_aloadN X_7 36 d4_35 rfl rfl rfl ?_
      refine ow_getF X_7 39 17 rfl rfl F0.2.2.1 d4_36 rfl ?_
      intro T_17 X_17
      refine ow_aloadN X_17 40 d4_39 rfl rfl rfl ?_
      refine ow_getF X_17 43 10 rfl rfl F0.2.1 d4_40 rfl ?_
      intro T_18 X_18
      refine ow_alen X_18 44 (v := nn) A0 d4_43 rfl (by omega) ?_
      refine ow_icmp_ne X_18 47 57 d4_44 rfl rfl (fun (c44 : o.toInt ≠ nn.toInt) => ?_) (fun (c44 : o.toInt = nn.toInt) => by exfalso; omega)
      refine ow_aloadN X_18 58 d4_57 rfl rfl rfl ?_
      refine ow_aloadN X_18 59 d4_58 rfl rfl rfl ?_
      refine ow_getF X_18 62 27 rfl rfl F0.2.2.2.2 d4_59 rfl ?_
      intro T_19 X_19
      refine ow_bipush X_19 64 (8 : Int32) d4_62 rfl rfl ?_
      refine ow_lshl X_19 65 d4_64 rfl ?_
      refine ow_aloadN X_19 66 d4_65 rfl rfl rfl ?_
      refine ow_getF X_19 69 10 rfl rfl F0.2.1 d4_66 rfl ?_
      intro T_20 X_20
      refine ow_aloadN X_20 70 d4_69 rfl rfl rfl ?_
      refine ow_dup X_20 71 d4_70 rfl rfl ?_
      refine ow_getF X_20 74 17 rfl rfl F0.2.2.1 d4_71 rfl ?_
      intro T_21 X_21
      refine ow_dupX1 X_21 75 d4_74 rfl rfl rfl ?_
      refine ow_iconst X_21 76 (1 : Int32) d4_75 rfl rfl ?_
      refine ow_iadd X_21 77 d4_76 rfl ?_
      refine ow_putF X_21 80 17 2 rfl rfl F0.2.2.1 F0.1 (Or.inl (oSt_at X_21 18 rfl)) rfl (ty := .int) (by decide) rfl rfl ga d4_77 rfl ?_
      intro T_22 h_22 X_22 W_22
      have f23_0 : BR Z h_22 a (.ref w) (.int (o + (1 : Int32))) (.int bc) (.long bf) := BR.set_offset (oSt_w X_22) F0 W_22
      have f23_1 : oA Z h_22 w .byte nn.toInt.toNat (fun i => .int (g i)) := A0.other W_22 (Ne.symm ne)
      have f23_2 : Keep h0 h_22 [a] := K0.wr W_22 (Or.inl (List.mem_of_getElem? (i := 0) rfl))
      refine ow_baload X_22 81 f23_1 d4_80 rfl h1 (by omega) rfl ?_
      refine ow_sipush X_22 84 (255 : Int32) d4_81 rfl rfl ?_
      refine ow_iand X_22 85 d4_84 rfl ?_
      refine ow_i2l X_22 86 d4_85 rfl ?_
      refine ow_lor X_22 87 d4_86 rfl ?_
      refine ow_putF X_22 90 27 2 rfl rfl f23_0.2.2.2.2 f23_0.1 (Or.inl (oSt_at X_22 28 rfl)) rfl (ty := .long) (by decide) rfl rfl ga d4_87 rfl ?_
      intro T_24 h_24 X_24 W_24
      have f25_0 : BR Z h_24 a (.ref w) (.int (o + (1 : Int32))) (.int bc) (.long ((bf <<< ((8 : Int32) &&& 0x3f).toInt64) ||| (((g o.toInt.toNat) &&& (255 : Int32)).toInt64))) := BR.set_buffer (oSt_w X_24) f23_0 W_24
      have f25_1 : oA Z h_24 w .byte nn.toInt.toNat (fun i => .int (g i)) := f23_1.other W_24 (Ne.symm ne)
      have f25_2 : Keep h0 h_24 [a] := f23_2.wr W_24 (Or.inl (List.mem_of_getElem? (i := 0) rfl))
      refine ow_aloadN X_24 91 d4_90 rfl rfl rfl ?_
      refine ow_dup X_24 92 d4_91 rfl rfl ?_
      refine ow_getF X_24 95 19 rfl rfl f25_0.2.2.2.1 d4_92 rfl ?_
      intro T_26 X_26
      refine ow_bipush X_26 97 (8 : Int32) d4_95 rfl rfl ?_
      refine ow_iadd X_26 98 d4_97 rfl ?_
      refine ow_putF X_26 101 19 2 rfl rfl f25_0.2.2.2.1 f25_0.1 (Or.inl (oSt_at X_26 20 rfl)) rfl (ty := .int) (by decide) rfl rfl ga d4_98 rfl ?_
      intro T_27 h_27 X_27 W_27
      have f28_0 : BR Z h_27 a (.ref w) (.int (o + (1 : Int32))) (.int (bc + (8 : Int32))) (.long ((bf <<< ((8 : Int32) &&& 0x3f).toInt64) ||| (((g o.toInt.toNat) &&& (255 : Int32)).toInt64))) := BR.set_bufferCount (oSt_w X_27) f25_0 W_27
      have f28_1 : oA Z h_27 w .byte nn.toInt.toNat (fun i => .int (g i)) := f25_1.other W_27 (Ne.symm ne)
      have f28_2 : Keep h0 h_27 [a] := f25_2.wr W_27 (Or.inl (List.mem_of_getElem? (i := 0) rfl))
      refine ow_goto X_27 27 d4_101 rfl ?_
      have e1 := own_addk o 1 1 rfl (by decide) (by omega) (by omega); have e2 := own_addk bc 8 8 rfl (by decide) (by omega) (by omega)
      exact ih _ (by omega) X_27 _ _ _ f28_0 f28_1 f28_2 (by omega) (by omega) (by omega) (by omega) (by omega) rfl
set_option maxRecDepth 65536 in
set_option maxHeartbeats 4000000 in
theorem C_rd32 {Z : State} {ω : OW} {h : Heap} (hw_ : ∀ d ∈ tables_1, d.before ω.2.2 Z = true) (hn_ : ω.2.1 ≤ h.size) (a w : Addr) (cnt o bc nn : Int32) (bf : Int64) (g : Nat → Int32) (F0 : BR Z h a (.ref w) (.int o) (.int bc) (.long bf)) (A0 : oA Z h w .byte nn.toInt.toNat (fun i => .int (g i))) (ga : ω.2.1 ≤ a) (ne : a ≠ w) (hn0 : 0 ≤ nn.toInt) (hn1 : nn.toInt ≤ 1000) (h1 : 0 ≤ o.toInt) (h2 : o.toInt ≤ nn.toInt) (h3 : 0 ≤ bc.toInt) (h4 : bc.toInt < 8) (hc0 : 0 ≤ cnt.toInt) (hT : 8 * o.toInt - bc.toInt + cnt.toInt ≤ 8 * nn.toInt) (hc : cnt.toInt ≤ 32) :
    oC Z ω (⟨"com/example/accrue/accrue/BitReader", "read", "(I)J"⟩ : MethodName) k4 [] #[.ref a, .int cnt] h (fun v h' => ∃ (rr bf' : Int64) (o' bc' : Int32), v = some (.long rr) ∧ Keep h h' [a] ∧ BR Z h' a (.ref w) (.int o') (.int bc') (.long bf') ∧ 0 ≤ o'.toInt ∧ o'.toInt ≤ nn.toInt ∧ 0 ≤ bc'.toInt ∧ bc'.toInt < 8 ∧ 8 * o'.toInt - bc'.toInt = 8 * o.toInt - bc.toInt + cnt.toInt) := by
  refine oC_of hw_ hn_ pn4 rfl rfl (L := #[.val (.ref a), .val (.int cnt), .unset, .unset]) (fun m => by first | rfl | (simp [entryFrame, mkF, argsToLocals, Value.category, k4]; done)) ?_
  intro γ T X
  refine ow_iloadN X 1 d4_0 rfl rfl ?_
  refine ow_bipush X 3 (32 : Int32) d4_1 rfl rfl ?_
  refine ow_icmp_le X 6 27 d4_3 rfl rfl (fun (c3 : cnt.toInt ≤ 32) => ?_) (fun (c3 : 32 < cnt.toInt) => by exfalso; omega)
  exact L_rd h a w cnt nn g _ ga ne hn0 hn1 hc0 (by omega) hT _ X o bc bf F0 A0 (Keep.refl h [a]) h1 h2 h3 (by omega) rfl rfl
set_option maxRecDepth 65536 in
set_option maxHeartbeats 4000000 in
theorem L_rdb {Z : State} {ω : OW} {γ : OG} (h0 : Heap) (a w : Addr) (cnt nn : Int32) (g : Nat → Int32) (t : Int) (ga : ω.2.1 ≤ a) (ne : a ≠ w) (hn0 : 0 ≤ nn.toInt) (hn1 : nn.toInt ≤ 1000) (hc0 : 0 ≤ cnt.toInt) (hc1 : cnt.toInt ≤ 32) (hT : t + cnt.toInt ≤ 8 * nn.toInt) (d : Nat) : ∀ {T : State} {h : Heap} (X : oSt Z ω γ k4b T h 0 0) (o bc : Int32) (bf : Int64) (F0 : BR Z h a (.ref w) (.int o) (.int bc) (.long bf)) (A0 : oA Z h w .byte nn.toInt.toNat (fun i => .int (g i))) (K0 : Keep h0 h [a]) (h1 : 0 ≤ o.toInt) (h2 : o.toInt ≤ nn.toInt) (h3 : 0 ≤ bc.toInt) (h4 : bc.toInt < cnt.toInt + 8) (ht : 8 * o.toInt - bc.toInt = t) (hd_ : (40 - bc.toInt).toNat = d),
    oWP ω γ k4b (fun v h' => ∃ (rr bf' : Int64) (o' bc' : Int32), v = some (.long rr) ∧ Keep h0 h' [a] ∧ BR Z h' a (.ref w) (.int o') (.int bc') (.long bf') ∧ 0 ≤ o'.toInt ∧ o'.toInt ≤ nn.toInt ∧ 0 ≤ bc'.toInt ∧ bc'.toInt < 8 ∧ 8 * o'.toInt - bc'.toInt = t + cnt.toInt) T 27 #[.val (.ref a), .val (.int cnt), .unset, .unset] [] := by
  induction d using Nat.strongRecOn with
  | _ d ih =>
    intro T h X o bc bf F0 A0 K0 h1 h2 h3 h4 ht hd_
    refine ow_aloadN X 28 d4_27 rfl rfl rfl ?_
    refine ow_getF X 31 19 rfl rfl F0.2.2.2.1 d4_28 rfl ?_
    intro T_29 X_29
    refine ow_iloadN X_29 32 d4_31 rfl rfl ?_
    refine ow_icmp_ge X_29 35 104 d4_32 rfl rfl (fun (c32 : cnt.toInt ≤ bc.toInt) => ?_) (fun (c32 : bc.toInt < cnt.toInt) => ?_)
    · refine ow_aloadN X_29 105 d4_104 rfl rfl rfl ?_
      refine ow_dup X_29 106 d4_105 rfl rfl ?_
      refine ow_getF X_29 109 19 rfl rfl F0.2.2.2.1 d4_106 rfl ?_
      intro T_30 X_30
      refine ow_iloadN X_30 110 d4_109 rfl rfl ?_
      refine ow_isub X_30 111 d4_110 rfl ?_
      refine ow_putF X_30 114 19 2 rfl rfl F0.2.2.2.1 F0.1 (Or.inl (oSt_at X_30 20 rfl)) rfl (ty := .int) (by decide) rfl rfl ga d4_111 rfl ?_
      intro T_31 h_31 X_31 W_31
      have f32_0 : BR Z h_31 a (.ref w) (.int o) (.int (bc - cnt)) (.long bf) := BR.set_bufferCount (oSt_w X_31) F0 W_31
      have f32_1 : oA Z h_31 w .byte nn.toInt.toNat (fun i => .int (g i)) := A0.other W_31 (Ne.symm ne)
      have f32_2 : Keep h0 h_31 [a] := K0.wr W_31 (Or.inl (List.mem_of_getElem? (i := 0) rfl))
      refine ow_aloadN X_31 115 d4_114 rfl rfl rfl ?_
      refine ow_getF X_31 118 27 rfl rfl f32_0.2.2.2.2 d4_115 rfl ?_
      intro T_33 X_33
      refine ow_aloadN X_33 119 d4_118 rfl rfl rfl ?_
      refine ow_getF X_33 122 19 rfl rfl f32_0.2.2.2.1 d4_119 rfl ?_
      intro T_34 X_34
      refine ow_lushr X_34 123 d4_122 rfl ?_
      refine ow_lconst X_34 124 (1 : Int64) d4_123 rfl rfl ?_
      refine ow_iloadN X_34 125 d4_124 rfl rfl ?_
      refine ow_lshl X_34 126 d4_125 rfl ?_
      refine ow_lconst X_34 127 (1 : Int64) d4_126 rfl rfl ?_
      refine ow_lsub X_34 128 d4_127 rfl ?_
      refine ow_land X_34 129 d4_128 rfl ?_
      refine ow_lstoreN X_34 130 (L' := #[.val (.ref a), .val (.int cnt), .val (.long (((bf.toUInt64 >>> ((bc - cnt) &&& 0x3f).toInt64.toUInt64).toInt64) &&& (((1 : Int64) <<< (cnt &&& 0x3f).toInt64) - (1 : Int64)))), .second]) d4_129 rfl rfl ?_
      refine ow_aloadN X_34 131 d4_130 rfl rfl rfl ?_
      refine ow_dup X_34 132 d4_131 rfl rfl ?_
      refine ow_getF X_34 135 27 rfl rfl f32_0.2.2.2.2 d4_132 rfl ?_
      intro T_35 X_35
      refine ow_lconst X_35 136 (1 : Int64) d4_135 rfl rfl ?_
      refine ow_aloadN X_35 137 d4_136 rfl rfl rfl ?_
      refine ow_getF X_35 140 19 rfl rfl f32_0.2.2.2.1 d4_137 rfl ?_
      intro T_36 X_36
      refine ow_lshl X_36 141 d4_140 rfl ?_
      refine ow_lconst X_36 142 (1 : Int64) d4_141 rfl rfl ?_
      refine ow_lsub X_36 143 d4_142 rfl ?_
      refine ow_land X_36 144 d4_143 rfl ?_
      refine ow_putF X_36 147 27 2 rfl rfl f32_0.2.2.2.2 f32_0.1 (Or.inl (oSt_at X_36 28 rfl)) rfl (ty := .long) (by decide) rfl rfl ga d4_144 rfl ?_
      intro T_37 h_37 X_37 W_37
      have f38_0 : BR Z h_37 a (.ref w) (.int o) (.int (bc - cnt)) (.long (bf &&& (((1 : Int64) <<< ((bc - cnt) &&& 0x3f).toInt64) - (1 : Int64)))) := BR.set_buffer (oSt_w X_37) f32_0 W_37
      have f38_1 : oA Z h_37 w .byte nn.toInt.toNat (fun i => .int (g i)) := f32_1.other W_37 (Ne.symm ne)
      have f38_2 : Keep h0 h_37 [a] := f32_2.wr W_37 (Or.inl (List.mem_of_getElem? (i := 0) rfl))
      refine ow_lloadN X_37 148 d4_147 rfl rfl ?_
      refine ow_retJ X_37 rfl d4_148 (by decide) (by decide) ?_
      have e1 := own_sub bc cnt (by omega) (by omega)
      exact ⟨_, _, _, _, rfl, f38_2, f38_0, h1, h2, by omega, by omega, by omega⟩
    · refine ow_aloadN X_29 36 d4_35 rfl rfl rfl ?_
      refine ow_getF X_29 39 17 rfl rfl F0.2.2.1 d4_36 rfl ?_
      intro T_39 X_39
      refine ow_aloadN X_39 40 d4_39 rfl rfl rfl ?_
      refine ow_getF X_39 43 10 rfl rfl F0.2.1 d4_40 rfl ?_
      intro T_40 X_40
      refine ow_alen X_40 44 (v := nn) A0 d4_43 rfl (by omega) ?_
      refine ow_icmp_ne X_40 47 57 d4_44 rfl rfl (fun (c44 : o.toInt ≠ nn.toInt) => ?_) (fun (c44 : o.toInt = nn.toInt) => by exfalso; omega)
      refine ow_aloadN X_40 58 d4_57 rfl rfl rfl ?_
      refine ow_aloadN X_40 59 d4_58 rfl rfl rfl ?_
      refine ow_getF X_40 62 27 rfl rfl F0.2.2.2.2 d4_59 rfl ?_
      intro T_41 X_41
      refine ow_bipush X_41 64 (8 : Int32) d4_62 rfl rfl ?_
      refine ow_lshl X_41 65 d4_64 rfl ?_
      refine ow_aloadN X_41 66 d4_65 rfl rfl rfl ?_
      refine ow_getF X_41 69 10 rfl rfl F0.2.1 d4_66 rfl ?_
      intro T_42 X_42
      refine ow_aloadN X_42 70 d4_69 rfl rfl rfl ?_
      refine ow_dup X_42 71 d4_70 rfl rfl ?_
      refine ow_getF X_42 74 17 rfl rfl F0.2.2.1 d4_71 rfl ?_
      intro T_43 X_43
      refine ow_dupX1 X_43 75 d4_74 rfl rfl rfl ?_
      refine ow_iconst X_43 76 (1 : Int32) d4_75 rfl rfl ?_
      refine ow_iadd X_43 77 d4_76 rfl ?_
      refine ow_putF X_43 80 17 2 rfl rfl F0.2.2.1 F0.1 (Or.inl (oSt_at X_43 18 rfl)) rfl (ty := .int) (by decide) rfl rfl ga d4_77 rfl ?_
      intro T_44 h_44 X_44 W_44
      have f45_0 : BR Z h_44 a (.ref w) (.int (o + (1 : Int32))) (.int bc) (.long bf) := BR.set_offset (oSt_w X_44) F0 W_44
      have f45_1 : oA Z h_44 w .byte nn.toInt.toNat (fun i => .int (g i)) := A0.other W_44 (Ne.symm ne)
      have f45_2 : Keep h0 h_44 [a] := K0.wr W_44 (Or.inl (List.mem_of_getElem? (i := 0) rfl))
      refine ow_baload X_44 81 f45_1 d4_80 rfl h1 (by omega) rfl ?_
      refine ow_sipush X_44 84 (255 : Int32) d4_81 rfl rfl ?_
      refine ow_iand X_44 85 d4_84 rfl ?_
      refine ow_i2l X_44 86 d4_85 rfl ?_
      refine ow_lor X_44 87 d4_86 rfl ?_
      refine ow_putF X_44 90 27 2 rfl rfl f45_0.2.2.2.2 f45_0.1 (Or.inl (oSt_at X_44 28 rfl)) rfl (ty := .long) (by decide) rfl rfl ga d4_87 rfl ?_
      intro T_46 h_46 X_46 W_46
      have f47_0 : BR Z h_46 a (.ref w) (.int (o + (1 : Int32))) (.int bc) (.long ((bf <<< ((8 : Int32) &&& 0x3f).toInt64) ||| (((g o.toInt.toNat) &&& (255 : Int32)).toInt64))) := BR.set_buffer (oSt_w X_46) f45_0 W_46
      have f47_1 : oA Z h_46 w .byte nn.toInt.toNat (fun i => .int (g i)) := f45_1.other W_46 (Ne.symm ne)
      have f47_2 : Keep h0 h_46 [a] := f45_2.wr W_46 (Or.inl (List.mem_of_getElem? (i := 0) rfl))
      refine ow_aloadN X_46 91 d4_90 rfl rfl rfl ?_
      refine ow_dup X_46 92 d4_91 rfl rfl ?_
      refine ow_getF X_46 95 19 rfl rfl f47_0.2.2.2.1 d4_92 rfl ?_
      intro T_48 X_48
      refine ow_bipush X_48 97 (8 : Int32) d4_95 rfl rfl ?_
      refine ow_iadd X_48 98 d4_97 rfl ?_
      refine ow_putF X_48 101 19 2 rfl rfl f47_0.2.2.2.1 f47_0.1 (Or.inl (oSt_at X_48 20 rfl)) rfl (ty := .int) (by decide) rfl rfl ga d4_98 rfl ?_
      intro T_49 h_49 X_49 W_49
      have f50_0 : BR Z h_49 a (.ref w) (.int (o + (1 : Int32))) (.int (bc + (8 : Int32))) (.long ((bf <<< ((8 : Int32) &&& 0x3f).toInt64) ||| (((g o.toInt.toNat) &&& (255 : Int32)).toInt64))) := BR.set_bufferCount (oSt_w X_49) f47_0 W_49
      have f50_1 : oA Z h_49 w .byte nn.toInt.toNat (fun i => .int (g i)) := f47_1.other W_49 (Ne.symm ne)
      have f50_2 : Keep h0 h_49 [a] := f47_2.wr W_49 (Or.inl (List.mem_of_getElem? (i := 0) rfl))
      refine ow_goto X_49 27 d4_101 rfl ?_
      have e1 := own_addk o 1 1 rfl (by decide) (by omega) (by omega); have e2 := own_addk bc 8 8 rfl (by decide) (by omega) (by omega)
      exact ih _ (by omega) X_49 _ _ _ f50_0 f50_1 f50_2 (by omega) (by omega) (by omega) (by omega) (by omega) rfl
set_option maxRecDepth 65536 in
set_option maxHeartbeats 4000000 in
theorem C_rd {Z : State} {ω : OW} {h : Heap} (hw_ : ∀ d ∈ tables_1, d.before ω.2.2 Z = true) (hn_ : ω.2.1 ≤ h.size) (a w : Addr) (cnt o bc nn : Int32) (bf : Int64) (g : Nat → Int32) (F0 : BR Z h a (.ref w) (.int o) (.int bc) (.long bf)) (A0 : oA Z h w .byte nn.toInt.toNat (fun i => .int (g i))) (ga : ω.2.1 ≤ a) (ne : a ≠ w) (hn0 : 0 ≤ nn.toInt) (hn1 : nn.toInt ≤ 1000) (h1 : 0 ≤ o.toInt) (h2 : o.toInt ≤ nn.toInt) (h3 : 0 ≤ bc.toInt) (h4 : bc.toInt < 8) (hc0 : 0 ≤ cnt.toInt) (hT : 8 * o.toInt - bc.toInt + cnt.toInt ≤ 8 * nn.toInt) (hc : cnt.toInt ≤ 64) :
    oC Z ω (⟨"com/example/accrue/accrue/BitReader", "read", "(I)J"⟩ : MethodName) k4b [] #[.ref a, .int cnt] h (fun v h' => ∃ (rr bf' : Int64) (o' bc' : Int32), v = some (.long rr) ∧ Keep h h' [a] ∧ BR Z h' a (.ref w) (.int o') (.int bc') (.long bf') ∧ 0 ≤ o'.toInt ∧ o'.toInt ≤ nn.toInt ∧ 0 ≤ bc'.toInt ∧ bc'.toInt < 8 ∧ 8 * o'.toInt - bc'.toInt = 8 * o.toInt - bc.toInt + cnt.toInt) := by
  refine oC_of hw_ hn_ pn4 rfl rfl (L := #[.val (.ref a), .val (.int cnt), .unset, .unset]) (fun m => by first | rfl | (simp [entryFrame, mkF, argsToLocals, Value.category, k4b]; done)) ?_
  intro γ T X
  refine ow_iloadN X 1 d4_0 rfl rfl ?_
  refine ow_bipush X 3 (32 : Int32) d4_1 rfl rfl ?_
  refine ow_icmp_le X 6 27 d4_3 rfl rfl (fun (c3 : cnt.toInt ≤ 32) => ?_) (fun (c3 : 32 < cnt.toInt) => ?_)
  · exact L_rdb h a w cnt nn g _ ga ne hn0 hn1 hc0 (by omega) hT _ X o bc bf F0 A0 (Keep.refl h [a]) h1 h2 h3 (by omega) rfl rfl
  · refine ow_aloadN X 7 d4_6 rfl rfl rfl ?_
    refine ow_iloadN X 8 d4_7 rfl rfl ?_
    refine ow_bipush X 10 (32 : Int32) d4_8 rfl rfl ?_
    refine ow_isub X 11 d4_10 rfl ?_
    have e0 := own_subk cnt 32 32 rfl (by decide) (by omega)
    refine ow_callV X 14 33 23 25 24 26 3 (κ' := k4) (as := [.int (cnt - (32 : Int32))]) (S := []) (W := 0) rfl rfl rfl rfl rfl rfl rfl (by decide) F0.1 (C_rd32 (oSt_w X) (oSt_n0 X) a w (cnt - (32 : Int32)) o bc nn bf g F0 A0 ga ne hn0 hn1 h1 h2 h3 h4 (by omega) (by omega) (by omega)) (by decide) (by decide) (Nat.le_of_eq rfl) (by decide) (by decide) pd4 rfl rfl rfl d4_11 rfl ?_
    intro v_51 T_51 h_51 X_51 q_51
    obtain ⟨r51, f51, o51, b51, rfl, K51, R51, z51_1, z51_2, z51_3, z51_4, z51_5⟩ := q_51
    have f52_1 : oA Z h_51 w .byte nn.toInt.toNat (fun i => .int (g i)) := A0.keep K51 (ninS (Ne.symm ne) nin0)
    have f52_2 : Keep h h_51 [a] := (Keep.refl h [a]).trans K51 (allS (Or.inl (List.mem_of_getElem? (i := 0) rfl)) all0)
    show oWP ω γ k4b _ T_51 14 #[.val (.ref a), .val (.int cnt), .unset, .unset] [.long r51]
    refine ow_lstoreN X_51 15 (L' := #[.val (.ref a), .val (.int cnt), .val (.long r51), .second]) d4_14 rfl rfl ?_
    refine ow_lloadN X_51 16 d4_15 rfl rfl ?_
    refine ow_bipush X_51 18 (32 : Int32) d4_16 rfl rfl ?_
    refine ow_lshl X_51 19 d4_18 rfl ?_
    refine ow_aloadN X_51 20 d4_19 rfl rfl rfl ?_
    refine ow_bipush X_51 22 (32 : Int32) d4_20 rfl rfl ?_
    have e32 : (32 : Int32).toInt = 32 := rfl
    refine ow_callV X_51 25 33 23 25 24 26 3 (κ' := k4) (as := [.int (32 : Int32)]) (S := [.long (r51 <<< ((32 : Int32) &&& 0x3f).toInt64)]) (W := 2) rfl rfl rfl rfl rfl rfl rfl (by decide) R51.1 (C_rd32 (oSt_w X_51) (oSt_n0 X_51) a w (32 : Int32) o51 b51 nn f51 g R51 f52_1 ga ne hn0 hn1 z51_1 z51_2 z51_3 z51_4 (by decide) (by omega) (by decide)) (by decide) (by decide) (Nat.le_of_eq rfl) (by decide) (by decide) pd4 rfl rfl rfl d4_22 rfl ?_
    intro v_53 T_53 h_53 X_53 q_53
    obtain ⟨r53, f53, o53, b53, rfl, K53, R53, z53_1, z53_2, z53_3, z53_4, z53_5⟩ := q_53
    have f54_0 : oA Z h_53 w .byte nn.toInt.toNat (fun i => .int (g i)) := f52_1.keep K53 (ninS (Ne.symm ne) nin0)
    have f54_1 : Keep h h_53 [a] := f52_2.trans K53 (allS (Or.inl (List.mem_of_getElem? (i := 0) rfl)) all0)
    show oWP ω γ k4b _ T_53 25 #[.val (.ref a), .val (.int cnt), .val (.long r51), .second] [.long r53, .long (r51 <<< ((32 : Int32) &&& 0x3f).toInt64)]
    refine ow_lor X_53 26 d4_25 rfl ?_
    refine ow_retJ X_53 rfl d4_26 (by decide) (by decide) ?_
    exact ⟨_, _, _, _, rfl, f54_1, R53, z53_1, z53_2, z53_3, z53_4, by omega⟩
def k0 : OM := (code, maxLocals, "com/example/accrue/accrue/BitReaderAtEndPinLaw", "law", ret, room_1)
theorem pn0 : plainName "com/example/accrue/accrue/BitReaderAtEndPinLaw" = true := by first | (simp [plainName, overriddenIn]; done) | decide +kernel
theorem pd0 : parseMethodDescriptor "(IIII)Z" = some ⟨[.int, .int, .int, .int], (some .boolean)⟩ := by decide +kernel
set_option maxRecDepth 65536 in
set_option maxHeartbeats 4000000 in
theorem B84 {Z : State} {ω : OW} {γ : OG} {T : State} {h : Heap} (X : oSt Z ω γ k0 T h 2 11) (sz fi se fl nn tot : Int32) (w a : Addr) (g : Nat → Int32) (F0 : BR Z h a (.ref w) (.int 0) (.int 0) (.long 0)) (A0 : oA Z h w .byte nn.toInt.toNat (fun i => .int (g i))) (hn0 : 0 ≤ nn.toInt) (hn7 : nn.toInt ≤ 7) (ht : tot.toInt = 8 * nn.toInt) (gw : ω.2.1 ≤ w) (ga : ω.2.1 ≤ a) (ne : a ≠ w) :
    oWP ω γ k0 (fun v _ => v = some (.int 1)) T 84 #[.val (.int sz), .val (.int fi), .val (.int se), .val (.int fl), .val (.int nn), .val (.int tot), .val (.ref w), .val (.ref a), .val (.int (1 : Int32)), .unset, .unset, .unset] [] := by
  refine ow_iloadN X 85 at_84 rfl rfl ?_
  refine ow_ldcI X 87 21 rfl rfl at_85 rfl ?_
  refine ow_iand X 88 at_87 rfl ?_
  refine ow_iload X 90 at_88 rfl rfl ?_
  refine ow_iconst X 91 (1 : Int32) at_90 rfl rfl ?_
  refine ow_iadd X 92 at_91 rfl ?_
  refine ow_irem X 93 at_92 rfl (own_ne0 _ (by rw [own_addk tot 1 1 rfl (by decide) (by omega) (by omega)]; omega)) ?_
  refine ow_istore X 95 (L' := #[.val (.int sz), .val (.int fi), .val (.int se), .val (.int fl), .val (.int nn), .val (.int tot), .val (.ref w), .val (.ref a), .val (.int (1 : Int32)), .val (.int ((fi &&& (2147483647 : Int32)) % (tot + (1 : Int32)))), .unset, .unset]) at_93 rfl rfl ?_
  have e1 := own_addk tot 1 1 rfl (by decide) (by omega) (by omega)
  have hc1 := own_rem fi (tot + (1 : Int32)) (by omega)
  generalize (fi &&& (2147483647 : Int32)) % (tot + (1 : Int32)) = c1 at hc1 ⊢
  refine ow_aload X 97 at_95 rfl rfl rfl ?_
  refine ow_iload X 99 at_97 rfl rfl ?_
  have u0 : (0 : Int32).toInt = 0 := rfl
  refine ow_callV X 102 22 23 25 24 26 3 (κ' := k4b) (as := [.int c1]) (S := []) (W := 0) rfl rfl rfl rfl rfl rfl rfl (by decide) F0.1 (C_rd (oSt_w X) (oSt_n0 X) a w c1 0 0 nn 0 g F0 A0 ga ne hn0 (by omega) (by omega) (by omega) (by omega) (by omega) (by omega) (by omega) (by omega)) (by decide) (by decide) (Nat.le_of_eq rfl) (by decide) (by decide) pd4 rfl rfl rfl at_99 rfl ?_
  intro v_55 T_55 h_55 X_55 q_55
  obtain ⟨r55, f55, o55, b55, rfl, K55, R55, y55_1, y55_2, y55_3, y55_4, y55_5⟩ := q_55
  have f56_1 : oA Z h_55 w .byte nn.toInt.toNat (fun i => .int (g i)) := A0.keep K55 (ninS (Ne.symm ne) nin0)
  show oWP ω γ k0 _ T_55 102 #[.val (.int sz), .val (.int fi), .val (.int se), .val (.int fl), .val (.int nn), .val (.int tot), .val (.ref w), .val (.ref a), .val (.int (1 : Int32)), .val (.int c1), .unset, .unset] [.long r55]
  refine ow_pop2L X_55 103 at_102 rfl ?_
  refine ow_iload X_55 105 at_103 rfl rfl ?_
  refine ow_if_eq X_55 108 127 at_105 rfl rfl (fun (c105 : 1 = 0) => by exfalso; exact absurd c105 (by decide)) (fun (c105 : 1 ≠ 0) => ?_)
  refine ow_aload X_55 110 at_108 rfl rfl rfl ?_
  refine ow_callV X_55 113 12 13 15 14 16 3 (κ' := k3) (as := []) (S := []) (W := 0) rfl rfl rfl rfl rfl rfl rfl (by decide) R55.1 (C_end (oSt_w X_55) (oSt_n0 X_55) a w o55 b55 nn _ g R55 f56_1 hn0 (by first | omega | decide)) (by decide) (by decide) (Nat.le_of_eq rfl) (by decide) (by decide) pd3 rfl rfl rfl at_110 rfl ?_
  intro v_57 T_57 h_57 X_57 q_57
  obtain ⟨z57, rfl, rfl, q57⟩ := q_57
  show oWP ω γ k0 _ T_57 113 #[.val (.int sz), .val (.int fi), .val (.int se), .val (.int fl), .val (.int nn), .val (.int tot), .val (.ref w), .val (.ref a), .val (.int (1 : Int32)), .val (.int c1), .unset, .unset] [.int z57]
  refine ow_iload X_57 115 at_113 rfl rfl ?_
  refine ow_iload X_57 117 at_115 rfl rfl ?_
  refine ow_callS X_57 120 29 30 31 32 (κ' := k5) (as := [.int c1, .int nn]) (S := [.int z57]) (W := 1) rfl rfl rfl rfl rfl (by decide) (C_exp (oSt_w X_57) (oSt_n0 X_57) c1 nn (by omega) (by omega)) (by decide) (by decide) (Nat.le_of_eq rfl) (by decide) (by decide) pd5 rfl rfl rfl at_117 rfl ?_
  intro v_58 T_58 h_58 X_58 q_58
  obtain ⟨z58, rfl, rfl, q58⟩ := q_58
  show oWP ω γ k0 _ T_58 120 #[.val (.int sz), .val (.int fi), .val (.int se), .val (.int fl), .val (.int nn), .val (.int tot), .val (.ref w), .val (.ref a), .val (.int (1 : Int32)), .val (.int c1), .unset, .unset] [.int z58, .int z57]
  refine ow_icmp_ne X_58 123 127 at_120 rfl rfl (fun (c120 : z57.toInt ≠ z58.toInt) => by exfalso; rcases q57 with ⟨rfl, _⟩ | ⟨rfl, _⟩ <;> rcases q58 with ⟨rfl, _⟩ | ⟨rfl, _⟩ <;>  first | (exact c120 rfl) | omega) (fun (c120 : z57.toInt = z58.toInt) => ?_)
  refine ow_iconst X_58 124 (1 : Int32) at_123 rfl rfl ?_
  refine ow_goto X_58 128 at_124 rfl ?_
  refine ow_istore X_58 130 (L' := #[.val (.int sz), .val (.int fi), .val (.int se), .val (.int fl), .val (.int nn), .val (.int tot), .val (.ref w), .val (.ref a), .val (.int (1 : Int32)), .val (.int c1), .unset, .unset]) at_128 rfl rfl ?_
  refine ow_iloadN X_58 131 at_130 rfl rfl ?_
  refine ow_ldcI X_58 133 21 rfl rfl at_131 rfl ?_
  refine ow_iand X_58 134 at_133 rfl ?_
  refine ow_iload X_58 136 at_134 rfl rfl ?_
  refine ow_iload X_58 138 at_136 rfl rfl ?_
  refine ow_isub X_58 139 at_138 rfl ?_
  refine ow_iconst X_58 140 (1 : Int32) at_139 rfl rfl ?_
  refine ow_iadd X_58 141 at_140 rfl ?_
  refine ow_irem X_58 142 at_141 rfl (own_ne0 _ (by have e2 := own_sub tot c1 (by omega) (by omega); rw [own_addk (tot - c1) 1 1 rfl (by decide) (by omega) (by omega)]; omega)) ?_
  refine ow_istore X_58 144 (L' := #[.val (.int sz), .val (.int fi), .val (.int se), .val (.int fl), .val (.int nn), .val (.int tot), .val (.ref w), .val (.ref a), .val (.int (1 : Int32)), .val (.int c1), .val (.int ((se &&& (2147483647 : Int32)) % ((tot - c1) + (1 : Int32)))), .unset]) at_142 rfl rfl ?_
  have e2 := own_sub tot c1 (by omega) (by omega)
  have e3 := own_addk (tot - c1) 1 1 rfl (by decide) (by omega) (by omega)
  have hc2 := own_rem se (tot - c1 + (1 : Int32)) (by omega)
  generalize (se &&& (2147483647 : Int32)) % ((tot - c1) + (1 : Int32)) = c2 at hc2 ⊢
  have e4 := own_add c1 c2 (by omega) (by omega); have e5 := own_sub (tot - c1) c2 (by omega) (by omega)
  refine ow_aload X_58 146 at_144 rfl rfl rfl ?_
  refine ow_iload X_58 148 at_146 rfl rfl ?_
  refine ow_callV X_58 151 22 23 25 24 26 3 (κ' := k4b) (as := [.int c2]) (S := []) (W := 0) rfl rfl rfl rfl rfl rfl rfl (by decide) R55.1 (C_rd (oSt_w X_58) (oSt_n0 X_58) a w c2 o55 b55 nn f55 g R55 f56_1 ga ne hn0 (by omega) (by omega) (by omega) (by omega) (by omega) (by omega) (by omega) (by omega)) (by decide) (by decide) (Nat.le_of_eq rfl) (by decide) (by decide) pd4 rfl rfl rfl at_148 rfl ?_
  intro v_59 T_59 h_59 X_59 q_59
  obtain ⟨r59, f59, o59, b59, rfl, K59, R59, y59_1, y59_2, y59_3, y59_4, y59_5⟩ := q_59
  have f60_0 : oA Z h_59 w .byte nn.toInt.toNat (fun i => .int (g i)) := f56_1.keep K59 (ninS (Ne.symm ne) nin0)
  show oWP ω γ k0 _ T_59 151 #[.val (.int sz), .val (.int fi), .val (.int se), .val (.int fl), .val (.int nn), .val (.int tot), .val (.ref w), .val (.ref a), .val (.int (1 : Int32)), .val (.int c1), .val (.int c2), .unset] [.long r59]
  refine ow_pop2L X_59 152 at_151 rfl ?_
  refine ow_iload X_59 154 at_152 rfl rfl ?_
  refine ow_if_eq X_59 157 179 at_154 rfl rfl (fun (c154 : 1 = 0) => by exfalso; exact absurd c154 (by decide)) (fun (c154 : 1 ≠ 0) => ?_)
  refine ow_aload X_59 159 at_157 rfl rfl rfl ?_
  refine ow_callV X_59 162 12 13 15 14 16 3 (κ' := k3) (as := []) (S := []) (W := 0) rfl rfl rfl rfl rfl rfl rfl (by decide) R59.1 (C_end (oSt_w X_59) (oSt_n0 X_59) a w o59 b59 nn _ g R59 f60_0 hn0 (by first | omega | decide)) (by decide) (by decide) (Nat.le_of_eq rfl) (by decide) (by decide) pd3 rfl rfl rfl at_159 rfl ?_
  intro v_61 T_61 h_61 X_61 q_61
  obtain ⟨z61, rfl, rfl, q61⟩ := q_61
  show oWP ω γ k0 _ T_61 162 #[.val (.int sz), .val (.int fi), .val (.int se), .val (.int fl), .val (.int nn), .val (.int tot), .val (.ref w), .val (.ref a), .val (.int (1 : Int32)), .val (.int c1), .val (.int c2), .unset] [.int z61]
  refine ow_iload X_61 164 at_162 rfl rfl ?_
  refine ow_iload X_61 166 at_164 rfl rfl ?_
  refine ow_iadd X_61 167 at_166 rfl ?_
  refine ow_iload X_61 169 at_167 rfl rfl ?_
  refine ow_callS X_61 172 29 30 31 32 (κ' := k5) (as := [.int (c1 + c2), .int nn]) (S := [.int z61]) (W := 1) rfl rfl rfl rfl rfl (by decide) (C_exp (oSt_w X_61) (oSt_n0 X_61) (c1 + c2) nn (by omega) (by omega)) (by decide) (by decide) (Nat.le_of_eq rfl) (by decide) (by decide) pd5 rfl rfl rfl at_169 rfl ?_
  intro v_62 T_62 h_62 X_62 q_62
  obtain ⟨z62, rfl, rfl, q62⟩ := q_62
  show oWP ω γ k0 _ T_62 172 #[.val (.int sz), .val (.int fi), .val (.int se), .val (.int fl), .val (.int nn), .val (.int tot), .val (.ref w), .val (.ref a), .val (.int (1 : Int32)), .val (.int c1), .val (.int c2), .unset] [.int z62, .int z61]
  refine ow_icmp_ne X_62 175 179 at_172 rfl rfl (fun (c172 : z61.toInt ≠ z62.toInt) => by exfalso; rcases q61 with ⟨rfl, _⟩ | ⟨rfl, _⟩ <;> rcases q62 with ⟨rfl, _⟩ | ⟨rfl, _⟩ <;>  first | (exact c172 rfl) | omega) (fun (c172 : z61.toInt = z62.toInt) => ?_)
  refine ow_iconst X_62 176 (1 : Int32) at_175 rfl rfl ?_
  refine ow_goto X_62 180 at_176 rfl ?_
  refine ow_istore X_62 182 (L' := #[.val (.int sz), .val (.int fi), .val (.int se), .val (.int fl), .val (.int nn), .val (.int tot), .val (.ref w), .val (.ref a), .val (.int (1 : Int32)), .val (.int c1), .val (.int c2), .unset]) at_180 rfl rfl ?_
  refine ow_iload X_62 184 at_182 rfl rfl ?_
  refine ow_iload X_62 186 at_184 rfl rfl ?_
  refine ow_isub X_62 187 at_186 rfl ?_
  refine ow_iload X_62 189 at_187 rfl rfl ?_
  refine ow_isub X_62 190 at_189 rfl ?_
  refine ow_istore X_62 192 (L' := #[.val (.int sz), .val (.int fi), .val (.int se), .val (.int fl), .val (.int nn), .val (.int tot), .val (.ref w), .val (.ref a), .val (.int (1 : Int32)), .val (.int c1), .val (.int c2), .val (.int ((tot - c1) - c2))]) at_190 rfl rfl ?_
  refine ow_aload X_62 194 at_192 rfl rfl rfl ?_
  refine ow_iload X_62 196 at_194 rfl rfl ?_
  refine ow_callV X_62 199 22 23 25 24 26 3 (κ' := k4b) (as := [.int ((tot - c1) - c2)]) (S := []) (W := 0) rfl rfl rfl rfl rfl rfl rfl (by decide) R59.1 (C_rd (oSt_w X_62) (oSt_n0 X_62) a w ((tot - c1) - c2) o59 b59 nn f59 g R59 f60_0 ga ne hn0 (by omega) (by omega) (by omega) (by omega) (by omega) (by omega) (by omega) (by omega)) (by decide) (by decide) (Nat.le_of_eq rfl) (by decide) (by decide) pd4 rfl rfl rfl at_196 rfl ?_
  intro v_63 T_63 h_63 X_63 q_63
  obtain ⟨r63, f63, o63, b63, rfl, K63, R63, y63_1, y63_2, y63_3, y63_4, y63_5⟩ := q_63
  have f64_0 : oA Z h_63 w .byte nn.toInt.toNat (fun i => .int (g i)) := f60_0.keep K63 (ninS (Ne.symm ne) nin0)
  show oWP ω γ k0 _ T_63 199 #[.val (.int sz), .val (.int fi), .val (.int se), .val (.int fl), .val (.int nn), .val (.int tot), .val (.ref w), .val (.ref a), .val (.int (1 : Int32)), .val (.int c1), .val (.int c2), .val (.int ((tot - c1) - c2))] [.long r63]
  refine ow_pop2L X_63 200 at_199 rfl ?_
  refine ow_iload X_63 202 at_200 rfl rfl ?_
  refine ow_if_eq X_63 205 217 at_202 rfl rfl (fun (c202 : 1 = 0) => by exfalso; exact absurd c202 (by decide)) (fun (c202 : 1 ≠ 0) => ?_)
  refine ow_aload X_63 207 at_205 rfl rfl rfl ?_
  refine ow_callV X_63 210 12 13 15 14 16 3 (κ' := k3) (as := []) (S := []) (W := 0) rfl rfl rfl rfl rfl rfl rfl (by decide) R63.1 (C_end (oSt_w X_63) (oSt_n0 X_63) a w o63 b63 nn _ g R63 f64_0 hn0 (by first | omega | decide)) (by decide) (by decide) (Nat.le_of_eq rfl) (by decide) (by decide) pd3 rfl rfl rfl at_207 rfl ?_
  intro v_65 T_65 h_65 X_65 q_65
  obtain ⟨z65, rfl, rfl, q65⟩ := q_65
  show oWP ω γ k0 _ T_65 210 #[.val (.int sz), .val (.int fi), .val (.int se), .val (.int fl), .val (.int nn), .val (.int tot), .val (.ref w), .val (.ref a), .val (.int (1 : Int32)), .val (.int c1), .val (.int c2), .val (.int ((tot - c1) - c2))] [.int z65]
  refine ow_if_eq X_65 213 217 at_210 rfl rfl (fun (c210 : z65.toInt = 0) => by exfalso; rcases q65 with ⟨rfl, _⟩ | ⟨rfl, _⟩ <;> first | (exact absurd c210 (by decide)) | omega) (fun (c210 : z65.toInt ≠ 0) => ?_)
  refine ow_iconst X_65 214 (1 : Int32) at_213 rfl rfl ?_
  refine ow_goto X_65 218 at_214 rfl ?_
  refine ow_istore X_65 220 (L' := #[.val (.int sz), .val (.int fi), .val (.int se), .val (.int fl), .val (.int nn), .val (.int tot), .val (.ref w), .val (.ref a), .val (.int (1 : Int32)), .val (.int c1), .val (.int c2), .val (.int ((tot - c1) - c2))]) at_218 rfl rfl ?_
  refine ow_iload X_65 222 at_220 rfl rfl ?_
  refine ow_retZ X_65 rfl at_222 (by decide) (by decide) (by decide) ?_
  rfl
set_option maxRecDepth 65536 in
set_option maxHeartbeats 4000000 in
theorem B48 {Z : State} {ω : OW} {γ : OG} {T : State} {h : Heap} (X : oSt Z ω γ k0 T h 1 7) (sz fi se fl nn tot : Int32) (w : Addr) (g : Nat → Int32) (A0 : oA Z h w .byte nn.toInt.toNat (fun i => .int (g i))) (hn0 : 0 ≤ nn.toInt) (hn7 : nn.toInt ≤ 7) (ht : tot.toInt = 8 * nn.toInt) (gw : ω.2.1 ≤ w) :
    oWP ω γ k0 (fun v _ => v = some (.int 1)) T 48 #[.val (.int sz), .val (.int fi), .val (.int se), .val (.int fl), .val (.int nn), .val (.int tot), .val (.ref w), .unset, .unset, .unset, .unset, .unset] [] := by
  refine ow_new X 51 1 2 3 rfl rfl rfl rfl at_48 rfl (by decide) (by decide) ?_
  intro T_66 h_66 a_66 q_66 X_66 E_66 A_66 D_66 g_66
  have ne_w_a_66 : w ≠ a_66 := by rw [q_66]; exact Nat.ne_of_lt A0.lt
  have f67_0 : oA Z h_66 w .byte nn.toInt.toNat (fun i => .int (g i)) := A0.ext E_66
  have R_66 : BR Z h_66 a_66 .null (.int 0) (.int 0) (.long 0) := ⟨A_66, D_66 (Or.inr (oSt_at X_66 11 rfl)) (ty := (.array .byte)) (by decide), D_66 (Or.inl (oSt_at X_66 18 rfl)) (ty := .int) (by decide), D_66 (Or.inl (oSt_at X_66 20 rfl)) (ty := .int) (by decide), D_66 (Or.inl (oSt_at X_66 28 rfl)) (ty := .long) (by decide)⟩
  refine ow_dup X_66 52 at_51 rfl rfl ?_
  refine ow_aload X_66 54 at_52 rfl rfl rfl ?_
  refine ow_callC X_66 57 4 5 3 6 (κ' := k1) (as := [.ref w]) (S := [.ref a_66]) (W := 1) rfl rfl rfl rfl rfl rfl rfl (by decide) (C_init (oSt_w X_66) (oSt_n0 X_66) a_66 w R_66 g_66) (by decide) (by decide) (Nat.le_of_eq rfl) (by decide) (by decide) pd1 rfl rfl rfl at_54 rfl ?_
  intro v_68 T_68 h_68 X_68 q_68
  obtain ⟨rfl, K68, R68⟩ := q_68
  have f69_0 : oA Z h_68 w .byte nn.toInt.toNat (fun i => .int (g i)) := f67_0.keep K68 (ninS ne_w_a_66 nin0)
  show oWP ω γ k0 _ T_68 57 #[.val (.int sz), .val (.int fi), .val (.int se), .val (.int fl), .val (.int nn), .val (.int tot), .val (.ref w), .unset, .unset, .unset, .unset, .unset] [.ref a_66]
  refine ow_astore X_68 59 (L' := #[.val (.int sz), .val (.int fi), .val (.int se), .val (.int fl), .val (.int nn), .val (.int tot), .val (.ref w), .val (.ref a_66), .unset, .unset, .unset, .unset]) at_57 rfl rfl rfl ?_
  refine ow_aload X_68 61 at_59 rfl rfl rfl ?_
  refine ow_callV X_68 64 12 13 15 14 16 3 (κ' := k3) (as := []) (S := []) (W := 0) rfl rfl rfl rfl rfl rfl rfl (by decide) R68.1 (C_end (oSt_w X_68) (oSt_n0 X_68) a_66 w 0 0 nn _ g R68 f69_0 hn0 (by first | omega | decide)) (by decide) (by decide) (Nat.le_of_eq rfl) (by decide) (by decide) pd3 rfl rfl rfl at_61 rfl ?_
  intro v_70 T_70 h_70 X_70 q_70
  obtain ⟨z70, rfl, rfl, q70⟩ := q_70
  show oWP ω γ k0 _ T_70 64 #[.val (.int sz), .val (.int fi), .val (.int se), .val (.int fl), .val (.int nn), .val (.int tot), .val (.ref w), .val (.ref a_66), .unset, .unset, .unset, .unset] [.int z70]
  refine ow_iload X_70 66 at_64 rfl rfl ?_
  refine ow_if_ne X_70 69 73 at_66 rfl rfl (fun (c66 : nn.toInt ≠ 0) => ?_) (fun (c66 : nn.toInt = 0) => ?_)
  · refine ow_iconst X_70 74 (0 : Int32) at_73 rfl rfl ?_
    refine ow_icmp_ne X_70 77 81 at_74 rfl rfl (fun (c74 : z70.toInt ≠ 0) => by exfalso; have u0 : (0 : Int32).toInt = 0 := rfl; rcases q70 with ⟨rfl, _⟩ | ⟨rfl, _⟩ <;> first | (exact c74 rfl) | omega) (fun (c74 : z70.toInt = 0) => ?_)
    refine ow_iconst X_70 78 (1 : Int32) at_77 rfl rfl ?_
    refine ow_goto X_70 82 at_78 rfl ?_
    refine ow_istore X_70 84 (L' := #[.val (.int sz), .val (.int fi), .val (.int se), .val (.int fl), .val (.int nn), .val (.int tot), .val (.ref w), .val (.ref a_66), .val (.int (1 : Int32)), .unset, .unset, .unset]) at_82 rfl rfl ?_
    exact B84 X_70 sz fi se fl nn tot w a_66 g R68 f69_0 hn0 hn7 ht gw g_66 (Ne.symm ne_w_a_66)
  · refine ow_iconst X_70 70 (1 : Int32) at_69 rfl rfl ?_
    refine ow_goto X_70 74 at_70 rfl ?_
    refine ow_icmp_ne X_70 77 81 at_74 rfl rfl (fun (c74 : z70.toInt ≠ 1) => by exfalso; have u0 : (0 : Int32).toInt = 0 := rfl; rcases q70 with ⟨rfl, _⟩ | ⟨rfl, _⟩ <;> first | (exact c74 rfl) | omega) (fun (c74 : z70.toInt = 1) => ?_)
    refine ow_iconst X_70 78 (1 : Int32) at_77 rfl rfl ?_
    refine ow_goto X_70 82 at_78 rfl ?_
    refine ow_istore X_70 84 (L' := #[.val (.int sz), .val (.int fi), .val (.int se), .val (.int fl), .val (.int nn), .val (.int tot), .val (.ref w), .val (.ref a_66), .val (.int (1 : Int32)), .unset, .unset, .unset]) at_82 rfl rfl ?_
    exact B84 X_70 sz fi se fl nn tot w a_66 g R68 f69_0 hn0 hn7 ht gw g_66 (Ne.symm ne_w_a_66)
set_option maxRecDepth 65536 in
set_option maxHeartbeats 4000000 in
theorem B30 {Z : State} {ω : OW} {γ : OG} {T : State} {h : Heap} (X : oSt Z ω γ k0 T h 1 7) (sz fi se fl nn tot : Int32) (w : Addr) (g : Nat → Int32) (A0 : oA Z h w .byte nn.toInt.toNat (fun i => .int (g i))) (hn0 : 0 ≤ nn.toInt) (hn7 : nn.toInt ≤ 7) (ht : tot.toInt = 8 * nn.toInt) (gw : ω.2.1 ≤ w) :
    oWP ω γ k0 (fun v _ => v = some (.int 1)) T 30 #[.val (.int sz), .val (.int fi), .val (.int se), .val (.int fl), .val (.int nn), .val (.int tot), .val (.ref w), .unset, .unset, .unset, .unset, .unset] [] := by
  refine ow_iload X 32 at_30 rfl rfl ?_
  refine ow_iconst X 33 (1 : Int32) at_32 rfl rfl ?_
  refine ow_icmp_le X 36 48 at_33 rfl rfl (fun (c33 : nn.toInt ≤ 1) => ?_) (fun (c33 : 1 < nn.toInt) => ?_)
  · exact B48 X sz fi se fl nn tot w g A0 hn0 hn7 ht gw
  · refine ow_aload X 38 at_36 rfl rfl rfl ?_
    refine ow_iload X 40 at_38 rfl rfl ?_
    refine ow_iconst X 41 (1 : Int32) at_40 rfl rfl ?_
    refine ow_isub X 42 at_41 rfl ?_
    refine ow_iloadN X 43 at_42 rfl rfl ?_
    refine ow_bipush X 45 (8 : Int32) at_43 rfl rfl ?_
    refine ow_iushr X 46 at_45 rfl ?_
    refine ow_i2b X 47 at_46 rfl ?_
    refine ow_bastore X 48 A0 gw at_47 rfl (by rw [own_subk nn 1 1 rfl (by decide) (by omega)]; omega) (by rw [own_subk nn 1 1 rfl (by decide) (by omega)]; omega) ?_
    intro T_71 h_71 X_71 W_71
    have f72_0 : oA Z h_71 w .byte nn.toInt.toNat (fun i => .int ((oUpd g ((nn - (1 : Int32)).toInt.toNat) ((((fl.toUInt32 >>> ((8 : Int32) &&& 31).toUInt32).toInt32).toInt8.toInt32).toInt8.toInt32)) i)) := A0.setI W_71
    exact B48 X_71 sz fi se fl nn tot w (oUpd g ((nn - (1 : Int32)).toInt.toNat) ((((fl.toUInt32 >>> ((8 : Int32) &&& 31).toUInt32).toInt32).toInt8.toInt32).toInt8.toInt32)) f72_0 hn0 hn7 ht gw
set_option maxRecDepth 65536 in
set_option maxHeartbeats 4000000 in
theorem C_law {Z : State} {ω : OW} {h : Heap} (hw_ : ∀ d ∈ tables_1, d.before ω.2.2 Z = true) (hn_ : ω.2.1 ≤ h.size) (sz fi se fl : Int32) :
    oC Z ω Jvm.Pilot.@@N@@.x k0 tables_1 #[.int sz, .int fi, .int se, .int fl] h (fun v _ => v = some (.int 1)) := by
  refine oC_of hw_ hn_ pn0 rfl rfl (L := #[.val (.int sz), .val (.int fi), .val (.int se), .val (.int fl), .unset, .unset, .unset, .unset, .unset, .unset, .unset, .unset]) (fun m => by first | rfl | (simp [entryFrame, mkF, argsToLocals, Value.category, k0, maxLocals]; done)) ?_
  intro γ T X
  refine ow_iloadN X 1 at_0 rfl rfl ?_
  refine ow_bipush X 3 (7 : Int32) at_1 rfl rfl ?_
  refine ow_iand X 4 at_3 rfl ?_
  refine ow_istore X 6 (L' := #[.val (.int sz), .val (.int fi), .val (.int se), .val (.int fl), .val (.int (sz &&& (7 : Int32))), .unset, .unset, .unset, .unset, .unset, .unset, .unset]) at_4 rfl rfl ?_
  have hn := own_n sz
  generalize sz &&& (7 : Int32) = nn at hn ⊢
  refine ow_bipush X 8 (8 : Int32) at_6 rfl rfl ?_
  refine ow_iload X 10 at_8 rfl rfl ?_
  refine ow_imul X 11 at_10 rfl ?_
  refine ow_istore X 13 (L' := #[.val (.int sz), .val (.int fi), .val (.int se), .val (.int fl), .val (.int nn), .val (.int ((8 : Int32) * nn)), .unset, .unset, .unset, .unset, .unset, .unset]) at_11 rfl rfl ?_
  have ht := own_8n nn hn.1 hn.2
  generalize (8 : Int32) * nn = tot at ht ⊢
  refine ow_iload X 15 at_13 rfl rfl ?_
  refine ow_newP X 17 0 (cap := 7) rfl at_15 rfl hn.1 (by omega) (by decide) (by decide) (by decide) ?_
  intro T_73 h_73 a_73 q_73 X_73 E_73 A_73 g_73
  have A_73 : oA Z h_73 a_73 .byte nn.toInt.toNat (fun i => .int (oZI i)) := A_73
  refine ow_astore X_73 19 (L' := #[.val (.int sz), .val (.int fi), .val (.int se), .val (.int fl), .val (.int nn), .val (.int tot), .val (.ref a_73), .unset, .unset, .unset, .unset, .unset]) at_17 rfl rfl rfl ?_
  refine ow_iload X_73 21 at_19 rfl rfl ?_
  refine ow_if_le X_73 24 30 at_21 rfl rfl (fun (c21 : nn.toInt ≤ 0) => ?_) (fun (c21 : 0 < nn.toInt) => ?_)
  · exact B30 X_73 sz fi se fl nn tot a_73 oZI A_73 hn.1 hn.2 ht g_73
  · refine ow_aload X_73 26 at_24 rfl rfl rfl ?_
    refine ow_iconst X_73 27 (0 : Int32) at_26 rfl rfl ?_
    refine ow_iloadN X_73 28 at_27 rfl rfl ?_
    refine ow_i2b X_73 29 at_28 rfl ?_
    refine ow_bastore X_73 30 A_73 g_73 at_29 rfl (by decide) (by have : (0 : Int32).toInt = 0 := rfl; omega) ?_
    intro T_75 h_75 X_75 W_75
    have f76_0 : oA Z h_75 a_73 .byte nn.toInt.toNat (fun i => .int ((oUpd oZI ((0 : Int32).toInt.toNat) fl.toInt8.toInt32.toInt8.toInt32) i)) := A_73.setI W_75
    exact B30 X_75 sz fi se fl nn tot a_73 (oUpd oZI ((0 : Int32).toInt.toNat) fl.toInt8.toInt32.toInt8.toInt32) f76_0 hn.1 hn.2 ht g_73
set_option maxRecDepth 65536 in
set_option maxHeartbeats 4000000 in
theorem comes_1 {Post : Tables → Env → Array Value → State → Outcome → State → Prop} (hpost : ∀ tb e args s v u, (limb_1_1.after args s (.returned v) u = true ∧ limb_1_2.after args s (.returned v) u = true ∧ True) → FrameEnd s (.returned v) u (Jvm.fieldLocs frame_1_writes args s ++ Jvm.arrayLocs frame_1_arrays args s ++ Jvm.staticLocs frame_1_statics s) 16 128 → Post tb e args s (.returned v) u) :
    ArmFor flags0 classFile x code maxLocals ret World_1 tables_1 room_1 Calls_1 rest_1 Pre_1 Post := by
  intro l hfl _ _ p e ha hc hk s m args below hf hA hF happ hP
  obtain ⟨hcalls, hrest, hpre⟩ := hP
  obtain ⟨-, -, -, hnamed, -, -, -, hat⟩ := (Spec.applies_iff hf).mp happ
  obtain ⟨hg, hn⟩ := and_e (Cond.before_iff.mp (show (Jvm.Cond.and given_1 narrow_1).before args s = true from hpre))
  obtain ⟨hcount, hg0⟩ := and_e hg
  obtain ⟨ha0, hg1⟩ := and_e hg0
  obtain ⟨ha1, hg2⟩ := and_e hg1
  obtain ⟨ha2, hg3⟩ := and_e hg2
  have ha3 := hg3
  obtain ⟨w0, w1, w2, w3, rfl⟩ : ∃ w0 w1 w2 w3 : Value, args = #[w0, w1, w2, w3] := by
    have hs : args.size = 4 := by simpa [Cond.value, given_1] using hcount
    obtain ⟨L⟩ := args
    match L, hs with
    | [w0, w1, w2, w3], _ => exact ⟨w0, w1, w2, w3, rfl⟩
  have hw := fun d (hd : d ∈ tables_1) => atoms_spec (ws := Jvm.Cond.code x code maxLocals ret :: tables_1) hat d (List.mem_cons_of_mem _ hd)
  have hfit : Fit s := fun {y c} hc i hi => by
    obtain ⟨ha, rfl⟩ := Array.getElem?_eq_some_iff.mp hc
    have q := List.all_eq_true.mp ((Array.all_eq_true_iff_forall_mem.mp hF) _ (Array.getElem_mem ha)) i (List.mem_range.mpr hi)
    simpa [Array.getElem?_eq_getElem hi] using q
  obtain ⟨i0, e0⟩ := is_v ha0
  obtain rfl : w0 = (.int i0) := Option.some.inj e0
  obtain ⟨i1, e1⟩ := is_v ha1
  obtain rfl : w1 = (.int i1) := Option.some.inj e1
  obtain ⟨i2, e2⟩ := is_v ha2
  obtain rfl : w2 = (.int i2) := Option.some.inj e2
  obtain ⟨i3, e3⟩ := is_v ha3
  obtain rfl : w3 = (.int i3) := Option.some.inj e3
  obtain ⟨n, o, h1, h2, h3, _, L, rfl, ⟨N, rfl⟩, hq⟩ := C_law (Z := s) (ω := (l, s.heap.size, _)) hw (Nat.le_refl _) i0 i1 i2 i3 p e ha hc hk s m _ below hf ((Spec.applies_iff_loose hf).mp happ).1 ⟨rfl, State.Warmed39.refl s, rfl⟩ trivial
  refine ⟨n, _, h1, h2, h3, hpost _ _ _ _ _ _ ⟨Cond.after_iff.mpr rfl, Cond.after_iff.mpr (eq_i res_at (Term.int_eval (1)) rfl), trivial⟩ ⟨hq.1, hq.2.1, (hq.2.2.sift fun y hy => Or.inr (N y hy)).mono (by decide) (by decide)⟩⟩
theorem main_1_1 : Claimed_1_1 := comes_1 fun _ _ _ _ _ _ h hF => ⟨h.1, hF⟩
theorem main_1_2 : Claimed_1_2 := comes_1 fun _ _ _ _ _ _ h hF => ⟨h.2.1, hF⟩
end Jvm.Pilot.@@N@@
namespace Jvm.Pilot.@@N@@
open Jvm Jvm.ClassFile Sem Op Lib Jvm.Free Jvm.Stand Jvm.Pilot.@@N@@.Jvm.D
/-! MADE BY PROGRAM (witnessworld.py) out of the Statement's table words and the real class files: 9 classes; the members and pool entries that the words name. The judged class is class 1, her method 2. -/
namespace start1
open Jvm.ClassFile
def u (s : String) : CpInfo := .utf8 (stringToUtf16 s)
/-- a pool by its gaps: so many unusable entries, then the entry; so many at the end -/
def gap : Nat → List CpInfo → List CpInfo
  | 0, r => r
  | n + 1, r => .unusable :: gap n r
def poolList (es : List (Nat × CpInfo)) (last : Nat) : List CpInfo := es.foldr (fun e r => gap e.1 (e.2 :: r)) (gap last [])
def pool (es : List (Nat × CpInfo)) (last : Nat) : Array CpInfo := ⟨poolList es last⟩
def fileOf (pool : Array CpInfo) (this : Nat) (attrs : Array Attribute := #[]) (ms : Array MethodInfo := #[]) (fl : Nat := 33) (sup : Nat := 0) (ifs : Array Nat := #[]) (fds : Array FieldInfo := #[]) : ClassFile where
  minorVersion := 0
  majorVersion := 65
  constantPool := pool
  accessFlags := fl
  thisClass := this
  superClass := sup
  interfaces := ifs
  fields := fds
  methods := ms
  attributes := attrs
def plain (name : String) (sup : Option ClassId) : Class where
  name := name
  kind := .ordinary
  loader := none
  accessFlags := 33
  super := sup
  interfaces := #[]
  cf := none
  fields := #[]
  methods := #[]
  instanceTypes := #[]
  staticTypes := #[]
  resolved := #[]
  callSites := []
  init := .initialized
  statics := none
  mirror := none

def pool0 : Array CpInfo := pool [(5, u "<init>"), (0, u "()V"), (1, .class_ 10), (1, u "java/lang/Object")] 113

def k0c0 : Code := { maxStack := 0, maxLocals := 1, code := object_method_1_code, exceptionTable := #[], attributes := #[] }
def k0m0 : Method := { name := "<init>", desc := "()V", sig := { parameters := [], returnType := none }, accessFlags := 1, code := some k0c0 }
/-- java/lang/Object -/
def k0 : Class := { plain "java/lang/Object" none with
  accessFlags := 33
  interfaces := #[]
  cf := some (fileOf pool0 8 #[] #[{ accessFlags := 1, nameIndex := 5, descriptorIndex := 6, attributes := #[] }] 33 0 #[] #[])
  fields := #[]
  methods := #[k0m0]
  instanceTypes := #[]
  staticTypes := #[]
  resolved := Array.replicate 124 none
  statics := none }

def pool1 : Array CpInfo := pool [(2, .class_ 4), (1, u "java/lang/Object"), (0, u "<init>"), (0, u "()V"), (0, .class_ 8), (0, u "com/example/accrue/accrue/BitReader"), (0, .methodref 7 10), (0, .nameAndType 5 11), (0, u "([B)V"), (0, .methodref 7 13), (0, .nameAndType 14 15), (0, u "atEnd"), (0, u "()Z"), (0, .integer 2147483647), (0, .methodref 7 18), (0, .nameAndType 19 20), (0, u "read"), (0, u "(I)J"), (0, .methodref 22 23), (0, .class_ 24), (0, .nameAndType 25 26), (0, u "com/example/accrue/accrue/BitReaderAtEndPinLaw"), (0, u "expected"), (0, u "(II)Z"), (3, u "law"), (0, u "(IIII)Z")] 4

def k1m0 : Method := { name := "<init>", desc := "()V", sig := { parameters := [], returnType := none }, accessFlags := 1, code := none }
def k1c1 : Code := { maxStack := 2, maxLocals := 2, code := method_2_code, exceptionTable := #[], attributes := #[] }
def k1m1 : Method := { name := "expected", desc := "(II)Z", sig := { parameters := [.int, .int], returnType := some .boolean }, accessFlags := 10, code := some k1c1 }
def k1c2 : Code := { maxStack := 4, maxLocals := 12, code := code, exceptionTable := #[], attributes := #[] }
def k1m2 : Method := { name := "law", desc := "(IIII)Z", sig := { parameters := [.int, .int, .int, .int], returnType := some .boolean }, accessFlags := 9, code := some k1c2 }
/-- com/example/accrue/accrue/BitReaderAtEndPinLaw -/
def k1 : Class := { plain "com/example/accrue/accrue/BitReaderAtEndPinLaw" (some 0) with
  accessFlags := 49
  interfaces := #[]
  cf := some (fileOf pool1 22 #[] #[{ accessFlags := 1, nameIndex := 5, descriptorIndex := 6, attributes := #[] }, { accessFlags := 10, nameIndex := 25, descriptorIndex := 26, attributes := #[] }, { accessFlags := 9, nameIndex := 30, descriptorIndex := 31, attributes := #[] }] 49 2 #[] #[])
  fields := #[]
  methods := #[k1m0, k1m1, k1m2]
  instanceTypes := #[]
  staticTypes := #[]
  resolved := Array.replicate 36 none
  statics := none }

def pool2 : Array CpInfo := pool [(1, .methodref 2 3), (0, .class_ 4), (0, .nameAndType 5 6), (0, u "java/lang/Object"), (0, u "<init>"), (0, u "()V"), (0, .fieldref 8 9), (0, .class_ 10), (0, .nameAndType 11 12), (0, u "com/example/accrue/accrue/BitReader"), (0, u "bytes"), (0, u "[B"), (2, .methodref 8 16), (0, .nameAndType 17 18), (0, u "read"), (0, u "(I)J"), (0, .fieldref 8 20), (0, .nameAndType 21 22), (0, u "bufferCount"), (0, u "I"), (0, .fieldref 8 24), (0, .nameAndType 25 22), (0, u "offset"), (7, .fieldref 8 34), (0, .nameAndType 35 36), (0, u "buffer"), (0, u "J"), (5, u "()Z"), (10, u "([B)V"), (4, u "atEnd")] 2

def k2c0 : Code := { maxStack := 2, maxLocals := 2, code := prog_2_method_1_code, exceptionTable := #[], attributes := #[] }
def k2m0 : Method := { name := "<init>", desc := "([B)V", sig := { parameters := [(.array .byte)], returnType := none }, accessFlags := 0, code := some k2c0 }
def k2c1 : Code := { maxStack := 8, maxLocals := 4, code := prog_2_method_2_code, exceptionTable := #[], attributes := #[] }
def k2m1 : Method := { name := "read", desc := "(I)J", sig := { parameters := [.int], returnType := some .long }, accessFlags := 0, code := some k2c1 }
def k2c2 : Code := { maxStack := 2, maxLocals := 1, code := prog_2_method_6_code, exceptionTable := #[], attributes := #[] }
def k2m2 : Method := { name := "atEnd", desc := "()Z", sig := { parameters := [], returnType := some .boolean }, accessFlags := 0, code := some k2c2 }
/-- com/example/accrue/accrue/BitReader -/
def k2 : Class := { plain "com/example/accrue/accrue/BitReader" (some 0) with
  accessFlags := 48
  interfaces := #[]
  cf := some (fileOf pool2 8 #[] #[{ accessFlags := 0, nameIndex := 5, descriptorIndex := 53, attributes := #[] }, { accessFlags := 0, nameIndex := 17, descriptorIndex := 18, attributes := #[] }, { accessFlags := 0, nameIndex := 58, descriptorIndex := 42, attributes := #[] }] 48 2 #[] #[{ accessFlags := 18, nameIndex := 11, descriptorIndex := 12, attributes := #[] }, { accessFlags := 2, nameIndex := 25, descriptorIndex := 22, attributes := #[] }, { accessFlags := 2, nameIndex := 35, descriptorIndex := 36, attributes := #[] }, { accessFlags := 2, nameIndex := 21, descriptorIndex := 22, attributes := #[] }])
  fields := #[{ name := "bytes", type := (.array .byte), accessFlags := 18, slot := 0, constantValue := 0 }, { name := "offset", type := .int, accessFlags := 2, slot := 1, constantValue := 0 }, { name := "buffer", type := .long, accessFlags := 2, slot := 2, constantValue := 0 }, { name := "bufferCount", type := .int, accessFlags := 2, slot := 3, constantValue := 0 }]
  methods := #[k2m0, k2m1, k2m2]
  instanceTypes := #[(.array .byte), .int, .long, .int]
  staticTypes := #[]
  resolved := Array.replicate 61 none
  statics := none }

def pool3 : Array CpInfo := pool [(1, u "java/lang/Cloneable"), (0, .class_ 1), (0, u "java/lang/Object"), (0, .class_ 3)] 3

/-- java/lang/Cloneable -/
def k3 : Class := { plain "java/lang/Cloneable" (some 0) with
  accessFlags := 1537
  interfaces := #[]
  cf := some (fileOf pool3 2 #[] #[] 1537 4 #[] #[])
  fields := #[]
  methods := #[]
  instanceTypes := #[]
  staticTypes := #[]
  resolved := Array.replicate 8 none
  statics := none }

def pool4 : Array CpInfo := pool [(1, u "java/io/Serializable"), (0, .class_ 1), (0, u "java/lang/Object"), (0, .class_ 3)] 3

/-- java/io/Serializable -/
def k4 : Class := { plain "java/io/Serializable" (some 0) with
  accessFlags := 1537
  interfaces := #[]
  cf := some (fileOf pool4 2 #[] #[] 1537 4 #[] #[])
  fields := #[]
  methods := #[]
  instanceTypes := #[]
  staticTypes := #[]
  resolved := Array.replicate 8 none
  statics := none }

/-- the primitive byte -/
def k5 : Class := { plain "byte" none with kind := .primitive 'B', accessFlags := 0x411 }
/-- [B -/
def k6 : Class := { plain "[B" (some 0) with kind := .array 5 .byte, interfaces := #[3, 4], accessFlags := 1041 }

/-- the primitive int -/
def k7 : Class := { plain "int" none with kind := .primitive 'I', accessFlags := 0x411 }
/-- [I -/
def k8 : Class := { plain "[I" (some 0) with kind := .array 7 .int, interfaces := #[3, 4], accessFlags := 1041 }

def heap : Heap := #[]
def classes : Array Class := #[k0, k1, k2, k3, k4, k5, k6, k7, k8]
def interned : List (Array UInt16 × Addr) := []
def slotsUsed : Nat := 0
def theMethod : MethodId := ⟨1, 2⟩
def args0 : Array Value := #[.int 3, .int 9, .int 3, .int 1]
def aboutOver (below : List Frame) : State where
  vm := { classes := classes, interned := interned.toArray }
  heap := heap
  slotsUsed := slotsUsed
  threads := #[{ frames := .invoking theMethod args0 :: below }]
def below0 : List Frame := [.native { method := ⟨0, 0⟩, args := #[] }]
def about1 : State := aboutOver below0
def p0 : Program := .bare "" "" ""
def e0 : Env := launch0.env 0 0 0
theorem w_frames : about1.frames = Frame.invoking theMethod args0 :: below0 := rfl
set_option maxRecDepth 65536 in
theorem w_args : argsFit about1.vm theMethod args0 = true := by decide +kernel
set_option maxRecDepth 65536 in
theorem w_heap : heapFits about1 = true := by decide +kernel
set_option maxRecDepth 65536 in
theorem w_runnable : about1.curStatus? = some .runnable := by decide +kernel
set_option maxRecDepth 65536 in
theorem w_alone : about1.alone = true := by decide +kernel
set_option maxRecDepth 65536 in
theorem w_named : about1.methodNamed? x = some theMethod := by decide +kernel
set_option maxRecDepth 65536 in
theorem w_hears : about1.hears theMethod below0 = true := by decide +kernel
set_option maxRecDepth 65536 in
theorem w_ripe : about1.ripe theMethod args0 below0 = true := by decide +kernel
theorem w_running : about1.status = .running := rfl
set_option maxRecDepth 65536 in
theorem w_room : about1.hasRoom e0.platform room_1 = true :=
  launch0.hasRoom_least _ room_1 (by decide +kernel) (by decide +kernel) (by decide +kernel) (by decide +kernel) (by decide +kernel) (by decide +kernel)
theorem allAtoms_all (ts : List Jvm.Cond) (a : Array Jvm.Value) (st : Jvm.State) : (allAtoms ts).before a st = ts.all (fun c => c.before a st) := by
  induction ts with
  | nil => rfl
  | cons c t ih =>
    show (Jvm.Cond.and c (allAtoms t)).before a st = _
    rw [Jvm.Cond.before_and, ih, List.all_cons]
def words1 : List Jvm.Cond := Jvm.Cond.code x code maxLocals ret :: tables_1
/-- a 'code' word, met by the world's own term for the bytes: nothing is compared byte by byte -/
theorem code_word {y : MethodName} {bytes : ByteArray} {mx : Nat} {rt : Option FieldType} {a : Array Value} {s : State} {m : MethodId} {meth : Method} {c : Code} (h1 : s.methodNamed? y = some m) (h2 : s.vm.method? m = some meth) (h3 : meth.code = some c) (h4 : c.code = bytes)
    (h5 : (c.maxLocals == mx && c.exceptionTable.isEmpty && decide (c.maxStack ≤ mostOperands) && decide (meth.sig.returnType = rt) && !meth.locks && decide (parseMethodDescriptor y.desc = some meth.sig)) = true) : (Jvm.Cond.code y bytes mx rt).before a s = true := by
  simp only [Bool.and_eq_true, beq_iff_eq, Bool.not_eq_true', decide_eq_true_eq] at h5
  obtain ⟨⟨⟨⟨⟨g1, g2⟩, g3⟩, g4⟩, g5⟩, g6⟩ := h5
  simp [Cond.before, Cond.holds, Cond.value, h1, h2, h3, h4, g1, g2, g3, g4, g5, g6]
def isCode : Jvm.Cond → Bool
  | .code _ _ _ _ => true
  | _ => false
theorem all_split {L : List Jvm.Cond} {P : Jvm.Cond → Bool} (h1 : L.all (fun c => isCode c || P c) = true) (h2 : ∀ c ∈ L.filter isCode, P c = true) : L.all P = true := by
  refine List.all_eq_true.mpr fun c hc => ?_
  have h := List.all_eq_true.mp h1 c hc
  rcases Bool.eq_false_or_eq_true (isCode c) with hi | hi
  · exact h2 c (List.mem_filter.mpr ⟨hc, hi⟩)
  · simpa [hi] using h
set_option maxRecDepth 65536 in
theorem w_c0 : (Jvm.Cond.code x code maxLocals ret).before args0 about1 = true := code_word (m := ⟨1, 2⟩) (meth := k1m2) (c := k1c2) (by decide +kernel) rfl rfl rfl (by decide +kernel)
set_option maxRecDepth 65536 in
theorem w_c1 : (Jvm.Cond.code ({ cls := "com/example/accrue/accrue/BitReader", name := "<init>", desc := "([B)V" } : Jvm.MethodName) prog_2_method_1_code (2 : Nat) (Option.none : Option Jvm.ClassFile.FieldType)).before args0 about1 = true := code_word (m := ⟨2, 0⟩) (meth := k2m0) (c := k2c0) (by decide +kernel) rfl rfl rfl (by decide +kernel)
set_option maxRecDepth 65536 in
theorem w_c2 : (Jvm.Cond.code ({ cls := "java/lang/Object", name := "<init>", desc := "()V" } : Jvm.MethodName) object_method_1_code (1 : Nat) (Option.none : Option Jvm.ClassFile.FieldType)).before args0 about1 = true := code_word (m := ⟨0, 0⟩) (meth := k0m0) (c := k0c0) (by decide +kernel) rfl rfl rfl (by decide +kernel)
set_option maxRecDepth 65536 in
theorem w_c3 : (Jvm.Cond.code ({ cls := "com/example/accrue/accrue/BitReader", name := "atEnd", desc := "()Z" } : Jvm.MethodName) prog_2_method_6_code (1 : Nat) (Option.some Jvm.ClassFile.FieldType.boolean)).before args0 about1 = true := code_word (m := ⟨2, 2⟩) (meth := k2m2) (c := k2c2) (by decide +kernel) rfl rfl rfl (by decide +kernel)
set_option maxRecDepth 65536 in
theorem w_c4 : (Jvm.Cond.code ({ cls := "com/example/accrue/accrue/BitReader", name := "read", desc := "(I)J" } : Jvm.MethodName) prog_2_method_2_code (4 : Nat) (Option.some Jvm.ClassFile.FieldType.long)).before args0 about1 = true := code_word (m := ⟨2, 1⟩) (meth := k2m1) (c := k2c1) (by decide +kernel) rfl rfl rfl (by decide +kernel)
set_option maxRecDepth 65536 in
theorem w_c5 : (Jvm.Cond.code ({ cls := "com/example/accrue/accrue/BitReaderAtEndPinLaw", name := "expected", desc := "(II)Z" } : Jvm.MethodName) method_2_code (2 : Nat) (Option.some Jvm.ClassFile.FieldType.boolean)).before args0 about1 = true := code_word (m := ⟨1, 1⟩) (meth := k1m1) (c := k1c1) (by decide +kernel) rfl rfl rfl (by decide +kernel)
def codes1 : List Jvm.Cond := [Jvm.Cond.code x code maxLocals ret, Jvm.Cond.code ({ cls := "com/example/accrue/accrue/BitReader", name := "<init>", desc := "([B)V" } : Jvm.MethodName) prog_2_method_1_code (2 : Nat) (Option.none : Option Jvm.ClassFile.FieldType), Jvm.Cond.code ({ cls := "java/lang/Object", name := "<init>", desc := "()V" } : Jvm.MethodName) object_method_1_code (1 : Nat) (Option.none : Option Jvm.ClassFile.FieldType), Jvm.Cond.code ({ cls := "com/example/accrue/accrue/BitReader", name := "atEnd", desc := "()Z" } : Jvm.MethodName) prog_2_method_6_code (1 : Nat) (Option.some Jvm.ClassFile.FieldType.boolean), Jvm.Cond.code ({ cls := "com/example/accrue/accrue/BitReader", name := "read", desc := "(I)J" } : Jvm.MethodName) prog_2_method_2_code (4 : Nat) (Option.some Jvm.ClassFile.FieldType.long), Jvm.Cond.code ({ cls := "com/example/accrue/accrue/BitReaderAtEndPinLaw", name := "expected", desc := "(II)Z" } : Jvm.MethodName) method_2_code (2 : Nat) (Option.some Jvm.ClassFile.FieldType.boolean)]
set_option maxRecDepth 65536 in
theorem codes_eq : words1.filter isCode = codes1 := rfl
theorem w_codes : ∀ c ∈ words1.filter isCode, c.before args0 about1 = true := by
  rw [codes_eq]
  intro c hc
  simp only [codes1, List.mem_cons, List.not_mem_nil, or_false] at hc
  rcases hc with rfl | rfl | rfl | rfl | rfl | rfl
  · exact w_c0
  · exact w_c1
  · exact w_c2
  · exact w_c3
  · exact w_c4
  · exact w_c5
set_option maxRecDepth 65536 in
theorem w_t1 : (words1.take 24).all (fun c => isCode c || c.before args0 about1) = true := by decide +kernel
set_option maxRecDepth 65536 in
theorem w_t2 : (words1.drop 24).all (fun c => isCode c || c.before args0 about1) = true := by decide +kernel
theorem w_tables : (allAtoms (Jvm.Cond.code x code maxLocals ret :: tables_1)).before args0 about1 = true := by
  rw [allAtoms_all]
  show words1.all (fun c => c.before args0 about1) = true
  refine all_split ?_ w_codes
  rw [← List.take_append_drop 24 words1, List.all_append, w_t1, w_t2]
  rfl
set_option maxRecDepth 65536 in
theorem w_case : (Jvm.Cond.and given_1 narrow_1).before args0 about1 = true := by decide +kernel
theorem w_applies : (headSpec (Jvm.Cond.code x code maxLocals ret :: tables_1) room_1).applies x e0.platform about1 = true :=
  (Spec.applies_iff w_frames).mpr ⟨w_running, w_runnable, w_alone, w_named, w_hears, w_ripe, w_room, w_tables⟩
theorem atStart : AtStart classFile x code maxLocals ret World_1 tables_1 room_1 Calls_1 rest_1 Pre_1 launch0 p0 e0 about1 theMethod args0 below0 :=
  ⟨lists_1, trivial, launch0.admits_env _ _ _, launch0.least_env, fairChoices_fair.cas, fairChoices_fair.clock, w_frames, w_args, w_heap, w_applies, trivial, trivial, w_case⟩
end start1
theorem witness_1 : WitnessClaimed_1 := ⟨start1.p0, start1.e0, start1.about1, start1.theMethod, start1.args0, start1.below0, start1.atStart⟩
end Jvm.Pilot.@@N@@
