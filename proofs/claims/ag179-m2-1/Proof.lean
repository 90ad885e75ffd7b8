import JvmDerived
import JvmDerived.Pilot.@@N@@Statement
import JvmDerived.Pilot.@@N@@Code
set_option linter.unusedVariables false
set_option linter.unusedSimpArgs false
namespace Jvm.Pilot.@@N@@
open Jvm Jvm.ClassFile Sem Op Lib Jvm.Free Jvm.Stand Jvm.LawKit Jvm.RoadKit Bundle Jvm.Pilot.@@N@@.Jvm.D
/-- one invocation: program, environment, the state at the invocation, method, arguments, the frames below, the method's record, its code -/
abbrev OG := Program × Env × State × MethodId × Array Value × List Frame × Method × Code
/-- the whole run: the launch, the heap's size at the law's start, the law's arguments -/
abbrev OW := Launch × Nat × Array Value
/-- one method: its bytes, its number of locals, its class, its name, what it returns, the room it asks -/
abbrev OM := ByteArray × Nat × String × String × Option FieldType × Room
/-- where a walk stands -/
def oSt (Z : State) (ω : OW) (γ : OG) (κ : OM) (T : State) (h : Heap) (cs ss : Nat) : Prop :=
  γ.1.tables.exec = Jvm.exec ∧ γ.2.2.2.2.2.2.2.code = κ.1 ∧ γ.2.2.2.2.2.2.2.maxLocals = κ.2.1 ∧ γ.2.2.1.vm.findClass κ.2.2.1 = some γ.2.2.2.1.cls ∧ γ.2.2.2.2.2.2.1.name = κ.2.2.2.1 ∧
  γ.2.2.2.2.2.2.1.sig.returnType = κ.2.2.2.2.1 ∧ γ.2.2.2.2.2.2.1.locks = false ∧ Z.Warmed39 γ.2.2.1.vm ∧ (∀ d ∈ tables_1, d.before ω.2.2 Z = true) ∧ ω.2.1 ≤ γ.2.2.1.heap.size ∧ T.heap = h ∧
  ∃ locs, Stand γ.1 ω.1 γ.2.1 κ.2.2.2.2.2 γ.2.2.1 γ.2.2.2.1 γ.2.2.2.2.1 γ.2.2.2.2.2.1 γ.2.2.2.2.2.2.1 γ.2.2.2.2.2.2.2 T locs cs ss ∧ Fr ω.2.1 locs
/-- from here the method returns, and Q holds of what it returns and of the heap it leaves -/
def oWP (ω : OW) (γ : OG) (κ : OM) (Q : Option Value → Heap → Prop) (T : State) (pc : Nat) (L : Array Slot) (S : List Value) : Prop :=
  ∃ s₂ o, Steps γ.1.tables γ.2.1 γ.2.2.2.2.2.1 (T.setTop (mkF γ.2.2.2.1 pc L S)) s₂ ∧ s₂.status = .running ∧ Ended s₂ γ.2.2.2.2.2.1 o ∧
    ∃ v Lc, o = .returned v ∧ (Fr ω.2.1 Lc ∧ Q v s₂.heap) ∧ FrameEnd γ.2.2.1 o s₂ Lc κ.2.2.2.2.2.cells κ.2.2.2.2.2.slots
/-- a method's contract -/
def oC (Z : State) (ω : OW) (y : MethodName) (κ : OM) (ws : List Jvm.Cond) (as : Array Value) (h : Heap) (Q : Option Value → Heap → Prop) : Prop :=
  MetFree ω.1 y (head1 (Jvm.Cond.code y κ.1 κ.2.1 κ.2.2.2.2.1 :: ws) κ.2.2.2.2.2) (fun a U => a = as ∧ Z.Warmed39 U.vm ∧ U.heap = h) (fun _ _ _ _ _ => True)
    (fun _ U o U' => ∃ v Lc, o = .returned v ∧ (Fr ω.2.1 Lc ∧ Q v U'.heap) ∧ FrameEnd U o U' Lc κ.2.2.2.2.2.cells κ.2.2.2.2.2.slots)
theorem oC_of {Z : State} {ω : OW} {y : MethodName} {κ : OM} {ws : List Jvm.Cond} {as : Array Value} {h : Heap} {Q : Option Value → Heap → Prop} {L : Array Slot} (hw : ∀ d ∈ tables_1, d.before ω.2.2 Z = true) (hn0 : ω.2.1 ≤ h.size)
    (hpn : plainName y.cls = true) (hcl : κ.2.2.1 = y.cls) (hnm : κ.2.2.2.1 = y.name) (hef : ∀ m, entryFrame m as κ.2.1 = mkF m 0 L []) (body : ∀ γ T, oSt Z ω γ κ T h 0 0 → oWP ω γ κ Q T 0 L []) : oC Z ω y κ ws as h Q := by
  refine MetFree.of_bodySF (plainFor_of_name hpn) hisR ?_
  intro p e s m args below meth c s₁ Bd hml0 hP hK
  obtain ⟨rfl, hZ, hh⟩ := hP
  have hown : s.vm.findClass y.cls = some m.cls := findClass_of_methodNamed Bd.named
  have hnm' := (name_of_methodNamed Bd.named Bd.method).1
  have X0 := Stand.of_body Bd
  have e0 : s₁.heap = h := by rw [← hh, Bd.state]; rfl
  have hlk : meth.locks = false := BodyLoose.notSynchronized Bd
  obtain ⟨s₂, o, h1, h2, h3, h4⟩ := body (p, e, s, m, args, below, meth, c) s₁ ⟨Bd.exec, Bd.bytes, hml0, by rw [hcl]; exact hown, by rw [hnm]; exact hnm', Bd.returns, hlk, hZ, hw, by rw [hh]; exact hn0, e0, [], X0, Fr.nil _⟩
  exact ⟨s₂, o, castTop (hef m) h1, h2, h3, h4⟩
section Walk
variable {Z : State} {ω : OW} {γ : OG} {κ : OM} {Q : Option Value → Heap → Prop} {T : State} {h : Heap} {cs ss : Nat} {pc : Nat} {L : Array Slot} {S : List Value}
theorem oSt_n0 (X : oSt Z ω γ κ T h cs ss) : ω.2.1 ≤ h.size := by
  obtain ⟨-, -, -, -, -, -, -, -, -, hn0, hT, locs, Y, -⟩ := X
  have q : γ.2.2.1.heap.size ≤ T.heap.size := Y.same.2.1
  rw [hT] at q
  exact Nat.le_trans hn0 q
theorem oSt_w (X : oSt Z ω γ κ T h cs ss) : ∀ d ∈ tables_1, d.before ω.2.2 Z = true := by
  obtain ⟨-, -, -, -, -, -, -, -, hw, -⟩ := X; exact hw
theorem oSt_at (X : oSt Z ω γ κ T h cs ss) (i : Nat) {d : Jvm.Cond} (hi : tables_1[i]? = some d) : d.before ω.2.2 Z = true := oSt_w X _ (List.mem_of_getElem? hi)
theorem ow_iload (X : oSt Z ω γ κ T h cs ss) (pc' : Nat) {k : Nat} {v : Int32} (hd : decode κ.1 pc = .ok (.iload k, 2)) (hp : pc + 2 = pc') (hl : L[k]? = some (.val (.int v)))
    (K : oWP ω γ κ Q T pc' L (.int v :: S)) : oWP ω γ κ Q T pc L (S) := by
  obtain ⟨hx, hby, -, -, -, -, -, -, -, -, -, locs, Y, -⟩ := X
  subst hp
  obtain ⟨s₂, o, hs, r⟩ := K
  exact ⟨s₂, o, XS.iload Y.here hx rfl (hb hby hd) hl hs, r⟩
theorem ow_iloadN (X : oSt Z ω γ κ T h cs ss) (pc' : Nat) {k : Fin 4} {v : Int32} (hd : decode κ.1 pc = .ok (.iload_n k, 1)) (hp : pc + 1 = pc') (hl : L[k.val]? = some (.val (.int v)))
    (K : oWP ω γ κ Q T pc' L (.int v :: S)) : oWP ω γ κ Q T pc L (S) := by
  obtain ⟨hx, hby, -, -, -, -, -, -, -, -, -, locs, Y, -⟩ := X
  subst hp
  obtain ⟨s₂, o, hs, r⟩ := K
  exact ⟨s₂, o, XS.iloadN Y.here hx rfl (hb hby hd) hl hs, r⟩
theorem ow_istore (X : oSt Z ω γ κ T h cs ss) (pc' : Nat) {k : Nat} {v : Int32} {L' : Array Slot} (hd : decode κ.1 pc = .ok (.istore k, 2)) (hp : pc + 2 = pc') (hl : storeLocals L k (.int v) = some L')
    (K : oWP ω γ κ Q T pc' L' (S)) : oWP ω γ κ Q T pc L (.int v :: S) := by
  obtain ⟨hx, hby, -, -, -, -, -, -, -, -, -, locs, Y, -⟩ := X
  subst hp
  obtain ⟨s₂, o, hs, r⟩ := K
  exact ⟨s₂, o, XS.istore Y.here hx rfl (hb hby hd) rfl hl hs, r⟩
theorem ow_istoreN (X : oSt Z ω γ κ T h cs ss) (pc' : Nat) {k : Fin 4} {v : Int32} {L' : Array Slot} (hd : decode κ.1 pc = .ok (.istore_n k, 1)) (hp : pc + 1 = pc') (hl : storeLocals L k.val (.int v) = some L')
    (K : oWP ω γ κ Q T pc' L' (S)) : oWP ω γ κ Q T pc L (.int v :: S) := by
  obtain ⟨hx, hby, -, -, -, -, -, -, -, -, -, locs, Y, -⟩ := X
  subst hp
  obtain ⟨s₂, o, hs, r⟩ := K
  exact ⟨s₂, o, XS.istoreN Y.here hx rfl (hb hby hd) rfl hl hs, r⟩
theorem ow_lload (X : oSt Z ω γ κ T h cs ss) (pc' : Nat) {k : Nat} {v : Int64} (hd : decode κ.1 pc = .ok (.lload k, 2)) (hp : pc + 2 = pc') (hl : L[k]? = some (.val (.long v)))
    (K : oWP ω γ κ Q T pc' L (.long v :: S)) : oWP ω γ κ Q T pc L (S) := by
  obtain ⟨hx, hby, -, -, -, -, -, -, -, -, -, locs, Y, -⟩ := X
  subst hp
  obtain ⟨s₂, o, hs, r⟩ := K
  exact ⟨s₂, o, XS.lload Y.here hx rfl (hb hby hd) hl hs, r⟩
theorem ow_lloadN (X : oSt Z ω γ κ T h cs ss) (pc' : Nat) {k : Fin 4} {v : Int64} (hd : decode κ.1 pc = .ok (.lload_n k, 1)) (hp : pc + 1 = pc') (hl : L[k.val]? = some (.val (.long v)))
    (K : oWP ω γ κ Q T pc' L (.long v :: S)) : oWP ω γ κ Q T pc L (S) := by
  obtain ⟨hx, hby, -, -, -, -, -, -, -, -, -, locs, Y, -⟩ := X
  subst hp
  obtain ⟨s₂, o, hs, r⟩ := K
  exact ⟨s₂, o, XS.lloadN Y.here hx rfl (hb hby hd) hl hs, r⟩
theorem ow_lstore (X : oSt Z ω γ κ T h cs ss) (pc' : Nat) {k : Nat} {v : Int64} {L' : Array Slot} (hd : decode κ.1 pc = .ok (.lstore k, 2)) (hp : pc + 2 = pc') (hl : storeLocals L k (.long v) = some L')
    (K : oWP ω γ κ Q T pc' L' (S)) : oWP ω γ κ Q T pc L (.long v :: S) := by
  obtain ⟨hx, hby, -, -, -, -, -, -, -, -, -, locs, Y, -⟩ := X
  subst hp
  obtain ⟨s₂, o, hs, r⟩ := K
  exact ⟨s₂, o, XS.lstore Y.here hx rfl (hb hby hd) rfl hl hs, r⟩
theorem ow_lstoreN (X : oSt Z ω γ κ T h cs ss) (pc' : Nat) {k : Fin 4} {v : Int64} {L' : Array Slot} (hd : decode κ.1 pc = .ok (.lstore_n k, 1)) (hp : pc + 1 = pc') (hl : storeLocals L k.val (.long v) = some L')
    (K : oWP ω γ κ Q T pc' L' (S)) : oWP ω γ κ Q T pc L (.long v :: S) := by
  obtain ⟨hx, hby, -, -, -, -, -, -, -, -, -, locs, Y, -⟩ := X
  subst hp
  obtain ⟨s₂, o, hs, r⟩ := K
  exact ⟨s₂, o, XS.lstoreN Y.here hx rfl (hb hby hd) rfl hl hs, r⟩
theorem ow_aload (X : oSt Z ω γ κ T h cs ss) (pc' : Nat) {k : Nat} {v : Value} (hd : decode κ.1 pc = .ok (.aload k, 2)) (hp : pc + 2 = pc') (hl : L[k]? = some (.val v)) (hv : v.isRef = true)
    (K : oWP ω γ κ Q T pc' L (v :: S)) : oWP ω γ κ Q T pc L (S) := by
  obtain ⟨hx, hby, -, -, -, -, -, -, -, -, -, locs, Y, -⟩ := X
  subst hp
  obtain ⟨s₂, o, hs, r⟩ := K
  exact ⟨s₂, o, XS.aload Y.here hx rfl (hb hby hd) hl hv hs, r⟩
theorem ow_aloadN (X : oSt Z ω γ κ T h cs ss) (pc' : Nat) {k : Fin 4} {v : Value} (hd : decode κ.1 pc = .ok (.aload_n k, 1)) (hp : pc + 1 = pc') (hl : L[k.val]? = some (.val v)) (hv : v.isRef = true)
    (K : oWP ω γ κ Q T pc' L (v :: S)) : oWP ω γ κ Q T pc L (S) := by
  obtain ⟨hx, hby, -, -, -, -, -, -, -, -, -, locs, Y, -⟩ := X
  subst hp
  obtain ⟨s₂, o, hs, r⟩ := K
  exact ⟨s₂, o, XS.aloadN Y.here hx rfl (hb hby hd) hl hv hs, r⟩
theorem ow_astore (X : oSt Z ω γ κ T h cs ss) (pc' : Nat) {k : Nat} {v : Value} {L' : Array Slot} (hd : decode κ.1 pc = .ok (.astore k, 2)) (hp : pc + 2 = pc') (hv : v.isRef = true) (hl : storeLocals L k v = some L')
    (K : oWP ω γ κ Q T pc' L' (S)) : oWP ω γ κ Q T pc L (v :: S) := by
  obtain ⟨hx, hby, -, -, -, -, -, -, -, -, -, locs, Y, -⟩ := X
  subst hp
  obtain ⟨s₂, o, hs, r⟩ := K
  exact ⟨s₂, o, XS.astore Y.here hx rfl (hb hby hd) rfl hv hl hs, r⟩
theorem ow_astoreN (X : oSt Z ω γ κ T h cs ss) (pc' : Nat) {k : Fin 4} {v : Value} {L' : Array Slot} (hd : decode κ.1 pc = .ok (.astore_n k, 1)) (hp : pc + 1 = pc') (hv : v.isRef = true) (hl : storeLocals L k.val v = some L')
    (K : oWP ω γ κ Q T pc' L' (S)) : oWP ω γ κ Q T pc L (v :: S) := by
  obtain ⟨hx, hby, -, -, -, -, -, -, -, -, -, locs, Y, -⟩ := X
  subst hp
  obtain ⟨s₂, o, hs, r⟩ := K
  exact ⟨s₂, o, XS.astoreN Y.here hx rfl (hb hby hd) rfl hv hl hs, r⟩
theorem ow_iconst (X : oSt Z ω γ κ T h cs ss) (pc' : Nat) {i : Int} (v : Int32) (hd : decode κ.1 pc = .ok (.iconst i, 1)) (hp : pc + 1 = pc') (hv : Int32.ofInt i = v)
    (K : oWP ω γ κ Q T pc' L (.int v :: S)) : oWP ω γ κ Q T pc L (S) := by
  obtain ⟨hx, hby, -, -, -, -, -, -, -, -, -, locs, Y, -⟩ := X
  subst hp
  obtain ⟨s₂, o, hs, r⟩ := K
  subst hv; exact ⟨s₂, o, XS.iconst Y.here hx rfl (hb hby hd) hs, r⟩
theorem ow_bipush (X : oSt Z ω γ κ T h cs ss) (pc' : Nat) {i : Int} (v : Int32) (hd : decode κ.1 pc = .ok (.bipush i, 2)) (hp : pc + 2 = pc') (hv : (Int8.ofInt i).toInt32 = v)
    (K : oWP ω γ κ Q T pc' L (.int v :: S)) : oWP ω γ κ Q T pc L (S) := by
  obtain ⟨hx, hby, -, -, -, -, -, -, -, -, -, locs, Y, -⟩ := X
  subst hp
  obtain ⟨s₂, o, hs, r⟩ := K
  subst hv; exact ⟨s₂, o, XS.bipush Y.here hx rfl (hb hby hd) hs, r⟩
theorem ow_sipush (X : oSt Z ω γ κ T h cs ss) (pc' : Nat) {i : Int} (v : Int32) (hd : decode κ.1 pc = .ok (.sipush i, 3)) (hp : pc + 3 = pc') (hv : (Int16.ofInt i).toInt32 = v)
    (K : oWP ω γ κ Q T pc' L (.int v :: S)) : oWP ω γ κ Q T pc L (S) := by
  obtain ⟨hx, hby, -, -, -, -, -, -, -, -, -, locs, Y, -⟩ := X
  subst hp
  obtain ⟨s₂, o, hs, r⟩ := K
  subst hv; exact ⟨s₂, o, XS.sipush Y.here hx rfl (hb hby hd) hs, r⟩
theorem ow_lconst (X : oSt Z ω γ κ T h cs ss) (pc' : Nat) {k : Fin 2} (v : Int64) (hd : decode κ.1 pc = .ok (.lconst k, 1)) (hp : pc + 1 = pc') (hv : Int64.ofNat k = v)
    (K : oWP ω γ κ Q T pc' L (.long v :: S)) : oWP ω γ κ Q T pc L (S) := by
  obtain ⟨hx, hby, -, -, -, -, -, -, -, -, -, locs, Y, -⟩ := X
  subst hp
  obtain ⟨s₂, o, hs, r⟩ := K
  subst hv; exact ⟨s₂, o, XS.lconst Y.here hx rfl (hb hby hd) hs, r⟩
theorem ow_anull (X : oSt Z ω γ κ T h cs ss) (pc' : Nat)  (hd : decode κ.1 pc = .ok (.aconst_null, 1)) (hp : pc + 1 = pc') 
    (K : oWP ω γ κ Q T pc' L (.null :: S)) : oWP ω γ κ Q T pc L (S) := by
  obtain ⟨hx, hby, -, -, -, -, -, -, -, -, -, locs, Y, -⟩ := X
  subst hp
  obtain ⟨s₂, o, hs, r⟩ := K
  exact ⟨s₂, o, XS.aconstNull Y.here hx rfl (hb hby hd) hs, r⟩
theorem ow_iinc (X : oSt Z ω γ κ T h cs ss) (pc' : Nat) {k : Nat} {i : Int} {x : Int32} {L' : Array Slot} (v : Int32) (hd : decode κ.1 pc = .ok (.iinc k i, 3)) (hp : pc + 3 = pc') (hv : Int32.ofInt i = v) (hl : L[k]? = some (.val (.int x))) (hl' : storeLocals L k (.int (x + v)) = some L')
    (K : oWP ω γ κ Q T pc' L' (S)) : oWP ω γ κ Q T pc L (S) := by
  obtain ⟨hx, hby, -, -, -, -, -, -, -, -, -, locs, Y, -⟩ := X
  subst hp
  obtain ⟨s₂, o, hs, r⟩ := K
  subst hv; exact ⟨s₂, o, XS.iinc Y.here hx rfl (hb hby hd) hl hl' hs, r⟩
theorem ow_iadd (X : oSt Z ω γ κ T h cs ss) (pc' : Nat) {x y : Int32} (hd : decode κ.1 pc = .ok (.iadd, 1)) (hp : pc + 1 = pc') 
    (K : oWP ω γ κ Q T pc' L (.int (x + y) :: S)) : oWP ω γ κ Q T pc L (.int y :: .int x :: S) := by
  obtain ⟨hx, hby, -, -, -, -, -, -, -, -, -, locs, Y, -⟩ := X
  subst hp
  obtain ⟨s₂, o, hs, r⟩ := K
  exact ⟨s₂, o, XS.iadd Y.here hx rfl (hb hby hd) rfl hs, r⟩
theorem ow_isub (X : oSt Z ω γ κ T h cs ss) (pc' : Nat) {x y : Int32} (hd : decode κ.1 pc = .ok (.isub, 1)) (hp : pc + 1 = pc') 
    (K : oWP ω γ κ Q T pc' L (.int (x - y) :: S)) : oWP ω γ κ Q T pc L (.int y :: .int x :: S) := by
  obtain ⟨hx, hby, -, -, -, -, -, -, -, -, -, locs, Y, -⟩ := X
  subst hp
  obtain ⟨s₂, o, hs, r⟩ := K
  exact ⟨s₂, o, XS.isub Y.here hx rfl (hb hby hd) rfl hs, r⟩
theorem ow_imul (X : oSt Z ω γ κ T h cs ss) (pc' : Nat) {x y : Int32} (hd : decode κ.1 pc = .ok (.imul, 1)) (hp : pc + 1 = pc') 
    (K : oWP ω γ κ Q T pc' L (.int (x * y) :: S)) : oWP ω γ κ Q T pc L (.int y :: .int x :: S) := by
  obtain ⟨hx, hby, -, -, -, -, -, -, -, -, -, locs, Y, -⟩ := X
  subst hp
  obtain ⟨s₂, o, hs, r⟩ := K
  exact ⟨s₂, o, XS.imul Y.here hx rfl (hb hby hd) rfl hs, r⟩
theorem ow_iand (X : oSt Z ω γ κ T h cs ss) (pc' : Nat) {x y : Int32} (hd : decode κ.1 pc = .ok (.iand, 1)) (hp : pc + 1 = pc') 
    (K : oWP ω γ κ Q T pc' L (.int (x &&& y) :: S)) : oWP ω γ κ Q T pc L (.int y :: .int x :: S) := by
  obtain ⟨hx, hby, -, -, -, -, -, -, -, -, -, locs, Y, -⟩ := X
  subst hp
  obtain ⟨s₂, o, hs, r⟩ := K
  exact ⟨s₂, o, XS.iand Y.here hx rfl (hb hby hd) rfl hs, r⟩
theorem ow_ior (X : oSt Z ω γ κ T h cs ss) (pc' : Nat) {x y : Int32} (hd : decode κ.1 pc = .ok (.ior, 1)) (hp : pc + 1 = pc') 
    (K : oWP ω γ κ Q T pc' L (.int (x ||| y) :: S)) : oWP ω γ κ Q T pc L (.int y :: .int x :: S) := by
  obtain ⟨hx, hby, -, -, -, -, -, -, -, -, -, locs, Y, -⟩ := X
  subst hp
  obtain ⟨s₂, o, hs, r⟩ := K
  exact ⟨s₂, o, XS.ior Y.here hx rfl (hb hby hd) rfl hs, r⟩
theorem ow_ixor (X : oSt Z ω γ κ T h cs ss) (pc' : Nat) {x y : Int32} (hd : decode κ.1 pc = .ok (.ixor, 1)) (hp : pc + 1 = pc') 
    (K : oWP ω γ κ Q T pc' L (.int (x ^^^ y) :: S)) : oWP ω γ κ Q T pc L (.int y :: .int x :: S) := by
  obtain ⟨hx, hby, -, -, -, -, -, -, -, -, -, locs, Y, -⟩ := X
  subst hp
  obtain ⟨s₂, o, hs, r⟩ := K
  exact ⟨s₂, o, XS.ixor Y.here hx rfl (hb hby hd) rfl hs, r⟩
theorem ow_ishl (X : oSt Z ω γ κ T h cs ss) (pc' : Nat) {x y : Int32} (hd : decode κ.1 pc = .ok (.ishl, 1)) (hp : pc + 1 = pc') 
    (K : oWP ω γ κ Q T pc' L (.int (x <<< (y &&& 31)) :: S)) : oWP ω γ κ Q T pc L (.int y :: .int x :: S) := by
  obtain ⟨hx, hby, -, -, -, -, -, -, -, -, -, locs, Y, -⟩ := X
  subst hp
  obtain ⟨s₂, o, hs, r⟩ := K
  exact ⟨s₂, o, XS.ishl Y.here hx rfl (hb hby hd) rfl hs, r⟩
theorem ow_ishr (X : oSt Z ω γ κ T h cs ss) (pc' : Nat) {x y : Int32} (hd : decode κ.1 pc = .ok (.ishr, 1)) (hp : pc + 1 = pc') 
    (K : oWP ω γ κ Q T pc' L (.int (x >>> (y &&& 31)) :: S)) : oWP ω γ κ Q T pc L (.int y :: .int x :: S) := by
  obtain ⟨hx, hby, -, -, -, -, -, -, -, -, -, locs, Y, -⟩ := X
  subst hp
  obtain ⟨s₂, o, hs, r⟩ := K
  exact ⟨s₂, o, XS.ishr Y.here hx rfl (hb hby hd) rfl hs, r⟩
theorem ow_iushr (X : oSt Z ω γ κ T h cs ss) (pc' : Nat) {x y : Int32} (hd : decode κ.1 pc = .ok (.iushr, 1)) (hp : pc + 1 = pc') 
    (K : oWP ω γ κ Q T pc' L (.int ((x.toUInt32 >>> (y &&& 31).toUInt32).toInt32) :: S)) : oWP ω γ κ Q T pc L (.int y :: .int x :: S) := by
  obtain ⟨hx, hby, -, -, -, -, -, -, -, -, -, locs, Y, -⟩ := X
  subst hp
  obtain ⟨s₂, o, hs, r⟩ := K
  exact ⟨s₂, o, XS.iushr Y.here hx rfl (hb hby hd) rfl hs, r⟩
theorem ow_ineg (X : oSt Z ω γ κ T h cs ss) (pc' : Nat) {x : Int32} (hd : decode κ.1 pc = .ok (.ineg, 1)) (hp : pc + 1 = pc') 
    (K : oWP ω γ κ Q T pc' L (.int (-x) :: S)) : oWP ω γ κ Q T pc L (.int x :: S) := by
  obtain ⟨hx, hby, -, -, -, -, -, -, -, -, -, locs, Y, -⟩ := X
  subst hp
  obtain ⟨s₂, o, hs, r⟩ := K
  exact ⟨s₂, o, XS.ineg Y.here hx rfl (hb hby hd) rfl hs, r⟩
theorem ow_idiv (X : oSt Z ω γ κ T h cs ss) (pc' : Nat) {x y : Int32} (hd : decode κ.1 pc = .ok (.idiv, 1)) (hp : pc + 1 = pc') (hy : y ≠ 0)
    (K : oWP ω γ κ Q T pc' L (.int (x / y) :: S)) : oWP ω γ κ Q T pc L (.int y :: .int x :: S) := by
  obtain ⟨hx, hby, -, -, -, -, -, -, -, -, -, locs, Y, -⟩ := X
  subst hp
  obtain ⟨s₂, o, hs, r⟩ := K
  exact ⟨s₂, o, XS.idiv Y.here hx rfl (hb hby hd) rfl hy hs, r⟩
theorem ow_irem (X : oSt Z ω γ κ T h cs ss) (pc' : Nat) {x y : Int32} (hd : decode κ.1 pc = .ok (.irem, 1)) (hp : pc + 1 = pc') (hy : y ≠ 0)
    (K : oWP ω γ κ Q T pc' L (.int (x % y) :: S)) : oWP ω γ κ Q T pc L (.int y :: .int x :: S) := by
  obtain ⟨hx, hby, -, -, -, -, -, -, -, -, -, locs, Y, -⟩ := X
  subst hp
  obtain ⟨s₂, o, hs, r⟩ := K
  exact ⟨s₂, o, iremM Y hx rfl (hb hby hd) rfl hy hs, r⟩
theorem ow_ladd (X : oSt Z ω γ κ T h cs ss) (pc' : Nat) {x y : Int64} (hd : decode κ.1 pc = .ok (.ladd, 1)) (hp : pc + 1 = pc') 
    (K : oWP ω γ κ Q T pc' L (.long (x + y) :: S)) : oWP ω γ κ Q T pc L (.long y :: .long x :: S) := by
  obtain ⟨hx, hby, -, -, -, -, -, -, -, -, -, locs, Y, -⟩ := X
  subst hp
  obtain ⟨s₂, o, hs, r⟩ := K
  exact ⟨s₂, o, XS.ladd Y.here hx rfl (hb hby hd) rfl hs, r⟩
theorem ow_lsub (X : oSt Z ω γ κ T h cs ss) (pc' : Nat) {x y : Int64} (hd : decode κ.1 pc = .ok (.lsub, 1)) (hp : pc + 1 = pc') 
    (K : oWP ω γ κ Q T pc' L (.long (x - y) :: S)) : oWP ω γ κ Q T pc L (.long y :: .long x :: S) := by
  obtain ⟨hx, hby, -, -, -, -, -, -, -, -, -, locs, Y, -⟩ := X
  subst hp
  obtain ⟨s₂, o, hs, r⟩ := K
  exact ⟨s₂, o, XS.lsub Y.here hx rfl (hb hby hd) rfl hs, r⟩
theorem ow_lmul (X : oSt Z ω γ κ T h cs ss) (pc' : Nat) {x y : Int64} (hd : decode κ.1 pc = .ok (.lmul, 1)) (hp : pc + 1 = pc') 
    (K : oWP ω γ κ Q T pc' L (.long (x * y) :: S)) : oWP ω γ κ Q T pc L (.long y :: .long x :: S) := by
  obtain ⟨hx, hby, -, -, -, -, -, -, -, -, -, locs, Y, -⟩ := X
  subst hp
  obtain ⟨s₂, o, hs, r⟩ := K
  exact ⟨s₂, o, XS.lmul Y.here hx rfl (hb hby hd) rfl hs, r⟩
theorem ow_land (X : oSt Z ω γ κ T h cs ss) (pc' : Nat) {x y : Int64} (hd : decode κ.1 pc = .ok (.land, 1)) (hp : pc + 1 = pc') 
    (K : oWP ω γ κ Q T pc' L (.long (x &&& y) :: S)) : oWP ω γ κ Q T pc L (.long y :: .long x :: S) := by
  obtain ⟨hx, hby, -, -, -, -, -, -, -, -, -, locs, Y, -⟩ := X
  subst hp
  obtain ⟨s₂, o, hs, r⟩ := K
  exact ⟨s₂, o, XS.land Y.here hx rfl (hb hby hd) rfl hs, r⟩
theorem ow_lor (X : oSt Z ω γ κ T h cs ss) (pc' : Nat) {x y : Int64} (hd : decode κ.1 pc = .ok (.lor, 1)) (hp : pc + 1 = pc') 
    (K : oWP ω γ κ Q T pc' L (.long (x ||| y) :: S)) : oWP ω γ κ Q T pc L (.long y :: .long x :: S) := by
  obtain ⟨hx, hby, -, -, -, -, -, -, -, -, -, locs, Y, -⟩ := X
  subst hp
  obtain ⟨s₂, o, hs, r⟩ := K
  exact ⟨s₂, o, XS.lor Y.here hx rfl (hb hby hd) rfl hs, r⟩
theorem ow_lxor (X : oSt Z ω γ κ T h cs ss) (pc' : Nat) {x y : Int64} (hd : decode κ.1 pc = .ok (.lxor, 1)) (hp : pc + 1 = pc') 
    (K : oWP ω γ κ Q T pc' L (.long (x ^^^ y) :: S)) : oWP ω γ κ Q T pc L (.long y :: .long x :: S) := by
  obtain ⟨hx, hby, -, -, -, -, -, -, -, -, -, locs, Y, -⟩ := X
  subst hp
  obtain ⟨s₂, o, hs, r⟩ := K
  exact ⟨s₂, o, XS.lxor Y.here hx rfl (hb hby hd) rfl hs, r⟩
theorem ow_lshl (X : oSt Z ω γ κ T h cs ss) (pc' : Nat) {x : Int64} {y : Int32} (hd : decode κ.1 pc = .ok (.lshl, 1)) (hp : pc + 1 = pc') 
    (K : oWP ω γ κ Q T pc' L (.long (x <<< (y &&& 0x3f).toInt64) :: S)) : oWP ω γ κ Q T pc L (.int y :: .long x :: S) := by
  obtain ⟨hx, hby, -, -, -, -, -, -, -, -, -, locs, Y, -⟩ := X
  subst hp
  obtain ⟨s₂, o, hs, r⟩ := K
  exact ⟨s₂, o, XS.lshl Y.here hx rfl (hb hby hd) rfl hs, r⟩
theorem ow_lshr (X : oSt Z ω γ κ T h cs ss) (pc' : Nat) {x : Int64} {y : Int32} (hd : decode κ.1 pc = .ok (.lshr, 1)) (hp : pc + 1 = pc') 
    (K : oWP ω γ κ Q T pc' L (.long (x >>> (y &&& 0x3f).toInt64) :: S)) : oWP ω γ κ Q T pc L (.int y :: .long x :: S) := by
  obtain ⟨hx, hby, -, -, -, -, -, -, -, -, -, locs, Y, -⟩ := X
  subst hp
  obtain ⟨s₂, o, hs, r⟩ := K
  exact ⟨s₂, o, XS.lshr Y.here hx rfl (hb hby hd) rfl hs, r⟩
theorem ow_lushr (X : oSt Z ω γ κ T h cs ss) (pc' : Nat) {x : Int64} {y : Int32} (hd : decode κ.1 pc = .ok (.lushr, 1)) (hp : pc + 1 = pc') 
    (K : oWP ω γ κ Q T pc' L (.long ((x.toUInt64 >>> (y &&& 0x3f).toInt64.toUInt64).toInt64) :: S)) : oWP ω γ κ Q T pc L (.int y :: .long x :: S) := by
  obtain ⟨hx, hby, -, -, -, -, -, -, -, -, -, locs, Y, -⟩ := X
  subst hp
  obtain ⟨s₂, o, hs, r⟩ := K
  exact ⟨s₂, o, XS.lushr Y.here hx rfl (hb hby hd) rfl hs, r⟩
theorem ow_ldiv (X : oSt Z ω γ κ T h cs ss) (pc' : Nat) {x y : Int64} (hd : decode κ.1 pc = .ok (.ldiv, 1)) (hp : pc + 1 = pc') (hy : y ≠ 0)
    (K : oWP ω γ κ Q T pc' L (.long (x / y) :: S)) : oWP ω γ κ Q T pc L (.long y :: .long x :: S) := by
  obtain ⟨hx, hby, -, -, -, -, -, -, -, -, -, locs, Y, -⟩ := X
  subst hp
  obtain ⟨s₂, o, hs, r⟩ := K
  exact ⟨s₂, o, XS.ldiv Y.here hx rfl (hb hby hd) rfl hy hs, r⟩
theorem ow_lrem (X : oSt Z ω γ κ T h cs ss) (pc' : Nat) {x y : Int64} (hd : decode κ.1 pc = .ok (.lrem, 1)) (hp : pc + 1 = pc') (hy : y ≠ 0)
    (K : oWP ω γ κ Q T pc' L (.long (x % y) :: S)) : oWP ω γ κ Q T pc L (.long y :: .long x :: S) := by
  obtain ⟨hx, hby, -, -, -, -, -, -, -, -, -, locs, Y, -⟩ := X
  subst hp
  obtain ⟨s₂, o, hs, r⟩ := K
  rw [← lrem_mod] at hs; exact ⟨s₂, o, XS.lrem Y.here hx rfl (hb hby hd) rfl hy hs, r⟩
theorem ow_i2l (X : oSt Z ω γ κ T h cs ss) (pc' : Nat) {x : Int32} (hd : decode κ.1 pc = .ok (.i2l, 1)) (hp : pc + 1 = pc') 
    (K : oWP ω γ κ Q T pc' L (.long x.toInt64 :: S)) : oWP ω γ κ Q T pc L (.int x :: S) := by
  obtain ⟨hx, hby, -, -, -, -, -, -, -, -, -, locs, Y, -⟩ := X
  subst hp
  obtain ⟨s₂, o, hs, r⟩ := K
  exact ⟨s₂, o, XS.i2l Y.here hx rfl (hb hby hd) rfl hs, r⟩
theorem ow_l2i (X : oSt Z ω γ κ T h cs ss) (pc' : Nat) {x : Int64} (hd : decode κ.1 pc = .ok (.l2i, 1)) (hp : pc + 1 = pc') 
    (K : oWP ω γ κ Q T pc' L (.int x.toInt32 :: S)) : oWP ω γ κ Q T pc L (.long x :: S) := by
  obtain ⟨hx, hby, -, -, -, -, -, -, -, -, -, locs, Y, -⟩ := X
  subst hp
  obtain ⟨s₂, o, hs, r⟩ := K
  exact ⟨s₂, o, XS.l2i Y.here hx rfl (hb hby hd) rfl hs, r⟩
theorem ow_i2b (X : oSt Z ω γ κ T h cs ss) (pc' : Nat) {x : Int32} (hd : decode κ.1 pc = .ok (.i2b, 1)) (hp : pc + 1 = pc') 
    (K : oWP ω γ κ Q T pc' L (.int x.toInt8.toInt32 :: S)) : oWP ω γ κ Q T pc L (.int x :: S) := by
  obtain ⟨hx, hby, -, -, -, -, -, -, -, -, -, locs, Y, -⟩ := X
  subst hp
  obtain ⟨s₂, o, hs, r⟩ := K
  exact ⟨s₂, o, XS.i2b Y.here hx rfl (hb hby hd) rfl hs, r⟩
theorem ow_i2c (X : oSt Z ω γ κ T h cs ss) (pc' : Nat) {x : Int32} (hd : decode κ.1 pc = .ok (.i2c, 1)) (hp : pc + 1 = pc') 
    (K : oWP ω γ κ Q T pc' L (.int x.toUInt32.toUInt16.toUInt32.toInt32 :: S)) : oWP ω γ κ Q T pc L (.int x :: S) := by
  obtain ⟨hx, hby, -, -, -, -, -, -, -, -, -, locs, Y, -⟩ := X
  subst hp
  obtain ⟨s₂, o, hs, r⟩ := K
  exact ⟨s₂, o, XS.i2c Y.here hx rfl (hb hby hd) rfl hs, r⟩
theorem ow_i2s (X : oSt Z ω γ κ T h cs ss) (pc' : Nat) {x : Int32} (hd : decode κ.1 pc = .ok (.i2s, 1)) (hp : pc + 1 = pc') 
    (K : oWP ω γ κ Q T pc' L (.int x.toInt16.toInt32 :: S)) : oWP ω γ κ Q T pc L (.int x :: S) := by
  obtain ⟨hx, hby, -, -, -, -, -, -, -, -, -, locs, Y, -⟩ := X
  subst hp
  obtain ⟨s₂, o, hs, r⟩ := K
  exact ⟨s₂, o, XS.i2s Y.here hx rfl (hb hby hd) rfl hs, r⟩
theorem ow_dup (X : oSt Z ω γ κ T h cs ss) (pc' : Nat) {x : Value} (hd : decode κ.1 pc = .ok (.dup, 1)) (hp : pc + 1 = pc') (hc : x.category = 1)
    (K : oWP ω γ κ Q T pc' L (x :: x :: S)) : oWP ω γ κ Q T pc L (x :: S) := by
  obtain ⟨hx, hby, -, -, -, -, -, -, -, -, -, locs, Y, -⟩ := X
  subst hp
  obtain ⟨s₂, o, hs, r⟩ := K
  exact ⟨s₂, o, XS.dup Y.here hx rfl (hb hby hd) rfl hc hs, r⟩
theorem ow_pop (X : oSt Z ω γ κ T h cs ss) (pc' : Nat) {x : Value} (hd : decode κ.1 pc = .ok (.pop, 1)) (hp : pc + 1 = pc') (hc : x.category = 1)
    (K : oWP ω γ κ Q T pc' L (S)) : oWP ω γ κ Q T pc L (x :: S) := by
  obtain ⟨hx, hby, -, -, -, -, -, -, -, -, -, locs, Y, -⟩ := X
  subst hp
  obtain ⟨s₂, o, hs, r⟩ := K
  exact ⟨s₂, o, XS.pop Y.here hx rfl (hb hby hd) rfl hc hs, r⟩
theorem ow_dupX1 (X : oSt Z ω γ κ T h cs ss) (pc' : Nat) {x y : Value} (hd : decode κ.1 pc = .ok (.dup_x1, 1)) (hp : pc + 1 = pc') (hc : x.category = 1) (hc' : y.category = 1)
    (K : oWP ω γ κ Q T pc' L (x :: y :: x :: S)) : oWP ω γ κ Q T pc L (x :: y :: S) := by
  obtain ⟨hx, hby, -, -, -, -, -, -, -, -, -, locs, Y, -⟩ := X
  subst hp
  obtain ⟨s₂, o, hs, r⟩ := K
  exact ⟨s₂, o, XS.dupX1 Y.here hx rfl (hb hby hd) rfl hc hc' hs, r⟩
theorem ow_dup2 (X : oSt Z ω γ κ T h cs ss) (pc' : Nat) {x y : Value} (hd : decode κ.1 pc = .ok (.dup2, 1)) (hp : pc + 1 = pc') (hc : x.category = 1) (hc' : y.category = 1)
    (K : oWP ω γ κ Q T pc' L (x :: y :: x :: y :: S)) : oWP ω γ κ Q T pc L (x :: y :: S) := by
  obtain ⟨hx, hby, -, -, -, -, -, -, -, -, -, locs, Y, -⟩ := X
  subst hp
  obtain ⟨s₂, o, hs, r⟩ := K
  exact ⟨s₂, o, XT.dup2 Y.here hx rfl (hb hby hd) rfl hc hc' hs, r⟩
theorem oXpop2L {tb : Tables} [Ours tb] {e : Env} {below : List Frame} {T target : State} {m : MethodId} {c : Code} {g : JFrame} (h : At T m c below) (hx : tb.exec = Jvm.exec) (hg : g.method = m) {x : Int64} {rest : List Value} (hd : decode c.code g.pc = .ok (.pop2, 1)) (hs : g.stack = .long x :: rest)
    (hr : Steps tb e below (T.setTop { g with pc := g.pc + 1, stack := rest }) target) : Steps tb e below (T.setTop g) target := by
  subst hg
  jvm_step h [h.top, hx, hd, hs, Value.category]
  exact hr
theorem ow_pop2L (X : oSt Z ω γ κ T h cs ss) (pc' : Nat) {x : Int64} (hd : decode κ.1 pc = .ok (.pop2, 1)) (hp : pc + 1 = pc') 
    (K : oWP ω γ κ Q T pc' L (S)) : oWP ω γ κ Q T pc L (.long x :: S) := by
  obtain ⟨hx, hby, -, -, -, -, -, -, -, -, -, locs, Y, -⟩ := X
  subst hp
  obtain ⟨s₂, o, hs, r⟩ := K
  exact ⟨s₂, o, oXpop2L Y.here hx rfl (hb hby hd) rfl hs, r⟩
theorem ow_ldcI (X : oSt Z ω γ κ T h cs ss) (pc' i : Nat) {own : String} {idx : Nat} {v : Int32} (hw : tables_1[i]? = some (.constant own idx v)) (ho : κ.2.2.1 = own) (hd : decode κ.1 pc = .ok (.ldc idx, 2)) (hp : pc + 2 = pc')
    (K : oWP ω γ κ Q T pc' L (.int v :: S)) : oWP ω γ κ Q T pc L S := by
  have hw' := oSt_at X i hw
  obtain ⟨hx, hby, -, hown, -, -, -, hZ, -, -, -, locs, Y, -⟩ := X
  subst hp ho
  obtain ⟨s₂, o, hs, r⟩ := K
  exact ⟨s₂, o, Stand.ldcI Y hx hown (mv hZ hw') rfl (hb hby hd) hs, r⟩
theorem ow_ldcWI (X : oSt Z ω γ κ T h cs ss) (pc' i : Nat) {own : String} {idx : Nat} {v : Int32} (hw : tables_1[i]? = some (.constant own idx v)) (ho : κ.2.2.1 = own) (hd : decode κ.1 pc = .ok (.ldc_w idx, 3)) (hp : pc + 3 = pc')
    (K : oWP ω γ κ Q T pc' L (.int v :: S)) : oWP ω γ κ Q T pc L S := by
  have hw' := oSt_at X i hw
  obtain ⟨hx, hby, -, hown, -, -, -, hZ, -, -, -, locs, Y, -⟩ := X
  subst hp ho
  obtain ⟨s₂, o, hs, r⟩ := K
  exact ⟨s₂, o, Stand.ldcWI Y hx hown (mv hZ hw') rfl (hb hby hd) hs, r⟩
theorem ow_ldc2J (X : oSt Z ω γ κ T h cs ss) (pc' i : Nat) {own : String} {idx : Nat} {v : Int64} (hw : tables_1[i]? = some (.constantLong own idx v)) (ho : κ.2.2.1 = own) (hd : decode κ.1 pc = .ok (.ldc2_w idx, 3)) (hp : pc + 3 = pc')
    (K : oWP ω γ κ Q T pc' L (.long v :: S)) : oWP ω γ κ Q T pc L S := by
  have hw' := oSt_at X i hw
  obtain ⟨hx, hby, -, hown, -, -, -, hZ, -, -, -, locs, Y, -⟩ := X
  subst hp ho
  obtain ⟨s₂, o, hs, r⟩ := K
  exact ⟨s₂, o, Stand.ldc2J Y hx hown (mv hZ hw') rfl (hb hby hd) hs, r⟩
theorem ow_goto (X : oSt Z ω γ κ T h cs ss) (pc' : Nat) {o : Int} (hd : decode κ.1 pc = .ok (.goto o, 3)) (hp : (pc : Int) + o = (pc' : Int))
    (K : oWP ω γ κ Q T pc' L S) : oWP ω γ κ Q T pc L S := by
  obtain ⟨hx, hby, -, -, -, -, -, -, -, -, -, locs, Y, -⟩ := X
  obtain ⟨s₂, o, hs, r⟩ := K
  exact ⟨s₂, o, XS.goto Y.here hx rfl (pc0 := pc) rfl (hb hby hd) (by omega) (by omega) hs, r⟩
theorem ow_if (X : oSt Z ω γ κ T h cs ss) (pc' pq : Nat) {cd : ClassFile.Cond} {x : Int32} {o : Int} (hd : decode κ.1 pc = .ok (.ifCond cd o, 3)) (hp : pc + 3 = pc') (hq : (pc : Int) + o = (pq : Int))
    (Ky : ifCond.holds cd x = true → oWP ω γ κ Q T pq L S) (Kn : ifCond.holds cd x = false → oWP ω γ κ Q T pc' L S) : oWP ω γ κ Q T pc L (.int x :: S) := by
  obtain ⟨hx, hby, -, -, -, -, -, -, -, -, -, locs, Y, -⟩ := X
  subst hp
  cases hc : ifCond.holds cd x
  · obtain ⟨s₂, o, hs, r⟩ := Kn hc
    exact ⟨s₂, o, XS.ifNo Y.here hx rfl (hb hby hd) rfl hc hs, r⟩
  · obtain ⟨s₂, o, hs, r⟩ := Ky hc
    exact ⟨s₂, o, XS.ifYes Y.here hx rfl (pc0 := pc) rfl (hb hby hd) rfl hc (by omega) (by omega) hs, r⟩
theorem ow_icmp (X : oSt Z ω γ κ T h cs ss) (pc' pq : Nat) {cd : ClassFile.Cond} {x y : Int32} {o : Int} (hd : decode κ.1 pc = .ok (.if_icmp cd o, 3)) (hp : pc + 3 = pc') (hq : (pc : Int) + o = (pq : Int))
    (Ky : if_icmp.holds cd x y = true → oWP ω γ κ Q T pq L S) (Kn : if_icmp.holds cd x y = false → oWP ω γ κ Q T pc' L S) : oWP ω γ κ Q T pc L (.int y :: .int x :: S) := by
  obtain ⟨hx, hby, -, -, -, -, -, -, -, -, -, locs, Y, -⟩ := X
  subst hp
  cases hc : if_icmp.holds cd x y
  · obtain ⟨s₂, o, hs, r⟩ := Kn hc
    exact ⟨s₂, o, XS.icmpNo Y.here hx rfl (hb hby hd) rfl hc hs, r⟩
  · obtain ⟨s₂, o, hs, r⟩ := Ky hc
    exact ⟨s₂, o, XS.icmpYes Y.here hx rfl (pc0 := pc) rfl (hb hby hd) rfl hc (by omega) (by omega) hs, r⟩
theorem o0 : (0 : Int32).toInt = 0 := rfl
theorem ow_if_eq (X : oSt Z ω γ κ T h cs ss) (pc' pq : Nat) {x : Int32} {o : Int} (hd : decode κ.1 pc = .ok (.ifCond .eq o, 3)) (hp : pc + 3 = pc') (hq : (pc : Int) + o = (pq : Int))
    (Ky : x.toInt = 0 → oWP ω γ κ Q T pq L S) (Kn : x.toInt ≠ 0 → oWP ω γ κ Q T pc' L S) : oWP ω γ κ Q T pc L (.int x :: S) :=
  ow_if X pc' pq hd hp hq (fun q => Ky (by simp only [ifCond.holds, decide_eq_true_eq, decide_eq_false_iff_not, beq_iff_eq, bne_iff_ne, ne_eq, Int32.lt_iff_toInt_lt, Int32.le_iff_toInt_le, ← Int32.toInt_inj, o0, GT.gt, GE.ge, beq_eq_false_iff_ne, bne_eq_false_iff_eq, Decidable.not_not] at q; omega)) (fun q => Kn (by simp only [ifCond.holds, decide_eq_true_eq, decide_eq_false_iff_not, beq_iff_eq, bne_iff_ne, ne_eq, Int32.lt_iff_toInt_lt, Int32.le_iff_toInt_le, ← Int32.toInt_inj, o0, GT.gt, GE.ge, beq_eq_false_iff_ne, bne_eq_false_iff_eq, Decidable.not_not] at q; omega))
theorem ow_icmp_eq (X : oSt Z ω γ κ T h cs ss) (pc' pq : Nat) {x y : Int32} {o : Int} (hd : decode κ.1 pc = .ok (.if_icmp .eq o, 3)) (hp : pc + 3 = pc') (hq : (pc : Int) + o = (pq : Int))
    (Ky : x.toInt = y.toInt → oWP ω γ κ Q T pq L S) (Kn : x.toInt ≠ y.toInt → oWP ω γ κ Q T pc' L S) : oWP ω γ κ Q T pc L (.int y :: .int x :: S) :=
  ow_icmp X pc' pq hd hp hq (fun q => Ky (by simp only [if_icmp.holds, decide_eq_true_eq, decide_eq_false_iff_not, beq_iff_eq, bne_iff_ne, ne_eq, Int32.lt_iff_toInt_lt, Int32.le_iff_toInt_le, ← Int32.toInt_inj, o0, GT.gt, GE.ge, beq_eq_false_iff_ne, bne_eq_false_iff_eq, Decidable.not_not] at q; omega)) (fun q => Kn (by simp only [if_icmp.holds, decide_eq_true_eq, decide_eq_false_iff_not, beq_iff_eq, bne_iff_ne, ne_eq, Int32.lt_iff_toInt_lt, Int32.le_iff_toInt_le, ← Int32.toInt_inj, o0, GT.gt, GE.ge, beq_eq_false_iff_ne, bne_eq_false_iff_eq, Decidable.not_not] at q; omega))
theorem ow_if_ne (X : oSt Z ω γ κ T h cs ss) (pc' pq : Nat) {x : Int32} {o : Int} (hd : decode κ.1 pc = .ok (.ifCond .ne o, 3)) (hp : pc + 3 = pc') (hq : (pc : Int) + o = (pq : Int))
    (Ky : x.toInt ≠ 0 → oWP ω γ κ Q T pq L S) (Kn : x.toInt = 0 → oWP ω γ κ Q T pc' L S) : oWP ω γ κ Q T pc L (.int x :: S) :=
  ow_if X pc' pq hd hp hq (fun q => Ky (by simp only [ifCond.holds, decide_eq_true_eq, decide_eq_false_iff_not, beq_iff_eq, bne_iff_ne, ne_eq, Int32.lt_iff_toInt_lt, Int32.le_iff_toInt_le, ← Int32.toInt_inj, o0, GT.gt, GE.ge, beq_eq_false_iff_ne, bne_eq_false_iff_eq, Decidable.not_not] at q; omega)) (fun q => Kn (by simp only [ifCond.holds, decide_eq_true_eq, decide_eq_false_iff_not, beq_iff_eq, bne_iff_ne, ne_eq, Int32.lt_iff_toInt_lt, Int32.le_iff_toInt_le, ← Int32.toInt_inj, o0, GT.gt, GE.ge, beq_eq_false_iff_ne, bne_eq_false_iff_eq, Decidable.not_not] at q; omega))
theorem ow_icmp_ne (X : oSt Z ω γ κ T h cs ss) (pc' pq : Nat) {x y : Int32} {o : Int} (hd : decode κ.1 pc = .ok (.if_icmp .ne o, 3)) (hp : pc + 3 = pc') (hq : (pc : Int) + o = (pq : Int))
    (Ky : x.toInt ≠ y.toInt → oWP ω γ κ Q T pq L S) (Kn : x.toInt = y.toInt → oWP ω γ κ Q T pc' L S) : oWP ω γ κ Q T pc L (.int y :: .int x :: S) :=
  ow_icmp X pc' pq hd hp hq (fun q => Ky (by simp only [if_icmp.holds, decide_eq_true_eq, decide_eq_false_iff_not, beq_iff_eq, bne_iff_ne, ne_eq, Int32.lt_iff_toInt_lt, Int32.le_iff_toInt_le, ← Int32.toInt_inj, o0, GT.gt, GE.ge, beq_eq_false_iff_ne, bne_eq_false_iff_eq, Decidable.not_not] at q; omega)) (fun q => Kn (by simp only [if_icmp.holds, decide_eq_true_eq, decide_eq_false_iff_not, beq_iff_eq, bne_iff_ne, ne_eq, Int32.lt_iff_toInt_lt, Int32.le_iff_toInt_le, ← Int32.toInt_inj, o0, GT.gt, GE.ge, beq_eq_false_iff_ne, bne_eq_false_iff_eq, Decidable.not_not] at q; omega))
theorem ow_if_lt (X : oSt Z ω γ κ T h cs ss) (pc' pq : Nat) {x : Int32} {o : Int} (hd : decode κ.1 pc = .ok (.ifCond .lt o, 3)) (hp : pc + 3 = pc') (hq : (pc : Int) + o = (pq : Int))
    (Ky : x.toInt < 0 → oWP ω γ κ Q T pq L S) (Kn : 0 ≤ x.toInt → oWP ω γ κ Q T pc' L S) : oWP ω γ κ Q T pc L (.int x :: S) :=
  ow_if X pc' pq hd hp hq (fun q => Ky (by simp only [ifCond.holds, decide_eq_true_eq, decide_eq_false_iff_not, beq_iff_eq, bne_iff_ne, ne_eq, Int32.lt_iff_toInt_lt, Int32.le_iff_toInt_le, ← Int32.toInt_inj, o0, GT.gt, GE.ge, beq_eq_false_iff_ne, bne_eq_false_iff_eq, Decidable.not_not] at q; omega)) (fun q => Kn (by simp only [ifCond.holds, decide_eq_true_eq, decide_eq_false_iff_not, beq_iff_eq, bne_iff_ne, ne_eq, Int32.lt_iff_toInt_lt, Int32.le_iff_toInt_le, ← Int32.toInt_inj, o0, GT.gt, GE.ge, beq_eq_false_iff_ne, bne_eq_false_iff_eq, Decidable.not_not] at q; omega))
theorem ow_icmp_lt (X : oSt Z ω γ κ T h cs ss) (pc' pq : Nat) {x y : Int32} {o : Int} (hd : decode κ.1 pc = .ok (.if_icmp .lt o, 3)) (hp : pc + 3 = pc') (hq : (pc : Int) + o = (pq : Int))
    (Ky : x.toInt < y.toInt → oWP ω γ κ Q T pq L S) (Kn : y.toInt ≤ x.toInt → oWP ω γ κ Q T pc' L S) : oWP ω γ κ Q T pc L (.int y :: .int x :: S) :=
  ow_icmp X pc' pq hd hp hq (fun q => Ky (by simp only [if_icmp.holds, decide_eq_true_eq, decide_eq_false_iff_not, beq_iff_eq, bne_iff_ne, ne_eq, Int32.lt_iff_toInt_lt, Int32.le_iff_toInt_le, ← Int32.toInt_inj, o0, GT.gt, GE.ge, beq_eq_false_iff_ne, bne_eq_false_iff_eq, Decidable.not_not] at q; omega)) (fun q => Kn (by simp only [if_icmp.holds, decide_eq_true_eq, decide_eq_false_iff_not, beq_iff_eq, bne_iff_ne, ne_eq, Int32.lt_iff_toInt_lt, Int32.le_iff_toInt_le, ← Int32.toInt_inj, o0, GT.gt, GE.ge, beq_eq_false_iff_ne, bne_eq_false_iff_eq, Decidable.not_not] at q; omega))
theorem ow_if_ge (X : oSt Z ω γ κ T h cs ss) (pc' pq : Nat) {x : Int32} {o : Int} (hd : decode κ.1 pc = .ok (.ifCond .ge o, 3)) (hp : pc + 3 = pc') (hq : (pc : Int) + o = (pq : Int))
    (Ky : 0 ≤ x.toInt → oWP ω γ κ Q T pq L S) (Kn : x.toInt < 0 → oWP ω γ κ Q T pc' L S) : oWP ω γ κ Q T pc L (.int x :: S) :=
  ow_if X pc' pq hd hp hq (fun q => Ky (by simp only [ifCond.holds, decide_eq_true_eq, decide_eq_false_iff_not, beq_iff_eq, bne_iff_ne, ne_eq, Int32.lt_iff_toInt_lt, Int32.le_iff_toInt_le, ← Int32.toInt_inj, o0, GT.gt, GE.ge, beq_eq_false_iff_ne, bne_eq_false_iff_eq, Decidable.not_not] at q; omega)) (fun q => Kn (by simp only [ifCond.holds, decide_eq_true_eq, decide_eq_false_iff_not, beq_iff_eq, bne_iff_ne, ne_eq, Int32.lt_iff_toInt_lt, Int32.le_iff_toInt_le, ← Int32.toInt_inj, o0, GT.gt, GE.ge, beq_eq_false_iff_ne, bne_eq_false_iff_eq, Decidable.not_not] at q; omega))
theorem ow_icmp_ge (X : oSt Z ω γ κ T h cs ss) (pc' pq : Nat) {x y : Int32} {o : Int} (hd : decode κ.1 pc = .ok (.if_icmp .ge o, 3)) (hp : pc + 3 = pc') (hq : (pc : Int) + o = (pq : Int))
    (Ky : y.toInt ≤ x.toInt → oWP ω γ κ Q T pq L S) (Kn : x.toInt < y.toInt → oWP ω γ κ Q T pc' L S) : oWP ω γ κ Q T pc L (.int y :: .int x :: S) :=
  ow_icmp X pc' pq hd hp hq (fun q => Ky (by simp only [if_icmp.holds, decide_eq_true_eq, decide_eq_false_iff_not, beq_iff_eq, bne_iff_ne, ne_eq, Int32.lt_iff_toInt_lt, Int32.le_iff_toInt_le, ← Int32.toInt_inj, o0, GT.gt, GE.ge, beq_eq_false_iff_ne, bne_eq_false_iff_eq, Decidable.not_not] at q; omega)) (fun q => Kn (by simp only [if_icmp.holds, decide_eq_true_eq, decide_eq_false_iff_not, beq_iff_eq, bne_iff_ne, ne_eq, Int32.lt_iff_toInt_lt, Int32.le_iff_toInt_le, ← Int32.toInt_inj, o0, GT.gt, GE.ge, beq_eq_false_iff_ne, bne_eq_false_iff_eq, Decidable.not_not] at q; omega))
theorem ow_if_gt (X : oSt Z ω γ κ T h cs ss) (pc' pq : Nat) {x : Int32} {o : Int} (hd : decode κ.1 pc = .ok (.ifCond .gt o, 3)) (hp : pc + 3 = pc') (hq : (pc : Int) + o = (pq : Int))
    (Ky : 0 < x.toInt → oWP ω γ κ Q T pq L S) (Kn : x.toInt ≤ 0 → oWP ω γ κ Q T pc' L S) : oWP ω γ κ Q T pc L (.int x :: S) :=
  ow_if X pc' pq hd hp hq (fun q => Ky (by simp only [ifCond.holds, decide_eq_true_eq, decide_eq_false_iff_not, beq_iff_eq, bne_iff_ne, ne_eq, Int32.lt_iff_toInt_lt, Int32.le_iff_toInt_le, ← Int32.toInt_inj, o0, GT.gt, GE.ge, beq_eq_false_iff_ne, bne_eq_false_iff_eq, Decidable.not_not] at q; omega)) (fun q => Kn (by simp only [ifCond.holds, decide_eq_true_eq, decide_eq_false_iff_not, beq_iff_eq, bne_iff_ne, ne_eq, Int32.lt_iff_toInt_lt, Int32.le_iff_toInt_le, ← Int32.toInt_inj, o0, GT.gt, GE.ge, beq_eq_false_iff_ne, bne_eq_false_iff_eq, Decidable.not_not] at q; omega))
theorem ow_icmp_gt (X : oSt Z ω γ κ T h cs ss) (pc' pq : Nat) {x y : Int32} {o : Int} (hd : decode κ.1 pc = .ok (.if_icmp .gt o, 3)) (hp : pc + 3 = pc') (hq : (pc : Int) + o = (pq : Int))
    (Ky : y.toInt < x.toInt → oWP ω γ κ Q T pq L S) (Kn : x.toInt ≤ y.toInt → oWP ω γ κ Q T pc' L S) : oWP ω γ κ Q T pc L (.int y :: .int x :: S) :=
  ow_icmp X pc' pq hd hp hq (fun q => Ky (by simp only [if_icmp.holds, decide_eq_true_eq, decide_eq_false_iff_not, beq_iff_eq, bne_iff_ne, ne_eq, Int32.lt_iff_toInt_lt, Int32.le_iff_toInt_le, ← Int32.toInt_inj, o0, GT.gt, GE.ge, beq_eq_false_iff_ne, bne_eq_false_iff_eq, Decidable.not_not] at q; omega)) (fun q => Kn (by simp only [if_icmp.holds, decide_eq_true_eq, decide_eq_false_iff_not, beq_iff_eq, bne_iff_ne, ne_eq, Int32.lt_iff_toInt_lt, Int32.le_iff_toInt_le, ← Int32.toInt_inj, o0, GT.gt, GE.ge, beq_eq_false_iff_ne, bne_eq_false_iff_eq, Decidable.not_not] at q; omega))
theorem ow_if_le (X : oSt Z ω γ κ T h cs ss) (pc' pq : Nat) {x : Int32} {o : Int} (hd : decode κ.1 pc = .ok (.ifCond .le o, 3)) (hp : pc + 3 = pc') (hq : (pc : Int) + o = (pq : Int))
    (Ky : x.toInt ≤ 0 → oWP ω γ κ Q T pq L S) (Kn : 0 < x.toInt → oWP ω γ κ Q T pc' L S) : oWP ω γ κ Q T pc L (.int x :: S) :=
  ow_if X pc' pq hd hp hq (fun q => Ky (by simp only [ifCond.holds, decide_eq_true_eq, decide_eq_false_iff_not, beq_iff_eq, bne_iff_ne, ne_eq, Int32.lt_iff_toInt_lt, Int32.le_iff_toInt_le, ← Int32.toInt_inj, o0, GT.gt, GE.ge, beq_eq_false_iff_ne, bne_eq_false_iff_eq, Decidable.not_not] at q; omega)) (fun q => Kn (by simp only [ifCond.holds, decide_eq_true_eq, decide_eq_false_iff_not, beq_iff_eq, bne_iff_ne, ne_eq, Int32.lt_iff_toInt_lt, Int32.le_iff_toInt_le, ← Int32.toInt_inj, o0, GT.gt, GE.ge, beq_eq_false_iff_ne, bne_eq_false_iff_eq, Decidable.not_not] at q; omega))
theorem ow_icmp_le (X : oSt Z ω γ κ T h cs ss) (pc' pq : Nat) {x y : Int32} {o : Int} (hd : decode κ.1 pc = .ok (.if_icmp .le o, 3)) (hp : pc + 3 = pc') (hq : (pc : Int) + o = (pq : Int))
    (Ky : x.toInt ≤ y.toInt → oWP ω γ κ Q T pq L S) (Kn : y.toInt < x.toInt → oWP ω γ κ Q T pc' L S) : oWP ω γ κ Q T pc L (.int y :: .int x :: S) :=
  ow_icmp X pc' pq hd hp hq (fun q => Ky (by simp only [if_icmp.holds, decide_eq_true_eq, decide_eq_false_iff_not, beq_iff_eq, bne_iff_ne, ne_eq, Int32.lt_iff_toInt_lt, Int32.le_iff_toInt_le, ← Int32.toInt_inj, o0, GT.gt, GE.ge, beq_eq_false_iff_ne, bne_eq_false_iff_eq, Decidable.not_not] at q; omega)) (fun q => Kn (by simp only [if_icmp.holds, decide_eq_true_eq, decide_eq_false_iff_not, beq_iff_eq, bne_iff_ne, ne_eq, Int32.lt_iff_toInt_lt, Int32.le_iff_toInt_le, ← Int32.toInt_inj, o0, GT.gt, GE.ge, beq_eq_false_iff_ne, bne_eq_false_iff_eq, Decidable.not_not] at q; omega))
theorem ow_lcmp (X : oSt Z ω γ κ T h cs ss) (pc' : Nat) {x y : Int64} (hd : decode κ.1 pc = .ok (.lcmp, 1)) (hp : pc + 1 = pc')
    (K : oWP ω γ κ Q T pc' L (.int (lcmpW x y) :: S)) : oWP ω γ κ Q T pc L (.long y :: .long x :: S) := by
  obtain ⟨hx, hby, -, -, -, -, -, -, -, -, -, locs, Y, -⟩ := X
  subst hp
  obtain ⟨s₂, o, hs, r⟩ := K
  exact ⟨s₂, o, XS.lcmp Y.here hx rfl (hb hby hd) rfl hs, r⟩
theorem ow_lcmp_eq (X : oSt Z ω γ κ T h cs ss) (pc1 pc' pq : Nat) {x y : Int64} {o : Int} (hd : decode κ.1 pc = .ok (.lcmp, 1)) (hp1 : pc + 1 = pc1) (hd' : decode κ.1 pc1 = .ok (.ifCond .eq o, 3)) (hp : pc1 + 3 = pc') (hq : (pc1 : Int) + o = (pq : Int))
    (Ky : x.toInt = y.toInt → oWP ω γ κ Q T pq L S) (Kn : x.toInt ≠ y.toInt → oWP ω γ κ Q T pc' L S) : oWP ω γ κ Q T pc L (.long y :: .long x :: S) := by
  refine ow_lcmp X pc1 hd hp1 (ow_if_eq X pc' pq hd' hp hq (fun q => Ky ?_) (fun q => Kn ?_))
  · obtain ⟨c1, c2, c3⟩ := c_lcmp x y
    rcases Int.lt_trichotomy x.toInt y.toInt with a | a | a
    · have := c1 a; omega
    · have := c2 a; omega
    · have := c3 a; omega
  · obtain ⟨c1, c2, c3⟩ := c_lcmp x y
    rcases Int.lt_trichotomy x.toInt y.toInt with a | a | a
    · have := c1 a; omega
    · have := c2 a; omega
    · have := c3 a; omega
theorem ow_lcmp_ne (X : oSt Z ω γ κ T h cs ss) (pc1 pc' pq : Nat) {x y : Int64} {o : Int} (hd : decode κ.1 pc = .ok (.lcmp, 1)) (hp1 : pc + 1 = pc1) (hd' : decode κ.1 pc1 = .ok (.ifCond .ne o, 3)) (hp : pc1 + 3 = pc') (hq : (pc1 : Int) + o = (pq : Int))
    (Ky : x.toInt ≠ y.toInt → oWP ω γ κ Q T pq L S) (Kn : x.toInt = y.toInt → oWP ω γ κ Q T pc' L S) : oWP ω γ κ Q T pc L (.long y :: .long x :: S) := by
  refine ow_lcmp X pc1 hd hp1 (ow_if_ne X pc' pq hd' hp hq (fun q => Ky ?_) (fun q => Kn ?_))
  · obtain ⟨c1, c2, c3⟩ := c_lcmp x y
    rcases Int.lt_trichotomy x.toInt y.toInt with a | a | a
    · have := c1 a; omega
    · have := c2 a; omega
    · have := c3 a; omega
  · obtain ⟨c1, c2, c3⟩ := c_lcmp x y
    rcases Int.lt_trichotomy x.toInt y.toInt with a | a | a
    · have := c1 a; omega
    · have := c2 a; omega
    · have := c3 a; omega
theorem ow_lcmp_lt (X : oSt Z ω γ κ T h cs ss) (pc1 pc' pq : Nat) {x y : Int64} {o : Int} (hd : decode κ.1 pc = .ok (.lcmp, 1)) (hp1 : pc + 1 = pc1) (hd' : decode κ.1 pc1 = .ok (.ifCond .lt o, 3)) (hp : pc1 + 3 = pc') (hq : (pc1 : Int) + o = (pq : Int))
    (Ky : x.toInt < y.toInt → oWP ω γ κ Q T pq L S) (Kn : y.toInt ≤ x.toInt → oWP ω γ κ Q T pc' L S) : oWP ω γ κ Q T pc L (.long y :: .long x :: S) := by
  refine ow_lcmp X pc1 hd hp1 (ow_if_lt X pc' pq hd' hp hq (fun q => Ky ?_) (fun q => Kn ?_))
  · obtain ⟨c1, c2, c3⟩ := c_lcmp x y
    rcases Int.lt_trichotomy x.toInt y.toInt with a | a | a
    · have := c1 a; omega
    · have := c2 a; omega
    · have := c3 a; omega
  · obtain ⟨c1, c2, c3⟩ := c_lcmp x y
    rcases Int.lt_trichotomy x.toInt y.toInt with a | a | a
    · have := c1 a; omega
    · have := c2 a; omega
    · have := c3 a; omega
theorem ow_lcmp_ge (X : oSt Z ω γ κ T h cs ss) (pc1 pc' pq : Nat) {x y : Int64} {o : Int} (hd : decode κ.1 pc = .ok (.lcmp, 1)) (hp1 : pc + 1 = pc1) (hd' : decode κ.1 pc1 = .ok (.ifCond .ge o, 3)) (hp : pc1 + 3 = pc') (hq : (pc1 : Int) + o = (pq : Int))
    (Ky : y.toInt ≤ x.toInt → oWP ω γ κ Q T pq L S) (Kn : x.toInt < y.toInt → oWP ω γ κ Q T pc' L S) : oWP ω γ κ Q T pc L (.long y :: .long x :: S) := by
  refine ow_lcmp X pc1 hd hp1 (ow_if_ge X pc' pq hd' hp hq (fun q => Ky ?_) (fun q => Kn ?_))
  · obtain ⟨c1, c2, c3⟩ := c_lcmp x y
    rcases Int.lt_trichotomy x.toInt y.toInt with a | a | a
    · have := c1 a; omega
    · have := c2 a; omega
    · have := c3 a; omega
  · obtain ⟨c1, c2, c3⟩ := c_lcmp x y
    rcases Int.lt_trichotomy x.toInt y.toInt with a | a | a
    · have := c1 a; omega
    · have := c2 a; omega
    · have := c3 a; omega
theorem ow_lcmp_gt (X : oSt Z ω γ κ T h cs ss) (pc1 pc' pq : Nat) {x y : Int64} {o : Int} (hd : decode κ.1 pc = .ok (.lcmp, 1)) (hp1 : pc + 1 = pc1) (hd' : decode κ.1 pc1 = .ok (.ifCond .gt o, 3)) (hp : pc1 + 3 = pc') (hq : (pc1 : Int) + o = (pq : Int))
    (Ky : y.toInt < x.toInt → oWP ω γ κ Q T pq L S) (Kn : x.toInt ≤ y.toInt → oWP ω γ κ Q T pc' L S) : oWP ω γ κ Q T pc L (.long y :: .long x :: S) := by
  refine ow_lcmp X pc1 hd hp1 (ow_if_gt X pc' pq hd' hp hq (fun q => Ky ?_) (fun q => Kn ?_))
  · obtain ⟨c1, c2, c3⟩ := c_lcmp x y
    rcases Int.lt_trichotomy x.toInt y.toInt with a | a | a
    · have := c1 a; omega
    · have := c2 a; omega
    · have := c3 a; omega
  · obtain ⟨c1, c2, c3⟩ := c_lcmp x y
    rcases Int.lt_trichotomy x.toInt y.toInt with a | a | a
    · have := c1 a; omega
    · have := c2 a; omega
    · have := c3 a; omega
theorem ow_lcmp_le (X : oSt Z ω γ κ T h cs ss) (pc1 pc' pq : Nat) {x y : Int64} {o : Int} (hd : decode κ.1 pc = .ok (.lcmp, 1)) (hp1 : pc + 1 = pc1) (hd' : decode κ.1 pc1 = .ok (.ifCond .le o, 3)) (hp : pc1 + 3 = pc') (hq : (pc1 : Int) + o = (pq : Int))
    (Ky : x.toInt ≤ y.toInt → oWP ω γ κ Q T pq L S) (Kn : y.toInt < x.toInt → oWP ω γ κ Q T pc' L S) : oWP ω γ κ Q T pc L (.long y :: .long x :: S) := by
  refine ow_lcmp X pc1 hd hp1 (ow_if_le X pc' pq hd' hp hq (fun q => Ky ?_) (fun q => Kn ?_))
  · obtain ⟨c1, c2, c3⟩ := c_lcmp x y
    rcases Int.lt_trichotomy x.toInt y.toInt with a | a | a
    · have := c1 a; omega
    · have := c2 a; omega
    · have := c3 a; omega
  · obtain ⟨c1, c2, c3⟩ := c_lcmp x y
    rcases Int.lt_trichotomy x.toInt y.toInt with a | a | a
    · have := c1 a; omega
    · have := c2 a; omega
    · have := c3 a; omega
theorem ow_ifnull (X : oSt Z ω γ κ T h cs ss) (pc' pq : Nat) {v : Value} {o : Int} (hv : v.isRef = true) (hd : decode κ.1 pc = .ok (.ifnull o, 3)) (hp : pc + 3 = pc') (hq : (pc : Int) + o = (pq : Int))
    (Ky : v = .null → oWP ω γ κ Q T pq L S) (Kn : v ≠ .null → oWP ω γ κ Q T pc' L S) : oWP ω γ κ Q T pc L (v :: S) := by
  obtain ⟨hx, hby, -, -, -, -, -, -, -, -, -, locs, Y, -⟩ := X
  subst hp
  rcases ref_cases hv with rfl | ⟨a, rfl⟩
  · obtain ⟨s₂, o, hs, r⟩ := Ky rfl
    exact ⟨s₂, o, XS.ifnullYes Y.here hx rfl (pc0 := pc) rfl (hb hby hd) rfl (by omega) (by omega) hs, r⟩
  · obtain ⟨s₂, o, hs, r⟩ := Kn (by simp)
    exact ⟨s₂, o, XS.ifnullNo Y.here hx rfl (hb hby hd) rfl hs, r⟩
theorem ow_ifnonnull (X : oSt Z ω γ κ T h cs ss) (pc' pq : Nat) {v : Value} {o : Int} (hv : v.isRef = true) (hd : decode κ.1 pc = .ok (.ifnonnull o, 3)) (hp : pc + 3 = pc') (hq : (pc : Int) + o = (pq : Int))
    (Ky : v ≠ .null → oWP ω γ κ Q T pq L S) (Kn : v = .null → oWP ω γ κ Q T pc' L S) : oWP ω γ κ Q T pc L (v :: S) := by
  obtain ⟨hx, hby, -, -, -, -, -, -, -, -, -, locs, Y, -⟩ := X
  subst hp
  rcases ref_cases hv with rfl | ⟨a, rfl⟩
  · obtain ⟨s₂, o, hs, r⟩ := Kn rfl
    exact ⟨s₂, o, XS.ifnonnullNo Y.here hx rfl (hb hby hd) rfl hs, r⟩
  · obtain ⟨s₂, o, hs, r⟩ := Ky (by simp)
    exact ⟨s₂, o, XS.ifnonnullYes Y.here hx rfl (pc0 := pc) rfl (hb hby hd) rfl (by omega) (by omega) hs, r⟩
theorem ow_acmp_eq (X : oSt Z ω γ κ T h cs ss) (pc' pq : Nat) {v w : Value} {o : Int} (hv : v.isRef = true) (hw : w.isRef = true) (hd : decode κ.1 pc = .ok (.if_acmp .eq o, 3)) (hp : pc + 3 = pc') (hq : (pc : Int) + o = (pq : Int))
    (Ky : v = w → oWP ω γ κ Q T pq L S) (Kn : v ≠ w → oWP ω γ κ Q T pc' L S) : oWP ω γ κ Q T pc L (w :: v :: S) := by
  obtain ⟨hx, hby, -, -, -, -, -, -, -, -, -, locs, Y, -⟩ := X
  subst hp
  by_cases e : v = w
  · obtain ⟨s₂, o, hs, r⟩ := Ky e
    exact ⟨s₂, o, RoadKit.acmp Y hx rfl hv hw (pc0 := pc) rfl (hb hby hd) rfl (same := true) (by simp [e]) (by omega) (by simp [acV]; omega) hs, r⟩
  · obtain ⟨s₂, o, hs, r⟩ := Kn e
    exact ⟨s₂, o, RoadKit.acmp Y hx rfl hv hw (pc0 := pc) rfl (hb hby hd) rfl (same := false) (by simp [e]) (by omega) (by simp [acV]) hs, r⟩
theorem ow_acmp_ne (X : oSt Z ω γ κ T h cs ss) (pc' pq : Nat) {v w : Value} {o : Int} (hv : v.isRef = true) (hw : w.isRef = true) (hd : decode κ.1 pc = .ok (.if_acmp .ne o, 3)) (hp : pc + 3 = pc') (hq : (pc : Int) + o = (pq : Int))
    (Ky : v ≠ w → oWP ω γ κ Q T pq L S) (Kn : v = w → oWP ω γ κ Q T pc' L S) : oWP ω γ κ Q T pc L (w :: v :: S) := by
  obtain ⟨hx, hby, -, -, -, -, -, -, -, -, -, locs, Y, -⟩ := X
  subst hp
  by_cases e : v = w
  · obtain ⟨s₂, o, hs, r⟩ := Kn e
    exact ⟨s₂, o, RoadKit.acmp Y hx rfl hv hw (pc0 := pc) rfl (hb hby hd) rfl (same := true) (by simp [e]) (by omega) (by simp [acV]) hs, r⟩
  · obtain ⟨s₂, o, hs, r⟩ := Ky e
    exact ⟨s₂, o, RoadKit.acmp Y hx rfl hv hw (pc0 := pc) rfl (hb hby hd) rfl (same := false) (by simp [e]) (by omega) (by simp [acV]; omega) hs, r⟩
theorem ow_ret (X : oSt Z ω γ κ T h cs ss) {w : Value} {t : FieldType} {i : Instr} (hret : κ.2.2.2.2.1 = some t) (hn : narrow t w = w)
    (hi : (i = .ireturn ∧ (t = .int ∨ t = .boolean ∨ t = .byte ∨ t = .char ∨ t = .short) ∧ ∃ z, w = .int z) ∨ (i = .lreturn ∧ t = .long ∧ ∃ z, w = .long z) ∨ (i = .dreturn ∧ t = .double ∧ ∃ z, w = .double z) ∨ (i = .freturn ∧ t = .float ∧ ∃ z, w = .float z) ∨ (i = .areturn ∧ t.isReference = true ∧ w.isRef = true))
    (hd : decode κ.1 pc = .ok (i, 1)) (hc : cs ≤ κ.2.2.2.2.2.cells) (hsl : ss ≤ κ.2.2.2.2.2.slots) (hQ : Q (some w) h) : oWP ω γ κ Q T pc L (w :: S) := by
  obtain ⟨hx, hby, -, -, -, hr, hlk, -, -, -, hT, locs, Y, N⟩ := X
  obtain ⟨fs, hl, hrun, hended, hW, hsame⟩ := Y.leave (v := some w) (fun q => by rw [hr, hret] at q; cases q) hlk
  refine ⟨_, _, retOut Y hx (hr.trans hret) hn hi (hb hby hd) hl, hrun, hended, _, locs, rfl, ⟨N, ?_⟩, ⟨_, rfl⟩, hW, hsame.mono hc hsl⟩
  show Q (some w) T.heap
  rw [hT]; exact hQ
theorem ow_retI (X : oSt Z ω γ κ T h cs ss) {z : Int32} (hret : κ.2.2.2.2.1 = some .int) (hd : decode κ.1 pc = .ok (.ireturn, 1)) (hc : cs ≤ κ.2.2.2.2.2.cells) (hsl : ss ≤ κ.2.2.2.2.2.slots) (hQ : Q (some (.int z)) h) : oWP ω γ κ Q T pc L (.int z :: S) :=
  ow_ret X hret rfl (Or.inl ⟨rfl, Or.inl rfl, z, rfl⟩) hd hc hsl hQ
theorem ow_retZ (X : oSt Z ω γ κ T h cs ss) {z : Int32} (hret : κ.2.2.2.2.1 = some .boolean) (hd : decode κ.1 pc = .ok (.ireturn, 1)) (hc : cs ≤ κ.2.2.2.2.2.cells) (hsl : ss ≤ κ.2.2.2.2.2.slots) (hz : z = 0 ∨ z = 1) (hQ : Q (some (.int z)) h) : oWP ω γ κ Q T pc L (.int z :: S) :=
  ow_ret X hret (by rcases hz with rfl | rfl <;> rfl) (Or.inl ⟨rfl, Or.inr (Or.inl rfl), z, rfl⟩) hd hc hsl hQ
theorem ow_retC (X : oSt Z ω γ κ T h cs ss) {z : Int32} (hret : κ.2.2.2.2.1 = some .char) (hd : decode κ.1 pc = .ok (.ireturn, 1)) (hc : cs ≤ κ.2.2.2.2.2.cells) (hsl : ss ≤ κ.2.2.2.2.2.slots) (hz : z.toUInt32.toUInt16.toUInt32.toInt32 = z) (hQ : Q (some (.int z)) h) : oWP ω γ κ Q T pc L (.int z :: S) :=
  ow_ret X hret (by show Value.int z.toUInt32.toUInt16.toUInt32.toInt32 = _; rw [hz]) (Or.inl ⟨rfl, Or.inr (Or.inr (Or.inr (Or.inl rfl))), z, rfl⟩) hd hc hsl hQ
theorem ow_retJ (X : oSt Z ω γ κ T h cs ss) {z : Int64} (hret : κ.2.2.2.2.1 = some .long) (hd : decode κ.1 pc = .ok (.lreturn, 1)) (hc : cs ≤ κ.2.2.2.2.2.cells) (hsl : ss ≤ κ.2.2.2.2.2.slots) (hQ : Q (some (.long z)) h) : oWP ω γ κ Q T pc L (.long z :: S) :=
  ow_ret X hret rfl (Or.inr (Or.inl ⟨rfl, rfl, z, rfl⟩)) hd hc hsl hQ
theorem ow_retA (X : oSt Z ω γ κ T h cs ss) {v : Value} {t : FieldType} (hret : κ.2.2.2.2.1 = some t) (ht : t.isReference = true) (hv : v.isRef = true) (hd : decode κ.1 pc = .ok (.areturn, 1)) (hc : cs ≤ κ.2.2.2.2.2.cells) (hsl : ss ≤ κ.2.2.2.2.2.slots) (hQ : Q (some v) h) : oWP ω γ κ Q T pc L (v :: S) :=
  ow_ret X hret (by cases t <;> first | rfl | cases ht) (Or.inr (Or.inr (Or.inr (Or.inr ⟨rfl, ht, hv⟩)))) hd hc hsl hQ
theorem ow_retV (X : oSt Z ω γ κ T h cs ss) (hret : κ.2.2.2.2.1 = none) (hd : decode κ.1 pc = .ok (.return_, 1)) (hc : cs ≤ κ.2.2.2.2.2.cells) (hsl : ss ≤ κ.2.2.2.2.2.slots) (hQ : Q none h) : oWP ω γ κ Q T pc L [] := by
  obtain ⟨hx, hby, -, -, -, hr, hlk, -, -, -, hT, locs, Y, N⟩ := X
  obtain ⟨fs, hl, hrun, hended, hW, hsame⟩ := Y.leave (v := none) (fun _ => rfl) hlk
  refine ⟨_, _, Y.returnOut hx (hr.trans hret) (hb hby hd) hl, hrun, hended, _, locs, rfl, ⟨N, ?_⟩, ⟨_, rfl⟩, hW, hsame.mono hc hsl⟩
  show Q none T.heap
  rw [hT]; exact hQ
theorem ow_getF (X : oSt Z ω γ κ T h cs ss) (pc' i : Nat) {own O n d : String} {idx : Nat} {a : Addr} {v : Value} (hw : tables_1[i]? = some (.fieldLink own idx O n d)) (ho : κ.2.2.1 = own) (F : Fld Z h a O n d v) (hd : decode κ.1 pc = .ok (.getfield idx, 3)) (hp : pc + 3 = pc')
    (K : ∀ T', oSt Z ω γ κ T' h cs ss → oWP ω γ κ Q T' pc' L (v :: S)) : oWP ω γ κ Q T pc L (.ref a :: S) := by
  have hw' := oSt_at X i hw
  obtain ⟨hx, hby, hml, hown, hnm, hr, hlk, hZ, hT1, hn0, hT, locs, Y, N⟩ := X
  subst hp ho
  obtain ⟨T', Y', e', st⟩ := getF Y hx hZ hown (host := "") (Or.inl hw') Via.refl hT F (g := mkF γ.2.2.2.1 pc L (.ref a :: S)) rfl rfl (hb hby hd)
  obtain ⟨s₂, o, hs, r⟩ := K T' ⟨hx, hby, hml, hown, hnm, hr, hlk, hZ, hT1, hn0, e', locs, Y', N⟩
  exact ⟨s₂, o, st _ hs, r⟩
theorem ow_getS (X : oSt Z ω γ κ T h cs ss) (pc' i : Nat) {own O n d : String} {idx : Nat} {v : Value} (hw : tables_1[i]? = some (.fieldLink own idx O n d)) (ho : κ.2.2.1 = own) (F : Sta Z h O n d v) (hd : decode κ.1 pc = .ok (.getstatic idx, 3)) (hp : pc + 3 = pc')
    (K : ∀ T', oSt Z ω γ κ T' h cs ss → oWP ω γ κ Q T' pc' L (v :: S)) : oWP ω γ κ Q T pc L S := by
  have hw' := oSt_at X i hw
  obtain ⟨hx, hby, hml, hown, hnm, hr, hlk, hZ, hT1, hn0, hT, locs, Y, N⟩ := X
  subst hp ho
  obtain ⟨T', Y', e', st⟩ := getS Y hx hZ hown hw' Via.refl hT F (g := mkF γ.2.2.2.1 pc L S) rfl (hb hby hd) (host := "")
  obtain ⟨s₂, o, hs, r⟩ := K T' ⟨hx, hby, hml, hown, hnm, hr, hlk, hZ, hT1, hn0, e', locs, Y', N⟩
  exact ⟨s₂, o, st _ hs, r⟩
theorem ow_putF (X : oSt Z ω γ κ T h cs ss) (pc' i k : Nat) {own O n d C : String} {idx kk : Nat} {a : Addr} {v old : Value} {ty : FieldType} (hw : tables_1[i]? = some (.fieldLink own idx O n d)) (ho : κ.2.2.1 = own) (F : Fld Z h a O n d old) (E : Exa Z h a C)
    (hl : (Jvm.Cond.lays C O n d).before ω.2.2 Z = true ∨ ((Jvm.Cond.laysFinal C O n d).before ω.2.2 Z = true ∧ κ.2.2.1 = O ∧ κ.2.2.2.1 = "<init>")) (hi : tables_1[k]? = some (.instantiable C kk)) (hty : parseFieldDescriptor d = some ty) (hn : narrow ty v = v) (hf : fits ty v = true) (ha : ω.2.1 ≤ a)
    (hd : decode κ.1 pc = .ok (.putfield idx, 3)) (hp : pc + 3 = pc')
    (K : ∀ T' h', oSt Z ω γ κ T' h' cs ss → Wr h h' a (RoadKit.slotOf Z O n d) v → oWP ω γ κ Q T' pc' L S) : oWP ω γ κ Q T pc L (v :: .ref a :: S) := by
  have hw' := oSt_at X i hw
  have hi' := oSt_at X k hi
  obtain ⟨hx, hby, hml, hown, hnm, hr, hlk, hZ, hT1, hn0, hT, locs, Y, N⟩ := X
  subst hp ho
  obtain ⟨T', h', Y', e', W, st⟩ := putF Y hx hZ hown (host := "") (Or.inl hw') Via.refl hT F E (hl.imp id fun q => ⟨q.1, q.2.1, hnm.trans q.2.2⟩) hi' hty hn hf (g := mkF γ.2.2.2.1 pc L (v :: .ref a :: S)) rfl rfl (hb hby hd)
  obtain ⟨s₂, o, hs, r⟩ := K T' h' ⟨hx, hby, hml, hown, hnm, hr, hlk, hZ, hT1, hn0, e', _, Y', Fr.snoc Y' N ha⟩ W
  exact ⟨s₂, o, st _ hs, r⟩
theorem ow_new (X : oSt Z ω γ κ T h cs ss) (pc' i1 i2 i3 : Nat) {own C : String} {idx n : Nat} (w1 : tables_1[i1]? = some (.classLink own idx C)) (ho : κ.2.2.1 = own) (w2 : tables_1[i2]? = some (.instantiable C n)) (w3 : tables_1[i3]? = some (.initialized C))
    (hd : decode κ.1 pc = .ok (.new idx, 3)) (hp : pc + 3 = pc') (hc : cs + 1 ≤ κ.2.2.2.2.2.cells) (hsl : ss + n ≤ κ.2.2.2.2.2.slots)
    (K : ∀ T' h' a, a = h.size → oSt Z ω γ κ T' h' (cs + 1) (ss + n) → Ext h h' → Exa Z h' a C → (∀ {O nm d : String} {ty : FieldType}, Laid Z ω.2.2 C O nm d → parseFieldDescriptor d = some ty → Fld Z h' a O nm d (defaultValue ty)) → ω.2.1 ≤ a → oWP ω γ κ Q T' pc' L (.ref a :: S)) : oWP ω γ κ Q T pc L S := by
  have w1' := oSt_at X i1 w1
  have w2' := oSt_at X i2 w2
  have w3' := oSt_at X i3 w3
  have hN := oSt_n0 X
  obtain ⟨hx, hby, hml, hown, hnm, hr, hlk, hZ, hT1, hn0, hT, locs, Y, N⟩ := X
  subst hp ho
  obtain ⟨T', h', Y', e', E, A, D, -, st⟩ := newO Y hx hZ hown w1' w2' w3' hT (g := mkF γ.2.2.2.1 pc L S) rfl (hb hby hd) hc hsl
  obtain ⟨s₂, o, hs, r⟩ := K T' h' h.size rfl ⟨hx, hby, hml, hown, hnm, hr, hlk, hZ, hT1, hn0, e', _, Y', N⟩ E A D hN
  exact ⟨s₂, o, st _ hs, r⟩
theorem ow_initO (X : oSt Z ω γ κ T h cs ss) (pc' i1 i2 i3 : Nat) {own : String} {idx : Nat} {a : Addr} (w1 : tables_1[i1]? = some (.methodLink own idx Lib.objectInit)) (ho : κ.2.2.1 = own) (w2 : tables_1[i2]? = some (.instanceMethod Lib.objectInit)) (w3 : tables_1[i3]? = some (.code Lib.objectInit ⟨#[0xb1]⟩ 1 none))
    (hd : decode κ.1 pc = .ok (.invokespecial idx, 3)) (hp : pc + 3 = pc') (hL : L.size = κ.2.1) (hf : 1 ≤ κ.2.2.2.2.2.frames) {W : Nat} (hW : (S.map fun v => v.category).sum ≤ W) (hl : W + 12 ≤ κ.2.2.2.2.2.locals)
    (K : ∀ T', oSt Z ω γ κ T' h cs ss → oWP ω γ κ Q T' pc' L S) : oWP ω γ κ Q T pc L (.ref a :: S) := by
  have w1' := oSt_at X i1 w1
  have w2' := oSt_at X i2 w2
  have w3' := oSt_at X i3 w3
  obtain ⟨hx, hby, hml, hown, hnm, hr, hlk, hZ, hT1, hn0, hT, locs, Y, N⟩ := X
  subst hp ho
  obtain ⟨T', Y', e', st⟩ := initO Y hx hZ hown w1' w2' w3' hT (g := mkF γ.2.2.2.1 pc L (.ref a :: S)) rfl (by rw [hml]; exact hL) rfl (hb hby hd) hf (W := W) (by show 2 * 0 + _ ≤ _; omega) hl
  obtain ⟨s₂, o, hs, r⟩ := K T' ⟨hx, hby, hml, hown, hnm, hr, hlk, hZ, hT1, hn0, e', _, Y', N⟩
  exact ⟨s₂, o, st _ hs, r⟩
theorem ow_callS (X : oSt Z ω γ κ T h cs ss) (pc' i1 i2 i3 i4 : Nat) {own : String} {idx : Nat} {y : MethodName} {κ' : OM} {Q' : Option Value → Heap → Prop} {as : List Value} {ps : List FieldType} {rt : Option FieldType} {W : Nat} {S0 : List Value}
    (w1 : tables_1[i1]? = some (.methodLink own idx y)) (ho : κ.2.2.1 = own) (w2 : tables_1[i2]? = some (.static y)) (w3 : tables_1[i3]? = some (.initialized y.cls)) (w4 : tables_1[i4]? = some (.code y κ'.1 κ'.2.1 κ'.2.2.2.2.1)) (hy : y.cls ≠ "java/lang/invoke/MethodHandle" ∧ y.cls ≠ "java/lang/invoke/VarHandle")
    (C : oC Z ω y κ' [] as.toArray h Q') (hf : κ'.2.2.2.2.2.frames + 1 ≤ κ.2.2.2.2.2.frames) (hl : W + (κ'.2.1 + 11) + κ'.2.2.2.2.2.locals ≤ κ.2.2.2.2.2.locals) (hW : (S.map fun v => v.category).sum ≤ W) (hc : cs + κ'.2.2.2.2.2.cells ≤ κ.2.2.2.2.2.cells) (hs : ss + κ'.2.2.2.2.2.slots ≤ κ.2.2.2.2.2.slots)
    (hpd : parseMethodDescriptor y.desc = some ⟨ps, rt⟩) (hlen : as.length = ps.length) (hS : S0 = as.reverse ++ S) (hL : L.size = κ.2.1) (hd : decode κ.1 pc = .ok (.invokestatic idx, 3)) (hp : pc + 3 = pc')
    (K : ∀ v T' h', oSt Z ω γ κ T' h' (cs + κ'.2.2.2.2.2.cells) (ss + κ'.2.2.2.2.2.slots) → Q' v h' → oWP ω γ κ Q T' pc' L (v.toList ++ S)) : oWP ω γ κ Q T pc L S0 := by
  have w1' := oSt_at X i1 w1
  have w2' := oSt_at X i2 w2
  have w3' := oSt_at X i3 w3
  have w4' := oSt_at X i4 w4
  obtain ⟨hx, hby, hml, hown, hnm, hr, hlk, hZ, hT1, hn0, hT, locs, Y, N⟩ := X
  subst hp ho hS
  obtain ⟨v, vm₁, ⟨T', L', k', n'⟩, -, Y', ⟨Lc, ⟨hF, hQ⟩, q1, q2, q3⟩, st⟩ := Jvm.LawKit.callS Y hx (y := y) hown (mvT hZ w1') (mvT hZ w2') (mvT hZ w3') (mvT hZ w4') hy (backOf (W := W) (Q := fun v hh Lc => Fr ω.2.1 Lc ∧ Q' v hh) (bytes := κ'.1) (maxL := κ'.2.1) (ret := κ'.2.2.2.2.1) (rm := κ'.2.2.2.2.2) C hZ w4' w3' hf hl) (g := mkF γ.2.2.2.1 pc L (as.reverse ++ S)) rfl (by rw [hml]; exact hL) (argsL := as) (rest := S) (lenOf hpd hlen) rfl (by show 2 * 0 + _ ≤ _; omega) (hb hby hd) (fun _ _ => ⟨rfl, hT, hc, hs⟩)
  dsimp only [Pt.U, Pt.locs, Pt.cells, Pt.slots] at Y' q1 q2 q3 st hQ
  subst q1 q2 q3
  obtain ⟨s₂, o, hs, r⟩ := K v T' T'.heap ⟨hx, hby, hml, hown, hnm, hr, hlk, hZ, hT1, hn0, rfl, _, Y', N.app hF⟩ hQ
  exact ⟨s₂, o, st _ hs, r⟩
theorem ow_callC (X : oSt Z ω γ κ T h cs ss) (pc' i1 i2 i3 i4 : Nat) {own : String} {idx : Nat} {y : MethodName} {κ' : OM} {Q' : Option Value → Heap → Prop} {a : Addr} {as : List Value} {ps : List FieldType} {rt : Option FieldType} {W : Nat} {S0 : List Value}
    (hy1 : y.name = "<init>") (w1 : tables_1[i1]? = some (.methodLink own idx y)) (ho : κ.2.2.1 = own) (w2 : tables_1[i2]? = some (.instanceMethod y)) (w3 : tables_1[i3]? = some (.initialized y.cls)) (w4 : tables_1[i4]? = some (.code y κ'.1 κ'.2.1 κ'.2.2.2.2.1)) (hr0 : κ'.2.2.2.2.1 = none) (hy : y.cls ≠ "java/lang/invoke/MethodHandle" ∧ y.cls ≠ "java/lang/invoke/VarHandle")
    (C : oC Z ω y κ' [] (.ref a :: as).toArray h Q') (hf : κ'.2.2.2.2.2.frames + 1 ≤ κ.2.2.2.2.2.frames) (hl : W + (κ'.2.1 + 11) + κ'.2.2.2.2.2.locals ≤ κ.2.2.2.2.2.locals) (hW : (S.map fun v => v.category).sum ≤ W) (hc : cs + κ'.2.2.2.2.2.cells ≤ κ.2.2.2.2.2.cells) (hs : ss + κ'.2.2.2.2.2.slots ≤ κ.2.2.2.2.2.slots)
    (hpd : parseMethodDescriptor y.desc = some ⟨ps, rt⟩) (hlen : as.length = ps.length) (hS : S0 = as.reverse ++ .ref a :: S) (hL : L.size = κ.2.1) (hd : decode κ.1 pc = .ok (.invokespecial idx, 3)) (hp : pc + 3 = pc')
    (K : ∀ v T' h', oSt Z ω γ κ T' h' (cs + κ'.2.2.2.2.2.cells) (ss + κ'.2.2.2.2.2.slots) → Q' v h' → oWP ω γ κ Q T' pc' L (v.toList ++ S)) : oWP ω γ κ Q T pc L S0 := by
  have w1' := oSt_at X i1 w1
  have w2' := oSt_at X i2 w2
  have w3' := oSt_at X i3 w3
  have w4' := oSt_at X i4 w4
  obtain ⟨hx, hby, hml, hown, hnm, hr, hlk, hZ, hT1, hn0, hT, locs, Y, N⟩ := X
  subst hp ho hS
  obtain ⟨v, vm₁, ⟨T', L', k', n'⟩, -, Y', ⟨Lc, ⟨hF, hQ⟩, q1, q2, q3⟩, st⟩ := Y.specialBack hx (y := y) hy1 hown (mvT hZ w1') (mvT hZ w2') (mvT hZ (hr0 ▸ w4')) hy (backOf (W := W) (Q := fun v hh Lc => Fr ω.2.1 Lc ∧ Q' v hh) (bytes := κ'.1) (maxL := κ'.2.1) (ret := κ'.2.2.2.2.1) (rm := κ'.2.2.2.2.2) C hZ w4' w3' hf hl) (g := mkF γ.2.2.2.1 pc L (as.reverse ++ .ref a :: S)) rfl (by rw [hml]; exact hL) (Steps.refl _) (a := a) (argsL := as) (rest := S) (lenOf hpd hlen) rfl (by show 2 * 0 + _ ≤ _; omega) (hb hby hd) (fun _ _ => ⟨rfl, hT, hc, hs⟩)
  dsimp only [Pt.U, Pt.locs, Pt.cells, Pt.slots] at Y' q1 q2 q3 st hQ
  subst q1 q2 q3
  obtain ⟨s₂, o, hs, r⟩ := K v T' T'.heap ⟨hx, hby, hml, hown, hnm, hr, hlk, hZ, hT1, hn0, rfl, _, Y', N.app hF⟩ hQ
  exact ⟨s₂, o, st.trans hs, r⟩
theorem ow_callV (X : oSt Z ω γ κ T h cs ss) (pc' i1 i2 i3 i4 i5 i6 : Nat) {own C0 : String} {idx : Nat} {y : MethodName} {κ' : OM} {Q' : Option Value → Heap → Prop} {a : Addr} {as : List Value} {ps : List FieldType} {rt : Option FieldType} {W : Nat} {S0 : List Value}
    (w1 : tables_1[i1]? = some (.methodLink own idx y)) (ho : κ.2.2.1 = own) (w2 : tables_1[i2]? = some (.declares y)) (w3 : tables_1[i3]? = some (.selects C0 y y)) (w4 : tables_1[i4]? = some (.instanceMethod y)) (w5 : tables_1[i5]? = some (.code y κ'.1 κ'.2.1 κ'.2.2.2.2.1)) (w6 : tables_1[i6]? = some (.initialized y.cls)) (hy : y.cls ≠ "java/lang/invoke/MethodHandle" ∧ y.cls ≠ "java/lang/invoke/VarHandle")
    (E : Exa Z h a C0) (C : oC Z ω y κ' [] (.ref a :: as).toArray h Q') (hf : κ'.2.2.2.2.2.frames + 1 ≤ κ.2.2.2.2.2.frames) (hl : W + (κ'.2.1 + 11) + κ'.2.2.2.2.2.locals ≤ κ.2.2.2.2.2.locals) (hW : (S.map fun v => v.category).sum ≤ W) (hc : cs + κ'.2.2.2.2.2.cells ≤ κ.2.2.2.2.2.cells) (hs : ss + κ'.2.2.2.2.2.slots ≤ κ.2.2.2.2.2.slots)
    (hpd : parseMethodDescriptor y.desc = some ⟨ps, rt⟩) (hlen : as.length = ps.length) (hS : S0 = as.reverse ++ .ref a :: S) (hL : L.size = κ.2.1) (hd : decode κ.1 pc = .ok (.invokevirtual idx, 3)) (hp : pc + 3 = pc')
    (K : ∀ v T' h', oSt Z ω γ κ T' h' (cs + κ'.2.2.2.2.2.cells) (ss + κ'.2.2.2.2.2.slots) → Q' v h' → oWP ω γ κ Q T' pc' L (v.toList ++ S)) : oWP ω γ κ Q T pc L S0 := by
  have w1' := oSt_at X i1 w1
  have w2' := oSt_at X i2 w2
  have w3' := oSt_at X i3 w3
  have w4' := oSt_at X i4 w4
  have w5' := oSt_at X i5 w5
  have w6' := oSt_at X i6 w6
  obtain ⟨hx, hby, hml, hown, hnm, hr, hlk, hZ, hT1, hn0, hT, locs, Y, N⟩ := X
  subst hp ho hS
  obtain ⟨cq, kq, qa, qb, qc⟩ := isOf hZ hT E
  obtain ⟨v, vm₁, ⟨T', L', k', n'⟩, -, Y', ⟨Lc, ⟨hF, hQ⟩, q1, q2, q3⟩, st⟩ := Y.virtualBack hx (y := y) (z := y) hown (mvT hZ w1') (mvT hZ w2') (notFace_of_selects (args := #[]) (mvT hZ w3')) (mvT hZ w3') (mvT hZ w4') hy (backOf (W := W) (Q := fun v hh Lc => Fr ω.2.1 Lc ∧ Q' v hh) (bytes := κ'.1) (maxL := κ'.2.1) (ret := κ'.2.2.2.2.1) (rm := κ'.2.2.2.2.2) C hZ w5' w6' hf hl) qa qc (g := mkF γ.2.2.2.1 pc L (as.reverse ++ .ref a :: S)) rfl (by rw [hml]; exact hL) (Steps.refl _) (argsL := as) (rest := S) (lenOf hpd hlen) rfl (by show 2 * 0 + _ ≤ _; omega) (hb hby hd) (fun _ _ => ⟨rfl, hT, hc, hs⟩)
  dsimp only [Pt.U, Pt.locs, Pt.cells, Pt.slots] at Y' q1 q2 q3 st hQ
  subst q1 q2 q3
  obtain ⟨s₂, o, hs, r⟩ := K v T' T'.heap ⟨hx, hby, hml, hown, hnm, hr, hlk, hZ, hT1, hn0, rfl, _, Y', N.app hF⟩ hQ
  exact ⟨s₂, o, st.trans hs, r⟩
theorem ow_callP (X : oSt Z ω γ κ T h cs ss) (pc' i1 i2 i3 i4 i5 i6 : Nat) {own C0 : String} {idx nn : Nat} {y : MethodName} {κ' : OM} {Q' : Option Value → Heap → Prop} {a : Addr} {as : List Value} {ps : List FieldType} {rt : Option FieldType} {W : Nat} {S0 : List Value}
    (w1 : tables_1[i1]? = some (.methodLink own idx y)) (ho : κ.2.2.1 = own) (w2 : tables_1[i2]? = some (.instanceMethod y)) (w3 : tables_1[i3]? = some (.privateMethod y)) (w4 : tables_1[i4]? = some (.initialized y.cls)) (w5 : tables_1[i5]? = some (.code y κ'.1 κ'.2.1 κ'.2.2.2.2.1)) (w6 : tables_1[i6]? = some (.instantiable y.cls nn)) (hy : y.cls ≠ "java/lang/invoke/MethodHandle" ∧ y.cls ≠ "java/lang/invoke/VarHandle")
    (E : Exa Z h a C0) (C : oC Z ω y κ' [] (.ref a :: as).toArray h Q') (hf : κ'.2.2.2.2.2.frames + 1 ≤ κ.2.2.2.2.2.frames) (hl : W + (κ'.2.1 + 11) + κ'.2.2.2.2.2.locals ≤ κ.2.2.2.2.2.locals) (hW : (S.map fun v => v.category).sum ≤ W) (hc : cs + κ'.2.2.2.2.2.cells ≤ κ.2.2.2.2.2.cells) (hs : ss + κ'.2.2.2.2.2.slots ≤ κ.2.2.2.2.2.slots)
    (hpd : parseMethodDescriptor y.desc = some ⟨ps, rt⟩) (hlen : as.length = ps.length) (hS : S0 = as.reverse ++ .ref a :: S) (hL : L.size = κ.2.1) (hd : decode κ.1 pc = .ok (.invokevirtual idx, 3)) (hp : pc + 3 = pc')
    (K : ∀ v T' h', oSt Z ω γ κ T' h' (cs + κ'.2.2.2.2.2.cells) (ss + κ'.2.2.2.2.2.slots) → Q' v h' → oWP ω γ κ Q T' pc' L (v.toList ++ S)) : oWP ω γ κ Q T pc L S0 := by
  have w1' := oSt_at X i1 w1
  have w2' := oSt_at X i2 w2
  have w3' := oSt_at X i3 w3
  have w4' := oSt_at X i4 w4
  have w5' := oSt_at X i5 w5
  have w6' := oSt_at X i6 w6
  obtain ⟨hx, hby, hml, hown, hnm, hr, hlk, hZ, hT1, hn0, hT, locs, Y, N⟩ := X
  subst hp ho hS
  obtain ⟨cq, q1, q2⟩ := E.cell
  obtain ⟨ck, kk, i1, i2, -, i4, -⟩ := Cond.instantiable_spec (mvT (args := #[]) hZ w6')
  have hni : kk.isInterface = false := (Bool.or_eq_false_iff.mp i4).1
  have hpr := Cond.privateMethod_at (mvP (args := #[]) hZ w3')
  obtain ⟨v, vm₁, ⟨T', L', k', n'⟩, -, Y', ⟨Lc, ⟨hF, hQ⟩, q1, q2, q3⟩, st⟩ := Y.privateBack hx (y := y) hown (mvT hZ w1') (mvT hZ w2') (selects_self_of_private i1 i2 hni hpr (mvT hZ w2') hy) hpr (mvT hZ w5') hy (backOf (W := W) (Q := fun v hh Lc => Fr ω.2.1 Lc ∧ Q' v hh) (bytes := κ'.1) (maxL := κ'.2.1) (ret := κ'.2.2.2.2.1) (rm := κ'.2.2.2.2.2) C hZ w5' w4' hf hl) (g := mkF γ.2.2.2.1 pc L (as.reverse ++ .ref a :: S)) rfl (by rw [hml]; exact hL) (Steps.refl _) (a := a) (by rw [hT]; exact q1) q2 (argsL := as) (rest := S) (lenOf hpd hlen) rfl (by show 2 * 0 + _ ≤ _; omega) (hb hby hd) (fun _ _ => ⟨rfl, hT, hc, hs⟩)
  dsimp only [Pt.U, Pt.locs, Pt.cells, Pt.slots] at Y' q1 q2 q3 st hQ
  subst q1 q2 q3
  obtain ⟨s₂, o, hs, r⟩ := K v T' T'.heap ⟨hx, hby, hml, hown, hnm, hr, hlk, hZ, hT1, hn0, rfl, _, Y', N.app hF⟩ hQ
  exact ⟨s₂, o, st.trans hs, r⟩
end Walk
/-- an array: its component type, its length, what it holds -/
def oA (Z : State) (h : Heap) (a : Addr) (ty : FieldType) (n : Nat) (f : Nat → Value) : Prop := ∃ c : Cell, Arr Z h a c ty ∧ c.slots.size = n ∧ n < 2147483648 ∧ ∀ i, i < n → c.slots[i]? = some (f i)
section Arrays
variable {Z : State} {h h' : Heap} {a b : Addr} {ty : FieldType} {n sl : Nat} {f g : Nat → Value} {v : Value} {ws : List Addr}
theorem oA.lt (A : oA Z h a ty n f) : a < h.size := by obtain ⟨c, A, -⟩ := A; exact A.lt
theorem oA.small (A : oA Z h a ty n f) : n < 2147483648 := by obtain ⟨c, -, -, q, -⟩ := A; exact q
theorem oA.ext (A : oA Z h a ty n f) (E : Ext h h') : oA Z h' a ty n f := by obtain ⟨c, A, r⟩ := A; exact ⟨c, A.ext E, r⟩
theorem oA.other (A : oA Z h b ty n f) (W : Wr h h' a sl v) (q : b ≠ a) : oA Z h' b ty n f := by obtain ⟨c, A, r⟩ := A; exact ⟨c, A.other W q, r⟩
theorem oA.keep (A : oA Z h a ty n f) (K : Keep h h' ws) (q : a ∉ ws) : oA Z h' a ty n f := by obtain ⟨c, A, r⟩ := A; exact ⟨c, ⟨K.2.1 a c A.1 q, A.2⟩, r⟩
theorem oA.congr (A : oA Z h a ty n f) (q : ∀ i, i < n → f i = g i) : oA Z h a ty n g := by obtain ⟨c, A, r1, r2, r3⟩ := A; exact ⟨c, A, r1, r2, fun i hi => by rw [← q i hi]; exact r3 i hi⟩
theorem oA.set (A : oA Z h a ty n f) (W : Wr h h' a sl v) : oA Z h' a ty n (fun i => if i = sl then v else f i) := by
  obtain ⟨c, A, r1, r2, r3⟩ := A
  have hlt : sl < n := by
    obtain ⟨c', h1, -, h3, -⟩ := W
    cases A.1.symm.trans h1
    omega
  refine ⟨c.setSlot sl v, A.same W, (sz_set _ _ _).trans r1, r2, fun i hi => ?_⟩
  by_cases e : i = sl
  · subst e; simp [Cell.setSlot, r1, hlt]
  · simp only [e, if_false]
    rw [← r3 i hi]
    exact Array.getElem?_setIfInBounds_ne (Ne.symm e)
/-- one place changed -/
def oUpd {α : Type} (g : Nat → α) (k : Nat) (v : α) : Nat → α := fun i => if i = k then v else g i
theorem oUpd_hit {α : Type} (g : Nat → α) (k : Nat) (v : α) : oUpd g k v k = v := if_pos rfl
theorem oUpd_miss {α : Type} (g : Nat → α) {k i : Nat} (v : α) (q : i ≠ k) : oUpd g k v i = g i := if_neg q
def oZI : Nat → Int32 := fun _ => 0
def oZJ : Nat → Int64 := fun _ => 0
theorem oA.setI {g : Nat → Int32} {x : Int32} (A : oA Z h a ty n (fun i => .int (g i))) (W : Wr h h' a sl (.int x)) : oA Z h' a ty n (fun i => .int (oUpd g sl x i)) :=
  (A.set W).congr fun i _ => by unfold oUpd; split <;> rfl
theorem oA.setJ {g : Nat → Int64} {x : Int64} (A : oA Z h a ty n (fun i => .long (g i))) (W : Wr h h' a sl (.long x)) : oA Z h' a ty n (fun i => .long (oUpd g sl x i)) :=
  (A.set W).congr fun i _ => by unfold oUpd; split <;> rfl
theorem oNd {l : List Addr} (h : l.Nodup) (i j : Nat) (hij : i ≠ j) {a b : Addr} (ha : l[i]? = some a) (hb : l[j]? = some b) : a ≠ b := by
  intro e; subst e
  obtain ⟨h1, h2⟩ := List.getElem?_eq_some_iff.mp ha
  obtain ⟨h3, h4⟩ := List.getElem?_eq_some_iff.mp hb
  have q := List.pairwise_iff_getElem.mp h
  rcases Nat.lt_or_gt_of_ne hij with r | r
  · exact q i j h1 h3 r (h2.trans h4.symm)
  · exact q j i h3 h1 r (h4.trans h2.symm)
theorem oA.new {cA : ClassId} {k : Int32} (A : Arr Z h a (newA cA ty k) ty) (q : 0 ≤ k.toInt) : oA Z h a ty k.toInt.toNat (fun _ => defaultValue ty) := by
  have e : k.toNatClampNeg = k.toInt.toNat := rfl
  have := k.toInt_lt
  refine ⟨_, A, (sz_new _ _ _).trans e, by omega, fun i hi => ?_⟩
  have : i < k.toNatClampNeg := by rw [e]; exact hi
  simp [newA, this]
theorem oInb {j : Int32} {c : Cell} (r1 : c.slots.size = n) (q : 0 ≤ j.toInt) (q' : j.toInt < n) : ¬ (j < 0 ∨ c.slots.size ≤ j.toNatClampNeg) := by
  have e : j.toNatClampNeg = j.toInt.toNat := rfl
  rw [Int32.lt_iff_toInt_lt, r1, e, o0]; omega
end Arrays
section Walk2
variable {Z : State} {ω : OW} {γ : OG} {κ : OM} {Q : Option Value → Heap → Prop} {T : State} {h : Heap} {cs ss : Nat} {pc : Nat} {L : Array Slot} {S : List Value}
theorem ow_alen (X : oSt Z ω γ κ T h cs ss) (pc' : Nat) {a : Addr} {ty : FieldType} {n : Nat} {f : Nat → Value} {v : Int32} (A : oA Z h a ty n f) (hd : decode κ.1 pc = .ok (.arraylength, 1)) (hp : pc + 1 = pc') (hv : v.toInt = n)
    (K : oWP ω γ κ Q T pc' L (.int v :: S)) : oWP ω γ κ Q T pc L (.ref a :: S) := by
  obtain ⟨hx, hby, -, -, -, -, -, hZ, -, -, hT, locs, Y, -⟩ := X
  obtain ⟨c, A, r1, r2, -⟩ := A
  subst hp
  obtain ⟨s₂, o, hs, r⟩ := K
  have e : c.slots.size.toInt32 = v := Int32.toInt_inj.mp (by rw [hv, len_toInt (by omega), r1])
  exact ⟨s₂, o, Y.arraylength hx (by rw [hT]; exact A.1) (State.isArrayOf_alike hZ.alike A.2.1) (g := mkF γ.2.2.2.1 pc L (.ref a :: S)) rfl rfl (hb hby hd) _ (by rw [e]; exact hs), r⟩
theorem ow_iaload (X : oSt Z ω γ κ T h cs ss) (pc' : Nat) {a : Addr} {n : Nat} {f : Nat → Value} {j : Int32} {v : Value} (A : oA Z h a .int n f) (hd : decode κ.1 pc = .ok (.iaload, 1)) (hp : pc + 1 = pc') (h0 : 0 ≤ j.toInt) (h1 : j.toInt < n) (hv : f j.toInt.toNat = v)
    (K : oWP ω γ κ Q T pc' L (v :: S)) : oWP ω γ κ Q T pc L (.int j :: .ref a :: S) := by
  obtain ⟨hx, hby, -, -, -, -, -, hZ, -, -, hT, locs, Y, -⟩ := X
  obtain ⟨c, A, r1, r2, r3⟩ := A
  subst hp hv
  obtain ⟨s₂, o, hs, r⟩ := K
  exact ⟨s₂, o, Y.iaload hx (by rw [hT]; exact A.1) (State.isArrayOf_alike hZ.alike A.2.1) A.2.2 (oInb r1 h0 h1) (r3 _ (by show j.toInt.toNat < _; omega)) (g := mkF γ.2.2.2.1 pc L (.int j :: .ref a :: S)) rfl rfl (hb hby hd) _ hs, r⟩
theorem ow_laload (X : oSt Z ω γ κ T h cs ss) (pc' : Nat) {a : Addr} {n : Nat} {f : Nat → Value} {j : Int32} {v : Value} (A : oA Z h a .long n f) (hd : decode κ.1 pc = .ok (.laload, 1)) (hp : pc + 1 = pc') (h0 : 0 ≤ j.toInt) (h1 : j.toInt < n) (hv : f j.toInt.toNat = v)
    (K : oWP ω γ κ Q T pc' L (v :: S)) : oWP ω γ κ Q T pc L (.int j :: .ref a :: S) := by
  obtain ⟨hx, hby, -, -, -, -, -, hZ, -, -, hT, locs, Y, -⟩ := X
  obtain ⟨c, A, r1, r2, r3⟩ := A
  subst hp hv
  obtain ⟨s₂, o, hs, r⟩ := K
  exact ⟨s₂, o, Y.laload hx (by rw [hT]; exact A.1) (State.isArrayOf_alike hZ.alike A.2.1) A.2.2 (oInb r1 h0 h1) (r3 _ (by show j.toInt.toNat < _; omega)) (g := mkF γ.2.2.2.1 pc L (.int j :: .ref a :: S)) rfl rfl (hb hby hd) _ hs, r⟩
theorem ow_caload (X : oSt Z ω γ κ T h cs ss) (pc' : Nat) {a : Addr} {n : Nat} {f : Nat → Value} {j : Int32} {v : Value} (A : oA Z h a .char n f) (hd : decode κ.1 pc = .ok (.caload, 1)) (hp : pc + 1 = pc') (h0 : 0 ≤ j.toInt) (h1 : j.toInt < n) (hv : f j.toInt.toNat = v)
    (K : oWP ω γ κ Q T pc' L (v :: S)) : oWP ω γ κ Q T pc L (.int j :: .ref a :: S) := by
  obtain ⟨hx, hby, -, -, -, -, -, hZ, -, -, hT, locs, Y, -⟩ := X
  obtain ⟨c, A, r1, r2, r3⟩ := A
  subst hp hv
  obtain ⟨s₂, o, hs, r⟩ := K
  exact ⟨s₂, o, Y.caload hx (by rw [hT]; exact A.1) (State.isArrayOf_alike hZ.alike A.2.1) A.2.2 (oInb r1 h0 h1) (r3 _ (by show j.toInt.toNat < _; omega)) (g := mkF γ.2.2.2.1 pc L (.int j :: .ref a :: S)) rfl rfl (hb hby hd) _ hs, r⟩
theorem ow_baload (X : oSt Z ω γ κ T h cs ss) (pc' : Nat) {a : Addr} {n : Nat} {f : Nat → Value} {j : Int32} {v : Value} (A : oA Z h a .byte n f) (hd : decode κ.1 pc = .ok (.baload, 1)) (hp : pc + 1 = pc') (h0 : 0 ≤ j.toInt) (h1 : j.toInt < n) (hv : f j.toInt.toNat = v)
    (K : oWP ω γ κ Q T pc' L (v :: S)) : oWP ω γ κ Q T pc L (.int j :: .ref a :: S) := by
  obtain ⟨hx, hby, -, -, -, -, -, hZ, -, -, hT, locs, Y, -⟩ := X
  obtain ⟨c, A, r1, r2, r3⟩ := A
  subst hp hv
  obtain ⟨s₂, o, hs, r⟩ := K
  exact ⟨s₂, o, Y.baloadBytes hx (by rw [hT]; exact A.1) (State.isArrayOf_alike hZ.alike A.2.1) A.2.2 (oInb r1 h0 h1) (r3 _ (by show j.toInt.toNat < _; omega)) (g := mkF γ.2.2.2.1 pc L (.int j :: .ref a :: S)) rfl rfl (hb hby hd) _ hs, r⟩
theorem ow_baloadZ (X : oSt Z ω γ κ T h cs ss) (pc' : Nat) {a : Addr} {n : Nat} {f : Nat → Value} {j : Int32} {v : Value} (A : oA Z h a .boolean n f) (hd : decode κ.1 pc = .ok (.baload, 1)) (hp : pc + 1 = pc') (h0 : 0 ≤ j.toInt) (h1 : j.toInt < n) (hv : f j.toInt.toNat = v)
    (K : oWP ω γ κ Q T pc' L (v :: S)) : oWP ω γ κ Q T pc L (.int j :: .ref a :: S) := by
  obtain ⟨hx, hby, -, -, -, -, -, hZ, -, -, hT, locs, Y, -⟩ := X
  obtain ⟨c, A, r1, r2, r3⟩ := A
  subst hp hv
  obtain ⟨s₂, o, hs, r⟩ := K
  exact ⟨s₂, o, Y.baloadBooleans hx (by rw [hT]; exact A.1) (State.isArrayOf_alike hZ.alike A.2.1) A.2.2 (oInb r1 h0 h1) (r3 _ (by show j.toInt.toNat < _; omega)) (g := mkF γ.2.2.2.1 pc L (.int j :: .ref a :: S)) rfl rfl (hb hby hd) _ hs, r⟩
theorem ow_aaload (X : oSt Z ω γ κ T h cs ss) (pc' : Nat) {a : Addr} {ty : FieldType} {n : Nat} {f : Nat → Value} {j : Int32} {v : Value} (A : oA Z h a ty n f) (ht : ty.isReference = true) (hd : decode κ.1 pc = .ok (.aaload, 1)) (hp : pc + 1 = pc') (h0 : 0 ≤ j.toInt) (h1 : j.toInt < n) (hv : f j.toInt.toNat = v)
    (K : oWP ω γ κ Q T pc' L (v :: S)) : oWP ω γ κ Q T pc L (.int j :: .ref a :: S) := by
  obtain ⟨hx, hby, -, -, -, -, -, hZ, -, -, hT, locs, Y, -⟩ := X
  obtain ⟨c, A, r1, r2, r3⟩ := A
  subst hp hv
  obtain ⟨s₂, o, hs, r⟩ := K
  exact ⟨s₂, o, Y.aaload hx (by rw [hT]; exact A.1) (State.isArrayOf_alike hZ.alike A.2.1) ht A.2.2 (oInb r1 h0 h1) (r3 _ (by show j.toInt.toNat < _; omega)) (g := mkF γ.2.2.2.1 pc L (.int j :: .ref a :: S)) rfl rfl (hb hby hd) _ hs, r⟩
theorem ow_iastore (X : oSt Z ω γ κ T h cs ss) (pc' : Nat) {a : Addr} {n : Nat} {f : Nat → Value} {j : Int32} {x : Int32} (A : oA Z h a .int n f) (ha : ω.2.1 ≤ a) (hd : decode κ.1 pc = .ok (.iastore, 1)) (hp : pc + 1 = pc') (h0 : 0 ≤ j.toInt) (h1 : j.toInt < n)
    (K : ∀ T' h', oSt Z ω γ κ T' h' cs ss → Wr h h' a j.toInt.toNat (.int x) → oWP ω γ κ Q T' pc' L S) : oWP ω γ κ Q T pc L (.int x :: .int j :: .ref a :: S) := by
  obtain ⟨hx, hby, hml, hown, hnm, hr, hlk, hZ, hT1, hn0, hT, locs, Y, N⟩ := X
  obtain ⟨c, A, r1, r2, r3⟩ := A
  subst hp
  obtain ⟨T', h', Y', e', W, st⟩ := stI Y hx hZ hT A (oInb r1 h0 h1) (g := mkF γ.2.2.2.1 pc L (.int x :: .int j :: .ref a :: S)) rfl rfl (hb hby hd)
  obtain ⟨s₂, o, hs, r⟩ := K T' h' ⟨hx, hby, hml, hown, hnm, hr, hlk, hZ, hT1, hn0, e', _, Y', Fr.snoc Y' N ha⟩ W
  exact ⟨s₂, o, st _ hs, r⟩
theorem ow_lastore (X : oSt Z ω γ κ T h cs ss) (pc' : Nat) {a : Addr} {n : Nat} {f : Nat → Value} {j : Int32} {x : Int64} (A : oA Z h a .long n f) (ha : ω.2.1 ≤ a) (hd : decode κ.1 pc = .ok (.lastore, 1)) (hp : pc + 1 = pc') (h0 : 0 ≤ j.toInt) (h1 : j.toInt < n)
    (K : ∀ T' h', oSt Z ω γ κ T' h' cs ss → Wr h h' a j.toInt.toNat (.long x) → oWP ω γ κ Q T' pc' L S) : oWP ω γ κ Q T pc L (.long x :: .int j :: .ref a :: S) := by
  obtain ⟨hx, hby, hml, hown, hnm, hr, hlk, hZ, hT1, hn0, hT, locs, Y, N⟩ := X
  obtain ⟨c, A, r1, r2, r3⟩ := A
  subst hp
  obtain ⟨T', h', Y', e', W, st⟩ := stJ Y hx hZ hT A (oInb r1 h0 h1) (g := mkF γ.2.2.2.1 pc L (.long x :: .int j :: .ref a :: S)) rfl rfl (hb hby hd)
  obtain ⟨s₂, o, hs, r⟩ := K T' h' ⟨hx, hby, hml, hown, hnm, hr, hlk, hZ, hT1, hn0, e', _, Y', Fr.snoc Y' N ha⟩ W
  exact ⟨s₂, o, st _ hs, r⟩
theorem ow_castore (X : oSt Z ω γ κ T h cs ss) (pc' : Nat) {a : Addr} {n : Nat} {f : Nat → Value} {j : Int32} {x : Int32} (A : oA Z h a .char n f) (ha : ω.2.1 ≤ a) (hd : decode κ.1 pc = .ok (.castore, 1)) (hp : pc + 1 = pc') (h0 : 0 ≤ j.toInt) (h1 : j.toInt < n)
    (K : ∀ T' h', oSt Z ω γ κ T' h' cs ss → Wr h h' a j.toInt.toNat (.int (nar .char x)) → oWP ω γ κ Q T' pc' L S) : oWP ω γ κ Q T pc L (.int x :: .int j :: .ref a :: S) := by
  obtain ⟨hx, hby, hml, hown, hnm, hr, hlk, hZ, hT1, hn0, hT, locs, Y, N⟩ := X
  obtain ⟨c, A, r1, r2, r3⟩ := A
  subst hp
  obtain ⟨T', h', Y', e', W, st⟩ := stC Y hx hZ hT A (oInb r1 h0 h1) (g := mkF γ.2.2.2.1 pc L (.int x :: .int j :: .ref a :: S)) rfl rfl (hb hby hd)
  obtain ⟨s₂, o, hs, r⟩ := K T' h' ⟨hx, hby, hml, hown, hnm, hr, hlk, hZ, hT1, hn0, e', _, Y', Fr.snoc Y' N ha⟩ W
  exact ⟨s₂, o, st _ hs, r⟩
theorem ow_bastore (X : oSt Z ω γ κ T h cs ss) (pc' : Nat) {a : Addr} {n : Nat} {f : Nat → Value} {j : Int32} {x : Int32} (A : oA Z h a .byte n f) (ha : ω.2.1 ≤ a) (hd : decode κ.1 pc = .ok (.bastore, 1)) (hp : pc + 1 = pc') (h0 : 0 ≤ j.toInt) (h1 : j.toInt < n)
    (K : ∀ T' h', oSt Z ω γ κ T' h' cs ss → Wr h h' a j.toInt.toNat (.int x.toInt8.toInt32) → oWP ω γ κ Q T' pc' L S) : oWP ω γ κ Q T pc L (.int x :: .int j :: .ref a :: S) := by
  obtain ⟨hx, hby, hml, hown, hnm, hr, hlk, hZ, hT1, hn0, hT, locs, Y, N⟩ := X
  obtain ⟨c, A, r1, r2, r3⟩ := A
  subst hp
  obtain ⟨T', h', Y', e', W, st⟩ := stB Y hx hZ hT A (oInb r1 h0 h1) (g := mkF γ.2.2.2.1 pc L (.int x :: .int j :: .ref a :: S)) rfl rfl (hb hby hd)
  obtain ⟨s₂, o, hs, r⟩ := K T' h' ⟨hx, hby, hml, hown, hnm, hr, hlk, hZ, hT1, hn0, e', _, Y', Fr.snoc Y' N ha⟩ W
  exact ⟨s₂, o, st _ hs, r⟩
theorem ow_bastoreZ (X : oSt Z ω γ κ T h cs ss) (pc' : Nat) {a : Addr} {n : Nat} {f : Nat → Value} {j : Int32} {x : Int32} (A : oA Z h a .boolean n f) (ha : ω.2.1 ≤ a) (hd : decode κ.1 pc = .ok (.bastore, 1)) (hp : pc + 1 = pc') (h0 : 0 ≤ j.toInt) (h1 : j.toInt < n)
    (K : ∀ T' h', oSt Z ω γ κ T' h' cs ss → Wr h h' a j.toInt.toNat (.int (nar .boolean x)) → oWP ω γ κ Q T' pc' L S) : oWP ω γ κ Q T pc L (.int x :: .int j :: .ref a :: S) := by
  obtain ⟨hx, hby, hml, hown, hnm, hr, hlk, hZ, hT1, hn0, hT, locs, Y, N⟩ := X
  obtain ⟨c, A, r1, r2, r3⟩ := A
  subst hp
  obtain ⟨T', h', Y', e', W, st⟩ := stZ Y hx hZ hT A (oInb r1 h0 h1) (g := mkF γ.2.2.2.1 pc L (.int x :: .int j :: .ref a :: S)) rfl rfl (hb hby hd)
  obtain ⟨s₂, o, hs, r⟩ := K T' h' ⟨hx, hby, hml, hown, hnm, hr, hlk, hZ, hT1, hn0, e', _, Y', Fr.snoc Y' N ha⟩ W
  exact ⟨s₂, o, st _ hs, r⟩
theorem ow_aastore (X : oSt Z ω γ κ T h cs ss) (pc' : Nat) {a : Addr} {ty : FieldType} {n : Nat} {f : Nat → Value} {j : Int32} {v : Value} (A : oA Z h a ty n f) (ht : ty.isReference = true) (F : Sto Z h a v) (ha : ω.2.1 ≤ a) (hd : decode κ.1 pc = .ok (.aastore, 1)) (hp : pc + 1 = pc') (h0 : 0 ≤ j.toInt) (h1 : j.toInt < n)
    (K : ∀ T' h', oSt Z ω γ κ T' h' cs ss → Wr h h' a j.toInt.toNat v → oWP ω γ κ Q T' pc' L S) : oWP ω γ κ Q T pc L (v :: .int j :: .ref a :: S) := by
  obtain ⟨hx, hby, hml, hown, hnm, hr, hlk, hZ, hT1, hn0, hT, locs, Y, N⟩ := X
  obtain ⟨c, A, r1, r2, r3⟩ := A
  subst hp
  obtain ⟨T', h', Y', e', W, st⟩ := stR Y hx hZ hT A (oInb r1 h0 h1) ht F (g := mkF γ.2.2.2.1 pc L (v :: .int j :: .ref a :: S)) rfl rfl (hb hby hd)
  obtain ⟨s₂, o, hs, r⟩ := K T' h' ⟨hx, hby, hml, hown, hnm, hr, hlk, hZ, hT1, hn0, e', _, Y', Fr.snoc Y' N ha⟩ W
  exact ⟨s₂, o, st _ hs, r⟩
theorem ow_newP (X : oSt Z ω γ κ T h cs ss) (pc' i : Nat) {aty : ArrayType} {k : Int32} {cap : Nat} (hw : tables_1[i]? = some (.arrayClass (newarray.typeOf aty))) (hd : decode κ.1 pc = .ok (.newarray aty, 2)) (hp : pc + 2 = pc') (h0 : 0 ≤ k.toInt) (h1 : k.toInt ≤ cap) (hb1 : cap * 8 ≤ 536870912) (hc : cs + 1 ≤ κ.2.2.2.2.2.cells) (hsl : ss + cap ≤ κ.2.2.2.2.2.slots)
    (K : ∀ T' h' a, a = h.size → oSt Z ω γ κ T' h' (cs + 1) (ss + cap) → Ext h h' → oA Z h' a (newarray.typeOf aty) k.toInt.toNat (fun _ => defaultValue (newarray.typeOf aty)) → ω.2.1 ≤ a → oWP ω γ κ Q T' pc' L (.ref a :: S)) : oWP ω γ κ Q T pc L (.int k :: S) := by
  have hw' := oSt_at X i hw
  have hN := oSt_n0 X
  obtain ⟨hx, hby, hml, hown, hnm, hr, hlk, hZ, hT1, hn0, hT, locs, Y, N⟩ := X
  subst hp
  have hk : ¬ k < 0 := by rw [Int32.lt_iff_toInt_lt, o0]; omega
  have hk' : k.toNatClampNeg ≤ cap := by show k.toInt.toNat ≤ cap; omega
  obtain ⟨T', h', cA, Y', e', E, A, st⟩ := newP Y hx hZ hw' hT (g := mkF γ.2.2.2.1 pc L (.int k :: S)) rfl (hb hby hd) rfl hk hk' hb1 hc hsl
  obtain ⟨s₂, o, hs, r⟩ := K T' h' h.size rfl ⟨hx, hby, hml, hown, hnm, hr, hlk, hZ, hT1, hn0, e', _, Y', N⟩ E (oA.new A h0) hN
  exact ⟨s₂, o, st _ hs, r⟩
/-- a new array's class takes objects of C -/
def oOv (Z : State) (h : Heap) (a : Addr) (C : String) : Prop := ∃ (c : Cell) (ty : FieldType), Arr Z h a c ty ∧ Ovr Z c.cls C
theorem oOv.ext {h' : Heap} {a : Addr} {C : String} (O : oOv Z h a C) (E : Ext h h') : oOv Z h' a C := by obtain ⟨c, ty, A, O⟩ := O; exact ⟨c, ty, A.ext E, O⟩
theorem oOv.wr {h' : Heap} {a b : Addr} {C : String} {sl : Nat} {v : Value} (O : oOv Z h a C) (W : Wr h h' b sl v) : oOv Z h' a C := by
  obtain ⟨c, ty, A, O⟩ := O
  by_cases e : a = b
  · subst e; exact ⟨_, ty, A.same W, O⟩
  · exact ⟨c, ty, A.other W e, O⟩
theorem oOv.keep {h' : Heap} {a : Addr} {C : String} {ws : List Addr} (O : oOv Z h a C) (K : Keep h h' ws) (q : a ∉ ws) : oOv Z h' a C := by
  obtain ⟨c, ty, A, O⟩ := O; exact ⟨c, ty, ⟨K.2.1 a c A.1 q, A.2⟩, O⟩
theorem oOv.sto {a y : Addr} {C : String} (O : oOv Z h a C) (I : Ins Z h y C true) : Sto Z h a (.ref y) := by obtain ⟨c, ty, A, O⟩ := O; exact Sto.of A O I
theorem ow_newR (X : oSt Z ω γ κ T h cs ss) (pc' i1 i2 : Nat) {own C : String} {idx : Nat} {k : Int32} {cap : Nat} (w1 : tables_1[i1]? = some (.classLink own idx C)) (ho : κ.2.2.1 = own) (w2 : tables_1[i2]? = some (.arrayOver (.object C))) (hd : decode κ.1 pc = .ok (.anewarray idx, 3)) (hp : pc + 3 = pc') (h0 : 0 ≤ k.toInt) (h1 : k.toInt ≤ cap) (hb1 : cap * 8 ≤ 536870912) (hc : cs + 1 ≤ κ.2.2.2.2.2.cells) (hsl : ss + cap ≤ κ.2.2.2.2.2.slots)
    (K : ∀ T' h' a, a = h.size → oSt Z ω γ κ T' h' (cs + 1) (ss + cap) → Ext h h' → oA Z h' a (.object C) k.toInt.toNat (fun _ => .null) → oOv Z h' a C → ω.2.1 ≤ a → oWP ω γ κ Q T' pc' L (.ref a :: S)) : oWP ω γ κ Q T pc L (.int k :: S) := by
  have w1' := oSt_at X i1 w1
  have w2' := oSt_at X i2 w2
  have hN := oSt_n0 X
  obtain ⟨hx, hby, hml, hown, hnm, hr, hlk, hZ, hT1, hn0, hT, locs, Y, N⟩ := X
  subst hp ho
  have hk : ¬ k < 0 := by rw [Int32.lt_iff_toInt_lt, o0]; omega
  have hk' : k.toNatClampNeg ≤ cap := by show k.toInt.toNat ≤ cap; omega
  obtain ⟨T', h', cA, Y', e', E, A, O, st⟩ := newR Y hx hZ hown w1' w2' hT (g := mkF γ.2.2.2.1 pc L (.int k :: S)) rfl (hb hby hd) rfl hk hk' hb1 hc hsl
  obtain ⟨s₂, o, hs, r⟩ := K T' h' h.size rfl ⟨hx, hby, hml, hown, hnm, hr, hlk, hZ, hT1, hn0, e', _, Y', N⟩ E (oA.new A h0) ⟨_, _, A, O⟩ hN
  exact ⟨s₂, o, st _ hs, r⟩
end Walk2
def BW (Z : State) (h : Heap) (a : Addr) (v0 v1 v2 v3 : Value) : Prop := Exa Z h a "com/example/accrue/accrue/BitWriter" ∧ Fld Z h a "com/example/accrue/accrue/BitWriter" "bytes" "[B" v0 ∧ Fld Z h a "com/example/accrue/accrue/BitWriter" "length" "I" v1 ∧ Fld Z h a "com/example/accrue/accrue/BitWriter" "pending" "J" v2 ∧ Fld Z h a "com/example/accrue/accrue/BitWriter" "pendingCount" "I" v3
theorem BW.lt {Z : State} {h : Heap} {a : Addr} {v0 v1 v2 v3 : Value} (R : BW Z h a v0 v1 v2 v3) : a < h.size := R.1.lt
theorem BW.ext {Z : State} {h h' : Heap} {a : Addr} {v0 v1 v2 v3 : Value} (R : BW Z h a v0 v1 v2 v3) (W : Ext h h') : BW Z h' a v0 v1 v2 v3 := by
  obtain ⟨E, F0, F1, F2, F3⟩ := R
  exact ⟨E.ext W, F0.ext W, F1.ext W, F2.ext W, F3.ext W⟩
theorem BW.other {Z : State} {h h' : Heap} {a b : Addr} {sl : Nat} {w : Value} {v0 v1 v2 v3 : Value} (R : BW Z h a v0 v1 v2 v3) (W : Wr h h' b sl w) (q : a ≠ b) : BW Z h' a v0 v1 v2 v3 := by
  obtain ⟨E, F0, F1, F2, F3⟩ := R
  exact ⟨E.wr W, F0.other W (Or.inl q), F1.other W (Or.inl q), F2.other W (Or.inl q), F3.other W (Or.inl q)⟩
theorem BW.keep {Z : State} {h h' : Heap} {a : Addr} {ws : List Addr} {v0 v1 v2 v3 : Value} (R : BW Z h a v0 v1 v2 v3) (K : Keep h h' ws) (q : a ∉ ws) : BW Z h' a v0 v1 v2 v3 := by
  obtain ⟨E, F0, F1, F2, F3⟩ := R
  exact ⟨E.keep K, F0.keep K q, F1.keep K q, F2.keep K q, F3.keep K q⟩
theorem BW.set_bytes {Z : State} {h h' : Heap} {a : Addr} {a0 : Array Value} {w : Value} {v0 v1 v2 v3 : Value} (hw : ∀ d ∈ tables_1, d.before a0 Z = true) (R : BW Z h a v0 v1 v2 v3) (W : Wr h h' a (RoadKit.slotOf Z "com/example/accrue/accrue/BitWriter" "bytes" "[B") w) : BW Z h' a w v1 v2 v3 := by
  obtain ⟨E, F0, F1, F2, F3⟩ := R
  exact ⟨E.wr W, F0.same W, F1.other W (Or.inr (slot_ne (C := "com/example/accrue/accrue/BitWriter") (Or.inl (hw _ (List.mem_of_getElem? (i := 20) rfl))) (Or.inl (hw _ (List.mem_of_getElem? (i := 13) rfl))) (by decide) (t := .int) (t' := (.array .byte)) (by decide) (by decide))), F2.other W (Or.inr (slot_ne (C := "com/example/accrue/accrue/BitWriter") (Or.inl (hw _ (List.mem_of_getElem? (i := 30) rfl))) (Or.inl (hw _ (List.mem_of_getElem? (i := 13) rfl))) (by decide) (t := .long) (t' := (.array .byte)) (by decide) (by decide))), F3.other W (Or.inr (slot_ne (C := "com/example/accrue/accrue/BitWriter") (Or.inl (hw _ (List.mem_of_getElem? (i := 23) rfl))) (Or.inl (hw _ (List.mem_of_getElem? (i := 13) rfl))) (by decide) (t := .int) (t' := (.array .byte)) (by decide) (by decide)))⟩
theorem BW.set_length {Z : State} {h h' : Heap} {a : Addr} {a0 : Array Value} {w : Value} {v0 v1 v2 v3 : Value} (hw : ∀ d ∈ tables_1, d.before a0 Z = true) (R : BW Z h a v0 v1 v2 v3) (W : Wr h h' a (RoadKit.slotOf Z "com/example/accrue/accrue/BitWriter" "length" "I") w) : BW Z h' a v0 w v2 v3 := by
  obtain ⟨E, F0, F1, F2, F3⟩ := R
  exact ⟨E.wr W, F0.other W (Or.inr (slot_ne (C := "com/example/accrue/accrue/BitWriter") (Or.inl (hw _ (List.mem_of_getElem? (i := 13) rfl))) (Or.inl (hw _ (List.mem_of_getElem? (i := 20) rfl))) (by decide) (t := (.array .byte)) (t' := .int) (by decide) (by decide))), F1.same W, F2.other W (Or.inr (slot_ne (C := "com/example/accrue/accrue/BitWriter") (Or.inl (hw _ (List.mem_of_getElem? (i := 30) rfl))) (Or.inl (hw _ (List.mem_of_getElem? (i := 20) rfl))) (by decide) (t := .long) (t' := .int) (by decide) (by decide))), F3.other W (Or.inr (slot_ne (C := "com/example/accrue/accrue/BitWriter") (Or.inl (hw _ (List.mem_of_getElem? (i := 23) rfl))) (Or.inl (hw _ (List.mem_of_getElem? (i := 20) rfl))) (by decide) (t := .int) (t' := .int) (by decide) (by decide)))⟩
theorem BW.set_pending {Z : State} {h h' : Heap} {a : Addr} {a0 : Array Value} {w : Value} {v0 v1 v2 v3 : Value} (hw : ∀ d ∈ tables_1, d.before a0 Z = true) (R : BW Z h a v0 v1 v2 v3) (W : Wr h h' a (RoadKit.slotOf Z "com/example/accrue/accrue/BitWriter" "pending" "J") w) : BW Z h' a v0 v1 w v3 := by
  obtain ⟨E, F0, F1, F2, F3⟩ := R
  exact ⟨E.wr W, F0.other W (Or.inr (slot_ne (C := "com/example/accrue/accrue/BitWriter") (Or.inl (hw _ (List.mem_of_getElem? (i := 13) rfl))) (Or.inl (hw _ (List.mem_of_getElem? (i := 30) rfl))) (by decide) (t := (.array .byte)) (t' := .long) (by decide) (by decide))), F1.other W (Or.inr (slot_ne (C := "com/example/accrue/accrue/BitWriter") (Or.inl (hw _ (List.mem_of_getElem? (i := 20) rfl))) (Or.inl (hw _ (List.mem_of_getElem? (i := 30) rfl))) (by decide) (t := .int) (t' := .long) (by decide) (by decide))), F2.same W, F3.other W (Or.inr (slot_ne (C := "com/example/accrue/accrue/BitWriter") (Or.inl (hw _ (List.mem_of_getElem? (i := 23) rfl))) (Or.inl (hw _ (List.mem_of_getElem? (i := 30) rfl))) (by decide) (t := .int) (t' := .long) (by decide) (by decide)))⟩
theorem BW.set_pendingCount {Z : State} {h h' : Heap} {a : Addr} {a0 : Array Value} {w : Value} {v0 v1 v2 v3 : Value} (hw : ∀ d ∈ tables_1, d.before a0 Z = true) (R : BW Z h a v0 v1 v2 v3) (W : Wr h h' a (RoadKit.slotOf Z "com/example/accrue/accrue/BitWriter" "pendingCount" "I") w) : BW Z h' a v0 v1 v2 w := by
  obtain ⟨E, F0, F1, F2, F3⟩ := R
  exact ⟨E.wr W, F0.other W (Or.inr (slot_ne (C := "com/example/accrue/accrue/BitWriter") (Or.inl (hw _ (List.mem_of_getElem? (i := 13) rfl))) (Or.inl (hw _ (List.mem_of_getElem? (i := 23) rfl))) (by decide) (t := (.array .byte)) (t' := .int) (by decide) (by decide))), F1.other W (Or.inr (slot_ne (C := "com/example/accrue/accrue/BitWriter") (Or.inl (hw _ (List.mem_of_getElem? (i := 20) rfl))) (Or.inl (hw _ (List.mem_of_getElem? (i := 23) rfl))) (by decide) (t := .int) (t' := .int) (by decide) (by decide))), F2.other W (Or.inr (slot_ne (C := "com/example/accrue/accrue/BitWriter") (Or.inl (hw _ (List.mem_of_getElem? (i := 30) rfl))) (Or.inl (hw _ (List.mem_of_getElem? (i := 23) rfl))) (by decide) (t := .long) (t' := .int) (by decide) (by decide))), F3.same W⟩
theorem own_add (x y : Int32) (h1 : -2147483648 ≤ x.toInt + y.toInt) (h2 : x.toInt + y.toInt < 2147483648) : (x + y).toInt = x.toInt + y.toInt := by
  have := c_iadd x y; have := rng32 (x + y); omega
theorem own_sub (x y : Int32) (h1 : -2147483648 ≤ x.toInt - y.toInt) (h2 : x.toInt - y.toInt < 2147483648) : (x - y).toInt = x.toInt - y.toInt := by
  have := c_isub x y; have := rng32 (x - y); omega
theorem own_add1 (x : Int32) (h : x.toInt < 2147483647) : (x + (1 : Int32)).toInt = x.toInt + 1 := by
  have r := rng32 x; have e : (1 : Int32).toInt = 1 := rfl
  rw [own_add x 1 (by omega) (by omega), e]
theorem own_sub8 (x : Int32) (h : 8 ≤ x.toInt) : (x - (8 : Int32)).toInt = x.toInt - 8 := by
  have r := rng32 x; have e : (8 : Int32).toInt = 8 := rfl
  rw [own_sub x 8 (by omega) (by omega), e]
theorem own_sub32 (x : Int32) (h : 32 < x.toInt) : (x - (32 : Int32)).toInt = x.toInt - 32 := by
  have r := rng32 x; have e : (32 : Int32).toInt = 32 := rfl
  rw [own_sub x 32 (by omega) (by omega), e]
theorem own_bits (len pc : Int32) (h1 : 0 ≤ len.toInt) (h2 : len.toInt ≤ 64) (h3 : 0 ≤ pc.toInt) (h4 : pc.toInt < 64) : (len.toInt64 * (8 : Int64) + pc.toInt64).toInt = 8 * len.toInt + pc.toInt := by
  have e1 := c_lmul len.toInt64 8; have e2 := c_ladd (len.toInt64 * 8) pc.toInt64; have e3 := c_i2l len; have e4 := c_i2l pc; have e5 : (8 : Int64).toInt = 8 := rfl
  have r1 := rng64 (len.toInt64 * 8); have r2 := rng64 (len.toInt64 * (8 : Int64) + pc.toInt64)
  rw [e3, e5] at e1
  omega
theorem own_n (c : Int32) : 0 ≤ ((c &&& (2147483647 : Int32)) % (65 : Int32)).toInt ∧ ((c &&& (2147483647 : Int32)) % (65 : Int32)).toInt < 65 := by
  have h := (c_andS c 2147483647).2.2 (by decide)
  have := (c_irem (c &&& 2147483647) 65 65 rfl).1 h
  omega
theorem d1_0 : decode prog_3_method_1_code 0 = .ok (.aload_n 0, 1) := by decide +kernel
theorem d1_1 : decode prog_3_method_1_code 1 = .ok (.invokespecial 1, 3) := by decide +kernel
theorem d1_4 : decode prog_3_method_1_code 4 = .ok (.aload_n 0, 1) := by decide +kernel
theorem d1_5 : decode prog_3_method_1_code 5 = .ok (.bipush 64, 2) := by decide +kernel
theorem d1_7 : decode prog_3_method_1_code 7 = .ok (.newarray .byte, 2) := by decide +kernel
theorem d1_9 : decode prog_3_method_1_code 9 = .ok (.putfield 7, 3) := by decide +kernel
theorem d1_12 : decode prog_3_method_1_code 12 = .ok (.return_, 1) := by decide +kernel
def k1 : OM := (prog_3_method_1_code, 1, "com/example/accrue/accrue/BitWriter", "<init>", none, { frames := 1, cells := 1, slots := 64, locals := 13 })
theorem pn1 : plainName "com/example/accrue/accrue/BitWriter" = true := by first | (simp [plainName, overriddenIn]; done) | decide +kernel
theorem pd1 : parseMethodDescriptor "()V" = some ⟨[], none⟩ := by decide +kernel
set_option maxRecDepth 65536 in
set_option maxHeartbeats 4000000 in
theorem C_init {Z : State} {ω : OW} {h : Heap} (hw : ∀ d ∈ tables_1, d.before ω.2.2 Z = true) (hn : ω.2.1 ≤ h.size) (a : Addr) (F0 : BW Z h a .null (.int 0) (.long 0) (.int 0)) (ga : ω.2.1 ≤ a) :
    oC Z ω (⟨"com/example/accrue/accrue/BitWriter", "<init>", "()V"⟩ : MethodName) k1 [] #[.ref a] h (fun v h' => v = none ∧ ∃ w, Keep h h' [a] ∧ a ≠ w ∧ ω.2.1 ≤ w ∧ BW Z h' a (.ref w) (.int 0) (.long 0) (.int 0) ∧ oA Z h' w .byte 64 (fun i => .int (oZI i))) := by
  refine oC_of hw hn pn1 rfl rfl (L := #[.val (.ref a)]) (fun m => by first | rfl | (simp [entryFrame, mkF, argsToLocals, Value.category, k1]; done)) ?_
  intro γ T X
  refine ow_aloadN X 1 d1_0 rfl rfl rfl ?_
  refine ow_initO X 4 8 9 10 rfl rfl rfl rfl d1_1 rfl rfl (by decide) (W := 0) (Nat.le_of_eq rfl) (by decide) ?_
  intro T1 X1
  refine ow_aloadN X1 5 d1_4 rfl rfl rfl ?_
  refine ow_bipush X1 7 (64 : Int32) d1_5 rfl rfl ?_
  refine ow_newP X1 9 11 (cap := 64) rfl d1_7 rfl (by decide) (by decide) (by decide) (by decide) (by decide) ?_
  intro T2 h2 a2 q2 X2 E2 A2 g2
  have ne_a_a2 : a ≠ a2 := by rw [q2]; exact Nat.ne_of_lt F0.lt
  have ge_h_a2 : h.size ≤ a2 := by rw [q2]; exact (Keep.refl h [a]).1
  have f3_0 : BW Z h2 a .null (.int 0) (.long 0) (.int 0) := F0.ext E2
  have f3_1 : Keep h h2 [a] := (Keep.refl h [a]).ext E2
  have A2 : oA Z h2 a2 .byte ((64 : Int32).toInt.toNat) (fun i => .int (oZI i)) := A2
  refine ow_putF X2 12 12 3 rfl rfl f3_0.2.1 f3_0.1 (Or.inl (oSt_at X2 13 rfl)) rfl (ty := (.array .byte)) (by decide) rfl rfl ga d1_9 rfl ?_
  intro T4 h4 X4 W4
  have f5_0 : BW Z h4 a (.ref a2) (.int 0) (.long 0) (.int 0) := BW.set_bytes (oSt_w X4) f3_0 W4
  have f5_1 : Keep h h4 [a] := f3_1.wr W4 (Or.inl (List.mem_of_getElem? (i := 0) rfl))
  have f5_2 : oA Z h4 a2 .byte ((64 : Int32).toInt.toNat) (fun i => .int (oZI i)) := A2.other W4 (Ne.symm ne_a_a2)
  refine ow_retV X4 rfl d1_12 (by decide) (by decide) ?_
  exact ⟨rfl, a2, f5_1, ne_a_a2, g2, f5_0, f5_2⟩
theorem d3_0 : decode prog_3_method_9_code 0 = .ok (.aload_n 0, 1) := by decide +kernel
theorem d3_1 : decode prog_3_method_9_code 1 = .ok (.getfield 64, 3) := by decide +kernel
theorem d3_4 : decode prog_3_method_9_code 4 = .ok (.i2l, 1) := by decide +kernel
theorem d3_5 : decode prog_3_method_9_code 5 = .ok (.ldc2_w 67, 3) := by decide +kernel
theorem d3_8 : decode prog_3_method_9_code 8 = .ok (.lmul, 1) := by decide +kernel
theorem d3_9 : decode prog_3_method_9_code 9 = .ok (.aload_n 0, 1) := by decide +kernel
theorem d3_10 : decode prog_3_method_9_code 10 = .ok (.getfield 23, 3) := by decide +kernel
theorem d3_13 : decode prog_3_method_9_code 13 = .ok (.i2l, 1) := by decide +kernel
theorem d3_14 : decode prog_3_method_9_code 14 = .ok (.ladd, 1) := by decide +kernel
theorem d3_15 : decode prog_3_method_9_code 15 = .ok (.lreturn, 1) := by decide +kernel
def k3 : OM := (prog_3_method_9_code, 1, "com/example/accrue/accrue/BitWriter", "bitLength", (some .long), { frames := 0, cells := 0, slots := 0, locals := 0 })
theorem pn3 : plainName "com/example/accrue/accrue/BitWriter" = true := by first | (simp [plainName, overriddenIn]; done) | decide +kernel
theorem pd3 : parseMethodDescriptor "()J" = some ⟨[], (some .long)⟩ := by decide +kernel
set_option maxRecDepth 65536 in
set_option maxHeartbeats 4000000 in
theorem C_len {Z : State} {ω : OW} {h : Heap} (hw : ∀ d ∈ tables_1, d.before ω.2.2 Z = true) (hn : ω.2.1 ≤ h.size) (a : Addr) (len pc : Int32) (w pd : Value) (F0 : BW Z h a w (.int len) pd (.int pc)) (h1 : 0 ≤ len.toInt) (h2 : len.toInt ≤ 64) (h3 : 0 ≤ pc.toInt) (h4 : pc.toInt < 64) :
    oC Z ω (⟨"com/example/accrue/accrue/BitWriter", "bitLength", "()J"⟩ : MethodName) k3 [] #[.ref a] h (fun v h' => ∃ r : Int64, v = some (.long r) ∧ h' = h ∧ r.toInt = 8 * len.toInt + pc.toInt) := by
  refine oC_of hw hn pn3 rfl rfl (L := #[.val (.ref a)]) (fun m => by first | rfl | (simp [entryFrame, mkF, argsToLocals, Value.category, k3]; done)) ?_
  intro γ T X
  refine ow_aloadN X 1 d3_0 rfl rfl rfl ?_
  refine ow_getF X 4 19 rfl rfl F0.2.2.1 d3_1 rfl ?_
  intro T6 X6
  refine ow_i2l X6 5 d3_4 rfl ?_
  refine ow_ldc2J X6 8 21 rfl rfl d3_5 rfl ?_
  refine ow_lmul X6 9 d3_8 rfl ?_
  refine ow_aloadN X6 10 d3_9 rfl rfl rfl ?_
  refine ow_getF X6 13 22 rfl rfl F0.2.2.2.2 d3_10 rfl ?_
  intro T7 X7
  refine ow_i2l X7 14 d3_13 rfl ?_
  refine ow_ladd X7 15 d3_14 rfl ?_
  refine ow_retJ X7 rfl d3_15 (by decide) (by decide) ?_
  exact ⟨_, rfl, rfl, own_bits len pc h1 h2 h3 h4⟩
theorem d6_0 : decode prog_3_method_12_code 0 = .ok (.aload_n 0, 1) := by decide +kernel
theorem d6_1 : decode prog_3_method_12_code 1 = .ok (.getfield 64, 3) := by decide +kernel
theorem d6_4 : decode prog_3_method_12_code 4 = .ok (.aload_n 0, 1) := by decide +kernel
theorem d6_5 : decode prog_3_method_12_code 5 = .ok (.getfield 7, 3) := by decide +kernel
theorem d6_8 : decode prog_3_method_12_code 8 = .ok (.arraylength, 1) := by decide +kernel
theorem d6_9 : decode prog_3_method_12_code 9 = .ok (.if_icmp .ne 21, 3) := by decide +kernel
theorem d6_12 : decode prog_3_method_12_code 12 = .ok (.aload_n 0, 1) := by decide +kernel
theorem d6_13 : decode prog_3_method_12_code 13 = .ok (.aload_n 0, 1) := by decide +kernel
theorem d6_14 : decode prog_3_method_12_code 14 = .ok (.getfield 7, 3) := by decide +kernel
theorem d6_17 : decode prog_3_method_12_code 17 = .ok (.iconst 2, 1) := by decide +kernel
theorem d6_18 : decode prog_3_method_12_code 18 = .ok (.aload_n 0, 1) := by decide +kernel
theorem d6_19 : decode prog_3_method_12_code 19 = .ok (.getfield 7, 3) := by decide +kernel
theorem d6_22 : decode prog_3_method_12_code 22 = .ok (.arraylength, 1) := by decide +kernel
theorem d6_23 : decode prog_3_method_12_code 23 = .ok (.imul, 1) := by decide +kernel
theorem d6_24 : decode prog_3_method_12_code 24 = .ok (.invokestatic 70, 3) := by decide +kernel
theorem d6_27 : decode prog_3_method_12_code 27 = .ok (.putfield 7, 3) := by decide +kernel
theorem d6_30 : decode prog_3_method_12_code 30 = .ok (.aload_n 0, 1) := by decide +kernel
theorem d6_31 : decode prog_3_method_12_code 31 = .ok (.getfield 7, 3) := by decide +kernel
theorem d6_34 : decode prog_3_method_12_code 34 = .ok (.aload_n 0, 1) := by decide +kernel
theorem d6_35 : decode prog_3_method_12_code 35 = .ok (.dup, 1) := by decide +kernel
theorem d6_36 : decode prog_3_method_12_code 36 = .ok (.getfield 64, 3) := by decide +kernel
theorem d6_39 : decode prog_3_method_12_code 39 = .ok (.dup_x1, 1) := by decide +kernel
theorem d6_40 : decode prog_3_method_12_code 40 = .ok (.iconst 1, 1) := by decide +kernel
theorem d6_41 : decode prog_3_method_12_code 41 = .ok (.iadd, 1) := by decide +kernel
theorem d6_42 : decode prog_3_method_12_code 42 = .ok (.putfield 64, 3) := by decide +kernel
theorem d6_45 : decode prog_3_method_12_code 45 = .ok (.iload_n 1, 1) := by decide +kernel
theorem d6_46 : decode prog_3_method_12_code 46 = .ok (.bastore, 1) := by decide +kernel
theorem d6_47 : decode prog_3_method_12_code 47 = .ok (.return_, 1) := by decide +kernel
def k6 : OM := (prog_3_method_12_code, 2, "com/example/accrue/accrue/BitWriter", "append", none, { frames := 0, cells := 0, slots := 0, locals := 0 })
theorem pn6 : plainName "com/example/accrue/accrue/BitWriter" = true := by first | (simp [plainName, overriddenIn]; done) | decide +kernel
theorem pd6 : parseMethodDescriptor "(B)V" = some ⟨[.byte], none⟩ := by decide +kernel
set_option maxRecDepth 65536 in
set_option maxHeartbeats 4000000 in
theorem C_app {Z : State} {ω : OW} {h : Heap} (hw : ∀ d ∈ tables_1, d.before ω.2.2 Z = true) (hn : ω.2.1 ≤ h.size) (a w : Addr) (x len pc : Int32) (pd : Int64) (f : Nat → Int32) (F0 : BW Z h a (.ref w) (.int len) (.long pd) (.int pc)) (A0 : oA Z h w .byte 64 (fun i => .int (f i))) (ga : ω.2.1 ≤ a) (gw : ω.2.1 ≤ w) (ne : a ≠ w) (h1 : 0 ≤ len.toInt) (h2 : len.toInt < 64) :
    oC Z ω (⟨"com/example/accrue/accrue/BitWriter", "append", "(B)V"⟩ : MethodName) k6 [] #[.ref a, .int x] h (fun v h' => v = none ∧ Keep h h' [a, w] ∧ BW Z h' a (.ref w) (.int (len + (1 : Int32))) (.long pd) (.int pc) ∧ ∃ f' : Nat → Int32, oA Z h' w .byte 64 (fun i => .int (f' i))) := by
  refine oC_of hw hn pn6 rfl rfl (L := #[.val (.ref a), .val (.int x)]) (fun m => by first | rfl | (simp [entryFrame, mkF, argsToLocals, Value.category, k6]; done)) ?_
  intro γ T X
  refine ow_aloadN X 1 d6_0 rfl rfl rfl ?_
  refine ow_getF X 4 19 rfl rfl F0.2.2.1 d6_1 rfl ?_
  intro T8 X8
  refine ow_aloadN X8 5 d6_4 rfl rfl rfl ?_
  refine ow_getF X8 8 12 rfl rfl F0.2.1 d6_5 rfl ?_
  intro T9 X9
  refine ow_alen X9 9 (v := 64) A0 d6_8 rfl rfl ?_
  refine ow_icmp_ne X9 12 30 d6_9 rfl rfl (fun (c9 : len.toInt ≠ 64) => ?_) (fun (c9 : len.toInt = 64) => by exfalso; omega)
  refine ow_aloadN X9 31 d6_30 rfl rfl rfl ?_
  refine ow_getF X9 34 12 rfl rfl F0.2.1 d6_31 rfl ?_
  intro T10 X10
  refine ow_aloadN X10 35 d6_34 rfl rfl rfl ?_
  refine ow_dup X10 36 d6_35 rfl rfl ?_
  refine ow_getF X10 39 19 rfl rfl F0.2.2.1 d6_36 rfl ?_
  intro T11 X11
  refine ow_dupX1 X11 40 d6_39 rfl rfl rfl ?_
  refine ow_iconst X11 41 (1 : Int32) d6_40 rfl rfl ?_
  refine ow_iadd X11 42 d6_41 rfl ?_
  refine ow_putF X11 45 19 3 rfl rfl F0.2.2.1 F0.1 (Or.inl (oSt_at X11 20 rfl)) rfl (ty := .int) (by decide) rfl rfl ga d6_42 rfl ?_
  intro T12 h12 X12 W12
  have f13_0 : BW Z h12 a (.ref w) (.int (len + (1 : Int32))) (.long pd) (.int pc) := BW.set_length (oSt_w X12) F0 W12
  have f13_1 : oA Z h12 w .byte 64 (fun i => .int (f i)) := A0.other W12 (Ne.symm ne)
  have f13_2 : Keep h h12 [a, w] := (Keep.refl h [a, w]).wr W12 (Or.inl (List.mem_of_getElem? (i := 0) rfl))
  refine ow_iloadN X12 46 d6_45 rfl rfl ?_
  refine ow_bastore X12 47 f13_1 gw d6_46 rfl h1 (by omega) ?_
  intro T14 h14 X14 W14
  have f15_0 : BW Z h14 a (.ref w) (.int (len + (1 : Int32))) (.long pd) (.int pc) := f13_0.other W14 ne
  have f15_1 : oA Z h14 w .byte 64 (fun i => .int ((oUpd f len.toInt.toNat x.toInt8.toInt32) i)) := f13_1.setI W14
  have f15_2 : Keep h h14 [a, w] := f13_2.wr W14 (Or.inl (List.mem_of_getElem? (i := 1) rfl))
  refine ow_retV X14 rfl d6_47 (by decide) (by decide) ?_
  exact ⟨rfl, f15_2, f15_0, _, f15_1⟩
theorem d4_0 : decode prog_3_method_2_code 0 = .ok (.iload_n 3, 1) := by decide +kernel
theorem d4_1 : decode prog_3_method_2_code 1 = .ok (.bipush 32, 2) := by decide +kernel
theorem d4_3 : decode prog_3_method_2_code 3 = .ok (.if_icmp .le 23, 3) := by decide +kernel
theorem d4_6 : decode prog_3_method_2_code 6 = .ok (.aload_n 0, 1) := by decide +kernel
theorem d4_7 : decode prog_3_method_2_code 7 = .ok (.lload_n 1, 1) := by decide +kernel
theorem d4_8 : decode prog_3_method_2_code 8 = .ok (.bipush 32, 2) := by decide +kernel
theorem d4_10 : decode prog_3_method_2_code 10 = .ok (.lushr, 1) := by decide +kernel
theorem d4_11 : decode prog_3_method_2_code 11 = .ok (.iload_n 3, 1) := by decide +kernel
theorem d4_12 : decode prog_3_method_2_code 12 = .ok (.bipush 32, 2) := by decide +kernel
theorem d4_14 : decode prog_3_method_2_code 14 = .ok (.isub, 1) := by decide +kernel
theorem d4_15 : decode prog_3_method_2_code 15 = .ok (.invokevirtual 15, 3) := by decide +kernel
theorem d4_18 : decode prog_3_method_2_code 18 = .ok (.aload_n 0, 1) := by decide +kernel
theorem d4_19 : decode prog_3_method_2_code 19 = .ok (.lload_n 1, 1) := by decide +kernel
theorem d4_20 : decode prog_3_method_2_code 20 = .ok (.bipush 32, 2) := by decide +kernel
theorem d4_22 : decode prog_3_method_2_code 22 = .ok (.invokevirtual 15, 3) := by decide +kernel
theorem d4_25 : decode prog_3_method_2_code 25 = .ok (.return_, 1) := by decide +kernel
theorem d4_26 : decode prog_3_method_2_code 26 = .ok (.aload_n 0, 1) := by decide +kernel
theorem d4_27 : decode prog_3_method_2_code 27 = .ok (.aload_n 0, 1) := by decide +kernel
theorem d4_28 : decode prog_3_method_2_code 28 = .ok (.getfield 19, 3) := by decide +kernel
theorem d4_31 : decode prog_3_method_2_code 31 = .ok (.iload_n 3, 1) := by decide +kernel
theorem d4_32 : decode prog_3_method_2_code 32 = .ok (.lshl, 1) := by decide +kernel
theorem d4_33 : decode prog_3_method_2_code 33 = .ok (.lload_n 1, 1) := by decide +kernel
theorem d4_34 : decode prog_3_method_2_code 34 = .ok (.lconst 1, 1) := by decide +kernel
theorem d4_35 : decode prog_3_method_2_code 35 = .ok (.iload_n 3, 1) := by decide +kernel
theorem d4_36 : decode prog_3_method_2_code 36 = .ok (.lshl, 1) := by decide +kernel
theorem d4_37 : decode prog_3_method_2_code 37 = .ok (.lconst 1, 1) := by decide +kernel
theorem d4_38 : decode prog_3_method_2_code 38 = .ok (.lsub, 1) := by decide +kernel
theorem d4_39 : decode prog_3_method_2_code 39 = .ok (.land, 1) := by decide +kernel
theorem d4_40 : decode prog_3_method_2_code 40 = .ok (.lor, 1) := by decide +kernel
theorem d4_41 : decode prog_3_method_2_code 41 = .ok (.putfield 19, 3) := by decide +kernel
theorem d4_44 : decode prog_3_method_2_code 44 = .ok (.aload_n 0, 1) := by decide +kernel
theorem d4_45 : decode prog_3_method_2_code 45 = .ok (.dup, 1) := by decide +kernel
theorem d4_46 : decode prog_3_method_2_code 46 = .ok (.getfield 23, 3) := by decide +kernel
theorem d4_49 : decode prog_3_method_2_code 49 = .ok (.iload_n 3, 1) := by decide +kernel
theorem d4_50 : decode prog_3_method_2_code 50 = .ok (.iadd, 1) := by decide +kernel
theorem d4_51 : decode prog_3_method_2_code 51 = .ok (.putfield 23, 3) := by decide +kernel
theorem d4_54 : decode prog_3_method_2_code 54 = .ok (.aload_n 0, 1) := by decide +kernel
theorem d4_55 : decode prog_3_method_2_code 55 = .ok (.getfield 23, 3) := by decide +kernel
theorem d4_58 : decode prog_3_method_2_code 58 = .ok (.bipush 8, 2) := by decide +kernel
theorem d4_60 : decode prog_3_method_2_code 60 = .ok (.if_icmp .lt 32, 3) := by decide +kernel
theorem d4_63 : decode prog_3_method_2_code 63 = .ok (.aload_n 0, 1) := by decide +kernel
theorem d4_64 : decode prog_3_method_2_code 64 = .ok (.dup, 1) := by decide +kernel
theorem d4_65 : decode prog_3_method_2_code 65 = .ok (.getfield 23, 3) := by decide +kernel
theorem d4_68 : decode prog_3_method_2_code 68 = .ok (.bipush 8, 2) := by decide +kernel
theorem d4_70 : decode prog_3_method_2_code 70 = .ok (.isub, 1) := by decide +kernel
theorem d4_71 : decode prog_3_method_2_code 71 = .ok (.putfield 23, 3) := by decide +kernel
theorem d4_74 : decode prog_3_method_2_code 74 = .ok (.aload_n 0, 1) := by decide +kernel
theorem d4_75 : decode prog_3_method_2_code 75 = .ok (.aload_n 0, 1) := by decide +kernel
theorem d4_76 : decode prog_3_method_2_code 76 = .ok (.getfield 19, 3) := by decide +kernel
theorem d4_79 : decode prog_3_method_2_code 79 = .ok (.aload_n 0, 1) := by decide +kernel
theorem d4_80 : decode prog_3_method_2_code 80 = .ok (.getfield 23, 3) := by decide +kernel
theorem d4_83 : decode prog_3_method_2_code 83 = .ok (.lushr, 1) := by decide +kernel
theorem d4_84 : decode prog_3_method_2_code 84 = .ok (.l2i, 1) := by decide +kernel
theorem d4_85 : decode prog_3_method_2_code 85 = .ok (.i2b, 1) := by decide +kernel
theorem d4_86 : decode prog_3_method_2_code 86 = .ok (.invokevirtual 29, 3) := by decide +kernel
theorem d4_89 : decode prog_3_method_2_code 89 = .ok (.goto (-35), 3) := by decide +kernel
theorem d4_92 : decode prog_3_method_2_code 92 = .ok (.aload_n 0, 1) := by decide +kernel
theorem d4_93 : decode prog_3_method_2_code 93 = .ok (.dup, 1) := by decide +kernel
theorem d4_94 : decode prog_3_method_2_code 94 = .ok (.getfield 19, 3) := by decide +kernel
theorem d4_97 : decode prog_3_method_2_code 97 = .ok (.lconst 1, 1) := by decide +kernel
theorem d4_98 : decode prog_3_method_2_code 98 = .ok (.aload_n 0, 1) := by decide +kernel
theorem d4_99 : decode prog_3_method_2_code 99 = .ok (.getfield 23, 3) := by decide +kernel
theorem d4_102 : decode prog_3_method_2_code 102 = .ok (.lshl, 1) := by decide +kernel
theorem d4_103 : decode prog_3_method_2_code 103 = .ok (.lconst 1, 1) := by decide +kernel
theorem d4_104 : decode prog_3_method_2_code 104 = .ok (.lsub, 1) := by decide +kernel
theorem d4_105 : decode prog_3_method_2_code 105 = .ok (.land, 1) := by decide +kernel
theorem d4_106 : decode prog_3_method_2_code 106 = .ok (.putfield 19, 3) := by decide +kernel
theorem d4_109 : decode prog_3_method_2_code 109 = .ok (.return_, 1) := by decide +kernel
def k4 : OM := (prog_3_method_2_code, 4, "com/example/accrue/accrue/BitWriter", "write", none, { frames := 1, cells := 0, slots := 0, locals := 13 })
theorem pn4 : plainName "com/example/accrue/accrue/BitWriter" = true := by first | (simp [plainName, overriddenIn]; done) | decide +kernel
theorem pd4 : parseMethodDescriptor "(JI)V" = some ⟨[.long, .int], none⟩ := by decide +kernel
def k4b : OM := (prog_3_method_2_code, 4, "com/example/accrue/accrue/BitWriter", "write", none, { frames := 2, cells := 0, slots := 0, locals := 28 })
set_option maxRecDepth 65536 in
set_option maxHeartbeats 4000000 in
theorem L_wr {Z : State} {ω : OW} {γ : OG} (h0 : Heap) (a w : Addr) (bits : Int64) (cnt : Int32) (tot : Int) (ga : ω.2.1 ≤ a) (gw : ω.2.1 ≤ w) (ne : a ≠ w) (htot : tot < 512) (d : Nat) : ∀ {T : State} {h : Heap} (X : oSt Z ω γ k4 T h 0 0) (len pc : Int32) (pd : Int64) (f : Nat → Int32) (F0 : BW Z h a (.ref w) (.int len) (.long pd) (.int pc)) (A0 : oA Z h w .byte 64 (fun i => .int (f i))) (K0 : Keep h0 h [a, w]) (h1 : 0 ≤ len.toInt) (h2 : 0 ≤ pc.toInt) (h3 : pc.toInt < 64) (ht : 8 * len.toInt + pc.toInt = tot) (hd_ : pc.toInt.toNat = d),
    oWP ω γ k4 (fun v h' => v = none ∧ Keep h0 h' [a, w] ∧ ∃ (len' pc' : Int32) (pd' : Int64) (f' : Nat → Int32), BW Z h' a (.ref w) (.int len') (.long pd') (.int pc') ∧ oA Z h' w .byte 64 (fun i => .int (f' i)) ∧ 0 ≤ len'.toInt ∧ 0 ≤ pc'.toInt ∧ pc'.toInt < 8 ∧ 8 * len'.toInt + pc'.toInt = tot) T 54 #[.val (.ref a), .val (.long bits), .second, .val (.int cnt)] [] := by
  induction d using Nat.strongRecOn with
  | _ d ih =>
    intro T h X len pc pd f F0 A0 K0 h1 h2 h3 ht hd_
    refine ow_aloadN X 55 d4_54 rfl rfl rfl ?_
    refine ow_getF X 58 22 rfl rfl F0.2.2.2.2 d4_55 rfl ?_
    intro T16 X16
    refine ow_bipush X16 60 (8 : Int32) d4_58 rfl rfl ?_
    refine ow_icmp_lt X16 63 92 d4_60 rfl rfl (fun (c60 : pc.toInt < 8) => ?_) (fun (c60 : 8 ≤ pc.toInt) => ?_)
    · refine ow_aloadN X16 93 d4_92 rfl rfl rfl ?_
      refine ow_dup X16 94 d4_93 rfl rfl ?_
      refine ow_getF X16 97 29 rfl rfl F0.2.2.2.1 d4_94 rfl ?_
      intro T17 X17
      refine ow_lconst X17 98 (1 : Int64) d4_97 rfl rfl ?_
      refine ow_aloadN X17 99 d4_98 rfl rfl rfl ?_
      refine ow_getF X17 102 22 rfl rfl F0.2.2.2.2 d4_99 rfl ?_
      intro T18 X18
      refine ow_lshl X18 103 d4_102 rfl ?_
      refine ow_lconst X18 104 (1 : Int64) d4_103 rfl rfl ?_
      refine ow_lsub X18 105 d4_104 rfl ?_
      refine ow_land X18 106 d4_105 rfl ?_
      refine ow_putF X18 109 29 3 rfl rfl F0.2.2.2.1 F0.1 (Or.inl (oSt_at X18 30 rfl)) rfl (ty := .long) (by decide) rfl rfl ga d4_106 rfl ?_
      intro T19 h19 X19 W19
      have f20_0 : BW Z h19 a (.ref w) (.int len) (.long (pd &&& (((1 : Int64) <<< (pc &&& 0x3f).toInt64) - (1 : Int64)))) (.int pc) := BW.set_pending (oSt_w X19) F0 W19
      have f20_1 : oA Z h19 w .byte 64 (fun i => .int (f i)) := A0.other W19 (Ne.symm ne)
      have f20_2 : Keep h0 h19 [a, w] := K0.wr W19 (Or.inl (List.mem_of_getElem? (i := 0) rfl))
      refine ow_retV X19 rfl d4_109 (by decide) (by decide) ?_
      exact ⟨rfl, f20_2, _, _, _, _, f20_0, f20_1, h1, h2, by omega, ht⟩
    · refine ow_aloadN X16 64 d4_63 rfl rfl rfl ?_
      refine ow_dup X16 65 d4_64 rfl rfl ?_
      refine ow_getF X16 68 22 rfl rfl F0.2.2.2.2 d4_65 rfl ?_
      intro T21 X21
      refine ow_bipush X21 70 (8 : Int32) d4_68 rfl rfl ?_
      refine ow_isub X21 71 d4_70 rfl ?_
      refine ow_putF X21 74 22 3 rfl rfl F0.2.2.2.2 F0.1 (Or.inl (oSt_at X21 23 rfl)) rfl (ty := .int) (by decide) rfl rfl ga d4_71 rfl ?_
      intro T22 h22 X22 W22
      have f23_0 : BW Z h22 a (.ref w) (.int len) (.long pd) (.int (pc - (8 : Int32))) := BW.set_pendingCount (oSt_w X22) F0 W22
      have f23_1 : oA Z h22 w .byte 64 (fun i => .int (f i)) := A0.other W22 (Ne.symm ne)
      have f23_2 : Keep h0 h22 [a, w] := K0.wr W22 (Or.inl (List.mem_of_getElem? (i := 0) rfl))
      refine ow_aloadN X22 75 d4_74 rfl rfl rfl ?_
      refine ow_aloadN X22 76 d4_75 rfl rfl rfl ?_
      refine ow_getF X22 79 29 rfl rfl f23_0.2.2.2.1 d4_76 rfl ?_
      intro T24 X24
      refine ow_aloadN X24 80 d4_79 rfl rfl rfl ?_
      refine ow_getF X24 83 22 rfl rfl f23_0.2.2.2.2 d4_80 rfl ?_
      intro T25 X25
      refine ow_lushr X25 84 d4_83 rfl ?_
      refine ow_l2i X25 85 d4_84 rfl ?_
      refine ow_i2b X25 86 d4_85 rfl ?_
      refine ow_callP X25 89 37 38 39 4 40 3 (κ' := k6) (as := [.int ((((pd.toUInt64 >>> ((pc - (8 : Int32)) &&& 0x3f).toInt64.toUInt64).toInt64).toInt32).toInt8.toInt32)]) (S := []) (W := 0) rfl rfl rfl rfl rfl rfl rfl (by decide) f23_0.1 (C_app (oSt_w X25) (oSt_n0 X25) a w ((((pd.toUInt64 >>> ((pc - (8 : Int32)) &&& 0x3f).toInt64.toUInt64).toInt64).toInt32).toInt8.toInt32) len (pc - (8 : Int32)) pd f f23_0 f23_1 ga gw ne h1 (by omega)) (by decide) (by decide) (Nat.le_of_eq rfl) (by decide) (by decide) pd6 rfl rfl rfl d4_86 rfl ?_
      intro v26 T26 h26 X26 q26
      obtain ⟨rfl, K26, R26, f26, A26⟩ := q26
      have f27_2 : Keep h0 h26 [a, w] := f23_2.trans K26 (allS (Or.inl (List.mem_of_getElem? (i := 0) rfl)) (allS (Or.inl (List.mem_of_getElem? (i := 1) rfl)) all0))
      show oWP ω γ k4 _ T26 89 #[.val (.ref a), .val (.long bits), .second, .val (.int cnt)] []
      refine ow_goto X26 54 d4_89 rfl ?_
      have e1 := own_add1 len (by omega); have e2 := own_sub8 pc (by omega)
      exact ih _ (by omega) X26 _ _ _ _ R26 A26 f27_2 (by omega) (by omega) (by omega) (by omega) rfl
set_option maxRecDepth 65536 in
set_option maxHeartbeats 4000000 in
theorem C_wr32 {Z : State} {ω : OW} {h : Heap} (hw : ∀ d ∈ tables_1, d.before ω.2.2 Z = true) (hn : ω.2.1 ≤ h.size) (a w : Addr) (bits : Int64) (cnt len pc : Int32) (pd : Int64) (f : Nat → Int32) (F0 : BW Z h a (.ref w) (.int len) (.long pd) (.int pc)) (A0 : oA Z h w .byte 64 (fun i => .int (f i))) (ga : ω.2.1 ≤ a) (gw : ω.2.1 ≤ w) (ne : a ≠ w) (h1 : 0 ≤ len.toInt) (h2 : 0 ≤ pc.toInt) (h3 : pc.toInt < 8) (hc0 : 0 ≤ cnt.toInt) (hcap : 8 * len.toInt + pc.toInt + cnt.toInt < 512) (hc : cnt.toInt ≤ 32) :
    oC Z ω (⟨"com/example/accrue/accrue/BitWriter", "write", "(JI)V"⟩ : MethodName) k4 [] #[.ref a, .long bits, .int cnt] h (fun v h' => v = none ∧ Keep h h' [a, w] ∧ ∃ (len' pc' : Int32) (pd' : Int64) (f' : Nat → Int32), BW Z h' a (.ref w) (.int len') (.long pd') (.int pc') ∧ oA Z h' w .byte 64 (fun i => .int (f' i)) ∧ 0 ≤ len'.toInt ∧ 0 ≤ pc'.toInt ∧ pc'.toInt < 8 ∧ 8 * len'.toInt + pc'.toInt = 8 * len.toInt + pc.toInt + cnt.toInt) := by
  refine oC_of hw hn pn4 rfl rfl (L := #[.val (.ref a), .val (.long bits), .second, .val (.int cnt)]) (fun m => by first | rfl | (simp [entryFrame, mkF, argsToLocals, Value.category, k4]; done)) ?_
  intro γ T X
  refine ow_iloadN X 1 d4_0 rfl rfl ?_
  refine ow_bipush X 3 (32 : Int32) d4_1 rfl rfl ?_
  refine ow_icmp_le X 6 26 d4_3 rfl rfl (fun (c3 : cnt.toInt ≤ 32) => ?_) (fun (c3 : 32 < cnt.toInt) => by exfalso; omega)
  refine ow_aloadN X 27 d4_26 rfl rfl rfl ?_
  refine ow_aloadN X 28 d4_27 rfl rfl rfl ?_
  refine ow_getF X 31 29 rfl rfl F0.2.2.2.1 d4_28 rfl ?_
  intro T28 X28
  refine ow_iloadN X28 32 d4_31 rfl rfl ?_
  refine ow_lshl X28 33 d4_32 rfl ?_
  refine ow_lloadN X28 34 d4_33 rfl rfl ?_
  refine ow_lconst X28 35 (1 : Int64) d4_34 rfl rfl ?_
  refine ow_iloadN X28 36 d4_35 rfl rfl ?_
  refine ow_lshl X28 37 d4_36 rfl ?_
  refine ow_lconst X28 38 (1 : Int64) d4_37 rfl rfl ?_
  refine ow_lsub X28 39 d4_38 rfl ?_
  refine ow_land X28 40 d4_39 rfl ?_
  refine ow_lor X28 41 d4_40 rfl ?_
  refine ow_putF X28 44 29 3 rfl rfl F0.2.2.2.1 F0.1 (Or.inl (oSt_at X28 30 rfl)) rfl (ty := .long) (by decide) rfl rfl ga d4_41 rfl ?_
  intro T29 h29 X29 W29
  have f30_0 : BW Z h29 a (.ref w) (.int len) (.long ((pd <<< (cnt &&& 0x3f).toInt64) ||| (bits &&& (((1 : Int64) <<< (cnt &&& 0x3f).toInt64) - (1 : Int64))))) (.int pc) := BW.set_pending (oSt_w X29) F0 W29
  have f30_1 : oA Z h29 w .byte 64 (fun i => .int (f i)) := A0.other W29 (Ne.symm ne)
  have f30_2 : Keep h h29 [a, w] := (Keep.refl h [a, w]).wr W29 (Or.inl (List.mem_of_getElem? (i := 0) rfl))
  refine ow_aloadN X29 45 d4_44 rfl rfl rfl ?_
  refine ow_dup X29 46 d4_45 rfl rfl ?_
  refine ow_getF X29 49 22 rfl rfl f30_0.2.2.2.2 d4_46 rfl ?_
  intro T31 X31
  refine ow_iloadN X31 50 d4_49 rfl rfl ?_
  refine ow_iadd X31 51 d4_50 rfl ?_
  refine ow_putF X31 54 22 3 rfl rfl f30_0.2.2.2.2 f30_0.1 (Or.inl (oSt_at X31 23 rfl)) rfl (ty := .int) (by decide) rfl rfl ga d4_51 rfl ?_
  intro T32 h32 X32 W32
  have f33_0 : BW Z h32 a (.ref w) (.int len) (.long ((pd <<< (cnt &&& 0x3f).toInt64) ||| (bits &&& (((1 : Int64) <<< (cnt &&& 0x3f).toInt64) - (1 : Int64))))) (.int (pc + cnt)) := BW.set_pendingCount (oSt_w X32) f30_0 W32
  have f33_1 : oA Z h32 w .byte 64 (fun i => .int (f i)) := f30_1.other W32 (Ne.symm ne)
  have f33_2 : Keep h h32 [a, w] := f30_2.wr W32 (Or.inl (List.mem_of_getElem? (i := 0) rfl))
  have e1 := own_add pc cnt (by omega) (by omega)
  refine L_wr h a w bits cnt _ ga gw ne hcap _ X32 _ _ _ _ f33_0 f33_1 f33_2 h1 (by omega) (by omega) (by omega) rfl
set_option maxRecDepth 65536 in
set_option maxHeartbeats 4000000 in
theorem L_wrb {Z : State} {ω : OW} {γ : OG} (h0 : Heap) (a w : Addr) (bits : Int64) (cnt : Int32) (tot : Int) (ga : ω.2.1 ≤ a) (gw : ω.2.1 ≤ w) (ne : a ≠ w) (htot : tot < 512) (d : Nat) : ∀ {T : State} {h : Heap} (X : oSt Z ω γ k4b T h 0 0) (len pc : Int32) (pd : Int64) (f : Nat → Int32) (F0 : BW Z h a (.ref w) (.int len) (.long pd) (.int pc)) (A0 : oA Z h w .byte 64 (fun i => .int (f i))) (K0 : Keep h0 h [a, w]) (h1 : 0 ≤ len.toInt) (h2 : 0 ≤ pc.toInt) (h3 : pc.toInt < 64) (ht : 8 * len.toInt + pc.toInt = tot) (hd_ : pc.toInt.toNat = d),
    oWP ω γ k4b (fun v h' => v = none ∧ Keep h0 h' [a, w] ∧ ∃ (len' pc' : Int32) (pd' : Int64) (f' : Nat → Int32), BW Z h' a (.ref w) (.int len') (.long pd') (.int pc') ∧ oA Z h' w .byte 64 (fun i => .int (f' i)) ∧ 0 ≤ len'.toInt ∧ 0 ≤ pc'.toInt ∧ pc'.toInt < 8 ∧ 8 * len'.toInt + pc'.toInt = tot) T 54 #[.val (.ref a), .val (.long bits), .second, .val (.int cnt)] [] := by
  induction d using Nat.strongRecOn with
  | _ d ih =>
    intro T h X len pc pd f F0 A0 K0 h1 h2 h3 ht hd_
    refine ow_aloadN X 55 d4_54 rfl rfl rfl ?_
    refine ow_getF X 58 22 rfl rfl F0.2.2.2.2 d4_55 rfl ?_
    intro T34 X34
    refine ow_bipush X34 60 (8 : Int32) d4_58 rfl rfl ?_
    refine ow_icmp_lt X34 63 92 d4_60 rfl rfl (fun (c60 : pc.toInt < 8) => ?_) (fun (c60 : 8 ≤ pc.toInt) => ?_)
    · refine ow_aloadN X34 93 d4_92 rfl rfl rfl ?_
      refine ow_dup X34 94 d4_93 rfl rfl ?_
      refine ow_getF X34 97 29 rfl rfl F0.2.2.2.1 d4_94 rfl ?_
      intro T35 X35
      refine ow_lconst X35 98 (1 : Int64) d4_97 rfl rfl ?_
      refine ow_aloadN X35 99 d4_98 rfl rfl rfl ?_
      refine ow_getF X35 102 22 rfl rfl F0.2.2.2.2 d4_99 rfl ?_
      intro T36 X36
      refine ow_lshl X36 103 d4_102 rfl ?_
      refine ow_lconst X36 104 (1 : Int64) d4_103 rfl rfl ?_
      refine ow_lsub X36 105 d4_104 rfl ?_
      refine ow_land X36 106 d4_105 rfl ?_
      refine ow_putF X36 109 29 3 rfl rfl F0.2.2.2.1 F0.1 (Or.inl (oSt_at X36 30 rfl)) rfl (ty := .long) (by decide) rfl rfl ga d4_106 rfl ?_
      intro T37 h37 X37 W37
      have f38_0 : BW Z h37 a (.ref w) (.int len) (.long (pd &&& (((1 : Int64) <<< (pc &&& 0x3f).toInt64) - (1 : Int64)))) (.int pc) := BW.set_pending (oSt_w X37) F0 W37
      have f38_1 : oA Z h37 w .byte 64 (fun i => .int (f i)) := A0.other W37 (Ne.symm ne)
      have f38_2 : Keep h0 h37 [a, w] := K0.wr W37 (Or.inl (List.mem_of_getElem? (i := 0) rfl))
      refine ow_retV X37 rfl d4_109 (by decide) (by decide) ?_
      exact ⟨rfl, f38_2, _, _, _, _, f38_0, f38_1, h1, h2, by omega, ht⟩
    · refine ow_aloadN X34 64 d4_63 rfl rfl rfl ?_
      refine ow_dup X34 65 d4_64 rfl rfl ?_
      refine ow_getF X34 68 22 rfl rfl F0.2.2.2.2 d4_65 rfl ?_
      intro T39 X39
      refine ow_bipush X39 70 (8 : Int32) d4_68 rfl rfl ?_
      refine ow_isub X39 71 d4_70 rfl ?_
      refine ow_putF X39 74 22 3 rfl rfl F0.2.2.2.2 F0.1 (Or.inl (oSt_at X39 23 rfl)) rfl (ty := .int) (by decide) rfl rfl ga d4_71 rfl ?_
      intro T40 h40 X40 W40
      have f41_0 : BW Z h40 a (.ref w) (.int len) (.long pd) (.int (pc - (8 : Int32))) := BW.set_pendingCount (oSt_w X40) F0 W40
      have f41_1 : oA Z h40 w .byte 64 (fun i => .int (f i)) := A0.other W40 (Ne.symm ne)
      have f41_2 : Keep h0 h40 [a, w] := K0.wr W40 (Or.inl (List.mem_of_getElem? (i := 0) rfl))
      refine ow_aloadN X40 75 d4_74 rfl rfl rfl ?_
      refine ow_aloadN X40 76 d4_75 rfl rfl rfl ?_
      refine ow_getF X40 79 29 rfl rfl f41_0.2.2.2.1 d4_76 rfl ?_
      intro T42 X42
      refine ow_aloadN X42 80 d4_79 rfl rfl rfl ?_
      refine ow_getF X42 83 22 rfl rfl f41_0.2.2.2.2 d4_80 rfl ?_
      intro T43 X43
      refine ow_lushr X43 84 d4_83 rfl ?_
      refine ow_l2i X43 85 d4_84 rfl ?_
      refine ow_i2b X43 86 d4_85 rfl ?_
      refine ow_callP X43 89 37 38 39 4 40 3 (κ' := k6) (as := [.int ((((pd.toUInt64 >>> ((pc - (8 : Int32)) &&& 0x3f).toInt64.toUInt64).toInt64).toInt32).toInt8.toInt32)]) (S := []) (W := 0) rfl rfl rfl rfl rfl rfl rfl (by decide) f41_0.1 (C_app (oSt_w X43) (oSt_n0 X43) a w ((((pd.toUInt64 >>> ((pc - (8 : Int32)) &&& 0x3f).toInt64.toUInt64).toInt64).toInt32).toInt8.toInt32) len (pc - (8 : Int32)) pd f f41_0 f41_1 ga gw ne h1 (by omega)) (by decide) (by decide) (Nat.le_of_eq rfl) (by decide) (by decide) pd6 rfl rfl rfl d4_86 rfl ?_
      intro v44 T44 h44 X44 q44
      obtain ⟨rfl, K44, R44, f44, A44⟩ := q44
      have f45_2 : Keep h0 h44 [a, w] := f41_2.trans K44 (allS (Or.inl (List.mem_of_getElem? (i := 0) rfl)) (allS (Or.inl (List.mem_of_getElem? (i := 1) rfl)) all0))
      show oWP ω γ k4b _ T44 89 #[.val (.ref a), .val (.long bits), .second, .val (.int cnt)] []
      refine ow_goto X44 54 d4_89 rfl ?_
      have e1 := own_add1 len (by omega); have e2 := own_sub8 pc (by omega)
      exact ih _ (by omega) X44 _ _ _ _ R44 A44 f45_2 (by omega) (by omega) (by omega) (by omega) rfl
set_option maxRecDepth 65536 in
set_option maxHeartbeats 4000000 in
theorem C_wr {Z : State} {ω : OW} {h : Heap} (hw : ∀ d ∈ tables_1, d.before ω.2.2 Z = true) (hn : ω.2.1 ≤ h.size) (a w : Addr) (bits : Int64) (cnt len pc : Int32) (pd : Int64) (f : Nat → Int32) (F0 : BW Z h a (.ref w) (.int len) (.long pd) (.int pc)) (A0 : oA Z h w .byte 64 (fun i => .int (f i))) (ga : ω.2.1 ≤ a) (gw : ω.2.1 ≤ w) (ne : a ≠ w) (h1 : 0 ≤ len.toInt) (h2 : 0 ≤ pc.toInt) (h3 : pc.toInt < 8) (hc0 : 0 ≤ cnt.toInt) (hcap : 8 * len.toInt + pc.toInt + cnt.toInt < 512) (hc : cnt.toInt ≤ 64) :
    oC Z ω (⟨"com/example/accrue/accrue/BitWriter", "write", "(JI)V"⟩ : MethodName) k4b [] #[.ref a, .long bits, .int cnt] h (fun v h' => v = none ∧ Keep h h' [a, w] ∧ ∃ (len' pc' : Int32) (pd' : Int64) (f' : Nat → Int32), BW Z h' a (.ref w) (.int len') (.long pd') (.int pc') ∧ oA Z h' w .byte 64 (fun i => .int (f' i)) ∧ 0 ≤ len'.toInt ∧ 0 ≤ pc'.toInt ∧ pc'.toInt < 8 ∧ 8 * len'.toInt + pc'.toInt = 8 * len.toInt + pc.toInt + cnt.toInt) := by
  refine oC_of hw hn pn4 rfl rfl (L := #[.val (.ref a), .val (.long bits), .second, .val (.int cnt)]) (fun m => by first | rfl | (simp [entryFrame, mkF, argsToLocals, Value.category, k4b]; done)) ?_
  intro γ T X
  refine ow_iloadN X 1 d4_0 rfl rfl ?_
  refine ow_bipush X 3 (32 : Int32) d4_1 rfl rfl ?_
  refine ow_icmp_le X 6 26 d4_3 rfl rfl (fun (c3 : cnt.toInt ≤ 32) => ?_) (fun (c3 : 32 < cnt.toInt) => ?_)
  · refine ow_aloadN X 27 d4_26 rfl rfl rfl ?_
    refine ow_aloadN X 28 d4_27 rfl rfl rfl ?_
    refine ow_getF X 31 29 rfl rfl F0.2.2.2.1 d4_28 rfl ?_
    intro T46 X46
    refine ow_iloadN X46 32 d4_31 rfl rfl ?_
    refine ow_lshl X46 33 d4_32 rfl ?_
    refine ow_lloadN X46 34 d4_33 rfl rfl ?_
    refine ow_lconst X46 35 (1 : Int64) d4_34 rfl rfl ?_
    refine ow_iloadN X46 36 d4_35 rfl rfl ?_
    refine ow_lshl X46 37 d4_36 rfl ?_
    refine ow_lconst X46 38 (1 : Int64) d4_37 rfl rfl ?_
    refine ow_lsub X46 39 d4_38 rfl ?_
    refine ow_land X46 40 d4_39 rfl ?_
    refine ow_lor X46 41 d4_40 rfl ?_
    refine ow_putF X46 44 29 3 rfl rfl F0.2.2.2.1 F0.1 (Or.inl (oSt_at X46 30 rfl)) rfl (ty := .long) (by decide) rfl rfl ga d4_41 rfl ?_
    intro T47 h47 X47 W47
    have f48_0 : BW Z h47 a (.ref w) (.int len) (.long ((pd <<< (cnt &&& 0x3f).toInt64) ||| (bits &&& (((1 : Int64) <<< (cnt &&& 0x3f).toInt64) - (1 : Int64))))) (.int pc) := BW.set_pending (oSt_w X47) F0 W47
    have f48_1 : oA Z h47 w .byte 64 (fun i => .int (f i)) := A0.other W47 (Ne.symm ne)
    have f48_2 : Keep h h47 [a, w] := (Keep.refl h [a, w]).wr W47 (Or.inl (List.mem_of_getElem? (i := 0) rfl))
    refine ow_aloadN X47 45 d4_44 rfl rfl rfl ?_
    refine ow_dup X47 46 d4_45 rfl rfl ?_
    refine ow_getF X47 49 22 rfl rfl f48_0.2.2.2.2 d4_46 rfl ?_
    intro T49 X49
    refine ow_iloadN X49 50 d4_49 rfl rfl ?_
    refine ow_iadd X49 51 d4_50 rfl ?_
    refine ow_putF X49 54 22 3 rfl rfl f48_0.2.2.2.2 f48_0.1 (Or.inl (oSt_at X49 23 rfl)) rfl (ty := .int) (by decide) rfl rfl ga d4_51 rfl ?_
    intro T50 h50 X50 W50
    have f51_0 : BW Z h50 a (.ref w) (.int len) (.long ((pd <<< (cnt &&& 0x3f).toInt64) ||| (bits &&& (((1 : Int64) <<< (cnt &&& 0x3f).toInt64) - (1 : Int64))))) (.int (pc + cnt)) := BW.set_pendingCount (oSt_w X50) f48_0 W50
    have f51_1 : oA Z h50 w .byte 64 (fun i => .int (f i)) := f48_1.other W50 (Ne.symm ne)
    have f51_2 : Keep h h50 [a, w] := f48_2.wr W50 (Or.inl (List.mem_of_getElem? (i := 0) rfl))
    have e1 := own_add pc cnt (by omega) (by omega)
    refine L_wrb h a w bits cnt _ ga gw ne hcap _ X50 _ _ _ _ f51_0 f51_1 f51_2 h1 (by omega) (by omega) (by omega) rfl
  · refine ow_aloadN X 7 d4_6 rfl rfl rfl ?_
    refine ow_lloadN X 8 d4_7 rfl rfl ?_
    refine ow_bipush X 10 (32 : Int32) d4_8 rfl rfl ?_
    refine ow_lushr X 11 d4_10 rfl ?_
    refine ow_iloadN X 12 d4_11 rfl rfl ?_
    refine ow_bipush X 14 (32 : Int32) d4_12 rfl rfl ?_
    refine ow_isub X 15 d4_14 rfl ?_
    have e0 := own_sub32 cnt (by omega)
    refine ow_callV X 18 36 25 27 26 28 4 (κ' := k4) (as := [.long ((bits.toUInt64 >>> ((32 : Int32) &&& 0x3f).toInt64.toUInt64).toInt64), .int (cnt - (32 : Int32))]) (S := []) (W := 0) rfl rfl rfl rfl rfl rfl rfl (by decide) F0.1 (C_wr32 (oSt_w X) (oSt_n0 X) a w ((bits.toUInt64 >>> ((32 : Int32) &&& 0x3f).toInt64.toUInt64).toInt64) (cnt - (32 : Int32)) len pc pd f F0 A0 ga gw ne h1 h2 h3 (by omega) (by omega) (by omega)) (by decide) (by decide) (Nat.le_of_eq rfl) (by decide) (by decide) pd4 rfl rfl rfl d4_15 rfl ?_
    intro v52 T52 h52 X52 q52
    obtain ⟨rfl, K52, l52, c52, p52, f52, R52, A52, z52_1, z52_2, z52_3, z52_4⟩ := q52
    have f53_2 : Keep h h52 [a, w] := (Keep.refl h [a, w]).trans K52 (allS (Or.inl (List.mem_of_getElem? (i := 0) rfl)) (allS (Or.inl (List.mem_of_getElem? (i := 1) rfl)) all0))
    show oWP ω γ k4b _ T52 18 #[.val (.ref a), .val (.long bits), .second, .val (.int cnt)] []
    refine ow_aloadN X52 19 d4_18 rfl rfl rfl ?_
    refine ow_lloadN X52 20 d4_19 rfl rfl ?_
    refine ow_bipush X52 22 (32 : Int32) d4_20 rfl rfl ?_
    refine ow_callV X52 25 36 25 27 26 28 4 (κ' := k4) (as := [.long bits, .int (32 : Int32)]) (S := []) (W := 0) rfl rfl rfl rfl rfl rfl rfl (by decide) R52.1 (C_wr32 (oSt_w X52) (oSt_n0 X52) a w bits (32 : Int32) l52 c52 p52 f52 R52 A52 ga gw ne z52_1 z52_2 z52_3 (by decide) (by have e : (32 : Int32).toInt = 32 := rfl; omega) (by decide)) (by decide) (by decide) (Nat.le_of_eq rfl) (by decide) (by decide) pd4 rfl rfl rfl d4_22 rfl ?_
    intro v54 T54 h54 X54 q54
    obtain ⟨rfl, K54, l54, c54, p54, f54, R54, A54, z54_1, z54_2, z54_3, z54_4⟩ := q54
    have f55_0 : Keep h h54 [a, w] := f53_2.trans K54 (allS (Or.inl (List.mem_of_getElem? (i := 0) rfl)) (allS (Or.inl (List.mem_of_getElem? (i := 1) rfl)) all0))
    show oWP ω γ k4b _ T54 25 #[.val (.ref a), .val (.long bits), .second, .val (.int cnt)] []
    refine ow_retV X54 rfl d4_25 (by decide) (by decide) ?_
    exact ⟨rfl, f55_0, _, _, _, _, R54, A54, z54_1, z54_2, z54_3, by have e : (32 : Int32).toInt = 32 := rfl; omega⟩
theorem d5_0 : decode prog_3_method_3_code 0 = .ok (.aload_n 0, 1) := by decide +kernel
theorem d5_1 : decode prog_3_method_3_code 1 = .ok (.iload_n 1, 1) := by decide +kernel
theorem d5_2 : decode prog_3_method_3_code 2 = .ok (.ifCond .eq 7, 3) := by decide +kernel
theorem d5_5 : decode prog_3_method_3_code 5 = .ok (.lconst 1, 1) := by decide +kernel
theorem d5_6 : decode prog_3_method_3_code 6 = .ok (.goto 4, 3) := by decide +kernel
theorem d5_9 : decode prog_3_method_3_code 9 = .ok (.lconst 0, 1) := by decide +kernel
theorem d5_10 : decode prog_3_method_3_code 10 = .ok (.iconst 1, 1) := by decide +kernel
theorem d5_11 : decode prog_3_method_3_code 11 = .ok (.invokevirtual 15, 3) := by decide +kernel
theorem d5_14 : decode prog_3_method_3_code 14 = .ok (.return_, 1) := by decide +kernel
def k5 : OM := (prog_3_method_3_code, 2, "com/example/accrue/accrue/BitWriter", "writeBit", none, { frames := 2, cells := 0, slots := 0, locals := 28 })
theorem pn5 : plainName "com/example/accrue/accrue/BitWriter" = true := by first | (simp [plainName, overriddenIn]; done) | decide +kernel
theorem pd5 : parseMethodDescriptor "(Z)V" = some ⟨[.boolean], none⟩ := by decide +kernel
set_option maxRecDepth 65536 in
set_option maxHeartbeats 4000000 in
theorem C_bit {Z : State} {ω : OW} {h : Heap} (hw : ∀ d ∈ tables_1, d.before ω.2.2 Z = true) (hn : ω.2.1 ≤ h.size) (a w : Addr) (bt len pc : Int32) (pd : Int64) (f : Nat → Int32) (F0 : BW Z h a (.ref w) (.int len) (.long pd) (.int pc)) (A0 : oA Z h w .byte 64 (fun i => .int (f i))) (ga : ω.2.1 ≤ a) (gw : ω.2.1 ≤ w) (ne : a ≠ w) (h1 : 0 ≤ len.toInt) (h2 : 0 ≤ pc.toInt) (h3 : pc.toInt < 8) (hcap : 8 * len.toInt + pc.toInt + 1 < 512) :
    oC Z ω (⟨"com/example/accrue/accrue/BitWriter", "writeBit", "(Z)V"⟩ : MethodName) k5 [] #[.ref a, .int bt] h (fun v h' => v = none ∧ Keep h h' [a, w] ∧ ∃ (len' pc' : Int32) (pd' : Int64) (f' : Nat → Int32), BW Z h' a (.ref w) (.int len') (.long pd') (.int pc') ∧ oA Z h' w .byte 64 (fun i => .int (f' i)) ∧ 0 ≤ len'.toInt ∧ 0 ≤ pc'.toInt ∧ pc'.toInt < 8 ∧ 8 * len'.toInt + pc'.toInt = 8 * len.toInt + pc.toInt + 1) := by
  refine oC_of hw hn pn5 rfl rfl (L := #[.val (.ref a), .val (.int bt)]) (fun m => by first | rfl | (simp [entryFrame, mkF, argsToLocals, Value.category, k5]; done)) ?_
  intro γ T X
  refine ow_aloadN X 1 d5_0 rfl rfl rfl ?_
  refine ow_iloadN X 2 d5_1 rfl rfl ?_
  refine ow_if_eq X 5 9 d5_2 rfl rfl (fun (c2 : bt.toInt = 0) => ?_) (fun (c2 : bt.toInt ≠ 0) => ?_)
  · refine ow_lconst X 10 (0 : Int64) d5_9 rfl rfl ?_
    refine ow_iconst X 11 (1 : Int32) d5_10 rfl rfl ?_
    refine ow_callV X 14 36 25 27 26 28 4 (κ' := k4) (as := [.long (0 : Int64), .int (1 : Int32)]) (S := []) (W := 0) rfl rfl rfl rfl rfl rfl rfl (by decide) F0.1 (C_wr32 (oSt_w X) (oSt_n0 X) a w (0 : Int64) (1 : Int32) len pc pd f F0 A0 ga gw ne h1 h2 h3 (by decide) (by have e : (1 : Int32).toInt = 1 := rfl; omega) (by decide)) (by decide) (by decide) (Nat.le_of_eq rfl) (by decide) (by decide) pd4 rfl rfl rfl d5_11 rfl ?_
    intro v56 T56 h56 X56 q56
    obtain ⟨rfl, K56, l1, c1, p1, f1, R56, A56, z1, z2, z3, z4⟩ := q56
    have f57_2 : Keep h h56 [a, w] := (Keep.refl h [a, w]).trans K56 (allS (Or.inl (List.mem_of_getElem? (i := 0) rfl)) (allS (Or.inl (List.mem_of_getElem? (i := 1) rfl)) all0))
    show oWP ω γ k5 _ T56 14 #[.val (.ref a), .val (.int bt)] []
    refine ow_retV X56 rfl d5_14 (by decide) (by decide) ?_
    exact ⟨rfl, f57_2, _, _, _, _, R56, A56, z1, z2, z3, by have e : (1 : Int32).toInt = 1 := rfl; omega⟩
  · refine ow_lconst X 6 (1 : Int64) d5_5 rfl rfl ?_
    refine ow_goto X 10 d5_6 rfl ?_
    refine ow_iconst X 11 (1 : Int32) d5_10 rfl rfl ?_
    refine ow_callV X 14 36 25 27 26 28 4 (κ' := k4) (as := [.long (1 : Int64), .int (1 : Int32)]) (S := []) (W := 0) rfl rfl rfl rfl rfl rfl rfl (by decide) F0.1 (C_wr32 (oSt_w X) (oSt_n0 X) a w (1 : Int64) (1 : Int32) len pc pd f F0 A0 ga gw ne h1 h2 h3 (by decide) (by have e : (1 : Int32).toInt = 1 := rfl; omega) (by decide)) (by decide) (by decide) (Nat.le_of_eq rfl) (by decide) (by decide) pd4 rfl rfl rfl d5_11 rfl ?_
    intro v58 T58 h58 X58 q58
    obtain ⟨rfl, K58, l1, c1, p1, f1, R58, A58, z1, z2, z3, z4⟩ := q58
    have f59_2 : Keep h h58 [a, w] := (Keep.refl h [a, w]).trans K58 (allS (Or.inl (List.mem_of_getElem? (i := 0) rfl)) (allS (Or.inl (List.mem_of_getElem? (i := 1) rfl)) all0))
    show oWP ω γ k5 _ T58 14 #[.val (.ref a), .val (.int bt)] []
    refine ow_retV X58 rfl d5_14 (by decide) (by decide) ?_
    exact ⟨rfl, f59_2, _, _, _, _, R58, A58, z1, z2, z3, by have e : (1 : Int32).toInt = 1 := rfl; omega⟩
def k0 : OM := (code, maxLocals, "com/example/accrue/accrue/BitWriterBitLengthPinLaw", "law", ret, room_1)
theorem pn0 : plainName "com/example/accrue/accrue/BitWriterBitLengthPinLaw" = true := by first | (simp [plainName, overriddenIn]; done) | decide +kernel
theorem pd0 : parseMethodDescriptor "(JJIIII)Z" = some ⟨[.long, .long, .int, .int, .int, .int], (some .boolean)⟩ := by decide +kernel
set_option maxRecDepth 65536 in
set_option maxHeartbeats 4000000 in
theorem B44 {Z : State} {ω : OW} {γ : OG} {T : State} {h : Heap} (X : oSt Z ω γ k0 T h 0 0) (a b : Int64) (ca cb cc fl n1 n2 n3 bt : Int32) (hn1 : 0 ≤ n1.toInt ∧ n1.toInt < 65) (hn2 : 0 ≤ n2.toInt ∧ n2.toInt < 65) (hn3 : 0 ≤ n3.toInt ∧ n3.toInt < 65) :
    oWP ω γ k0 (fun v _ => v = some (.int 1)) T 44 #[.val (.long a), .second, .val (.long b), .second, .val (.int ca), .val (.int cb), .val (.int cc), .val (.int fl), .val (.int n1), .val (.int n2), .val (.int n3), .val (.int bt), .unset, .unset, .unset, .unset] [] := by
  have q2 := own_add n1 n2 (by omega) (by omega)
  have q3 := own_add (n1 + n2) n3 (by omega) (by omega)
  have q4 := own_add1 (n1 + n2 + n3) (by omega)
  have u1 := c_i2l n1; have u2 := c_i2l (n1 + n2); have u3 := c_i2l (n1 + n2 + n3); have u4 := c_i2l (n1 + n2 + n3 + (1 : Int32))
  refine ow_iload X 46 at_44 rfl rfl ?_
  refine ow_i2l X 47 at_46 rfl ?_
  refine ow_ldc2J X 50 1 rfl rfl at_47 rfl ?_
  refine ow_lmul X 51 at_50 rfl ?_
  refine ow_lloadN X 52 at_51 rfl rfl ?_
  refine ow_ladd X 53 at_52 rfl ?_
  refine ow_lstore X 55 (L' := #[.val (.long a), .second, .val (.long b), .second, .val (.int ca), .val (.int cb), .val (.int cc), .val (.int fl), .val (.int n1), .val (.int n2), .val (.int n3), .val (.int bt), .val (.long ((fl.toInt64 * (31 : Int64)) + a)), .second, .unset, .unset]) at_53 rfl rfl ?_
  refine ow_new X 58 2 3 4 rfl rfl rfl rfl at_55 rfl (by decide) (by decide) ?_
  intro T60 h60 a60 q60 X60 E60 A60 D60 g60
  have R60 : BW Z h60 a60 .null (.int 0) (.long 0) (.int 0) := ⟨A60, D60 (Or.inl (oSt_at X60 13 rfl)) (ty := (.array .byte)) (by decide), D60 (Or.inl (oSt_at X60 20 rfl)) (ty := .int) (by decide), D60 (Or.inl (oSt_at X60 30 rfl)) (ty := .long) (by decide), D60 (Or.inl (oSt_at X60 23 rfl)) (ty := .int) (by decide)⟩
  refine ow_dup X60 59 at_58 rfl rfl ?_
  refine ow_callC X60 62 5 6 4 7 (κ' := k1) (as := []) (S := [.ref a60]) (W := 1) rfl rfl rfl rfl rfl rfl rfl (by decide) (C_init (oSt_w X60) (oSt_n0 X60) a60 R60 g60) (by decide) (by decide) (Nat.le_of_eq rfl) (by decide) (by decide) pd1 rfl rfl rfl at_59 rfl ?_
  intro v62 T62 h62 X62 q62
  obtain ⟨rfl, w, K62, ne, gw, R62, A62⟩ := q62
  have y0_1 : 0 ≤ (0 : Int32).toInt := by decide
  have y0_3 : (0 : Int32).toInt < 8 := by decide
  have y0_4 : 8 * (0 : Int32).toInt + (0 : Int32).toInt = 0 := by decide
  show oWP ω γ k0 _ T62 62 #[.val (.long a), .second, .val (.long b), .second, .val (.int ca), .val (.int cb), .val (.int cc), .val (.int fl), .val (.int n1), .val (.int n2), .val (.int n3), .val (.int bt), .val (.long ((fl.toInt64 * (31 : Int64)) + a)), .second, .unset, .unset] [.ref a60]
  refine ow_astore X62 64 (L' := #[.val (.long a), .second, .val (.long b), .second, .val (.int ca), .val (.int cb), .val (.int cc), .val (.int fl), .val (.int n1), .val (.int n2), .val (.int n3), .val (.int bt), .val (.long ((fl.toInt64 * (31 : Int64)) + a)), .second, .val (.ref a60), .unset]) at_62 rfl rfl rfl ?_
  refine ow_aload X62 66 at_64 rfl rfl rfl ?_
  refine ow_callV X62 69 14 15 17 16 18 4 (κ' := k3) (as := []) (S := []) (W := 0) rfl rfl rfl rfl rfl rfl rfl (by decide) R62.1 (C_len (oSt_w X62) (oSt_n0 X62) a60 0 0 _ _ R62 y0_1 (by omega) y0_1 (by omega)) (by decide) (by decide) (Nat.le_of_eq rfl) (by decide) (by decide) pd3 rfl rfl rfl at_66 rfl ?_
  intro v64 T64 h64 X64 q64
  obtain ⟨r64, rfl, rfl, er64⟩ := q64
  show oWP ω γ k0 _ T64 69 #[.val (.long a), .second, .val (.long b), .second, .val (.int ca), .val (.int cb), .val (.int cc), .val (.int fl), .val (.int n1), .val (.int n2), .val (.int n3), .val (.int bt), .val (.long ((fl.toInt64 * (31 : Int64)) + a)), .second, .val (.ref a60), .unset] [.long r64]
  refine ow_lconst X64 70 (0 : Int64) at_69 rfl rfl ?_
  refine ow_lcmp_ne X64 71 74 78 at_70 rfl at_71 rfl rfl (fun (c70 : r64.toInt ≠ 0) => by exfalso; first | omega | (exact absurd c70 (by decide))) (fun (c70 : r64.toInt = 0) => ?_)
  refine ow_iconst X64 75 (1 : Int32) at_74 rfl rfl ?_
  refine ow_goto X64 79 at_75 rfl ?_
  refine ow_istore X64 81 (L' := #[.val (.long a), .second, .val (.long b), .second, .val (.int ca), .val (.int cb), .val (.int cc), .val (.int fl), .val (.int n1), .val (.int n2), .val (.int n3), .val (.int bt), .val (.long ((fl.toInt64 * (31 : Int64)) + a)), .second, .val (.ref a60), .val (.int (1 : Int32))]) at_79 rfl rfl ?_
  refine ow_aload X64 83 at_81 rfl rfl rfl ?_
  refine ow_lloadN X64 84 at_83 rfl rfl ?_
  refine ow_iload X64 86 at_84 rfl rfl ?_
  refine ow_callV X64 89 24 25 27 26 28 4 (κ' := k4b) (as := [.long a, .int n1]) (S := []) (W := 0) rfl rfl rfl rfl rfl rfl rfl (by decide) R62.1 (C_wr (oSt_w X64) (oSt_n0 X64) a60 w a n1 0 0 0 oZI R62 A62 g60 gw ne y0_1 y0_1 y0_3 hn1.1 (by omega) (by omega)) (by decide) (by decide) (Nat.le_of_eq rfl) (by decide) (by decide) pd4 rfl rfl rfl at_86 rfl ?_
  intro v65 T65 h65 X65 q65
  obtain ⟨rfl, K65, l65, c65, p65, f65, R65, A65, y65_1, y65_2, y65_3, y65_4⟩ := q65
  show oWP ω γ k0 _ T65 89 #[.val (.long a), .second, .val (.long b), .second, .val (.int ca), .val (.int cb), .val (.int cc), .val (.int fl), .val (.int n1), .val (.int n2), .val (.int n3), .val (.int bt), .val (.long ((fl.toInt64 * (31 : Int64)) + a)), .second, .val (.ref a60), .val (.int (1 : Int32))] []
  refine ow_iload X65 91 at_89 rfl rfl ?_
  refine ow_if_eq X65 94 110 at_91 rfl rfl (fun (c91 : 1 = 0) => by exfalso; first | omega | (exact absurd c91 (by decide))) (fun (c91 : 1 ≠ 0) => ?_)
  refine ow_aload X65 96 at_94 rfl rfl rfl ?_
  refine ow_callV X65 99 14 15 17 16 18 4 (κ' := k3) (as := []) (S := []) (W := 0) rfl rfl rfl rfl rfl rfl rfl (by decide) R65.1 (C_len (oSt_w X65) (oSt_n0 X65) a60 l65 c65 _ _ R65 y65_1 (by omega) y65_2 (by omega)) (by decide) (by decide) (Nat.le_of_eq rfl) (by decide) (by decide) pd3 rfl rfl rfl at_96 rfl ?_
  intro v67 T67 h67 X67 q67
  obtain ⟨r67, rfl, rfl, er67⟩ := q67
  show oWP ω γ k0 _ T67 99 #[.val (.long a), .second, .val (.long b), .second, .val (.int ca), .val (.int cb), .val (.int cc), .val (.int fl), .val (.int n1), .val (.int n2), .val (.int n3), .val (.int bt), .val (.long ((fl.toInt64 * (31 : Int64)) + a)), .second, .val (.ref a60), .val (.int (1 : Int32))] [.long r67]
  refine ow_iload X67 101 at_99 rfl rfl ?_
  refine ow_i2l X67 102 at_101 rfl ?_
  refine ow_lcmp_ne X67 103 106 110 at_102 rfl at_103 rfl rfl (fun (c102 : r67.toInt ≠ n1.toInt64.toInt) => by exfalso; first | omega | (exact absurd c102 (by decide))) (fun (c102 : r67.toInt = n1.toInt64.toInt) => ?_)
  refine ow_iconst X67 107 (1 : Int32) at_106 rfl rfl ?_
  refine ow_goto X67 111 at_107 rfl ?_
  refine ow_istore X67 113 (L' := #[.val (.long a), .second, .val (.long b), .second, .val (.int ca), .val (.int cb), .val (.int cc), .val (.int fl), .val (.int n1), .val (.int n2), .val (.int n3), .val (.int bt), .val (.long ((fl.toInt64 * (31 : Int64)) + a)), .second, .val (.ref a60), .val (.int (1 : Int32))]) at_111 rfl rfl ?_
  refine ow_aload X67 115 at_113 rfl rfl rfl ?_
  refine ow_lloadN X67 116 at_115 rfl rfl ?_
  refine ow_iload X67 118 at_116 rfl rfl ?_
  refine ow_callV X67 121 24 25 27 26 28 4 (κ' := k4b) (as := [.long b, .int n2]) (S := []) (W := 0) rfl rfl rfl rfl rfl rfl rfl (by decide) R65.1 (C_wr (oSt_w X67) (oSt_n0 X67) a60 w b n2 l65 c65 p65 f65 R65 A65 g60 gw ne y65_1 y65_2 y65_3 hn2.1 (by omega) (by omega)) (by decide) (by decide) (Nat.le_of_eq rfl) (by decide) (by decide) pd4 rfl rfl rfl at_118 rfl ?_
  intro v68 T68 h68 X68 q68
  obtain ⟨rfl, K68, l68, c68, p68, f68, R68, A68, y68_1, y68_2, y68_3, y68_4⟩ := q68
  show oWP ω γ k0 _ T68 121 #[.val (.long a), .second, .val (.long b), .second, .val (.int ca), .val (.int cb), .val (.int cc), .val (.int fl), .val (.int n1), .val (.int n2), .val (.int n3), .val (.int bt), .val (.long ((fl.toInt64 * (31 : Int64)) + a)), .second, .val (.ref a60), .val (.int (1 : Int32))] []
  refine ow_iload X68 123 at_121 rfl rfl ?_
  refine ow_if_eq X68 126 145 at_123 rfl rfl (fun (c123 : 1 = 0) => by exfalso; first | omega | (exact absurd c123 (by decide))) (fun (c123 : 1 ≠ 0) => ?_)
  refine ow_aload X68 128 at_126 rfl rfl rfl ?_
  refine ow_callV X68 131 14 15 17 16 18 4 (κ' := k3) (as := []) (S := []) (W := 0) rfl rfl rfl rfl rfl rfl rfl (by decide) R68.1 (C_len (oSt_w X68) (oSt_n0 X68) a60 l68 c68 _ _ R68 y68_1 (by omega) y68_2 (by omega)) (by decide) (by decide) (Nat.le_of_eq rfl) (by decide) (by decide) pd3 rfl rfl rfl at_128 rfl ?_
  intro v70 T70 h70 X70 q70
  obtain ⟨r70, rfl, rfl, er70⟩ := q70
  show oWP ω γ k0 _ T70 131 #[.val (.long a), .second, .val (.long b), .second, .val (.int ca), .val (.int cb), .val (.int cc), .val (.int fl), .val (.int n1), .val (.int n2), .val (.int n3), .val (.int bt), .val (.long ((fl.toInt64 * (31 : Int64)) + a)), .second, .val (.ref a60), .val (.int (1 : Int32))] [.long r70]
  refine ow_iload X70 133 at_131 rfl rfl ?_
  refine ow_iload X70 135 at_133 rfl rfl ?_
  refine ow_iadd X70 136 at_135 rfl ?_
  refine ow_i2l X70 137 at_136 rfl ?_
  refine ow_lcmp_ne X70 138 141 145 at_137 rfl at_138 rfl rfl (fun (c137 : r70.toInt ≠ ((n1 + n2).toInt64).toInt) => by exfalso; first | omega | (exact absurd c137 (by decide))) (fun (c137 : r70.toInt = ((n1 + n2).toInt64).toInt) => ?_)
  refine ow_iconst X70 142 (1 : Int32) at_141 rfl rfl ?_
  refine ow_goto X70 146 at_142 rfl ?_
  refine ow_istore X70 148 (L' := #[.val (.long a), .second, .val (.long b), .second, .val (.int ca), .val (.int cb), .val (.int cc), .val (.int fl), .val (.int n1), .val (.int n2), .val (.int n3), .val (.int bt), .val (.long ((fl.toInt64 * (31 : Int64)) + a)), .second, .val (.ref a60), .val (.int (1 : Int32))]) at_146 rfl rfl ?_
  refine ow_aload X70 150 at_148 rfl rfl rfl ?_
  refine ow_lload X70 152 at_150 rfl rfl ?_
  refine ow_iload X70 154 at_152 rfl rfl ?_
  refine ow_callV X70 157 24 25 27 26 28 4 (κ' := k4b) (as := [.long ((fl.toInt64 * (31 : Int64)) + a), .int n3]) (S := []) (W := 0) rfl rfl rfl rfl rfl rfl rfl (by decide) R68.1 (C_wr (oSt_w X70) (oSt_n0 X70) a60 w ((fl.toInt64 * (31 : Int64)) + a) n3 l68 c68 p68 f68 R68 A68 g60 gw ne y68_1 y68_2 y68_3 hn3.1 (by omega) (by omega)) (by decide) (by decide) (Nat.le_of_eq rfl) (by decide) (by decide) pd4 rfl rfl rfl at_154 rfl ?_
  intro v71 T71 h71 X71 q71
  obtain ⟨rfl, K71, l71, c71, p71, f71, R71, A71, y71_1, y71_2, y71_3, y71_4⟩ := q71
  show oWP ω γ k0 _ T71 157 #[.val (.long a), .second, .val (.long b), .second, .val (.int ca), .val (.int cb), .val (.int cc), .val (.int fl), .val (.int n1), .val (.int n2), .val (.int n3), .val (.int bt), .val (.long ((fl.toInt64 * (31 : Int64)) + a)), .second, .val (.ref a60), .val (.int (1 : Int32))] []
  refine ow_iload X71 159 at_157 rfl rfl ?_
  refine ow_if_eq X71 162 184 at_159 rfl rfl (fun (c159 : 1 = 0) => by exfalso; first | omega | (exact absurd c159 (by decide))) (fun (c159 : 1 ≠ 0) => ?_)
  refine ow_aload X71 164 at_162 rfl rfl rfl ?_
  refine ow_callV X71 167 14 15 17 16 18 4 (κ' := k3) (as := []) (S := []) (W := 0) rfl rfl rfl rfl rfl rfl rfl (by decide) R71.1 (C_len (oSt_w X71) (oSt_n0 X71) a60 l71 c71 _ _ R71 y71_1 (by omega) y71_2 (by omega)) (by decide) (by decide) (Nat.le_of_eq rfl) (by decide) (by decide) pd3 rfl rfl rfl at_164 rfl ?_
  intro v73 T73 h73 X73 q73
  obtain ⟨r73, rfl, rfl, er73⟩ := q73
  show oWP ω γ k0 _ T73 167 #[.val (.long a), .second, .val (.long b), .second, .val (.int ca), .val (.int cb), .val (.int cc), .val (.int fl), .val (.int n1), .val (.int n2), .val (.int n3), .val (.int bt), .val (.long ((fl.toInt64 * (31 : Int64)) + a)), .second, .val (.ref a60), .val (.int (1 : Int32))] [.long r73]
  refine ow_iload X73 169 at_167 rfl rfl ?_
  refine ow_iload X73 171 at_169 rfl rfl ?_
  refine ow_iadd X73 172 at_171 rfl ?_
  refine ow_iload X73 174 at_172 rfl rfl ?_
  refine ow_iadd X73 175 at_174 rfl ?_
  refine ow_i2l X73 176 at_175 rfl ?_
  refine ow_lcmp_ne X73 177 180 184 at_176 rfl at_177 rfl rfl (fun (c176 : r73.toInt ≠ (((n1 + n2) + n3).toInt64).toInt) => by exfalso; first | omega | (exact absurd c176 (by decide))) (fun (c176 : r73.toInt = (((n1 + n2) + n3).toInt64).toInt) => ?_)
  refine ow_iconst X73 181 (1 : Int32) at_180 rfl rfl ?_
  refine ow_goto X73 185 at_181 rfl ?_
  refine ow_istore X73 187 (L' := #[.val (.long a), .second, .val (.long b), .second, .val (.int ca), .val (.int cb), .val (.int cc), .val (.int fl), .val (.int n1), .val (.int n2), .val (.int n3), .val (.int bt), .val (.long ((fl.toInt64 * (31 : Int64)) + a)), .second, .val (.ref a60), .val (.int (1 : Int32))]) at_185 rfl rfl ?_
  refine ow_aload X73 189 at_187 rfl rfl rfl ?_
  refine ow_iload X73 191 at_189 rfl rfl ?_
  refine ow_callV X73 194 31 32 34 33 35 4 (κ' := k5) (as := [.int bt]) (S := []) (W := 0) rfl rfl rfl rfl rfl rfl rfl (by decide) R71.1 (C_bit (oSt_w X73) (oSt_n0 X73) a60 w bt l71 c71 p71 f71 R71 A71 g60 gw ne y71_1 y71_2 y71_3 (by omega)) (by decide) (by decide) (Nat.le_of_eq rfl) (by decide) (by decide) pd5 rfl rfl rfl at_191 rfl ?_
  intro v74 T74 h74 X74 q74
  obtain ⟨rfl, K74, l74, c74, p74, f74, R74, A74, y74_1, y74_2, y74_3, y74_4⟩ := q74
  show oWP ω γ k0 _ T74 194 #[.val (.long a), .second, .val (.long b), .second, .val (.int ca), .val (.int cb), .val (.int cc), .val (.int fl), .val (.int n1), .val (.int n2), .val (.int n3), .val (.int bt), .val (.long ((fl.toInt64 * (31 : Int64)) + a)), .second, .val (.ref a60), .val (.int (1 : Int32))] []
  refine ow_iload X74 196 at_194 rfl rfl ?_
  refine ow_if_eq X74 199 223 at_196 rfl rfl (fun (c196 : 1 = 0) => by exfalso; first | omega | (exact absurd c196 (by decide))) (fun (c196 : 1 ≠ 0) => ?_)
  refine ow_aload X74 201 at_199 rfl rfl rfl ?_
  refine ow_callV X74 204 14 15 17 16 18 4 (κ' := k3) (as := []) (S := []) (W := 0) rfl rfl rfl rfl rfl rfl rfl (by decide) R74.1 (C_len (oSt_w X74) (oSt_n0 X74) a60 l74 c74 _ _ R74 y74_1 (by omega) y74_2 (by omega)) (by decide) (by decide) (Nat.le_of_eq rfl) (by decide) (by decide) pd3 rfl rfl rfl at_201 rfl ?_
  intro v76 T76 h76 X76 q76
  obtain ⟨r76, rfl, rfl, er76⟩ := q76
  show oWP ω γ k0 _ T76 204 #[.val (.long a), .second, .val (.long b), .second, .val (.int ca), .val (.int cb), .val (.int cc), .val (.int fl), .val (.int n1), .val (.int n2), .val (.int n3), .val (.int bt), .val (.long ((fl.toInt64 * (31 : Int64)) + a)), .second, .val (.ref a60), .val (.int (1 : Int32))] [.long r76]
  refine ow_iload X76 206 at_204 rfl rfl ?_
  refine ow_iload X76 208 at_206 rfl rfl ?_
  refine ow_iadd X76 209 at_208 rfl ?_
  refine ow_iload X76 211 at_209 rfl rfl ?_
  refine ow_iadd X76 212 at_211 rfl ?_
  refine ow_iconst X76 213 (1 : Int32) at_212 rfl rfl ?_
  refine ow_iadd X76 214 at_213 rfl ?_
  refine ow_i2l X76 215 at_214 rfl ?_
  refine ow_lcmp_ne X76 216 219 223 at_215 rfl at_216 rfl rfl (fun (c215 : r76.toInt ≠ ((((n1 + n2) + n3) + (1 : Int32)).toInt64).toInt) => by exfalso; first | omega | (exact absurd c215 (by decide))) (fun (c215 : r76.toInt = ((((n1 + n2) + n3) + (1 : Int32)).toInt64).toInt) => ?_)
  refine ow_iconst X76 220 (1 : Int32) at_219 rfl rfl ?_
  refine ow_goto X76 224 at_220 rfl ?_
  refine ow_istore X76 226 (L' := #[.val (.long a), .second, .val (.long b), .second, .val (.int ca), .val (.int cb), .val (.int cc), .val (.int fl), .val (.int n1), .val (.int n2), .val (.int n3), .val (.int bt), .val (.long ((fl.toInt64 * (31 : Int64)) + a)), .second, .val (.ref a60), .val (.int (1 : Int32))]) at_224 rfl rfl ?_
  refine ow_iload X76 228 at_226 rfl rfl ?_
  refine ow_retZ X76 rfl at_228 (by decide) (by decide) (by decide) ?_
  rfl
set_option maxRecDepth 65536 in
set_option maxHeartbeats 4000000 in
theorem C_law {Z : State} {ω : OW} {h : Heap} (hw : ∀ d ∈ tables_1, d.before ω.2.2 Z = true) (hn : ω.2.1 ≤ h.size) (a b : Int64) (ca cb cc fl : Int32) :
    oC Z ω x k0 tables_1 #[.long a, .long b, .int ca, .int cb, .int cc, .int fl] h (fun v _ => v = some (.int 1)) := by
  refine oC_of hw hn pn0 rfl rfl (L := #[.val (.long a), .second, .val (.long b), .second, .val (.int ca), .val (.int cb), .val (.int cc), .val (.int fl), .unset, .unset, .unset, .unset, .unset, .unset, .unset, .unset]) (fun m => by first | rfl | (simp [entryFrame, mkF, argsToLocals, Value.category, k0, maxLocals]; done)) ?_
  intro γ T X
  refine ow_iload X 2 at_0 rfl rfl ?_
  refine ow_ldcI X 4 0 rfl rfl at_2 rfl ?_
  refine ow_iand X 5 at_4 rfl ?_
  refine ow_bipush X 7 (65 : Int32) at_5 rfl rfl ?_
  refine ow_irem X 8 at_7 rfl (by decide) ?_
  refine ow_istore X 10 (L' := #[.val (.long a), .second, .val (.long b), .second, .val (.int ca), .val (.int cb), .val (.int cc), .val (.int fl), .val (.int ((ca &&& (2147483647 : Int32)) % (65 : Int32))), .unset, .unset, .unset, .unset, .unset, .unset, .unset]) at_8 rfl rfl ?_
  have hn1 := own_n ca
  generalize (ca &&& (2147483647 : Int32)) % (65 : Int32) = n1 at hn1 ⊢
  refine ow_iload X 12 at_10 rfl rfl ?_
  refine ow_ldcI X 14 0 rfl rfl at_12 rfl ?_
  refine ow_iand X 15 at_14 rfl ?_
  refine ow_bipush X 17 (65 : Int32) at_15 rfl rfl ?_
  refine ow_irem X 18 at_17 rfl (by decide) ?_
  refine ow_istore X 20 (L' := #[.val (.long a), .second, .val (.long b), .second, .val (.int ca), .val (.int cb), .val (.int cc), .val (.int fl), .val (.int n1), .val (.int ((cb &&& (2147483647 : Int32)) % (65 : Int32))), .unset, .unset, .unset, .unset, .unset, .unset]) at_18 rfl rfl ?_
  have hn2 := own_n cb
  generalize (cb &&& (2147483647 : Int32)) % (65 : Int32) = n2 at hn2 ⊢
  refine ow_iload X 22 at_20 rfl rfl ?_
  refine ow_ldcI X 24 0 rfl rfl at_22 rfl ?_
  refine ow_iand X 25 at_24 rfl ?_
  refine ow_bipush X 27 (65 : Int32) at_25 rfl rfl ?_
  refine ow_irem X 28 at_27 rfl (by decide) ?_
  refine ow_istore X 30 (L' := #[.val (.long a), .second, .val (.long b), .second, .val (.int ca), .val (.int cb), .val (.int cc), .val (.int fl), .val (.int n1), .val (.int n2), .val (.int ((cc &&& (2147483647 : Int32)) % (65 : Int32))), .unset, .unset, .unset, .unset, .unset]) at_28 rfl rfl ?_
  have hn3 := own_n cc
  generalize (cc &&& (2147483647 : Int32)) % (65 : Int32) = n3 at hn3 ⊢
  refine ow_iload X 32 at_30 rfl rfl ?_
  refine ow_iconst X 33 (1 : Int32) at_32 rfl rfl ?_
  refine ow_iand X 34 at_33 rfl ?_
  refine ow_if_eq X 37 41 at_34 rfl rfl (fun (c34 : (fl &&& (1 : Int32)).toInt = 0) => ?_) (fun (c34 : (fl &&& (1 : Int32)).toInt ≠ 0) => ?_)
  · refine ow_iconst X 42 (0 : Int32) at_41 rfl rfl ?_
    refine ow_istore X 44 (L' := #[.val (.long a), .second, .val (.long b), .second, .val (.int ca), .val (.int cb), .val (.int cc), .val (.int fl), .val (.int n1), .val (.int n2), .val (.int n3), .val (.int (0 : Int32)), .unset, .unset, .unset, .unset]) at_42 rfl rfl ?_
    exact B44 X a b ca cb cc fl n1 n2 n3 _ hn1 hn2 hn3
  · refine ow_iconst X 38 (1 : Int32) at_37 rfl rfl ?_
    refine ow_goto X 42 at_38 rfl ?_
    refine ow_istore X 44 (L' := #[.val (.long a), .second, .val (.long b), .second, .val (.int ca), .val (.int cb), .val (.int cc), .val (.int fl), .val (.int n1), .val (.int n2), .val (.int n3), .val (.int (1 : Int32)), .unset, .unset, .unset, .unset]) at_42 rfl rfl ?_
    exact B44 X a b ca cb cc fl n1 n2 n3 _ hn1 hn2 hn3
set_option maxRecDepth 65536 in
set_option maxHeartbeats 4000000 in
theorem comes_1 {Post : Tables → Env → Array Value → State → Outcome → State → Prop} (hpost : ∀ tb e args s v u, (limb_1_1.after args s (.returned v) u = true ∧ limb_1_2.after args s (.returned v) u = true ∧ True) → FrameEnd s (.returned v) u (Jvm.fieldLocs frame_1_writes args s ++ Jvm.arrayLocs frame_1_arrays args s ++ Jvm.staticLocs frame_1_statics s) 16 256 → Post tb e args s (.returned v) u) :
    ArmFor flags0 classFile x code maxLocals ret World_1 tables_1 room_1 Calls_1 rest_1 Pre_1 Post := by
  intro l hfl _ _ p e ha hc hk s m args below hf hA hF happ hP
  obtain ⟨hcalls, hrest, hpre⟩ := hP
  obtain ⟨-, -, -, hnamed, -, -, -, hat⟩ := (Spec.applies_iff hf).mp happ
  obtain ⟨hg, hn⟩ := and_e (Cond.before_iff.mp (show (Jvm.Cond.and given_1 narrow_1).before args s = true from hpre))
  obtain ⟨hcount, hg0⟩ := and_e hg
  obtain ⟨ha0, hg1⟩ := and_e hg0
  obtain ⟨ha1, hg2⟩ := and_e hg1
  obtain ⟨ha2, hg3⟩ := and_e hg2
  obtain ⟨ha3, hg4⟩ := and_e hg3
  obtain ⟨ha4, hg5⟩ := and_e hg4
  have ha5 := hg5
  obtain ⟨w0, w1, w2, w3, w4, w5, rfl⟩ : ∃ w0 w1 w2 w3 w4 w5 : Value, args = #[w0, w1, w2, w3, w4, w5] := by
    have hs : args.size = 6 := by simpa [Cond.value, given_1] using hcount
    obtain ⟨L⟩ := args
    match L, hs with
    | [w0, w1, w2, w3, w4, w5], _ => exact ⟨w0, w1, w2, w3, w4, w5, rfl⟩
  have hw := fun d (hd : d ∈ tables_1) => atoms_spec (ws := Jvm.Cond.code x code maxLocals ret :: tables_1) hat d (List.mem_cons_of_mem _ hd)
  have hfit : Fit s := fun {y c} hc i hi => by
    obtain ⟨ha, rfl⟩ := Array.getElem?_eq_some_iff.mp hc
    have q := List.all_eq_true.mp ((Array.all_eq_true_iff_forall_mem.mp hF) _ (Array.getElem_mem ha)) i (List.mem_range.mpr hi)
    simpa [Array.getElem?_eq_getElem hi] using q
  obtain ⟨i0, e0⟩ := isL_v ha0
  obtain rfl : w0 = (.long i0) := Option.some.inj e0
  obtain ⟨i1, e1⟩ := isL_v ha1
  obtain rfl : w1 = (.long i1) := Option.some.inj e1
  obtain ⟨i2, e2⟩ := is_v ha2
  obtain rfl : w2 = (.int i2) := Option.some.inj e2
  obtain ⟨i3, e3⟩ := is_v ha3
  obtain rfl : w3 = (.int i3) := Option.some.inj e3
  obtain ⟨i4, e4⟩ := is_v ha4
  obtain rfl : w4 = (.int i4) := Option.some.inj e4
  obtain ⟨i5, e5⟩ := is_v ha5
  obtain rfl : w5 = (.int i5) := Option.some.inj e5
  obtain ⟨n, o, h1, h2, h3, _, L, rfl, ⟨N, rfl⟩, hq⟩ := C_law (Z := s) (ω := (l, s.heap.size, _)) hw (Nat.le_refl _) i0 i1 i2 i3 i4 i5 p e ha hc hk s m _ below hf ((Spec.applies_iff_loose hf).mp happ).1 ⟨rfl, State.Warmed39.refl s, rfl⟩ trivial
  refine ⟨n, _, h1, h2, h3, hpost _ _ _ _ _ _ ⟨Cond.after_iff.mpr rfl, Cond.after_iff.mpr (eq_i res_at (Term.int_eval (1)) rfl), trivial⟩ ⟨hq.1, hq.2.1, (hq.2.2.sift fun y hy => Or.inr (N y hy)).mono (by decide) (by decide)⟩⟩
theorem main_1_1 : Claimed_1_1 := comes_1 fun _ _ _ _ _ _ h hF => ⟨h.1, hF⟩
theorem main_1_2 : Claimed_1_2 := comes_1 fun _ _ _ _ _ _ h hF => ⟨h.2.1, hF⟩
end Jvm.Pilot.@@N@@
namespace Jvm.Pilot.@@N@@
open Jvm Jvm.ClassFile Sem Op Lib Jvm.Free Jvm.Stand Jvm.Pilot.@@N@@.Jvm.D
/-! MADE BY PROGRAM (witnessworld.py) out of the Statement's table words and the real class files: 9 classes; the members and pool entries that the words name. The judged class is class 1, her method 1. -/
namespace start1
open Jvm.ClassFile
def u (s : String) : CpInfo := .utf8 (stringToUtf16 s)
/-- a pool by its gaps: so many unusable entries, then the entry; so many at the end -/
def gap : Nat → List CpInfo → List CpInfo
  | 0, r => r
  | n + 1, r => .unusable :: gap n r
def poolList (es : List (Nat × CpInfo)) (last : Nat) : List CpInfo := es.foldr (fun e r => gap e.1 (e.2 :: r)) (gap last [])
def pool (es : List (Nat × CpInfo)) (last : Nat) : Array CpInfo := ⟨poolList es last⟩
def fileOf (pool : Array CpInfo) (this : Nat) (attrs : Array Attribute := #[]) (ms : Array MethodInfo := #[]) (fl : Nat := 33) (sup : Nat := 0) (ifs : Array Nat := #[]) (fds : Array FieldInfo := #[]) : ClassFile where
  minorVersion := 0
  majorVersion := 65
  constantPool := pool
  accessFlags := fl
  thisClass := this
  superClass := sup
  interfaces := ifs
  fields := fds
  methods := ms
  attributes := attrs
def plain (name : String) (sup : Option ClassId) : Class where
  name := name
  kind := .ordinary
  loader := none
  accessFlags := 33
  super := sup
  interfaces := #[]
  cf := none
  fields := #[]
  methods := #[]
  instanceTypes := #[]
  staticTypes := #[]
  resolved := #[]
  callSites := []
  init := .initialized
  statics := none
  mirror := none

def pool0 : Array CpInfo := pool [(5, u "<init>"), (0, u "()V"), (1, .class_ 10), (1, u "java/lang/Object")] 113

def k0c0 : Code := { maxStack := 0, maxLocals := 1, code := object_method_1_code, exceptionTable := #[], attributes := #[] }
def k0m0 : Method := { name := "<init>", desc := "()V", sig := { parameters := [], returnType := none }, accessFlags := 1, code := some k0c0 }
/-- java/lang/Object -/
def k0 : Class := { plain "java/lang/Object" none with
  accessFlags := 33
  interfaces := #[]
  cf := some (fileOf pool0 8 #[] #[{ accessFlags := 1, nameIndex := 5, descriptorIndex := 6, attributes := #[] }] 33 0 #[] #[])
  fields := #[]
  methods := #[k0m0]
  instanceTypes := #[]
  staticTypes := #[]
  resolved := Array.replicate 124 none
  statics := none }

def pool1 : Array CpInfo := pool [(2, .class_ 4), (0, .nameAndType 5 6), (0, u "java/lang/Object"), (0, u "<init>"), (0, u "()V"), (0, .integer 2147483647), (0, .long 31), (1, .class_ 11), (0, u "com/example/accrue/accrue/BitWriter"), (0, .methodref 10 3), (0, .methodref 10 14), (0, .nameAndType 15 16), (0, u "bitLength"), (0, u "()J"), (0, .methodref 10 18), (0, .nameAndType 19 20), (0, u "write"), (0, u "(JI)V"), (0, .methodref 10 22), (0, .nameAndType 23 24), (0, u "writeBit"), (0, u "(Z)V"), (0, .class_ 26), (0, u "com/example/accrue/accrue/BitWriterBitLengthPinLaw"), (2, u "law"), (0, u "(JJIIII)Z")] 3

def k1m0 : Method := { name := "<init>", desc := "()V", sig := { parameters := [], returnType := none }, accessFlags := 1, code := none }
def k1c1 : Code := { maxStack := 4, maxLocals := 16, code := code, exceptionTable := #[], attributes := #[] }
def k1m1 : Method := { name := "law", desc := "(JJIIII)Z", sig := { parameters := [.long, .long, .int, .int, .int, .int], returnType := some .boolean }, accessFlags := 9, code := some k1c1 }
/-- com/example/accrue/accrue/BitWriterBitLengthPinLaw -/
def k1 : Class := { plain "com/example/accrue/accrue/BitWriterBitLengthPinLaw" (some 0) with
  accessFlags := 49
  interfaces := #[]
  cf := some (fileOf pool1 25 #[] #[{ accessFlags := 1, nameIndex := 5, descriptorIndex := 6, attributes := #[] }, { accessFlags := 9, nameIndex := 29, descriptorIndex := 30, attributes := #[] }] 49 2 #[] #[])
  fields := #[]
  methods := #[k1m0, k1m1]
  instanceTypes := #[]
  staticTypes := #[]
  resolved := Array.replicate 34 none
  statics := none }

def pool2 : Array CpInfo := pool [(1, .methodref 2 3), (0, .class_ 4), (0, .nameAndType 5 6), (0, u "java/lang/Object"), (0, u "<init>"), (0, u "()V"), (0, .fieldref 8 9), (0, .class_ 10), (0, .nameAndType 11 12), (0, u "com/example/accrue/accrue/BitWriter"), (0, u "bytes"), (0, u "[B"), (2, .methodref 8 16), (0, .nameAndType 17 18), (0, u "write"), (0, u "(JI)V"), (0, .fieldref 8 20), (0, .nameAndType 21 22), (0, u "pending"), (0, u "J"), (0, .fieldref 8 24), (0, .nameAndType 25 26), (0, u "pendingCount"), (0, u "I"), (2, .methodref 8 30), (0, .nameAndType 31 32), (0, u "append"), (0, u "(B)V"), (31, .fieldref 8 65), (0, .nameAndType 66 26), (0, u "length"), (0, .long 8), (11, u "RICE_ESCAPE"), (5, u "writeBit"), (0, u "(Z)V"), (3, u "bitLength"), (0, u "()J")] 7

def k2c0 : Code := { maxStack := 2, maxLocals := 1, code := prog_3_method_1_code, exceptionTable := #[], attributes := #[] }
def k2m0 : Method := { name := "<init>", desc := "()V", sig := { parameters := [], returnType := none }, accessFlags := 0, code := some k2c0 }
def k2c1 : Code := { maxStack := 9, maxLocals := 4, code := prog_3_method_2_code, exceptionTable := #[], attributes := #[] }
def k2m1 : Method := { name := "write", desc := "(JI)V", sig := { parameters := [.long, .int], returnType := none }, accessFlags := 0, code := some k2c1 }
def k2c2 : Code := { maxStack := 4, maxLocals := 2, code := prog_3_method_3_code, exceptionTable := #[], attributes := #[] }
def k2m2 : Method := { name := "writeBit", desc := "(Z)V", sig := { parameters := [.boolean], returnType := none }, accessFlags := 0, code := some k2c2 }
def k2c3 : Code := { maxStack := 4, maxLocals := 1, code := prog_3_method_9_code, exceptionTable := #[], attributes := #[] }
def k2m3 : Method := { name := "bitLength", desc := "()J", sig := { parameters := [], returnType := some .long }, accessFlags := 0, code := some k2c3 }
def k2c4 : Code := { maxStack := 5, maxLocals := 2, code := prog_3_method_12_code, exceptionTable := #[], attributes := #[] }
def k2m4 : Method := { name := "append", desc := "(B)V", sig := { parameters := [.byte], returnType := none }, accessFlags := 2, code := some k2c4 }
/-- com/example/accrue/accrue/BitWriter -/
def k2 : Class := { plain "com/example/accrue/accrue/BitWriter" (some 0) with
  accessFlags := 48
  interfaces := #[]
  cf := some (fileOf pool2 8 #[] #[{ accessFlags := 0, nameIndex := 5, descriptorIndex := 6, attributes := #[] }, { accessFlags := 0, nameIndex := 17, descriptorIndex := 18, attributes := #[] }, { accessFlags := 0, nameIndex := 85, descriptorIndex := 86, attributes := #[] }, { accessFlags := 0, nameIndex := 90, descriptorIndex := 91, attributes := #[] }, { accessFlags := 2, nameIndex := 31, descriptorIndex := 32, attributes := #[] }] 48 2 #[] #[{ accessFlags := 24, nameIndex := 79, descriptorIndex := 26, attributes := #[] }, { accessFlags := 2, nameIndex := 11, descriptorIndex := 12, attributes := #[] }, { accessFlags := 2, nameIndex := 66, descriptorIndex := 26, attributes := #[] }, { accessFlags := 2, nameIndex := 21, descriptorIndex := 22, attributes := #[] }, { accessFlags := 2, nameIndex := 25, descriptorIndex := 26, attributes := #[] }])
  fields := #[{ name := "RICE_ESCAPE", type := .int, accessFlags := 24, slot := 0, constantValue := 0 }, { name := "bytes", type := (.array .byte), accessFlags := 2, slot := 0, constantValue := 0 }, { name := "length", type := .int, accessFlags := 2, slot := 1, constantValue := 0 }, { name := "pending", type := .long, accessFlags := 2, slot := 2, constantValue := 0 }, { name := "pendingCount", type := .int, accessFlags := 2, slot := 3, constantValue := 0 }]
  methods := #[k2m0, k2m1, k2m2, k2m3, k2m4]
  instanceTypes := #[(.array .byte), .int, .long, .int]
  staticTypes := #[.int]
  resolved := Array.replicate 99 none
  statics := none }

def pool3 : Array CpInfo := pool [(1, u "java/lang/Cloneable"), (0, .class_ 1), (0, u "java/lang/Object"), (0, .class_ 3)] 3

/-- java/lang/Cloneable -/
def k3 : Class := { plain "java/lang/Cloneable" (some 0) with
  accessFlags := 1537
  interfaces := #[]
  cf := some (fileOf pool3 2 #[] #[] 1537 4 #[] #[])
  fields := #[]
  methods := #[]
  instanceTypes := #[]
  staticTypes := #[]
  resolved := Array.replicate 8 none
  statics := none }

def pool4 : Array CpInfo := pool [(1, u "java/io/Serializable"), (0, .class_ 1), (0, u "java/lang/Object"), (0, .class_ 3)] 3

/-- java/io/Serializable -/
def k4 : Class := { plain "java/io/Serializable" (some 0) with
  accessFlags := 1537
  interfaces := #[]
  cf := some (fileOf pool4 2 #[] #[] 1537 4 #[] #[])
  fields := #[]
  methods := #[]
  instanceTypes := #[]
  staticTypes := #[]
  resolved := Array.replicate 8 none
  statics := none }

/-- the primitive byte -/
def k5 : Class := { plain "byte" none with kind := .primitive 'B', accessFlags := 0x411 }
/-- [B -/
def k6 : Class := { plain "[B" (some 0) with kind := .array 5 .byte, interfaces := #[3, 4], accessFlags := 1041 }

/-- the primitive int -/
def k7 : Class := { plain "int" none with kind := .primitive 'I', accessFlags := 0x411 }
/-- [I -/
def k8 : Class := { plain "[I" (some 0) with kind := .array 7 .int, interfaces := #[3, 4], accessFlags := 1041 }

def heap : Heap := #[]
def classes : Array Class := #[k0, k1, k2, k3, k4, k5, k6, k7, k8]
def interned : List (Array UInt16 × Addr) := []
def slotsUsed : Nat := 0
def theMethod : MethodId := ⟨1, 1⟩
def args0 : Array Value := #[.long 5, .long 9, .int 3, .int 1, .int 7, .int 1]
def aboutOver (below : List Frame) : State where
  vm := { classes := classes, interned := interned.toArray }
  heap := heap
  slotsUsed := slotsUsed
  threads := #[{ frames := .invoking theMethod args0 :: below }]
def below0 : List Frame := [.native { method := ⟨0, 0⟩, args := #[] }]
def about1 : State := aboutOver below0
def p0 : Program := .bare "" "" ""
def e0 : Env := launch0.env 0 0 0
theorem w_frames : about1.frames = Frame.invoking theMethod args0 :: below0 := rfl
set_option maxRecDepth 65536 in
theorem w_args : argsFit about1.vm theMethod args0 = true := by decide +kernel
set_option maxRecDepth 65536 in
theorem w_heap : heapFits about1 = true := by decide +kernel
set_option maxRecDepth 65536 in
theorem w_runnable : about1.curStatus? = some .runnable := by decide +kernel
set_option maxRecDepth 65536 in
theorem w_alone : about1.alone = true := by decide +kernel
set_option maxRecDepth 65536 in
theorem w_named : about1.methodNamed? x = some theMethod := by decide +kernel
set_option maxRecDepth 65536 in
theorem w_hears : about1.hears theMethod below0 = true := by decide +kernel
set_option maxRecDepth 65536 in
theorem w_ripe : about1.ripe theMethod args0 below0 = true := by decide +kernel
theorem w_running : about1.status = .running := rfl
set_option maxRecDepth 65536 in
theorem w_room : about1.hasRoom e0.platform room_1 = true :=
  launch0.hasRoom_least _ room_1 (by decide +kernel) (by decide +kernel) (by decide +kernel) (by decide +kernel) (by decide +kernel) (by decide +kernel)
theorem allAtoms_all (ts : List Jvm.Cond) (a : Array Jvm.Value) (st : Jvm.State) : (allAtoms ts).before a st = ts.all (fun c => c.before a st) := by
  induction ts with
  | nil => rfl
  | cons c t ih =>
    show (Jvm.Cond.and c (allAtoms t)).before a st = _
    rw [Jvm.Cond.before_and, ih, List.all_cons]
def words1 : List Jvm.Cond := Jvm.Cond.code x code maxLocals ret :: tables_1
/-- a 'code' word, met by the world's own term for the bytes: nothing is compared byte by byte -/
theorem code_word {y : MethodName} {bytes : ByteArray} {mx : Nat} {rt : Option FieldType} {a : Array Value} {s : State} {m : MethodId} {meth : Method} {c : Code} (h1 : s.methodNamed? y = some m) (h2 : s.vm.method? m = some meth) (h3 : meth.code = some c) (h4 : c.code = bytes)
    (h5 : (c.maxLocals == mx && c.exceptionTable.isEmpty && decide (c.maxStack ≤ mostOperands) && decide (meth.sig.returnType = rt) && !meth.locks && decide (parseMethodDescriptor y.desc = some meth.sig)) = true) : (Jvm.Cond.code y bytes mx rt).before a s = true := by
  simp only [Bool.and_eq_true, beq_iff_eq, Bool.not_eq_true', decide_eq_true_eq] at h5
  obtain ⟨⟨⟨⟨⟨g1, g2⟩, g3⟩, g4⟩, g5⟩, g6⟩ := h5
  simp [Cond.before, Cond.holds, Cond.value, h1, h2, h3, h4, g1, g2, g3, g4, g5, g6]
def isCode : Jvm.Cond → Bool
  | .code _ _ _ _ => true
  | _ => false
theorem all_split {L : List Jvm.Cond} {P : Jvm.Cond → Bool} (h1 : L.all (fun c => isCode c || P c) = true) (h2 : ∀ c ∈ L.filter isCode, P c = true) : L.all P = true := by
  refine List.all_eq_true.mpr fun c hc => ?_
  have h := List.all_eq_true.mp h1 c hc
  rcases Bool.eq_false_or_eq_true (isCode c) with hi | hi
  · exact h2 c (List.mem_filter.mpr ⟨hc, hi⟩)
  · simpa [hi] using h
set_option maxRecDepth 65536 in
theorem w_c0 : (Jvm.Cond.code x code maxLocals ret).before args0 about1 = true := code_word (m := ⟨1, 1⟩) (meth := k1m1) (c := k1c1) (by decide +kernel) rfl rfl rfl (by decide +kernel)
set_option maxRecDepth 65536 in
theorem w_c1 : (Jvm.Cond.code ({ cls := "com/example/accrue/accrue/BitWriter", name := "<init>", desc := "()V" } : Jvm.MethodName) prog_3_method_1_code (1 : Nat) (Option.none : Option Jvm.ClassFile.FieldType)).before args0 about1 = true := code_word (m := ⟨2, 0⟩) (meth := k2m0) (c := k2c0) (by decide +kernel) rfl rfl rfl (by decide +kernel)
set_option maxRecDepth 65536 in
theorem w_c2 : (Jvm.Cond.code ({ cls := "java/lang/Object", name := "<init>", desc := "()V" } : Jvm.MethodName) object_method_1_code (1 : Nat) (Option.none : Option Jvm.ClassFile.FieldType)).before args0 about1 = true := code_word (m := ⟨0, 0⟩) (meth := k0m0) (c := k0c0) (by decide +kernel) rfl rfl rfl (by decide +kernel)
set_option maxRecDepth 65536 in
theorem w_c3 : (Jvm.Cond.code ({ cls := "com/example/accrue/accrue/BitWriter", name := "bitLength", desc := "()J" } : Jvm.MethodName) prog_3_method_9_code (1 : Nat) (Option.some Jvm.ClassFile.FieldType.long)).before args0 about1 = true := code_word (m := ⟨2, 3⟩) (meth := k2m3) (c := k2c3) (by decide +kernel) rfl rfl rfl (by decide +kernel)
set_option maxRecDepth 65536 in
theorem w_c4 : (Jvm.Cond.code ({ cls := "com/example/accrue/accrue/BitWriter", name := "write", desc := "(JI)V" } : Jvm.MethodName) prog_3_method_2_code (4 : Nat) (Option.none : Option Jvm.ClassFile.FieldType)).before args0 about1 = true := code_word (m := ⟨2, 1⟩) (meth := k2m1) (c := k2c1) (by decide +kernel) rfl rfl rfl (by decide +kernel)
set_option maxRecDepth 65536 in
theorem w_c5 : (Jvm.Cond.code ({ cls := "com/example/accrue/accrue/BitWriter", name := "writeBit", desc := "(Z)V" } : Jvm.MethodName) prog_3_method_3_code (2 : Nat) (Option.none : Option Jvm.ClassFile.FieldType)).before args0 about1 = true := code_word (m := ⟨2, 2⟩) (meth := k2m2) (c := k2c2) (by decide +kernel) rfl rfl rfl (by decide +kernel)
set_option maxRecDepth 65536 in
theorem w_c6 : (Jvm.Cond.code ({ cls := "com/example/accrue/accrue/BitWriter", name := "append", desc := "(B)V" } : Jvm.MethodName) prog_3_method_12_code (2 : Nat) (Option.none : Option Jvm.ClassFile.FieldType)).before args0 about1 = true := code_word (m := ⟨2, 4⟩) (meth := k2m4) (c := k2c4) (by decide +kernel) rfl rfl rfl (by decide +kernel)
def codes1 : List Jvm.Cond := [Jvm.Cond.code x code maxLocals ret, Jvm.Cond.code ({ cls := "com/example/accrue/accrue/BitWriter", name := "<init>", desc := "()V" } : Jvm.MethodName) prog_3_method_1_code (1 : Nat) (Option.none : Option Jvm.ClassFile.FieldType), Jvm.Cond.code ({ cls := "java/lang/Object", name := "<init>", desc := "()V" } : Jvm.MethodName) object_method_1_code (1 : Nat) (Option.none : Option Jvm.ClassFile.FieldType), Jvm.Cond.code ({ cls := "com/example/accrue/accrue/BitWriter", name := "bitLength", desc := "()J" } : Jvm.MethodName) prog_3_method_9_code (1 : Nat) (Option.some Jvm.ClassFile.FieldType.long), Jvm.Cond.code ({ cls := "com/example/accrue/accrue/BitWriter", name := "write", desc := "(JI)V" } : Jvm.MethodName) prog_3_method_2_code (4 : Nat) (Option.none : Option Jvm.ClassFile.FieldType), Jvm.Cond.code ({ cls := "com/example/accrue/accrue/BitWriter", name := "writeBit", desc := "(Z)V" } : Jvm.MethodName) prog_3_method_3_code (2 : Nat) (Option.none : Option Jvm.ClassFile.FieldType), Jvm.Cond.code ({ cls := "com/example/accrue/accrue/BitWriter", name := "append", desc := "(B)V" } : Jvm.MethodName) prog_3_method_12_code (2 : Nat) (Option.none : Option Jvm.ClassFile.FieldType)]
set_option maxRecDepth 65536 in
theorem codes_eq : words1.filter isCode = codes1 := rfl
theorem w_codes : ∀ c ∈ words1.filter isCode, c.before args0 about1 = true := by
  rw [codes_eq]
  intro c hc
  simp only [codes1, List.mem_cons, List.not_mem_nil, or_false] at hc
  rcases hc with rfl | rfl | rfl | rfl | rfl | rfl | rfl
  · exact w_c0
  · exact w_c1
  · exact w_c2
  · exact w_c3
  · exact w_c4
  · exact w_c5
  · exact w_c6
set_option maxRecDepth 65536 in
theorem w_t1 : (words1.take 24).all (fun c => isCode c || c.before args0 about1) = true := by decide +kernel
set_option maxRecDepth 65536 in
theorem w_t2 : (words1.drop 24).all (fun c => isCode c || c.before args0 about1) = true := by decide +kernel
theorem w_tables : (allAtoms (Jvm.Cond.code x code maxLocals ret :: tables_1)).before args0 about1 = true := by
  rw [allAtoms_all]
  show words1.all (fun c => c.before args0 about1) = true
  refine all_split ?_ w_codes
  rw [← List.take_append_drop 24 words1, List.all_append, w_t1, w_t2]
  rfl
set_option maxRecDepth 65536 in
theorem w_case : (Jvm.Cond.and given_1 narrow_1).before args0 about1 = true := by decide +kernel
theorem w_applies : (headSpec (Jvm.Cond.code x code maxLocals ret :: tables_1) room_1).applies x e0.platform about1 = true :=
  (Spec.applies_iff w_frames).mpr ⟨w_running, w_runnable, w_alone, w_named, w_hears, w_ripe, w_room, w_tables⟩
theorem atStart : AtStart classFile x code maxLocals ret World_1 tables_1 room_1 Calls_1 rest_1 Pre_1 launch0 p0 e0 about1 theMethod args0 below0 :=
  ⟨lists_1, trivial, launch0.admits_env _ _ _, launch0.least_env, fairChoices_fair.cas, fairChoices_fair.clock, w_frames, w_args, w_heap, w_applies, trivial, trivial, w_case⟩
end start1
theorem witness_1 : WitnessClaimed_1 := ⟨start1.p0, start1.e0, start1.about1, start1.theMethod, start1.args0, start1.below0, start1.atStart⟩
end Jvm.Pilot.@@N@@
