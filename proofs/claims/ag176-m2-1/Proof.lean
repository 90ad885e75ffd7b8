import JvmDerived
import JvmDerived.Pilot.@@N@@Statement
import JvmDerived.Pilot.@@N@@Code
set_option linter.unusedVariables false
set_option linter.unusedSimpArgs false
namespace Jvm.Pilot.@@N@@
open Jvm Jvm.ClassFile Sem Op Lib Jvm.Free Jvm.Stand Jvm.LawKit Jvm.RoadKit Bundle Jvm.Pilot.@@N@@.Jvm.D
/-- one invocation: program, environment, the state at the invocation, method, arguments, the frames below, the method's record, its code -/
abbrev OG := Program × Env × State × MethodId × Array Value × List Frame × Method × Code
/-- the whole run: the launch, the heap's size at the law's start, the law's arguments -/
abbrev OW := Launch × Nat × Array Value
/-- one method: its bytes, its number of locals, its class, its name, what it returns, the room it asks -/
abbrev OM := ByteArray × Nat × String × String × Option FieldType × Room
/-- where a walk stands -/
def oSt (Z : State) (ω : OW) (γ : OG) (κ : OM) (T : State) (h : Heap) (cs ss : Nat) : Prop :=
  γ.1.tables.exec = Jvm.exec ∧ γ.2.2.2.2.2.2.2.code = κ.1 ∧ γ.2.2.2.2.2.2.2.maxLocals = κ.2.1 ∧ γ.2.2.1.vm.findClass κ.2.2.1 = some γ.2.2.2.1.cls ∧ γ.2.2.2.2.2.2.1.name = κ.2.2.2.1 ∧
  γ.2.2.2.2.2.2.1.sig.returnType = κ.2.2.2.2.1 ∧ γ.2.2.2.2.2.2.1.locks = false ∧ Z.Warmed39 γ.2.2.1.vm ∧ (∀ d ∈ tables_1, d.before ω.2.2 Z = true) ∧ ω.2.1 ≤ γ.2.2.1.heap.size ∧ T.heap = h ∧
  ∃ locs, Stand γ.1 ω.1 γ.2.1 κ.2.2.2.2.2 γ.2.2.1 γ.2.2.2.1 γ.2.2.2.2.1 γ.2.2.2.2.2.1 γ.2.2.2.2.2.2.1 γ.2.2.2.2.2.2.2 T locs cs ss ∧ Fr ω.2.1 locs
/-- from here the method returns, and Q holds of what it returns and of the heap it leaves -/
def oWP (ω : OW) (γ : OG) (κ : OM) (Q : Option Value → Heap → Prop) (T : State) (pc : Nat) (L : Array Slot) (S : List Value) : Prop :=
  ∃ s₂ o, Steps γ.1.tables γ.2.1 γ.2.2.2.2.2.1 (T.setTop (mkF γ.2.2.2.1 pc L S)) s₂ ∧ s₂.status = .running ∧ Ended s₂ γ.2.2.2.2.2.1 o ∧
    ∃ v Lc, o = .returned v ∧ (Fr ω.2.1 Lc ∧ Q v s₂.heap) ∧ FrameEnd γ.2.2.1 o s₂ Lc κ.2.2.2.2.2.cells κ.2.2.2.2.2.slots
/-- a method's contract -/
def oC (Z : State) (ω : OW) (y : MethodName) (κ : OM) (ws : List Jvm.Cond) (as : Array Value) (h : Heap) (Q : Option Value → Heap → Prop) : Prop :=
  MetFree ω.1 y (head1 (Jvm.Cond.code y κ.1 κ.2.1 κ.2.2.2.2.1 :: ws) κ.2.2.2.2.2) (fun a U => a = as ∧ Z.Warmed39 U.vm ∧ U.heap = h) (fun _ _ _ _ _ => True)
    (fun _ U o U' => ∃ v Lc, o = .returned v ∧ (Fr ω.2.1 Lc ∧ Q v U'.heap) ∧ FrameEnd U o U' Lc κ.2.2.2.2.2.cells κ.2.2.2.2.2.slots)
theorem oC_of {Z : State} {ω : OW} {y : MethodName} {κ : OM} {ws : List Jvm.Cond} {as : Array Value} {h : Heap} {Q : Option Value → Heap → Prop} {L : Array Slot} (hw : ∀ d ∈ tables_1, d.before ω.2.2 Z = true) (hn0 : ω.2.1 ≤ h.size)
    (hpn : plainFor y = true) (hcl : κ.2.2.1 = y.cls) (hnm : κ.2.2.2.1 = y.name) (hef : ∀ m, entryFrame m as κ.2.1 = mkF m 0 L []) (body : ∀ γ T, oSt Z ω γ κ T h 0 0 → oWP ω γ κ Q T 0 L []) : oC Z ω y κ ws as h Q := by
  refine MetFree.of_bodySF hpn hisR ?_
  intro p e s m args below meth c s₁ Bd hml0 hP hK
  obtain ⟨rfl, hZ, hh⟩ := hP
  have hown : s.vm.findClass y.cls = some m.cls := findClass_of_methodNamed Bd.named
  have hnm' := (name_of_methodNamed Bd.named Bd.method).1
  have X0 := Stand.of_body Bd
  have e0 : s₁.heap = h := by rw [← hh, Bd.state]; rfl
  have hlk : meth.locks = false := BodyLoose.notSynchronized Bd
  obtain ⟨s₂, o, h1, h2, h3, h4⟩ := body (p, e, s, m, args, below, meth, c) s₁ ⟨Bd.exec, Bd.bytes, hml0, by rw [hcl]; exact hown, by rw [hnm]; exact hnm', Bd.returns, hlk, hZ, hw, by rw [hh]; exact hn0, e0, [], X0, Fr.nil _⟩
  exact ⟨s₂, o, castTop (hef m) h1, h2, h3, h4⟩
section Walk
variable {Z : State} {ω : OW} {γ : OG} {κ : OM} {Q : Option Value → Heap → Prop} {T : State} {h : Heap} {cs ss : Nat} {pc : Nat} {L : Array Slot} {S : List Value}
theorem oSt_n0 (X : oSt Z ω γ κ T h cs ss) : ω.2.1 ≤ h.size := by
  obtain ⟨-, -, -, -, -, -, -, -, -, hn0, hT, locs, Y, -⟩ := X
  have q : γ.2.2.1.heap.size ≤ T.heap.size := Y.same.2.1
  rw [hT] at q
  exact Nat.le_trans hn0 q
theorem oSt_w (X : oSt Z ω γ κ T h cs ss) : ∀ d ∈ tables_1, d.before ω.2.2 Z = true := by
  obtain ⟨-, -, -, -, -, -, -, -, hw, -⟩ := X; exact hw
theorem oSt_at (X : oSt Z ω γ κ T h cs ss) (i : Nat) {d : Jvm.Cond} (hi : tables_1[i]? = some d) : d.before ω.2.2 Z = true := oSt_w X _ (List.mem_of_getElem? hi)
theorem ow_iload (X : oSt Z ω γ κ T h cs ss) (pc' : Nat) {k : Nat} {v : Int32} (hd : decode κ.1 pc = .ok (.iload k, 2)) (hp : pc + 2 = pc') (hl : L[k]? = some (.val (.int v)))
    (K : oWP ω γ κ Q T pc' L (.int v :: S)) : oWP ω γ κ Q T pc L (S) := by
  obtain ⟨hx, hby, -, -, -, -, -, -, -, -, -, locs, Y, -⟩ := X
  subst hp
  obtain ⟨s₂, o, hs, r⟩ := K
  exact ⟨s₂, o, XS.iload Y.here hx rfl (hb hby hd) hl hs, r⟩
theorem ow_iloadN (X : oSt Z ω γ κ T h cs ss) (pc' : Nat) {k : Fin 4} {v : Int32} (hd : decode κ.1 pc = .ok (.iload_n k, 1)) (hp : pc + 1 = pc') (hl : L[k.val]? = some (.val (.int v)))
    (K : oWP ω γ κ Q T pc' L (.int v :: S)) : oWP ω γ κ Q T pc L (S) := by
  obtain ⟨hx, hby, -, -, -, -, -, -, -, -, -, locs, Y, -⟩ := X
  subst hp
  obtain ⟨s₂, o, hs, r⟩ := K
  exact ⟨s₂, o, XS.iloadN Y.here hx rfl (hb hby hd) hl hs, r⟩
theorem ow_istore (X : oSt Z ω γ κ T h cs ss) (pc' : Nat) {k : Nat} {v : Int32} {L' : Array Slot} (hd : decode κ.1 pc = .ok (.istore k, 2)) (hp : pc + 2 = pc') (hl : storeLocals L k (.int v) = some L')
    (K : oWP ω γ κ Q T pc' L' (S)) : oWP ω γ κ Q T pc L (.int v :: S) := by
  obtain ⟨hx, hby, -, -, -, -, -, -, -, -, -, locs, Y, -⟩ := X
  subst hp
  obtain ⟨s₂, o, hs, r⟩ := K
  exact ⟨s₂, o, XS.istore Y.here hx rfl (hb hby hd) rfl hl hs, r⟩
theorem ow_istoreN (X : oSt Z ω γ κ T h cs ss) (pc' : Nat) {k : Fin 4} {v : Int32} {L' : Array Slot} (hd : decode κ.1 pc = .ok (.istore_n k, 1)) (hp : pc + 1 = pc') (hl : storeLocals L k.val (.int v) = some L')
    (K : oWP ω γ κ Q T pc' L' (S)) : oWP ω γ κ Q T pc L (.int v :: S) := by
  obtain ⟨hx, hby, -, -, -, -, -, -, -, -, -, locs, Y, -⟩ := X
  subst hp
  obtain ⟨s₂, o, hs, r⟩ := K
  exact ⟨s₂, o, XS.istoreN Y.here hx rfl (hb hby hd) rfl hl hs, r⟩
theorem ow_lload (X : oSt Z ω γ κ T h cs ss) (pc' : Nat) {k : Nat} {v : Int64} (hd : decode κ.1 pc = .ok (.lload k, 2)) (hp : pc + 2 = pc') (hl : L[k]? = some (.val (.long v)))
    (K : oWP ω γ κ Q T pc' L (.long v :: S)) : oWP ω γ κ Q T pc L (S) := by
  obtain ⟨hx, hby, -, -, -, -, -, -, -, -, -, locs, Y, -⟩ := X
  subst hp
  obtain ⟨s₂, o, hs, r⟩ := K
  exact ⟨s₂, o, XS.lload Y.here hx rfl (hb hby hd) hl hs, r⟩
theorem ow_lloadN (X : oSt Z ω γ κ T h cs ss) (pc' : Nat) {k : Fin 4} {v : Int64} (hd : decode κ.1 pc = .ok (.lload_n k, 1)) (hp : pc + 1 = pc') (hl : L[k.val]? = some (.val (.long v)))
    (K : oWP ω γ κ Q T pc' L (.long v :: S)) : oWP ω γ κ Q T pc L (S) := by
  obtain ⟨hx, hby, -, -, -, -, -, -, -, -, -, locs, Y, -⟩ := X
  subst hp
  obtain ⟨s₂, o, hs, r⟩ := K
  exact ⟨s₂, o, XS.lloadN Y.here hx rfl (hb hby hd) hl hs, r⟩
theorem ow_lstore (X : oSt Z ω γ κ T h cs ss) (pc' : Nat) {k : Nat} {v : Int64} {L' : Array Slot} (hd : decode κ.1 pc = .ok (.lstore k, 2)) (hp : pc + 2 = pc') (hl : storeLocals L k (.long v) = some L')
    (K : oWP ω γ κ Q T pc' L' (S)) : oWP ω γ κ Q T pc L (.long v :: S) := by
  obtain ⟨hx, hby, -, -, -, -, -, -, -, -, -, locs, Y, -⟩ := X
  subst hp
  obtain ⟨s₂, o, hs, r⟩ := K
  exact ⟨s₂, o, XS.lstore Y.here hx rfl (hb hby hd) rfl hl hs, r⟩
theorem ow_lstoreN (X : oSt Z ω γ κ T h cs ss) (pc' : Nat) {k : Fin 4} {v : Int64} {L' : Array Slot} (hd : decode κ.1 pc = .ok (.lstore_n k, 1)) (hp : pc + 1 = pc') (hl : storeLocals L k.val (.long v) = some L')
    (K : oWP ω γ κ Q T pc' L' (S)) : oWP ω γ κ Q T pc L (.long v :: S) := by
  obtain ⟨hx, hby, -, -, -, -, -, -, -, -, -, locs, Y, -⟩ := X
  subst hp
  obtain ⟨s₂, o, hs, r⟩ := K
  exact ⟨s₂, o, XS.lstoreN Y.here hx rfl (hb hby hd) rfl hl hs, r⟩
theorem ow_aload (X : oSt Z ω γ κ T h cs ss) (pc' : Nat) {k : Nat} {v : Value} (hd : decode κ.1 pc = .ok (.aload k, 2)) (hp : pc + 2 = pc') (hl : L[k]? = some (.val v)) (hv : v.isRef = true)
    (K : oWP ω γ κ Q T pc' L (v :: S)) : oWP ω γ κ Q T pc L (S) := by
  obtain ⟨hx, hby, -, -, -, -, -, -, -, -, -, locs, Y, -⟩ := X
  subst hp
  obtain ⟨s₂, o, hs, r⟩ := K
  exact ⟨s₂, o, XS.aload Y.here hx rfl (hb hby hd) hl hv hs, r⟩
theorem ow_aloadN (X : oSt Z ω γ κ T h cs ss) (pc' : Nat) {k : Fin 4} {v : Value} (hd : decode κ.1 pc = .ok (.aload_n k, 1)) (hp : pc + 1 = pc') (hl : L[k.val]? = some (.val v)) (hv : v.isRef = true)
    (K : oWP ω γ κ Q T pc' L (v :: S)) : oWP ω γ κ Q T pc L (S) := by
  obtain ⟨hx, hby, -, -, -, -, -, -, -, -, -, locs, Y, -⟩ := X
  subst hp
  obtain ⟨s₂, o, hs, r⟩ := K
  exact ⟨s₂, o, XS.aloadN Y.here hx rfl (hb hby hd) hl hv hs, r⟩
theorem ow_astore (X : oSt Z ω γ κ T h cs ss) (pc' : Nat) {k : Nat} {v : Value} {L' : Array Slot} (hd : decode κ.1 pc = .ok (.astore k, 2)) (hp : pc + 2 = pc') (hv : v.isRef = true) (hl : storeLocals L k v = some L')
    (K : oWP ω γ κ Q T pc' L' (S)) : oWP ω γ κ Q T pc L (v :: S) := by
  obtain ⟨hx, hby, -, -, -, -, -, -, -, -, -, locs, Y, -⟩ := X
  subst hp
  obtain ⟨s₂, o, hs, r⟩ := K
  exact ⟨s₂, o, XS.astore Y.here hx rfl (hb hby hd) rfl hv hl hs, r⟩
theorem ow_astoreN (X : oSt Z ω γ κ T h cs ss) (pc' : Nat) {k : Fin 4} {v : Value} {L' : Array Slot} (hd : decode κ.1 pc = .ok (.astore_n k, 1)) (hp : pc + 1 = pc') (hv : v.isRef = true) (hl : storeLocals L k.val v = some L')
    (K : oWP ω γ κ Q T pc' L' (S)) : oWP ω γ κ Q T pc L (v :: S) := by
  obtain ⟨hx, hby, -, -, -, -, -, -, -, -, -, locs, Y, -⟩ := X
  subst hp
  obtain ⟨s₂, o, hs, r⟩ := K
  exact ⟨s₂, o, XS.astoreN Y.here hx rfl (hb hby hd) rfl hv hl hs, r⟩
theorem ow_iconst (X : oSt Z ω γ κ T h cs ss) (pc' : Nat) {i : Int} (v : Int32) (hd : decode κ.1 pc = .ok (.iconst i, 1)) (hp : pc + 1 = pc') (hv : Int32.ofInt i = v)
    (K : oWP ω γ κ Q T pc' L (.int v :: S)) : oWP ω γ κ Q T pc L (S) := by
  obtain ⟨hx, hby, -, -, -, -, -, -, -, -, -, locs, Y, -⟩ := X
  subst hp
  obtain ⟨s₂, o, hs, r⟩ := K
  subst hv; exact ⟨s₂, o, XS.iconst Y.here hx rfl (hb hby hd) hs, r⟩
theorem ow_bipush (X : oSt Z ω γ κ T h cs ss) (pc' : Nat) {i : Int} (v : Int32) (hd : decode κ.1 pc = .ok (.bipush i, 2)) (hp : pc + 2 = pc') (hv : (Int8.ofInt i).toInt32 = v)
    (K : oWP ω γ κ Q T pc' L (.int v :: S)) : oWP ω γ κ Q T pc L (S) := by
  obtain ⟨hx, hby, -, -, -, -, -, -, -, -, -, locs, Y, -⟩ := X
  subst hp
  obtain ⟨s₂, o, hs, r⟩ := K
  subst hv; exact ⟨s₂, o, XS.bipush Y.here hx rfl (hb hby hd) hs, r⟩
theorem ow_sipush (X : oSt Z ω γ κ T h cs ss) (pc' : Nat) {i : Int} (v : Int32) (hd : decode κ.1 pc = .ok (.sipush i, 3)) (hp : pc + 3 = pc') (hv : (Int16.ofInt i).toInt32 = v)
    (K : oWP ω γ κ Q T pc' L (.int v :: S)) : oWP ω γ κ Q T pc L (S) := by
  obtain ⟨hx, hby, -, -, -, -, -, -, -, -, -, locs, Y, -⟩ := X
  subst hp
  obtain ⟨s₂, o, hs, r⟩ := K
  subst hv; exact ⟨s₂, o, XS.sipush Y.here hx rfl (hb hby hd) hs, r⟩
theorem ow_lconst (X : oSt Z ω γ κ T h cs ss) (pc' : Nat) {k : Fin 2} (v : Int64) (hd : decode κ.1 pc = .ok (.lconst k, 1)) (hp : pc + 1 = pc') (hv : Int64.ofNat k = v)
    (K : oWP ω γ κ Q T pc' L (.long v :: S)) : oWP ω γ κ Q T pc L (S) := by
  obtain ⟨hx, hby, -, -, -, -, -, -, -, -, -, locs, Y, -⟩ := X
  subst hp
  obtain ⟨s₂, o, hs, r⟩ := K
  subst hv; exact ⟨s₂, o, XS.lconst Y.here hx rfl (hb hby hd) hs, r⟩
theorem ow_anull (X : oSt Z ω γ κ T h cs ss) (pc' : Nat)  (hd : decode κ.1 pc = .ok (.aconst_null, 1)) (hp : pc + 1 = pc') 
    (K : oWP ω γ κ Q T pc' L (.null :: S)) : oWP ω γ κ Q T pc L (S) := by
  obtain ⟨hx, hby, -, -, -, -, -, -, -, -, -, locs, Y, -⟩ := X
  subst hp
  obtain ⟨s₂, o, hs, r⟩ := K
  exact ⟨s₂, o, XS.aconstNull Y.here hx rfl (hb hby hd) hs, r⟩
theorem ow_iinc (X : oSt Z ω γ κ T h cs ss) (pc' : Nat) {k : Nat} {i : Int} {x : Int32} {L' : Array Slot} (v : Int32) (hd : decode κ.1 pc = .ok (.iinc k i, 3)) (hp : pc + 3 = pc') (hv : Int32.ofInt i = v) (hl : L[k]? = some (.val (.int x))) (hl' : storeLocals L k (.int (x + v)) = some L')
    (K : oWP ω γ κ Q T pc' L' (S)) : oWP ω γ κ Q T pc L (S) := by
  obtain ⟨hx, hby, -, -, -, -, -, -, -, -, -, locs, Y, -⟩ := X
  subst hp
  obtain ⟨s₂, o, hs, r⟩ := K
  subst hv; exact ⟨s₂, o, XS.iinc Y.here hx rfl (hb hby hd) hl hl' hs, r⟩
theorem ow_iadd (X : oSt Z ω γ κ T h cs ss) (pc' : Nat) {x y : Int32} (hd : decode κ.1 pc = .ok (.iadd, 1)) (hp : pc + 1 = pc') 
    (K : oWP ω γ κ Q T pc' L (.int (x + y) :: S)) : oWP ω γ κ Q T pc L (.int y :: .int x :: S) := by
  obtain ⟨hx, hby, -, -, -, -, -, -, -, -, -, locs, Y, -⟩ := X
  subst hp
  obtain ⟨s₂, o, hs, r⟩ := K
  exact ⟨s₂, o, XS.iadd Y.here hx rfl (hb hby hd) rfl hs, r⟩
theorem ow_isub (X : oSt Z ω γ κ T h cs ss) (pc' : Nat) {x y : Int32} (hd : decode κ.1 pc = .ok (.isub, 1)) (hp : pc + 1 = pc') 
    (K : oWP ω γ κ Q T pc' L (.int (x - y) :: S)) : oWP ω γ κ Q T pc L (.int y :: .int x :: S) := by
  obtain ⟨hx, hby, -, -, -, -, -, -, -, -, -, locs, Y, -⟩ := X
  subst hp
  obtain ⟨s₂, o, hs, r⟩ := K
  exact ⟨s₂, o, XS.isub Y.here hx rfl (hb hby hd) rfl hs, r⟩
theorem ow_imul (X : oSt Z ω γ κ T h cs ss) (pc' : Nat) {x y : Int32} (hd : decode κ.1 pc = .ok (.imul, 1)) (hp : pc + 1 = pc') 
    (K : oWP ω γ κ Q T pc' L (.int (x * y) :: S)) : oWP ω γ κ Q T pc L (.int y :: .int x :: S) := by
  obtain ⟨hx, hby, -, -, -, -, -, -, -, -, -, locs, Y, -⟩ := X
  subst hp
  obtain ⟨s₂, o, hs, r⟩ := K
  exact ⟨s₂, o, XS.imul Y.here hx rfl (hb hby hd) rfl hs, r⟩
theorem ow_iand (X : oSt Z ω γ κ T h cs ss) (pc' : Nat) {x y : Int32} (hd : decode κ.1 pc = .ok (.iand, 1)) (hp : pc + 1 = pc') 
    (K : oWP ω γ κ Q T pc' L (.int (x &&& y) :: S)) : oWP ω γ κ Q T pc L (.int y :: .int x :: S) := by
  obtain ⟨hx, hby, -, -, -, -, -, -, -, -, -, locs, Y, -⟩ := X
  subst hp
  obtain ⟨s₂, o, hs, r⟩ := K
  exact ⟨s₂, o, XS.iand Y.here hx rfl (hb hby hd) rfl hs, r⟩
theorem ow_ior (X : oSt Z ω γ κ T h cs ss) (pc' : Nat) {x y : Int32} (hd : decode κ.1 pc = .ok (.ior, 1)) (hp : pc + 1 = pc') 
    (K : oWP ω γ κ Q T pc' L (.int (x ||| y) :: S)) : oWP ω γ κ Q T pc L (.int y :: .int x :: S) := by
  obtain ⟨hx, hby, -, -, -, -, -, -, -, -, -, locs, Y, -⟩ := X
  subst hp
  obtain ⟨s₂, o, hs, r⟩ := K
  exact ⟨s₂, o, XS.ior Y.here hx rfl (hb hby hd) rfl hs, r⟩
theorem ow_ixor (X : oSt Z ω γ κ T h cs ss) (pc' : Nat) {x y : Int32} (hd : decode κ.1 pc = .ok (.ixor, 1)) (hp : pc + 1 = pc') 
    (K : oWP ω γ κ Q T pc' L (.int (x ^^^ y) :: S)) : oWP ω γ κ Q T pc L (.int y :: .int x :: S) := by
  obtain ⟨hx, hby, -, -, -, -, -, -, -, -, -, locs, Y, -⟩ := X
  subst hp
  obtain ⟨s₂, o, hs, r⟩ := K
  exact ⟨s₂, o, XS.ixor Y.here hx rfl (hb hby hd) rfl hs, r⟩
theorem ow_ishl (X : oSt Z ω γ κ T h cs ss) (pc' : Nat) {x y : Int32} (hd : decode κ.1 pc = .ok (.ishl, 1)) (hp : pc + 1 = pc') 
    (K : oWP ω γ κ Q T pc' L (.int (x <<< (y &&& 31)) :: S)) : oWP ω γ κ Q T pc L (.int y :: .int x :: S) := by
  obtain ⟨hx, hby, -, -, -, -, -, -, -, -, -, locs, Y, -⟩ := X
  subst hp
  obtain ⟨s₂, o, hs, r⟩ := K
  exact ⟨s₂, o, XS.ishl Y.here hx rfl (hb hby hd) rfl hs, r⟩
theorem ow_ishr (X : oSt Z ω γ κ T h cs ss) (pc' : Nat) {x y : Int32} (hd : decode κ.1 pc = .ok (.ishr, 1)) (hp : pc + 1 = pc') 
    (K : oWP ω γ κ Q T pc' L (.int (x >>> (y &&& 31)) :: S)) : oWP ω γ κ Q T pc L (.int y :: .int x :: S) := by
  obtain ⟨hx, hby, -, -, -, -, -, -, -, -, -, locs, Y, -⟩ := X
  subst hp
  obtain ⟨s₂, o, hs, r⟩ := K
  exact ⟨s₂, o, XS.ishr Y.here hx rfl (hb hby hd) rfl hs, r⟩
theorem ow_iushr (X : oSt Z ω γ κ T h cs ss) (pc' : Nat) {x y : Int32} (hd : decode κ.1 pc = .ok (.iushr, 1)) (hp : pc + 1 = pc') 
    (K : oWP ω γ κ Q T pc' L (.int ((x.toUInt32 >>> (y &&& 31).toUInt32).toInt32) :: S)) : oWP ω γ κ Q T pc L (.int y :: .int x :: S) := by
  obtain ⟨hx, hby, -, -, -, -, -, -, -, -, -, locs, Y, -⟩ := X
  subst hp
  obtain ⟨s₂, o, hs, r⟩ := K
  exact ⟨s₂, o, XS.iushr Y.here hx rfl (hb hby hd) rfl hs, r⟩
theorem ow_ineg (X : oSt Z ω γ κ T h cs ss) (pc' : Nat) {x : Int32} (hd : decode κ.1 pc = .ok (.ineg, 1)) (hp : pc + 1 = pc') 
    (K : oWP ω γ κ Q T pc' L (.int (-x) :: S)) : oWP ω γ κ Q T pc L (.int x :: S) := by
  obtain ⟨hx, hby, -, -, -, -, -, -, -, -, -, locs, Y, -⟩ := X
  subst hp
  obtain ⟨s₂, o, hs, r⟩ := K
  exact ⟨s₂, o, XS.ineg Y.here hx rfl (hb hby hd) rfl hs, r⟩
theorem ow_idiv (X : oSt Z ω γ κ T h cs ss) (pc' : Nat) {x y : Int32} (hd : decode κ.1 pc = .ok (.idiv, 1)) (hp : pc + 1 = pc') (hy : y ≠ 0)
    (K : oWP ω γ κ Q T pc' L (.int (x / y) :: S)) : oWP ω γ κ Q T pc L (.int y :: .int x :: S) := by
  obtain ⟨hx, hby, -, -, -, -, -, -, -, -, -, locs, Y, -⟩ := X
  subst hp
  obtain ⟨s₂, o, hs, r⟩ := K
  exact ⟨s₂, o, XS.idiv Y.here hx rfl (hb hby hd) rfl hy hs, r⟩
theorem ow_irem (X : oSt Z ω γ κ T h cs ss) (pc' : Nat) {x y : Int32} (hd : decode κ.1 pc = .ok (.irem, 1)) (hp : pc + 1 = pc') (hy : y ≠ 0)
    (K : oWP ω γ κ Q T pc' L (.int (x % y) :: S)) : oWP ω γ κ Q T pc L (.int y :: .int x :: S) := by
  obtain ⟨hx, hby, -, -, -, -, -, -, -, -, -, locs, Y, -⟩ := X
  subst hp
  obtain ⟨s₂, o, hs, r⟩ := K
  exact ⟨s₂, o, iremM Y hx rfl (hb hby hd) rfl hy hs, r⟩
theorem ow_ladd (X : oSt Z ω γ κ T h cs ss) (pc' : Nat) {x y : Int64} (hd : decode κ.1 pc = .ok (.ladd, 1)) (hp : pc + 1 = pc') 
    (K : oWP ω γ κ Q T pc' L (.long (x + y) :: S)) : oWP ω γ κ Q T pc L (.long y :: .long x :: S) := by
  obtain ⟨hx, hby, -, -, -, -, -, -, -, -, -, locs, Y, -⟩ := X
  subst hp
  obtain ⟨s₂, o, hs, r⟩ := K
  exact ⟨s₂, o, XS.ladd Y.here hx rfl (hb hby hd) rfl hs, r⟩
theorem ow_lsub (X : oSt Z ω γ κ T h cs ss) (pc' : Nat) {x y : Int64} (hd : decode κ.1 pc = .ok (.lsub, 1)) (hp : pc + 1 = pc') 
    (K : oWP ω γ κ Q T pc' L (.long (x - y) :: S)) : oWP ω γ κ Q T pc L (.long y :: .long x :: S) := by
  obtain ⟨hx, hby, -, -, -, -, -, -, -, -, -, locs, Y, -⟩ := X
  subst hp
  obtain ⟨s₂, o, hs, r⟩ := K
  exact ⟨s₂, o, XS.lsub Y.here hx rfl (hb hby hd) rfl hs, r⟩
theorem ow_lmul (X : oSt Z ω γ κ T h cs ss) (pc' : Nat) {x y : Int64} (hd : decode κ.1 pc = .ok (.lmul, 1)) (hp : pc + 1 = pc') 
    (K : oWP ω γ κ Q T pc' L (.long (x * y) :: S)) : oWP ω γ κ Q T pc L (.long y :: .long x :: S) := by
  obtain ⟨hx, hby, -, -, -, -, -, -, -, -, -, locs, Y, -⟩ := X
  subst hp
  obtain ⟨s₂, o, hs, r⟩ := K
  exact ⟨s₂, o, XS.lmul Y.here hx rfl (hb hby hd) rfl hs, r⟩
theorem ow_land (X : oSt Z ω γ κ T h cs ss) (pc' : Nat) {x y : Int64} (hd : decode κ.1 pc = .ok (.land, 1)) (hp : pc + 1 = pc') 
    (K : oWP ω γ κ Q T pc' L (.long (x &&& y) :: S)) : oWP ω γ κ Q T pc L (.long y :: .long x :: S) := by
  obtain ⟨hx, hby, -, -, -, -, -, -, -, -, -, locs, Y, -⟩ := X
  subst hp
  obtain ⟨s₂, o, hs, r⟩ := K
  exact ⟨s₂, o, XS.land Y.here hx rfl (hb hby hd) rfl hs, r⟩
theorem ow_lor (X : oSt Z ω γ κ T h cs ss) (pc' : Nat) {x y : Int64} (hd : decode κ.1 pc = .ok (.lor, 1)) (hp : pc + 1 = pc') 
    (K : oWP ω γ κ Q T pc' L (.long (x ||| y) :: S)) : oWP ω γ κ Q T pc L (.long y :: .long x :: S) := by
  obtain ⟨hx, hby, -, -, -, -, -, -, -, -, -, locs, Y, -⟩ := X
  subst hp
  obtain ⟨s₂, o, hs, r⟩ := K
  exact ⟨s₂, o, XS.lor Y.here hx rfl (hb hby hd) rfl hs, r⟩
theorem ow_lxor (X : oSt Z ω γ κ T h cs ss) (pc' : Nat) {x y : Int64} (hd : decode κ.1 pc = .ok (.lxor, 1)) (hp : pc + 1 = pc') 
    (K : oWP ω γ κ Q T pc' L (.long (x ^^^ y) :: S)) : oWP ω γ κ Q T pc L (.long y :: .long x :: S) := by
  obtain ⟨hx, hby, -, -, -, -, -, -, -, -, -, locs, Y, -⟩ := X
  subst hp
  obtain ⟨s₂, o, hs, r⟩ := K
  exact ⟨s₂, o, XS.lxor Y.here hx rfl (hb hby hd) rfl hs, r⟩
theorem ow_lshl (X : oSt Z ω γ κ T h cs ss) (pc' : Nat) {x : Int64} {y : Int32} (hd : decode κ.1 pc = .ok (.lshl, 1)) (hp : pc + 1 = pc') 
    (K : oWP ω γ κ Q T pc' L (.long (x <<< (y &&& 0x3f).toInt64) :: S)) : oWP ω γ κ Q T pc L (.int y :: .long x :: S) := by
  obtain ⟨hx, hby, -, -, -, -, -, -, -, -, -, locs, Y, -⟩ := X
  subst hp
  obtain ⟨s₂, o, hs, r⟩ := K
  exact ⟨s₂, o, XS.lshl Y.here hx rfl (hb hby hd) rfl hs, r⟩
theorem ow_lshr (X : oSt Z ω γ κ T h cs ss) (pc' : Nat) {x : Int64} {y : Int32} (hd : decode κ.1 pc = .ok (.lshr, 1)) (hp : pc + 1 = pc') 
    (K : oWP ω γ κ Q T pc' L (.long (x >>> (y &&& 0x3f).toInt64) :: S)) : oWP ω γ κ Q T pc L (.int y :: .long x :: S) := by
  obtain ⟨hx, hby, -, -, -, -, -, -, -, -, -, locs, Y, -⟩ := X
  subst hp
  obtain ⟨s₂, o, hs, r⟩ := K
  exact ⟨s₂, o, XS.lshr Y.here hx rfl (hb hby hd) rfl hs, r⟩
theorem ow_lushr (X : oSt Z ω γ κ T h cs ss) (pc' : Nat) {x : Int64} {y : Int32} (hd : decode κ.1 pc = .ok (.lushr, 1)) (hp : pc + 1 = pc') 
    (K : oWP ω γ κ Q T pc' L (.long ((x.toUInt64 >>> (y &&& 0x3f).toInt64.toUInt64).toInt64) :: S)) : oWP ω γ κ Q T pc L (.int y :: .long x :: S) := by
  obtain ⟨hx, hby, -, -, -, -, -, -, -, -, -, locs, Y, -⟩ := X
  subst hp
  obtain ⟨s₂, o, hs, r⟩ := K
  exact ⟨s₂, o, XS.lushr Y.here hx rfl (hb hby hd) rfl hs, r⟩
theorem ow_ldiv (X : oSt Z ω γ κ T h cs ss) (pc' : Nat) {x y : Int64} (hd : decode κ.1 pc = .ok (.ldiv, 1)) (hp : pc + 1 = pc') (hy : y ≠ 0)
    (K : oWP ω γ κ Q T pc' L (.long (x / y) :: S)) : oWP ω γ κ Q T pc L (.long y :: .long x :: S) := by
  obtain ⟨hx, hby, -, -, -, -, -, -, -, -, -, locs, Y, -⟩ := X
  subst hp
  obtain ⟨s₂, o, hs, r⟩ := K
  exact ⟨s₂, o, XS.ldiv Y.here hx rfl (hb hby hd) rfl hy hs, r⟩
theorem ow_lrem (X : oSt Z ω γ κ T h cs ss) (pc' : Nat) {x y : Int64} (hd : decode κ.1 pc = .ok (.lrem, 1)) (hp : pc + 1 = pc') (hy : y ≠ 0)
    (K : oWP ω γ κ Q T pc' L (.long (x % y) :: S)) : oWP ω γ κ Q T pc L (.long y :: .long x :: S) := by
  obtain ⟨hx, hby, -, -, -, -, -, -, -, -, -, locs, Y, -⟩ := X
  subst hp
  obtain ⟨s₂, o, hs, r⟩ := K
  rw [← lrem_mod] at hs; exact ⟨s₂, o, XS.lrem Y.here hx rfl (hb hby hd) rfl hy hs, r⟩
theorem ow_i2l (X : oSt Z ω γ κ T h cs ss) (pc' : Nat) {x : Int32} (hd : decode κ.1 pc = .ok (.i2l, 1)) (hp : pc + 1 = pc') 
    (K : oWP ω γ κ Q T pc' L (.long x.toInt64 :: S)) : oWP ω γ κ Q T pc L (.int x :: S) := by
  obtain ⟨hx, hby, -, -, -, -, -, -, -, -, -, locs, Y, -⟩ := X
  subst hp
  obtain ⟨s₂, o, hs, r⟩ := K
  exact ⟨s₂, o, XS.i2l Y.here hx rfl (hb hby hd) rfl hs, r⟩
theorem ow_l2i (X : oSt Z ω γ κ T h cs ss) (pc' : Nat) {x : Int64} (hd : decode κ.1 pc = .ok (.l2i, 1)) (hp : pc + 1 = pc') 
    (K : oWP ω γ κ Q T pc' L (.int x.toInt32 :: S)) : oWP ω γ κ Q T pc L (.long x :: S) := by
  obtain ⟨hx, hby, -, -, -, -, -, -, -, -, -, locs, Y, -⟩ := X
  subst hp
  obtain ⟨s₂, o, hs, r⟩ := K
  exact ⟨s₂, o, XS.l2i Y.here hx rfl (hb hby hd) rfl hs, r⟩
theorem ow_i2b (X : oSt Z ω γ κ T h cs ss) (pc' : Nat) {x : Int32} (hd : decode κ.1 pc = .ok (.i2b, 1)) (hp : pc + 1 = pc') 
    (K : oWP ω γ κ Q T pc' L (.int x.toInt8.toInt32 :: S)) : oWP ω γ κ Q T pc L (.int x :: S) := by
  obtain ⟨hx, hby, -, -, -, -, -, -, -, -, -, locs, Y, -⟩ := X
  subst hp
  obtain ⟨s₂, o, hs, r⟩ := K
  exact ⟨s₂, o, XS.i2b Y.here hx rfl (hb hby hd) rfl hs, r⟩
theorem ow_i2c (X : oSt Z ω γ κ T h cs ss) (pc' : Nat) {x : Int32} (hd : decode κ.1 pc = .ok (.i2c, 1)) (hp : pc + 1 = pc') 
    (K : oWP ω γ κ Q T pc' L (.int x.toUInt32.toUInt16.toUInt32.toInt32 :: S)) : oWP ω γ κ Q T pc L (.int x :: S) := by
  obtain ⟨hx, hby, -, -, -, -, -, -, -, -, -, locs, Y, -⟩ := X
  subst hp
  obtain ⟨s₂, o, hs, r⟩ := K
  exact ⟨s₂, o, XS.i2c Y.here hx rfl (hb hby hd) rfl hs, r⟩
theorem ow_i2s (X : oSt Z ω γ κ T h cs ss) (pc' : Nat) {x : Int32} (hd : decode κ.1 pc = .ok (.i2s, 1)) (hp : pc + 1 = pc') 
    (K : oWP ω γ κ Q T pc' L (.int x.toInt16.toInt32 :: S)) : oWP ω γ κ Q T pc L (.int x :: S) := by
  obtain ⟨hx, hby, -, -, -, -, -, -, -, -, -, locs, Y, -⟩ := X
  subst hp
  obtain ⟨s₂, o, hs, r⟩ := K
  exact ⟨s₂, o, XS.i2s Y.here hx rfl (hb hby hd) rfl hs, r⟩
theorem ow_dup (X : oSt Z ω γ κ T h cs ss) (pc' : Nat) {x : Value} (hd : decode κ.1 pc = .ok (.dup, 1)) (hp : pc + 1 = pc') (hc : x.category = 1)
    (K : oWP ω γ κ Q T pc' L (x :: x :: S)) : oWP ω γ κ Q T pc L (x :: S) := by
  obtain ⟨hx, hby, -, -, -, -, -, -, -, -, -, locs, Y, -⟩ := X
  subst hp
  obtain ⟨s₂, o, hs, r⟩ := K
  exact ⟨s₂, o, XS.dup Y.here hx rfl (hb hby hd) rfl hc hs, r⟩
theorem ow_pop (X : oSt Z ω γ κ T h cs ss) (pc' : Nat) {x : Value} (hd : decode κ.1 pc = .ok (.pop, 1)) (hp : pc + 1 = pc') (hc : x.category = 1)
    (K : oWP ω γ κ Q T pc' L (S)) : oWP ω γ κ Q T pc L (x :: S) := by
  obtain ⟨hx, hby, -, -, -, -, -, -, -, -, -, locs, Y, -⟩ := X
  subst hp
  obtain ⟨s₂, o, hs, r⟩ := K
  exact ⟨s₂, o, XS.pop Y.here hx rfl (hb hby hd) rfl hc hs, r⟩
theorem ow_dupX1 (X : oSt Z ω γ κ T h cs ss) (pc' : Nat) {x y : Value} (hd : decode κ.1 pc = .ok (.dup_x1, 1)) (hp : pc + 1 = pc') (hc : x.category = 1) (hc' : y.category = 1)
    (K : oWP ω γ κ Q T pc' L (x :: y :: x :: S)) : oWP ω γ κ Q T pc L (x :: y :: S) := by
  obtain ⟨hx, hby, -, -, -, -, -, -, -, -, -, locs, Y, -⟩ := X
  subst hp
  obtain ⟨s₂, o, hs, r⟩ := K
  exact ⟨s₂, o, XS.dupX1 Y.here hx rfl (hb hby hd) rfl hc hc' hs, r⟩
theorem ow_dup2 (X : oSt Z ω γ κ T h cs ss) (pc' : Nat) {x y : Value} (hd : decode κ.1 pc = .ok (.dup2, 1)) (hp : pc + 1 = pc') (hc : x.category = 1) (hc' : y.category = 1)
    (K : oWP ω γ κ Q T pc' L (x :: y :: x :: y :: S)) : oWP ω γ κ Q T pc L (x :: y :: S) := by
  obtain ⟨hx, hby, -, -, -, -, -, -, -, -, -, locs, Y, -⟩ := X
  subst hp
  obtain ⟨s₂, o, hs, r⟩ := K
  exact ⟨s₂, o, XT.dup2 Y.here hx rfl (hb hby hd) rfl hc hc' hs, r⟩
theorem oXpop2L {tb : Tables} [Ours tb] {e : Env} {below : List Frame} {T target : State} {m : MethodId} {c : Code} {g : JFrame} (h : At T m c below) (hx : tb.exec = Jvm.exec) (hg : g.method = m) {x : Int64} {rest : List Value} (hd : decode c.code g.pc = .ok (.pop2, 1)) (hs : g.stack = .long x :: rest)
    (hr : Steps tb e below (T.setTop { g with pc := g.pc + 1, stack := rest }) target) : Steps tb e below (T.setTop g) target := by
  subst hg
  jvm_step h [h.top, hx, hd, hs, Value.category]
  exact hr
theorem ow_pop2L (X : oSt Z ω γ κ T h cs ss) (pc' : Nat) {x : Int64} (hd : decode κ.1 pc = .ok (.pop2, 1)) (hp : pc + 1 = pc') 
    (K : oWP ω γ κ Q T pc' L (S)) : oWP ω γ κ Q T pc L (.long x :: S) := by
  obtain ⟨hx, hby, -, -, -, -, -, -, -, -, -, locs, Y, -⟩ := X
  subst hp
  obtain ⟨s₂, o, hs, r⟩ := K
  exact ⟨s₂, o, oXpop2L Y.here hx rfl (hb hby hd) rfl hs, r⟩
theorem ow_ldcI (X : oSt Z ω γ κ T h cs ss) (pc' i : Nat) {own : String} {idx : Nat} {v : Int32} (hw : tables_1[i]? = some (.constant own idx v)) (ho : κ.2.2.1 = own) (hd : decode κ.1 pc = .ok (.ldc idx, 2)) (hp : pc + 2 = pc')
    (K : oWP ω γ κ Q T pc' L (.int v :: S)) : oWP ω γ κ Q T pc L S := by
  have hw' := oSt_at X i hw
  obtain ⟨hx, hby, -, hown, -, -, -, hZ, -, -, -, locs, Y, -⟩ := X
  subst hp ho
  obtain ⟨s₂, o, hs, r⟩ := K
  exact ⟨s₂, o, Stand.ldcI Y hx hown (mv hZ hw') rfl (hb hby hd) hs, r⟩
theorem ow_ldcWI (X : oSt Z ω γ κ T h cs ss) (pc' i : Nat) {own : String} {idx : Nat} {v : Int32} (hw : tables_1[i]? = some (.constant own idx v)) (ho : κ.2.2.1 = own) (hd : decode κ.1 pc = .ok (.ldc_w idx, 3)) (hp : pc + 3 = pc')
    (K : oWP ω γ κ Q T pc' L (.int v :: S)) : oWP ω γ κ Q T pc L S := by
  have hw' := oSt_at X i hw
  obtain ⟨hx, hby, -, hown, -, -, -, hZ, -, -, -, locs, Y, -⟩ := X
  subst hp ho
  obtain ⟨s₂, o, hs, r⟩ := K
  exact ⟨s₂, o, Stand.ldcWI Y hx hown (mv hZ hw') rfl (hb hby hd) hs, r⟩
theorem ow_ldc2J (X : oSt Z ω γ κ T h cs ss) (pc' i : Nat) {own : String} {idx : Nat} {v : Int64} (hw : tables_1[i]? = some (.constantLong own idx v)) (ho : κ.2.2.1 = own) (hd : decode κ.1 pc = .ok (.ldc2_w idx, 3)) (hp : pc + 3 = pc')
    (K : oWP ω γ κ Q T pc' L (.long v :: S)) : oWP ω γ κ Q T pc L S := by
  have hw' := oSt_at X i hw
  obtain ⟨hx, hby, -, hown, -, -, -, hZ, -, -, -, locs, Y, -⟩ := X
  subst hp ho
  obtain ⟨s₂, o, hs, r⟩ := K
  exact ⟨s₂, o, Stand.ldc2J Y hx hown (mv hZ hw') rfl (hb hby hd) hs, r⟩
theorem ow_goto (X : oSt Z ω γ κ T h cs ss) (pc' : Nat) {o : Int} (hd : decode κ.1 pc = .ok (.goto o, 3)) (hp : (pc : Int) + o = (pc' : Int))
    (K : oWP ω γ κ Q T pc' L S) : oWP ω γ κ Q T pc L S := by
  obtain ⟨hx, hby, -, -, -, -, -, -, -, -, -, locs, Y, -⟩ := X
  obtain ⟨s₂, o, hs, r⟩ := K
  exact ⟨s₂, o, XS.goto Y.here hx rfl (pc0 := pc) rfl (hb hby hd) (by omega) (by omega) hs, r⟩
theorem ow_if (X : oSt Z ω γ κ T h cs ss) (pc' pq : Nat) {cd : ClassFile.Cond} {x : Int32} {o : Int} (hd : decode κ.1 pc = .ok (.ifCond cd o, 3)) (hp : pc + 3 = pc') (hq : (pc : Int) + o = (pq : Int))
    (Ky : ifCond.holds cd x = true → oWP ω γ κ Q T pq L S) (Kn : ifCond.holds cd x = false → oWP ω γ κ Q T pc' L S) : oWP ω γ κ Q T pc L (.int x :: S) := by
  obtain ⟨hx, hby, -, -, -, -, -, -, -, -, -, locs, Y, -⟩ := X
  subst hp
  cases hc : ifCond.holds cd x
  · obtain ⟨s₂, o, hs, r⟩ := Kn hc
    exact ⟨s₂, o, XS.ifNo Y.here hx rfl (hb hby hd) rfl hc hs, r⟩
  · obtain ⟨s₂, o, hs, r⟩ := Ky hc
    exact ⟨s₂, o, XS.ifYes Y.here hx rfl (pc0 := pc) rfl (hb hby hd) rfl hc (by omega) (by omega) hs, r⟩
theorem ow_icmp (X : oSt Z ω γ κ T h cs ss) (pc' pq : Nat) {cd : ClassFile.Cond} {x y : Int32} {o : Int} (hd : decode κ.1 pc = .ok (.if_icmp cd o, 3)) (hp : pc + 3 = pc') (hq : (pc : Int) + o = (pq : Int))
    (Ky : if_icmp.holds cd x y = true → oWP ω γ κ Q T pq L S) (Kn : if_icmp.holds cd x y = false → oWP ω γ κ Q T pc' L S) : oWP ω γ κ Q T pc L (.int y :: .int x :: S) := by
  obtain ⟨hx, hby, -, -, -, -, -, -, -, -, -, locs, Y, -⟩ := X
  subst hp
  cases hc : if_icmp.holds cd x y
  · obtain ⟨s₂, o, hs, r⟩ := Kn hc
    exact ⟨s₂, o, XS.icmpNo Y.here hx rfl (hb hby hd) rfl hc hs, r⟩
  · obtain ⟨s₂, o, hs, r⟩ := Ky hc
    exact ⟨s₂, o, XS.icmpYes Y.here hx rfl (pc0 := pc) rfl (hb hby hd) rfl hc (by omega) (by omega) hs, r⟩
theorem o0 : (0 : Int32).toInt = 0 := rfl
theorem ow_if_eq (X : oSt Z ω γ κ T h cs ss) (pc' pq : Nat) {x : Int32} {o : Int} (hd : decode κ.1 pc = .ok (.ifCond .eq o, 3)) (hp : pc + 3 = pc') (hq : (pc : Int) + o = (pq : Int))
    (Ky : x.toInt = 0 → oWP ω γ κ Q T pq L S) (Kn : x.toInt ≠ 0 → oWP ω γ κ Q T pc' L S) : oWP ω γ κ Q T pc L (.int x :: S) :=
  ow_if X pc' pq hd hp hq (fun q => Ky (by simp only [ifCond.holds, decide_eq_true_eq, decide_eq_false_iff_not, beq_iff_eq, bne_iff_ne, ne_eq, Int32.lt_iff_toInt_lt, Int32.le_iff_toInt_le, ← Int32.toInt_inj, o0, GT.gt, GE.ge, beq_eq_false_iff_ne, bne_eq_false_iff_eq, Decidable.not_not] at q; omega)) (fun q => Kn (by simp only [ifCond.holds, decide_eq_true_eq, decide_eq_false_iff_not, beq_iff_eq, bne_iff_ne, ne_eq, Int32.lt_iff_toInt_lt, Int32.le_iff_toInt_le, ← Int32.toInt_inj, o0, GT.gt, GE.ge, beq_eq_false_iff_ne, bne_eq_false_iff_eq, Decidable.not_not] at q; omega))
theorem ow_icmp_eq (X : oSt Z ω γ κ T h cs ss) (pc' pq : Nat) {x y : Int32} {o : Int} (hd : decode κ.1 pc = .ok (.if_icmp .eq o, 3)) (hp : pc + 3 = pc') (hq : (pc : Int) + o = (pq : Int))
    (Ky : x.toInt = y.toInt → oWP ω γ κ Q T pq L S) (Kn : x.toInt ≠ y.toInt → oWP ω γ κ Q T pc' L S) : oWP ω γ κ Q T pc L (.int y :: .int x :: S) :=
  ow_icmp X pc' pq hd hp hq (fun q => Ky (by simp only [if_icmp.holds, decide_eq_true_eq, decide_eq_false_iff_not, beq_iff_eq, bne_iff_ne, ne_eq, Int32.lt_iff_toInt_lt, Int32.le_iff_toInt_le, ← Int32.toInt_inj, o0, GT.gt, GE.ge, beq_eq_false_iff_ne, bne_eq_false_iff_eq, Decidable.not_not] at q; omega)) (fun q => Kn (by simp only [if_icmp.holds, decide_eq_true_eq, decide_eq_false_iff_not, beq_iff_eq, bne_iff_ne, ne_eq, Int32.lt_iff_toInt_lt, Int32.le_iff_toInt_le, ← Int32.toInt_inj, o0, GT.gt, GE.ge, beq_eq_false_iff_ne, bne_eq_false_iff_eq, Decidable.not_not] at q; omega))
theorem ow_if_ne (X : oSt Z ω γ κ T h cs ss) (pc' pq : Nat) {x : Int32} {o : Int} (hd : decode κ.1 pc = .ok (.ifCond .ne o, 3)) (hp : pc + 3 = pc') (hq : (pc : Int) + o = (pq : Int))
    (Ky : x.toInt ≠ 0 → oWP ω γ κ Q T pq L S) (Kn : x.toInt = 0 → oWP ω γ κ Q T pc' L S) : oWP ω γ κ Q T pc L (.int x :: S) :=
  ow_if X pc' pq hd hp hq (fun q => Ky (by simp only [ifCond.holds, decide_eq_true_eq, decide_eq_false_iff_not, beq_iff_eq, bne_iff_ne, ne_eq, Int32.lt_iff_toInt_lt, Int32.le_iff_toInt_le, ← Int32.toInt_inj, o0, GT.gt, GE.ge, beq_eq_false_iff_ne, bne_eq_false_iff_eq, Decidable.not_not] at q; omega)) (fun q => Kn (by simp only [ifCond.holds, decide_eq_true_eq, decide_eq_false_iff_not, beq_iff_eq, bne_iff_ne, ne_eq, Int32.lt_iff_toInt_lt, Int32.le_iff_toInt_le, ← Int32.toInt_inj, o0, GT.gt, GE.ge, beq_eq_false_iff_ne, bne_eq_false_iff_eq, Decidable.not_not] at q; omega))
theorem ow_icmp_ne (X : oSt Z ω γ κ T h cs ss) (pc' pq : Nat) {x y : Int32} {o : Int} (hd : decode κ.1 pc = .ok (.if_icmp .ne o, 3)) (hp : pc + 3 = pc') (hq : (pc : Int) + o = (pq : Int))
    (Ky : x.toInt ≠ y.toInt → oWP ω γ κ Q T pq L S) (Kn : x.toInt = y.toInt → oWP ω γ κ Q T pc' L S) : oWP ω γ κ Q T pc L (.int y :: .int x :: S) :=
  ow_icmp X pc' pq hd hp hq (fun q => Ky (by simp only [if_icmp.holds, decide_eq_true_eq, decide_eq_false_iff_not, beq_iff_eq, bne_iff_ne, ne_eq, Int32.lt_iff_toInt_lt, Int32.le_iff_toInt_le, ← Int32.toInt_inj, o0, GT.gt, GE.ge, beq_eq_false_iff_ne, bne_eq_false_iff_eq, Decidable.not_not] at q; omega)) (fun q => Kn (by simp only [if_icmp.holds, decide_eq_true_eq, decide_eq_false_iff_not, beq_iff_eq, bne_iff_ne, ne_eq, Int32.lt_iff_toInt_lt, Int32.le_iff_toInt_le, ← Int32.toInt_inj, o0, GT.gt, GE.ge, beq_eq_false_iff_ne, bne_eq_false_iff_eq, Decidable.not_not] at q; omega))
theorem ow_if_lt (X : oSt Z ω γ κ T h cs ss) (pc' pq : Nat) {x : Int32} {o : Int} (hd : decode κ.1 pc = .ok (.ifCond .lt o, 3)) (hp : pc + 3 = pc') (hq : (pc : Int) + o = (pq : Int))
    (Ky : x.toInt < 0 → oWP ω γ κ Q T pq L S) (Kn : 0 ≤ x.toInt → oWP ω γ κ Q T pc' L S) : oWP ω γ κ Q T pc L (.int x :: S) :=
  ow_if X pc' pq hd hp hq (fun q => Ky (by simp only [ifCond.holds, decide_eq_true_eq, decide_eq_false_iff_not, beq_iff_eq, bne_iff_ne, ne_eq, Int32.lt_iff_toInt_lt, Int32.le_iff_toInt_le, ← Int32.toInt_inj, o0, GT.gt, GE.ge, beq_eq_false_iff_ne, bne_eq_false_iff_eq, Decidable.not_not] at q; omega)) (fun q => Kn (by simp only [ifCond.holds, decide_eq_true_eq, decide_eq_false_iff_not, beq_iff_eq, bne_iff_ne, ne_eq, Int32.lt_iff_toInt_lt, Int32.le_iff_toInt_le, ← Int32.toInt_inj, o0, GT.gt, GE.ge, beq_eq_false_iff_ne, bne_eq_false_iff_eq, Decidable.not_not] at q; omega))
theorem ow_icmp_lt (X : oSt Z ω γ κ T h cs ss) (pc' pq : Nat) {x y : Int32} {o : Int} (hd : decode κ.1 pc = .ok (.if_icmp .lt o, 3)) (hp : pc + 3 = pc') (hq : (pc : Int) + o = (pq : Int))
    (Ky : x.toInt < y.toInt → oWP ω γ κ Q T pq L S) (Kn : y.toInt ≤ x.toInt → oWP ω γ κ Q T pc' L S) : oWP ω γ κ Q T pc L (.int y :: .int x :: S) :=
  ow_icmp X pc' pq hd hp hq (fun q => Ky (by simp only [if_icmp.holds, decide_eq_true_eq, decide_eq_false_iff_not, beq_iff_eq, bne_iff_ne, ne_eq, Int32.lt_iff_toInt_lt, Int32.le_iff_toInt_le, ← Int32.toInt_inj, o0, GT.gt, GE.ge, beq_eq_false_iff_ne, bne_eq_false_iff_eq, Decidable.not_not] at q; omega)) (fun q => Kn (by simp only [if_icmp.holds, decide_eq_true_eq, decide_eq_false_iff_not, beq_iff_eq, bne_iff_ne, ne_eq, Int32.lt_iff_toInt_lt, Int32.le_iff_toInt_le, ← Int32.toInt_inj, o0, GT.gt, GE.ge, beq_eq_false_iff_ne, bne_eq_false_iff_eq, Decidable.not_not] at q; omega))
theorem ow_if_ge (X : oSt Z ω γ κ T h cs ss) (pc' pq : Nat) {x : Int32} {o : Int} (hd : decode κ.1 pc = .ok (.ifCond .ge o, 3)) (hp : pc + 3 = pc') (hq : (pc : Int) + o = (pq : Int))
    (Ky : 0 ≤ x.toInt → oWP ω γ κ Q T pq L S) (Kn : x.toInt < 0 → oWP ω γ κ Q T pc' L S) : oWP ω γ κ Q T pc L (.int x :: S) :=
  ow_if X pc' pq hd hp hq (fun q => Ky (by simp only [ifCond.holds, decide_eq_true_eq, decide_eq_false_iff_not, beq_iff_eq, bne_iff_ne, ne_eq, Int32.lt_iff_toInt_lt, Int32.le_iff_toInt_le, ← Int32.toInt_inj, o0, GT.gt, GE.ge, beq_eq_false_iff_ne, bne_eq_false_iff_eq, Decidable.not_not] at q; omega)) (fun q => Kn (by simp only [ifCond.holds, decide_eq_true_eq, decide_eq_false_iff_not, beq_iff_eq, bne_iff_ne, ne_eq, Int32.lt_iff_toInt_lt, Int32.le_iff_toInt_le, ← Int32.toInt_inj, o0, GT.gt, GE.ge, beq_eq_false_iff_ne, bne_eq_false_iff_eq, Decidable.not_not] at q; omega))
theorem ow_icmp_ge (X : oSt Z ω γ κ T h cs ss) (pc' pq : Nat) {x y : Int32} {o : Int} (hd : decode κ.1 pc = .ok (.if_icmp .ge o, 3)) (hp : pc + 3 = pc') (hq : (pc : Int) + o = (pq : Int))
    (Ky : y.toInt ≤ x.toInt → oWP ω γ κ Q T pq L S) (Kn : x.toInt < y.toInt → oWP ω γ κ Q T pc' L S) : oWP ω γ κ Q T pc L (.int y :: .int x :: S) :=
  ow_icmp X pc' pq hd hp hq (fun q => Ky (by simp only [if_icmp.holds, decide_eq_true_eq, decide_eq_false_iff_not, beq_iff_eq, bne_iff_ne, ne_eq, Int32.lt_iff_toInt_lt, Int32.le_iff_toInt_le, ← Int32.toInt_inj, o0, GT.gt, GE.ge, beq_eq_false_iff_ne, bne_eq_false_iff_eq, Decidable.not_not] at q; omega)) (fun q => Kn (by simp only [if_icmp.holds, decide_eq_true_eq, decide_eq_false_iff_not, beq_iff_eq, bne_iff_ne, ne_eq, Int32.lt_iff_toInt_lt, Int32.le_iff_toInt_le, ← Int32.toInt_inj, o0, GT.gt, GE.ge, beq_eq_false_iff_ne, bne_eq_false_iff_eq, Decidable.not_not] at q; omega))
theorem ow_if_gt (X : oSt Z ω γ κ T h cs ss) (pc' pq : Nat) {x : Int32} {o : Int} (hd : decode κ.1 pc = .ok (.ifCond .gt o, 3)) (hp : pc + 3 = pc') (hq : (pc : Int) + o = (pq : Int))
    (Ky : 0 < x.toInt → oWP ω γ κ Q T pq L S) (Kn : x.toInt ≤ 0 → oWP ω γ κ Q T pc' L S) : oWP ω γ κ Q T pc L (.int x :: S) :=
  ow_if X pc' pq hd hp hq (fun q => Ky (by simp only [ifCond.holds, decide_eq_true_eq, decide_eq_false_iff_not, beq_iff_eq, bne_iff_ne, ne_eq, Int32.lt_iff_toInt_lt, Int32.le_iff_toInt_le, ← Int32.toInt_inj, o0, GT.gt, GE.ge, beq_eq_false_iff_ne, bne_eq_false_iff_eq, Decidable.not_not] at q; omega)) (fun q => Kn (by simp only [ifCond.holds, decide_eq_true_eq, decide_eq_false_iff_not, beq_iff_eq, bne_iff_ne, ne_eq, Int32.lt_iff_toInt_lt, Int32.le_iff_toInt_le, ← Int32.toInt_inj, o0, GT.gt, GE.ge, beq_eq_false_iff_ne, bne_eq_false_iff_eq, Decidable.not_not] at q; omega))
theorem ow_icmp_gt (X : oSt Z ω γ κ T h cs ss) (pc' pq : Nat) {x y : Int32} {o : Int} (hd : decode κ.1 pc = .ok (.if_icmp .gt o, 3)) (hp : pc + 3 = pc') (hq : (pc : Int) + o = (pq : Int))
    (Ky : y.toInt < x.toInt → oWP ω γ κ Q T pq L S) (Kn : x.toInt ≤ y.toInt → oWP ω γ κ Q T pc' L S) : oWP ω γ κ Q T pc L (.int y :: .int x :: S) :=
  ow_icmp X pc' pq hd hp hq (fun q => Ky (by simp only [if_icmp.holds, decide_eq_true_eq, decide_eq_false_iff_not, beq_iff_eq, bne_iff_ne, ne_eq, Int32.lt_iff_toInt_lt, Int32.le_iff_toInt_le, ← Int32.toInt_inj, o0, GT.gt, GE.ge, beq_eq_false_iff_ne, bne_eq_false_iff_eq, Decidable.not_not] at q; omega)) (fun q => Kn (by simp only [if_icmp.holds, decide_eq_true_eq, decide_eq_false_iff_not, beq_iff_eq, bne_iff_ne, ne_eq, Int32.lt_iff_toInt_lt, Int32.le_iff_toInt_le, ← Int32.toInt_inj, o0, GT.gt, GE.ge, beq_eq_false_iff_ne, bne_eq_false_iff_eq, Decidable.not_not] at q; omega))
theorem ow_if_le (X : oSt Z ω γ κ T h cs ss) (pc' pq : Nat) {x : Int32} {o : Int} (hd : decode κ.1 pc = .ok (.ifCond .le o, 3)) (hp : pc + 3 = pc') (hq : (pc : Int) + o = (pq : Int))
    (Ky : x.toInt ≤ 0 → oWP ω γ κ Q T pq L S) (Kn : 0 < x.toInt → oWP ω γ κ Q T pc' L S) : oWP ω γ κ Q T pc L (.int x :: S) :=
  ow_if X pc' pq hd hp hq (fun q => Ky (by simp only [ifCond.holds, decide_eq_true_eq, decide_eq_false_iff_not, beq_iff_eq, bne_iff_ne, ne_eq, Int32.lt_iff_toInt_lt, Int32.le_iff_toInt_le, ← Int32.toInt_inj, o0, GT.gt, GE.ge, beq_eq_false_iff_ne, bne_eq_false_iff_eq, Decidable.not_not] at q; omega)) (fun q => Kn (by simp only [ifCond.holds, decide_eq_true_eq, decide_eq_false_iff_not, beq_iff_eq, bne_iff_ne, ne_eq, Int32.lt_iff_toInt_lt, Int32.le_iff_toInt_le, ← Int32.toInt_inj, o0, GT.gt, GE.ge, beq_eq_false_iff_ne, bne_eq_false_iff_eq, Decidable.not_not] at q; omega))
theorem ow_icmp_le (X : oSt Z ω γ κ T h cs ss) (pc' pq : Nat) {x y : Int32} {o : Int} (hd : decode κ.1 pc = .ok (.if_icmp .le o, 3)) (hp : pc + 3 = pc') (hq : (pc : Int) + o = (pq : Int))
    (Ky : x.toInt ≤ y.toInt → oWP ω γ κ Q T pq L S) (Kn : y.toInt < x.toInt → oWP ω γ κ Q T pc' L S) : oWP ω γ κ Q T pc L (.int y :: .int x :: S) :=
  ow_icmp X pc' pq hd hp hq (fun q => Ky (by simp only [if_icmp.holds, decide_eq_true_eq, decide_eq_false_iff_not, beq_iff_eq, bne_iff_ne, ne_eq, Int32.lt_iff_toInt_lt, Int32.le_iff_toInt_le, ← Int32.toInt_inj, o0, GT.gt, GE.ge, beq_eq_false_iff_ne, bne_eq_false_iff_eq, Decidable.not_not] at q; omega)) (fun q => Kn (by simp only [if_icmp.holds, decide_eq_true_eq, decide_eq_false_iff_not, beq_iff_eq, bne_iff_ne, ne_eq, Int32.lt_iff_toInt_lt, Int32.le_iff_toInt_le, ← Int32.toInt_inj, o0, GT.gt, GE.ge, beq_eq_false_iff_ne, bne_eq_false_iff_eq, Decidable.not_not] at q; omega))
theorem ow_lcmp (X : oSt Z ω γ κ T h cs ss) (pc' : Nat) {x y : Int64} (hd : decode κ.1 pc = .ok (.lcmp, 1)) (hp : pc + 1 = pc')
    (K : oWP ω γ κ Q T pc' L (.int (lcmpW x y) :: S)) : oWP ω γ κ Q T pc L (.long y :: .long x :: S) := by
  obtain ⟨hx, hby, -, -, -, -, -, -, -, -, -, locs, Y, -⟩ := X
  subst hp
  obtain ⟨s₂, o, hs, r⟩ := K
  exact ⟨s₂, o, XS.lcmp Y.here hx rfl (hb hby hd) rfl hs, r⟩
theorem ow_lcmp_eq (X : oSt Z ω γ κ T h cs ss) (pc1 pc' pq : Nat) {x y : Int64} {o : Int} (hd : decode κ.1 pc = .ok (.lcmp, 1)) (hp1 : pc + 1 = pc1) (hd' : decode κ.1 pc1 = .ok (.ifCond .eq o, 3)) (hp : pc1 + 3 = pc') (hq : (pc1 : Int) + o = (pq : Int))
    (Ky : x.toInt = y.toInt → oWP ω γ κ Q T pq L S) (Kn : x.toInt ≠ y.toInt → oWP ω γ κ Q T pc' L S) : oWP ω γ κ Q T pc L (.long y :: .long x :: S) := by
  refine ow_lcmp X pc1 hd hp1 (ow_if_eq X pc' pq hd' hp hq (fun q => Ky ?_) (fun q => Kn ?_))
  · obtain ⟨c1, c2, c3⟩ := c_lcmp x y
    rcases Int.lt_trichotomy x.toInt y.toInt with a | a | a
    · have := c1 a; omega
    · have := c2 a; omega
    · have := c3 a; omega
  · obtain ⟨c1, c2, c3⟩ := c_lcmp x y
    rcases Int.lt_trichotomy x.toInt y.toInt with a | a | a
    · have := c1 a; omega
    · have := c2 a; omega
    · have := c3 a; omega
theorem ow_lcmp_ne (X : oSt Z ω γ κ T h cs ss) (pc1 pc' pq : Nat) {x y : Int64} {o : Int} (hd : decode κ.1 pc = .ok (.lcmp, 1)) (hp1 : pc + 1 = pc1) (hd' : decode κ.1 pc1 = .ok (.ifCond .ne o, 3)) (hp : pc1 + 3 = pc') (hq : (pc1 : Int) + o = (pq : Int))
    (Ky : x.toInt ≠ y.toInt → oWP ω γ κ Q T pq L S) (Kn : x.toInt = y.toInt → oWP ω γ κ Q T pc' L S) : oWP ω γ κ Q T pc L (.long y :: .long x :: S) := by
  refine ow_lcmp X pc1 hd hp1 (ow_if_ne X pc' pq hd' hp hq (fun q => Ky ?_) (fun q => Kn ?_))
  · obtain ⟨c1, c2, c3⟩ := c_lcmp x y
    rcases Int.lt_trichotomy x.toInt y.toInt with a | a | a
    · have := c1 a; omega
    · have := c2 a; omega
    · have := c3 a; omega
  · obtain ⟨c1, c2, c3⟩ := c_lcmp x y
    rcases Int.lt_trichotomy x.toInt y.toInt with a | a | a
    · have := c1 a; omega
    · have := c2 a; omega
    · have := c3 a; omega
theorem ow_lcmp_lt (X : oSt Z ω γ κ T h cs ss) (pc1 pc' pq : Nat) {x y : Int64} {o : Int} (hd : decode κ.1 pc = .ok (.lcmp, 1)) (hp1 : pc + 1 = pc1) (hd' : decode κ.1 pc1 = .ok (.ifCond .lt o, 3)) (hp : pc1 + 3 = pc') (hq : (pc1 : Int) + o = (pq : Int))
    (Ky : x.toInt < y.toInt → oWP ω γ κ Q T pq L S) (Kn : y.toInt ≤ x.toInt → oWP ω γ κ Q T pc' L S) : oWP ω γ κ Q T pc L (.long y :: .long x :: S) := by
  refine ow_lcmp X pc1 hd hp1 (ow_if_lt X pc' pq hd' hp hq (fun q => Ky ?_) (fun q => Kn ?_))
  · obtain ⟨c1, c2, c3⟩ := c_lcmp x y
    rcases Int.lt_trichotomy x.toInt y.toInt with a | a | a
    · have := c1 a; omega
    · have := c2 a; omega
    · have := c3 a; omega
  · obtain ⟨c1, c2, c3⟩ := c_lcmp x y
    rcases Int.lt_trichotomy x.toInt y.toInt with a | a | a
    · have := c1 a; omega
    · have := c2 a; omega
    · have := c3 a; omega
theorem ow_lcmp_ge (X : oSt Z ω γ κ T h cs ss) (pc1 pc' pq : Nat) {x y : Int64} {o : Int} (hd : decode κ.1 pc = .ok (.lcmp, 1)) (hp1 : pc + 1 = pc1) (hd' : decode κ.1 pc1 = .ok (.ifCond .ge o, 3)) (hp : pc1 + 3 = pc') (hq : (pc1 : Int) + o = (pq : Int))
    (Ky : y.toInt ≤ x.toInt → oWP ω γ κ Q T pq L S) (Kn : x.toInt < y.toInt → oWP ω γ κ Q T pc' L S) : oWP ω γ κ Q T pc L (.long y :: .long x :: S) := by
  refine ow_lcmp X pc1 hd hp1 (ow_if_ge X pc' pq hd' hp hq (fun q => Ky ?_) (fun q => Kn ?_))
  · obtain ⟨c1, c2, c3⟩ := c_lcmp x y
    rcases Int.lt_trichotomy x.toInt y.toInt with a | a | a
    · have := c1 a; omega
    · have := c2 a; omega
    · have := c3 a; omega
  · obtain ⟨c1, c2, c3⟩ := c_lcmp x y
    rcases Int.lt_trichotomy x.toInt y.toInt with a | a | a
    · have := c1 a; omega
    · have := c2 a; omega
    · have := c3 a; omega
theorem ow_lcmp_gt (X : oSt Z ω γ κ T h cs ss) (pc1 pc' pq : Nat) {x y : Int64} {o : Int} (hd : decode κ.1 pc = .ok (.lcmp, 1)) (hp1 : pc + 1 = pc1) (hd' : decode κ.1 pc1 = .ok (.ifCond .gt o, 3)) (hp : pc1 + 3 = pc') (hq : (pc1 : Int) + o = (pq : Int))
    (Ky : y.toInt < x.toInt → oWP ω γ κ Q T pq L S) (Kn : x.toInt ≤ y.toInt → oWP ω γ κ Q T pc' L S) : oWP ω γ κ Q T pc L (.long y :: .long x :: S) := by
  refine ow_lcmp X pc1 hd hp1 (ow_if_gt X pc' pq hd' hp hq (fun q => Ky ?_) (fun q => Kn ?_))
  · obtain ⟨c1, c2, c3⟩ := c_lcmp x y
    rcases Int.lt_trichotomy x.toInt y.toInt with a | a | a
    · have := c1 a; omega
    · have := c2 a; omega
    · have := c3 a; omega
  · obtain ⟨c1, c2, c3⟩ := c_lcmp x y
    rcases Int.lt_trichotomy x.toInt y.toInt with a | a | a
    · have := c1 a; omega
    · have := c2 a; omega
    · have := c3 a; omega
theorem ow_lcmp_le (X : oSt Z ω γ κ T h cs ss) (pc1 pc' pq : Nat) {x y : Int64} {o : Int} (hd : decode κ.1 pc = .ok (.lcmp, 1)) (hp1 : pc + 1 = pc1) (hd' : decode κ.1 pc1 = .ok (.ifCond .le o, 3)) (hp : pc1 + 3 = pc') (hq : (pc1 : Int) + o = (pq : Int))
    (Ky : x.toInt ≤ y.toInt → oWP ω γ κ Q T pq L S) (Kn : y.toInt < x.toInt → oWP ω γ κ Q T pc' L S) : oWP ω γ κ Q T pc L (.long y :: .long x :: S) := by
  refine ow_lcmp X pc1 hd hp1 (ow_if_le X pc' pq hd' hp hq (fun q => Ky ?_) (fun q => Kn ?_))
  · obtain ⟨c1, c2, c3⟩ := c_lcmp x y
    rcases Int.lt_trichotomy x.toInt y.toInt with a | a | a
    · have := c1 a; omega
    · have := c2 a; omega
    · have := c3 a; omega
  · obtain ⟨c1, c2, c3⟩ := c_lcmp x y
    rcases Int.lt_trichotomy x.toInt y.toInt with a | a | a
    · have := c1 a; omega
    · have := c2 a; omega
    · have := c3 a; omega
theorem ow_ifnull (X : oSt Z ω γ κ T h cs ss) (pc' pq : Nat) {v : Value} {o : Int} (hv : v.isRef = true) (hd : decode κ.1 pc = .ok (.ifnull o, 3)) (hp : pc + 3 = pc') (hq : (pc : Int) + o = (pq : Int))
    (Ky : v = .null → oWP ω γ κ Q T pq L S) (Kn : v ≠ .null → oWP ω γ κ Q T pc' L S) : oWP ω γ κ Q T pc L (v :: S) := by
  obtain ⟨hx, hby, -, -, -, -, -, -, -, -, -, locs, Y, -⟩ := X
  subst hp
  rcases ref_cases hv with rfl | ⟨a, rfl⟩
  · obtain ⟨s₂, o, hs, r⟩ := Ky rfl
    exact ⟨s₂, o, XS.ifnullYes Y.here hx rfl (pc0 := pc) rfl (hb hby hd) rfl (by omega) (by omega) hs, r⟩
  · obtain ⟨s₂, o, hs, r⟩ := Kn (by simp)
    exact ⟨s₂, o, XS.ifnullNo Y.here hx rfl (hb hby hd) rfl hs, r⟩
theorem ow_ifnonnull (X : oSt Z ω γ κ T h cs ss) (pc' pq : Nat) {v : Value} {o : Int} (hv : v.isRef = true) (hd : decode κ.1 pc = .ok (.ifnonnull o, 3)) (hp : pc + 3 = pc') (hq : (pc : Int) + o = (pq : Int))
    (Ky : v ≠ .null → oWP ω γ κ Q T pq L S) (Kn : v = .null → oWP ω γ κ Q T pc' L S) : oWP ω γ κ Q T pc L (v :: S) := by
  obtain ⟨hx, hby, -, -, -, -, -, -, -, -, -, locs, Y, -⟩ := X
  subst hp
  rcases ref_cases hv with rfl | ⟨a, rfl⟩
  · obtain ⟨s₂, o, hs, r⟩ := Kn rfl
    exact ⟨s₂, o, XS.ifnonnullNo Y.here hx rfl (hb hby hd) rfl hs, r⟩
  · obtain ⟨s₂, o, hs, r⟩ := Ky (by simp)
    exact ⟨s₂, o, XS.ifnonnullYes Y.here hx rfl (pc0 := pc) rfl (hb hby hd) rfl (by omega) (by omega) hs, r⟩
theorem ow_acmp_eq (X : oSt Z ω γ κ T h cs ss) (pc' pq : Nat) {v w : Value} {o : Int} (hv : v.isRef = true) (hw : w.isRef = true) (hd : decode κ.1 pc = .ok (.if_acmp .eq o, 3)) (hp : pc + 3 = pc') (hq : (pc : Int) + o = (pq : Int))
    (Ky : v = w → oWP ω γ κ Q T pq L S) (Kn : v ≠ w → oWP ω γ κ Q T pc' L S) : oWP ω γ κ Q T pc L (w :: v :: S) := by
  obtain ⟨hx, hby, -, -, -, -, -, -, -, -, -, locs, Y, -⟩ := X
  subst hp
  by_cases e : v = w
  · obtain ⟨s₂, o, hs, r⟩ := Ky e
    exact ⟨s₂, o, RoadKit.acmp Y hx rfl hv hw (pc0 := pc) rfl (hb hby hd) rfl (same := true) (by simp [e]) (by omega) (by simp [acV]; omega) hs, r⟩
  · obtain ⟨s₂, o, hs, r⟩ := Kn e
    exact ⟨s₂, o, RoadKit.acmp Y hx rfl hv hw (pc0 := pc) rfl (hb hby hd) rfl (same := false) (by simp [e]) (by omega) (by simp [acV]) hs, r⟩
theorem ow_acmp_ne (X : oSt Z ω γ κ T h cs ss) (pc' pq : Nat) {v w : Value} {o : Int} (hv : v.isRef = true) (hw : w.isRef = true) (hd : decode κ.1 pc = .ok (.if_acmp .ne o, 3)) (hp : pc + 3 = pc') (hq : (pc : Int) + o = (pq : Int))
    (Ky : v ≠ w → oWP ω γ κ Q T pq L S) (Kn : v = w → oWP ω γ κ Q T pc' L S) : oWP ω γ κ Q T pc L (w :: v :: S) := by
  obtain ⟨hx, hby, -, -, -, -, -, -, -, -, -, locs, Y, -⟩ := X
  subst hp
  by_cases e : v = w
  · obtain ⟨s₂, o, hs, r⟩ := Kn e
    exact ⟨s₂, o, RoadKit.acmp Y hx rfl hv hw (pc0 := pc) rfl (hb hby hd) rfl (same := true) (by simp [e]) (by omega) (by simp [acV]) hs, r⟩
  · obtain ⟨s₂, o, hs, r⟩ := Ky e
    exact ⟨s₂, o, RoadKit.acmp Y hx rfl hv hw (pc0 := pc) rfl (hb hby hd) rfl (same := false) (by simp [e]) (by omega) (by simp [acV]; omega) hs, r⟩
theorem ow_ret (X : oSt Z ω γ κ T h cs ss) {w : Value} {t : FieldType} {i : Instr} (hret : κ.2.2.2.2.1 = some t) (hn : narrow t w = w)
    (hi : (i = .ireturn ∧ (t = .int ∨ t = .boolean ∨ t = .byte ∨ t = .char ∨ t = .short) ∧ ∃ z, w = .int z) ∨ (i = .lreturn ∧ t = .long ∧ ∃ z, w = .long z) ∨ (i = .dreturn ∧ t = .double ∧ ∃ z, w = .double z) ∨ (i = .freturn ∧ t = .float ∧ ∃ z, w = .float z) ∨ (i = .areturn ∧ t.isReference = true ∧ w.isRef = true))
    (hd : decode κ.1 pc = .ok (i, 1)) (hc : cs ≤ κ.2.2.2.2.2.cells) (hsl : ss ≤ κ.2.2.2.2.2.slots) (hQ : Q (some w) h) : oWP ω γ κ Q T pc L (w :: S) := by
  obtain ⟨hx, hby, -, -, -, hr, hlk, -, -, -, hT, locs, Y, N⟩ := X
  obtain ⟨fs, hl, hrun, hended, hW, hsame⟩ := Y.leave (v := some w) (fun q => by rw [hr, hret] at q; cases q) hlk
  refine ⟨_, _, retOut Y hx (hr.trans hret) hn hi (hb hby hd) hl, hrun, hended, _, locs, rfl, ⟨N, ?_⟩, ⟨_, rfl⟩, hW, hsame.mono hc hsl⟩
  show Q (some w) T.heap
  rw [hT]; exact hQ
theorem ow_retI (X : oSt Z ω γ κ T h cs ss) {z : Int32} (hret : κ.2.2.2.2.1 = some .int) (hd : decode κ.1 pc = .ok (.ireturn, 1)) (hc : cs ≤ κ.2.2.2.2.2.cells) (hsl : ss ≤ κ.2.2.2.2.2.slots) (hQ : Q (some (.int z)) h) : oWP ω γ κ Q T pc L (.int z :: S) :=
  ow_ret X hret rfl (Or.inl ⟨rfl, Or.inl rfl, z, rfl⟩) hd hc hsl hQ
theorem ow_retZ (X : oSt Z ω γ κ T h cs ss) {z : Int32} (hret : κ.2.2.2.2.1 = some .boolean) (hd : decode κ.1 pc = .ok (.ireturn, 1)) (hc : cs ≤ κ.2.2.2.2.2.cells) (hsl : ss ≤ κ.2.2.2.2.2.slots) (hz : z = 0 ∨ z = 1) (hQ : Q (some (.int z)) h) : oWP ω γ κ Q T pc L (.int z :: S) :=
  ow_ret X hret (by rcases hz with rfl | rfl <;> rfl) (Or.inl ⟨rfl, Or.inr (Or.inl rfl), z, rfl⟩) hd hc hsl hQ
theorem ow_retC (X : oSt Z ω γ κ T h cs ss) {z : Int32} (hret : κ.2.2.2.2.1 = some .char) (hd : decode κ.1 pc = .ok (.ireturn, 1)) (hc : cs ≤ κ.2.2.2.2.2.cells) (hsl : ss ≤ κ.2.2.2.2.2.slots) (hz : z.toUInt32.toUInt16.toUInt32.toInt32 = z) (hQ : Q (some (.int z)) h) : oWP ω γ κ Q T pc L (.int z :: S) :=
  ow_ret X hret (by show Value.int z.toUInt32.toUInt16.toUInt32.toInt32 = _; rw [hz]) (Or.inl ⟨rfl, Or.inr (Or.inr (Or.inr (Or.inl rfl))), z, rfl⟩) hd hc hsl hQ
theorem ow_retJ (X : oSt Z ω γ κ T h cs ss) {z : Int64} (hret : κ.2.2.2.2.1 = some .long) (hd : decode κ.1 pc = .ok (.lreturn, 1)) (hc : cs ≤ κ.2.2.2.2.2.cells) (hsl : ss ≤ κ.2.2.2.2.2.slots) (hQ : Q (some (.long z)) h) : oWP ω γ κ Q T pc L (.long z :: S) :=
  ow_ret X hret rfl (Or.inr (Or.inl ⟨rfl, rfl, z, rfl⟩)) hd hc hsl hQ
theorem ow_retA (X : oSt Z ω γ κ T h cs ss) {v : Value} {t : FieldType} (hret : κ.2.2.2.2.1 = some t) (ht : t.isReference = true) (hv : v.isRef = true) (hd : decode κ.1 pc = .ok (.areturn, 1)) (hc : cs ≤ κ.2.2.2.2.2.cells) (hsl : ss ≤ κ.2.2.2.2.2.slots) (hQ : Q (some v) h) : oWP ω γ κ Q T pc L (v :: S) :=
  ow_ret X hret (by cases t <;> first | rfl | cases ht) (Or.inr (Or.inr (Or.inr (Or.inr ⟨rfl, ht, hv⟩)))) hd hc hsl hQ
theorem ow_retV (X : oSt Z ω γ κ T h cs ss) (hret : κ.2.2.2.2.1 = none) (hd : decode κ.1 pc = .ok (.return_, 1)) (hc : cs ≤ κ.2.2.2.2.2.cells) (hsl : ss ≤ κ.2.2.2.2.2.slots) (hQ : Q none h) : oWP ω γ κ Q T pc L [] := by
  obtain ⟨hx, hby, -, -, -, hr, hlk, -, -, -, hT, locs, Y, N⟩ := X
  obtain ⟨fs, hl, hrun, hended, hW, hsame⟩ := Y.leave (v := none) (fun _ => rfl) hlk
  refine ⟨_, _, Y.returnOut hx (hr.trans hret) (hb hby hd) hl, hrun, hended, _, locs, rfl, ⟨N, ?_⟩, ⟨_, rfl⟩, hW, hsame.mono hc hsl⟩
  show Q none T.heap
  rw [hT]; exact hQ
theorem ow_getF (X : oSt Z ω γ κ T h cs ss) (pc' i : Nat) {own O n d : String} {idx : Nat} {a : Addr} {v : Value} (hw : tables_1[i]? = some (.fieldLink own idx O n d)) (ho : κ.2.2.1 = own) (F : Fld Z h a O n d v) (hd : decode κ.1 pc = .ok (.getfield idx, 3)) (hp : pc + 3 = pc')
    (K : ∀ T', oSt Z ω γ κ T' h cs ss → oWP ω γ κ Q T' pc' L (v :: S)) : oWP ω γ κ Q T pc L (.ref a :: S) := by
  have hw' := oSt_at X i hw
  obtain ⟨hx, hby, hml, hown, hnm, hr, hlk, hZ, hT1, hn0, hT, locs, Y, N⟩ := X
  subst hp ho
  obtain ⟨T', Y', e', st⟩ := getF Y hx hZ hown (host := "") (Or.inl hw') Via.refl hT F (g := mkF γ.2.2.2.1 pc L (.ref a :: S)) rfl rfl (hb hby hd)
  obtain ⟨s₂, o, hs, r⟩ := K T' ⟨hx, hby, hml, hown, hnm, hr, hlk, hZ, hT1, hn0, e', locs, Y', N⟩
  exact ⟨s₂, o, st _ hs, r⟩
theorem ow_getS (X : oSt Z ω γ κ T h cs ss) (pc' i : Nat) {own O n d : String} {idx : Nat} {v : Value} (hw : tables_1[i]? = some (.fieldLink own idx O n d)) (ho : κ.2.2.1 = own) (F : Sta Z h O n d v) (hd : decode κ.1 pc = .ok (.getstatic idx, 3)) (hp : pc + 3 = pc')
    (K : ∀ T', oSt Z ω γ κ T' h cs ss → oWP ω γ κ Q T' pc' L (v :: S)) : oWP ω γ κ Q T pc L S := by
  have hw' := oSt_at X i hw
  obtain ⟨hx, hby, hml, hown, hnm, hr, hlk, hZ, hT1, hn0, hT, locs, Y, N⟩ := X
  subst hp ho
  obtain ⟨T', Y', e', st⟩ := getS Y hx hZ hown hw' Via.refl hT F (g := mkF γ.2.2.2.1 pc L S) rfl (hb hby hd) (host := "")
  obtain ⟨s₂, o, hs, r⟩ := K T' ⟨hx, hby, hml, hown, hnm, hr, hlk, hZ, hT1, hn0, e', locs, Y', N⟩
  exact ⟨s₂, o, st _ hs, r⟩
theorem ow_putF (X : oSt Z ω γ κ T h cs ss) (pc' i k : Nat) {own O n d C : String} {idx kk : Nat} {a : Addr} {v old : Value} {ty : FieldType} (hw : tables_1[i]? = some (.fieldLink own idx O n d)) (ho : κ.2.2.1 = own) (F : Fld Z h a O n d old) (E : Exa Z h a C)
    (hl : (Jvm.Cond.lays C O n d).before ω.2.2 Z = true ∨ ((Jvm.Cond.laysFinal C O n d).before ω.2.2 Z = true ∧ κ.2.2.1 = O ∧ κ.2.2.2.1 = "<init>")) (hi : tables_1[k]? = some (.instantiable C kk)) (hty : parseFieldDescriptor d = some ty) (hn : narrow ty v = v) (hf : fits ty v = true) (ha : ω.2.1 ≤ a)
    (hd : decode κ.1 pc = .ok (.putfield idx, 3)) (hp : pc + 3 = pc')
    (K : ∀ T' h', oSt Z ω γ κ T' h' cs ss → Wr h h' a (RoadKit.slotOf Z O n d) v → oWP ω γ κ Q T' pc' L S) : oWP ω γ κ Q T pc L (v :: .ref a :: S) := by
  have hw' := oSt_at X i hw
  have hi' := oSt_at X k hi
  obtain ⟨hx, hby, hml, hown, hnm, hr, hlk, hZ, hT1, hn0, hT, locs, Y, N⟩ := X
  subst hp ho
  obtain ⟨T', h', Y', e', W, st⟩ := putF Y hx hZ hown (host := "") (Or.inl hw') Via.refl hT F E (hl.imp id fun q => ⟨q.1, q.2.1, hnm.trans q.2.2⟩) hi' hty hn hf (g := mkF γ.2.2.2.1 pc L (v :: .ref a :: S)) rfl rfl (hb hby hd)
  obtain ⟨s₂, o, hs, r⟩ := K T' h' ⟨hx, hby, hml, hown, hnm, hr, hlk, hZ, hT1, hn0, e', _, Y', Fr.snoc Y' N ha⟩ W
  exact ⟨s₂, o, st _ hs, r⟩
theorem ow_new (X : oSt Z ω γ κ T h cs ss) (pc' i1 i2 i3 : Nat) {own C : String} {idx n : Nat} (w1 : tables_1[i1]? = some (.classLink own idx C)) (ho : κ.2.2.1 = own) (w2 : tables_1[i2]? = some (.instantiable C n)) (w3 : tables_1[i3]? = some (.initialized C))
    (hd : decode κ.1 pc = .ok (.new idx, 3)) (hp : pc + 3 = pc') (hc : cs + 1 ≤ κ.2.2.2.2.2.cells) (hsl : ss + n ≤ κ.2.2.2.2.2.slots)
    (K : ∀ T' h' a, a = h.size → oSt Z ω γ κ T' h' (cs + 1) (ss + n) → Ext h h' → Exa Z h' a C → (∀ {O nm d : String} {ty : FieldType}, Laid Z ω.2.2 C O nm d → parseFieldDescriptor d = some ty → Fld Z h' a O nm d (defaultValue ty)) → ω.2.1 ≤ a → oWP ω γ κ Q T' pc' L (.ref a :: S)) : oWP ω γ κ Q T pc L S := by
  have w1' := oSt_at X i1 w1
  have w2' := oSt_at X i2 w2
  have w3' := oSt_at X i3 w3
  have hN := oSt_n0 X
  obtain ⟨hx, hby, hml, hown, hnm, hr, hlk, hZ, hT1, hn0, hT, locs, Y, N⟩ := X
  subst hp ho
  obtain ⟨T', h', Y', e', E, A, D, -, st⟩ := newO Y hx hZ hown w1' w2' w3' hT (g := mkF γ.2.2.2.1 pc L S) rfl (hb hby hd) hc hsl
  obtain ⟨s₂, o, hs, r⟩ := K T' h' h.size rfl ⟨hx, hby, hml, hown, hnm, hr, hlk, hZ, hT1, hn0, e', _, Y', N⟩ E A D hN
  exact ⟨s₂, o, st _ hs, r⟩
theorem ow_initO (X : oSt Z ω γ κ T h cs ss) (pc' i1 i2 i3 : Nat) {own : String} {idx : Nat} {a : Addr} (w1 : tables_1[i1]? = some (.methodLink own idx Lib.objectInit)) (ho : κ.2.2.1 = own) (w2 : tables_1[i2]? = some (.instanceMethod Lib.objectInit)) (w3 : tables_1[i3]? = some (.code Lib.objectInit ⟨#[0xb1]⟩ 1 none))
    (hd : decode κ.1 pc = .ok (.invokespecial idx, 3)) (hp : pc + 3 = pc') (hL : L.size = κ.2.1) (hf : 1 ≤ κ.2.2.2.2.2.frames) {W : Nat} (hW : (S.map fun v => v.category).sum ≤ W) (hl : W + 12 ≤ κ.2.2.2.2.2.locals)
    (K : ∀ T', oSt Z ω γ κ T' h cs ss → oWP ω γ κ Q T' pc' L S) : oWP ω γ κ Q T pc L (.ref a :: S) := by
  have w1' := oSt_at X i1 w1
  have w2' := oSt_at X i2 w2
  have w3' := oSt_at X i3 w3
  obtain ⟨hx, hby, hml, hown, hnm, hr, hlk, hZ, hT1, hn0, hT, locs, Y, N⟩ := X
  subst hp ho
  obtain ⟨T', Y', e', st⟩ := initO Y hx hZ hown w1' w2' w3' hT (g := mkF γ.2.2.2.1 pc L (.ref a :: S)) rfl (by rw [hml]; exact hL) rfl (hb hby hd) hf (W := W) (by show 2 * 0 + _ ≤ _; omega) hl
  obtain ⟨s₂, o, hs, r⟩ := K T' ⟨hx, hby, hml, hown, hnm, hr, hlk, hZ, hT1, hn0, e', _, Y', N⟩
  exact ⟨s₂, o, st _ hs, r⟩
theorem ow_callS (X : oSt Z ω γ κ T h cs ss) (pc' i1 i2 i3 i4 : Nat) {own : String} {idx : Nat} {y : MethodName} {κ' : OM} {Q' : Option Value → Heap → Prop} {as : List Value} {ps : List FieldType} {rt : Option FieldType} {W : Nat} {S0 : List Value}
    (w1 : tables_1[i1]? = some (.methodLink own idx y)) (ho : κ.2.2.1 = own) (w2 : tables_1[i2]? = some (.static y)) (w3 : tables_1[i3]? = some (.initialized y.cls)) (w4 : tables_1[i4]? = some (.code y κ'.1 κ'.2.1 κ'.2.2.2.2.1)) (hy : y.cls ≠ "java/lang/invoke/MethodHandle" ∧ y.cls ≠ "java/lang/invoke/VarHandle")
    (C : oC Z ω y κ' [] as.toArray h Q') (hf : κ'.2.2.2.2.2.frames + 1 ≤ κ.2.2.2.2.2.frames) (hl : W + (κ'.2.1 + 11) + κ'.2.2.2.2.2.locals ≤ κ.2.2.2.2.2.locals) (hW : (S.map fun v => v.category).sum ≤ W) (hc : cs + κ'.2.2.2.2.2.cells ≤ κ.2.2.2.2.2.cells) (hs : ss + κ'.2.2.2.2.2.slots ≤ κ.2.2.2.2.2.slots)
    (hpd : parseMethodDescriptor y.desc = some ⟨ps, rt⟩) (hlen : as.length = ps.length) (hS : S0 = as.reverse ++ S) (hL : L.size = κ.2.1) (hd : decode κ.1 pc = .ok (.invokestatic idx, 3)) (hp : pc + 3 = pc')
    (K : ∀ v T' h', oSt Z ω γ κ T' h' (cs + κ'.2.2.2.2.2.cells) (ss + κ'.2.2.2.2.2.slots) → Q' v h' → oWP ω γ κ Q T' pc' L (v.toList ++ S)) : oWP ω γ κ Q T pc L S0 := by
  have w1' := oSt_at X i1 w1
  have w2' := oSt_at X i2 w2
  have w3' := oSt_at X i3 w3
  have w4' := oSt_at X i4 w4
  obtain ⟨hx, hby, hml, hown, hnm, hr, hlk, hZ, hT1, hn0, hT, locs, Y, N⟩ := X
  subst hp ho hS
  obtain ⟨v, vm₁, ⟨T', L', k', n'⟩, -, Y', ⟨Lc, ⟨hF, hQ⟩, q1, q2, q3⟩, st⟩ := Jvm.LawKit.callS Y hx (y := y) hown (mvT hZ w1') (mvT hZ w2') (mvT hZ w3') (mvT hZ w4') hy (backOf (W := W) (Q := fun v hh Lc => Fr ω.2.1 Lc ∧ Q' v hh) (bytes := κ'.1) (maxL := κ'.2.1) (ret := κ'.2.2.2.2.1) (rm := κ'.2.2.2.2.2) C hZ w4' w3' hf hl) (g := mkF γ.2.2.2.1 pc L (as.reverse ++ S)) rfl (by rw [hml]; exact hL) (argsL := as) (rest := S) (lenOf hpd hlen) rfl (by show 2 * 0 + _ ≤ _; omega) (hb hby hd) (fun _ _ => ⟨rfl, hT, hc, hs⟩)
  dsimp only [Pt.U, Pt.locs, Pt.cells, Pt.slots] at Y' q1 q2 q3 st hQ
  subst q1 q2 q3
  obtain ⟨s₂, o, hs, r⟩ := K v T' T'.heap ⟨hx, hby, hml, hown, hnm, hr, hlk, hZ, hT1, hn0, rfl, _, Y', N.app hF⟩ hQ
  exact ⟨s₂, o, st _ hs, r⟩
theorem ow_callC (X : oSt Z ω γ κ T h cs ss) (pc' i1 i2 i3 i4 : Nat) {own : String} {idx : Nat} {y : MethodName} {κ' : OM} {Q' : Option Value → Heap → Prop} {a : Addr} {as : List Value} {ps : List FieldType} {rt : Option FieldType} {W : Nat} {S0 : List Value}
    (hy1 : y.name = "<init>") (w1 : tables_1[i1]? = some (.methodLink own idx y)) (ho : κ.2.2.1 = own) (w2 : tables_1[i2]? = some (.instanceMethod y)) (w3 : tables_1[i3]? = some (.initialized y.cls)) (w4 : tables_1[i4]? = some (.code y κ'.1 κ'.2.1 κ'.2.2.2.2.1)) (hr0 : κ'.2.2.2.2.1 = none) (hy : y.cls ≠ "java/lang/invoke/MethodHandle" ∧ y.cls ≠ "java/lang/invoke/VarHandle")
    (C : oC Z ω y κ' [] (.ref a :: as).toArray h Q') (hf : κ'.2.2.2.2.2.frames + 1 ≤ κ.2.2.2.2.2.frames) (hl : W + (κ'.2.1 + 11) + κ'.2.2.2.2.2.locals ≤ κ.2.2.2.2.2.locals) (hW : (S.map fun v => v.category).sum ≤ W) (hc : cs + κ'.2.2.2.2.2.cells ≤ κ.2.2.2.2.2.cells) (hs : ss + κ'.2.2.2.2.2.slots ≤ κ.2.2.2.2.2.slots)
    (hpd : parseMethodDescriptor y.desc = some ⟨ps, rt⟩) (hlen : as.length = ps.length) (hS : S0 = as.reverse ++ .ref a :: S) (hL : L.size = κ.2.1) (hd : decode κ.1 pc = .ok (.invokespecial idx, 3)) (hp : pc + 3 = pc')
    (K : ∀ v T' h', oSt Z ω γ κ T' h' (cs + κ'.2.2.2.2.2.cells) (ss + κ'.2.2.2.2.2.slots) → Q' v h' → oWP ω γ κ Q T' pc' L (v.toList ++ S)) : oWP ω γ κ Q T pc L S0 := by
  have w1' := oSt_at X i1 w1
  have w2' := oSt_at X i2 w2
  have w3' := oSt_at X i3 w3
  have w4' := oSt_at X i4 w4
  obtain ⟨hx, hby, hml, hown, hnm, hr, hlk, hZ, hT1, hn0, hT, locs, Y, N⟩ := X
  subst hp ho hS
  obtain ⟨v, vm₁, ⟨T', L', k', n'⟩, -, Y', ⟨Lc, ⟨hF, hQ⟩, q1, q2, q3⟩, st⟩ := Y.specialBack hx (y := y) hy1 hown (mvT hZ w1') (mvT hZ w2') (mvT hZ (hr0 ▸ w4')) hy (backOf (W := W) (Q := fun v hh Lc => Fr ω.2.1 Lc ∧ Q' v hh) (bytes := κ'.1) (maxL := κ'.2.1) (ret := κ'.2.2.2.2.1) (rm := κ'.2.2.2.2.2) C hZ w4' w3' hf hl) (g := mkF γ.2.2.2.1 pc L (as.reverse ++ .ref a :: S)) rfl (by rw [hml]; exact hL) (Steps.refl _) (a := a) (argsL := as) (rest := S) (lenOf hpd hlen) rfl (by show 2 * 0 + _ ≤ _; omega) (hb hby hd) (fun _ _ => ⟨rfl, hT, hc, hs⟩)
  dsimp only [Pt.U, Pt.locs, Pt.cells, Pt.slots] at Y' q1 q2 q3 st hQ
  subst q1 q2 q3
  obtain ⟨s₂, o, hs, r⟩ := K v T' T'.heap ⟨hx, hby, hml, hown, hnm, hr, hlk, hZ, hT1, hn0, rfl, _, Y', N.app hF⟩ hQ
  exact ⟨s₂, o, st.trans hs, r⟩
theorem ow_callV (X : oSt Z ω γ κ T h cs ss) (pc' i1 i2 i3 i4 i5 i6 : Nat) {own C0 : String} {idx : Nat} {y : MethodName} {κ' : OM} {Q' : Option Value → Heap → Prop} {a : Addr} {as : List Value} {ps : List FieldType} {rt : Option FieldType} {W : Nat} {S0 : List Value}
    (w1 : tables_1[i1]? = some (.methodLink own idx y)) (ho : κ.2.2.1 = own) (w2 : tables_1[i2]? = some (.declares y)) (w3 : tables_1[i3]? = some (.selects C0 y y)) (w4 : tables_1[i4]? = some (.instanceMethod y)) (w5 : tables_1[i5]? = some (.code y κ'.1 κ'.2.1 κ'.2.2.2.2.1)) (w6 : tables_1[i6]? = some (.initialized y.cls)) (hy : y.cls ≠ "java/lang/invoke/MethodHandle" ∧ y.cls ≠ "java/lang/invoke/VarHandle")
    (E : Exa Z h a C0) (C : oC Z ω y κ' [] (.ref a :: as).toArray h Q') (hf : κ'.2.2.2.2.2.frames + 1 ≤ κ.2.2.2.2.2.frames) (hl : W + (κ'.2.1 + 11) + κ'.2.2.2.2.2.locals ≤ κ.2.2.2.2.2.locals) (hW : (S.map fun v => v.category).sum ≤ W) (hc : cs + κ'.2.2.2.2.2.cells ≤ κ.2.2.2.2.2.cells) (hs : ss + κ'.2.2.2.2.2.slots ≤ κ.2.2.2.2.2.slots)
    (hpd : parseMethodDescriptor y.desc = some ⟨ps, rt⟩) (hlen : as.length = ps.length) (hS : S0 = as.reverse ++ .ref a :: S) (hL : L.size = κ.2.1) (hd : decode κ.1 pc = .ok (.invokevirtual idx, 3)) (hp : pc + 3 = pc')
    (K : ∀ v T' h', oSt Z ω γ κ T' h' (cs + κ'.2.2.2.2.2.cells) (ss + κ'.2.2.2.2.2.slots) → Q' v h' → oWP ω γ κ Q T' pc' L (v.toList ++ S)) : oWP ω γ κ Q T pc L S0 := by
  have w1' := oSt_at X i1 w1
  have w2' := oSt_at X i2 w2
  have w3' := oSt_at X i3 w3
  have w4' := oSt_at X i4 w4
  have w5' := oSt_at X i5 w5
  have w6' := oSt_at X i6 w6
  obtain ⟨hx, hby, hml, hown, hnm, hr, hlk, hZ, hT1, hn0, hT, locs, Y, N⟩ := X
  subst hp ho hS
  obtain ⟨cq, kq, qa, qb, qc⟩ := isOf hZ hT E
  obtain ⟨v, vm₁, ⟨T', L', k', n'⟩, -, Y', ⟨Lc, ⟨hF, hQ⟩, q1, q2, q3⟩, st⟩ := Y.virtualBack hx (y := y) (z := y) hown (mvT hZ w1') (mvT hZ w2') (notFace_of_selects (args := #[]) (mvT hZ w3')) (mvT hZ w3') (mvT hZ w4') hy (backOf (W := W) (Q := fun v hh Lc => Fr ω.2.1 Lc ∧ Q' v hh) (bytes := κ'.1) (maxL := κ'.2.1) (ret := κ'.2.2.2.2.1) (rm := κ'.2.2.2.2.2) C hZ w5' w6' hf hl) qa qc (g := mkF γ.2.2.2.1 pc L (as.reverse ++ .ref a :: S)) rfl (by rw [hml]; exact hL) (Steps.refl _) (argsL := as) (rest := S) (lenOf hpd hlen) rfl (by show 2 * 0 + _ ≤ _; omega) (hb hby hd) (fun _ _ => ⟨rfl, hT, hc, hs⟩)
  dsimp only [Pt.U, Pt.locs, Pt.cells, Pt.slots] at Y' q1 q2 q3 st hQ
  subst q1 q2 q3
  obtain ⟨s₂, o, hs, r⟩ := K v T' T'.heap ⟨hx, hby, hml, hown, hnm, hr, hlk, hZ, hT1, hn0, rfl, _, Y', N.app hF⟩ hQ
  exact ⟨s₂, o, st.trans hs, r⟩
theorem ow_callP (X : oSt Z ω γ κ T h cs ss) (pc' i1 i2 i3 i4 i5 i6 : Nat) {own C0 : String} {idx nn : Nat} {y : MethodName} {κ' : OM} {Q' : Option Value → Heap → Prop} {a : Addr} {as : List Value} {ps : List FieldType} {rt : Option FieldType} {W : Nat} {S0 : List Value}
    (w1 : tables_1[i1]? = some (.methodLink own idx y)) (ho : κ.2.2.1 = own) (w2 : tables_1[i2]? = some (.instanceMethod y)) (w3 : tables_1[i3]? = some (.privateMethod y)) (w4 : tables_1[i4]? = some (.initialized y.cls)) (w5 : tables_1[i5]? = some (.code y κ'.1 κ'.2.1 κ'.2.2.2.2.1)) (w6 : tables_1[i6]? = some (.instantiable y.cls nn)) (hy : y.cls ≠ "java/lang/invoke/MethodHandle" ∧ y.cls ≠ "java/lang/invoke/VarHandle")
    (E : Exa Z h a C0) (C : oC Z ω y κ' [] (.ref a :: as).toArray h Q') (hf : κ'.2.2.2.2.2.frames + 1 ≤ κ.2.2.2.2.2.frames) (hl : W + (κ'.2.1 + 11) + κ'.2.2.2.2.2.locals ≤ κ.2.2.2.2.2.locals) (hW : (S.map fun v => v.category).sum ≤ W) (hc : cs + κ'.2.2.2.2.2.cells ≤ κ.2.2.2.2.2.cells) (hs : ss + κ'.2.2.2.2.2.slots ≤ κ.2.2.2.2.2.slots)
    (hpd : parseMethodDescriptor y.desc = some ⟨ps, rt⟩) (hlen : as.length = ps.length) (hS : S0 = as.reverse ++ .ref a :: S) (hL : L.size = κ.2.1) (hd : decode κ.1 pc = .ok (.invokevirtual idx, 3)) (hp : pc + 3 = pc')
    (K : ∀ v T' h', oSt Z ω γ κ T' h' (cs + κ'.2.2.2.2.2.cells) (ss + κ'.2.2.2.2.2.slots) → Q' v h' → oWP ω γ κ Q T' pc' L (v.toList ++ S)) : oWP ω γ κ Q T pc L S0 := by
  have w1' := oSt_at X i1 w1
  have w2' := oSt_at X i2 w2
  have w3' := oSt_at X i3 w3
  have w4' := oSt_at X i4 w4
  have w5' := oSt_at X i5 w5
  have w6' := oSt_at X i6 w6
  obtain ⟨hx, hby, hml, hown, hnm, hr, hlk, hZ, hT1, hn0, hT, locs, Y, N⟩ := X
  subst hp ho hS
  obtain ⟨cq, q1, q2⟩ := E.cell
  obtain ⟨ck, kk, i1, i2, -, i4, -⟩ := Cond.instantiable_spec (mvT (args := #[]) hZ w6')
  have hni : kk.isInterface = false := (Bool.or_eq_false_iff.mp i4).1
  have hpr := Cond.privateMethod_at (mvP (args := #[]) hZ w3')
  obtain ⟨v, vm₁, ⟨T', L', k', n'⟩, -, Y', ⟨Lc, ⟨hF, hQ⟩, q1, q2, q3⟩, st⟩ := Y.privateBack hx (y := y) hown (mvT hZ w1') (mvT hZ w2') (selects_self_of_private i1 i2 hni hpr (mvT hZ w2') hy) hpr (mvT hZ w5') hy (backOf (W := W) (Q := fun v hh Lc => Fr ω.2.1 Lc ∧ Q' v hh) (bytes := κ'.1) (maxL := κ'.2.1) (ret := κ'.2.2.2.2.1) (rm := κ'.2.2.2.2.2) C hZ w5' w4' hf hl) (g := mkF γ.2.2.2.1 pc L (as.reverse ++ .ref a :: S)) rfl (by rw [hml]; exact hL) (Steps.refl _) (a := a) (by rw [hT]; exact q1) q2 (argsL := as) (rest := S) (lenOf hpd hlen) rfl (by show 2 * 0 + _ ≤ _; omega) (hb hby hd) (fun _ _ => ⟨rfl, hT, hc, hs⟩)
  dsimp only [Pt.U, Pt.locs, Pt.cells, Pt.slots] at Y' q1 q2 q3 st hQ
  subst q1 q2 q3
  obtain ⟨s₂, o, hs, r⟩ := K v T' T'.heap ⟨hx, hby, hml, hown, hnm, hr, hlk, hZ, hT1, hn0, rfl, _, Y', N.app hF⟩ hQ
  exact ⟨s₂, o, st.trans hs, r⟩
end Walk
/-- an array: its component type, its length, what it holds -/
def oA (Z : State) (h : Heap) (a : Addr) (ty : FieldType) (n : Nat) (f : Nat → Value) : Prop := ∃ c : Cell, Arr Z h a c ty ∧ c.slots.size = n ∧ n < 2147483648 ∧ ∀ i, i < n → c.slots[i]? = some (f i)
section Arrays
variable {Z : State} {h h' : Heap} {a b : Addr} {ty : FieldType} {n sl : Nat} {f g : Nat → Value} {v : Value} {ws : List Addr}
theorem oA.lt (A : oA Z h a ty n f) : a < h.size := by obtain ⟨c, A, -⟩ := A; exact A.lt
theorem oA.small (A : oA Z h a ty n f) : n < 2147483648 := by obtain ⟨c, -, -, q, -⟩ := A; exact q
theorem oA.ext (A : oA Z h a ty n f) (E : Ext h h') : oA Z h' a ty n f := by obtain ⟨c, A, r⟩ := A; exact ⟨c, A.ext E, r⟩
theorem oA.other (A : oA Z h b ty n f) (W : Wr h h' a sl v) (q : b ≠ a) : oA Z h' b ty n f := by obtain ⟨c, A, r⟩ := A; exact ⟨c, A.other W q, r⟩
theorem oA.keep (A : oA Z h a ty n f) (K : Keep h h' ws) (q : a ∉ ws) : oA Z h' a ty n f := by obtain ⟨c, A, r⟩ := A; exact ⟨c, ⟨K.2.1 a c A.1 q, A.2⟩, r⟩
theorem oA.congr (A : oA Z h a ty n f) (q : ∀ i, i < n → f i = g i) : oA Z h a ty n g := by obtain ⟨c, A, r1, r2, r3⟩ := A; exact ⟨c, A, r1, r2, fun i hi => by rw [← q i hi]; exact r3 i hi⟩
theorem oA.set (A : oA Z h a ty n f) (W : Wr h h' a sl v) : oA Z h' a ty n (fun i => if i = sl then v else f i) := by
  obtain ⟨c, A, r1, r2, r3⟩ := A
  have hlt : sl < n := by
    obtain ⟨c', h1, -, h3, -⟩ := W
    cases A.1.symm.trans h1
    omega
  refine ⟨c.setSlot sl v, A.same W, (sz_set _ _ _).trans r1, r2, fun i hi => ?_⟩
  by_cases e : i = sl
  · subst e; simp [Cell.setSlot, r1, hlt]
  · simp only [e, if_false]
    rw [← r3 i hi]
    exact Array.getElem?_setIfInBounds_ne (Ne.symm e)
/-- one place changed -/
def oUpd {α : Type} (g : Nat → α) (k : Nat) (v : α) : Nat → α := fun i => if i = k then v else g i
theorem oUpd_hit {α : Type} (g : Nat → α) (k : Nat) (v : α) : oUpd g k v k = v := if_pos rfl
theorem oUpd_miss {α : Type} (g : Nat → α) {k i : Nat} (v : α) (q : i ≠ k) : oUpd g k v i = g i := if_neg q
def oZI : Nat → Int32 := fun _ => 0
def oZJ : Nat → Int64 := fun _ => 0
theorem oA.setI {g : Nat → Int32} {x : Int32} (A : oA Z h a ty n (fun i => .int (g i))) (W : Wr h h' a sl (.int x)) : oA Z h' a ty n (fun i => .int (oUpd g sl x i)) :=
  (A.set W).congr fun i _ => by unfold oUpd; split <;> rfl
theorem oA.setJ {g : Nat → Int64} {x : Int64} (A : oA Z h a ty n (fun i => .long (g i))) (W : Wr h h' a sl (.long x)) : oA Z h' a ty n (fun i => .long (oUpd g sl x i)) :=
  (A.set W).congr fun i _ => by unfold oUpd; split <;> rfl
theorem oNd {l : List Addr} (h : l.Nodup) (i j : Nat) (hij : i ≠ j) {a b : Addr} (ha : l[i]? = some a) (hb : l[j]? = some b) : a ≠ b := by
  intro e; subst e
  obtain ⟨h1, h2⟩ := List.getElem?_eq_some_iff.mp ha
  obtain ⟨h3, h4⟩ := List.getElem?_eq_some_iff.mp hb
  have q := List.pairwise_iff_getElem.mp h
  rcases Nat.lt_or_gt_of_ne hij with r | r
  · exact q i j h1 h3 r (h2.trans h4.symm)
  · exact q j i h3 h1 r (h4.trans h2.symm)
theorem oA.new {cA : ClassId} {k : Int32} (A : Arr Z h a (newA cA ty k) ty) (q : 0 ≤ k.toInt) : oA Z h a ty k.toInt.toNat (fun _ => defaultValue ty) := by
  have e : k.toNatClampNeg = k.toInt.toNat := rfl
  have := k.toInt_lt
  refine ⟨_, A, (sz_new _ _ _).trans e, by omega, fun i hi => ?_⟩
  have : i < k.toNatClampNeg := by rw [e]; exact hi
  simp [newA, this]
theorem oInb {j : Int32} {c : Cell} (r1 : c.slots.size = n) (q : 0 ≤ j.toInt) (q' : j.toInt < n) : ¬ (j < 0 ∨ c.slots.size ≤ j.toNatClampNeg) := by
  have e : j.toNatClampNeg = j.toInt.toNat := rfl
  rw [Int32.lt_iff_toInt_lt, r1, e, o0]; omega
end Arrays
section Walk2
variable {Z : State} {ω : OW} {γ : OG} {κ : OM} {Q : Option Value → Heap → Prop} {T : State} {h : Heap} {cs ss : Nat} {pc : Nat} {L : Array Slot} {S : List Value}
theorem ow_alen (X : oSt Z ω γ κ T h cs ss) (pc' : Nat) {a : Addr} {ty : FieldType} {n : Nat} {f : Nat → Value} {v : Int32} (A : oA Z h a ty n f) (hd : decode κ.1 pc = .ok (.arraylength, 1)) (hp : pc + 1 = pc') (hv : v.toInt = n)
    (K : oWP ω γ κ Q T pc' L (.int v :: S)) : oWP ω γ κ Q T pc L (.ref a :: S) := by
  obtain ⟨hx, hby, -, -, -, -, -, hZ, -, -, hT, locs, Y, -⟩ := X
  obtain ⟨c, A, r1, r2, -⟩ := A
  subst hp
  obtain ⟨s₂, o, hs, r⟩ := K
  have e : c.slots.size.toInt32 = v := Int32.toInt_inj.mp (by rw [hv, len_toInt (by omega), r1])
  exact ⟨s₂, o, Y.arraylength hx (by rw [hT]; exact A.1) (State.isArrayOf_alike hZ.alike A.2.1) (g := mkF γ.2.2.2.1 pc L (.ref a :: S)) rfl rfl (hb hby hd) _ (by rw [e]; exact hs), r⟩
theorem ow_iaload (X : oSt Z ω γ κ T h cs ss) (pc' : Nat) {a : Addr} {n : Nat} {f : Nat → Value} {j : Int32} {v : Value} (A : oA Z h a .int n f) (hd : decode κ.1 pc = .ok (.iaload, 1)) (hp : pc + 1 = pc') (h0 : 0 ≤ j.toInt) (h1 : j.toInt < n) (hv : f j.toInt.toNat = v)
    (K : oWP ω γ κ Q T pc' L (v :: S)) : oWP ω γ κ Q T pc L (.int j :: .ref a :: S) := by
  obtain ⟨hx, hby, -, -, -, -, -, hZ, -, -, hT, locs, Y, -⟩ := X
  obtain ⟨c, A, r1, r2, r3⟩ := A
  subst hp hv
  obtain ⟨s₂, o, hs, r⟩ := K
  exact ⟨s₂, o, Y.iaload hx (by rw [hT]; exact A.1) (State.isArrayOf_alike hZ.alike A.2.1) A.2.2 (oInb r1 h0 h1) (r3 _ (by show j.toInt.toNat < _; omega)) (g := mkF γ.2.2.2.1 pc L (.int j :: .ref a :: S)) rfl rfl (hb hby hd) _ hs, r⟩
theorem ow_laload (X : oSt Z ω γ κ T h cs ss) (pc' : Nat) {a : Addr} {n : Nat} {f : Nat → Value} {j : Int32} {v : Value} (A : oA Z h a .long n f) (hd : decode κ.1 pc = .ok (.laload, 1)) (hp : pc + 1 = pc') (h0 : 0 ≤ j.toInt) (h1 : j.toInt < n) (hv : f j.toInt.toNat = v)
    (K : oWP ω γ κ Q T pc' L (v :: S)) : oWP ω γ κ Q T pc L (.int j :: .ref a :: S) := by
  obtain ⟨hx, hby, -, -, -, -, -, hZ, -, -, hT, locs, Y, -⟩ := X
  obtain ⟨c, A, r1, r2, r3⟩ := A
  subst hp hv
  obtain ⟨s₂, o, hs, r⟩ := K
  exact ⟨s₂, o, Y.laload hx (by rw [hT]; exact A.1) (State.isArrayOf_alike hZ.alike A.2.1) A.2.2 (oInb r1 h0 h1) (r3 _ (by show j.toInt.toNat < _; omega)) (g := mkF γ.2.2.2.1 pc L (.int j :: .ref a :: S)) rfl rfl (hb hby hd) _ hs, r⟩
theorem ow_caload (X : oSt Z ω γ κ T h cs ss) (pc' : Nat) {a : Addr} {n : Nat} {f : Nat → Value} {j : Int32} {v : Value} (A : oA Z h a .char n f) (hd : decode κ.1 pc = .ok (.caload, 1)) (hp : pc + 1 = pc') (h0 : 0 ≤ j.toInt) (h1 : j.toInt < n) (hv : f j.toInt.toNat = v)
    (K : oWP ω γ κ Q T pc' L (v :: S)) : oWP ω γ κ Q T pc L (.int j :: .ref a :: S) := by
  obtain ⟨hx, hby, -, -, -, -, -, hZ, -, -, hT, locs, Y, -⟩ := X
  obtain ⟨c, A, r1, r2, r3⟩ := A
  subst hp hv
  obtain ⟨s₂, o, hs, r⟩ := K
  exact ⟨s₂, o, Y.caload hx (by rw [hT]; exact A.1) (State.isArrayOf_alike hZ.alike A.2.1) A.2.2 (oInb r1 h0 h1) (r3 _ (by show j.toInt.toNat < _; omega)) (g := mkF γ.2.2.2.1 pc L (.int j :: .ref a :: S)) rfl rfl (hb hby hd) _ hs, r⟩
theorem ow_baload (X : oSt Z ω γ κ T h cs ss) (pc' : Nat) {a : Addr} {n : Nat} {f : Nat → Value} {j : Int32} {v : Value} (A : oA Z h a .byte n f) (hd : decode κ.1 pc = .ok (.baload, 1)) (hp : pc + 1 = pc') (h0 : 0 ≤ j.toInt) (h1 : j.toInt < n) (hv : f j.toInt.toNat = v)
    (K : oWP ω γ κ Q T pc' L (v :: S)) : oWP ω γ κ Q T pc L (.int j :: .ref a :: S) := by
  obtain ⟨hx, hby, -, -, -, -, -, hZ, -, -, hT, locs, Y, -⟩ := X
  obtain ⟨c, A, r1, r2, r3⟩ := A
  subst hp hv
  obtain ⟨s₂, o, hs, r⟩ := K
  exact ⟨s₂, o, Y.baloadBytes hx (by rw [hT]; exact A.1) (State.isArrayOf_alike hZ.alike A.2.1) A.2.2 (oInb r1 h0 h1) (r3 _ (by show j.toInt.toNat < _; omega)) (g := mkF γ.2.2.2.1 pc L (.int j :: .ref a :: S)) rfl rfl (hb hby hd) _ hs, r⟩
theorem ow_baloadZ (X : oSt Z ω γ κ T h cs ss) (pc' : Nat) {a : Addr} {n : Nat} {f : Nat → Value} {j : Int32} {v : Value} (A : oA Z h a .boolean n f) (hd : decode κ.1 pc = .ok (.baload, 1)) (hp : pc + 1 = pc') (h0 : 0 ≤ j.toInt) (h1 : j.toInt < n) (hv : f j.toInt.toNat = v)
    (K : oWP ω γ κ Q T pc' L (v :: S)) : oWP ω γ κ Q T pc L (.int j :: .ref a :: S) := by
  obtain ⟨hx, hby, -, -, -, -, -, hZ, -, -, hT, locs, Y, -⟩ := X
  obtain ⟨c, A, r1, r2, r3⟩ := A
  subst hp hv
  obtain ⟨s₂, o, hs, r⟩ := K
  exact ⟨s₂, o, Y.baloadBooleans hx (by rw [hT]; exact A.1) (State.isArrayOf_alike hZ.alike A.2.1) A.2.2 (oInb r1 h0 h1) (r3 _ (by show j.toInt.toNat < _; omega)) (g := mkF γ.2.2.2.1 pc L (.int j :: .ref a :: S)) rfl rfl (hb hby hd) _ hs, r⟩
theorem ow_aaload (X : oSt Z ω γ κ T h cs ss) (pc' : Nat) {a : Addr} {ty : FieldType} {n : Nat} {f : Nat → Value} {j : Int32} {v : Value} (A : oA Z h a ty n f) (ht : ty.isReference = true) (hd : decode κ.1 pc = .ok (.aaload, 1)) (hp : pc + 1 = pc') (h0 : 0 ≤ j.toInt) (h1 : j.toInt < n) (hv : f j.toInt.toNat = v)
    (K : oWP ω γ κ Q T pc' L (v :: S)) : oWP ω γ κ Q T pc L (.int j :: .ref a :: S) := by
  obtain ⟨hx, hby, -, -, -, -, -, hZ, -, -, hT, locs, Y, -⟩ := X
  obtain ⟨c, A, r1, r2, r3⟩ := A
  subst hp hv
  obtain ⟨s₂, o, hs, r⟩ := K
  exact ⟨s₂, o, Y.aaload hx (by rw [hT]; exact A.1) (State.isArrayOf_alike hZ.alike A.2.1) ht A.2.2 (oInb r1 h0 h1) (r3 _ (by show j.toInt.toNat < _; omega)) (g := mkF γ.2.2.2.1 pc L (.int j :: .ref a :: S)) rfl rfl (hb hby hd) _ hs, r⟩
theorem ow_iastore (X : oSt Z ω γ κ T h cs ss) (pc' : Nat) {a : Addr} {n : Nat} {f : Nat → Value} {j : Int32} {x : Int32} (A : oA Z h a .int n f) (ha : ω.2.1 ≤ a) (hd : decode κ.1 pc = .ok (.iastore, 1)) (hp : pc + 1 = pc') (h0 : 0 ≤ j.toInt) (h1 : j.toInt < n)
    (K : ∀ T' h', oSt Z ω γ κ T' h' cs ss → Wr h h' a j.toInt.toNat (.int x) → oWP ω γ κ Q T' pc' L S) : oWP ω γ κ Q T pc L (.int x :: .int j :: .ref a :: S) := by
  obtain ⟨hx, hby, hml, hown, hnm, hr, hlk, hZ, hT1, hn0, hT, locs, Y, N⟩ := X
  obtain ⟨c, A, r1, r2, r3⟩ := A
  subst hp
  obtain ⟨T', h', Y', e', W, st⟩ := stI Y hx hZ hT A (oInb r1 h0 h1) (g := mkF γ.2.2.2.1 pc L (.int x :: .int j :: .ref a :: S)) rfl rfl (hb hby hd)
  obtain ⟨s₂, o, hs, r⟩ := K T' h' ⟨hx, hby, hml, hown, hnm, hr, hlk, hZ, hT1, hn0, e', _, Y', Fr.snoc Y' N ha⟩ W
  exact ⟨s₂, o, st _ hs, r⟩
theorem ow_lastore (X : oSt Z ω γ κ T h cs ss) (pc' : Nat) {a : Addr} {n : Nat} {f : Nat → Value} {j : Int32} {x : Int64} (A : oA Z h a .long n f) (ha : ω.2.1 ≤ a) (hd : decode κ.1 pc = .ok (.lastore, 1)) (hp : pc + 1 = pc') (h0 : 0 ≤ j.toInt) (h1 : j.toInt < n)
    (K : ∀ T' h', oSt Z ω γ κ T' h' cs ss → Wr h h' a j.toInt.toNat (.long x) → oWP ω γ κ Q T' pc' L S) : oWP ω γ κ Q T pc L (.long x :: .int j :: .ref a :: S) := by
  obtain ⟨hx, hby, hml, hown, hnm, hr, hlk, hZ, hT1, hn0, hT, locs, Y, N⟩ := X
  obtain ⟨c, A, r1, r2, r3⟩ := A
  subst hp
  obtain ⟨T', h', Y', e', W, st⟩ := stJ Y hx hZ hT A (oInb r1 h0 h1) (g := mkF γ.2.2.2.1 pc L (.long x :: .int j :: .ref a :: S)) rfl rfl (hb hby hd)
  obtain ⟨s₂, o, hs, r⟩ := K T' h' ⟨hx, hby, hml, hown, hnm, hr, hlk, hZ, hT1, hn0, e', _, Y', Fr.snoc Y' N ha⟩ W
  exact ⟨s₂, o, st _ hs, r⟩
theorem ow_castore (X : oSt Z ω γ κ T h cs ss) (pc' : Nat) {a : Addr} {n : Nat} {f : Nat → Value} {j : Int32} {x : Int32} (A : oA Z h a .char n f) (ha : ω.2.1 ≤ a) (hd : decode κ.1 pc = .ok (.castore, 1)) (hp : pc + 1 = pc') (h0 : 0 ≤ j.toInt) (h1 : j.toInt < n)
    (K : ∀ T' h', oSt Z ω γ κ T' h' cs ss → Wr h h' a j.toInt.toNat (.int (nar .char x)) → oWP ω γ κ Q T' pc' L S) : oWP ω γ κ Q T pc L (.int x :: .int j :: .ref a :: S) := by
  obtain ⟨hx, hby, hml, hown, hnm, hr, hlk, hZ, hT1, hn0, hT, locs, Y, N⟩ := X
  obtain ⟨c, A, r1, r2, r3⟩ := A
  subst hp
  obtain ⟨T', h', Y', e', W, st⟩ := stC Y hx hZ hT A (oInb r1 h0 h1) (g := mkF γ.2.2.2.1 pc L (.int x :: .int j :: .ref a :: S)) rfl rfl (hb hby hd)
  obtain ⟨s₂, o, hs, r⟩ := K T' h' ⟨hx, hby, hml, hown, hnm, hr, hlk, hZ, hT1, hn0, e', _, Y', Fr.snoc Y' N ha⟩ W
  exact ⟨s₂, o, st _ hs, r⟩
theorem ow_bastore (X : oSt Z ω γ κ T h cs ss) (pc' : Nat) {a : Addr} {n : Nat} {f : Nat → Value} {j : Int32} {x : Int32} (A : oA Z h a .byte n f) (ha : ω.2.1 ≤ a) (hd : decode κ.1 pc = .ok (.bastore, 1)) (hp : pc + 1 = pc') (h0 : 0 ≤ j.toInt) (h1 : j.toInt < n)
    (K : ∀ T' h', oSt Z ω γ κ T' h' cs ss → Wr h h' a j.toInt.toNat (.int x.toInt8.toInt32) → oWP ω γ κ Q T' pc' L S) : oWP ω γ κ Q T pc L (.int x :: .int j :: .ref a :: S) := by
  obtain ⟨hx, hby, hml, hown, hnm, hr, hlk, hZ, hT1, hn0, hT, locs, Y, N⟩ := X
  obtain ⟨c, A, r1, r2, r3⟩ := A
  subst hp
  obtain ⟨T', h', Y', e', W, st⟩ := stB Y hx hZ hT A (oInb r1 h0 h1) (g := mkF γ.2.2.2.1 pc L (.int x :: .int j :: .ref a :: S)) rfl rfl (hb hby hd)
  obtain ⟨s₂, o, hs, r⟩ := K T' h' ⟨hx, hby, hml, hown, hnm, hr, hlk, hZ, hT1, hn0, e', _, Y', Fr.snoc Y' N ha⟩ W
  exact ⟨s₂, o, st _ hs, r⟩
theorem ow_bastoreZ (X : oSt Z ω γ κ T h cs ss) (pc' : Nat) {a : Addr} {n : Nat} {f : Nat → Value} {j : Int32} {x : Int32} (A : oA Z h a .boolean n f) (ha : ω.2.1 ≤ a) (hd : decode κ.1 pc = .ok (.bastore, 1)) (hp : pc + 1 = pc') (h0 : 0 ≤ j.toInt) (h1 : j.toInt < n)
    (K : ∀ T' h', oSt Z ω γ κ T' h' cs ss → Wr h h' a j.toInt.toNat (.int (nar .boolean x)) → oWP ω γ κ Q T' pc' L S) : oWP ω γ κ Q T pc L (.int x :: .int j :: .ref a :: S) := by
  obtain ⟨hx, hby, hml, hown, hnm, hr, hlk, hZ, hT1, hn0, hT, locs, Y, N⟩ := X
  obtain ⟨c, A, r1, r2, r3⟩ := A
  subst hp
  obtain ⟨T', h', Y', e', W, st⟩ := stZ Y hx hZ hT A (oInb r1 h0 h1) (g := mkF γ.2.2.2.1 pc L (.int x :: .int j :: .ref a :: S)) rfl rfl (hb hby hd)
  obtain ⟨s₂, o, hs, r⟩ := K T' h' ⟨hx, hby, hml, hown, hnm, hr, hlk, hZ, hT1, hn0, e', _, Y', Fr.snoc Y' N ha⟩ W
  exact ⟨s₂, o, st _ hs, r⟩
theorem ow_aastore (X : oSt Z ω γ κ T h cs ss) (pc' : Nat) {a : Addr} {ty : FieldType} {n : Nat} {f : Nat → Value} {j : Int32} {v : Value} (A : oA Z h a ty n f) (ht : ty.isReference = true) (F : Sto Z h a v) (ha : ω.2.1 ≤ a) (hd : decode κ.1 pc = .ok (.aastore, 1)) (hp : pc + 1 = pc') (h0 : 0 ≤ j.toInt) (h1 : j.toInt < n)
    (K : ∀ T' h', oSt Z ω γ κ T' h' cs ss → Wr h h' a j.toInt.toNat v → oWP ω γ κ Q T' pc' L S) : oWP ω γ κ Q T pc L (v :: .int j :: .ref a :: S) := by
  obtain ⟨hx, hby, hml, hown, hnm, hr, hlk, hZ, hT1, hn0, hT, locs, Y, N⟩ := X
  obtain ⟨c, A, r1, r2, r3⟩ := A
  subst hp
  obtain ⟨T', h', Y', e', W, st⟩ := stR Y hx hZ hT A (oInb r1 h0 h1) ht F (g := mkF γ.2.2.2.1 pc L (v :: .int j :: .ref a :: S)) rfl rfl (hb hby hd)
  obtain ⟨s₂, o, hs, r⟩ := K T' h' ⟨hx, hby, hml, hown, hnm, hr, hlk, hZ, hT1, hn0, e', _, Y', Fr.snoc Y' N ha⟩ W
  exact ⟨s₂, o, st _ hs, r⟩
theorem ow_newP (X : oSt Z ω γ κ T h cs ss) (pc' i : Nat) {aty : ArrayType} {k : Int32} {cap : Nat} (hw : tables_1[i]? = some (.arrayClass (newarray.typeOf aty))) (hd : decode κ.1 pc = .ok (.newarray aty, 2)) (hp : pc + 2 = pc') (h0 : 0 ≤ k.toInt) (h1 : k.toInt ≤ cap) (hb1 : cap * 8 ≤ 536870912) (hc : cs + 1 ≤ κ.2.2.2.2.2.cells) (hsl : ss + cap ≤ κ.2.2.2.2.2.slots)
    (K : ∀ T' h' a, a = h.size → oSt Z ω γ κ T' h' (cs + 1) (ss + cap) → Ext h h' → oA Z h' a (newarray.typeOf aty) k.toInt.toNat (fun _ => defaultValue (newarray.typeOf aty)) → ω.2.1 ≤ a → oWP ω γ κ Q T' pc' L (.ref a :: S)) : oWP ω γ κ Q T pc L (.int k :: S) := by
  have hw' := oSt_at X i hw
  have hN := oSt_n0 X
  obtain ⟨hx, hby, hml, hown, hnm, hr, hlk, hZ, hT1, hn0, hT, locs, Y, N⟩ := X
  subst hp
  have hk : ¬ k < 0 := by rw [Int32.lt_iff_toInt_lt, o0]; omega
  have hk' : k.toNatClampNeg ≤ cap := by show k.toInt.toNat ≤ cap; omega
  obtain ⟨T', h', cA, Y', e', E, A, st⟩ := newP Y hx hZ hw' hT (g := mkF γ.2.2.2.1 pc L (.int k :: S)) rfl (hb hby hd) rfl hk hk' hb1 hc hsl
  obtain ⟨s₂, o, hs, r⟩ := K T' h' h.size rfl ⟨hx, hby, hml, hown, hnm, hr, hlk, hZ, hT1, hn0, e', _, Y', N⟩ E (oA.new A h0) hN
  exact ⟨s₂, o, st _ hs, r⟩
/-- a new array's class takes objects of C -/
def oOv (Z : State) (h : Heap) (a : Addr) (C : String) : Prop := ∃ (c : Cell) (ty : FieldType), Arr Z h a c ty ∧ Ovr Z c.cls C
theorem oOv.ext {h' : Heap} {a : Addr} {C : String} (O : oOv Z h a C) (E : Ext h h') : oOv Z h' a C := by obtain ⟨c, ty, A, O⟩ := O; exact ⟨c, ty, A.ext E, O⟩
theorem oOv.wr {h' : Heap} {a b : Addr} {C : String} {sl : Nat} {v : Value} (O : oOv Z h a C) (W : Wr h h' b sl v) : oOv Z h' a C := by
  obtain ⟨c, ty, A, O⟩ := O
  by_cases e : a = b
  · subst e; exact ⟨_, ty, A.same W, O⟩
  · exact ⟨c, ty, A.other W e, O⟩
theorem oOv.keep {h' : Heap} {a : Addr} {C : String} {ws : List Addr} (O : oOv Z h a C) (K : Keep h h' ws) (q : a ∉ ws) : oOv Z h' a C := by
  obtain ⟨c, ty, A, O⟩ := O; exact ⟨c, ty, ⟨K.2.1 a c A.1 q, A.2⟩, O⟩
theorem oOv.sto {a y : Addr} {C : String} (O : oOv Z h a C) (I : Ins Z h y C true) : Sto Z h a (.ref y) := by obtain ⟨c, ty, A, O⟩ := O; exact Sto.of A O I
theorem ow_newR (X : oSt Z ω γ κ T h cs ss) (pc' i1 i2 : Nat) {own C : String} {idx : Nat} {k : Int32} {cap : Nat} (w1 : tables_1[i1]? = some (.classLink own idx C)) (ho : κ.2.2.1 = own) (w2 : tables_1[i2]? = some (.arrayOver (.object C))) (hd : decode κ.1 pc = .ok (.anewarray idx, 3)) (hp : pc + 3 = pc') (h0 : 0 ≤ k.toInt) (h1 : k.toInt ≤ cap) (hb1 : cap * 8 ≤ 536870912) (hc : cs + 1 ≤ κ.2.2.2.2.2.cells) (hsl : ss + cap ≤ κ.2.2.2.2.2.slots)
    (K : ∀ T' h' a, a = h.size → oSt Z ω γ κ T' h' (cs + 1) (ss + cap) → Ext h h' → oA Z h' a (.object C) k.toInt.toNat (fun _ => .null) → oOv Z h' a C → ω.2.1 ≤ a → oWP ω γ κ Q T' pc' L (.ref a :: S)) : oWP ω γ κ Q T pc L (.int k :: S) := by
  have w1' := oSt_at X i1 w1
  have w2' := oSt_at X i2 w2
  have hN := oSt_n0 X
  obtain ⟨hx, hby, hml, hown, hnm, hr, hlk, hZ, hT1, hn0, hT, locs, Y, N⟩ := X
  subst hp ho
  have hk : ¬ k < 0 := by rw [Int32.lt_iff_toInt_lt, o0]; omega
  have hk' : k.toNatClampNeg ≤ cap := by show k.toInt.toNat ≤ cap; omega
  obtain ⟨T', h', cA, Y', e', E, A, O, st⟩ := newR Y hx hZ hown w1' w2' hT (g := mkF γ.2.2.2.1 pc L (.int k :: S)) rfl (hb hby hd) rfl hk hk' hb1 hc hsl
  obtain ⟨s₂, o, hs, r⟩ := K T' h' h.size rfl ⟨hx, hby, hml, hown, hnm, hr, hlk, hZ, hT1, hn0, e', _, Y', N⟩ E (oA.new A h0) ⟨_, _, A, O⟩ hN
  exact ⟨s₂, o, st _ hs, r⟩
end Walk2
def PI (Z : State) (h : Heap) (a : Addr) (v0 v1 v2 : Value) : Prop := Exa Z h a "com/example/multibern/multibern/index/PackedInts" ∧ Fld Z h a "com/example/multibern/multibern/index/PackedInts" "words" "[J" v0 ∧ Fld Z h a "com/example/multibern/multibern/index/PackedInts" "bits" "I" v1 ∧ Fld Z h a "com/example/multibern/multibern/index/PackedInts" "mask" "J" v2
theorem PI.lt {Z : State} {h : Heap} {a : Addr} {v0 v1 v2 : Value} (R : PI Z h a v0 v1 v2) : a < h.size := R.1.lt
theorem PI.ext {Z : State} {h h' : Heap} {a : Addr} {v0 v1 v2 : Value} (R : PI Z h a v0 v1 v2) (W : Ext h h') : PI Z h' a v0 v1 v2 := by
  obtain ⟨E, F0, F1, F2⟩ := R
  exact ⟨E.ext W, F0.ext W, F1.ext W, F2.ext W⟩
theorem PI.other {Z : State} {h h' : Heap} {a b : Addr} {sl : Nat} {w : Value} {v0 v1 v2 : Value} (R : PI Z h a v0 v1 v2) (W : Wr h h' b sl w) (q : a ≠ b) : PI Z h' a v0 v1 v2 := by
  obtain ⟨E, F0, F1, F2⟩ := R
  exact ⟨E.wr W, F0.other W (Or.inl q), F1.other W (Or.inl q), F2.other W (Or.inl q)⟩
theorem PI.keep {Z : State} {h h' : Heap} {a : Addr} {ws : List Addr} {v0 v1 v2 : Value} (R : PI Z h a v0 v1 v2) (K : Keep h h' ws) (q : a ∉ ws) : PI Z h' a v0 v1 v2 := by
  obtain ⟨E, F0, F1, F2⟩ := R
  exact ⟨E.keep K, F0.keep K q, F1.keep K q, F2.keep K q⟩
theorem PI.set_words {Z : State} {h h' : Heap} {a : Addr} {a0 : Array Value} {w : Value} {v0 v1 v2 : Value} (hw : ∀ d ∈ tables_1, d.before a0 Z = true) (R : PI Z h a v0 v1 v2) (W : Wr h h' a (RoadKit.slotOf Z "com/example/multibern/multibern/index/PackedInts" "words" "[J") w) : PI Z h' a w v1 v2 := by
  obtain ⟨E, F0, F1, F2⟩ := R
  exact ⟨E.wr W, F0.same W, F1.other W (Or.inr (slot_ne (C := "com/example/multibern/multibern/index/PackedInts") (Or.inr (hw _ (List.mem_of_getElem? (i := 20) rfl))) (Or.inr (hw _ (List.mem_of_getElem? (i := 26) rfl))) (by decide) (t := .int) (t' := (.array .long)) (by decide) (by decide))), F2.other W (Or.inr (slot_ne (C := "com/example/multibern/multibern/index/PackedInts") (Or.inr (hw _ (List.mem_of_getElem? (i := 22) rfl))) (Or.inr (hw _ (List.mem_of_getElem? (i := 26) rfl))) (by decide) (t := .long) (t' := (.array .long)) (by decide) (by decide)))⟩
theorem PI.set_bits {Z : State} {h h' : Heap} {a : Addr} {a0 : Array Value} {w : Value} {v0 v1 v2 : Value} (hw : ∀ d ∈ tables_1, d.before a0 Z = true) (R : PI Z h a v0 v1 v2) (W : Wr h h' a (RoadKit.slotOf Z "com/example/multibern/multibern/index/PackedInts" "bits" "I") w) : PI Z h' a v0 w v2 := by
  obtain ⟨E, F0, F1, F2⟩ := R
  exact ⟨E.wr W, F0.other W (Or.inr (slot_ne (C := "com/example/multibern/multibern/index/PackedInts") (Or.inr (hw _ (List.mem_of_getElem? (i := 26) rfl))) (Or.inr (hw _ (List.mem_of_getElem? (i := 20) rfl))) (by decide) (t := (.array .long)) (t' := .int) (by decide) (by decide))), F1.same W, F2.other W (Or.inr (slot_ne (C := "com/example/multibern/multibern/index/PackedInts") (Or.inr (hw _ (List.mem_of_getElem? (i := 22) rfl))) (Or.inr (hw _ (List.mem_of_getElem? (i := 20) rfl))) (by decide) (t := .long) (t' := .int) (by decide) (by decide)))⟩
theorem PI.set_mask {Z : State} {h h' : Heap} {a : Addr} {a0 : Array Value} {w : Value} {v0 v1 v2 : Value} (hw : ∀ d ∈ tables_1, d.before a0 Z = true) (R : PI Z h a v0 v1 v2) (W : Wr h h' a (RoadKit.slotOf Z "com/example/multibern/multibern/index/PackedInts" "mask" "J") w) : PI Z h' a v0 v1 w := by
  obtain ⟨E, F0, F1, F2⟩ := R
  exact ⟨E.wr W, F0.other W (Or.inr (slot_ne (C := "com/example/multibern/multibern/index/PackedInts") (Or.inr (hw _ (List.mem_of_getElem? (i := 26) rfl))) (Or.inr (hw _ (List.mem_of_getElem? (i := 22) rfl))) (by decide) (t := (.array .long)) (t' := .long) (by decide) (by decide))), F1.other W (Or.inr (slot_ne (C := "com/example/multibern/multibern/index/PackedInts") (Or.inr (hw _ (List.mem_of_getElem? (i := 20) rfl))) (Or.inr (hw _ (List.mem_of_getElem? (i := 22) rfl))) (by decide) (t := .int) (t' := .long) (by decide) (by decide))), F2.same W⟩
theorem own_add (x y : Int32) (h1 : -2147483648 ≤ x.toInt + y.toInt) (h2 : x.toInt + y.toInt < 2147483648) : (x + y).toInt = x.toInt + y.toInt := by
  have := c_iadd x y; have := rng32 (x + y); omega
theorem own_sub (x y : Int32) (h1 : -2147483648 ≤ x.toInt - y.toInt) (h2 : x.toInt - y.toInt < 2147483648) : (x - y).toInt = x.toInt - y.toInt := by
  have := c_isub x y; have := rng32 (x - y); omega
theorem own_addk (x k : Int32) (K : Int) (hk : k.toInt = K) (h0 : 0 ≤ K) (h : x.toInt + K < 2147483648) : (x + k).toInt = x.toInt + K := by
  subst hk; have := rng32 x; exact own_add x k (by omega) h
theorem own_subk (x k : Int32) (K : Int) (hk : k.toInt = K) (h0 : 0 ≤ K) (h : -2147483648 ≤ x.toInt - K) : (x - k).toInt = x.toInt - K := by
  subst hk; have := rng32 x; exact own_sub x k h (by omega)
/-- the bit at place t of the words W -/
def own_bit (W : Nat → Int64) (t : Nat) : Bool := (W (t / 64)).toBitVec.getLsbD (t % 64)
theorem own_mulB (i B : Int32) (hi0 : 0 ≤ i.toInt) (hi1 : i.toInt ≤ 1000) (hB0 : 1 ≤ B.toInt) (hB1 : B.toInt ≤ 31) : 0 ≤ i.toInt * B.toInt ∧ i.toInt * B.toInt ≤ 31000 := by
  constructor
  · exact Int.mul_nonneg hi0 (by omega)
  · have := Int.mul_le_mul hi1 hB1 (by omega) (by decide : (0 : Int) ≤ 1000); omega
theorem own_x (i B : Int32) (hi0 : 0 ≤ i.toInt) (hi1 : i.toInt ≤ 1000) (hB0 : 1 ≤ B.toInt) (hB1 : B.toInt ≤ 31) : (i.toInt64 * B.toInt64).toInt = i.toInt * B.toInt := by
  have e := c_lmul i.toInt64 B.toInt64; have e1 := c_i2l i; have e2 := c_i2l B; have r := rng64 (i.toInt64 * B.toInt64); have m := own_mulB i B hi0 hi1 hB0 hB1
  rw [e1, e2] at e; omega
theorem own_wd (x : Int64) (h0 : 0 ≤ x.toInt) (h1 : x.toInt ≤ 31000) : (((x.toUInt64 >>> ((6 : Int32) &&& 0x3f).toInt64.toUInt64).toInt64).toInt32).toInt = x.toInt / 64 := by
  have e := c_lushr x 6 6 (by decide) (by decide)
  have c := c_l2i ((x.toUInt64 >>> ((6 : Int32) &&& 0x3f).toInt64.toUInt64).toInt64)
  have r := rng32 (((x.toUInt64 >>> ((6 : Int32) &&& 0x3f).toInt64.toUInt64).toInt64).toInt32)
  have p : ((2 ^ 6 : Nat) : Int) = 64 := by decide
  rw [p] at e; omega
theorem own_sh (x : Int64) (h0 : 0 ≤ x.toInt) (h1 : x.toInt ≤ 31000) : ((x &&& (63 : Int64)).toInt32).toInt = x.toInt % 64 := by
  have e := c_maskL x 63 6 (by decide) (by decide)
  have c := c_l2i (x &&& 63)
  have r := rng32 ((x &&& (63 : Int64)).toInt32)
  have p : ((2 ^ 6 : Nat) : Int) = 64 := by decide
  rw [p] at e; omega
theorem own_q (y : Int32) (k : Nat) (hk : y.toInt = k) (h : k < 64) : y.toBitVec.toNat % 64 = k := by
  have e : y.toInt = y.toBitVec.toInt := rfl
  have t := y.toBitVec.toInt_eq_toNat_cond
  rw [← e, hk] at t
  split at t <;> omega
/-- the shifts of a long, by a number of places below 64, as shifts of its bits -/
theorem own_shl (x : Int64) (y : Int32) (k : Nat) (hk : y.toInt = k) (h : k < 64) : (x <<< (y &&& 0x3f).toInt64).toBitVec = x.toBitVec <<< k := by
  obtain ⟨e, hk'⟩ := sm64 y k (own_q y k hk h)
  show x.toBitVec <<< ((y &&& 0x3f).toInt64.toBitVec.smod 64) = _
  rw [BitVec.shiftLeft_eq', e, smod64 k hk']
theorem own_shr (x : Int64) (y : Int32) (k : Nat) (hk : y.toInt = k) (h : k < 64) : ((x.toUInt64 >>> (y &&& 0x3f).toInt64.toUInt64).toInt64).toBitVec = x.toBitVec >>> k := by
  obtain ⟨e, hk'⟩ := sm64 y k (own_q y k hk h)
  show (x.toUInt64 >>> (y &&& 0x3f).toInt64.toUInt64).toBitVec = _
  rw [UInt64.toBitVec_shiftRight]
  show x.toBitVec >>> ((y &&& 0x3f).toInt64.toBitVec % 64) = _
  rw [e]
  have : (BitVec.ofNat 64 k % 64 : BitVec 64) = BitVec.ofNat 64 k := by
    apply BitVec.eq_of_toNat_eq; simp; omega
  rw [this]
  simp [BitVec.ushiftRight_eq', Nat.mod_eq_of_lt (show k < 18446744073709551616 by omega)]
theorem own_mask : ∀ k : Fin 32, ∀ j : Fin 64, (((1 : Int64) <<< ((Int32.ofInt (k.val : Int)) &&& 0x3f).toInt64) - 1).toBitVec.getLsbD j.val = decide (j.val < k.val) := by decide +kernel
theorem own_mk (B : Int32) (h0 : 0 ≤ B.toInt) (h1 : B.toInt ≤ 31) (j : Nat) (hj : j < 64) : (((1 : Int64) <<< (B &&& 0x3f).toInt64) - 1).toBitVec.getLsbD j = decide ((j : Int) < B.toInt) := by
  have e : B = Int32.ofInt ((B.toInt.toNat : Nat) : Int) := by
    rw [Int.toNat_of_nonneg h0]; exact (Int32.ofInt_toInt B).symm
  have := own_mask ⟨B.toInt.toNat, by omega⟩ ⟨j, hj⟩
  rw [← e] at this
  rw [this]
  congr 1
  show (j < B.toInt.toNat) = _
  apply propext; omega
theorem own_vbit (v : Int32) (h0 : 0 ≤ v.toInt) (j : Nat) : v.toInt64.toBitVec.getLsbD j = v.toBitVec.getLsbD j := by
  show (v.toBitVec.signExtend 64).getLsbD j = _
  have hm : v.toBitVec.msb = false := by
    rw [BitVec.msb_eq_toInt]; simp; exact h0
  rw [BitVec.getLsbD_signExtend, hm]
  by_cases h : j < 32
  · simp [h]; omega
  · have e := BitVec.getLsbD_of_ge v.toBitVec j (by omega)
    simp [h, e]
theorem own_small (v : Int32) (B : Nat) (h0 : 0 ≤ v.toInt) (h : v.toInt < (2 ^ B : Nat)) (j : Nat) (hj : B ≤ j) : v.toBitVec.getLsbD j = false := by
  have e : v.toInt = v.toBitVec.toInt := rfl
  have t := v.toBitVec.toInt_eq_toNat_cond
  have l : v.toBitVec.toNat < 2 ^ B := by
    rw [← e] at t
    split at t
    · omega
    · have := v.toBitVec.isLt; omega
  show v.toBitVec.toNat.testBit j = false
  exact Nat.testBit_lt_two_pow (Nat.lt_of_lt_of_le l (Nat.pow_le_pow_right (by decide) hj))
theorem own_eq (r v : Int32) (h : ∀ j, j < 32 → r.toBitVec.getLsbD j = v.toBitVec.getLsbD j) : r.toInt = v.toInt := by
  have : r.toBitVec = v.toBitVec := BitVec.eq_of_getLsbD_eq (fun i hi => h i hi)
  rw [Int32.toBitVec_inj.mp this]
/-- what get reads -/
theorem own_get (W : Nat → Int64) (wd sh B : Int32) (mk : Int64) (P : Nat) (hw : wd.toInt = (P / 64 : Nat)) (hs : sh.toInt = (P % 64 : Nat)) (hw1 : (wd + (1 : Int32)).toInt = (P / 64 + 1 : Nat)) (hsb : ((63 : Int32) - sh).toInt = (63 - P % 64 : Nat)) (hB0 : 0 ≤ B.toInt) (hB : B.toInt ≤ 31) (hmk : mk = ((1 : Int64) <<< (B &&& 0x3f).toInt64) - 1) :
    ∀ j, j < 32 → (((((W wd.toInt.toNat).toUInt64 >>> (sh &&& 0x3f).toInt64.toUInt64).toInt64 ||| (((W (wd + (1 : Int32)).toInt.toNat) <<< ((1 : Int32) &&& 0x3f).toInt64) <<< (((63 : Int32) - sh) &&& 0x3f).toInt64)) &&& mk).toInt32).toBitVec.getLsbD j = (decide ((j : Int) < B.toInt) && own_bit W (P + j)) := by
  intro j hj
  have e1 := own_shr (W wd.toInt.toNat) sh (P % 64) hs (Nat.mod_lt _ (by decide))
  have e2 := own_shl (W (wd + (1 : Int32)).toInt.toNat) 1 1 rfl (by decide)
  have e3 := own_shl ((W (wd + (1 : Int32)).toInt.toNat) <<< ((1 : Int32) &&& 0x3f).toInt64) (63 - sh) (63 - P % 64) hsb (by omega)
  have e4 := own_mk B hB0 hB j (by omega)
  rw [← hmk] at e4
  rw [Int64.toBitVec_toInt32, BitVec.getLsbD_signExtend, if_pos (show j < 64 by omega), Int64.toBitVec_and, BitVec.getLsbD_and, e4, Int64.toBitVec_or, BitVec.getLsbD_or, e1, e3, e2]
  rw [BitVec.getLsbD_ushiftRight, BitVec.getLsbD_shiftLeft, BitVec.getLsbD_shiftLeft]
  have n1 : wd.toInt.toNat = P / 64 := by omega
  have n2 : (wd + (1 : Int32)).toInt.toNat = P / 64 + 1 := by omega
  rw [n1, n2]
  unfold own_bit
  by_cases q : P % 64 + j < 64
  · have a1 : (P + j) / 64 = P / 64 := by omega
    have a2 : (P + j) % 64 = P % 64 + j := by omega
    rw [a1, a2]
    have b1 : decide (j < 64) = true := by simp; omega
    have b2 : decide (j < 63 - P % 64 + 1) = true := by simp; omega
    by_cases b3 : j < 63 - P % 64
    · simp [b3, hj, Bool.and_comm]
    · have b4 : j - (63 - P % 64) < 1 := by omega
      simp [b3, b4, hj, Bool.and_comm]
  · have a1 : (P + j) / 64 = P / 64 + 1 := by omega
    have a2 : (P + j) % 64 = P % 64 + j - 64 := by omega
    rw [a1, a2]
    have b0 : (W (P / 64)).toBitVec.getLsbD (P % 64 + j) = false := BitVec.getLsbD_of_ge _ _ (by omega)
    have b3 : ¬ j < 63 - P % 64 := by omega
    have b4 : ¬ j - (63 - P % 64) < 1 := by omega
    have b5 : j - (63 - P % 64) - 1 = P % 64 + j - 64 := by omega
    have b6 : j - (63 - P % 64) < 64 := by omega
    have b8 : j < 64 := by omega
    simp [b0, b3, b4, b5, b6, b8, hj, Bool.and_comm]
/-- what set leaves -/
theorem own_set (W : Nat → Int64) (wd sh v : Int32) (P : Nat) (hv : 0 ≤ v.toInt) (hw : wd.toInt = (P / 64 : Nat)) (hs : sh.toInt = (P % 64 : Nat)) (hw1 : (wd + (1 : Int32)).toInt = (P / 64 + 1 : Nat)) (hsb : ((63 : Int32) - sh).toInt = (63 - P % 64 : Nat)) (t : Nat) :
    own_bit (oUpd (oUpd W wd.toInt.toNat (W wd.toInt.toNat ||| (v.toInt64 <<< (sh &&& 0x3f).toInt64))) (wd + (1 : Int32)).toInt.toNat (oUpd W wd.toInt.toNat (W wd.toInt.toNat ||| (v.toInt64 <<< (sh &&& 0x3f).toInt64)) (wd + (1 : Int32)).toInt.toNat ||| ((v.toInt64.toUInt64 >>> ((1 : Int32) &&& 0x3f).toInt64.toUInt64).toInt64.toUInt64 >>> (((63 : Int32) - sh) &&& 0x3f).toInt64.toUInt64).toInt64)) t
      = (own_bit W t || (decide (P ≤ t) && v.toBitVec.getLsbD (t - P))) := by
  have n1 : wd.toInt.toNat = P / 64 := by omega
  have n2 : (wd + (1 : Int32)).toInt.toNat = P / 64 + 1 := by omega
  have e1 := own_shl v.toInt64 sh (P % 64) hs (Nat.mod_lt _ (by decide))
  have e2 := own_shr v.toInt64 1 1 rfl (by decide)
  have e3 := own_shr ((v.toInt64.toUInt64 >>> ((1 : Int32) &&& 0x3f).toInt64.toUInt64).toInt64) (63 - sh) (63 - P % 64) hsb (by omega)
  rw [n1, n2, oUpd_miss W _ (show P / 64 + 1 ≠ P / 64 by omega)]
  unfold own_bit oUpd
  by_cases q1 : t / 64 = P / 64 + 1
  · rw [if_pos q1, Int64.toBitVec_or, BitVec.getLsbD_or, e3, e2, BitVec.getLsbD_ushiftRight, BitVec.getLsbD_ushiftRight, own_vbit v hv, q1]
    have a1 : 1 + (63 - P % 64 + t % 64) = t - P := by omega
    have a2 : P ≤ t := by omega
    rw [a1]; simp [a2]
  · rw [if_neg q1]
    by_cases q2 : t / 64 = P / 64
    · rw [if_pos q2, Int64.toBitVec_or, BitVec.getLsbD_or, e1, BitVec.getLsbD_shiftLeft, own_vbit v hv, q2]
      have a0 : t % 64 < 64 := Nat.mod_lt _ (by decide)
      by_cases a1 : t % 64 < P % 64
      · have a2 : ¬ P ≤ t := by omega
        simp [a0, a1, a2]
      · have a2 : P ≤ t := by omega
        have a3 : t % 64 - P % 64 = t - P := by omega
        simp [a0, a1, a2, a3]
    · rw [if_neg q2]
      by_cases a1 : P ≤ t
      · have : v.toBitVec.getLsbD (t - P) = false := BitVec.getLsbD_of_ge _ _ (by omega)
        simp [this]
      · simp [a1]
theorem own_zero (t : Nat) : own_bit oZJ t = false := by
  show (0 : Int64).toBitVec.getLsbD _ = false
  simp
theorem own_ushr (x k : Int32) (K : Nat) (hk : k.toBitVec.toNat % 32 = K) (h0 : 0 < K) (hx : 0 ≤ x.toInt) : ((x.toUInt32 >>> (k &&& 31).toUInt32).toInt32).toInt = x.toInt / (2 ^ K : Nat) := by
  rw [c_iushr x k K hk h0, Int.emod_eq_of_lt hx (by have := rng32 x; omega)]
theorem d3_0 : decode jdk_33_method_47_code 0 = .ok (.iload_n 0, 1) := by decide +kernel
theorem d3_1 : decode jdk_33_method_47_code 1 = .ok (.ifCond .gt 14, 3) := by decide +kernel
theorem d3_4 : decode jdk_33_method_47_code 4 = .ok (.iload_n 0, 1) := by decide +kernel
theorem d3_5 : decode jdk_33_method_47_code 5 = .ok (.ifCond .ne 8, 3) := by decide +kernel
theorem d3_8 : decode jdk_33_method_47_code 8 = .ok (.bipush 32, 2) := by decide +kernel
theorem d3_10 : decode jdk_33_method_47_code 10 = .ok (.goto 4, 3) := by decide +kernel
theorem d3_13 : decode jdk_33_method_47_code 13 = .ok (.iconst 0, 1) := by decide +kernel
theorem d3_14 : decode jdk_33_method_47_code 14 = .ok (.ireturn, 1) := by decide +kernel
theorem d3_15 : decode jdk_33_method_47_code 15 = .ok (.bipush 31, 2) := by decide +kernel
theorem d3_17 : decode jdk_33_method_47_code 17 = .ok (.istore_n 1, 1) := by decide +kernel
theorem d3_18 : decode jdk_33_method_47_code 18 = .ok (.iload_n 0, 1) := by decide +kernel
theorem d3_19 : decode jdk_33_method_47_code 19 = .ok (.ldc_w 264, 3) := by decide +kernel
theorem d3_22 : decode jdk_33_method_47_code 22 = .ok (.if_icmp .lt 11, 3) := by decide +kernel
theorem d3_25 : decode jdk_33_method_47_code 25 = .ok (.iinc 1 (-16), 3) := by decide +kernel
theorem d3_28 : decode jdk_33_method_47_code 28 = .ok (.iload_n 0, 1) := by decide +kernel
theorem d3_29 : decode jdk_33_method_47_code 29 = .ok (.bipush 16, 2) := by decide +kernel
theorem d3_31 : decode jdk_33_method_47_code 31 = .ok (.iushr, 1) := by decide +kernel
theorem d3_32 : decode jdk_33_method_47_code 32 = .ok (.istore_n 0, 1) := by decide +kernel
theorem d3_33 : decode jdk_33_method_47_code 33 = .ok (.iload_n 0, 1) := by decide +kernel
theorem d3_34 : decode jdk_33_method_47_code 34 = .ok (.sipush 256, 3) := by decide +kernel
theorem d3_37 : decode jdk_33_method_47_code 37 = .ok (.if_icmp .lt 11, 3) := by decide +kernel
theorem d3_40 : decode jdk_33_method_47_code 40 = .ok (.iinc 1 (-8), 3) := by decide +kernel
theorem d3_43 : decode jdk_33_method_47_code 43 = .ok (.iload_n 0, 1) := by decide +kernel
theorem d3_44 : decode jdk_33_method_47_code 44 = .ok (.bipush 8, 2) := by decide +kernel
theorem d3_46 : decode jdk_33_method_47_code 46 = .ok (.iushr, 1) := by decide +kernel
theorem d3_47 : decode jdk_33_method_47_code 47 = .ok (.istore_n 0, 1) := by decide +kernel
theorem d3_48 : decode jdk_33_method_47_code 48 = .ok (.iload_n 0, 1) := by decide +kernel
theorem d3_49 : decode jdk_33_method_47_code 49 = .ok (.bipush 16, 2) := by decide +kernel
theorem d3_51 : decode jdk_33_method_47_code 51 = .ok (.if_icmp .lt 10, 3) := by decide +kernel
theorem d3_54 : decode jdk_33_method_47_code 54 = .ok (.iinc 1 (-4), 3) := by decide +kernel
theorem d3_57 : decode jdk_33_method_47_code 57 = .ok (.iload_n 0, 1) := by decide +kernel
theorem d3_58 : decode jdk_33_method_47_code 58 = .ok (.iconst 4, 1) := by decide +kernel
theorem d3_59 : decode jdk_33_method_47_code 59 = .ok (.iushr, 1) := by decide +kernel
theorem d3_60 : decode jdk_33_method_47_code 60 = .ok (.istore_n 0, 1) := by decide +kernel
theorem d3_61 : decode jdk_33_method_47_code 61 = .ok (.iload_n 0, 1) := by decide +kernel
theorem d3_62 : decode jdk_33_method_47_code 62 = .ok (.iconst 4, 1) := by decide +kernel
theorem d3_63 : decode jdk_33_method_47_code 63 = .ok (.if_icmp .lt 10, 3) := by decide +kernel
theorem d3_66 : decode jdk_33_method_47_code 66 = .ok (.iinc 1 (-2), 3) := by decide +kernel
theorem d3_69 : decode jdk_33_method_47_code 69 = .ok (.iload_n 0, 1) := by decide +kernel
theorem d3_70 : decode jdk_33_method_47_code 70 = .ok (.iconst 2, 1) := by decide +kernel
theorem d3_71 : decode jdk_33_method_47_code 71 = .ok (.iushr, 1) := by decide +kernel
theorem d3_72 : decode jdk_33_method_47_code 72 = .ok (.istore_n 0, 1) := by decide +kernel
theorem d3_73 : decode jdk_33_method_47_code 73 = .ok (.iload_n 1, 1) := by decide +kernel
theorem d3_74 : decode jdk_33_method_47_code 74 = .ok (.iload_n 0, 1) := by decide +kernel
theorem d3_75 : decode jdk_33_method_47_code 75 = .ok (.iconst 1, 1) := by decide +kernel
theorem d3_76 : decode jdk_33_method_47_code 76 = .ok (.iushr, 1) := by decide +kernel
theorem d3_77 : decode jdk_33_method_47_code 77 = .ok (.isub, 1) := by decide +kernel
theorem d3_78 : decode jdk_33_method_47_code 78 = .ok (.ireturn, 1) := by decide +kernel
def k3 : OM := (jdk_33_method_47_code, 2, "java/lang/Integer", "numberOfLeadingZeros", (some .int), { frames := 0, cells := 0, slots := 0, locals := 0 })
theorem pn3 : plainFor (⟨"java/lang/Integer", "numberOfLeadingZeros", "(I)I"⟩ : MethodName) = true := plainFor_of_name (by first | (simp [plainName, overriddenIn]; done) | decide +kernel)
theorem pd3 : parseMethodDescriptor "(I)I" = some ⟨[.int], (some .int)⟩ := by decide +kernel
theorem own_negk (x k : Int32) (K : Int) (hk : k.toInt = -K) (h0 : 0 ≤ K) (h : -2147483648 ≤ x.toInt - K) : (x + k).toInt = x.toInt - K := by
  have := rng32 x; rw [own_add x k (by omega) (by omega), hk]; omega
set_option maxRecDepth 65536 in
set_option maxHeartbeats 4000000 in
theorem C_nlz {Z : State} {ω : OW} {h : Heap} (hw_ : ∀ d ∈ tables_1, d.before ω.2.2 Z = true) (hn_ : ω.2.1 ≤ h.size) (i0 : Int32) (h0 : 0 ≤ i0.toInt) :
    oC Z ω (⟨"java/lang/Integer", "numberOfLeadingZeros", "(I)I"⟩ : MethodName) k3 [] #[.int i0] h (fun v h' => ∃ z : Int32, v = some (.int z) ∧ h = h' ∧ 1 ≤ z.toInt ∧ z.toInt ≤ 32 ∧ i0.toInt < ((2 ^ (32 - z.toInt).toNat : Nat) : Int)) := by
  refine oC_of hw_ hn_ pn3 rfl rfl (L := #[.val (.int i0), .unset]) (fun m => by first | (simp [entryFrame, mkF, argsToLocals, Value.category, k3]; done) | rfl) ?_
  intro γ T X
  have r0 := rng32 i0
  refine ow_iloadN X 1 d3_0 rfl rfl ?_
  refine ow_if_gt X 4 15 d3_1 rfl rfl (fun (c1 : 0 < i0.toInt) => ?_) (fun (c1 : i0.toInt ≤ 0) => ?_)
  · refine ow_bipush X 17 (31 : Int32) d3_15 rfl rfl ?_
    refine ow_istoreN X 18 (L' := #[.val (.int i0), .val (.int (31 : Int32))]) d3_17 rfl rfl ?_
    refine ow_iloadN X 19 d3_18 rfl rfl ?_
    refine ow_ldcWI X 22 38 rfl rfl d3_19 rfl ?_
    refine ow_icmp_lt X 25 33 d3_22 rfl rfl (fun (c22 : i0.toInt < 65536) => ?_) (fun (c22 : 65536 ≤ i0.toInt) => ?_)
    · refine ow_iloadN X 34 d3_33 rfl rfl ?_
      refine ow_sipush X 37 (256 : Int32) d3_34 rfl rfl ?_
      refine ow_icmp_lt X 40 48 d3_37 rfl rfl (fun (c37 : i0.toInt < 256) => ?_) (fun (c37 : 256 ≤ i0.toInt) => ?_)
      · refine ow_iloadN X 49 d3_48 rfl rfl ?_
        refine ow_bipush X 51 (16 : Int32) d3_49 rfl rfl ?_
        refine ow_icmp_lt X 54 61 d3_51 rfl rfl (fun (c51 : i0.toInt < 16) => ?_) (fun (c51 : 16 ≤ i0.toInt) => ?_)
        · refine ow_iloadN X 62 d3_61 rfl rfl ?_
          refine ow_iconst X 63 (4 : Int32) d3_62 rfl rfl ?_
          refine ow_icmp_lt X 66 73 d3_63 rfl rfl (fun (c63 : i0.toInt < 4) => ?_) (fun (c63 : 4 ≤ i0.toInt) => ?_)
          · refine ow_iloadN X 74 d3_73 rfl rfl ?_
            refine ow_iloadN X 75 d3_74 rfl rfl ?_
            refine ow_iconst X 76 (1 : Int32) d3_75 rfl rfl ?_
            refine ow_iushr X 77 d3_76 rfl ?_
            refine ow_isub X 78 d3_77 rfl ?_
            refine ow_retI X rfl d3_78 (by decide) (by decide) ?_
            have n0 : (31 : Int32).toInt = 31 := rfl
            have e9 := own_ushr i0 (1 : Int32) 1 (by decide) (by decide) (by omega)
            rw [show ((2 ^ 1 : Nat) : Int) = 2 from by decide] at e9
            refine ⟨_, rfl, rfl, ?_⟩
            have e10 := own_sub (31 : Int32) ((i0.toUInt32 >>> ((1 : Int32) &&& 31).toUInt32).toInt32) (by omega) (by omega)
            generalize (31 : Int32) - ((i0.toUInt32 >>> ((1 : Int32) &&& 31).toUInt32).toInt32) = z at e10 ⊢
            refine ⟨by omega, by omega, ?_⟩
            have hz : z.toInt = 31 ∨ z.toInt = 30 := by omega
            rcases hz with hz | hz
            · rw [hz]; show i0.toInt < 2; omega
            · rw [hz]; show i0.toInt < 4; omega
          · refine ow_iinc X 69 (L' := #[.val (.int i0), .val (.int ((31 : Int32) + (-2 : Int32)))]) (-2 : Int32) d3_66 rfl rfl rfl rfl ?_
            refine ow_iloadN X 70 d3_69 rfl rfl ?_
            refine ow_iconst X 71 (2 : Int32) d3_70 rfl rfl ?_
            refine ow_iushr X 72 d3_71 rfl ?_
            refine ow_istoreN X 73 (L' := #[.val (.int ((i0.toUInt32 >>> ((2 : Int32) &&& 31).toUInt32).toInt32)), .val (.int ((31 : Int32) + (-2 : Int32)))]) d3_72 rfl rfl ?_
            have e4 := own_ushr i0 (2 : Int32) 2 (by decide) (by decide) (by omega)
            rw [show ((2 ^ 2 : Nat) : Int) = 4 from by decide] at e4
            generalize (i0.toUInt32 >>> ((2 : Int32) &&& 31).toUInt32).toInt32 = i4 at e4 ⊢
            have n4 : ((31 : Int32) + (-2 : Int32)).toInt = 29 := by rw [own_negk (31 : Int32) (-2 : Int32) 2 rfl (by decide) (by decide)]; rfl
            generalize (31 : Int32) + (-2 : Int32) = m4 at n4 ⊢
            refine ow_iloadN X 74 d3_73 rfl rfl ?_
            refine ow_iloadN X 75 d3_74 rfl rfl ?_
            refine ow_iconst X 76 (1 : Int32) d3_75 rfl rfl ?_
            refine ow_iushr X 77 d3_76 rfl ?_
            refine ow_isub X 78 d3_77 rfl ?_
            refine ow_retI X rfl d3_78 (by decide) (by decide) ?_
            have e9 := own_ushr i4 (1 : Int32) 1 (by decide) (by decide) (by omega)
            rw [show ((2 ^ 1 : Nat) : Int) = 2 from by decide] at e9
            refine ⟨_, rfl, rfl, ?_⟩
            have e10 := own_sub m4 ((i4.toUInt32 >>> ((1 : Int32) &&& 31).toUInt32).toInt32) (by omega) (by omega)
            generalize m4 - ((i4.toUInt32 >>> ((1 : Int32) &&& 31).toUInt32).toInt32) = z at e10 ⊢
            refine ⟨by omega, by omega, ?_⟩
            have hz : z.toInt = 29 ∨ z.toInt = 28 := by omega
            rcases hz with hz | hz
            · rw [hz]; show i0.toInt < 8; omega
            · rw [hz]; show i0.toInt < 16; omega
        · refine ow_iinc X 57 (L' := #[.val (.int i0), .val (.int ((31 : Int32) + (-4 : Int32)))]) (-4 : Int32) d3_54 rfl rfl rfl rfl ?_
          refine ow_iloadN X 58 d3_57 rfl rfl ?_
          refine ow_iconst X 59 (4 : Int32) d3_58 rfl rfl ?_
          refine ow_iushr X 60 d3_59 rfl ?_
          refine ow_istoreN X 61 (L' := #[.val (.int ((i0.toUInt32 >>> ((4 : Int32) &&& 31).toUInt32).toInt32)), .val (.int ((31 : Int32) + (-4 : Int32)))]) d3_60 rfl rfl ?_
          have e3 := own_ushr i0 (4 : Int32) 4 (by decide) (by decide) (by omega)
          rw [show ((2 ^ 4 : Nat) : Int) = 16 from by decide] at e3
          generalize (i0.toUInt32 >>> ((4 : Int32) &&& 31).toUInt32).toInt32 = i3 at e3 ⊢
          have n3 : ((31 : Int32) + (-4 : Int32)).toInt = 27 := by rw [own_negk (31 : Int32) (-4 : Int32) 4 rfl (by decide) (by decide)]; rfl
          generalize (31 : Int32) + (-4 : Int32) = m3 at n3 ⊢
          refine ow_iloadN X 62 d3_61 rfl rfl ?_
          refine ow_iconst X 63 (4 : Int32) d3_62 rfl rfl ?_
          refine ow_icmp_lt X 66 73 d3_63 rfl rfl (fun (c63 : i3.toInt < 4) => ?_) (fun (c63 : 4 ≤ i3.toInt) => ?_)
          · refine ow_iloadN X 74 d3_73 rfl rfl ?_
            refine ow_iloadN X 75 d3_74 rfl rfl ?_
            refine ow_iconst X 76 (1 : Int32) d3_75 rfl rfl ?_
            refine ow_iushr X 77 d3_76 rfl ?_
            refine ow_isub X 78 d3_77 rfl ?_
            refine ow_retI X rfl d3_78 (by decide) (by decide) ?_
            have e9 := own_ushr i3 (1 : Int32) 1 (by decide) (by decide) (by omega)
            rw [show ((2 ^ 1 : Nat) : Int) = 2 from by decide] at e9
            refine ⟨_, rfl, rfl, ?_⟩
            have e10 := own_sub m3 ((i3.toUInt32 >>> ((1 : Int32) &&& 31).toUInt32).toInt32) (by omega) (by omega)
            generalize m3 - ((i3.toUInt32 >>> ((1 : Int32) &&& 31).toUInt32).toInt32) = z at e10 ⊢
            refine ⟨by omega, by omega, ?_⟩
            have hz : z.toInt = 27 ∨ z.toInt = 26 := by omega
            rcases hz with hz | hz
            · rw [hz]; show i0.toInt < 32; omega
            · rw [hz]; show i0.toInt < 64; omega
          · refine ow_iinc X 69 (L' := #[.val (.int i3), .val (.int (m3 + (-2 : Int32)))]) (-2 : Int32) d3_66 rfl rfl rfl rfl ?_
            refine ow_iloadN X 70 d3_69 rfl rfl ?_
            refine ow_iconst X 71 (2 : Int32) d3_70 rfl rfl ?_
            refine ow_iushr X 72 d3_71 rfl ?_
            refine ow_istoreN X 73 (L' := #[.val (.int ((i3.toUInt32 >>> ((2 : Int32) &&& 31).toUInt32).toInt32)), .val (.int (m3 + (-2 : Int32)))]) d3_72 rfl rfl ?_
            have e4 := own_ushr i3 (2 : Int32) 2 (by decide) (by decide) (by omega)
            rw [show ((2 ^ 2 : Nat) : Int) = 4 from by decide] at e4
            generalize (i3.toUInt32 >>> ((2 : Int32) &&& 31).toUInt32).toInt32 = i4 at e4 ⊢
            have n4 : (m3 + (-2 : Int32)).toInt = 25 := by rw [own_negk m3 (-2 : Int32) 2 rfl (by decide) (by omega)]; omega
            generalize m3 + (-2 : Int32) = m4 at n4 ⊢
            refine ow_iloadN X 74 d3_73 rfl rfl ?_
            refine ow_iloadN X 75 d3_74 rfl rfl ?_
            refine ow_iconst X 76 (1 : Int32) d3_75 rfl rfl ?_
            refine ow_iushr X 77 d3_76 rfl ?_
            refine ow_isub X 78 d3_77 rfl ?_
            refine ow_retI X rfl d3_78 (by decide) (by decide) ?_
            have e9 := own_ushr i4 (1 : Int32) 1 (by decide) (by decide) (by omega)
            rw [show ((2 ^ 1 : Nat) : Int) = 2 from by decide] at e9
            refine ⟨_, rfl, rfl, ?_⟩
            have e10 := own_sub m4 ((i4.toUInt32 >>> ((1 : Int32) &&& 31).toUInt32).toInt32) (by omega) (by omega)
            generalize m4 - ((i4.toUInt32 >>> ((1 : Int32) &&& 31).toUInt32).toInt32) = z at e10 ⊢
            refine ⟨by omega, by omega, ?_⟩
            have hz : z.toInt = 25 ∨ z.toInt = 24 := by omega
            rcases hz with hz | hz
            · rw [hz]; show i0.toInt < 128; omega
            · rw [hz]; show i0.toInt < 256; omega
      · refine ow_iinc X 43 (L' := #[.val (.int i0), .val (.int ((31 : Int32) + (-8 : Int32)))]) (-8 : Int32) d3_40 rfl rfl rfl rfl ?_
        refine ow_iloadN X 44 d3_43 rfl rfl ?_
        refine ow_bipush X 46 (8 : Int32) d3_44 rfl rfl ?_
        refine ow_iushr X 47 d3_46 rfl ?_
        refine ow_istoreN X 48 (L' := #[.val (.int ((i0.toUInt32 >>> ((8 : Int32) &&& 31).toUInt32).toInt32)), .val (.int ((31 : Int32) + (-8 : Int32)))]) d3_47 rfl rfl ?_
        have e2 := own_ushr i0 (8 : Int32) 8 (by decide) (by decide) (by omega)
        rw [show ((2 ^ 8 : Nat) : Int) = 256 from by decide] at e2
        generalize (i0.toUInt32 >>> ((8 : Int32) &&& 31).toUInt32).toInt32 = i2 at e2 ⊢
        have n2 : ((31 : Int32) + (-8 : Int32)).toInt = 23 := by rw [own_negk (31 : Int32) (-8 : Int32) 8 rfl (by decide) (by decide)]; rfl
        generalize (31 : Int32) + (-8 : Int32) = m2 at n2 ⊢
        refine ow_iloadN X 49 d3_48 rfl rfl ?_
        refine ow_bipush X 51 (16 : Int32) d3_49 rfl rfl ?_
        refine ow_icmp_lt X 54 61 d3_51 rfl rfl (fun (c51 : i2.toInt < 16) => ?_) (fun (c51 : 16 ≤ i2.toInt) => ?_)
        · refine ow_iloadN X 62 d3_61 rfl rfl ?_
          refine ow_iconst X 63 (4 : Int32) d3_62 rfl rfl ?_
          refine ow_icmp_lt X 66 73 d3_63 rfl rfl (fun (c63 : i2.toInt < 4) => ?_) (fun (c63 : 4 ≤ i2.toInt) => ?_)
          · refine ow_iloadN X 74 d3_73 rfl rfl ?_
            refine ow_iloadN X 75 d3_74 rfl rfl ?_
            refine ow_iconst X 76 (1 : Int32) d3_75 rfl rfl ?_
            refine ow_iushr X 77 d3_76 rfl ?_
            refine ow_isub X 78 d3_77 rfl ?_
            refine ow_retI X rfl d3_78 (by decide) (by decide) ?_
            have e9 := own_ushr i2 (1 : Int32) 1 (by decide) (by decide) (by omega)
            rw [show ((2 ^ 1 : Nat) : Int) = 2 from by decide] at e9
            refine ⟨_, rfl, rfl, ?_⟩
            have e10 := own_sub m2 ((i2.toUInt32 >>> ((1 : Int32) &&& 31).toUInt32).toInt32) (by omega) (by omega)
            generalize m2 - ((i2.toUInt32 >>> ((1 : Int32) &&& 31).toUInt32).toInt32) = z at e10 ⊢
            refine ⟨by omega, by omega, ?_⟩
            have hz : z.toInt = 23 ∨ z.toInt = 22 := by omega
            rcases hz with hz | hz
            · rw [hz]; show i0.toInt < 512; omega
            · rw [hz]; show i0.toInt < 1024; omega
          · refine ow_iinc X 69 (L' := #[.val (.int i2), .val (.int (m2 + (-2 : Int32)))]) (-2 : Int32) d3_66 rfl rfl rfl rfl ?_
            refine ow_iloadN X 70 d3_69 rfl rfl ?_
            refine ow_iconst X 71 (2 : Int32) d3_70 rfl rfl ?_
            refine ow_iushr X 72 d3_71 rfl ?_
            refine ow_istoreN X 73 (L' := #[.val (.int ((i2.toUInt32 >>> ((2 : Int32) &&& 31).toUInt32).toInt32)), .val (.int (m2 + (-2 : Int32)))]) d3_72 rfl rfl ?_
            have e4 := own_ushr i2 (2 : Int32) 2 (by decide) (by decide) (by omega)
            rw [show ((2 ^ 2 : Nat) : Int) = 4 from by decide] at e4
            generalize (i2.toUInt32 >>> ((2 : Int32) &&& 31).toUInt32).toInt32 = i4 at e4 ⊢
            have n4 : (m2 + (-2 : Int32)).toInt = 21 := by rw [own_negk m2 (-2 : Int32) 2 rfl (by decide) (by omega)]; omega
            generalize m2 + (-2 : Int32) = m4 at n4 ⊢
            refine ow_iloadN X 74 d3_73 rfl rfl ?_
            refine ow_iloadN X 75 d3_74 rfl rfl ?_
            refine ow_iconst X 76 (1 : Int32) d3_75 rfl rfl ?_
            refine ow_iushr X 77 d3_76 rfl ?_
            refine ow_isub X 78 d3_77 rfl ?_
            refine ow_retI X rfl d3_78 (by decide) (by decide) ?_
            have e9 := own_ushr i4 (1 : Int32) 1 (by decide) (by decide) (by omega)
            rw [show ((2 ^ 1 : Nat) : Int) = 2 from by decide] at e9
            refine ⟨_, rfl, rfl, ?_⟩
            have e10 := own_sub m4 ((i4.toUInt32 >>> ((1 : Int32) &&& 31).toUInt32).toInt32) (by omega) (by omega)
            generalize m4 - ((i4.toUInt32 >>> ((1 : Int32) &&& 31).toUInt32).toInt32) = z at e10 ⊢
            refine ⟨by omega, by omega, ?_⟩
            have hz : z.toInt = 21 ∨ z.toInt = 20 := by omega
            rcases hz with hz | hz
            · rw [hz]; show i0.toInt < 2048; omega
            · rw [hz]; show i0.toInt < 4096; omega
        · refine ow_iinc X 57 (L' := #[.val (.int i2), .val (.int (m2 + (-4 : Int32)))]) (-4 : Int32) d3_54 rfl rfl rfl rfl ?_
          refine ow_iloadN X 58 d3_57 rfl rfl ?_
          refine ow_iconst X 59 (4 : Int32) d3_58 rfl rfl ?_
          refine ow_iushr X 60 d3_59 rfl ?_
          refine ow_istoreN X 61 (L' := #[.val (.int ((i2.toUInt32 >>> ((4 : Int32) &&& 31).toUInt32).toInt32)), .val (.int (m2 + (-4 : Int32)))]) d3_60 rfl rfl ?_
          have e3 := own_ushr i2 (4 : Int32) 4 (by decide) (by decide) (by omega)
          rw [show ((2 ^ 4 : Nat) : Int) = 16 from by decide] at e3
          generalize (i2.toUInt32 >>> ((4 : Int32) &&& 31).toUInt32).toInt32 = i3 at e3 ⊢
          have n3 : (m2 + (-4 : Int32)).toInt = 19 := by rw [own_negk m2 (-4 : Int32) 4 rfl (by decide) (by omega)]; omega
          generalize m2 + (-4 : Int32) = m3 at n3 ⊢
          refine ow_iloadN X 62 d3_61 rfl rfl ?_
          refine ow_iconst X 63 (4 : Int32) d3_62 rfl rfl ?_
          refine ow_icmp_lt X 66 73 d3_63 rfl rfl (fun (c63 : i3.toInt < 4) => ?_) (fun (c63 : 4 ≤ i3.toInt) => ?_)
          · refine ow_iloadN X 74 d3_73 rfl rfl ?_
            refine ow_iloadN X 75 d3_74 rfl rfl ?_
            refine ow_iconst X 76 (1 : Int32) d3_75 rfl rfl ?_
            refine ow_iushr X 77 d3_76 rfl ?_
            refine ow_isub X 78 d3_77 rfl ?_
            refine ow_retI X rfl d3_78 (by decide) (by decide) ?_
            have e9 := own_ushr i3 (1 : Int32) 1 (by decide) (by decide) (by omega)
            rw [show ((2 ^ 1 : Nat) : Int) = 2 from by decide] at e9
            refine ⟨_, rfl, rfl, ?_⟩
            have e10 := own_sub m3 ((i3.toUInt32 >>> ((1 : Int32) &&& 31).toUInt32).toInt32) (by omega) (by omega)
            generalize m3 - ((i3.toUInt32 >>> ((1 : Int32) &&& 31).toUInt32).toInt32) = z at e10 ⊢
            refine ⟨by omega, by omega, ?_⟩
            have hz : z.toInt = 19 ∨ z.toInt = 18 := by omega
            rcases hz with hz | hz
            · rw [hz]; show i0.toInt < 8192; omega
            · rw [hz]; show i0.toInt < 16384; omega
          · refine ow_iinc X 69 (L' := #[.val (.int i3), .val (.int (m3 + (-2 : Int32)))]) (-2 : Int32) d3_66 rfl rfl rfl rfl ?_
            refine ow_iloadN X 70 d3_69 rfl rfl ?_
            refine ow_iconst X 71 (2 : Int32) d3_70 rfl rfl ?_
            refine ow_iushr X 72 d3_71 rfl ?_
            refine ow_istoreN X 73 (L' := #[.val (.int ((i3.toUInt32 >>> ((2 : Int32) &&& 31).toUInt32).toInt32)), .val (.int (m3 + (-2 : Int32)))]) d3_72 rfl rfl ?_
            have e4 := own_ushr i3 (2 : Int32) 2 (by decide) (by decide) (by omega)
            rw [show ((2 ^ 2 : Nat) : Int) = 4 from by decide] at e4
            generalize (i3.toUInt32 >>> ((2 : Int32) &&& 31).toUInt32).toInt32 = i4 at e4 ⊢
            have n4 : (m3 + (-2 : Int32)).toInt = 17 := by rw [own_negk m3 (-2 : Int32) 2 rfl (by decide) (by omega)]; omega
            generalize m3 + (-2 : Int32) = m4 at n4 ⊢
            refine ow_iloadN X 74 d3_73 rfl rfl ?_
            refine ow_iloadN X 75 d3_74 rfl rfl ?_
            refine ow_iconst X 76 (1 : Int32) d3_75 rfl rfl ?_
            refine ow_iushr X 77 d3_76 rfl ?_
            refine ow_isub X 78 d3_77 rfl ?_
            refine ow_retI X rfl d3_78 (by decide) (by decide) ?_
            have e9 := own_ushr i4 (1 : Int32) 1 (by decide) (by decide) (by omega)
            rw [show ((2 ^ 1 : Nat) : Int) = 2 from by decide] at e9
            refine ⟨_, rfl, rfl, ?_⟩
            have e10 := own_sub m4 ((i4.toUInt32 >>> ((1 : Int32) &&& 31).toUInt32).toInt32) (by omega) (by omega)
            generalize m4 - ((i4.toUInt32 >>> ((1 : Int32) &&& 31).toUInt32).toInt32) = z at e10 ⊢
            refine ⟨by omega, by omega, ?_⟩
            have hz : z.toInt = 17 ∨ z.toInt = 16 := by omega
            rcases hz with hz | hz
            · rw [hz]; show i0.toInt < 32768; omega
            · rw [hz]; show i0.toInt < 65536; omega
    · refine ow_iinc X 28 (L' := #[.val (.int i0), .val (.int ((31 : Int32) + (-16 : Int32)))]) (-16 : Int32) d3_25 rfl rfl rfl rfl ?_
      refine ow_iloadN X 29 d3_28 rfl rfl ?_
      refine ow_bipush X 31 (16 : Int32) d3_29 rfl rfl ?_
      refine ow_iushr X 32 d3_31 rfl ?_
      refine ow_istoreN X 33 (L' := #[.val (.int ((i0.toUInt32 >>> ((16 : Int32) &&& 31).toUInt32).toInt32)), .val (.int ((31 : Int32) + (-16 : Int32)))]) d3_32 rfl rfl ?_
      have e1 := own_ushr i0 (16 : Int32) 16 (by decide) (by decide) (by omega)
      rw [show ((2 ^ 16 : Nat) : Int) = 65536 from by decide] at e1
      generalize (i0.toUInt32 >>> ((16 : Int32) &&& 31).toUInt32).toInt32 = i1 at e1 ⊢
      have n1 : ((31 : Int32) + (-16 : Int32)).toInt = 15 := by rw [own_negk (31 : Int32) (-16 : Int32) 16 rfl (by decide) (by decide)]; rfl
      generalize (31 : Int32) + (-16 : Int32) = m1 at n1 ⊢
      refine ow_iloadN X 34 d3_33 rfl rfl ?_
      refine ow_sipush X 37 (256 : Int32) d3_34 rfl rfl ?_
      refine ow_icmp_lt X 40 48 d3_37 rfl rfl (fun (c37 : i1.toInt < 256) => ?_) (fun (c37 : 256 ≤ i1.toInt) => ?_)
      · refine ow_iloadN X 49 d3_48 rfl rfl ?_
        refine ow_bipush X 51 (16 : Int32) d3_49 rfl rfl ?_
        refine ow_icmp_lt X 54 61 d3_51 rfl rfl (fun (c51 : i1.toInt < 16) => ?_) (fun (c51 : 16 ≤ i1.toInt) => ?_)
        · refine ow_iloadN X 62 d3_61 rfl rfl ?_
          refine ow_iconst X 63 (4 : Int32) d3_62 rfl rfl ?_
          refine ow_icmp_lt X 66 73 d3_63 rfl rfl (fun (c63 : i1.toInt < 4) => ?_) (fun (c63 : 4 ≤ i1.toInt) => ?_)
          · refine ow_iloadN X 74 d3_73 rfl rfl ?_
            refine ow_iloadN X 75 d3_74 rfl rfl ?_
            refine ow_iconst X 76 (1 : Int32) d3_75 rfl rfl ?_
            refine ow_iushr X 77 d3_76 rfl ?_
            refine ow_isub X 78 d3_77 rfl ?_
            refine ow_retI X rfl d3_78 (by decide) (by decide) ?_
            have e9 := own_ushr i1 (1 : Int32) 1 (by decide) (by decide) (by omega)
            rw [show ((2 ^ 1 : Nat) : Int) = 2 from by decide] at e9
            refine ⟨_, rfl, rfl, ?_⟩
            have e10 := own_sub m1 ((i1.toUInt32 >>> ((1 : Int32) &&& 31).toUInt32).toInt32) (by omega) (by omega)
            generalize m1 - ((i1.toUInt32 >>> ((1 : Int32) &&& 31).toUInt32).toInt32) = z at e10 ⊢
            refine ⟨by omega, by omega, ?_⟩
            have hz : z.toInt = 15 ∨ z.toInt = 14 := by omega
            rcases hz with hz | hz
            · rw [hz]; show i0.toInt < 131072; omega
            · rw [hz]; show i0.toInt < 262144; omega
          · refine ow_iinc X 69 (L' := #[.val (.int i1), .val (.int (m1 + (-2 : Int32)))]) (-2 : Int32) d3_66 rfl rfl rfl rfl ?_
            refine ow_iloadN X 70 d3_69 rfl rfl ?_
            refine ow_iconst X 71 (2 : Int32) d3_70 rfl rfl ?_
            refine ow_iushr X 72 d3_71 rfl ?_
            refine ow_istoreN X 73 (L' := #[.val (.int ((i1.toUInt32 >>> ((2 : Int32) &&& 31).toUInt32).toInt32)), .val (.int (m1 + (-2 : Int32)))]) d3_72 rfl rfl ?_
            have e4 := own_ushr i1 (2 : Int32) 2 (by decide) (by decide) (by omega)
            rw [show ((2 ^ 2 : Nat) : Int) = 4 from by decide] at e4
            generalize (i1.toUInt32 >>> ((2 : Int32) &&& 31).toUInt32).toInt32 = i4 at e4 ⊢
            have n4 : (m1 + (-2 : Int32)).toInt = 13 := by rw [own_negk m1 (-2 : Int32) 2 rfl (by decide) (by omega)]; omega
            generalize m1 + (-2 : Int32) = m4 at n4 ⊢
            refine ow_iloadN X 74 d3_73 rfl rfl ?_
            refine ow_iloadN X 75 d3_74 rfl rfl ?_
            refine ow_iconst X 76 (1 : Int32) d3_75 rfl rfl ?_
            refine ow_iushr X 77 d3_76 rfl ?_
            refine ow_isub X 78 d3_77 rfl ?_
            refine ow_retI X rfl d3_78 (by decide) (by decide) ?_
            have e9 := own_ushr i4 (1 : Int32) 1 (by decide) (by decide) (by omega)
            rw [show ((2 ^ 1 : Nat) : Int) = 2 from by decide] at e9
            refine ⟨_, rfl, rfl, ?_⟩
            have e10 := own_sub m4 ((i4.toUInt32 >>> ((1 : Int32) &&& 31).toUInt32).toInt32) (by omega) (by omega)
            generalize m4 - ((i4.toUInt32 >>> ((1 : Int32) &&& 31).toUInt32).toInt32) = z at e10 ⊢
            refine ⟨by omega, by omega, ?_⟩
            have hz : z.toInt = 13 ∨ z.toInt = 12 := by omega
            rcases hz with hz | hz
            · rw [hz]; show i0.toInt < 524288; omega
            · rw [hz]; show i0.toInt < 1048576; omega
        · refine ow_iinc X 57 (L' := #[.val (.int i1), .val (.int (m1 + (-4 : Int32)))]) (-4 : Int32) d3_54 rfl rfl rfl rfl ?_
          refine ow_iloadN X 58 d3_57 rfl rfl ?_
          refine ow_iconst X 59 (4 : Int32) d3_58 rfl rfl ?_
          refine ow_iushr X 60 d3_59 rfl ?_
          refine ow_istoreN X 61 (L' := #[.val (.int ((i1.toUInt32 >>> ((4 : Int32) &&& 31).toUInt32).toInt32)), .val (.int (m1 + (-4 : Int32)))]) d3_60 rfl rfl ?_
          have e3 := own_ushr i1 (4 : Int32) 4 (by decide) (by decide) (by omega)
          rw [show ((2 ^ 4 : Nat) : Int) = 16 from by decide] at e3
          generalize (i1.toUInt32 >>> ((4 : Int32) &&& 31).toUInt32).toInt32 = i3 at e3 ⊢
          have n3 : (m1 + (-4 : Int32)).toInt = 11 := by rw [own_negk m1 (-4 : Int32) 4 rfl (by decide) (by omega)]; omega
          generalize m1 + (-4 : Int32) = m3 at n3 ⊢
          refine ow_iloadN X 62 d3_61 rfl rfl ?_
          refine ow_iconst X 63 (4 : Int32) d3_62 rfl rfl ?_
          refine ow_icmp_lt X 66 73 d3_63 rfl rfl (fun (c63 : i3.toInt < 4) => ?_) (fun (c63 : 4 ≤ i3.toInt) => ?_)
          · refine ow_iloadN X 74 d3_73 rfl rfl ?_
            refine ow_iloadN X 75 d3_74 rfl rfl ?_
            refine ow_iconst X 76 (1 : Int32) d3_75 rfl rfl ?_
            refine ow_iushr X 77 d3_76 rfl ?_
            refine ow_isub X 78 d3_77 rfl ?_
            refine ow_retI X rfl d3_78 (by decide) (by decide) ?_
            have e9 := own_ushr i3 (1 : Int32) 1 (by decide) (by decide) (by omega)
            rw [show ((2 ^ 1 : Nat) : Int) = 2 from by decide] at e9
            refine ⟨_, rfl, rfl, ?_⟩
            have e10 := own_sub m3 ((i3.toUInt32 >>> ((1 : Int32) &&& 31).toUInt32).toInt32) (by omega) (by omega)
            generalize m3 - ((i3.toUInt32 >>> ((1 : Int32) &&& 31).toUInt32).toInt32) = z at e10 ⊢
            refine ⟨by omega, by omega, ?_⟩
            have hz : z.toInt = 11 ∨ z.toInt = 10 := by omega
            rcases hz with hz | hz
            · rw [hz]; show i0.toInt < 2097152; omega
            · rw [hz]; show i0.toInt < 4194304; omega
          · refine ow_iinc X 69 (L' := #[.val (.int i3), .val (.int (m3 + (-2 : Int32)))]) (-2 : Int32) d3_66 rfl rfl rfl rfl ?_
            refine ow_iloadN X 70 d3_69 rfl rfl ?_
            refine ow_iconst X 71 (2 : Int32) d3_70 rfl rfl ?_
            refine ow_iushr X 72 d3_71 rfl ?_
            refine ow_istoreN X 73 (L' := #[.val (.int ((i3.toUInt32 >>> ((2 : Int32) &&& 31).toUInt32).toInt32)), .val (.int (m3 + (-2 : Int32)))]) d3_72 rfl rfl ?_
            have e4 := own_ushr i3 (2 : Int32) 2 (by decide) (by decide) (by omega)
            rw [show ((2 ^ 2 : Nat) : Int) = 4 from by decide] at e4
            generalize (i3.toUInt32 >>> ((2 : Int32) &&& 31).toUInt32).toInt32 = i4 at e4 ⊢
            have n4 : (m3 + (-2 : Int32)).toInt = 9 := by rw [own_negk m3 (-2 : Int32) 2 rfl (by decide) (by omega)]; omega
            generalize m3 + (-2 : Int32) = m4 at n4 ⊢
            refine ow_iloadN X 74 d3_73 rfl rfl ?_
            refine ow_iloadN X 75 d3_74 rfl rfl ?_
            refine ow_iconst X 76 (1 : Int32) d3_75 rfl rfl ?_
            refine ow_iushr X 77 d3_76 rfl ?_
            refine ow_isub X 78 d3_77 rfl ?_
            refine ow_retI X rfl d3_78 (by decide) (by decide) ?_
            have e9 := own_ushr i4 (1 : Int32) 1 (by decide) (by decide) (by omega)
            rw [show ((2 ^ 1 : Nat) : Int) = 2 from by decide] at e9
            refine ⟨_, rfl, rfl, ?_⟩
            have e10 := own_sub m4 ((i4.toUInt32 >>> ((1 : Int32) &&& 31).toUInt32).toInt32) (by omega) (by omega)
            generalize m4 - ((i4.toUInt32 >>> ((1 : Int32) &&& 31).toUInt32).toInt32) = z at e10 ⊢
            refine ⟨by omega, by omega, ?_⟩
            have hz : z.toInt = 9 ∨ z.toInt = 8 := by omega
            rcases hz with hz | hz
            · rw [hz]; show i0.toInt < 8388608; omega
            · rw [hz]; show i0.toInt < 16777216; omega
      · refine ow_iinc X 43 (L' := #[.val (.int i1), .val (.int (m1 + (-8 : Int32)))]) (-8 : Int32) d3_40 rfl rfl rfl rfl ?_
        refine ow_iloadN X 44 d3_43 rfl rfl ?_
        refine ow_bipush X 46 (8 : Int32) d3_44 rfl rfl ?_
        refine ow_iushr X 47 d3_46 rfl ?_
        refine ow_istoreN X 48 (L' := #[.val (.int ((i1.toUInt32 >>> ((8 : Int32) &&& 31).toUInt32).toInt32)), .val (.int (m1 + (-8 : Int32)))]) d3_47 rfl rfl ?_
        have e2 := own_ushr i1 (8 : Int32) 8 (by decide) (by decide) (by omega)
        rw [show ((2 ^ 8 : Nat) : Int) = 256 from by decide] at e2
        generalize (i1.toUInt32 >>> ((8 : Int32) &&& 31).toUInt32).toInt32 = i2 at e2 ⊢
        have n2 : (m1 + (-8 : Int32)).toInt = 7 := by rw [own_negk m1 (-8 : Int32) 8 rfl (by decide) (by omega)]; omega
        generalize m1 + (-8 : Int32) = m2 at n2 ⊢
        refine ow_iloadN X 49 d3_48 rfl rfl ?_
        refine ow_bipush X 51 (16 : Int32) d3_49 rfl rfl ?_
        refine ow_icmp_lt X 54 61 d3_51 rfl rfl (fun (c51 : i2.toInt < 16) => ?_) (fun (c51 : 16 ≤ i2.toInt) => ?_)
        · refine ow_iloadN X 62 d3_61 rfl rfl ?_
          refine ow_iconst X 63 (4 : Int32) d3_62 rfl rfl ?_
          refine ow_icmp_lt X 66 73 d3_63 rfl rfl (fun (c63 : i2.toInt < 4) => ?_) (fun (c63 : 4 ≤ i2.toInt) => ?_)
          · refine ow_iloadN X 74 d3_73 rfl rfl ?_
            refine ow_iloadN X 75 d3_74 rfl rfl ?_
            refine ow_iconst X 76 (1 : Int32) d3_75 rfl rfl ?_
            refine ow_iushr X 77 d3_76 rfl ?_
            refine ow_isub X 78 d3_77 rfl ?_
            refine ow_retI X rfl d3_78 (by decide) (by decide) ?_
            have e9 := own_ushr i2 (1 : Int32) 1 (by decide) (by decide) (by omega)
            rw [show ((2 ^ 1 : Nat) : Int) = 2 from by decide] at e9
            refine ⟨_, rfl, rfl, ?_⟩
            have e10 := own_sub m2 ((i2.toUInt32 >>> ((1 : Int32) &&& 31).toUInt32).toInt32) (by omega) (by omega)
            generalize m2 - ((i2.toUInt32 >>> ((1 : Int32) &&& 31).toUInt32).toInt32) = z at e10 ⊢
            refine ⟨by omega, by omega, ?_⟩
            have hz : z.toInt = 7 ∨ z.toInt = 6 := by omega
            rcases hz with hz | hz
            · rw [hz]; show i0.toInt < 33554432; omega
            · rw [hz]; show i0.toInt < 67108864; omega
          · refine ow_iinc X 69 (L' := #[.val (.int i2), .val (.int (m2 + (-2 : Int32)))]) (-2 : Int32) d3_66 rfl rfl rfl rfl ?_
            refine ow_iloadN X 70 d3_69 rfl rfl ?_
            refine ow_iconst X 71 (2 : Int32) d3_70 rfl rfl ?_
            refine ow_iushr X 72 d3_71 rfl ?_
            refine ow_istoreN X 73 (L' := #[.val (.int ((i2.toUInt32 >>> ((2 : Int32) &&& 31).toUInt32).toInt32)), .val (.int (m2 + (-2 : Int32)))]) d3_72 rfl rfl ?_
            have e4 := own_ushr i2 (2 : Int32) 2 (by decide) (by decide) (by omega)
            rw [show ((2 ^ 2 : Nat) : Int) = 4 from by decide] at e4
            generalize (i2.toUInt32 >>> ((2 : Int32) &&& 31).toUInt32).toInt32 = i4 at e4 ⊢
            have n4 : (m2 + (-2 : Int32)).toInt = 5 := by rw [own_negk m2 (-2 : Int32) 2 rfl (by decide) (by omega)]; omega
            generalize m2 + (-2 : Int32) = m4 at n4 ⊢
            refine ow_iloadN X 74 d3_73 rfl rfl ?_
            refine ow_iloadN X 75 d3_74 rfl rfl ?_
            refine ow_iconst X 76 (1 : Int32) d3_75 rfl rfl ?_
            refine ow_iushr X 77 d3_76 rfl ?_
            refine ow_isub X 78 d3_77 rfl ?_
            refine ow_retI X rfl d3_78 (by decide) (by decide) ?_
            have e9 := own_ushr i4 (1 : Int32) 1 (by decide) (by decide) (by omega)
            rw [show ((2 ^ 1 : Nat) : Int) = 2 from by decide] at e9
            refine ⟨_, rfl, rfl, ?_⟩
            have e10 := own_sub m4 ((i4.toUInt32 >>> ((1 : Int32) &&& 31).toUInt32).toInt32) (by omega) (by omega)
            generalize m4 - ((i4.toUInt32 >>> ((1 : Int32) &&& 31).toUInt32).toInt32) = z at e10 ⊢
            refine ⟨by omega, by omega, ?_⟩
            have hz : z.toInt = 5 ∨ z.toInt = 4 := by omega
            rcases hz with hz | hz
            · rw [hz]; show i0.toInt < 134217728; omega
            · rw [hz]; show i0.toInt < 268435456; omega
        · refine ow_iinc X 57 (L' := #[.val (.int i2), .val (.int (m2 + (-4 : Int32)))]) (-4 : Int32) d3_54 rfl rfl rfl rfl ?_
          refine ow_iloadN X 58 d3_57 rfl rfl ?_
          refine ow_iconst X 59 (4 : Int32) d3_58 rfl rfl ?_
          refine ow_iushr X 60 d3_59 rfl ?_
          refine ow_istoreN X 61 (L' := #[.val (.int ((i2.toUInt32 >>> ((4 : Int32) &&& 31).toUInt32).toInt32)), .val (.int (m2 + (-4 : Int32)))]) d3_60 rfl rfl ?_
          have e3 := own_ushr i2 (4 : Int32) 4 (by decide) (by decide) (by omega)
          rw [show ((2 ^ 4 : Nat) : Int) = 16 from by decide] at e3
          generalize (i2.toUInt32 >>> ((4 : Int32) &&& 31).toUInt32).toInt32 = i3 at e3 ⊢
          have n3 : (m2 + (-4 : Int32)).toInt = 3 := by rw [own_negk m2 (-4 : Int32) 4 rfl (by decide) (by omega)]; omega
          generalize m2 + (-4 : Int32) = m3 at n3 ⊢
          refine ow_iloadN X 62 d3_61 rfl rfl ?_
          refine ow_iconst X 63 (4 : Int32) d3_62 rfl rfl ?_
          refine ow_icmp_lt X 66 73 d3_63 rfl rfl (fun (c63 : i3.toInt < 4) => ?_) (fun (c63 : 4 ≤ i3.toInt) => ?_)
          · refine ow_iloadN X 74 d3_73 rfl rfl ?_
            refine ow_iloadN X 75 d3_74 rfl rfl ?_
            refine ow_iconst X 76 (1 : Int32) d3_75 rfl rfl ?_
            refine ow_iushr X 77 d3_76 rfl ?_
            refine ow_isub X 78 d3_77 rfl ?_
            refine ow_retI X rfl d3_78 (by decide) (by decide) ?_
            have e9 := own_ushr i3 (1 : Int32) 1 (by decide) (by decide) (by omega)
            rw [show ((2 ^ 1 : Nat) : Int) = 2 from by decide] at e9
            refine ⟨_, rfl, rfl, ?_⟩
            have e10 := own_sub m3 ((i3.toUInt32 >>> ((1 : Int32) &&& 31).toUInt32).toInt32) (by omega) (by omega)
            generalize m3 - ((i3.toUInt32 >>> ((1 : Int32) &&& 31).toUInt32).toInt32) = z at e10 ⊢
            refine ⟨by omega, by omega, ?_⟩
            have hz : z.toInt = 3 ∨ z.toInt = 2 := by omega
            rcases hz with hz | hz
            · rw [hz]; show i0.toInt < 536870912; omega
            · rw [hz]; show i0.toInt < 1073741824; omega
          · refine ow_iinc X 69 (L' := #[.val (.int i3), .val (.int (m3 + (-2 : Int32)))]) (-2 : Int32) d3_66 rfl rfl rfl rfl ?_
            refine ow_iloadN X 70 d3_69 rfl rfl ?_
            refine ow_iconst X 71 (2 : Int32) d3_70 rfl rfl ?_
            refine ow_iushr X 72 d3_71 rfl ?_
            refine ow_istoreN X 73 (L' := #[.val (.int ((i3.toUInt32 >>> ((2 : Int32) &&& 31).toUInt32).toInt32)), .val (.int (m3 + (-2 : Int32)))]) d3_72 rfl rfl ?_
            have e4 := own_ushr i3 (2 : Int32) 2 (by decide) (by decide) (by omega)
            rw [show ((2 ^ 2 : Nat) : Int) = 4 from by decide] at e4
            generalize (i3.toUInt32 >>> ((2 : Int32) &&& 31).toUInt32).toInt32 = i4 at e4 ⊢
            have n4 : (m3 + (-2 : Int32)).toInt = 1 := by rw [own_negk m3 (-2 : Int32) 2 rfl (by decide) (by omega)]; omega
            generalize m3 + (-2 : Int32) = m4 at n4 ⊢
            refine ow_iloadN X 74 d3_73 rfl rfl ?_
            refine ow_iloadN X 75 d3_74 rfl rfl ?_
            refine ow_iconst X 76 (1 : Int32) d3_75 rfl rfl ?_
            refine ow_iushr X 77 d3_76 rfl ?_
            refine ow_isub X 78 d3_77 rfl ?_
            refine ow_retI X rfl d3_78 (by decide) (by decide) ?_
            have e9 := own_ushr i4 (1 : Int32) 1 (by decide) (by decide) (by omega)
            rw [show ((2 ^ 1 : Nat) : Int) = 2 from by decide] at e9
            refine ⟨_, rfl, rfl, ?_⟩
            have e10 := own_sub m4 ((i4.toUInt32 >>> ((1 : Int32) &&& 31).toUInt32).toInt32) (by omega) (by omega)
            generalize m4 - ((i4.toUInt32 >>> ((1 : Int32) &&& 31).toUInt32).toInt32) = z at e10 ⊢
            refine ⟨by omega, by omega, ?_⟩
            have hz : z.toInt = 1 ∨ z.toInt = 0 := by omega
            rcases hz with hz | hz
            · rw [hz]; show i0.toInt < 2147483648; omega
            · rw [hz]; show i0.toInt < 4294967296; omega
  · refine ow_iloadN X 5 d3_4 rfl rfl ?_
    refine ow_if_ne X 8 13 d3_5 rfl rfl (fun (c5 : i0.toInt ≠ 0) => by exfalso; omega) (fun (c5 : i0.toInt = 0) => ?_)
    refine ow_bipush X 10 (32 : Int32) d3_8 rfl rfl ?_
    refine ow_goto X 14 d3_10 rfl ?_
    refine ow_retI X rfl d3_14 (by decide) (by decide) ?_
    exact ⟨_, rfl, rfl, by decide, by decide, by show i0.toInt < 1; omega⟩
theorem d4_0 : decode jdk_29_method_65_code 0 = .ok (.iload_n 0, 1) := by decide +kernel
theorem d4_1 : decode jdk_29_method_65_code 1 = .ok (.iload_n 1, 1) := by decide +kernel
theorem d4_2 : decode jdk_29_method_65_code 2 = .ok (.if_icmp .lt 7, 3) := by decide +kernel
theorem d4_5 : decode jdk_29_method_65_code 5 = .ok (.iload_n 0, 1) := by decide +kernel
theorem d4_6 : decode jdk_29_method_65_code 6 = .ok (.goto 4, 3) := by decide +kernel
theorem d4_9 : decode jdk_29_method_65_code 9 = .ok (.iload_n 1, 1) := by decide +kernel
theorem d4_10 : decode jdk_29_method_65_code 10 = .ok (.ireturn, 1) := by decide +kernel
def k4 : OM := (jdk_29_method_65_code, 2, "java/lang/Math", "max", (some .int), { frames := 0, cells := 0, slots := 0, locals := 0 })
theorem pn4 : plainFor (⟨"java/lang/Math", "max", "(II)I"⟩ : MethodName) = true := by decide +kernel
theorem pd4 : parseMethodDescriptor "(II)I" = some ⟨[.int, .int], (some .int)⟩ := by decide +kernel
set_option maxRecDepth 65536 in
set_option maxHeartbeats 4000000 in
theorem C_max {Z : State} {ω : OW} {h : Heap} (hw_ : ∀ d ∈ tables_1, d.before ω.2.2 Z = true) (hn_ : ω.2.1 ≤ h.size) (x y : Int32) :
    oC Z ω (⟨"java/lang/Math", "max", "(II)I"⟩ : MethodName) k4 [] #[.int x, .int y] h (fun v h' => ∃ z : Int32, v = some (.int z) ∧ h = h' ∧ ((z = x ∧ y.toInt ≤ x.toInt) ∨ (z = y ∧ x.toInt < y.toInt))) := by
  refine oC_of hw_ hn_ pn4 rfl rfl (L := #[.val (.int x), .val (.int y)]) (fun m => by first | (simp [entryFrame, mkF, argsToLocals, Value.category, k4]; done) | rfl) ?_
  intro γ T X
  refine ow_iloadN X 1 d4_0 rfl rfl ?_
  refine ow_iloadN X 2 d4_1 rfl rfl ?_
  refine ow_icmp_lt X 5 9 d4_2 rfl rfl (fun (c2 : x.toInt < y.toInt) => ?_) (fun (c2 : y.toInt ≤ x.toInt) => ?_)
  · refine ow_iloadN X 10 d4_9 rfl rfl ?_
    refine ow_retI X rfl d4_10 (by decide) (by decide) ?_
    exact ⟨_, rfl, rfl, Or.inr ⟨rfl, by omega⟩⟩
  · refine ow_iloadN X 6 d4_5 rfl rfl ?_
    refine ow_goto X 10 d4_6 rfl ?_
    refine ow_retI X rfl d4_10 (by decide) (by decide) ?_
    exact ⟨_, rfl, rfl, Or.inl ⟨rfl, by omega⟩⟩
theorem d1_0 : decode prog_43_method_1_code 0 = .ok (.aload_n 0, 1) := by decide +kernel
theorem d1_1 : decode prog_43_method_1_code 1 = .ok (.invokespecial 1, 3) := by decide +kernel
theorem d1_4 : decode prog_43_method_1_code 4 = .ok (.aload_n 0, 1) := by decide +kernel
theorem d1_5 : decode prog_43_method_1_code 5 = .ok (.iconst 1, 1) := by decide +kernel
theorem d1_6 : decode prog_43_method_1_code 6 = .ok (.bipush 32, 2) := by decide +kernel
theorem d1_8 : decode prog_43_method_1_code 8 = .ok (.iload_n 2, 1) := by decide +kernel
theorem d1_9 : decode prog_43_method_1_code 9 = .ok (.invokestatic 9, 3) := by decide +kernel
theorem d1_12 : decode prog_43_method_1_code 12 = .ok (.isub, 1) := by decide +kernel
theorem d1_13 : decode prog_43_method_1_code 13 = .ok (.invokestatic 13, 3) := by decide +kernel
theorem d1_16 : decode prog_43_method_1_code 16 = .ok (.putfield 19, 3) := by decide +kernel
theorem d1_19 : decode prog_43_method_1_code 19 = .ok (.aload_n 0, 1) := by decide +kernel
theorem d1_20 : decode prog_43_method_1_code 20 = .ok (.lconst 1, 1) := by decide +kernel
theorem d1_21 : decode prog_43_method_1_code 21 = .ok (.aload_n 0, 1) := by decide +kernel
theorem d1_22 : decode prog_43_method_1_code 22 = .ok (.getfield 19, 3) := by decide +kernel
theorem d1_25 : decode prog_43_method_1_code 25 = .ok (.lshl, 1) := by decide +kernel
theorem d1_26 : decode prog_43_method_1_code 26 = .ok (.lconst 1, 1) := by decide +kernel
theorem d1_27 : decode prog_43_method_1_code 27 = .ok (.lsub, 1) := by decide +kernel
theorem d1_28 : decode prog_43_method_1_code 28 = .ok (.putfield 25, 3) := by decide +kernel
theorem d1_31 : decode prog_43_method_1_code 31 = .ok (.aload_n 0, 1) := by decide +kernel
theorem d1_32 : decode prog_43_method_1_code 32 = .ok (.iload_n 1, 1) := by decide +kernel
theorem d1_33 : decode prog_43_method_1_code 33 = .ok (.i2l, 1) := by decide +kernel
theorem d1_34 : decode prog_43_method_1_code 34 = .ok (.aload_n 0, 1) := by decide +kernel
theorem d1_35 : decode prog_43_method_1_code 35 = .ok (.getfield 19, 3) := by decide +kernel
theorem d1_38 : decode prog_43_method_1_code 38 = .ok (.i2l, 1) := by decide +kernel
theorem d1_39 : decode prog_43_method_1_code 39 = .ok (.lmul, 1) := by decide +kernel
theorem d1_40 : decode prog_43_method_1_code 40 = .ok (.ldc2_w 31, 3) := by decide +kernel
theorem d1_43 : decode prog_43_method_1_code 43 = .ok (.ladd, 1) := by decide +kernel
theorem d1_44 : decode prog_43_method_1_code 44 = .ok (.lconst 1, 1) := by decide +kernel
theorem d1_45 : decode prog_43_method_1_code 45 = .ok (.lsub, 1) := by decide +kernel
theorem d1_46 : decode prog_43_method_1_code 46 = .ok (.ldc2_w 31, 3) := by decide +kernel
theorem d1_49 : decode prog_43_method_1_code 49 = .ok (.ldiv, 1) := by decide +kernel
theorem d1_50 : decode prog_43_method_1_code 50 = .ok (.l2i, 1) := by decide +kernel
theorem d1_51 : decode prog_43_method_1_code 51 = .ok (.iconst 1, 1) := by decide +kernel
theorem d1_52 : decode prog_43_method_1_code 52 = .ok (.iadd, 1) := by decide +kernel
theorem d1_53 : decode prog_43_method_1_code 53 = .ok (.newarray .long, 2) := by decide +kernel
theorem d1_55 : decode prog_43_method_1_code 55 = .ok (.putfield 33, 3) := by decide +kernel
theorem d1_58 : decode prog_43_method_1_code 58 = .ok (.return_, 1) := by decide +kernel
def k1 : OM := (prog_43_method_1_code, 3, "com/example/multibern/multibern/index/PackedInts", "<init>", none, { frames := 1, cells := 1, slots := 130, locals := 16 })
theorem pn1 : plainFor (⟨"com/example/multibern/multibern/index/PackedInts", "<init>", "(II)V"⟩ : MethodName) = true := plainFor_of_name (by first | (simp [plainName, overriddenIn]; done) | decide +kernel)
theorem pd1 : parseMethodDescriptor "(II)V" = some ⟨[.int, .int], none⟩ := by decide +kernel
theorem own_B (lg z B : Int32) (hl : 0 ≤ lg.toInt) (h1 : 1 ≤ z.toInt) (h2 : z.toInt ≤ 32) (h3 : lg.toInt < ((2 ^ (32 - z.toInt).toNat : Nat) : Int)) (hB : (B = (1 : Int32) ∧ ((32 : Int32) - z).toInt ≤ (1 : Int32).toInt) ∨ (B = (32 : Int32) - z ∧ (1 : Int32).toInt < ((32 : Int32) - z).toInt)) : 1 ≤ B.toInt ∧ B.toInt ≤ 31 ∧ lg.toInt < ((2 ^ B.toInt.toNat : Nat) : Int) := by
  have e32 : (32 : Int32).toInt = 32 := rfl
  have e1 : (1 : Int32).toInt = 1 := rfl
  have e := own_sub 32 z (by omega) (by omega)
  rw [e32] at e
  rw [e, e1] at hB
  rcases hB with ⟨rfl, q⟩ | ⟨rfl, q⟩
  · refine ⟨by decide, by decide, ?_⟩
    have : (32 - z.toInt).toNat ≤ 1 := by omega
    have := Nat.pow_le_pow_right (show 0 < 2 by decide) this
    show lg.toInt < 2
    omega
  · rw [e]; exact ⟨by omega, by omega, h3⟩
theorem own_n (size B : Int32) (h0 : 0 ≤ size.toInt) (h1 : size.toInt ≤ 260) (hB0 : 1 ≤ B.toInt) (hB1 : B.toInt ≤ 31) : (((size.toInt64 * B.toInt64 + (64 : Int64) - (1 : Int64)) / (64 : Int64)).toInt32 + (1 : Int32)).toInt = (size.toInt * B.toInt + 63) / 64 + 1 := by
  have e := own_x size B h0 (by omega) hB0 hB1
  have m : 0 ≤ size.toInt * B.toInt := Int.mul_nonneg h0 (by omega)
  have m' : size.toInt * B.toInt ≤ 8060 := by have := Int.mul_le_mul h1 hB1 (by omega) (by decide : (0 : Int) ≤ 260); omega
  have a := c_ladd (size.toInt64 * B.toInt64) 64; have r1 := rng64 (size.toInt64 * B.toInt64 + 64)
  have b := c_lsub (size.toInt64 * B.toInt64 + 64) 1; have r2 := rng64 (size.toInt64 * B.toInt64 + 64 - 1)
  have k1 : (64 : Int64).toInt = 64 := rfl
  have k2 : (1 : Int64).toInt = 1 := rfl
  have d := (c_ldiv (size.toInt64 * B.toInt64 + 64 - 1) 64 64 rfl (by decide)).1 (by omega)
  have f := c_l2i ((size.toInt64 * B.toInt64 + 64 - 1) / 64); have r3 := rng32 ((size.toInt64 * B.toInt64 + 64 - 1) / 64).toInt32
  have g := own_addk ((size.toInt64 * B.toInt64 + 64 - 1) / 64).toInt32 1 1 rfl (by decide) (by omega)
  omega
theorem own_sB (size B : Int32) (h0 : 0 ≤ size.toInt) (h1 : size.toInt ≤ 260) (hB0 : 1 ≤ B.toInt) (hB1 : B.toInt ≤ 31) : 0 ≤ size.toInt * B.toInt ∧ size.toInt * B.toInt ≤ 8060 := by
  constructor
  · exact Int.mul_nonneg h0 (by omega)
  · have := Int.mul_le_mul h1 hB1 (by omega) (by decide : (0 : Int) ≤ 260); omega
set_option maxRecDepth 65536 in
set_option maxHeartbeats 4000000 in
theorem C_init {Z : State} {ω : OW} {h : Heap} (hw_ : ∀ d ∈ tables_1, d.before ω.2.2 Z = true) (hn_ : ω.2.1 ≤ h.size) (a : Addr) (size lg : Int32) (F0 : PI Z h a .null (.int (0 : Int32)) (.long (0 : Int64))) (ga : ω.2.1 ≤ a) (hs0 : 0 ≤ size.toInt) (hs1 : size.toInt ≤ 260) (hl : 0 ≤ lg.toInt) :
    oC Z ω (⟨"com/example/multibern/multibern/index/PackedInts", "<init>", "(II)V"⟩ : MethodName) k1 [] #[.ref a, .int size, .int lg] h (fun v h' => v = none ∧ ∃ (w : Addr) (B : Int32) (n : Nat), Keep h h' [a] ∧ a ≠ w ∧ ω.2.1 ≤ w ∧ PI Z h' a (.ref w) (.int B) (.long (((1 : Int64) <<< (B &&& 0x3f).toInt64) - 1)) ∧ oA Z h' w .long n (fun i => .long (oZJ i)) ∧ 1 ≤ B.toInt ∧ B.toInt ≤ 31 ∧ lg.toInt < ((2 ^ B.toInt.toNat : Nat) : Int) ∧ size.toInt * B.toInt ≤ 64 * ((n : Int) - 1)) := by
  refine oC_of hw_ hn_ pn1 rfl rfl (L := #[.val (.ref a), .val (.int size), .val (.int lg)]) (fun m => by first | (simp [entryFrame, mkF, argsToLocals, Value.category, k1]; done) | rfl) ?_
  intro γ T X
  refine ow_aloadN X 1 d1_0 rfl rfl rfl ?_
  refine ow_initO X 4 8 9 10 rfl rfl rfl rfl d1_1 rfl rfl (by decide) (W := 0) (Nat.le_of_eq rfl) (by decide) ?_
  intro T_1 X_1
  refine ow_aloadN X_1 5 d1_4 rfl rfl rfl ?_
  refine ow_iconst X_1 6 (1 : Int32) d1_5 rfl rfl ?_
  refine ow_bipush X_1 8 (32 : Int32) d1_6 rfl rfl ?_
  refine ow_iloadN X_1 9 d1_8 rfl rfl ?_
  refine ow_callS X_1 12 11 12 13 14 (κ' := k3) (as := [.int lg]) (S := [.int (32 : Int32), .int (1 : Int32), .ref a]) (W := 3) rfl rfl rfl rfl rfl (by decide) (C_nlz (oSt_w X_1) (oSt_n0 X_1) lg hl) (by decide) (by decide) (Nat.le_of_eq rfl) (by decide) (by decide) pd3 rfl rfl rfl d1_9 rfl ?_
  intro v_2 T_2 h_2 X_2 q_2
  obtain ⟨z, rfl, rfl, hz1, hz2, hz3⟩ := q_2
  show oWP ω γ k1 _ T_2 12 #[.val (.ref a), .val (.int size), .val (.int lg)] [.int z, .int (32 : Int32), .int (1 : Int32), .ref a]
  refine ow_isub X_2 13 d1_12 rfl ?_
  refine ow_callS X_2 16 15 16 17 18 (κ' := k4) (as := [.int (1 : Int32), .int ((32 : Int32) - z)]) (S := [.ref a]) (W := 1) rfl rfl rfl rfl rfl (by decide) (C_max (oSt_w X_2) (oSt_n0 X_2) (1 : Int32) ((32 : Int32) - z)) (by decide) (by decide) (Nat.le_of_eq rfl) (by decide) (by decide) pd4 rfl rfl rfl d1_13 rfl ?_
  intro v_3 T_3 h_3 X_3 q_3
  obtain ⟨B, rfl, rfl, hB0⟩ := q_3
  have hB : 1 ≤ B.toInt ∧ B.toInt ≤ 31 ∧ lg.toInt < ((2 ^ B.toInt.toNat : Nat) : Int) := own_B lg z B hl hz1 hz2 hz3 hB0
  show oWP ω γ k1 _ T_3 16 #[.val (.ref a), .val (.int size), .val (.int lg)] [.int B, .ref a]
  refine ow_putF X_3 19 19 3 rfl rfl F0.2.2.1 F0.1 (Or.inr ⟨oSt_at X_3 20 rfl, rfl, rfl⟩) rfl (ty := .int) (by decide) rfl rfl ga d1_16 rfl ?_
  intro T_4 h_4 X_4 W_4
  have f5_0 : PI Z h_4 a .null (.int B) (.long (0 : Int64)) := PI.set_bits (oSt_w X_4) F0 W_4
  have f5_1 : Keep h h_4 [a] := (Keep.refl h [a]).wr W_4 (Or.inl (List.mem_of_getElem? (i := 0) rfl))
  refine ow_aloadN X_4 20 d1_19 rfl rfl rfl ?_
  refine ow_lconst X_4 21 (1 : Int64) d1_20 rfl rfl ?_
  refine ow_aloadN X_4 22 d1_21 rfl rfl rfl ?_
  refine ow_getF X_4 25 19 rfl rfl f5_0.2.2.1 d1_22 rfl ?_
  intro T_6 X_6
  refine ow_lshl X_6 26 d1_25 rfl ?_
  refine ow_lconst X_6 27 (1 : Int64) d1_26 rfl rfl ?_
  refine ow_lsub X_6 28 d1_27 rfl ?_
  refine ow_putF X_6 31 21 3 rfl rfl f5_0.2.2.2 f5_0.1 (Or.inr ⟨oSt_at X_6 22 rfl, rfl, rfl⟩) rfl (ty := .long) (by decide) rfl rfl ga d1_28 rfl ?_
  intro T_7 h_7 X_7 W_7
  have f8_0 : PI Z h_7 a .null (.int B) (.long (((1 : Int64) <<< (B &&& 0x3f).toInt64) - (1 : Int64))) := PI.set_mask (oSt_w X_7) f5_0 W_7
  have f8_1 : Keep h h_7 [a] := f5_1.wr W_7 (Or.inl (List.mem_of_getElem? (i := 0) rfl))
  refine ow_aloadN X_7 32 d1_31 rfl rfl rfl ?_
  refine ow_iloadN X_7 33 d1_32 rfl rfl ?_
  refine ow_i2l X_7 34 d1_33 rfl ?_
  refine ow_aloadN X_7 35 d1_34 rfl rfl rfl ?_
  refine ow_getF X_7 38 19 rfl rfl f8_0.2.2.1 d1_35 rfl ?_
  intro T_9 X_9
  refine ow_i2l X_9 39 d1_38 rfl ?_
  refine ow_lmul X_9 40 d1_39 rfl ?_
  refine ow_ldc2J X_9 43 23 rfl rfl d1_40 rfl ?_
  refine ow_ladd X_9 44 d1_43 rfl ?_
  refine ow_lconst X_9 45 (1 : Int64) d1_44 rfl rfl ?_
  refine ow_lsub X_9 46 d1_45 rfl ?_
  refine ow_ldc2J X_9 49 23 rfl rfl d1_46 rfl ?_
  refine ow_ldiv X_9 50 d1_49 rfl (by decide) ?_
  refine ow_l2i X_9 51 d1_50 rfl ?_
  refine ow_iconst X_9 52 (1 : Int32) d1_51 rfl rfl ?_
  refine ow_iadd X_9 53 d1_52 rfl ?_
  have hn := own_n size B hs0 hs1 hB.1 hB.2.1
  have hm : 0 ≤ size.toInt * B.toInt ∧ size.toInt * B.toInt ≤ 8060 := own_sB size B hs0 hs1 hB.1 hB.2.1
  generalize (((((size.toInt64 * B.toInt64) + (64 : Int64)) - (1 : Int64)) / (64 : Int64)).toInt32) + (1 : Int32) = nn at hn ⊢
  refine ow_newP X_9 55 24 (cap := 130) rfl d1_53 rfl (by omega) (by omega) (by decide) (by decide) (by decide) ?_
  intro T_10 h_10 a_10 q_10 X_10 E_10 A_10 g_10
  have ne_a_a_10 : a ≠ a_10 := by rw [q_10]; exact Nat.ne_of_lt f8_0.lt
  have ge_h_a_10 : h.size ≤ a_10 := by rw [q_10]; exact f8_1.1
  have f11_0 : PI Z h_10 a .null (.int B) (.long (((1 : Int64) <<< (B &&& 0x3f).toInt64) - (1 : Int64))) := f8_0.ext E_10
  have f11_1 : Keep h h_10 [a] := f8_1.ext E_10
  have A_10 : oA Z h_10 a_10 .long nn.toInt.toNat (fun i => .long (oZJ i)) := A_10
  refine ow_putF X_10 58 25 3 rfl rfl f11_0.2.1 f11_0.1 (Or.inr ⟨oSt_at X_10 26 rfl, rfl, rfl⟩) rfl (ty := (.array .long)) (by decide) rfl rfl ga d1_55 rfl ?_
  intro T_12 h_12 X_12 W_12
  have f13_0 : PI Z h_12 a (.ref a_10) (.int B) (.long (((1 : Int64) <<< (B &&& 0x3f).toInt64) - (1 : Int64))) := PI.set_words (oSt_w X_12) f11_0 W_12
  have f13_1 : Keep h h_12 [a] := f11_1.wr W_12 (Or.inl (List.mem_of_getElem? (i := 0) rfl))
  have f13_2 : oA Z h_12 a_10 .long nn.toInt.toNat (fun i => .long (oZJ i)) := A_10.other W_12 (Ne.symm ne_a_a_10)
  refine ow_retV X_12 rfl d1_58 (by decide) (by decide) ?_
  refine ⟨rfl, a_10, B, _, f13_1, ne_a_a_10, g_10, f13_0, f13_2, hB.1, hB.2.1, hB.2.2, ?_⟩
  omega
theorem d6_0 : decode prog_43_method_2_code 0 = .ok (.iload_n 1, 1) := by decide +kernel
theorem d6_1 : decode prog_43_method_2_code 1 = .ok (.i2l, 1) := by decide +kernel
theorem d6_2 : decode prog_43_method_2_code 2 = .ok (.aload_n 0, 1) := by decide +kernel
theorem d6_3 : decode prog_43_method_2_code 3 = .ok (.getfield 19, 3) := by decide +kernel
theorem d6_6 : decode prog_43_method_2_code 6 = .ok (.i2l, 1) := by decide +kernel
theorem d6_7 : decode prog_43_method_2_code 7 = .ok (.lmul, 1) := by decide +kernel
theorem d6_8 : decode prog_43_method_2_code 8 = .ok (.lstore_n 2, 1) := by decide +kernel
theorem d6_9 : decode prog_43_method_2_code 9 = .ok (.lload_n 2, 1) := by decide +kernel
theorem d6_10 : decode prog_43_method_2_code 10 = .ok (.bipush 6, 2) := by decide +kernel
theorem d6_12 : decode prog_43_method_2_code 12 = .ok (.lushr, 1) := by decide +kernel
theorem d6_13 : decode prog_43_method_2_code 13 = .ok (.l2i, 1) := by decide +kernel
theorem d6_14 : decode prog_43_method_2_code 14 = .ok (.istore 4, 2) := by decide +kernel
theorem d6_16 : decode prog_43_method_2_code 16 = .ok (.lload_n 2, 1) := by decide +kernel
theorem d6_17 : decode prog_43_method_2_code 17 = .ok (.ldc2_w 37, 3) := by decide +kernel
theorem d6_20 : decode prog_43_method_2_code 20 = .ok (.land, 1) := by decide +kernel
theorem d6_21 : decode prog_43_method_2_code 21 = .ok (.l2i, 1) := by decide +kernel
theorem d6_22 : decode prog_43_method_2_code 22 = .ok (.istore 5, 2) := by decide +kernel
theorem d6_24 : decode prog_43_method_2_code 24 = .ok (.aload_n 0, 1) := by decide +kernel
theorem d6_25 : decode prog_43_method_2_code 25 = .ok (.getfield 33, 3) := by decide +kernel
theorem d6_28 : decode prog_43_method_2_code 28 = .ok (.iload 4, 2) := by decide +kernel
theorem d6_30 : decode prog_43_method_2_code 30 = .ok (.laload, 1) := by decide +kernel
theorem d6_31 : decode prog_43_method_2_code 31 = .ok (.iload 5, 2) := by decide +kernel
theorem d6_33 : decode prog_43_method_2_code 33 = .ok (.lushr, 1) := by decide +kernel
theorem d6_34 : decode prog_43_method_2_code 34 = .ok (.aload_n 0, 1) := by decide +kernel
theorem d6_35 : decode prog_43_method_2_code 35 = .ok (.getfield 33, 3) := by decide +kernel
theorem d6_38 : decode prog_43_method_2_code 38 = .ok (.iload 4, 2) := by decide +kernel
theorem d6_40 : decode prog_43_method_2_code 40 = .ok (.iconst 1, 1) := by decide +kernel
theorem d6_41 : decode prog_43_method_2_code 41 = .ok (.iadd, 1) := by decide +kernel
theorem d6_42 : decode prog_43_method_2_code 42 = .ok (.laload, 1) := by decide +kernel
theorem d6_43 : decode prog_43_method_2_code 43 = .ok (.iconst 1, 1) := by decide +kernel
theorem d6_44 : decode prog_43_method_2_code 44 = .ok (.lshl, 1) := by decide +kernel
theorem d6_45 : decode prog_43_method_2_code 45 = .ok (.bipush 63, 2) := by decide +kernel
theorem d6_47 : decode prog_43_method_2_code 47 = .ok (.iload 5, 2) := by decide +kernel
theorem d6_49 : decode prog_43_method_2_code 49 = .ok (.isub, 1) := by decide +kernel
theorem d6_50 : decode prog_43_method_2_code 50 = .ok (.lshl, 1) := by decide +kernel
theorem d6_51 : decode prog_43_method_2_code 51 = .ok (.lor, 1) := by decide +kernel
theorem d6_52 : decode prog_43_method_2_code 52 = .ok (.aload_n 0, 1) := by decide +kernel
theorem d6_53 : decode prog_43_method_2_code 53 = .ok (.getfield 25, 3) := by decide +kernel
theorem d6_56 : decode prog_43_method_2_code 56 = .ok (.land, 1) := by decide +kernel
theorem d6_57 : decode prog_43_method_2_code 57 = .ok (.l2i, 1) := by decide +kernel
theorem d6_58 : decode prog_43_method_2_code 58 = .ok (.ireturn, 1) := by decide +kernel
def k6 : OM := (prog_43_method_2_code, 6, "com/example/multibern/multibern/index/PackedInts", "get", (some .int), { frames := 0, cells := 0, slots := 0, locals := 0 })
theorem pn6 : plainFor (⟨"com/example/multibern/multibern/index/PackedInts", "get", "(I)I"⟩ : MethodName) = true := plainFor_of_name (by first | (simp [plainName, overriddenIn]; done) | decide +kernel)
theorem pd6 : parseMethodDescriptor "(I)I" = some ⟨[.int], (some .int)⟩ := by decide +kernel
set_option maxRecDepth 65536 in
set_option maxHeartbeats 4000000 in
theorem C_get {Z : State} {ω : OW} {h : Heap} (hw_ : ∀ d ∈ tables_1, d.before ω.2.2 Z = true) (hn_ : ω.2.1 ≤ h.size) (a w : Addr) (i B : Int32) (mk : Int64) (n : Nat) (W : Nat → Int64) (F0 : PI Z h a (.ref w) (.int B) (.long mk)) (A0 : oA Z h w .long n (fun i => .long (W i))) (hi0 : 0 ≤ i.toInt) (hi1 : i.toInt ≤ 1000) (hB0 : 1 ≤ B.toInt) (hB1 : B.toInt ≤ 31) (hn : i.toInt * B.toInt + B.toInt ≤ 64 * ((n : Int) - 1)) (hmk : mk = ((1 : Int64) <<< (B &&& 0x3f).toInt64) - 1) :
    oC Z ω (⟨"com/example/multibern/multibern/index/PackedInts", "get", "(I)I"⟩ : MethodName) k6 [] #[.ref a, .int i] h (fun v h' => ∃ z : Int32, v = some (.int z) ∧ h = h' ∧ ∀ j, j < 32 → z.toBitVec.getLsbD j = (decide ((j : Int) < B.toInt) && own_bit W ((i.toInt * B.toInt).toNat + j))) := by
  refine oC_of hw_ hn_ pn6 rfl rfl (L := #[.val (.ref a), .val (.int i), .unset, .unset, .unset, .unset]) (fun m => by first | (simp [entryFrame, mkF, argsToLocals, Value.category, k6]; done) | rfl) ?_
  intro γ T X
  refine ow_iloadN X 1 d6_0 rfl rfl ?_
  refine ow_i2l X 2 d6_1 rfl ?_
  refine ow_aloadN X 3 d6_2 rfl rfl rfl ?_
  refine ow_getF X 6 19 rfl rfl F0.2.2.1 d6_3 rfl ?_
  intro T_14 X_14
  refine ow_i2l X_14 7 d6_6 rfl ?_
  refine ow_lmul X_14 8 d6_7 rfl ?_
  refine ow_lstoreN X_14 9 (L' := #[.val (.ref a), .val (.int i), .val (.long (i.toInt64 * B.toInt64)), .second, .unset, .unset]) d6_8 rfl rfl ?_
  refine ow_lloadN X_14 10 d6_9 rfl rfl ?_
  refine ow_bipush X_14 12 (6 : Int32) d6_10 rfl rfl ?_
  refine ow_lushr X_14 13 d6_12 rfl ?_
  refine ow_l2i X_14 14 d6_13 rfl ?_
  refine ow_istore X_14 16 (L' := #[.val (.ref a), .val (.int i), .val (.long (i.toInt64 * B.toInt64)), .second, .val (.int ((((i.toInt64 * B.toInt64).toUInt64 >>> ((6 : Int32) &&& 0x3f).toInt64.toUInt64).toInt64).toInt32)), .unset]) d6_14 rfl rfl ?_
  have hx := own_x i B hi0 hi1 hB0 hB1; have hm := own_mulB i B hi0 hi1 hB0 hB1
  have hwd := own_wd (i.toInt64 * B.toInt64) (by omega) (by omega)
  rw [hx] at hwd
  generalize (((i.toInt64 * B.toInt64).toUInt64 >>> ((6 : Int32) &&& 0x3f).toInt64.toUInt64).toInt64).toInt32 = wd at hwd ⊢
  refine ow_lloadN X_14 17 d6_16 rfl rfl ?_
  refine ow_ldc2J X_14 20 32 rfl rfl d6_17 rfl ?_
  refine ow_land X_14 21 d6_20 rfl ?_
  refine ow_l2i X_14 22 d6_21 rfl ?_
  refine ow_istore X_14 24 (L' := #[.val (.ref a), .val (.int i), .val (.long (i.toInt64 * B.toInt64)), .second, .val (.int wd), .val (.int (((i.toInt64 * B.toInt64) &&& (63 : Int64)).toInt32))]) d6_22 rfl rfl ?_
  have hsh := own_sh (i.toInt64 * B.toInt64) (by omega) (by omega)
  rw [hx] at hsh
  generalize ((i.toInt64 * B.toInt64) &&& (63 : Int64)).toInt32 = sh at hsh ⊢
  have hw1 := own_addk wd 1 1 rfl (by decide) (by omega)
  have hsb := own_sub 63 sh (by have e : (63 : Int32).toInt = 63 := rfl; omega) (by have e : (63 : Int32).toInt = 63 := rfl; omega)
  rw [show (63 : Int32).toInt = 63 from rfl] at hsb
  have hP : (((i.toInt * B.toInt).toNat : Nat) : Int) = i.toInt * B.toInt := Int.toNat_of_nonneg hm.1
  refine ow_aloadN X_14 25 d6_24 rfl rfl rfl ?_
  refine ow_getF X_14 28 25 rfl rfl F0.2.1 d6_25 rfl ?_
  intro T_15 X_15
  refine ow_iload X_15 30 d6_28 rfl rfl ?_
  refine ow_laload X_15 31 A0 d6_30 rfl (by omega) (by omega) rfl ?_
  refine ow_iload X_15 33 d6_31 rfl rfl ?_
  refine ow_lushr X_15 34 d6_33 rfl ?_
  refine ow_aloadN X_15 35 d6_34 rfl rfl rfl ?_
  refine ow_getF X_15 38 25 rfl rfl F0.2.1 d6_35 rfl ?_
  intro T_16 X_16
  refine ow_iload X_16 40 d6_38 rfl rfl ?_
  refine ow_iconst X_16 41 (1 : Int32) d6_40 rfl rfl ?_
  refine ow_iadd X_16 42 d6_41 rfl ?_
  refine ow_laload X_16 43 A0 d6_42 rfl (by omega) (by omega) rfl ?_
  refine ow_iconst X_16 44 (1 : Int32) d6_43 rfl rfl ?_
  refine ow_lshl X_16 45 d6_44 rfl ?_
  refine ow_bipush X_16 47 (63 : Int32) d6_45 rfl rfl ?_
  refine ow_iload X_16 49 d6_47 rfl rfl ?_
  refine ow_isub X_16 50 d6_49 rfl ?_
  refine ow_lshl X_16 51 d6_50 rfl ?_
  refine ow_lor X_16 52 d6_51 rfl ?_
  refine ow_aloadN X_16 53 d6_52 rfl rfl rfl ?_
  refine ow_getF X_16 56 21 rfl rfl F0.2.2.2 d6_53 rfl ?_
  intro T_17 X_17
  refine ow_land X_17 57 d6_56 rfl ?_
  refine ow_l2i X_17 58 d6_57 rfl ?_
  refine ow_retI X_17 rfl d6_58 (by decide) (by decide) ?_
  exact ⟨_, rfl, rfl, own_get W wd sh B mk (i.toInt * B.toInt).toNat (by omega) (by omega) (by omega) (by omega) (by omega) hB1 hmk⟩
theorem d5_0 : decode prog_43_method_3_code 0 = .ok (.iload_n 1, 1) := by decide +kernel
theorem d5_1 : decode prog_43_method_3_code 1 = .ok (.i2l, 1) := by decide +kernel
theorem d5_2 : decode prog_43_method_3_code 2 = .ok (.aload_n 0, 1) := by decide +kernel
theorem d5_3 : decode prog_43_method_3_code 3 = .ok (.getfield 19, 3) := by decide +kernel
theorem d5_6 : decode prog_43_method_3_code 6 = .ok (.i2l, 1) := by decide +kernel
theorem d5_7 : decode prog_43_method_3_code 7 = .ok (.lmul, 1) := by decide +kernel
theorem d5_8 : decode prog_43_method_3_code 8 = .ok (.lstore_n 3, 1) := by decide +kernel
theorem d5_9 : decode prog_43_method_3_code 9 = .ok (.lload_n 3, 1) := by decide +kernel
theorem d5_10 : decode prog_43_method_3_code 10 = .ok (.bipush 6, 2) := by decide +kernel
theorem d5_12 : decode prog_43_method_3_code 12 = .ok (.lushr, 1) := by decide +kernel
theorem d5_13 : decode prog_43_method_3_code 13 = .ok (.l2i, 1) := by decide +kernel
theorem d5_14 : decode prog_43_method_3_code 14 = .ok (.istore 5, 2) := by decide +kernel
theorem d5_16 : decode prog_43_method_3_code 16 = .ok (.lload_n 3, 1) := by decide +kernel
theorem d5_17 : decode prog_43_method_3_code 17 = .ok (.ldc2_w 37, 3) := by decide +kernel
theorem d5_20 : decode prog_43_method_3_code 20 = .ok (.land, 1) := by decide +kernel
theorem d5_21 : decode prog_43_method_3_code 21 = .ok (.l2i, 1) := by decide +kernel
theorem d5_22 : decode prog_43_method_3_code 22 = .ok (.istore 6, 2) := by decide +kernel
theorem d5_24 : decode prog_43_method_3_code 24 = .ok (.aload_n 0, 1) := by decide +kernel
theorem d5_25 : decode prog_43_method_3_code 25 = .ok (.getfield 33, 3) := by decide +kernel
theorem d5_28 : decode prog_43_method_3_code 28 = .ok (.iload 5, 2) := by decide +kernel
theorem d5_30 : decode prog_43_method_3_code 30 = .ok (.dup2, 1) := by decide +kernel
theorem d5_31 : decode prog_43_method_3_code 31 = .ok (.laload, 1) := by decide +kernel
theorem d5_32 : decode prog_43_method_3_code 32 = .ok (.iload_n 2, 1) := by decide +kernel
theorem d5_33 : decode prog_43_method_3_code 33 = .ok (.i2l, 1) := by decide +kernel
theorem d5_34 : decode prog_43_method_3_code 34 = .ok (.iload 6, 2) := by decide +kernel
theorem d5_36 : decode prog_43_method_3_code 36 = .ok (.lshl, 1) := by decide +kernel
theorem d5_37 : decode prog_43_method_3_code 37 = .ok (.lor, 1) := by decide +kernel
theorem d5_38 : decode prog_43_method_3_code 38 = .ok (.lastore, 1) := by decide +kernel
theorem d5_39 : decode prog_43_method_3_code 39 = .ok (.aload_n 0, 1) := by decide +kernel
theorem d5_40 : decode prog_43_method_3_code 40 = .ok (.getfield 33, 3) := by decide +kernel
theorem d5_43 : decode prog_43_method_3_code 43 = .ok (.iload 5, 2) := by decide +kernel
theorem d5_45 : decode prog_43_method_3_code 45 = .ok (.iconst 1, 1) := by decide +kernel
theorem d5_46 : decode prog_43_method_3_code 46 = .ok (.iadd, 1) := by decide +kernel
theorem d5_47 : decode prog_43_method_3_code 47 = .ok (.dup2, 1) := by decide +kernel
theorem d5_48 : decode prog_43_method_3_code 48 = .ok (.laload, 1) := by decide +kernel
theorem d5_49 : decode prog_43_method_3_code 49 = .ok (.iload_n 2, 1) := by decide +kernel
theorem d5_50 : decode prog_43_method_3_code 50 = .ok (.i2l, 1) := by decide +kernel
theorem d5_51 : decode prog_43_method_3_code 51 = .ok (.iconst 1, 1) := by decide +kernel
theorem d5_52 : decode prog_43_method_3_code 52 = .ok (.lushr, 1) := by decide +kernel
theorem d5_53 : decode prog_43_method_3_code 53 = .ok (.bipush 63, 2) := by decide +kernel
theorem d5_55 : decode prog_43_method_3_code 55 = .ok (.iload 6, 2) := by decide +kernel
theorem d5_57 : decode prog_43_method_3_code 57 = .ok (.isub, 1) := by decide +kernel
theorem d5_58 : decode prog_43_method_3_code 58 = .ok (.lushr, 1) := by decide +kernel
theorem d5_59 : decode prog_43_method_3_code 59 = .ok (.lor, 1) := by decide +kernel
theorem d5_60 : decode prog_43_method_3_code 60 = .ok (.lastore, 1) := by decide +kernel
theorem d5_61 : decode prog_43_method_3_code 61 = .ok (.return_, 1) := by decide +kernel
def k5 : OM := (prog_43_method_3_code, 7, "com/example/multibern/multibern/index/PackedInts", "set", none, { frames := 0, cells := 0, slots := 0, locals := 0 })
theorem pn5 : plainFor (⟨"com/example/multibern/multibern/index/PackedInts", "set", "(II)V"⟩ : MethodName) = true := plainFor_of_name (by first | (simp [plainName, overriddenIn]; done) | decide +kernel)
theorem pd5 : parseMethodDescriptor "(II)V" = some ⟨[.int, .int], none⟩ := by decide +kernel
set_option maxRecDepth 65536 in
set_option maxHeartbeats 4000000 in
theorem C_set {Z : State} {ω : OW} {h : Heap} (hw_ : ∀ d ∈ tables_1, d.before ω.2.2 Z = true) (hn_ : ω.2.1 ≤ h.size) (a w : Addr) (i v0 B : Int32) (mk : Int64) (n : Nat) (W : Nat → Int64) (F0 : PI Z h a (.ref w) (.int B) (.long mk)) (A0 : oA Z h w .long n (fun i => .long (W i))) (hi0 : 0 ≤ i.toInt) (hi1 : i.toInt ≤ 1000) (hB0 : 1 ≤ B.toInt) (hB1 : B.toInt ≤ 31) (hn : i.toInt * B.toInt + B.toInt ≤ 64 * ((n : Int) - 1)) (gw : ω.2.1 ≤ w) (ne : a ≠ w) (hv : 0 ≤ v0.toInt) :
    oC Z ω (⟨"com/example/multibern/multibern/index/PackedInts", "set", "(II)V"⟩ : MethodName) k5 [] #[.ref a, .int i, .int v0] h (fun v h' => v = none ∧ Keep h h' [w] ∧ ∃ W' : Nat → Int64, oA Z h' w .long n (fun i => .long (W' i)) ∧ ∀ t, own_bit W' t = (own_bit W t || (decide ((i.toInt * B.toInt).toNat ≤ t) && v0.toBitVec.getLsbD (t - (i.toInt * B.toInt).toNat)))) := by
  refine oC_of hw_ hn_ pn5 rfl rfl (L := #[.val (.ref a), .val (.int i), .val (.int v0), .unset, .unset, .unset, .unset]) (fun m => by first | (simp [entryFrame, mkF, argsToLocals, Value.category, k5]; done) | rfl) ?_
  intro γ T X
  refine ow_iloadN X 1 d5_0 rfl rfl ?_
  refine ow_i2l X 2 d5_1 rfl ?_
  refine ow_aloadN X 3 d5_2 rfl rfl rfl ?_
  refine ow_getF X 6 19 rfl rfl F0.2.2.1 d5_3 rfl ?_
  intro T_18 X_18
  refine ow_i2l X_18 7 d5_6 rfl ?_
  refine ow_lmul X_18 8 d5_7 rfl ?_
  refine ow_lstoreN X_18 9 (L' := #[.val (.ref a), .val (.int i), .val (.int v0), .val (.long (i.toInt64 * B.toInt64)), .second, .unset, .unset]) d5_8 rfl rfl ?_
  refine ow_lloadN X_18 10 d5_9 rfl rfl ?_
  refine ow_bipush X_18 12 (6 : Int32) d5_10 rfl rfl ?_
  refine ow_lushr X_18 13 d5_12 rfl ?_
  refine ow_l2i X_18 14 d5_13 rfl ?_
  refine ow_istore X_18 16 (L' := #[.val (.ref a), .val (.int i), .val (.int v0), .val (.long (i.toInt64 * B.toInt64)), .second, .val (.int ((((i.toInt64 * B.toInt64).toUInt64 >>> ((6 : Int32) &&& 0x3f).toInt64.toUInt64).toInt64).toInt32)), .unset]) d5_14 rfl rfl ?_
  have hx := own_x i B hi0 hi1 hB0 hB1; have hm := own_mulB i B hi0 hi1 hB0 hB1
  have hwd := own_wd (i.toInt64 * B.toInt64) (by omega) (by omega)
  rw [hx] at hwd
  generalize (((i.toInt64 * B.toInt64).toUInt64 >>> ((6 : Int32) &&& 0x3f).toInt64.toUInt64).toInt64).toInt32 = wd at hwd ⊢
  refine ow_lloadN X_18 17 d5_16 rfl rfl ?_
  refine ow_ldc2J X_18 20 32 rfl rfl d5_17 rfl ?_
  refine ow_land X_18 21 d5_20 rfl ?_
  refine ow_l2i X_18 22 d5_21 rfl ?_
  refine ow_istore X_18 24 (L' := #[.val (.ref a), .val (.int i), .val (.int v0), .val (.long (i.toInt64 * B.toInt64)), .second, .val (.int wd), .val (.int (((i.toInt64 * B.toInt64) &&& (63 : Int64)).toInt32))]) d5_22 rfl rfl ?_
  have hsh := own_sh (i.toInt64 * B.toInt64) (by omega) (by omega)
  rw [hx] at hsh
  generalize ((i.toInt64 * B.toInt64) &&& (63 : Int64)).toInt32 = sh at hsh ⊢
  have hw1 := own_addk wd 1 1 rfl (by decide) (by omega)
  have hsb := own_sub 63 sh (by have e : (63 : Int32).toInt = 63 := rfl; omega) (by have e : (63 : Int32).toInt = 63 := rfl; omega)
  rw [show (63 : Int32).toInt = 63 from rfl] at hsb
  have hP : (((i.toInt * B.toInt).toNat : Nat) : Int) = i.toInt * B.toInt := Int.toNat_of_nonneg hm.1
  refine ow_aloadN X_18 25 d5_24 rfl rfl rfl ?_
  refine ow_getF X_18 28 25 rfl rfl F0.2.1 d5_25 rfl ?_
  intro T_19 X_19
  refine ow_iload X_19 30 d5_28 rfl rfl ?_
  refine ow_dup2 X_19 31 d5_30 rfl rfl rfl ?_
  refine ow_laload X_19 32 A0 d5_31 rfl (by omega) (by omega) rfl ?_
  refine ow_iloadN X_19 33 d5_32 rfl rfl ?_
  refine ow_i2l X_19 34 d5_33 rfl ?_
  refine ow_iload X_19 36 d5_34 rfl rfl ?_
  refine ow_lshl X_19 37 d5_36 rfl ?_
  refine ow_lor X_19 38 d5_37 rfl ?_
  refine ow_lastore X_19 39 A0 gw d5_38 rfl (by omega) (by omega) ?_
  intro T_20 h_20 X_20 W_20
  have f21_0 : PI Z h_20 a (.ref w) (.int B) (.long mk) := F0.other W_20 ne
  have f21_1 : oA Z h_20 w .long n (fun i => .long ((oUpd W wd.toInt.toNat ((W wd.toInt.toNat) ||| (v0.toInt64 <<< (sh &&& 0x3f).toInt64))) i)) := A0.setJ W_20
  have f21_2 : Keep h h_20 [w] := (Keep.refl h [w]).wr W_20 (Or.inl (List.mem_of_getElem? (i := 0) rfl))
  refine ow_aloadN X_20 40 d5_39 rfl rfl rfl ?_
  refine ow_getF X_20 43 25 rfl rfl f21_0.2.1 d5_40 rfl ?_
  intro T_22 X_22
  refine ow_iload X_22 45 d5_43 rfl rfl ?_
  refine ow_iconst X_22 46 (1 : Int32) d5_45 rfl rfl ?_
  refine ow_iadd X_22 47 d5_46 rfl ?_
  refine ow_dup2 X_22 48 d5_47 rfl rfl rfl ?_
  refine ow_laload X_22 49 f21_1 d5_48 rfl (by omega) (by omega) rfl ?_
  refine ow_iloadN X_22 50 d5_49 rfl rfl ?_
  refine ow_i2l X_22 51 d5_50 rfl ?_
  refine ow_iconst X_22 52 (1 : Int32) d5_51 rfl rfl ?_
  refine ow_lushr X_22 53 d5_52 rfl ?_
  refine ow_bipush X_22 55 (63 : Int32) d5_53 rfl rfl ?_
  refine ow_iload X_22 57 d5_55 rfl rfl ?_
  refine ow_isub X_22 58 d5_57 rfl ?_
  refine ow_lushr X_22 59 d5_58 rfl ?_
  refine ow_lor X_22 60 d5_59 rfl ?_
  refine ow_lastore X_22 61 f21_1 gw d5_60 rfl (by omega) (by omega) ?_
  intro T_23 h_23 X_23 W_23
  have f24_0 : PI Z h_23 a (.ref w) (.int B) (.long mk) := f21_0.other W_23 ne
  have f24_1 : oA Z h_23 w .long n (fun i => .long ((oUpd (oUpd W wd.toInt.toNat ((W wd.toInt.toNat) ||| (v0.toInt64 <<< (sh &&& 0x3f).toInt64))) ((wd + (1 : Int32)).toInt.toNat) (((oUpd W wd.toInt.toNat ((W wd.toInt.toNat) ||| (v0.toInt64 <<< (sh &&& 0x3f).toInt64))) (wd + (1 : Int32)).toInt.toNat) ||| ((((v0.toInt64.toUInt64 >>> ((1 : Int32) &&& 0x3f).toInt64.toUInt64).toInt64).toUInt64 >>> (((63 : Int32) - sh) &&& 0x3f).toInt64.toUInt64).toInt64))) i)) := f21_1.setJ W_23
  have f24_2 : Keep h h_23 [w] := f21_2.wr W_23 (Or.inl (List.mem_of_getElem? (i := 0) rfl))
  refine ow_retV X_23 rfl d5_61 (by decide) (by decide) ?_
  exact ⟨rfl, f24_2, _, f24_1, own_set W wd sh v0 (i.toInt * B.toInt).toNat hv (by omega) (by omega) (by omega) (by omega)⟩
def k0 : OM := (code, maxLocals, "com/example/multibern/multibern/index/PackedIntsGetPinLaw", "law", ret, room_1)
theorem pn0 : plainFor Jvm.Pilot.@@N@@.x = true := plainFor_of_name (by first | (simp [plainName, overriddenIn]; done) | decide +kernel)
theorem pd0 : parseMethodDescriptor "(IIIIIJ)Z" = some ⟨[.int, .int, .int, .int, .int, .long], (some .boolean)⟩ := by decide +kernel
theorem own_rg (lg : Int32) (hl : 0 ≤ lg.toInt) : (lg.toInt64 + (1 : Int64)).toInt = lg.toInt + 1 := by
  have e1 := c_i2l lg; have a := c_ladd lg.toInt64 1; have r1 := rng64 (lg.toInt64 + 1); have r0 := rng32 lg; have k : (1 : Int64).toInt = 1 := rfl
  omega
theorem own_nzr (x : Int64) (h : 0 < x.toInt) : x ≠ 0 := by intro e; rw [e] at h; exact absurd h (by decide)
theorem own_nz32 (x : Int32) (h : 0 < x.toInt) : x ≠ 0 := by intro e; rw [e] at h; exact absurd h (by decide)
theorem own_pick (x rg : Int64) (lg : Int32) (hl : 0 ≤ lg.toInt) (hr : rg.toInt = lg.toInt + 1) : 0 ≤ (((x &&& (2147483647 : Int64)) % rg).toInt32).toInt ∧ (((x &&& (2147483647 : Int64)) % rg).toInt32).toInt ≤ lg.toInt := by
  have r0 := rng32 lg
  have m := c_maskL x 2147483647 31 (by decide) (by decide)
  rw [show ((2 ^ 31 : Nat) : Int) = 2147483648 from by decide] at m
  have d := (c_lrem (x &&& 2147483647) rg rg.toInt rfl).1 (by omega)
  rw [lrem_mod, hr] at d
  have q0 := Int.emod_nonneg (x &&& 2147483647).toInt (b := lg.toInt + 1) (by omega)
  have q1 := Int.emod_lt_of_pos (x &&& 2147483647).toInt (b := lg.toInt + 1) (by omega)
  have f := c_l2i ((x &&& 2147483647) % rg); have r3 := rng32 ((x &&& 2147483647) % rg).toInt32
  omega
theorem own_size (s : Int32) : 1 ≤ ((1 : Int32) + (s &&& (127 : Int32))).toInt ∧ ((1 : Int32) + (s &&& (127 : Int32))).toInt ≤ 128 := by
  have := c_and s 127 (by decide); have k : (127 : Int32).toInt = 127 := rfl; have k1 : (1 : Int32).toInt = 1 := rfl
  rw [own_add 1 _ (by omega) (by omega)]; omega
theorem own_rem (x y : Int32) (h : 0 < y.toInt) : 0 ≤ ((x &&& (2147483647 : Int32)) % y).toInt ∧ ((x &&& (2147483647 : Int32)) % y).toInt < y.toInt := by
  have h1 := (c_andS x 2147483647).2.2 (by decide)
  have := (c_iremV (x &&& 2147483647) y).1 h1 h
  omega
theorem own_j (i r size : Int32) (h0 : 2 ≤ size.toInt) (h1 : size.toInt ≤ 128) (hi0 : 0 ≤ i.toInt) (hi1 : i.toInt < size.toInt) (hr0 : 0 ≤ r.toInt) (hr1 : r.toInt < size.toInt - 1) : 0 ≤ ((i + (1 : Int32) + r) % size).toInt ∧ ((i + (1 : Int32) + r) % size).toInt < size.toInt ∧ ((i + (1 : Int32) + r) % size).toInt ≠ i.toInt := by
  have e1 := own_addk i 1 1 rfl (by decide) (by omega)
  have e2 := own_add (i + 1) r (by omega) (by omega)
  have q := (c_iremV (i + 1 + r) size).1 (by omega) (by omega)
  obtain ⟨a1, a2, a3, a4, a5⟩ := q
  by_cases c : (i + 1 + r).toInt < size.toInt
  · have := a4 c; omega
  · have := a5 (by omega) (by omega); omega
theorem own_fit (k size B : Int) (n : Nat) (hk : k + 1 ≤ size) (hB : 1 ≤ B) (h : size * B ≤ 64 * ((n : Int) - 1)) : k * B + B ≤ 64 * ((n : Int) - 1) := by
  have := Int.mul_le_mul_of_nonneg_right hk (show 0 ≤ B by omega)
  rw [Int.add_mul, Int.one_mul] at this; omega
/-- one number's part in what is read at q's place -/
theorem own_tm (a : Int32) (i q B : Nat) (ha : ∀ j, B ≤ j → a.toBitVec.getLsbD j = false) (l : Nat) (hl : l < B) : (decide (i * B ≤ q * B + l) && a.toBitVec.getLsbD (q * B + l - i * B)) = (decide (q = i) && a.toBitVec.getLsbD l) := by
  rcases Nat.lt_trichotomy q i with c | c | c
  · have := Nat.mul_le_mul_right B (show q + 1 ≤ i from c)
    rw [Nat.add_mul, Nat.one_mul] at this
    have a1 : ¬ i * B ≤ q * B + l := by omega
    have a2 : ¬ q = i := by omega
    simp [a1, a2]
  · subst c
    have a1 : q * B ≤ q * B + l := by omega
    have a2 : q * B + l - q * B = l := by omega
    simp [a1, a2]
  · have := Nat.mul_le_mul_right B (show i + 1 ≤ q from c)
    rw [Nat.add_mul, Nat.one_mul] at this
    have a2 : ¬ q = i := by omega
    rw [ha _ (by omega)]; simp [a2]
theorem own_pos (i B : Int32) (h0 : 0 ≤ i.toInt) (h1 : 0 ≤ B.toInt) : (i.toInt * B.toInt).toNat = i.toInt.toNat * B.toInt.toNat := by
  rw [← Int.toNat_of_nonneg h0, ← Int.toNat_of_nonneg h1, ← Int.natCast_mul, Int.toNat_natCast, Int.toNat_of_nonneg h0, Int.toNat_of_nonneg h1]
/-- what get gives at q -/
def own_GB (W : Nat → Int64) (B q z : Int32) : Prop := ∀ j, j < 32 → z.toBitVec.getLsbD j = (decide ((j : Int) < B.toInt) && own_bit W ((q.toInt * B.toInt).toNat + j))
theorem own_read (W : Nat → Int64) (a b B i j q z : Int32) (two : Bool) (hB0 : 1 ≤ B.toInt) (ha0 : 0 ≤ a.toInt) (hb0 : 0 ≤ b.toInt) (ha : a.toInt < ((2 ^ B.toInt.toNat : Nat) : Int)) (hb : b.toInt < ((2 ^ B.toInt.toNat : Nat) : Int)) (hi : 0 ≤ i.toInt) (hj : 0 ≤ j.toInt) (hq : 0 ≤ q.toInt)
    (hW : ∀ t, own_bit W t = ((decide ((i.toInt * B.toInt).toNat ≤ t) && a.toBitVec.getLsbD (t - (i.toInt * B.toInt).toNat)) || (two && (decide ((j.toInt * B.toInt).toNat ≤ t) && b.toBitVec.getLsbD (t - (j.toInt * B.toInt).toNat))))) (hz : own_GB W B q z) (hij : two = true → i.toInt ≠ j.toInt) :
    (q.toInt = i.toInt → z.toInt = a.toInt) ∧ (two = true → q.toInt = j.toInt → z.toInt = b.toInt) ∧ (q.toInt ≠ i.toInt → (two = true → q.toInt ≠ j.toInt) → z.toInt = (0 : Int32).toInt) := by
  have sa := own_small a B.toInt.toNat ha0 ha
  have sb := own_small b B.toInt.toNat hb0 hb
  have key : ∀ l, l < 32 → z.toBitVec.getLsbD l = (decide ((l : Int) < B.toInt) && ((decide (q.toInt = i.toInt) && a.toBitVec.getLsbD l) || (two && (decide (q.toInt = j.toInt) && b.toBitVec.getLsbD l)))) := by
    intro l hl
    rw [hz l hl]
    by_cases c : (l : Int) < B.toInt
    · have c' : l < B.toInt.toNat := by omega
      rw [hW, own_pos i B hi (by omega), own_pos j B hj (by omega), own_pos q B hq (by omega), own_tm a _ _ _ sa l c', own_tm b _ _ _ sb l c']
      have e1 : (q.toInt.toNat = i.toInt.toNat) = (q.toInt = i.toInt) := propext (by omega)
      have e2 : (q.toInt.toNat = j.toInt.toNat) = (q.toInt = j.toInt) := propext (by omega)
      simp only [e1, e2]
    · simp [c]
  have low : ∀ (x : Int32), (∀ j, B.toInt.toNat ≤ j → x.toBitVec.getLsbD j = false) → ∀ l : Nat, (decide ((l : Int) < B.toInt) && x.toBitVec.getLsbD l) = x.toBitVec.getLsbD l := by
    intro x hx l
    by_cases c : (l : Int) < B.toInt
    · simp [c]
    · rw [hx l (by omega)]; simp
  refine ⟨fun e => own_eq z a fun l hl => ?_, fun t e => own_eq z b fun l hl => ?_, fun e f => own_eq z 0 fun l hl => ?_⟩
  · rw [key l hl]
    by_cases t : two = true
    · have : ¬ q.toInt = j.toInt := by have := hij t; omega
      simp only [e, this, decide_true, decide_false, Bool.true_and, Bool.false_and, Bool.and_false, Bool.or_false]
      have ne : ¬ i.toInt = j.toInt := hij t
      simp only [ne, decide_false, Bool.false_and, Bool.and_false, Bool.or_false]; exact low a sa l
    · simp only [t, e, decide_true, Bool.true_and, Bool.false_and, Bool.or_false]; exact low a sa l
  · rw [key l hl]
    have : ¬ q.toInt = i.toInt := by have := hij t; omega
    simp only [t, this, decide_false, Bool.false_and, Bool.false_or, Bool.true_and]
    simp only [e, decide_true, Bool.true_and]; exact low b sb l
  · rw [key l hl]
    by_cases t : two = true
    · have := f t
      simp [e, this]
    · simp [e, t]
set_option maxRecDepth 65536 in
set_option maxHeartbeats 4000000 in
theorem B218 {Z : State} {ω : OW} {γ : OG} {T : State} {h : Heap} (X : oSt Z ω γ k0 T h 2 133) (lr sr ir jr kr lg size a b i k tw j B : Int32) (vs rg : Int64) (pa wa : Addr) (n : Nat) (W : Nat → Int64) (ek : Int32) (F0 : PI Z h pa (.ref wa) (.int B) (.long (((1 : Int64) <<< (B &&& 0x3f).toInt64) - 1))) (A0 : oA Z h wa .long n (fun i => .long (W i))) (hs1 : size.toInt ≤ 128) (hi : 0 ≤ i.toInt ∧ i.toInt < size.toInt) (hk : 0 ≤ k.toInt ∧ k.toInt < size.toInt) (hj : 0 ≤ j.toInt ∧ j.toInt < size.toInt) (hB0 : 1 ≤ B.toInt) (hB1 : B.toInt ≤ 31) (hfit : size.toInt * B.toInt ≤ 64 * ((n : Int) - 1)) (htw : tw = 0 ∨ tw = 1) (hK : ∀ z, own_GB W B k z → z.toInt = ek.toInt) :
    oWP ω γ k0 (fun v _ => v = some (.int 1)) T 218 #[.val (.int lr), .val (.int sr), .val (.int ir), .val (.int jr), .val (.int kr), .val (.long vs), .second, .val (.int lg), .val (.int size), .val (.long rg), .second, .val (.int a), .val (.int b), .val (.int i), .val (.int k), .val (.ref pa), .val (.int tw), .val (.int j), .val (.int ek), .val (.int (1 : Int32)), .val (.int (1 : Int32)), .unset] [] := by
  refine ow_aload X 220 at_218 rfl rfl rfl ?_
  refine ow_iload X 222 at_220 rfl rfl ?_
  refine ow_callV X 225 33 34 36 35 37 4 (κ' := k6) (as := [.int k]) (S := []) (W := 0) rfl rfl rfl rfl rfl rfl rfl (by decide) F0.1 (C_get (oSt_w X) (oSt_n0 X) pa wa k B (((1 : Int64) <<< (B &&& 0x3f).toInt64) - 1) n W F0 A0 hk.1 (by omega) hB0 hB1 (own_fit _ _ _ n (by omega) hB0 hfit) rfl) (by decide) (by decide) (Nat.le_of_eq rfl) (by decide) (by decide) pd6 rfl rfl rfl at_222 rfl ?_
  intro v_25 T_25 h_25 X_25 q_25
  obtain ⟨yk, rfl, rfl, qk⟩ := q_25
  show oWP ω γ k0 _ T_25 225 #[.val (.int lr), .val (.int sr), .val (.int ir), .val (.int jr), .val (.int kr), .val (.long vs), .second, .val (.int lg), .val (.int size), .val (.long rg), .second, .val (.int a), .val (.int b), .val (.int i), .val (.int k), .val (.ref pa), .val (.int tw), .val (.int j), .val (.int ek), .val (.int (1 : Int32)), .val (.int (1 : Int32)), .unset] [.int yk]
  refine ow_iload X_25 227 at_225 rfl rfl ?_
  refine ow_icmp_ne X_25 230 234 at_227 rfl rfl (fun (c227 : yk.toInt ≠ ek.toInt) => absurd (hK _ qk) c227) (fun (c227 : yk.toInt = ek.toInt) => ?_)
  refine ow_iconst X_25 231 (1 : Int32) at_230 rfl rfl ?_
  refine ow_goto X_25 235 at_231 rfl ?_
  refine ow_istore X_25 237 (L' := #[.val (.int lr), .val (.int sr), .val (.int ir), .val (.int jr), .val (.int kr), .val (.long vs), .second, .val (.int lg), .val (.int size), .val (.long rg), .second, .val (.int a), .val (.int b), .val (.int i), .val (.int k), .val (.ref pa), .val (.int tw), .val (.int j), .val (.int ek), .val (.int (1 : Int32)), .val (.int (1 : Int32)), .val (.int (1 : Int32))]) at_235 rfl rfl ?_
  refine ow_iload X_25 239 at_237 rfl rfl ?_
  refine ow_if_eq X_25 242 256 at_239 rfl rfl (fun (c239 : 1 = 0) => absurd c239 (by decide)) (fun (c239 : 1 ≠ 0) => ?_)
  refine ow_iload X_25 244 at_242 rfl rfl ?_
  refine ow_if_eq X_25 247 256 at_244 rfl rfl (fun (c244 : 1 = 0) => absurd c244 (by decide)) (fun (c244 : 1 ≠ 0) => ?_)
  refine ow_iload X_25 249 at_247 rfl rfl ?_
  refine ow_if_eq X_25 252 256 at_249 rfl rfl (fun (c249 : 1 = 0) => absurd c249 (by decide)) (fun (c249 : 1 ≠ 0) => ?_)
  refine ow_iconst X_25 253 (1 : Int32) at_252 rfl rfl ?_
  refine ow_goto X_25 257 at_253 rfl ?_
  refine ow_retZ X_25 rfl at_257 (by decide) (by decide) (by decide) ?_
  rfl
set_option maxRecDepth 65536 in
set_option maxHeartbeats 4000000 in
theorem B175 {Z : State} {ω : OW} {γ : OG} {T : State} {h : Heap} (X : oSt Z ω γ k0 T h 2 133) (lr sr ir jr kr lg size a b i k tw j B : Int32) (vs rg : Int64) (pa wa : Addr) (n : Nat) (W : Nat → Int64) (ek : Int32) (F0 : PI Z h pa (.ref wa) (.int B) (.long (((1 : Int64) <<< (B &&& 0x3f).toInt64) - 1))) (A0 : oA Z h wa .long n (fun i => .long (W i))) (hs1 : size.toInt ≤ 128) (hi : 0 ≤ i.toInt ∧ i.toInt < size.toInt) (hk : 0 ≤ k.toInt ∧ k.toInt < size.toInt) (hj : 0 ≤ j.toInt ∧ j.toInt < size.toInt) (hB0 : 1 ≤ B.toInt) (hB1 : B.toInt ≤ 31) (hfit : size.toInt * B.toInt ≤ 64 * ((n : Int) - 1)) (htw : tw = 0 ∨ tw = 1) (hK : ∀ z, own_GB W B k z → z.toInt = ek.toInt) (hI : ∀ z, own_GB W B i z → z.toInt = a.toInt) (hJ : tw = 1 → ∀ z, own_GB W B j z → z.toInt = b.toInt) :
    oWP ω γ k0 (fun v _ => v = some (.int 1)) T 175 #[.val (.int lr), .val (.int sr), .val (.int ir), .val (.int jr), .val (.int kr), .val (.long vs), .second, .val (.int lg), .val (.int size), .val (.long rg), .second, .val (.int a), .val (.int b), .val (.int i), .val (.int k), .val (.ref pa), .val (.int tw), .val (.int j), .val (.int ek), .unset, .unset, .unset] [] := by
  refine ow_aload X 177 at_175 rfl rfl rfl ?_
  refine ow_iload X 179 at_177 rfl rfl ?_
  refine ow_callV X 182 33 34 36 35 37 4 (κ' := k6) (as := [.int i]) (S := []) (W := 0) rfl rfl rfl rfl rfl rfl rfl (by decide) F0.1 (C_get (oSt_w X) (oSt_n0 X) pa wa i B (((1 : Int64) <<< (B &&& 0x3f).toInt64) - 1) n W F0 A0 hi.1 (by omega) hB0 hB1 (own_fit _ _ _ n (by omega) hB0 hfit) rfl) (by decide) (by decide) (Nat.le_of_eq rfl) (by decide) (by decide) pd6 rfl rfl rfl at_179 rfl ?_
  intro v_26 T_26 h_26 X_26 q_26
  obtain ⟨yi, rfl, rfl, qi⟩ := q_26
  show oWP ω γ k0 _ T_26 182 #[.val (.int lr), .val (.int sr), .val (.int ir), .val (.int jr), .val (.int kr), .val (.long vs), .second, .val (.int lg), .val (.int size), .val (.long rg), .second, .val (.int a), .val (.int b), .val (.int i), .val (.int k), .val (.ref pa), .val (.int tw), .val (.int j), .val (.int ek), .unset, .unset, .unset] [.int yi]
  refine ow_iload X_26 184 at_182 rfl rfl ?_
  refine ow_icmp_ne X_26 187 191 at_184 rfl rfl (fun (c184 : yi.toInt ≠ a.toInt) => absurd (hI _ qi) c184) (fun (c184 : yi.toInt = a.toInt) => ?_)
  refine ow_iconst X_26 188 (1 : Int32) at_187 rfl rfl ?_
  refine ow_goto X_26 192 at_188 rfl ?_
  refine ow_istore X_26 194 (L' := #[.val (.int lr), .val (.int sr), .val (.int ir), .val (.int jr), .val (.int kr), .val (.long vs), .second, .val (.int lg), .val (.int size), .val (.long rg), .second, .val (.int a), .val (.int b), .val (.int i), .val (.int k), .val (.ref pa), .val (.int tw), .val (.int j), .val (.int ek), .val (.int (1 : Int32)), .unset, .unset]) at_192 rfl rfl ?_
  refine ow_iload X_26 196 at_194 rfl rfl ?_
  refine ow_if_eq X_26 199 211 at_196 rfl rfl (fun (c196 : tw.toInt = 0) => ?_) (fun (c196 : tw.toInt ≠ 0) => ?_)
  · refine ow_iconst X_26 212 (1 : Int32) at_211 rfl rfl ?_
    refine ow_goto X_26 216 at_212 rfl ?_
    refine ow_istore X_26 218 (L' := #[.val (.int lr), .val (.int sr), .val (.int ir), .val (.int jr), .val (.int kr), .val (.long vs), .second, .val (.int lg), .val (.int size), .val (.long rg), .second, .val (.int a), .val (.int b), .val (.int i), .val (.int k), .val (.ref pa), .val (.int tw), .val (.int j), .val (.int ek), .val (.int (1 : Int32)), .val (.int (1 : Int32)), .unset]) at_216 rfl rfl ?_
    exact B218 X_26 lr sr ir jr kr lg size a b i k tw j B vs rg pa wa n W ek F0 A0 hs1 hi hk hj hB0 hB1 hfit htw hK
  · refine ow_aload X_26 201 at_199 rfl rfl rfl ?_
    refine ow_iload X_26 203 at_201 rfl rfl ?_
    refine ow_callV X_26 206 33 34 36 35 37 4 (κ' := k6) (as := [.int j]) (S := []) (W := 0) rfl rfl rfl rfl rfl rfl rfl (by decide) F0.1 (C_get (oSt_w X_26) (oSt_n0 X_26) pa wa j B (((1 : Int64) <<< (B &&& 0x3f).toInt64) - 1) n W F0 A0 hj.1 (by omega) hB0 hB1 (own_fit _ _ _ n (by omega) hB0 hfit) rfl) (by decide) (by decide) (Nat.le_of_eq rfl) (by decide) (by decide) pd6 rfl rfl rfl at_203 rfl ?_
    intro v_27 T_27 h_27 X_27 q_27
    obtain ⟨yj, rfl, rfl, qj⟩ := q_27
    show oWP ω γ k0 _ T_27 206 #[.val (.int lr), .val (.int sr), .val (.int ir), .val (.int jr), .val (.int kr), .val (.long vs), .second, .val (.int lg), .val (.int size), .val (.long rg), .second, .val (.int a), .val (.int b), .val (.int i), .val (.int k), .val (.ref pa), .val (.int tw), .val (.int j), .val (.int ek), .val (.int (1 : Int32)), .unset, .unset] [.int yj]
    refine ow_iload X_27 208 at_206 rfl rfl ?_
    refine ow_icmp_ne X_27 211 215 at_208 rfl rfl (fun (c208 : yj.toInt ≠ b.toInt) => absurd (hJ (htw.resolve_left (fun e => by rw [e] at c196; exact c196 rfl)) _ qj) c208) (fun (c208 : yj.toInt = b.toInt) => ?_)
    refine ow_iconst X_27 212 (1 : Int32) at_211 rfl rfl ?_
    refine ow_goto X_27 216 at_212 rfl ?_
    refine ow_istore X_27 218 (L' := #[.val (.int lr), .val (.int sr), .val (.int ir), .val (.int jr), .val (.int kr), .val (.long vs), .second, .val (.int lg), .val (.int size), .val (.long rg), .second, .val (.int a), .val (.int b), .val (.int i), .val (.int k), .val (.ref pa), .val (.int tw), .val (.int j), .val (.int ek), .val (.int (1 : Int32)), .val (.int (1 : Int32)), .unset]) at_216 rfl rfl ?_
    exact B218 X_27 lr sr ir jr kr lg size a b i k tw j B vs rg pa wa n W ek F0 A0 hs1 hi hk hj hB0 hB1 hfit htw hK
set_option maxRecDepth 65536 in
set_option maxHeartbeats 4000000 in
theorem B139 {Z : State} {ω : OW} {γ : OG} {T : State} {h : Heap} (X : oSt Z ω γ k0 T h 2 133) (lr sr ir jr kr lg size a b i k tw j B : Int32) (vs rg : Int64) (pa wa : Addr) (n : Nat) (W : Nat → Int64) (F0 : PI Z h pa (.ref wa) (.int B) (.long (((1 : Int64) <<< (B &&& 0x3f).toInt64) - 1))) (A0 : oA Z h wa .long n (fun i => .long (W i))) (hs1 : size.toInt ≤ 128) (hi : 0 ≤ i.toInt ∧ i.toInt < size.toInt) (hk : 0 ≤ k.toInt ∧ k.toInt < size.toInt) (hj : 0 ≤ j.toInt ∧ j.toInt < size.toInt) (hB0 : 1 ≤ B.toInt) (hB1 : B.toInt ≤ 31) (hfit : size.toInt * B.toInt ≤ 64 * ((n : Int) - 1)) (htw : tw = 0 ∨ tw = 1) (hR : ∀ q z : Int32, 0 ≤ q.toInt → own_GB W B q z → (q.toInt = i.toInt → z.toInt = a.toInt) ∧ (tw = 1 → q.toInt = j.toInt → z.toInt = b.toInt) ∧ (q.toInt ≠ i.toInt → (tw = 1 → q.toInt ≠ j.toInt) → z.toInt = (0 : Int32).toInt)) :
    oWP ω γ k0 (fun v _ => v = some (.int 1)) T 139 #[.val (.int lr), .val (.int sr), .val (.int ir), .val (.int jr), .val (.int kr), .val (.long vs), .second, .val (.int lg), .val (.int size), .val (.long rg), .second, .val (.int a), .val (.int b), .val (.int i), .val (.int k), .val (.ref pa), .val (.int tw), .val (.int j), .unset, .unset, .unset, .unset] [] := by
  refine ow_iload X 141 at_139 rfl rfl ?_
  refine ow_iload X 143 at_141 rfl rfl ?_
  refine ow_icmp_ne X 146 153 at_143 rfl rfl (fun (c143 : k.toInt ≠ i.toInt) => ?_) (fun (c143 : k.toInt = i.toInt) => ?_)
  · refine ow_iload X 155 at_153 rfl rfl ?_
    refine ow_if_eq X 158 172 at_155 rfl rfl (fun (c155 : tw.toInt = 0) => ?_) (fun (c155 : tw.toInt ≠ 0) => ?_)
    · refine ow_iconst X 173 (0 : Int32) at_172 rfl rfl ?_
      refine ow_istore X 175 (L' := #[.val (.int lr), .val (.int sr), .val (.int ir), .val (.int jr), .val (.int kr), .val (.long vs), .second, .val (.int lg), .val (.int size), .val (.long rg), .second, .val (.int a), .val (.int b), .val (.int i), .val (.int k), .val (.ref pa), .val (.int tw), .val (.int j), .val (.int (0 : Int32)), .unset, .unset, .unset]) at_173 rfl rfl ?_
      refine B175 X lr sr ir jr kr lg size a b i k tw j B vs rg pa wa n W (0 : Int32) F0 A0 hs1 hi hk hj hB0 hB1 hfit htw (fun z hz => ?_) (fun z hz => (hR i z hi.1 hz).1 rfl) (fun t z hz => (hR j z hj.1 hz).2.1 t rfl)
      first | exact (hR k z hk.1 hz).2.2 c143 (fun t => by rw [t] at c155; exact absurd c155 (by decide)) | exact (hR k z hk.1 hz).2.2 c143 (fun _ => c162)
    · refine ow_iload X 160 at_158 rfl rfl ?_
      refine ow_iload X 162 at_160 rfl rfl ?_
      refine ow_icmp_ne X 165 172 at_162 rfl rfl (fun (c162 : k.toInt ≠ j.toInt) => ?_) (fun (c162 : k.toInt = j.toInt) => ?_)
      · refine ow_iconst X 173 (0 : Int32) at_172 rfl rfl ?_
        refine ow_istore X 175 (L' := #[.val (.int lr), .val (.int sr), .val (.int ir), .val (.int jr), .val (.int kr), .val (.long vs), .second, .val (.int lg), .val (.int size), .val (.long rg), .second, .val (.int a), .val (.int b), .val (.int i), .val (.int k), .val (.ref pa), .val (.int tw), .val (.int j), .val (.int (0 : Int32)), .unset, .unset, .unset]) at_173 rfl rfl ?_
        refine B175 X lr sr ir jr kr lg size a b i k tw j B vs rg pa wa n W (0 : Int32) F0 A0 hs1 hi hk hj hB0 hB1 hfit htw (fun z hz => ?_) (fun z hz => (hR i z hi.1 hz).1 rfl) (fun t z hz => (hR j z hj.1 hz).2.1 t rfl)
        first | exact (hR k z hk.1 hz).2.2 c143 (fun t => by rw [t] at c155; exact absurd c155 (by decide)) | exact (hR k z hk.1 hz).2.2 c143 (fun _ => c162)
      · refine ow_iload X 167 at_165 rfl rfl ?_
        refine ow_istore X 169 (L' := #[.val (.int lr), .val (.int sr), .val (.int ir), .val (.int jr), .val (.int kr), .val (.long vs), .second, .val (.int lg), .val (.int size), .val (.long rg), .second, .val (.int a), .val (.int b), .val (.int i), .val (.int k), .val (.ref pa), .val (.int tw), .val (.int j), .val (.int b), .unset, .unset, .unset]) at_167 rfl rfl ?_
        refine ow_goto X 175 at_169 rfl ?_
        refine B175 X lr sr ir jr kr lg size a b i k tw j B vs rg pa wa n W b F0 A0 hs1 hi hk hj hB0 hB1 hfit htw (fun z hz => ?_) (fun z hz => (hR i z hi.1 hz).1 rfl) (fun t z hz => (hR j z hj.1 hz).2.1 t rfl)
        exact (hR k z hk.1 hz).2.1 (htw.resolve_left (fun e => by rw [e] at c155; exact c155 rfl)) c162
  · refine ow_iload X 148 at_146 rfl rfl ?_
    refine ow_istore X 150 (L' := #[.val (.int lr), .val (.int sr), .val (.int ir), .val (.int jr), .val (.int kr), .val (.long vs), .second, .val (.int lg), .val (.int size), .val (.long rg), .second, .val (.int a), .val (.int b), .val (.int i), .val (.int k), .val (.ref pa), .val (.int tw), .val (.int j), .val (.int a), .unset, .unset, .unset]) at_148 rfl rfl ?_
    refine ow_goto X 175 at_150 rfl ?_
    refine B175 X lr sr ir jr kr lg size a b i k tw j B vs rg pa wa n W a F0 A0 hs1 hi hk hj hB0 hB1 hfit htw (fun z hz => ?_) (fun z hz => (hR i z hi.1 hz).1 rfl) (fun t z hz => (hR j z hj.1 hz).2.1 t rfl)
    exact (hR k z hk.1 hz).1 c143
set_option maxRecDepth 65536 in
set_option maxHeartbeats 4000000 in
theorem B67 {Z : State} {ω : OW} {γ : OG} {T : State} {h : Heap} (X : oSt Z ω γ k0 T h 0 0) (lr sr ir jr kr lg size a b i k : Int32) (vs rg : Int64) (hl : 0 ≤ lg.toInt) (hs : 1 ≤ size.toInt ∧ size.toInt ≤ 128) (ha : 0 ≤ a.toInt ∧ a.toInt ≤ lg.toInt) (hb : 0 ≤ b.toInt ∧ b.toInt ≤ lg.toInt) (hi : 0 ≤ i.toInt ∧ i.toInt < size.toInt) (hk : 0 ≤ k.toInt ∧ k.toInt < size.toInt) :
    oWP ω γ k0 (fun v _ => v = some (.int 1)) T 67 #[.val (.int lr), .val (.int sr), .val (.int ir), .val (.int jr), .val (.int kr), .val (.long vs), .second, .val (.int lg), .val (.int size), .val (.long rg), .second, .val (.int a), .val (.int b), .val (.int i), .val (.int k), .unset, .unset, .unset, .unset, .unset, .unset, .unset] [] := by
  refine ow_new X 70 2 3 4 rfl rfl rfl rfl at_67 rfl (by decide) (by decide) ?_
  intro T_28 h_28 a_28 q_28 X_28 E_28 A_28 D_28 g_28
  have R_28 : PI Z h_28 a_28 .null (.int (0 : Int32)) (.long (0 : Int64)) := ⟨A_28, D_28 (Or.inr (oSt_at X_28 26 rfl)) (ty := (.array .long)) (by decide), D_28 (Or.inr (oSt_at X_28 20 rfl)) (ty := .int) (by decide), D_28 (Or.inr (oSt_at X_28 22 rfl)) (ty := .long) (by decide)⟩
  refine ow_dup X_28 71 at_70 rfl rfl ?_
  refine ow_iload X_28 73 at_71 rfl rfl ?_
  refine ow_iload X_28 75 at_73 rfl rfl ?_
  refine ow_callC X_28 78 5 6 4 7 (κ' := k1) (as := [.int size, .int lg]) (S := [.ref a_28]) (W := 1) rfl rfl rfl rfl rfl rfl rfl (by decide) (C_init (oSt_w X_28) (oSt_n0 X_28) a_28 size lg R_28 g_28 (by omega) (by omega) hl) (by decide) (by decide) (Nat.le_of_eq rfl) (by decide) (by decide) pd1 rfl rfl rfl at_75 rfl ?_
  intro v_30 T_30 h_30 X_30 q_30
  obtain ⟨rfl, wa, B, n, K30, ne, gw, R30, A30, hB0, hB1, hlB, hfit⟩ := q_30
  obtain ⟨W0, hW0⟩ : ∃ W0 : Nat → Int64, W0 = oZJ := ⟨_, rfl⟩
  have A30 : oA Z h_30 wa .long n (fun i => .long (W0 i)) := by rw [hW0]; exact A30
  have z0 : ∀ t, own_bit W0 t = false := by rw [hW0]; exact own_zero
  show oWP ω γ k0 _ T_30 78 #[.val (.int lr), .val (.int sr), .val (.int ir), .val (.int jr), .val (.int kr), .val (.long vs), .second, .val (.int lg), .val (.int size), .val (.long rg), .second, .val (.int a), .val (.int b), .val (.int i), .val (.int k), .unset, .unset, .unset, .unset, .unset, .unset, .unset] [.ref a_28]
  refine ow_astore X_30 80 (L' := #[.val (.int lr), .val (.int sr), .val (.int ir), .val (.int jr), .val (.int kr), .val (.long vs), .second, .val (.int lg), .val (.int size), .val (.long rg), .second, .val (.int a), .val (.int b), .val (.int i), .val (.int k), .val (.ref a_28), .unset, .unset, .unset, .unset, .unset, .unset]) at_78 rfl rfl rfl ?_
  refine ow_aload X_30 82 at_80 rfl rfl rfl ?_
  refine ow_iload X_30 84 at_82 rfl rfl ?_
  refine ow_iload X_30 86 at_84 rfl rfl ?_
  refine ow_callV X_30 89 27 28 30 29 31 4 (κ' := k5) (as := [.int i, .int a]) (S := []) (W := 0) rfl rfl rfl rfl rfl rfl rfl (by decide) R30.1 (C_set (oSt_w X_30) (oSt_n0 X_30) a_28 wa i a B (((1 : Int64) <<< (B &&& 0x3f).toInt64) - 1) n W0 R30 A30 hi.1 (by omega) hB0 hB1 (own_fit _ _ _ n (by omega) hB0 hfit) gw ne ha.1) (by decide) (by decide) (Nat.le_of_eq rfl) (by decide) (by decide) pd5 rfl rfl rfl at_86 rfl ?_
  intro v_32 T_32 h_32 X_32 q_32
  obtain ⟨rfl, K32, W1, A32, z1⟩ := q_32
  have f33_0 : PI Z h_32 a_28 (.ref wa) (.int B) (.long (((1 : Int64) <<< (B &&& 0x3f).toInt64) - 1)) := R30.keep K32 (ninS ne nin0)
  show oWP ω γ k0 _ T_32 89 #[.val (.int lr), .val (.int sr), .val (.int ir), .val (.int jr), .val (.int kr), .val (.long vs), .second, .val (.int lg), .val (.int size), .val (.long rg), .second, .val (.int a), .val (.int b), .val (.int i), .val (.int k), .val (.ref a_28), .unset, .unset, .unset, .unset, .unset, .unset] []
  refine ow_iload X_32 91 at_89 rfl rfl ?_
  refine ow_iconst X_32 92 (1 : Int32) at_91 rfl rfl ?_
  refine ow_icmp_le X_32 95 99 at_92 rfl rfl (fun (c92 : size.toInt ≤ 1) => ?_) (fun (c92 : 1 < size.toInt) => ?_)
  · refine ow_iconst X_32 100 (0 : Int32) at_99 rfl rfl ?_
    refine ow_istore X_32 102 (L' := #[.val (.int lr), .val (.int sr), .val (.int ir), .val (.int jr), .val (.int kr), .val (.long vs), .second, .val (.int lg), .val (.int size), .val (.long rg), .second, .val (.int a), .val (.int b), .val (.int i), .val (.int k), .val (.ref a_28), .val (.int (0 : Int32)), .unset, .unset, .unset, .unset, .unset]) at_100 rfl rfl ?_
    refine ow_iload X_32 104 at_102 rfl rfl ?_
    refine ow_istore X_32 106 (L' := #[.val (.int lr), .val (.int sr), .val (.int ir), .val (.int jr), .val (.int kr), .val (.long vs), .second, .val (.int lg), .val (.int size), .val (.long rg), .second, .val (.int a), .val (.int b), .val (.int i), .val (.int k), .val (.ref a_28), .val (.int (0 : Int32)), .val (.int i), .unset, .unset, .unset, .unset]) at_104 rfl rfl ?_
    refine ow_iload X_32 108 at_106 rfl rfl ?_
    refine ow_if_eq X_32 111 139 at_108 rfl rfl (fun (c108 : 0 = 0) => ?_) (fun (c108 : 0 ≠ 0) => absurd c108 (by decide))
    refine B139 X_32 lr sr ir jr kr lg size a b i k (0 : Int32) i B vs rg a_28 wa n W1 f33_0 A32 hs.2 hi hk hi hB0 hB1 hfit (Or.inl rfl) (fun q z hq hz => ?_)
    have h := own_read W1 a b B i i q z false hB0 ha.1 hb.1 (by omega) (by omega) hi.1 hi.1 hq (fun t => by rw [z1 t, z0 t]; simp) hz (fun t => by cases t)
    exact ⟨h.1, fun t => absurd t (by decide), fun e f => h.2.2 e (fun t => by cases t)⟩
  · refine ow_iconst X_32 96 (1 : Int32) at_95 rfl rfl ?_
    refine ow_goto X_32 100 at_96 rfl ?_
    refine ow_istore X_32 102 (L' := #[.val (.int lr), .val (.int sr), .val (.int ir), .val (.int jr), .val (.int kr), .val (.long vs), .second, .val (.int lg), .val (.int size), .val (.long rg), .second, .val (.int a), .val (.int b), .val (.int i), .val (.int k), .val (.ref a_28), .val (.int (1 : Int32)), .unset, .unset, .unset, .unset, .unset]) at_100 rfl rfl ?_
    refine ow_iload X_32 104 at_102 rfl rfl ?_
    refine ow_istore X_32 106 (L' := #[.val (.int lr), .val (.int sr), .val (.int ir), .val (.int jr), .val (.int kr), .val (.long vs), .second, .val (.int lg), .val (.int size), .val (.long rg), .second, .val (.int a), .val (.int b), .val (.int i), .val (.int k), .val (.ref a_28), .val (.int (1 : Int32)), .val (.int i), .unset, .unset, .unset, .unset]) at_104 rfl rfl ?_
    refine ow_iload X_32 108 at_106 rfl rfl ?_
    refine ow_if_eq X_32 111 139 at_108 rfl rfl (fun (c108 : 1 = 0) => absurd c108 (by decide)) (fun (c108 : 1 ≠ 0) => ?_)
    refine ow_iload X_32 113 at_111 rfl rfl ?_
    refine ow_iconst X_32 114 (1 : Int32) at_113 rfl rfl ?_
    refine ow_iadd X_32 115 at_114 rfl ?_
    refine ow_iloadN X_32 116 at_115 rfl rfl ?_
    refine ow_ldcI X_32 118 0 rfl rfl at_116 rfl ?_
    refine ow_iand X_32 119 at_118 rfl ?_
    refine ow_iload X_32 121 at_119 rfl rfl ?_
    refine ow_iconst X_32 122 (1 : Int32) at_121 rfl rfl ?_
    refine ow_isub X_32 123 at_122 rfl ?_
    refine ow_irem X_32 124 at_123 rfl (own_nz32 _ (by rw [own_subk size 1 1 rfl (by decide) (by omega)]; omega)) ?_
    refine ow_iadd X_32 125 at_124 rfl ?_
    refine ow_iload X_32 127 at_125 rfl rfl ?_
    refine ow_irem X_32 128 at_127 rfl (own_nz32 size (by omega)) ?_
    refine ow_istore X_32 130 (L' := #[.val (.int lr), .val (.int sr), .val (.int ir), .val (.int jr), .val (.int kr), .val (.long vs), .second, .val (.int lg), .val (.int size), .val (.long rg), .second, .val (.int a), .val (.int b), .val (.int i), .val (.int k), .val (.ref a_28), .val (.int (1 : Int32)), .val (.int (((i + (1 : Int32)) + ((jr &&& (2147483647 : Int32)) % (size - (1 : Int32)))) % size)), .unset, .unset, .unset, .unset]) at_128 rfl rfl ?_
    have hr := own_rem jr (size - (1 : Int32)) (by rw [own_subk size 1 1 rfl (by decide) (by omega)]; omega)
    have e1 := own_subk size 1 1 rfl (by decide) (by omega)
    have hj := own_j i ((jr &&& (2147483647 : Int32)) % (size - (1 : Int32))) size (by omega) hs.2 hi.1 hi.2 hr.1 (by omega)
    generalize ((i + (1 : Int32)) + ((jr &&& (2147483647 : Int32)) % (size - (1 : Int32)))) % size = j at hj ⊢
    refine ow_aload X_32 132 at_130 rfl rfl rfl ?_
    refine ow_iload X_32 134 at_132 rfl rfl ?_
    refine ow_iload X_32 136 at_134 rfl rfl ?_
    refine ow_callV X_32 139 27 28 30 29 31 4 (κ' := k5) (as := [.int j, .int b]) (S := []) (W := 0) rfl rfl rfl rfl rfl rfl rfl (by decide) f33_0.1 (C_set (oSt_w X_32) (oSt_n0 X_32) a_28 wa j b B (((1 : Int64) <<< (B &&& 0x3f).toInt64) - 1) n W1 f33_0 A32 hj.1 (by omega) hB0 hB1 (own_fit _ _ _ n (by omega) hB0 hfit) gw ne hb.1) (by decide) (by decide) (Nat.le_of_eq rfl) (by decide) (by decide) pd5 rfl rfl rfl at_136 rfl ?_
    intro v_34 T_34 h_34 X_34 q_34
    obtain ⟨rfl, K34, W2, A34, z2⟩ := q_34
    have f35_0 : PI Z h_34 a_28 (.ref wa) (.int B) (.long (((1 : Int64) <<< (B &&& 0x3f).toInt64) - 1)) := f33_0.keep K34 (ninS ne nin0)
    show oWP ω γ k0 _ T_34 139 #[.val (.int lr), .val (.int sr), .val (.int ir), .val (.int jr), .val (.int kr), .val (.long vs), .second, .val (.int lg), .val (.int size), .val (.long rg), .second, .val (.int a), .val (.int b), .val (.int i), .val (.int k), .val (.ref a_28), .val (.int (1 : Int32)), .val (.int j), .unset, .unset, .unset, .unset] []
    refine B139 X_34 lr sr ir jr kr lg size a b i k (1 : Int32) j B vs rg a_28 wa n W2 f35_0 A34 hs.2 hi hk ⟨hj.1, hj.2.1⟩ hB0 hB1 hfit (Or.inr rfl) (fun q z hq hz => ?_)
    have h := own_read W2 a b B i j q z true hB0 ha.1 hb.1 (by omega) (by omega) hi.1 hj.1 hq (fun t => by rw [z2 t, z1 t, z0 t]; simp) hz (fun _ => Ne.symm hj.2.2)
    exact ⟨h.1, fun _ => h.2.1 rfl, fun e f => h.2.2 e (fun _ => f rfl)⟩
set_option maxRecDepth 65536 in
set_option maxHeartbeats 4000000 in
theorem C_law {Z : State} {ω : OW} {h : Heap} (hw_ : ∀ d ∈ tables_1, d.before ω.2.2 Z = true) (hn_ : ω.2.1 ≤ h.size) (lr sr ir jr kr : Int32) (vs : Int64) :
    oC Z ω Jvm.Pilot.@@N@@.x k0 tables_1 #[.int lr, .int sr, .int ir, .int jr, .int kr, .long vs] h (fun v _ => v = some (.int 1)) := by
  refine oC_of hw_ hn_ pn0 rfl rfl (L := #[.val (.int lr), .val (.int sr), .val (.int ir), .val (.int jr), .val (.int kr), .val (.long vs), .second, .unset, .unset, .unset, .unset, .unset, .unset, .unset, .unset, .unset, .unset, .unset, .unset, .unset, .unset, .unset]) (fun m => by first | (simp [entryFrame, mkF, argsToLocals, Value.category, k0, maxLocals]; done) | rfl) ?_
  intro γ T X
  refine ow_iloadN X 1 at_0 rfl rfl ?_
  refine ow_ldcI X 3 0 rfl rfl at_1 rfl ?_
  refine ow_iand X 4 at_3 rfl ?_
  refine ow_istore X 6 (L' := #[.val (.int lr), .val (.int sr), .val (.int ir), .val (.int jr), .val (.int kr), .val (.long vs), .second, .val (.int (lr &&& (2147483647 : Int32))), .unset, .unset, .unset, .unset, .unset, .unset, .unset, .unset, .unset, .unset, .unset, .unset, .unset, .unset]) at_4 rfl rfl ?_
  have hl := (c_andS lr (2147483647 : Int32)).2.2 (by decide)
  generalize lr &&& (2147483647 : Int32) = lg at hl ⊢
  refine ow_iconst X 7 (1 : Int32) at_6 rfl rfl ?_
  refine ow_iloadN X 8 at_7 rfl rfl ?_
  refine ow_bipush X 10 (127 : Int32) at_8 rfl rfl ?_
  refine ow_iand X 11 at_10 rfl ?_
  refine ow_iadd X 12 at_11 rfl ?_
  refine ow_istore X 14 (L' := #[.val (.int lr), .val (.int sr), .val (.int ir), .val (.int jr), .val (.int kr), .val (.long vs), .second, .val (.int lg), .val (.int ((1 : Int32) + (sr &&& (127 : Int32)))), .unset, .unset, .unset, .unset, .unset, .unset, .unset, .unset, .unset, .unset, .unset, .unset, .unset]) at_12 rfl rfl ?_
  have hs := own_size sr
  generalize (1 : Int32) + (sr &&& (127 : Int32)) = size at hs ⊢
  refine ow_iload X 16 at_14 rfl rfl ?_
  refine ow_i2l X 17 at_16 rfl ?_
  refine ow_lconst X 18 (1 : Int64) at_17 rfl rfl ?_
  refine ow_ladd X 19 at_18 rfl ?_
  refine ow_lstore X 21 (L' := #[.val (.int lr), .val (.int sr), .val (.int ir), .val (.int jr), .val (.int kr), .val (.long vs), .second, .val (.int lg), .val (.int size), .val (.long (lg.toInt64 + (1 : Int64))), .second, .unset, .unset, .unset, .unset, .unset, .unset, .unset, .unset, .unset, .unset, .unset]) at_19 rfl rfl ?_
  have hrg := own_rg lg hl
  generalize lg.toInt64 + (1 : Int64) = rg at hrg ⊢
  refine ow_lload X 23 at_21 rfl rfl ?_
  refine ow_ldc2J X 26 1 rfl rfl at_23 rfl ?_
  refine ow_land X 27 at_26 rfl ?_
  refine ow_lload X 29 at_27 rfl rfl ?_
  refine ow_lrem X 30 at_29 rfl (own_nzr rg (by omega)) ?_
  refine ow_l2i X 31 at_30 rfl ?_
  refine ow_istore X 33 (L' := #[.val (.int lr), .val (.int sr), .val (.int ir), .val (.int jr), .val (.int kr), .val (.long vs), .second, .val (.int lg), .val (.int size), .val (.long rg), .second, .val (.int (((vs &&& (2147483647 : Int64)) % rg).toInt32)), .unset, .unset, .unset, .unset, .unset, .unset, .unset, .unset, .unset, .unset]) at_31 rfl rfl ?_
  have ha := own_pick vs rg lg hl hrg
  generalize ((vs &&& (2147483647 : Int64)) % rg).toInt32 = a at ha ⊢
  refine ow_lload X 35 at_33 rfl rfl ?_
  refine ow_bipush X 37 (32 : Int32) at_35 rfl rfl ?_
  refine ow_lushr X 38 at_37 rfl ?_
  refine ow_ldc2J X 41 1 rfl rfl at_38 rfl ?_
  refine ow_land X 42 at_41 rfl ?_
  refine ow_lload X 44 at_42 rfl rfl ?_
  refine ow_lrem X 45 at_44 rfl (own_nzr rg (by omega)) ?_
  refine ow_l2i X 46 at_45 rfl ?_
  refine ow_istore X 48 (L' := #[.val (.int lr), .val (.int sr), .val (.int ir), .val (.int jr), .val (.int kr), .val (.long vs), .second, .val (.int lg), .val (.int size), .val (.long rg), .second, .val (.int a), .val (.int (((((vs.toUInt64 >>> ((32 : Int32) &&& 0x3f).toInt64.toUInt64).toInt64) &&& (2147483647 : Int64)) % rg).toInt32)), .unset, .unset, .unset, .unset, .unset, .unset, .unset, .unset, .unset]) at_46 rfl rfl ?_
  have hb := own_pick ((vs.toUInt64 >>> ((32 : Int32) &&& 0x3f).toInt64.toUInt64).toInt64) rg lg hl hrg
  generalize ((((vs.toUInt64 >>> ((32 : Int32) &&& 0x3f).toInt64.toUInt64).toInt64) &&& (2147483647 : Int64)) % rg).toInt32 = b at hb ⊢
  refine ow_iloadN X 49 at_48 rfl rfl ?_
  refine ow_ldcI X 51 0 rfl rfl at_49 rfl ?_
  refine ow_iand X 52 at_51 rfl ?_
  refine ow_iload X 54 at_52 rfl rfl ?_
  refine ow_irem X 55 at_54 rfl (own_nz32 size (by omega)) ?_
  refine ow_istore X 57 (L' := #[.val (.int lr), .val (.int sr), .val (.int ir), .val (.int jr), .val (.int kr), .val (.long vs), .second, .val (.int lg), .val (.int size), .val (.long rg), .second, .val (.int a), .val (.int b), .val (.int ((ir &&& (2147483647 : Int32)) % size)), .unset, .unset, .unset, .unset, .unset, .unset, .unset, .unset]) at_55 rfl rfl ?_
  have hi := own_rem ir size (by omega)
  generalize (ir &&& (2147483647 : Int32)) % size = i at hi ⊢
  refine ow_iload X 59 at_57 rfl rfl ?_
  refine ow_ldcI X 61 0 rfl rfl at_59 rfl ?_
  refine ow_iand X 62 at_61 rfl ?_
  refine ow_iload X 64 at_62 rfl rfl ?_
  refine ow_irem X 65 at_64 rfl (own_nz32 size (by omega)) ?_
  refine ow_istore X 67 (L' := #[.val (.int lr), .val (.int sr), .val (.int ir), .val (.int jr), .val (.int kr), .val (.long vs), .second, .val (.int lg), .val (.int size), .val (.long rg), .second, .val (.int a), .val (.int b), .val (.int i), .val (.int ((kr &&& (2147483647 : Int32)) % size)), .unset, .unset, .unset, .unset, .unset, .unset, .unset]) at_65 rfl rfl ?_
  exact B67 X lr sr ir jr kr lg size a b i _ vs rg hl hs ha hb hi (own_rem kr size (by omega))
set_option maxRecDepth 65536 in
set_option maxHeartbeats 4000000 in
theorem comes_1 {Post : Tables → Env → Array Value → State → Outcome → State → Prop} (hpost : ∀ tb e args s v u, (limb_1_1.after args s (.returned v) u = true ∧ limb_1_2.after args s (.returned v) u = true ∧ True) → FrameEnd s (.returned v) u (Jvm.fieldLocs frame_1_writes args s ++ Jvm.arrayLocs frame_1_arrays args s ++ Jvm.staticLocs frame_1_statics s) 16 256 → Post tb e args s (.returned v) u) :
    ArmFor flags0 classFile x code maxLocals ret World_1 tables_1 room_1 Calls_1 rest_1 Pre_1 Post := by
  intro l hfl _ _ p e ha hc hk s m args below hf hA hF happ hP
  obtain ⟨hcalls, hrest, hpre⟩ := hP
  obtain ⟨-, -, -, hnamed, -, -, -, hat⟩ := (Spec.applies_iff hf).mp happ
  obtain ⟨hg, hn⟩ := and_e (Cond.before_iff.mp (show (Jvm.Cond.and given_1 narrow_1).before args s = true from hpre))
  obtain ⟨hcount, hg0⟩ := and_e hg
  obtain ⟨ha0, hg1⟩ := and_e hg0
  obtain ⟨ha1, hg2⟩ := and_e hg1
  obtain ⟨ha2, hg3⟩ := and_e hg2
  obtain ⟨ha3, hg4⟩ := and_e hg3
  obtain ⟨ha4, hg5⟩ := and_e hg4
  have ha5 := hg5
  obtain ⟨w0, w1, w2, w3, w4, w5, rfl⟩ : ∃ w0 w1 w2 w3 w4 w5 : Value, args = #[w0, w1, w2, w3, w4, w5] := by
    have hs : args.size = 6 := by simpa [Cond.value, given_1] using hcount
    obtain ⟨L⟩ := args
    match L, hs with
    | [w0, w1, w2, w3, w4, w5], _ => exact ⟨w0, w1, w2, w3, w4, w5, rfl⟩
  have hw := fun d (hd : d ∈ tables_1) => atoms_spec (ws := Jvm.Cond.code x code maxLocals ret :: tables_1) hat d (List.mem_cons_of_mem _ hd)
  have hfit : Fit s := fun {y c} hc i hi => by
    obtain ⟨ha, rfl⟩ := Array.getElem?_eq_some_iff.mp hc
    have q := List.all_eq_true.mp ((Array.all_eq_true_iff_forall_mem.mp hF) _ (Array.getElem_mem ha)) i (List.mem_range.mpr hi)
    simpa [Array.getElem?_eq_getElem hi] using q
  obtain ⟨i0, e0⟩ := is_v ha0
  obtain rfl : w0 = (.int i0) := Option.some.inj e0
  obtain ⟨i1, e1⟩ := is_v ha1
  obtain rfl : w1 = (.int i1) := Option.some.inj e1
  obtain ⟨i2, e2⟩ := is_v ha2
  obtain rfl : w2 = (.int i2) := Option.some.inj e2
  obtain ⟨i3, e3⟩ := is_v ha3
  obtain rfl : w3 = (.int i3) := Option.some.inj e3
  obtain ⟨i4, e4⟩ := is_v ha4
  obtain rfl : w4 = (.int i4) := Option.some.inj e4
  obtain ⟨i5, e5⟩ := isL_v ha5
  obtain rfl : w5 = (.long i5) := Option.some.inj e5
  obtain ⟨n, o, h1, h2, h3, _, L, rfl, ⟨N, rfl⟩, hq⟩ := C_law (Z := s) (ω := (l, s.heap.size, _)) hw (Nat.le_refl _) i0 i1 i2 i3 i4 i5 p e ha hc hk s m _ below hf ((Spec.applies_iff_loose hf).mp happ).1 ⟨rfl, State.Warmed39.refl s, rfl⟩ trivial
  refine ⟨n, _, h1, h2, h3, hpost _ _ _ _ _ _ ⟨Cond.after_iff.mpr rfl, Cond.after_iff.mpr (eq_i res_at (Term.int_eval (1)) rfl), trivial⟩ ⟨hq.1, hq.2.1, (hq.2.2.sift fun y hy => Or.inr (N y hy)).mono (by decide) (by decide)⟩⟩
theorem main_1_1 : Claimed_1_1 := comes_1 fun _ _ _ _ _ _ h hF => ⟨h.1, hF⟩
theorem main_1_2 : Claimed_1_2 := comes_1 fun _ _ _ _ _ _ h hF => ⟨h.2.1, hF⟩
end Jvm.Pilot.@@N@@
namespace Jvm.Pilot.@@N@@
open Jvm Jvm.ClassFile Sem Op Lib Jvm.Free Jvm.Stand Jvm.Pilot.@@N@@.Jvm.D
/-! MADE BY PROGRAM (witnessworld.py) out of the Statement's table words and the real class files: 17 classes; the members and pool entries that the words name. The judged class is class 1, her method 1. -/
namespace start1
open Jvm.ClassFile
def u (s : String) : CpInfo := .utf8 (stringToUtf16 s)
/-- a pool by its gaps: so many unusable entries, then the entry; so many at the end -/
def gap : Nat → List CpInfo → List CpInfo
  | 0, r => r
  | n + 1, r => .unusable :: gap n r
def poolList (es : List (Nat × CpInfo)) (last : Nat) : List CpInfo := es.foldr (fun e r => gap e.1 (e.2 :: r)) (gap last [])
def pool (es : List (Nat × CpInfo)) (last : Nat) : Array CpInfo := ⟨poolList es last⟩
def fileOf (pool : Array CpInfo) (this : Nat) (attrs : Array Attribute := #[]) (ms : Array MethodInfo := #[]) (fl : Nat := 33) (sup : Nat := 0) (ifs : Array Nat := #[]) (fds : Array FieldInfo := #[]) : ClassFile where
  minorVersion := 0
  majorVersion := 65
  constantPool := pool
  accessFlags := fl
  thisClass := this
  superClass := sup
  interfaces := ifs
  fields := fds
  methods := ms
  attributes := attrs
def plain (name : String) (sup : Option ClassId) : Class where
  name := name
  kind := .ordinary
  loader := none
  accessFlags := 33
  super := sup
  interfaces := #[]
  cf := none
  fields := #[]
  methods := #[]
  instanceTypes := #[]
  staticTypes := #[]
  resolved := #[]
  callSites := []
  init := .initialized
  statics := none
  mirror := none

def pool0 : Array CpInfo := pool [(5, u "<init>"), (0, u "()V"), (1, .class_ 10), (1, u "java/lang/Object")] 113

def k0c0 : Code := { maxStack := 0, maxLocals := 1, code := object_method_1_code, exceptionTable := #[], attributes := #[] }
def k0m0 : Method := { name := "<init>", desc := "()V", sig := { parameters := [], returnType := none }, accessFlags := 1, code := some k0c0 }
/-- java/lang/Object -/
def k0 : Class := { plain "java/lang/Object" none with
  accessFlags := 33
  interfaces := #[]
  cf := some (fileOf pool0 8 #[] #[{ accessFlags := 1, nameIndex := 5, descriptorIndex := 6, attributes := #[] }] 33 0 #[] #[])
  fields := #[]
  methods := #[k0m0]
  instanceTypes := #[]
  staticTypes := #[]
  resolved := Array.replicate 124 none
  statics := none }

def pool1 : Array CpInfo := pool [(2, .class_ 4), (1, u "java/lang/Object"), (0, u "<init>"), (0, u "()V"), (0, .integer 2147483647), (0, .long 2147483647), (1, .class_ 11), (0, u "com/example/multibern/multibern/index/PackedInts"), (0, .methodref 10 13), (0, .nameAndType 5 14), (0, u "(II)V"), (0, .methodref 10 16), (0, .nameAndType 17 14), (0, u "set"), (0, .methodref 10 19), (0, .nameAndType 20 21), (0, u "get"), (0, u "(I)I"), (0, .class_ 23), (0, u "com/example/multibern/multibern/index/PackedIntsGetPinLaw"), (2, u "law"), (0, u "(IIIIIJ)Z")] 3

def k1m0 : Method := { name := "<init>", desc := "()V", sig := { parameters := [], returnType := none }, accessFlags := 1, code := none }
def k1c1 : Code := { maxStack := 4, maxLocals := 22, code := code, exceptionTable := #[], attributes := #[] }
def k1m1 : Method := { name := "law", desc := "(IIIIIJ)Z", sig := { parameters := [.int, .int, .int, .int, .int, .long], returnType := some .boolean }, accessFlags := 9, code := some k1c1 }
/-- com/example/multibern/multibern/index/PackedIntsGetPinLaw -/
def k1 : Class := { plain "com/example/multibern/multibern/index/PackedIntsGetPinLaw" (some 0) with
  accessFlags := 49
  interfaces := #[]
  cf := some (fileOf pool1 22 #[] #[{ accessFlags := 1, nameIndex := 5, descriptorIndex := 6, attributes := #[] }, { accessFlags := 9, nameIndex := 26, descriptorIndex := 27, attributes := #[] }] 49 2 #[] #[])
  fields := #[]
  methods := #[k1m0, k1m1]
  instanceTypes := #[]
  staticTypes := #[]
  resolved := Array.replicate 31 none
  statics := none }

def pool2 : Array CpInfo := pool [(1, .methodref 2 3), (0, .class_ 4), (0, .nameAndType 5 6), (0, u "java/lang/Object"), (0, u "<init>"), (0, u "()V"), (0, .class_ 8), (0, u "java/lang/Integer"), (0, .methodref 7 10), (0, .nameAndType 11 12), (0, u "numberOfLeadingZeros"), (0, u "(I)I"), (0, .methodref 14 15), (0, .class_ 16), (0, .nameAndType 17 18), (0, u "java/lang/Math"), (0, u "max"), (0, u "(II)I"), (0, .fieldref 20 21), (0, .class_ 22), (0, .nameAndType 23 24), (0, u "com/example/multibern/multibern/index/PackedInts"), (0, u "bits"), (0, u "I"), (0, .fieldref 20 26), (0, .nameAndType 27 28), (0, u "mask"), (0, u "J"), (2, .long 64), (1, .fieldref 20 34), (0, .nameAndType 35 36), (0, u "words"), (0, u "[J"), (0, .long 63), (1, u "(II)V"), (2, u "get"), (0, u "set")] 2

def k2c0 : Code := { maxStack := 5, maxLocals := 3, code := prog_43_method_1_code, exceptionTable := #[], attributes := #[] }
def k2m0 : Method := { name := "<init>", desc := "(II)V", sig := { parameters := [.int, .int], returnType := none }, accessFlags := 0, code := some k2c0 }
def k2c1 : Code := { maxStack := 6, maxLocals := 6, code := prog_43_method_2_code, exceptionTable := #[], attributes := #[] }
def k2m1 : Method := { name := "get", desc := "(I)I", sig := { parameters := [.int], returnType := some .int }, accessFlags := 0, code := some k2c1 }
def k2c2 : Code := { maxStack := 8, maxLocals := 7, code := prog_43_method_3_code, exceptionTable := #[], attributes := #[] }
def k2m2 : Method := { name := "set", desc := "(II)V", sig := { parameters := [.int, .int], returnType := none }, accessFlags := 0, code := some k2c2 }
/-- com/example/multibern/multibern/index/PackedInts -/
def k2 : Class := { plain "com/example/multibern/multibern/index/PackedInts" (some 0) with
  accessFlags := 48
  interfaces := #[]
  cf := some (fileOf pool2 20 #[] #[{ accessFlags := 0, nameIndex := 5, descriptorIndex := 39, attributes := #[] }, { accessFlags := 0, nameIndex := 42, descriptorIndex := 12, attributes := #[] }, { accessFlags := 0, nameIndex := 43, descriptorIndex := 39, attributes := #[] }] 48 2 #[] #[{ accessFlags := 18, nameIndex := 35, descriptorIndex := 36, attributes := #[] }, { accessFlags := 18, nameIndex := 23, descriptorIndex := 24, attributes := #[] }, { accessFlags := 18, nameIndex := 27, descriptorIndex := 28, attributes := #[] }])
  fields := #[{ name := "words", type := (.array .long), accessFlags := 18, slot := 0, constantValue := 0 }, { name := "bits", type := .int, accessFlags := 18, slot := 1, constantValue := 0 }, { name := "mask", type := .long, accessFlags := 18, slot := 2, constantValue := 0 }]
  methods := #[k2m0, k2m1, k2m2]
  instanceTypes := #[(.array .long), .int, .long]
  staticTypes := #[]
  resolved := Array.replicate 46 none
  statics := none }

def pool3 : Array CpInfo := pool [(1, .class_ 2), (0, u "java/io/Serializable"), (0, .class_ 4), (0, u "java/lang/Object")] 2

/-- java/io/Serializable -/
def k3 : Class := { plain "java/io/Serializable" (some 0) with
  accessFlags := 1537
  interfaces := #[]
  cf := some (fileOf pool3 1 #[] #[] 1537 3 #[] #[])
  fields := #[]
  methods := #[]
  instanceTypes := #[]
  staticTypes := #[]
  resolved := Array.replicate 7 none
  statics := none }

def pool4 : Array CpInfo := pool [(2, .class_ 4), (1, u "java/lang/Object"), (0, u "<init>"), (0, u "()V"), (1, .class_ 10), (1, u "java/lang/Number"), (2, .class_ 14), (0, u "java/io/Serializable"), (0, u "serialVersionUID"), (0, u "J")] 20

def k4m0 : Method := { name := "<init>", desc := "()V", sig := { parameters := [], returnType := none }, accessFlags := 1, code := none }
/-- java/lang/Number -/
def k4 : Class := { plain "java/lang/Number" (some 0) with
  accessFlags := 1057
  interfaces := #[3]
  cf := some (fileOf pool4 8 #[] #[{ accessFlags := 1, nameIndex := 5, descriptorIndex := 6, attributes := #[] }] 1057 2 #[13] #[{ accessFlags := 26, nameIndex := 15, descriptorIndex := 16, attributes := #[] }])
  fields := #[{ name := "serialVersionUID", type := .long, accessFlags := 26, slot := 0, constantValue := 0 }]
  methods := #[k4m0]
  instanceTypes := #[]
  staticTypes := #[.long]
  resolved := Array.replicate 37 none
  statics := none }

def pool5 : Array CpInfo := pool [(1, .class_ 2), (0, u "java/lang/Comparable"), (0, .class_ 4), (0, u "java/lang/Object")] 7

/-- java/lang/Comparable -/
def k5 : Class := { plain "java/lang/Comparable" (some 0) with
  accessFlags := 1537
  interfaces := #[]
  cf := some (fileOf pool5 1 #[] #[] 1537 3 #[] #[])
  fields := #[]
  methods := #[]
  instanceTypes := #[]
  staticTypes := #[]
  resolved := Array.replicate 12 none
  statics := none }

def pool6 : Array CpInfo := pool [(1, .class_ 2), (0, u "java/lang/constant/Constable"), (0, .class_ 4), (0, u "java/lang/Object")] 6

/-- java/lang/constant/Constable -/
def k6 : Class := { plain "java/lang/constant/Constable" (some 0) with
  accessFlags := 1537
  interfaces := #[]
  cf := some (fileOf pool6 1 #[] #[] 1537 3 #[] #[])
  fields := #[]
  methods := #[]
  instanceTypes := #[]
  staticTypes := #[]
  resolved := Array.replicate 11 none
  statics := none }

def pool7 : Array CpInfo := pool [(1, .class_ 2), (0, u "java/lang/constant/ConstantDesc"), (0, .class_ 4), (0, u "java/lang/Object")] 32

/-- java/lang/constant/ConstantDesc -/
def k7 : Class := { plain "java/lang/constant/ConstantDesc" (some 0) with
  accessFlags := 1537
  interfaces := #[]
  cf := some (fileOf pool7 1 #[] #[] 1537 3 #[] #[])
  fields := #[]
  methods := #[]
  instanceTypes := #[]
  staticTypes := #[]
  resolved := Array.replicate 37 none
  statics := none }

def pool8 : Array CpInfo := pool [(1, .class_ 2), (0, u "java/lang/Integer"), (16, u "digits"), (0, u "[C"), (32, u "numberOfLeadingZeros"), (0, u "(I)I"), (30, u "DigitOnes"), (0, u "[B"), (2, u "DigitTens"), (99, .class_ 190), (0, u "java/lang/Integer$IntegerCache"), (3, u "I"), (8, .class_ 204), (0, u "java/lang/Number"), (2, u "value"), (56, .integer 65536), (37, u "TYPE"), (0, u "Ljava/lang/Class;"), (0, .class_ 305), (0, u "java/lang/Comparable"), (0, .class_ 307), (0, u "java/lang/constant/Constable"), (0, .class_ 309), (0, u "java/lang/constant/ConstantDesc"), (0, u "MIN_VALUE"), (1, u "MAX_VALUE"), (3, u "SIZE"), (1, u "BYTES"), (1, u "serialVersionUID"), (0, u "J")] 131

def k8c0 : Code := { maxStack := 3, maxLocals := 2, code := jdk_33_method_47_code, exceptionTable := #[], attributes := #[] }
def k8m0 : Method := { name := "numberOfLeadingZeros", desc := "(I)I", sig := { parameters := [.int], returnType := some .int }, accessFlags := 9, code := some k8c0 }
/-- java/lang/Integer -/
def k8 : Class := { plain "java/lang/Integer" (some 4) with
  accessFlags := 49
  interfaces := #[5, 6, 7]
  cf := some (fileOf pool8 1 #[.nestMembers #[189]] #[{ accessFlags := 9, nameIndex := 53, descriptorIndex := 54, attributes := #[] }] 49 203 #[304, 306, 308] #[{ accessFlags := 25, nameIndex := 310, descriptorIndex := 194, attributes := #[] }, { accessFlags := 25, nameIndex := 312, descriptorIndex := 194, attributes := #[] }, { accessFlags := 25, nameIndex := 302, descriptorIndex := 303, attributes := #[] }, { accessFlags := 24, nameIndex := 19, descriptorIndex := 20, attributes := #[] }, { accessFlags := 24, nameIndex := 89, descriptorIndex := 86, attributes := #[] }, { accessFlags := 24, nameIndex := 85, descriptorIndex := 86, attributes := #[] }, { accessFlags := 18, nameIndex := 207, descriptorIndex := 194, attributes := #[] }, { accessFlags := 25, nameIndex := 316, descriptorIndex := 194, attributes := #[] }, { accessFlags := 25, nameIndex := 318, descriptorIndex := 194, attributes := #[] }, { accessFlags := 26, nameIndex := 320, descriptorIndex := 321, attributes := #[] }])
  fields := #[{ name := "MIN_VALUE", type := .int, accessFlags := 25, slot := 0, constantValue := 0 }, { name := "MAX_VALUE", type := .int, accessFlags := 25, slot := 1, constantValue := 0 }, { name := "TYPE", type := (.object "java/lang/Class"), accessFlags := 25, slot := 2, constantValue := 0 }, { name := "digits", type := (.array .char), accessFlags := 24, slot := 3, constantValue := 0 }, { name := "DigitTens", type := (.array .byte), accessFlags := 24, slot := 4, constantValue := 0 }, { name := "DigitOnes", type := (.array .byte), accessFlags := 24, slot := 5, constantValue := 0 }, { name := "value", type := .int, accessFlags := 18, slot := 0, constantValue := 0 }, { name := "SIZE", type := .int, accessFlags := 25, slot := 6, constantValue := 0 }, { name := "BYTES", type := .int, accessFlags := 25, slot := 7, constantValue := 0 }, { name := "serialVersionUID", type := .long, accessFlags := 26, slot := 8, constantValue := 0 }]
  methods := #[k8m0]
  instanceTypes := #[.int]
  staticTypes := #[.int, .int, (.object "java/lang/Class"), (.array .char), (.array .byte), (.array .byte), .int, .int, .long]
  resolved := Array.replicate 453 none
  statics := none }

def pool9 : Array CpInfo := pool [(1, .class_ 2), (0, u "java/lang/Math"), (1, .class_ 6), (1, u "java/lang/Object"), (0, u "<init>"), (0, u "()V"), (89, .class_ 100), (1, u "java/lang/Math$RandomNumberGeneratorHolder"), (71, u "negativeZeroFloatBits"), (0, u "J"), (2, u "negativeZeroDoubleBits"), (21, u "max"), (46, u "$assertionsDisabled"), (0, u "Z"), (88, u "(II)I"), (2, u "twoToTheDoubleScaleDown"), (0, u "D"), (4, u "twoToTheDoubleScaleUp"), (9, u "E"), (3, u "PI"), (2, u "TAU"), (2, u "DEGREES_TO_RADIANS"), (0, u "RADIANS_TO_DEGREES")] 94

def k9m0 : Method := { name := "<init>", desc := "()V", sig := { parameters := [], returnType := none }, accessFlags := 2, code := none }
def k9c1 : Code := { maxStack := 2, maxLocals := 2, code := jdk_29_method_65_code, exceptionTable := #[], attributes := #[] }
def k9m1 : Method := { name := "max", desc := "(II)I", sig := { parameters := [.int, .int], returnType := some .int }, accessFlags := 9, code := some k9c1 }
/-- java/lang/Math -/
def k9 : Class := { plain "java/lang/Math" (some 0) with
  accessFlags := 49
  interfaces := #[]
  cf := some (fileOf pool9 1 #[.nestMembers #[98]] #[{ accessFlags := 2, nameIndex := 7, descriptorIndex := 8, attributes := #[] }, { accessFlags := 9, nameIndex := 198, descriptorIndex := 335, attributes := #[] }] 49 4 #[] #[{ accessFlags := 25, nameIndex := 354, descriptorIndex := 339, attributes := #[] }, { accessFlags := 25, nameIndex := 358, descriptorIndex := 339, attributes := #[] }, { accessFlags := 25, nameIndex := 361, descriptorIndex := 339, attributes := #[] }, { accessFlags := 26, nameIndex := 364, descriptorIndex := 339, attributes := #[] }, { accessFlags := 26, nameIndex := 365, descriptorIndex := 339, attributes := #[] }, { accessFlags := 26, nameIndex := 172, descriptorIndex := 173, attributes := #[] }, { accessFlags := 26, nameIndex := 176, descriptorIndex := 173, attributes := #[] }, { accessFlags := 8, nameIndex := 344, descriptorIndex := 339, attributes := #[] }, { accessFlags := 8, nameIndex := 338, descriptorIndex := 339, attributes := #[] }, { accessFlags := 4120, nameIndex := 245, descriptorIndex := 246, attributes := #[] }])
  fields := #[{ name := "E", type := .double, accessFlags := 25, slot := 0, constantValue := 0 }, { name := "PI", type := .double, accessFlags := 25, slot := 1, constantValue := 0 }, { name := "TAU", type := .double, accessFlags := 25, slot := 2, constantValue := 0 }, { name := "DEGREES_TO_RADIANS", type := .double, accessFlags := 26, slot := 3, constantValue := 0 }, { name := "RADIANS_TO_DEGREES", type := .double, accessFlags := 26, slot := 4, constantValue := 0 }, { name := "negativeZeroFloatBits", type := .long, accessFlags := 26, slot := 5, constantValue := 0 }, { name := "negativeZeroDoubleBits", type := .long, accessFlags := 26, slot := 6, constantValue := 0 }, { name := "twoToTheDoubleScaleUp", type := .double, accessFlags := 8, slot := 7, constantValue := 0 }, { name := "twoToTheDoubleScaleDown", type := .double, accessFlags := 8, slot := 8, constantValue := 0 }, { name := "$assertionsDisabled", type := .boolean, accessFlags := 4120, slot := 9, constantValue := 0 }]
  methods := #[k9m0, k9m1]
  instanceTypes := #[]
  staticTypes := #[.double, .double, .double, .double, .double, .long, .long, .double, .double, .boolean]
  resolved := Array.replicate 460 none
  statics := none }

def pool10 : Array CpInfo := pool [(1, u "java/lang/Cloneable"), (0, .class_ 1), (0, u "java/lang/Object"), (0, .class_ 3)] 3

/-- java/lang/Cloneable -/
def k10 : Class := { plain "java/lang/Cloneable" (some 0) with
  accessFlags := 1537
  interfaces := #[]
  cf := some (fileOf pool10 2 #[] #[] 1537 4 #[] #[])
  fields := #[]
  methods := #[]
  instanceTypes := #[]
  staticTypes := #[]
  resolved := Array.replicate 8 none
  statics := none }

/-- the primitive byte -/
def k11 : Class := { plain "byte" none with kind := .primitive 'B', accessFlags := 0x411 }
/-- [B -/
def k12 : Class := { plain "[B" (some 0) with kind := .array 11 .byte, interfaces := #[10, 3], accessFlags := 1041 }

/-- the primitive int -/
def k13 : Class := { plain "int" none with kind := .primitive 'I', accessFlags := 0x411 }
/-- [I -/
def k14 : Class := { plain "[I" (some 0) with kind := .array 13 .int, interfaces := #[10, 3], accessFlags := 1041 }

/-- the primitive long -/
def k15 : Class := { plain "long" none with kind := .primitive 'J', accessFlags := 0x411 }
/-- [J -/
def k16 : Class := { plain "[J" (some 0) with kind := .array 15 .long, interfaces := #[10, 3], accessFlags := 1041 }

def heap : Heap := #[]
def classes : Array Class := #[k0, k1, k2, k3, k4, k5, k6, k7, k8, k9, k10, k11, k12, k13, k14, k15, k16]
def interned : List (Array UInt16 × Addr) := []
def slotsUsed : Nat := 0
def theMethod : MethodId := ⟨1, 1⟩
def args0 : Array Value := #[.int 3, .int 9, .int 3, .int 1, .int 7, .long 1]
def aboutOver (below : List Frame) : State where
  vm := { classes := classes, interned := interned.toArray }
  heap := heap
  slotsUsed := slotsUsed
  threads := #[{ frames := .invoking theMethod args0 :: below }]
def below0 : List Frame := [.native { method := ⟨0, 0⟩, args := #[] }]
def about1 : State := aboutOver below0
def p0 : Program := .bare "" "" ""
def e0 : Env := launch0.env 0 0 0
theorem w_frames : about1.frames = Frame.invoking theMethod args0 :: below0 := rfl
set_option maxRecDepth 65536 in
theorem w_args : argsFit about1.vm theMethod args0 = true := by decide +kernel
set_option maxRecDepth 65536 in
theorem w_heap : heapFits about1 = true := by decide +kernel
set_option maxRecDepth 65536 in
theorem w_runnable : about1.curStatus? = some .runnable := by decide +kernel
set_option maxRecDepth 65536 in
theorem w_alone : about1.alone = true := by decide +kernel
set_option maxRecDepth 65536 in
theorem w_named : about1.methodNamed? x = some theMethod := by decide +kernel
set_option maxRecDepth 65536 in
theorem w_hears : about1.hears theMethod below0 = true := by decide +kernel
set_option maxRecDepth 65536 in
theorem w_ripe : about1.ripe theMethod args0 below0 = true := by decide +kernel
theorem w_running : about1.status = .running := rfl
set_option maxRecDepth 65536 in
theorem w_room : about1.hasRoom e0.platform room_1 = true :=
  launch0.hasRoom_least _ room_1 (by decide +kernel) (by decide +kernel) (by decide +kernel) (by decide +kernel) (by decide +kernel) (by decide +kernel)
theorem allAtoms_all (ts : List Jvm.Cond) (a : Array Jvm.Value) (st : Jvm.State) : (allAtoms ts).before a st = ts.all (fun c => c.before a st) := by
  induction ts with
  | nil => rfl
  | cons c t ih =>
    show (Jvm.Cond.and c (allAtoms t)).before a st = _
    rw [Jvm.Cond.before_and, ih, List.all_cons]
def words1 : List Jvm.Cond := Jvm.Cond.code x code maxLocals ret :: tables_1
/-- a 'code' word, met by the world's own term for the bytes: nothing is compared byte by byte -/
theorem code_word {y : MethodName} {bytes : ByteArray} {mx : Nat} {rt : Option FieldType} {a : Array Value} {s : State} {m : MethodId} {meth : Method} {c : Code} (h1 : s.methodNamed? y = some m) (h2 : s.vm.method? m = some meth) (h3 : meth.code = some c) (h4 : c.code = bytes)
    (h5 : (c.maxLocals == mx && c.exceptionTable.isEmpty && decide (c.maxStack ≤ mostOperands) && decide (meth.sig.returnType = rt) && !meth.locks && decide (parseMethodDescriptor y.desc = some meth.sig)) = true) : (Jvm.Cond.code y bytes mx rt).before a s = true := by
  simp only [Bool.and_eq_true, beq_iff_eq, Bool.not_eq_true', decide_eq_true_eq] at h5
  obtain ⟨⟨⟨⟨⟨g1, g2⟩, g3⟩, g4⟩, g5⟩, g6⟩ := h5
  simp [Cond.before, Cond.holds, Cond.value, h1, h2, h3, h4, g1, g2, g3, g4, g5, g6]
def isCode : Jvm.Cond → Bool
  | .code _ _ _ _ => true
  | _ => false
theorem all_split {L : List Jvm.Cond} {P : Jvm.Cond → Bool} (h1 : L.all (fun c => isCode c || P c) = true) (h2 : ∀ c ∈ L.filter isCode, P c = true) : L.all P = true := by
  refine List.all_eq_true.mpr fun c hc => ?_
  have h := List.all_eq_true.mp h1 c hc
  rcases Bool.eq_false_or_eq_true (isCode c) with hi | hi
  · exact h2 c (List.mem_filter.mpr ⟨hc, hi⟩)
  · simpa [hi] using h
set_option maxRecDepth 65536 in
theorem w_c0 : (Jvm.Cond.code x code maxLocals ret).before args0 about1 = true := code_word (m := ⟨1, 1⟩) (meth := k1m1) (c := k1c1) (by decide +kernel) rfl rfl rfl (by decide +kernel)
set_option maxRecDepth 65536 in
theorem w_c1 : (Jvm.Cond.code ({ cls := "com/example/multibern/multibern/index/PackedInts", name := "<init>", desc := "(II)V" } : Jvm.MethodName) prog_43_method_1_code (3 : Nat) (Option.none : Option Jvm.ClassFile.FieldType)).before args0 about1 = true := code_word (m := ⟨2, 0⟩) (meth := k2m0) (c := k2c0) (by decide +kernel) rfl rfl rfl (by decide +kernel)
set_option maxRecDepth 65536 in
theorem w_c2 : (Jvm.Cond.code ({ cls := "java/lang/Object", name := "<init>", desc := "()V" } : Jvm.MethodName) object_method_1_code (1 : Nat) (Option.none : Option Jvm.ClassFile.FieldType)).before args0 about1 = true := code_word (m := ⟨0, 0⟩) (meth := k0m0) (c := k0c0) (by decide +kernel) rfl rfl rfl (by decide +kernel)
set_option maxRecDepth 65536 in
theorem w_c3 : (Jvm.Cond.code ({ cls := "java/lang/Integer", name := "numberOfLeadingZeros", desc := "(I)I" } : Jvm.MethodName) jdk_33_method_47_code (2 : Nat) (Option.some Jvm.ClassFile.FieldType.int)).before args0 about1 = true := code_word (m := ⟨8, 0⟩) (meth := k8m0) (c := k8c0) (by decide +kernel) rfl rfl rfl (by decide +kernel)
set_option maxRecDepth 65536 in
theorem w_c4 : (Jvm.Cond.code ({ cls := "java/lang/Math", name := "max", desc := "(II)I" } : Jvm.MethodName) jdk_29_method_65_code (2 : Nat) (Option.some Jvm.ClassFile.FieldType.int)).before args0 about1 = true := code_word (m := ⟨9, 1⟩) (meth := k9m1) (c := k9c1) (by decide +kernel) rfl rfl rfl (by decide +kernel)
set_option maxRecDepth 65536 in
theorem w_c5 : (Jvm.Cond.code ({ cls := "com/example/multibern/multibern/index/PackedInts", name := "set", desc := "(II)V" } : Jvm.MethodName) prog_43_method_3_code (7 : Nat) (Option.none : Option Jvm.ClassFile.FieldType)).before args0 about1 = true := code_word (m := ⟨2, 2⟩) (meth := k2m2) (c := k2c2) (by decide +kernel) rfl rfl rfl (by decide +kernel)
set_option maxRecDepth 65536 in
theorem w_c6 : (Jvm.Cond.code ({ cls := "com/example/multibern/multibern/index/PackedInts", name := "get", desc := "(I)I" } : Jvm.MethodName) prog_43_method_2_code (6 : Nat) (Option.some Jvm.ClassFile.FieldType.int)).before args0 about1 = true := code_word (m := ⟨2, 1⟩) (meth := k2m1) (c := k2c1) (by decide +kernel) rfl rfl rfl (by decide +kernel)
def codes1 : List Jvm.Cond := [Jvm.Cond.code x code maxLocals ret, Jvm.Cond.code ({ cls := "com/example/multibern/multibern/index/PackedInts", name := "<init>", desc := "(II)V" } : Jvm.MethodName) prog_43_method_1_code (3 : Nat) (Option.none : Option Jvm.ClassFile.FieldType), Jvm.Cond.code ({ cls := "java/lang/Object", name := "<init>", desc := "()V" } : Jvm.MethodName) object_method_1_code (1 : Nat) (Option.none : Option Jvm.ClassFile.FieldType), Jvm.Cond.code ({ cls := "java/lang/Integer", name := "numberOfLeadingZeros", desc := "(I)I" } : Jvm.MethodName) jdk_33_method_47_code (2 : Nat) (Option.some Jvm.ClassFile.FieldType.int), Jvm.Cond.code ({ cls := "java/lang/Math", name := "max", desc := "(II)I" } : Jvm.MethodName) jdk_29_method_65_code (2 : Nat) (Option.some Jvm.ClassFile.FieldType.int), Jvm.Cond.code ({ cls := "com/example/multibern/multibern/index/PackedInts", name := "set", desc := "(II)V" } : Jvm.MethodName) prog_43_method_3_code (7 : Nat) (Option.none : Option Jvm.ClassFile.FieldType), Jvm.Cond.code ({ cls := "com/example/multibern/multibern/index/PackedInts", name := "get", desc := "(I)I" } : Jvm.MethodName) prog_43_method_2_code (6 : Nat) (Option.some Jvm.ClassFile.FieldType.int)]
set_option maxRecDepth 65536 in
theorem codes_eq : words1.filter isCode = codes1 := rfl
theorem w_codes : ∀ c ∈ words1.filter isCode, c.before args0 about1 = true := by
  rw [codes_eq]
  intro c hc
  simp only [codes1, List.mem_cons, List.not_mem_nil, or_false] at hc
  rcases hc with rfl | rfl | rfl | rfl | rfl | rfl | rfl
  · exact w_c0
  · exact w_c1
  · exact w_c2
  · exact w_c3
  · exact w_c4
  · exact w_c5
  · exact w_c6
set_option maxRecDepth 65536 in
theorem w_t1 : (words1.take 24).all (fun c => isCode c || c.before args0 about1) = true := by decide +kernel
set_option maxRecDepth 65536 in
theorem w_t2 : (words1.drop 24).all (fun c => isCode c || c.before args0 about1) = true := by decide +kernel
theorem w_tables : (allAtoms (Jvm.Cond.code x code maxLocals ret :: tables_1)).before args0 about1 = true := by
  rw [allAtoms_all]
  show words1.all (fun c => c.before args0 about1) = true
  refine all_split ?_ w_codes
  rw [← List.take_append_drop 24 words1, List.all_append, w_t1, w_t2]
  rfl
set_option maxRecDepth 65536 in
theorem w_case : (Jvm.Cond.and given_1 narrow_1).before args0 about1 = true := by decide +kernel
theorem w_applies : (headSpec (Jvm.Cond.code x code maxLocals ret :: tables_1) room_1).applies x e0.platform about1 = true :=
  (Spec.applies_iff w_frames).mpr ⟨w_running, w_runnable, w_alone, w_named, w_hears, w_ripe, w_room, w_tables⟩
theorem atStart : AtStart classFile x code maxLocals ret World_1 tables_1 room_1 Calls_1 rest_1 Pre_1 launch0 p0 e0 about1 theMethod args0 below0 :=
  ⟨lists_1, trivial, launch0.admits_env _ _ _, launch0.least_env, fairChoices_fair.cas, fairChoices_fair.clock, w_frames, w_args, w_heap, w_applies, trivial, trivial, w_case⟩
end start1
theorem witness_1 : WitnessClaimed_1 := ⟨start1.p0, start1.e0, start1.about1, start1.theMethod, start1.args0, start1.below0, start1.atStart⟩
end Jvm.Pilot.@@N@@
