import JvmDerived
import JvmDerived.Pilot.@@N@@Statement
import JvmDerived.Pilot.@@N@@Code
set_option linter.unusedVariables false
set_option linter.unusedSimpArgs false
namespace Jvm.Pilot.@@N@@
open Jvm Jvm.ClassFile Sem Op Lib Jvm.Free Jvm.Stand Jvm.LawKit Jvm.RoadKit Bundle Jvm.Pilot.@@N@@.Jvm.D
/-- one invocation: program, environment, the state at the invocation, method, arguments, the frames below, the method's record, its code -/
abbrev OG := Program × Env × State × MethodId × Array Value × List Frame × Method × Code
/-- the whole run: the launch, the heap's size at the law's start, the law's arguments -/
abbrev OW := Launch × Nat × Array Value
/-- one method: its bytes, its number of locals, its class, its name, what it returns, the room it asks -/
abbrev OM := ByteArray × Nat × String × String × Option FieldType × Room
/-- where a walk stands -/
def oSt (Z : State) (ω : OW) (γ : OG) (κ : OM) (T : State) (h : Heap) (cs ss : Nat) : Prop :=
  γ.1.tables.exec = Jvm.exec ∧ γ.2.2.2.2.2.2.2.code = κ.1 ∧ γ.2.2.2.2.2.2.2.maxLocals = κ.2.1 ∧ γ.2.2.1.vm.findClass κ.2.2.1 = some γ.2.2.2.1.cls ∧ γ.2.2.2.2.2.2.1.name = κ.2.2.2.1 ∧
  γ.2.2.2.2.2.2.1.sig.returnType = κ.2.2.2.2.1 ∧ γ.2.2.2.2.2.2.1.locks = false ∧ Z.Warmed39 γ.2.2.1.vm ∧ (∀ d ∈ tables_1, d.before ω.2.2 Z = true) ∧ ω.2.1 ≤ γ.2.2.1.heap.size ∧ T.heap = h ∧
  ∃ locs, Stand γ.1 ω.1 γ.2.1 κ.2.2.2.2.2 γ.2.2.1 γ.2.2.2.1 γ.2.2.2.2.1 γ.2.2.2.2.2.1 γ.2.2.2.2.2.2.1 γ.2.2.2.2.2.2.2 T locs cs ss ∧ Fr ω.2.1 locs
/-- from here the method returns, and Q holds of what it returns and of the heap it leaves -/
def oWP (ω : OW) (γ : OG) (κ : OM) (Q : Option Value → Heap → Prop) (T : State) (pc : Nat) (L : Array Slot) (S : List Value) : Prop :=
  ∃ s₂ o, Steps γ.1.tables γ.2.1 γ.2.2.2.2.2.1 (T.setTop (mkF γ.2.2.2.1 pc L S)) s₂ ∧ s₂.status = .running ∧ Ended s₂ γ.2.2.2.2.2.1 o ∧
    ∃ v Lc, o = .returned v ∧ (Fr ω.2.1 Lc ∧ Q v s₂.heap) ∧ FrameEnd γ.2.2.1 o s₂ Lc κ.2.2.2.2.2.cells κ.2.2.2.2.2.slots
/-- a method's contract -/
def oC (Z : State) (ω : OW) (y : MethodName) (κ : OM) (ws : List Jvm.Cond) (as : Array Value) (h : Heap) (Q : Option Value → Heap → Prop) : Prop :=
  MetFree ω.1 y (head1 (Jvm.Cond.code y κ.1 κ.2.1 κ.2.2.2.2.1 :: ws) κ.2.2.2.2.2) (fun a U => a = as ∧ Z.Warmed39 U.vm ∧ U.heap = h) (fun _ _ _ _ _ => True)
    (fun _ U o U' => ∃ v Lc, o = .returned v ∧ (Fr ω.2.1 Lc ∧ Q v U'.heap) ∧ FrameEnd U o U' Lc κ.2.2.2.2.2.cells κ.2.2.2.2.2.slots)
theorem oC_of {Z : State} {ω : OW} {y : MethodName} {κ : OM} {ws : List Jvm.Cond} {as : Array Value} {h : Heap} {Q : Option Value → Heap → Prop} {L : Array Slot} (hw : ∀ d ∈ tables_1, d.before ω.2.2 Z = true) (hn0 : ω.2.1 ≤ h.size)
    (hpn : plainFor y = true) (hcl : κ.2.2.1 = y.cls) (hnm : κ.2.2.2.1 = y.name) (hef : ∀ m, entryFrame m as κ.2.1 = mkF m 0 L []) (body : ∀ γ T, oSt Z ω γ κ T h 0 0 → oWP ω γ κ Q T 0 L []) : oC Z ω y κ ws as h Q := by
  refine MetFree.of_bodySF hpn hisR ?_
  intro p e s m args below meth c s₁ Bd hml0 hP hK
  obtain ⟨rfl, hZ, hh⟩ := hP
  have hown : s.vm.findClass y.cls = some m.cls := findClass_of_methodNamed Bd.named
  have hnm' := (name_of_methodNamed Bd.named Bd.method).1
  have X0 := Stand.of_body Bd
  have e0 : s₁.heap = h := by rw [← hh, Bd.state]; rfl
  have hlk : meth.locks = false := BodyLoose.notSynchronized Bd
  obtain ⟨s₂, o, h1, h2, h3, h4⟩ := body (p, e, s, m, args, below, meth, c) s₁ ⟨Bd.exec, Bd.bytes, hml0, by rw [hcl]; exact hown, by rw [hnm]; exact hnm', Bd.returns, hlk, hZ, hw, by rw [hh]; exact hn0, e0, [], X0, Fr.nil _⟩
  exact ⟨s₂, o, castTop (hef m) h1, h2, h3, h4⟩
section Walk
variable {Z : State} {ω : OW} {γ : OG} {κ : OM} {Q : Option Value → Heap → Prop} {T : State} {h : Heap} {cs ss : Nat} {pc : Nat} {L : Array Slot} {S : List Value}
theorem oSt_n0 (X : oSt Z ω γ κ T h cs ss) : ω.2.1 ≤ h.size := by
  obtain ⟨-, -, -, -, -, -, -, -, -, hn0, hT, locs, Y, -⟩ := X
  have q : γ.2.2.1.heap.size ≤ T.heap.size := Y.same.2.1
  rw [hT] at q
  exact Nat.le_trans hn0 q
theorem oSt_w (X : oSt Z ω γ κ T h cs ss) : ∀ d ∈ tables_1, d.before ω.2.2 Z = true := by
  obtain ⟨-, -, -, -, -, -, -, -, hw, -⟩ := X; exact hw
theorem oSt_at (X : oSt Z ω γ κ T h cs ss) (i : Nat) {d : Jvm.Cond} (hi : tables_1[i]? = some d) : d.before ω.2.2 Z = true := oSt_w X _ (List.mem_of_getElem? hi)
theorem ow_iload (X : oSt Z ω γ κ T h cs ss) (pc' : Nat) {k : Nat} {v : Int32} (hd : decode κ.1 pc = .ok (.iload k, 2)) (hp : pc + 2 = pc') (hl : L[k]? = some (.val (.int v)))
    (K : oWP ω γ κ Q T pc' L (.int v :: S)) : oWP ω γ κ Q T pc L (S) := by
  obtain ⟨hx, hby, -, -, -, -, -, -, -, -, -, locs, Y, -⟩ := X
  subst hp
  obtain ⟨s₂, o, hs, r⟩ := K
  exact ⟨s₂, o, XS.iload Y.here hx rfl (hb hby hd) hl hs, r⟩
theorem ow_iloadN (X : oSt Z ω γ κ T h cs ss) (pc' : Nat) {k : Fin 4} {v : Int32} (hd : decode κ.1 pc = .ok (.iload_n k, 1)) (hp : pc + 1 = pc') (hl : L[k.val]? = some (.val (.int v)))
    (K : oWP ω γ κ Q T pc' L (.int v :: S)) : oWP ω γ κ Q T pc L (S) := by
  obtain ⟨hx, hby, -, -, -, -, -, -, -, -, -, locs, Y, -⟩ := X
  subst hp
  obtain ⟨s₂, o, hs, r⟩ := K
  exact ⟨s₂, o, XS.iloadN Y.here hx rfl (hb hby hd) hl hs, r⟩
theorem ow_istore (X : oSt Z ω γ κ T h cs ss) (pc' : Nat) {k : Nat} {v : Int32} {L' : Array Slot} (hd : decode κ.1 pc = .ok (.istore k, 2)) (hp : pc + 2 = pc') (hl : storeLocals L k (.int v) = some L')
    (K : oWP ω γ κ Q T pc' L' (S)) : oWP ω γ κ Q T pc L (.int v :: S) := by
  obtain ⟨hx, hby, -, -, -, -, -, -, -, -, -, locs, Y, -⟩ := X
  subst hp
  obtain ⟨s₂, o, hs, r⟩ := K
  exact ⟨s₂, o, XS.istore Y.here hx rfl (hb hby hd) rfl hl hs, r⟩
theorem ow_istoreN (X : oSt Z ω γ κ T h cs ss) (pc' : Nat) {k : Fin 4} {v : Int32} {L' : Array Slot} (hd : decode κ.1 pc = .ok (.istore_n k, 1)) (hp : pc + 1 = pc') (hl : storeLocals L k.val (.int v) = some L')
    (K : oWP ω γ κ Q T pc' L' (S)) : oWP ω γ κ Q T pc L (.int v :: S) := by
  obtain ⟨hx, hby, -, -, -, -, -, -, -, -, -, locs, Y, -⟩ := X
  subst hp
  obtain ⟨s₂, o, hs, r⟩ := K
  exact ⟨s₂, o, XS.istoreN Y.here hx rfl (hb hby hd) rfl hl hs, r⟩
theorem ow_lload (X : oSt Z ω γ κ T h cs ss) (pc' : Nat) {k : Nat} {v : Int64} (hd : decode κ.1 pc = .ok (.lload k, 2)) (hp : pc + 2 = pc') (hl : L[k]? = some (.val (.long v)))
    (K : oWP ω γ κ Q T pc' L (.long v :: S)) : oWP ω γ κ Q T pc L (S) := by
  obtain ⟨hx, hby, -, -, -, -, -, -, -, -, -, locs, Y, -⟩ := X
  subst hp
  obtain ⟨s₂, o, hs, r⟩ := K
  exact ⟨s₂, o, XS.lload Y.here hx rfl (hb hby hd) hl hs, r⟩
theorem ow_lloadN (X : oSt Z ω γ κ T h cs ss) (pc' : Nat) {k : Fin 4} {v : Int64} (hd : decode κ.1 pc = .ok (.lload_n k, 1)) (hp : pc + 1 = pc') (hl : L[k.val]? = some (.val (.long v)))
    (K : oWP ω γ κ Q T pc' L (.long v :: S)) : oWP ω γ κ Q T pc L (S) := by
  obtain ⟨hx, hby, -, -, -, -, -, -, -, -, -, locs, Y, -⟩ := X
  subst hp
  obtain ⟨s₂, o, hs, r⟩ := K
  exact ⟨s₂, o, XS.lloadN Y.here hx rfl (hb hby hd) hl hs, r⟩
theorem ow_lstore (X : oSt Z ω γ κ T h cs ss) (pc' : Nat) {k : Nat} {v : Int64} {L' : Array Slot} (hd : decode κ.1 pc = .ok (.lstore k, 2)) (hp : pc + 2 = pc') (hl : storeLocals L k (.long v) = some L')
    (K : oWP ω γ κ Q T pc' L' (S)) : oWP ω γ κ Q T pc L (.long v :: S) := by
  obtain ⟨hx, hby, -, -, -, -, -, -, -, -, -, locs, Y, -⟩ := X
  subst hp
  obtain ⟨s₂, o, hs, r⟩ := K
  exact ⟨s₂, o, XS.lstore Y.here hx rfl (hb hby hd) rfl hl hs, r⟩
theorem ow_lstoreN (X : oSt Z ω γ κ T h cs ss) (pc' : Nat) {k : Fin 4} {v : Int64} {L' : Array Slot} (hd : decode κ.1 pc = .ok (.lstore_n k, 1)) (hp : pc + 1 = pc') (hl : storeLocals L k.val (.long v) = some L')
    (K : oWP ω γ κ Q T pc' L' (S)) : oWP ω γ κ Q T pc L (.long v :: S) := by
  obtain ⟨hx, hby, -, -, -, -, -, -, -, -, -, locs, Y, -⟩ := X
  subst hp
  obtain ⟨s₂, o, hs, r⟩ := K
  exact ⟨s₂, o, XS.lstoreN Y.here hx rfl (hb hby hd) rfl hl hs, r⟩
theorem ow_aload (X : oSt Z ω γ κ T h cs ss) (pc' : Nat) {k : Nat} {v : Value} (hd : decode κ.1 pc = .ok (.aload k, 2)) (hp : pc + 2 = pc') (hl : L[k]? = some (.val v)) (hv : v.isRef = true)
    (K : oWP ω γ κ Q T pc' L (v :: S)) : oWP ω γ κ Q T pc L (S) := by
  obtain ⟨hx, hby, -, -, -, -, -, -, -, -, -, locs, Y, -⟩ := X
  subst hp
  obtain ⟨s₂, o, hs, r⟩ := K
  exact ⟨s₂, o, XS.aload Y.here hx rfl (hb hby hd) hl hv hs, r⟩
theorem ow_aloadN (X : oSt Z ω γ κ T h cs ss) (pc' : Nat) {k : Fin 4} {v : Value} (hd : decode κ.1 pc = .ok (.aload_n k, 1)) (hp : pc + 1 = pc') (hl : L[k.val]? = some (.val v)) (hv : v.isRef = true)
    (K : oWP ω γ κ Q T pc' L (v :: S)) : oWP ω γ κ Q T pc L (S) := by
  obtain ⟨hx, hby, -, -, -, -, -, -, -, -, -, locs, Y, -⟩ := X
  subst hp
  obtain ⟨s₂, o, hs, r⟩ := K
  exact ⟨s₂, o, XS.aloadN Y.here hx rfl (hb hby hd) hl hv hs, r⟩
theorem ow_astore (X : oSt Z ω γ κ T h cs ss) (pc' : Nat) {k : Nat} {v : Value} {L' : Array Slot} (hd : decode κ.1 pc = .ok (.astore k, 2)) (hp : pc + 2 = pc') (hv : v.isRef = true) (hl : storeLocals L k v = some L')
    (K : oWP ω γ κ Q T pc' L' (S)) : oWP ω γ κ Q T pc L (v :: S) := by
  obtain ⟨hx, hby, -, -, -, -, -, -, -, -, -, locs, Y, -⟩ := X
  subst hp
  obtain ⟨s₂, o, hs, r⟩ := K
  exact ⟨s₂, o, XS.astore Y.here hx rfl (hb hby hd) rfl hv hl hs, r⟩
theorem ow_astoreN (X : oSt Z ω γ κ T h cs ss) (pc' : Nat) {k : Fin 4} {v : Value} {L' : Array Slot} (hd : decode κ.1 pc = .ok (.astore_n k, 1)) (hp : pc + 1 = pc') (hv : v.isRef = true) (hl : storeLocals L k.val v = some L')
    (K : oWP ω γ κ Q T pc' L' (S)) : oWP ω γ κ Q T pc L (v :: S) := by
  obtain ⟨hx, hby, -, -, -, -, -, -, -, -, -, locs, Y, -⟩ := X
  subst hp
  obtain ⟨s₂, o, hs, r⟩ := K
  exact ⟨s₂, o, XS.astoreN Y.here hx rfl (hb hby hd) rfl hv hl hs, r⟩
theorem ow_iconst (X : oSt Z ω γ κ T h cs ss) (pc' : Nat) {i : Int} (v : Int32) (hd : decode κ.1 pc = .ok (.iconst i, 1)) (hp : pc + 1 = pc') (hv : Int32.ofInt i = v)
    (K : oWP ω γ κ Q T pc' L (.int v :: S)) : oWP ω γ κ Q T pc L (S) := by
  obtain ⟨hx, hby, -, -, -, -, -, -, -, -, -, locs, Y, -⟩ := X
  subst hp
  obtain ⟨s₂, o, hs, r⟩ := K
  subst hv; exact ⟨s₂, o, XS.iconst Y.here hx rfl (hb hby hd) hs, r⟩
theorem ow_bipush (X : oSt Z ω γ κ T h cs ss) (pc' : Nat) {i : Int} (v : Int32) (hd : decode κ.1 pc = .ok (.bipush i, 2)) (hp : pc + 2 = pc') (hv : (Int8.ofInt i).toInt32 = v)
    (K : oWP ω γ κ Q T pc' L (.int v :: S)) : oWP ω γ κ Q T pc L (S) := by
  obtain ⟨hx, hby, -, -, -, -, -, -, -, -, -, locs, Y, -⟩ := X
  subst hp
  obtain ⟨s₂, o, hs, r⟩ := K
  subst hv; exact ⟨s₂, o, XS.bipush Y.here hx rfl (hb hby hd) hs, r⟩
theorem ow_sipush (X : oSt Z ω γ κ T h cs ss) (pc' : Nat) {i : Int} (v : Int32) (hd : decode κ.1 pc = .ok (.sipush i, 3)) (hp : pc + 3 = pc') (hv : (Int16.ofInt i).toInt32 = v)
    (K : oWP ω γ κ Q T pc' L (.int v :: S)) : oWP ω γ κ Q T pc L (S) := by
  obtain ⟨hx, hby, -, -, -, -, -, -, -, -, -, locs, Y, -⟩ := X
  subst hp
  obtain ⟨s₂, o, hs, r⟩ := K
  subst hv; exact ⟨s₂, o, XS.sipush Y.here hx rfl (hb hby hd) hs, r⟩
theorem ow_lconst (X : oSt Z ω γ κ T h cs ss) (pc' : Nat) {k : Fin 2} (v : Int64) (hd : decode κ.1 pc = .ok (.lconst k, 1)) (hp : pc + 1 = pc') (hv : Int64.ofNat k = v)
    (K : oWP ω γ κ Q T pc' L (.long v :: S)) : oWP ω γ κ Q T pc L (S) := by
  obtain ⟨hx, hby, -, -, -, -, -, -, -, -, -, locs, Y, -⟩ := X
  subst hp
  obtain ⟨s₂, o, hs, r⟩ := K
  subst hv; exact ⟨s₂, o, XS.lconst Y.here hx rfl (hb hby hd) hs, r⟩
theorem ow_anull (X : oSt Z ω γ κ T h cs ss) (pc' : Nat)  (hd : decode κ.1 pc = .ok (.aconst_null, 1)) (hp : pc + 1 = pc') 
    (K : oWP ω γ κ Q T pc' L (.null :: S)) : oWP ω γ κ Q T pc L (S) := by
  obtain ⟨hx, hby, -, -, -, -, -, -, -, -, -, locs, Y, -⟩ := X
  subst hp
  obtain ⟨s₂, o, hs, r⟩ := K
  exact ⟨s₂, o, XS.aconstNull Y.here hx rfl (hb hby hd) hs, r⟩
theorem ow_iinc (X : oSt Z ω γ κ T h cs ss) (pc' : Nat) {k : Nat} {i : Int} {x : Int32} {L' : Array Slot} (v : Int32) (hd : decode κ.1 pc = .ok (.iinc k i, 3)) (hp : pc + 3 = pc') (hv : Int32.ofInt i = v) (hl : L[k]? = some (.val (.int x))) (hl' : storeLocals L k (.int (x + v)) = some L')
    (K : oWP ω γ κ Q T pc' L' (S)) : oWP ω γ κ Q T pc L (S) := by
  obtain ⟨hx, hby, -, -, -, -, -, -, -, -, -, locs, Y, -⟩ := X
  subst hp
  obtain ⟨s₂, o, hs, r⟩ := K
  subst hv; exact ⟨s₂, o, XS.iinc Y.here hx rfl (hb hby hd) hl hl' hs, r⟩
theorem ow_iadd (X : oSt Z ω γ κ T h cs ss) (pc' : Nat) {x y : Int32} (hd : decode κ.1 pc = .ok (.iadd, 1)) (hp : pc + 1 = pc') 
    (K : oWP ω γ κ Q T pc' L (.int (x + y) :: S)) : oWP ω γ κ Q T pc L (.int y :: .int x :: S) := by
  obtain ⟨hx, hby, -, -, -, -, -, -, -, -, -, locs, Y, -⟩ := X
  subst hp
  obtain ⟨s₂, o, hs, r⟩ := K
  exact ⟨s₂, o, XS.iadd Y.here hx rfl (hb hby hd) rfl hs, r⟩
theorem ow_isub (X : oSt Z ω γ κ T h cs ss) (pc' : Nat) {x y : Int32} (hd : decode κ.1 pc = .ok (.isub, 1)) (hp : pc + 1 = pc') 
    (K : oWP ω γ κ Q T pc' L (.int (x - y) :: S)) : oWP ω γ κ Q T pc L (.int y :: .int x :: S) := by
  obtain ⟨hx, hby, -, -, -, -, -, -, -, -, -, locs, Y, -⟩ := X
  subst hp
  obtain ⟨s₂, o, hs, r⟩ := K
  exact ⟨s₂, o, XS.isub Y.here hx rfl (hb hby hd) rfl hs, r⟩
theorem ow_imul (X : oSt Z ω γ κ T h cs ss) (pc' : Nat) {x y : Int32} (hd : decode κ.1 pc = .ok (.imul, 1)) (hp : pc + 1 = pc') 
    (K : oWP ω γ κ Q T pc' L (.int (x * y) :: S)) : oWP ω γ κ Q T pc L (.int y :: .int x :: S) := by
  obtain ⟨hx, hby, -, -, -, -, -, -, -, -, -, locs, Y, -⟩ := X
  subst hp
  obtain ⟨s₂, o, hs, r⟩ := K
  exact ⟨s₂, o, XS.imul Y.here hx rfl (hb hby hd) rfl hs, r⟩
theorem ow_iand (X : oSt Z ω γ κ T h cs ss) (pc' : Nat) {x y : Int32} (hd : decode κ.1 pc = .ok (.iand, 1)) (hp : pc + 1 = pc') 
    (K : oWP ω γ κ Q T pc' L (.int (x &&& y) :: S)) : oWP ω γ κ Q T pc L (.int y :: .int x :: S) := by
  obtain ⟨hx, hby, -, -, -, -, -, -, -, -, -, locs, Y, -⟩ := X
  subst hp
  obtain ⟨s₂, o, hs, r⟩ := K
  exact ⟨s₂, o, XS.iand Y.here hx rfl (hb hby hd) rfl hs, r⟩
theorem ow_ior (X : oSt Z ω γ κ T h cs ss) (pc' : Nat) {x y : Int32} (hd : decode κ.1 pc = .ok (.ior, 1)) (hp : pc + 1 = pc') 
    (K : oWP ω γ κ Q T pc' L (.int (x ||| y) :: S)) : oWP ω γ κ Q T pc L (.int y :: .int x :: S) := by
  obtain ⟨hx, hby, -, -, -, -, -, -, -, -, -, locs, Y, -⟩ := X
  subst hp
  obtain ⟨s₂, o, hs, r⟩ := K
  exact ⟨s₂, o, XS.ior Y.here hx rfl (hb hby hd) rfl hs, r⟩
theorem ow_ixor (X : oSt Z ω γ κ T h cs ss) (pc' : Nat) {x y : Int32} (hd : decode κ.1 pc = .ok (.ixor, 1)) (hp : pc + 1 = pc') 
    (K : oWP ω γ κ Q T pc' L (.int (x ^^^ y) :: S)) : oWP ω γ κ Q T pc L (.int y :: .int x :: S) := by
  obtain ⟨hx, hby, -, -, -, -, -, -, -, -, -, locs, Y, -⟩ := X
  subst hp
  obtain ⟨s₂, o, hs, r⟩ := K
  exact ⟨s₂, o, XS.ixor Y.here hx rfl (hb hby hd) rfl hs, r⟩
theorem ow_ishl (X : oSt Z ω γ κ T h cs ss) (pc' : Nat) {x y : Int32} (hd : decode κ.1 pc = .ok (.ishl, 1)) (hp : pc + 1 = pc') 
    (K : oWP ω γ κ Q T pc' L (.int (x <<< (y &&& 31)) :: S)) : oWP ω γ κ Q T pc L (.int y :: .int x :: S) := by
  obtain ⟨hx, hby, -, -, -, -, -, -, -, -, -, locs, Y, -⟩ := X
  subst hp
  obtain ⟨s₂, o, hs, r⟩ := K
  exact ⟨s₂, o, XS.ishl Y.here hx rfl (hb hby hd) rfl hs, r⟩
theorem ow_ishr (X : oSt Z ω γ κ T h cs ss) (pc' : Nat) {x y : Int32} (hd : decode κ.1 pc = .ok (.ishr, 1)) (hp : pc + 1 = pc') 
    (K : oWP ω γ κ Q T pc' L (.int (x >>> (y &&& 31)) :: S)) : oWP ω γ κ Q T pc L (.int y :: .int x :: S) := by
  obtain ⟨hx, hby, -, -, -, -, -, -, -, -, -, locs, Y, -⟩ := X
  subst hp
  obtain ⟨s₂, o, hs, r⟩ := K
  exact ⟨s₂, o, XS.ishr Y.here hx rfl (hb hby hd) rfl hs, r⟩
theorem ow_iushr (X : oSt Z ω γ κ T h cs ss) (pc' : Nat) {x y : Int32} (hd : decode κ.1 pc = .ok (.iushr, 1)) (hp : pc + 1 = pc') 
    (K : oWP ω γ κ Q T pc' L (.int ((x.toUInt32 >>> (y &&& 31).toUInt32).toInt32) :: S)) : oWP ω γ κ Q T pc L (.int y :: .int x :: S) := by
  obtain ⟨hx, hby, -, -, -, -, -, -, -, -, -, locs, Y, -⟩ := X
  subst hp
  obtain ⟨s₂, o, hs, r⟩ := K
  exact ⟨s₂, o, XS.iushr Y.here hx rfl (hb hby hd) rfl hs, r⟩
theorem ow_ineg (X : oSt Z ω γ κ T h cs ss) (pc' : Nat) {x : Int32} (hd : decode κ.1 pc = .ok (.ineg, 1)) (hp : pc + 1 = pc') 
    (K : oWP ω γ κ Q T pc' L (.int (-x) :: S)) : oWP ω γ κ Q T pc L (.int x :: S) := by
  obtain ⟨hx, hby, -, -, -, -, -, -, -, -, -, locs, Y, -⟩ := X
  subst hp
  obtain ⟨s₂, o, hs, r⟩ := K
  exact ⟨s₂, o, XS.ineg Y.here hx rfl (hb hby hd) rfl hs, r⟩
theorem ow_idiv (X : oSt Z ω γ κ T h cs ss) (pc' : Nat) {x y : Int32} (hd : decode κ.1 pc = .ok (.idiv, 1)) (hp : pc + 1 = pc') (hy : y ≠ 0)
    (K : oWP ω γ κ Q T pc' L (.int (x / y) :: S)) : oWP ω γ κ Q T pc L (.int y :: .int x :: S) := by
  obtain ⟨hx, hby, -, -, -, -, -, -, -, -, -, locs, Y, -⟩ := X
  subst hp
  obtain ⟨s₂, o, hs, r⟩ := K
  exact ⟨s₂, o, XS.idiv Y.here hx rfl (hb hby hd) rfl hy hs, r⟩
theorem ow_irem (X : oSt Z ω γ κ T h cs ss) (pc' : Nat) {x y : Int32} (hd : decode κ.1 pc = .ok (.irem, 1)) (hp : pc + 1 = pc') (hy : y ≠ 0)
    (K : oWP ω γ κ Q T pc' L (.int (x % y) :: S)) : oWP ω γ κ Q T pc L (.int y :: .int x :: S) := by
  obtain ⟨hx, hby, -, -, -, -, -, -, -, -, -, locs, Y, -⟩ := X
  subst hp
  obtain ⟨s₂, o, hs, r⟩ := K
  exact ⟨s₂, o, iremM Y hx rfl (hb hby hd) rfl hy hs, r⟩
theorem ow_ladd (X : oSt Z ω γ κ T h cs ss) (pc' : Nat) {x y : Int64} (hd : decode κ.1 pc = .ok (.ladd, 1)) (hp : pc + 1 = pc') 
    (K : oWP ω γ κ Q T pc' L (.long (x + y) :: S)) : oWP ω γ κ Q T pc L (.long y :: .long x :: S) := by
  obtain ⟨hx, hby, -, -, -, -, -, -, -, -, -, locs, Y, -⟩ := X
  subst hp
  obtain ⟨s₂, o, hs, r⟩ := K
  exact ⟨s₂, o, XS.ladd Y.here hx rfl (hb hby hd) rfl hs, r⟩
theorem ow_lsub (X : oSt Z ω γ κ T h cs ss) (pc' : Nat) {x y : Int64} (hd : decode κ.1 pc = .ok (.lsub, 1)) (hp : pc + 1 = pc') 
    (K : oWP ω γ κ Q T pc' L (.long (x - y) :: S)) : oWP ω γ κ Q T pc L (.long y :: .long x :: S) := by
  obtain ⟨hx, hby, -, -, -, -, -, -, -, -, -, locs, Y, -⟩ := X
  subst hp
  obtain ⟨s₂, o, hs, r⟩ := K
  exact ⟨s₂, o, XS.lsub Y.here hx rfl (hb hby hd) rfl hs, r⟩
theorem ow_lmul (X : oSt Z ω γ κ T h cs ss) (pc' : Nat) {x y : Int64} (hd : decode κ.1 pc = .ok (.lmul, 1)) (hp : pc + 1 = pc') 
    (K : oWP ω γ κ Q T pc' L (.long (x * y) :: S)) : oWP ω γ κ Q T pc L (.long y :: .long x :: S) := by
  obtain ⟨hx, hby, -, -, -, -, -, -, -, -, -, locs, Y, -⟩ := X
  subst hp
  obtain ⟨s₂, o, hs, r⟩ := K
  exact ⟨s₂, o, XS.lmul Y.here hx rfl (hb hby hd) rfl hs, r⟩
theorem ow_land (X : oSt Z ω γ κ T h cs ss) (pc' : Nat) {x y : Int64} (hd : decode κ.1 pc = .ok (.land, 1)) (hp : pc + 1 = pc') 
    (K : oWP ω γ κ Q T pc' L (.long (x &&& y) :: S)) : oWP ω γ κ Q T pc L (.long y :: .long x :: S) := by
  obtain ⟨hx, hby, -, -, -, -, -, -, -, -, -, locs, Y, -⟩ := X
  subst hp
  obtain ⟨s₂, o, hs, r⟩ := K
  exact ⟨s₂, o, XS.land Y.here hx rfl (hb hby hd) rfl hs, r⟩
theorem ow_lor (X : oSt Z ω γ κ T h cs ss) (pc' : Nat) {x y : Int64} (hd : decode κ.1 pc = .ok (.lor, 1)) (hp : pc + 1 = pc') 
    (K : oWP ω γ κ Q T pc' L (.long (x ||| y) :: S)) : oWP ω γ κ Q T pc L (.long y :: .long x :: S) := by
  obtain ⟨hx, hby, -, -, -, -, -, -, -, -, -, locs, Y, -⟩ := X
  subst hp
  obtain ⟨s₂, o, hs, r⟩ := K
  exact ⟨s₂, o, XS.lor Y.here hx rfl (hb hby hd) rfl hs, r⟩
theorem ow_lxor (X : oSt Z ω γ κ T h cs ss) (pc' : Nat) {x y : Int64} (hd : decode κ.1 pc = .ok (.lxor, 1)) (hp : pc + 1 = pc') 
    (K : oWP ω γ κ Q T pc' L (.long (x ^^^ y) :: S)) : oWP ω γ κ Q T pc L (.long y :: .long x :: S) := by
  obtain ⟨hx, hby, -, -, -, -, -, -, -, -, -, locs, Y, -⟩ := X
  subst hp
  obtain ⟨s₂, o, hs, r⟩ := K
  exact ⟨s₂, o, XS.lxor Y.here hx rfl (hb hby hd) rfl hs, r⟩
theorem ow_lshl (X : oSt Z ω γ κ T h cs ss) (pc' : Nat) {x : Int64} {y : Int32} (hd : decode κ.1 pc = .ok (.lshl, 1)) (hp : pc + 1 = pc') 
    (K : oWP ω γ κ Q T pc' L (.long (x <<< (y &&& 0x3f).toInt64) :: S)) : oWP ω γ κ Q T pc L (.int y :: .long x :: S) := by
  obtain ⟨hx, hby, -, -, -, -, -, -, -, -, -, locs, Y, -⟩ := X
  subst hp
  obtain ⟨s₂, o, hs, r⟩ := K
  exact ⟨s₂, o, XS.lshl Y.here hx rfl (hb hby hd) rfl hs, r⟩
theorem ow_lshr (X : oSt Z ω γ κ T h cs ss) (pc' : Nat) {x : Int64} {y : Int32} (hd : decode κ.1 pc = .ok (.lshr, 1)) (hp : pc + 1 = pc') 
    (K : oWP ω γ κ Q T pc' L (.long (x >>> (y &&& 0x3f).toInt64) :: S)) : oWP ω γ κ Q T pc L (.int y :: .long x :: S) := by
  obtain ⟨hx, hby, -, -, -, -, -, -, -, -, -, locs, Y, -⟩ := X
  subst hp
  obtain ⟨s₂, o, hs, r⟩ := K
  exact ⟨s₂, o, XS.lshr Y.here hx rfl (hb hby hd) rfl hs, r⟩
theorem ow_lushr (X : oSt Z ω γ κ T h cs ss) (pc' : Nat) {x : Int64} {y : Int32} (hd : decode κ.1 pc = .ok (.lushr, 1)) (hp : pc + 1 = pc') 
    (K : oWP ω γ κ Q T pc' L (.long ((x.toUInt64 >>> (y &&& 0x3f).toInt64.toUInt64).toInt64) :: S)) : oWP ω γ κ Q T pc L (.int y :: .long x :: S) := by
  obtain ⟨hx, hby, -, -, -, -, -, -, -, -, -, locs, Y, -⟩ := X
  subst hp
  obtain ⟨s₂, o, hs, r⟩ := K
  exact ⟨s₂, o, XS.lushr Y.here hx rfl (hb hby hd) rfl hs, r⟩
theorem ow_ldiv (X : oSt Z ω γ κ T h cs ss) (pc' : Nat) {x y : Int64} (hd : decode κ.1 pc = .ok (.ldiv, 1)) (hp : pc + 1 = pc') (hy : y ≠ 0)
    (K : oWP ω γ κ Q T pc' L (.long (x / y) :: S)) : oWP ω γ κ Q T pc L (.long y :: .long x :: S) := by
  obtain ⟨hx, hby, -, -, -, -, -, -, -, -, -, locs, Y, -⟩ := X
  subst hp
  obtain ⟨s₂, o, hs, r⟩ := K
  exact ⟨s₂, o, XS.ldiv Y.here hx rfl (hb hby hd) rfl hy hs, r⟩
theorem ow_lrem (X : oSt Z ω γ κ T h cs ss) (pc' : Nat) {x y : Int64} (hd : decode κ.1 pc = .ok (.lrem, 1)) (hp : pc + 1 = pc') (hy : y ≠ 0)
    (K : oWP ω γ κ Q T pc' L (.long (x % y) :: S)) : oWP ω γ κ Q T pc L (.long y :: .long x :: S) := by
  obtain ⟨hx, hby, -, -, -, -, -, -, -, -, -, locs, Y, -⟩ := X
  subst hp
  obtain ⟨s₂, o, hs, r⟩ := K
  rw [← lrem_mod] at hs; exact ⟨s₂, o, XS.lrem Y.here hx rfl (hb hby hd) rfl hy hs, r⟩
theorem ow_i2l (X : oSt Z ω γ κ T h cs ss) (pc' : Nat) {x : Int32} (hd : decode κ.1 pc = .ok (.i2l, 1)) (hp : pc + 1 = pc') 
    (K : oWP ω γ κ Q T pc' L (.long x.toInt64 :: S)) : oWP ω γ κ Q T pc L (.int x :: S) := by
  obtain ⟨hx, hby, -, -, -, -, -, -, -, -, -, locs, Y, -⟩ := X
  subst hp
  obtain ⟨s₂, o, hs, r⟩ := K
  exact ⟨s₂, o, XS.i2l Y.here hx rfl (hb hby hd) rfl hs, r⟩
theorem ow_l2i (X : oSt Z ω γ κ T h cs ss) (pc' : Nat) {x : Int64} (hd : decode κ.1 pc = .ok (.l2i, 1)) (hp : pc + 1 = pc') 
    (K : oWP ω γ κ Q T pc' L (.int x.toInt32 :: S)) : oWP ω γ κ Q T pc L (.long x :: S) := by
  obtain ⟨hx, hby, -, -, -, -, -, -, -, -, -, locs, Y, -⟩ := X
  subst hp
  obtain ⟨s₂, o, hs, r⟩ := K
  exact ⟨s₂, o, XS.l2i Y.here hx rfl (hb hby hd) rfl hs, r⟩
theorem ow_i2b (X : oSt Z ω γ κ T h cs ss) (pc' : Nat) {x : Int32} (hd : decode κ.1 pc = .ok (.i2b, 1)) (hp : pc + 1 = pc') 
    (K : oWP ω γ κ Q T pc' L (.int x.toInt8.toInt32 :: S)) : oWP ω γ κ Q T pc L (.int x :: S) := by
  obtain ⟨hx, hby, -, -, -, -, -, -, -, -, -, locs, Y, -⟩ := X
  subst hp
  obtain ⟨s₂, o, hs, r⟩ := K
  exact ⟨s₂, o, XS.i2b Y.here hx rfl (hb hby hd) rfl hs, r⟩
theorem ow_i2c (X : oSt Z ω γ κ T h cs ss) (pc' : Nat) {x : Int32} (hd : decode κ.1 pc = .ok (.i2c, 1)) (hp : pc + 1 = pc') 
    (K : oWP ω γ κ Q T pc' L (.int x.toUInt32.toUInt16.toUInt32.toInt32 :: S)) : oWP ω γ κ Q T pc L (.int x :: S) := by
  obtain ⟨hx, hby, -, -, -, -, -, -, -, -, -, locs, Y, -⟩ := X
  subst hp
  obtain ⟨s₂, o, hs, r⟩ := K
  exact ⟨s₂, o, XS.i2c Y.here hx rfl (hb hby hd) rfl hs, r⟩
theorem ow_i2s (X : oSt Z ω γ κ T h cs ss) (pc' : Nat) {x : Int32} (hd : decode κ.1 pc = .ok (.i2s, 1)) (hp : pc + 1 = pc') 
    (K : oWP ω γ κ Q T pc' L (.int x.toInt16.toInt32 :: S)) : oWP ω γ κ Q T pc L (.int x :: S) := by
  obtain ⟨hx, hby, -, -, -, -, -, -, -, -, -, locs, Y, -⟩ := X
  subst hp
  obtain ⟨s₂, o, hs, r⟩ := K
  exact ⟨s₂, o, XS.i2s Y.here hx rfl (hb hby hd) rfl hs, r⟩
theorem ow_dup (X : oSt Z ω γ κ T h cs ss) (pc' : Nat) {x : Value} (hd : decode κ.1 pc = .ok (.dup, 1)) (hp : pc + 1 = pc') (hc : x.category = 1)
    (K : oWP ω γ κ Q T pc' L (x :: x :: S)) : oWP ω γ κ Q T pc L (x :: S) := by
  obtain ⟨hx, hby, -, -, -, -, -, -, -, -, -, locs, Y, -⟩ := X
  subst hp
  obtain ⟨s₂, o, hs, r⟩ := K
  exact ⟨s₂, o, XS.dup Y.here hx rfl (hb hby hd) rfl hc hs, r⟩
theorem ow_pop (X : oSt Z ω γ κ T h cs ss) (pc' : Nat) {x : Value} (hd : decode κ.1 pc = .ok (.pop, 1)) (hp : pc + 1 = pc') (hc : x.category = 1)
    (K : oWP ω γ κ Q T pc' L (S)) : oWP ω γ κ Q T pc L (x :: S) := by
  obtain ⟨hx, hby, -, -, -, -, -, -, -, -, -, locs, Y, -⟩ := X
  subst hp
  obtain ⟨s₂, o, hs, r⟩ := K
  exact ⟨s₂, o, XS.pop Y.here hx rfl (hb hby hd) rfl hc hs, r⟩
theorem ow_dupX1 (X : oSt Z ω γ κ T h cs ss) (pc' : Nat) {x y : Value} (hd : decode κ.1 pc = .ok (.dup_x1, 1)) (hp : pc + 1 = pc') (hc : x.category = 1) (hc' : y.category = 1)
    (K : oWP ω γ κ Q T pc' L (x :: y :: x :: S)) : oWP ω γ κ Q T pc L (x :: y :: S) := by
  obtain ⟨hx, hby, -, -, -, -, -, -, -, -, -, locs, Y, -⟩ := X
  subst hp
  obtain ⟨s₂, o, hs, r⟩ := K
  exact ⟨s₂, o, XS.dupX1 Y.here hx rfl (hb hby hd) rfl hc hc' hs, r⟩
theorem ow_dup2 (X : oSt Z ω γ κ T h cs ss) (pc' : Nat) {x y : Value} (hd : decode κ.1 pc = .ok (.dup2, 1)) (hp : pc + 1 = pc') (hc : x.category = 1) (hc' : y.category = 1)
    (K : oWP ω γ κ Q T pc' L (x :: y :: x :: y :: S)) : oWP ω γ κ Q T pc L (x :: y :: S) := by
  obtain ⟨hx, hby, -, -, -, -, -, -, -, -, -, locs, Y, -⟩ := X
  subst hp
  obtain ⟨s₂, o, hs, r⟩ := K
  exact ⟨s₂, o, XT.dup2 Y.here hx rfl (hb hby hd) rfl hc hc' hs, r⟩
theorem oXpop2L {tb : Tables} [Ours tb] {e : Env} {below : List Frame} {T target : State} {m : MethodId} {c : Code} {g : JFrame} (h : At T m c below) (hx : tb.exec = Jvm.exec) (hg : g.method = m) {x : Int64} {rest : List Value} (hd : decode c.code g.pc = .ok (.pop2, 1)) (hs : g.stack = .long x :: rest)
    (hr : Steps tb e below (T.setTop { g with pc := g.pc + 1, stack := rest }) target) : Steps tb e below (T.setTop g) target := by
  subst hg
  jvm_step h [h.top, hx, hd, hs, Value.category]
  exact hr
theorem ow_pop2L (X : oSt Z ω γ κ T h cs ss) (pc' : Nat) {x : Int64} (hd : decode κ.1 pc = .ok (.pop2, 1)) (hp : pc + 1 = pc') 
    (K : oWP ω γ κ Q T pc' L (S)) : oWP ω γ κ Q T pc L (.long x :: S) := by
  obtain ⟨hx, hby, -, -, -, -, -, -, -, -, -, locs, Y, -⟩ := X
  subst hp
  obtain ⟨s₂, o, hs, r⟩ := K
  exact ⟨s₂, o, oXpop2L Y.here hx rfl (hb hby hd) rfl hs, r⟩
theorem ow_ldcI (X : oSt Z ω γ κ T h cs ss) (pc' i : Nat) {own : String} {idx : Nat} {v : Int32} (hw : tables_1[i]? = some (.constant own idx v)) (ho : κ.2.2.1 = own) (hd : decode κ.1 pc = .ok (.ldc idx, 2)) (hp : pc + 2 = pc')
    (K : oWP ω γ κ Q T pc' L (.int v :: S)) : oWP ω γ κ Q T pc L S := by
  have hw' := oSt_at X i hw
  obtain ⟨hx, hby, -, hown, -, -, -, hZ, -, -, -, locs, Y, -⟩ := X
  subst hp ho
  obtain ⟨s₂, o, hs, r⟩ := K
  exact ⟨s₂, o, Stand.ldcI Y hx hown (mv hZ hw') rfl (hb hby hd) hs, r⟩
theorem ow_ldcWI (X : oSt Z ω γ κ T h cs ss) (pc' i : Nat) {own : String} {idx : Nat} {v : Int32} (hw : tables_1[i]? = some (.constant own idx v)) (ho : κ.2.2.1 = own) (hd : decode κ.1 pc = .ok (.ldc_w idx, 3)) (hp : pc + 3 = pc')
    (K : oWP ω γ κ Q T pc' L (.int v :: S)) : oWP ω γ κ Q T pc L S := by
  have hw' := oSt_at X i hw
  obtain ⟨hx, hby, -, hown, -, -, -, hZ, -, -, -, locs, Y, -⟩ := X
  subst hp ho
  obtain ⟨s₂, o, hs, r⟩ := K
  exact ⟨s₂, o, Stand.ldcWI Y hx hown (mv hZ hw') rfl (hb hby hd) hs, r⟩
theorem ow_ldc2J (X : oSt Z ω γ κ T h cs ss) (pc' i : Nat) {own : String} {idx : Nat} {v : Int64} (hw : tables_1[i]? = some (.constantLong own idx v)) (ho : κ.2.2.1 = own) (hd : decode κ.1 pc = .ok (.ldc2_w idx, 3)) (hp : pc + 3 = pc')
    (K : oWP ω γ κ Q T pc' L (.long v :: S)) : oWP ω γ κ Q T pc L S := by
  have hw' := oSt_at X i hw
  obtain ⟨hx, hby, -, hown, -, -, -, hZ, -, -, -, locs, Y, -⟩ := X
  subst hp ho
  obtain ⟨s₂, o, hs, r⟩ := K
  exact ⟨s₂, o, Stand.ldc2J Y hx hown (mv hZ hw') rfl (hb hby hd) hs, r⟩
theorem ow_goto (X : oSt Z ω γ κ T h cs ss) (pc' : Nat) {o : Int} (hd : decode κ.1 pc = .ok (.goto o, 3)) (hp : (pc : Int) + o = (pc' : Int))
    (K : oWP ω γ κ Q T pc' L S) : oWP ω γ κ Q T pc L S := by
  obtain ⟨hx, hby, -, -, -, -, -, -, -, -, -, locs, Y, -⟩ := X
  obtain ⟨s₂, o, hs, r⟩ := K
  exact ⟨s₂, o, XS.goto Y.here hx rfl (pc0 := pc) rfl (hb hby hd) (by omega) (by omega) hs, r⟩
theorem ow_if (X : oSt Z ω γ κ T h cs ss) (pc' pq : Nat) {cd : ClassFile.Cond} {x : Int32} {o : Int} (hd : decode κ.1 pc = .ok (.ifCond cd o, 3)) (hp : pc + 3 = pc') (hq : (pc : Int) + o = (pq : Int))
    (Ky : ifCond.holds cd x = true → oWP ω γ κ Q T pq L S) (Kn : ifCond.holds cd x = false → oWP ω γ κ Q T pc' L S) : oWP ω γ κ Q T pc L (.int x :: S) := by
  obtain ⟨hx, hby, -, -, -, -, -, -, -, -, -, locs, Y, -⟩ := X
  subst hp
  cases hc : ifCond.holds cd x
  · obtain ⟨s₂, o, hs, r⟩ := Kn hc
    exact ⟨s₂, o, XS.ifNo Y.here hx rfl (hb hby hd) rfl hc hs, r⟩
  · obtain ⟨s₂, o, hs, r⟩ := Ky hc
    exact ⟨s₂, o, XS.ifYes Y.here hx rfl (pc0 := pc) rfl (hb hby hd) rfl hc (by omega) (by omega) hs, r⟩
theorem ow_icmp (X : oSt Z ω γ κ T h cs ss) (pc' pq : Nat) {cd : ClassFile.Cond} {x y : Int32} {o : Int} (hd : decode κ.1 pc = .ok (.if_icmp cd o, 3)) (hp : pc + 3 = pc') (hq : (pc : Int) + o = (pq : Int))
    (Ky : if_icmp.holds cd x y = true → oWP ω γ κ Q T pq L S) (Kn : if_icmp.holds cd x y = false → oWP ω γ κ Q T pc' L S) : oWP ω γ κ Q T pc L (.int y :: .int x :: S) := by
  obtain ⟨hx, hby, -, -, -, -, -, -, -, -, -, locs, Y, -⟩ := X
  subst hp
  cases hc : if_icmp.holds cd x y
  · obtain ⟨s₂, o, hs, r⟩ := Kn hc
    exact ⟨s₂, o, XS.icmpNo Y.here hx rfl (hb hby hd) rfl hc hs, r⟩
  · obtain ⟨s₂, o, hs, r⟩ := Ky hc
    exact ⟨s₂, o, XS.icmpYes Y.here hx rfl (pc0 := pc) rfl (hb hby hd) rfl hc (by omega) (by omega) hs, r⟩
theorem o0 : (0 : Int32).toInt = 0 := rfl
theorem ow_if_eq (X : oSt Z ω γ κ T h cs ss) (pc' pq : Nat) {x : Int32} {o : Int} (hd : decode κ.1 pc = .ok (.ifCond .eq o, 3)) (hp : pc + 3 = pc') (hq : (pc : Int) + o = (pq : Int))
    (Ky : x.toInt = 0 → oWP ω γ κ Q T pq L S) (Kn : x.toInt ≠ 0 → oWP ω γ κ Q T pc' L S) : oWP ω γ κ Q T pc L (.int x :: S) :=
  ow_if X pc' pq hd hp hq (fun q => Ky (by simp only [ifCond.holds, decide_eq_true_eq, decide_eq_false_iff_not, beq_iff_eq, bne_iff_ne, ne_eq, Int32.lt_iff_toInt_lt, Int32.le_iff_toInt_le, ← Int32.toInt_inj, o0, GT.gt, GE.ge, beq_eq_false_iff_ne, bne_eq_false_iff_eq, Decidable.not_not] at q; omega)) (fun q => Kn (by simp only [ifCond.holds, decide_eq_true_eq, decide_eq_false_iff_not, beq_iff_eq, bne_iff_ne, ne_eq, Int32.lt_iff_toInt_lt, Int32.le_iff_toInt_le, ← Int32.toInt_inj, o0, GT.gt, GE.ge, beq_eq_false_iff_ne, bne_eq_false_iff_eq, Decidable.not_not] at q; omega))
theorem ow_icmp_eq (X : oSt Z ω γ κ T h cs ss) (pc' pq : Nat) {x y : Int32} {o : Int} (hd : decode κ.1 pc = .ok (.if_icmp .eq o, 3)) (hp : pc + 3 = pc') (hq : (pc : Int) + o = (pq : Int))
    (Ky : x.toInt = y.toInt → oWP ω γ κ Q T pq L S) (Kn : x.toInt ≠ y.toInt → oWP ω γ κ Q T pc' L S) : oWP ω γ κ Q T pc L (.int y :: .int x :: S) :=
  ow_icmp X pc' pq hd hp hq (fun q => Ky (by simp only [if_icmp.holds, decide_eq_true_eq, decide_eq_false_iff_not, beq_iff_eq, bne_iff_ne, ne_eq, Int32.lt_iff_toInt_lt, Int32.le_iff_toInt_le, ← Int32.toInt_inj, o0, GT.gt, GE.ge, beq_eq_false_iff_ne, bne_eq_false_iff_eq, Decidable.not_not] at q; omega)) (fun q => Kn (by simp only [if_icmp.holds, decide_eq_true_eq, decide_eq_false_iff_not, beq_iff_eq, bne_iff_ne, ne_eq, Int32.lt_iff_toInt_lt, Int32.le_iff_toInt_le, ← Int32.toInt_inj, o0, GT.gt, GE.ge, beq_eq_false_iff_ne, bne_eq_false_iff_eq, Decidable.not_not] at q; omega))
theorem ow_if_ne (X : oSt Z ω γ κ T h cs ss) (pc' pq : Nat) {x : Int32} {o : Int} (hd : decode κ.1 pc = .ok (.ifCond .ne o, 3)) (hp : pc + 3 = pc') (hq : (pc : Int) + o = (pq : Int))
    (Ky : x.toInt ≠ 0 → oWP ω γ κ Q T pq L S) (Kn : x.toInt = 0 → oWP ω γ κ Q T pc' L S) : oWP ω γ κ Q T pc L (.int x :: S) :=
  ow_if X pc' pq hd hp hq (fun q => Ky (by simp only [ifCond.holds, decide_eq_true_eq, decide_eq_false_iff_not, beq_iff_eq, bne_iff_ne, ne_eq, Int32.lt_iff_toInt_lt, Int32.le_iff_toInt_le, ← Int32.toInt_inj, o0, GT.gt, GE.ge, beq_eq_false_iff_ne, bne_eq_false_iff_eq, Decidable.not_not] at q; omega)) (fun q => Kn (by simp only [ifCond.holds, decide_eq_true_eq, decide_eq_false_iff_not, beq_iff_eq, bne_iff_ne, ne_eq, Int32.lt_iff_toInt_lt, Int32.le_iff_toInt_le, ← Int32.toInt_inj, o0, GT.gt, GE.ge, beq_eq_false_iff_ne, bne_eq_false_iff_eq, Decidable.not_not] at q; omega))
theorem ow_icmp_ne (X : oSt Z ω γ κ T h cs ss) (pc' pq : Nat) {x y : Int32} {o : Int} (hd : decode κ.1 pc = .ok (.if_icmp .ne o, 3)) (hp : pc + 3 = pc') (hq : (pc : Int) + o = (pq : Int))
    (Ky : x.toInt ≠ y.toInt → oWP ω γ κ Q T pq L S) (Kn : x.toInt = y.toInt → oWP ω γ κ Q T pc' L S) : oWP ω γ κ Q T pc L (.int y :: .int x :: S) :=
  ow_icmp X pc' pq hd hp hq (fun q => Ky (by simp only [if_icmp.holds, decide_eq_true_eq, decide_eq_false_iff_not, beq_iff_eq, bne_iff_ne, ne_eq, Int32.lt_iff_toInt_lt, Int32.le_iff_toInt_le, ← Int32.toInt_inj, o0, GT.gt, GE.ge, beq_eq_false_iff_ne, bne_eq_false_iff_eq, Decidable.not_not] at q; omega)) (fun q => Kn (by simp only [if_icmp.holds, decide_eq_true_eq, decide_eq_false_iff_not, beq_iff_eq, bne_iff_ne, ne_eq, Int32.lt_iff_toInt_lt, Int32.le_iff_toInt_le, ← Int32.toInt_inj, o0, GT.gt, GE.ge, beq_eq_false_iff_ne, bne_eq_false_iff_eq, Decidable.not_not] at q; omega))
theorem ow_if_lt (X : oSt Z ω γ κ T h cs ss) (pc' pq : Nat) {x : Int32} {o : Int} (hd : decode κ.1 pc = .ok (.ifCond .lt o, 3)) (hp : pc + 3 = pc') (hq : (pc : Int) + o = (pq : Int))
    (Ky : x.toInt < 0 → oWP ω γ κ Q T pq L S) (Kn : 0 ≤ x.toInt → oWP ω γ κ Q T pc' L S) : oWP ω γ κ Q T pc L (.int x :: S) :=
  ow_if X pc' pq hd hp hq (fun q => Ky (by simp only [ifCond.holds, decide_eq_true_eq, decide_eq_false_iff_not, beq_iff_eq, bne_iff_ne, ne_eq, Int32.lt_iff_toInt_lt, Int32.le_iff_toInt_le, ← Int32.toInt_inj, o0, GT.gt, GE.ge, beq_eq_false_iff_ne, bne_eq_false_iff_eq, Decidable.not_not] at q; omega)) (fun q => Kn (by simp only [ifCond.holds, decide_eq_true_eq, decide_eq_false_iff_not, beq_iff_eq, bne_iff_ne, ne_eq, Int32.lt_iff_toInt_lt, Int32.le_iff_toInt_le, ← Int32.toInt_inj, o0, GT.gt, GE.ge, beq_eq_false_iff_ne, bne_eq_false_iff_eq, Decidable.not_not] at q; omega))
theorem ow_icmp_lt (X : oSt Z ω γ κ T h cs ss) (pc' pq : Nat) {x y : Int32} {o : Int} (hd : decode κ.1 pc = .ok (.if_icmp .lt o, 3)) (hp : pc + 3 = pc') (hq : (pc : Int) + o = (pq : Int))
    (Ky : x.toInt < y.toInt → oWP ω γ κ Q T pq L S) (Kn : y.toInt ≤ x.toInt → oWP ω γ κ Q T pc' L S) : oWP ω γ κ Q T pc L (.int y :: .int x :: S) :=
  ow_icmp X pc' pq hd hp hq (fun q => Ky (by simp only [if_icmp.holds, decide_eq_true_eq, decide_eq_false_iff_not, beq_iff_eq, bne_iff_ne, ne_eq, Int32.lt_iff_toInt_lt, Int32.le_iff_toInt_le, ← Int32.toInt_inj, o0, GT.gt, GE.ge, beq_eq_false_iff_ne, bne_eq_false_iff_eq, Decidable.not_not] at q; omega)) (fun q => Kn (by simp only [if_icmp.holds, decide_eq_true_eq, decide_eq_false_iff_not, beq_iff_eq, bne_iff_ne, ne_eq, Int32.lt_iff_toInt_lt, Int32.le_iff_toInt_le, ← Int32.toInt_inj, o0, GT.gt, GE.ge, beq_eq_false_iff_ne, bne_eq_false_iff_eq, Decidable.not_not] at q; omega))
theorem ow_if_ge (X : oSt Z ω γ κ T h cs ss) (pc' pq : Nat) {x : Int32} {o : Int} (hd : decode κ.1 pc = .ok (.ifCond .ge o, 3)) (hp : pc + 3 = pc') (hq : (pc : Int) + o = (pq : Int))
    (Ky : 0 ≤ x.toInt → oWP ω γ κ Q T pq L S) (Kn : x.toInt < 0 → oWP ω γ κ Q T pc' L S) : oWP ω γ κ Q T pc L (.int x :: S) :=
  ow_if X pc' pq hd hp hq (fun q => Ky (by simp only [ifCond.holds, decide_eq_true_eq, decide_eq_false_iff_not, beq_iff_eq, bne_iff_ne, ne_eq, Int32.lt_iff_toInt_lt, Int32.le_iff_toInt_le, ← Int32.toInt_inj, o0, GT.gt, GE.ge, beq_eq_false_iff_ne, bne_eq_false_iff_eq, Decidable.not_not] at q; omega)) (fun q => Kn (by simp only [ifCond.holds, decide_eq_true_eq, decide_eq_false_iff_not, beq_iff_eq, bne_iff_ne, ne_eq, Int32.lt_iff_toInt_lt, Int32.le_iff_toInt_le, ← Int32.toInt_inj, o0, GT.gt, GE.ge, beq_eq_false_iff_ne, bne_eq_false_iff_eq, Decidable.not_not] at q; omega))
theorem ow_icmp_ge (X : oSt Z ω γ κ T h cs ss) (pc' pq : Nat) {x y : Int32} {o : Int} (hd : decode κ.1 pc = .ok (.if_icmp .ge o, 3)) (hp : pc + 3 = pc') (hq : (pc : Int) + o = (pq : Int))
    (Ky : y.toInt ≤ x.toInt → oWP ω γ κ Q T pq L S) (Kn : x.toInt < y.toInt → oWP ω γ κ Q T pc' L S) : oWP ω γ κ Q T pc L (.int y :: .int x :: S) :=
  ow_icmp X pc' pq hd hp hq (fun q => Ky (by simp only [if_icmp.holds, decide_eq_true_eq, decide_eq_false_iff_not, beq_iff_eq, bne_iff_ne, ne_eq, Int32.lt_iff_toInt_lt, Int32.le_iff_toInt_le, ← Int32.toInt_inj, o0, GT.gt, GE.ge, beq_eq_false_iff_ne, bne_eq_false_iff_eq, Decidable.not_not] at q; omega)) (fun q => Kn (by simp only [if_icmp.holds, decide_eq_true_eq, decide_eq_false_iff_not, beq_iff_eq, bne_iff_ne, ne_eq, Int32.lt_iff_toInt_lt, Int32.le_iff_toInt_le, ← Int32.toInt_inj, o0, GT.gt, GE.ge, beq_eq_false_iff_ne, bne_eq_false_iff_eq, Decidable.not_not] at q; omega))
theorem ow_if_gt (X : oSt Z ω γ κ T h cs ss) (pc' pq : Nat) {x : Int32} {o : Int} (hd : decode κ.1 pc = .ok (.ifCond .gt o, 3)) (hp : pc + 3 = pc') (hq : (pc : Int) + o = (pq : Int))
    (Ky : 0 < x.toInt → oWP ω γ κ Q T pq L S) (Kn : x.toInt ≤ 0 → oWP ω γ κ Q T pc' L S) : oWP ω γ κ Q T pc L (.int x :: S) :=
  ow_if X pc' pq hd hp hq (fun q => Ky (by simp only [ifCond.holds, decide_eq_true_eq, decide_eq_false_iff_not, beq_iff_eq, bne_iff_ne, ne_eq, Int32.lt_iff_toInt_lt, Int32.le_iff_toInt_le, ← Int32.toInt_inj, o0, GT.gt, GE.ge, beq_eq_false_iff_ne, bne_eq_false_iff_eq, Decidable.not_not] at q; omega)) (fun q => Kn (by simp only [ifCond.holds, decide_eq_true_eq, decide_eq_false_iff_not, beq_iff_eq, bne_iff_ne, ne_eq, Int32.lt_iff_toInt_lt, Int32.le_iff_toInt_le, ← Int32.toInt_inj, o0, GT.gt, GE.ge, beq_eq_false_iff_ne, bne_eq_false_iff_eq, Decidable.not_not] at q; omega))
theorem ow_icmp_gt (X : oSt Z ω γ κ T h cs ss) (pc' pq : Nat) {x y : Int32} {o : Int} (hd : decode κ.1 pc = .ok (.if_icmp .gt o, 3)) (hp : pc + 3 = pc') (hq : (pc : Int) + o = (pq : Int))
    (Ky : y.toInt < x.toInt → oWP ω γ κ Q T pq L S) (Kn : x.toInt ≤ y.toInt → oWP ω γ κ Q T pc' L S) : oWP ω γ κ Q T pc L (.int y :: .int x :: S) :=
  ow_icmp X pc' pq hd hp hq (fun q => Ky (by simp only [if_icmp.holds, decide_eq_true_eq, decide_eq_false_iff_not, beq_iff_eq, bne_iff_ne, ne_eq, Int32.lt_iff_toInt_lt, Int32.le_iff_toInt_le, ← Int32.toInt_inj, o0, GT.gt, GE.ge, beq_eq_false_iff_ne, bne_eq_false_iff_eq, Decidable.not_not] at q; omega)) (fun q => Kn (by simp only [if_icmp.holds, decide_eq_true_eq, decide_eq_false_iff_not, beq_iff_eq, bne_iff_ne, ne_eq, Int32.lt_iff_toInt_lt, Int32.le_iff_toInt_le, ← Int32.toInt_inj, o0, GT.gt, GE.ge, beq_eq_false_iff_ne, bne_eq_false_iff_eq, Decidable.not_not] at q; omega))
theorem ow_if_le (X : oSt Z ω γ κ T h cs ss) (pc' pq : Nat) {x : Int32} {o : Int} (hd : decode κ.1 pc = .ok (.ifCond .le o, 3)) (hp : pc + 3 = pc') (hq : (pc : Int) + o = (pq : Int))
    (Ky : x.toInt ≤ 0 → oWP ω γ κ Q T pq L S) (Kn : 0 < x.toInt → oWP ω γ κ Q T pc' L S) : oWP ω γ κ Q T pc L (.int x :: S) :=
  ow_if X pc' pq hd hp hq (fun q => Ky (by simp only [ifCond.holds, decide_eq_true_eq, decide_eq_false_iff_not, beq_iff_eq, bne_iff_ne, ne_eq, Int32.lt_iff_toInt_lt, Int32.le_iff_toInt_le, ← Int32.toInt_inj, o0, GT.gt, GE.ge, beq_eq_false_iff_ne, bne_eq_false_iff_eq, Decidable.not_not] at q; omega)) (fun q => Kn (by simp only [ifCond.holds, decide_eq_true_eq, decide_eq_false_iff_not, beq_iff_eq, bne_iff_ne, ne_eq, Int32.lt_iff_toInt_lt, Int32.le_iff_toInt_le, ← Int32.toInt_inj, o0, GT.gt, GE.ge, beq_eq_false_iff_ne, bne_eq_false_iff_eq, Decidable.not_not] at q; omega))
theorem ow_icmp_le (X : oSt Z ω γ κ T h cs ss) (pc' pq : Nat) {x y : Int32} {o : Int} (hd : decode κ.1 pc = .ok (.if_icmp .le o, 3)) (hp : pc + 3 = pc') (hq : (pc : Int) + o = (pq : Int))
    (Ky : x.toInt ≤ y.toInt → oWP ω γ κ Q T pq L S) (Kn : y.toInt < x.toInt → oWP ω γ κ Q T pc' L S) : oWP ω γ κ Q T pc L (.int y :: .int x :: S) :=
  ow_icmp X pc' pq hd hp hq (fun q => Ky (by simp only [if_icmp.holds, decide_eq_true_eq, decide_eq_false_iff_not, beq_iff_eq, bne_iff_ne, ne_eq, Int32.lt_iff_toInt_lt, Int32.le_iff_toInt_le, ← Int32.toInt_inj, o0, GT.gt, GE.ge, beq_eq_false_iff_ne, bne_eq_false_iff_eq, Decidable.not_not] at q; omega)) (fun q => Kn (by simp only [if_icmp.holds, decide_eq_true_eq, decide_eq_false_iff_not, beq_iff_eq, bne_iff_ne, ne_eq, Int32.lt_iff_toInt_lt, Int32.le_iff_toInt_le, ← Int32.toInt_inj, o0, GT.gt, GE.ge, beq_eq_false_iff_ne, bne_eq_false_iff_eq, Decidable.not_not] at q; omega))
theorem ow_lcmp (X : oSt Z ω γ κ T h cs ss) (pc' : Nat) {x y : Int64} (hd : decode κ.1 pc = .ok (.lcmp, 1)) (hp : pc + 1 = pc')
    (K : oWP ω γ κ Q T pc' L (.int (lcmpW x y) :: S)) : oWP ω γ κ Q T pc L (.long y :: .long x :: S) := by
  obtain ⟨hx, hby, -, -, -, -, -, -, -, -, -, locs, Y, -⟩ := X
  subst hp
  obtain ⟨s₂, o, hs, r⟩ := K
  exact ⟨s₂, o, XS.lcmp Y.here hx rfl (hb hby hd) rfl hs, r⟩
theorem ow_lcmp_eq (X : oSt Z ω γ κ T h cs ss) (pc1 pc' pq : Nat) {x y : Int64} {o : Int} (hd : decode κ.1 pc = .ok (.lcmp, 1)) (hp1 : pc + 1 = pc1) (hd' : decode κ.1 pc1 = .ok (.ifCond .eq o, 3)) (hp : pc1 + 3 = pc') (hq : (pc1 : Int) + o = (pq : Int))
    (Ky : x.toInt = y.toInt → oWP ω γ κ Q T pq L S) (Kn : x.toInt ≠ y.toInt → oWP ω γ κ Q T pc' L S) : oWP ω γ κ Q T pc L (.long y :: .long x :: S) := by
  refine ow_lcmp X pc1 hd hp1 (ow_if_eq X pc' pq hd' hp hq (fun q => Ky ?_) (fun q => Kn ?_))
  · obtain ⟨c1, c2, c3⟩ := c_lcmp x y
    rcases Int.lt_trichotomy x.toInt y.toInt with a | a | a
    · have := c1 a; omega
    · have := c2 a; omega
    · have := c3 a; omega
  · obtain ⟨c1, c2, c3⟩ := c_lcmp x y
    rcases Int.lt_trichotomy x.toInt y.toInt with a | a | a
    · have := c1 a; omega
    · have := c2 a; omega
    · have := c3 a; omega
theorem ow_lcmp_ne (X : oSt Z ω γ κ T h cs ss) (pc1 pc' pq : Nat) {x y : Int64} {o : Int} (hd : decode κ.1 pc = .ok (.lcmp, 1)) (hp1 : pc + 1 = pc1) (hd' : decode κ.1 pc1 = .ok (.ifCond .ne o, 3)) (hp : pc1 + 3 = pc') (hq : (pc1 : Int) + o = (pq : Int))
    (Ky : x.toInt ≠ y.toInt → oWP ω γ κ Q T pq L S) (Kn : x.toInt = y.toInt → oWP ω γ κ Q T pc' L S) : oWP ω γ κ Q T pc L (.long y :: .long x :: S) := by
  refine ow_lcmp X pc1 hd hp1 (ow_if_ne X pc' pq hd' hp hq (fun q => Ky ?_) (fun q => Kn ?_))
  · obtain ⟨c1, c2, c3⟩ := c_lcmp x y
    rcases Int.lt_trichotomy x.toInt y.toInt with a | a | a
    · have := c1 a; omega
    · have := c2 a; omega
    · have := c3 a; omega
  · obtain ⟨c1, c2, c3⟩ := c_lcmp x y
    rcases Int.lt_trichotomy x.toInt y.toInt with a | a | a
    · have := c1 a; omega
    · have := c2 a; omega
    · have := c3 a; omega
theorem ow_lcmp_lt (X : oSt Z ω γ κ T h cs ss) (pc1 pc' pq : Nat) {x y : Int64} {o : Int} (hd : decode κ.1 pc = .ok (.lcmp, 1)) (hp1 : pc + 1 = pc1) (hd' : decode κ.1 pc1 = .ok (.ifCond .lt o, 3)) (hp : pc1 + 3 = pc') (hq : (pc1 : Int) + o = (pq : Int))
    (Ky : x.toInt < y.toInt → oWP ω γ κ Q T pq L S) (Kn : y.toInt ≤ x.toInt → oWP ω γ κ Q T pc' L S) : oWP ω γ κ Q T pc L (.long y :: .long x :: S) := by
  refine ow_lcmp X pc1 hd hp1 (ow_if_lt X pc' pq hd' hp hq (fun q => Ky ?_) (fun q => Kn ?_))
  · obtain ⟨c1, c2, c3⟩ := c_lcmp x y
    rcases Int.lt_trichotomy x.toInt y.toInt with a | a | a
    · have := c1 a; omega
    · have := c2 a; omega
    · have := c3 a; omega
  · obtain ⟨c1, c2, c3⟩ := c_lcmp x y
    rcases Int.lt_trichotomy x.toInt y.toInt with a | a | a
    · have := c1 a; omega
    · have := c2 a; omega
    · have := c3 a; omega
theorem ow_lcmp_ge (X : oSt Z ω γ κ T h cs ss) (pc1 pc' pq : Nat) {x y : Int64} {o : Int} (hd : decode κ.1 pc = .ok (.lcmp, 1)) (hp1 : pc + 1 = pc1) (hd' : decode κ.1 pc1 = .ok (.ifCond .ge o, 3)) (hp : pc1 + 3 = pc') (hq : (pc1 : Int) + o = (pq : Int))
    (Ky : y.toInt ≤ x.toInt → oWP ω γ κ Q T pq L S) (Kn : x.toInt < y.toInt → oWP ω γ κ Q T pc' L S) : oWP ω γ κ Q T pc L (.long y :: .long x :: S) := by
  refine ow_lcmp X pc1 hd hp1 (ow_if_ge X pc' pq hd' hp hq (fun q => Ky ?_) (fun q => Kn ?_))
  · obtain ⟨c1, c2, c3⟩ := c_lcmp x y
    rcases Int.lt_trichotomy x.toInt y.toInt with a | a | a
    · have := c1 a; omega
    · have := c2 a; omega
    · have := c3 a; omega
  · obtain ⟨c1, c2, c3⟩ := c_lcmp x y
    rcases Int.lt_trichotomy x.toInt y.toInt with a | a | a
    · have := c1 a; omega
    · have := c2 a; omega
    · have := c3 a; omega
theorem ow_lcmp_gt (X : oSt Z ω γ κ T h cs ss) (pc1 pc' pq : Nat) {x y : Int64} {o : Int} (hd : decode κ.1 pc = .ok (.lcmp, 1)) (hp1 : pc + 1 = pc1) (hd' : decode κ.1 pc1 = .ok (.ifCond .gt o, 3)) (hp : pc1 + 3 = pc') (hq : (pc1 : Int) + o = (pq : Int))
    (Ky : y.toInt < x.toInt → oWP ω γ κ Q T pq L S) (Kn : x.toInt ≤ y.toInt → oWP ω γ κ Q T pc' L S) : oWP ω γ κ Q T pc L (.long y :: .long x :: S) := by
  refine ow_lcmp X pc1 hd hp1 (ow_if_gt X pc' pq hd' hp hq (fun q => Ky ?_) (fun q => Kn ?_))
  · obtain ⟨c1, c2, c3⟩ := c_lcmp x y
    rcases Int.lt_trichotomy x.toInt y.toInt with a | a | a
    · have := c1 a; omega
    · have := c2 a; omega
    · have := c3 a; omega
  · obtain ⟨c1, c2, c3⟩ := c_lcmp x y
    rcases Int.lt_trichotomy x.toInt y.toInt with a | a | a
    · have := c1 a; omega
    · have := c2 a; omega
    · have := c3 a; omega
theorem ow_lcmp_le (X : oSt Z ω γ κ T h cs ss) (pc1 pc' pq : Nat) {x y : Int64} {o : Int} (hd : decode κ.1 pc = .ok (.lcmp, 1)) (hp1 : pc + 1 = pc1) (hd' : decode κ.1 pc1 = .ok (.ifCond .le o, 3)) (hp : pc1 + 3 = pc') (hq : (pc1 : Int) + o = (pq : Int))
    (Ky : x.toInt ≤ y.toInt → oWP ω γ κ Q T pq L S) (Kn : y.toInt < x.toInt → oWP ω γ κ Q T pc' L S) : oWP ω γ κ Q T pc L (.long y :: .long x :: S) := by
  refine ow_lcmp X pc1 hd hp1 (ow_if_le X pc' pq hd' hp hq (fun q => Ky ?_) (fun q => Kn ?_))
  · obtain ⟨c1, c2, c3⟩ := c_lcmp x y
    rcases Int.lt_trichotomy x.toInt y.toInt with a | a | a
    · have := c1 a; omega
    · have := c2 a; omega
    · have := c3 a; omega
  · obtain ⟨c1, c2, c3⟩ := c_lcmp x y
    rcases Int.lt_trichotomy x.toInt y.toInt with a | a | a
    · have := c1 a; omega
    · have := c2 a; omega
    · have := c3 a; omega
theorem ow_ifnull (X : oSt Z ω γ κ T h cs ss) (pc' pq : Nat) {v : Value} {o : Int} (hv : v.isRef = true) (hd : decode κ.1 pc = .ok (.ifnull o, 3)) (hp : pc + 3 = pc') (hq : (pc : Int) + o = (pq : Int))
    (Ky : v = .null → oWP ω γ κ Q T pq L S) (Kn : v ≠ .null → oWP ω γ κ Q T pc' L S) : oWP ω γ κ Q T pc L (v :: S) := by
  obtain ⟨hx, hby, -, -, -, -, -, -, -, -, -, locs, Y, -⟩ := X
  subst hp
  rcases ref_cases hv with rfl | ⟨a, rfl⟩
  · obtain ⟨s₂, o, hs, r⟩ := Ky rfl
    exact ⟨s₂, o, XS.ifnullYes Y.here hx rfl (pc0 := pc) rfl (hb hby hd) rfl (by omega) (by omega) hs, r⟩
  · obtain ⟨s₂, o, hs, r⟩ := Kn (by simp)
    exact ⟨s₂, o, XS.ifnullNo Y.here hx rfl (hb hby hd) rfl hs, r⟩
theorem ow_ifnonnull (X : oSt Z ω γ κ T h cs ss) (pc' pq : Nat) {v : Value} {o : Int} (hv : v.isRef = true) (hd : decode κ.1 pc = .ok (.ifnonnull o, 3)) (hp : pc + 3 = pc') (hq : (pc : Int) + o = (pq : Int))
    (Ky : v ≠ .null → oWP ω γ κ Q T pq L S) (Kn : v = .null → oWP ω γ κ Q T pc' L S) : oWP ω γ κ Q T pc L (v :: S) := by
  obtain ⟨hx, hby, -, -, -, -, -, -, -, -, -, locs, Y, -⟩ := X
  subst hp
  rcases ref_cases hv with rfl | ⟨a, rfl⟩
  · obtain ⟨s₂, o, hs, r⟩ := Kn rfl
    exact ⟨s₂, o, XS.ifnonnullNo Y.here hx rfl (hb hby hd) rfl hs, r⟩
  · obtain ⟨s₂, o, hs, r⟩ := Ky (by simp)
    exact ⟨s₂, o, XS.ifnonnullYes Y.here hx rfl (pc0 := pc) rfl (hb hby hd) rfl (by omega) (by omega) hs, r⟩
theorem ow_acmp_eq (X : oSt Z ω γ κ T h cs ss) (pc' pq : Nat) {v w : Value} {o : Int} (hv : v.isRef = true) (hw : w.isRef = true) (hd : decode κ.1 pc = .ok (.if_acmp .eq o, 3)) (hp : pc + 3 = pc') (hq : (pc : Int) + o = (pq : Int))
    (Ky : v = w → oWP ω γ κ Q T pq L S) (Kn : v ≠ w → oWP ω γ κ Q T pc' L S) : oWP ω γ κ Q T pc L (w :: v :: S) := by
  obtain ⟨hx, hby, -, -, -, -, -, -, -, -, -, locs, Y, -⟩ := X
  subst hp
  by_cases e : v = w
  · obtain ⟨s₂, o, hs, r⟩ := Ky e
    exact ⟨s₂, o, RoadKit.acmp Y hx rfl hv hw (pc0 := pc) rfl (hb hby hd) rfl (same := true) (by simp [e]) (by omega) (by simp [acV]; omega) hs, r⟩
  · obtain ⟨s₂, o, hs, r⟩ := Kn e
    exact ⟨s₂, o, RoadKit.acmp Y hx rfl hv hw (pc0 := pc) rfl (hb hby hd) rfl (same := false) (by simp [e]) (by omega) (by simp [acV]) hs, r⟩
theorem ow_acmp_ne (X : oSt Z ω γ κ T h cs ss) (pc' pq : Nat) {v w : Value} {o : Int} (hv : v.isRef = true) (hw : w.isRef = true) (hd : decode κ.1 pc = .ok (.if_acmp .ne o, 3)) (hp : pc + 3 = pc') (hq : (pc : Int) + o = (pq : Int))
    (Ky : v ≠ w → oWP ω γ κ Q T pq L S) (Kn : v = w → oWP ω γ κ Q T pc' L S) : oWP ω γ κ Q T pc L (w :: v :: S) := by
  obtain ⟨hx, hby, -, -, -, -, -, -, -, -, -, locs, Y, -⟩ := X
  subst hp
  by_cases e : v = w
  · obtain ⟨s₂, o, hs, r⟩ := Kn e
    exact ⟨s₂, o, RoadKit.acmp Y hx rfl hv hw (pc0 := pc) rfl (hb hby hd) rfl (same := true) (by simp [e]) (by omega) (by simp [acV]) hs, r⟩
  · obtain ⟨s₂, o, hs, r⟩ := Ky e
    exact ⟨s₂, o, RoadKit.acmp Y hx rfl hv hw (pc0 := pc) rfl (hb hby hd) rfl (same := false) (by simp [e]) (by omega) (by simp [acV]; omega) hs, r⟩
theorem ow_ret (X : oSt Z ω γ κ T h cs ss) {w : Value} {t : FieldType} {i : Instr} (hret : κ.2.2.2.2.1 = some t) (hn : narrow t w = w)
    (hi : (i = .ireturn ∧ (t = .int ∨ t = .boolean ∨ t = .byte ∨ t = .char ∨ t = .short) ∧ ∃ z, w = .int z) ∨ (i = .lreturn ∧ t = .long ∧ ∃ z, w = .long z) ∨ (i = .dreturn ∧ t = .double ∧ ∃ z, w = .double z) ∨ (i = .freturn ∧ t = .float ∧ ∃ z, w = .float z) ∨ (i = .areturn ∧ t.isReference = true ∧ w.isRef = true))
    (hd : decode κ.1 pc = .ok (i, 1)) (hc : cs ≤ κ.2.2.2.2.2.cells) (hsl : ss ≤ κ.2.2.2.2.2.slots) (hQ : Q (some w) h) : oWP ω γ κ Q T pc L (w :: S) := by
  obtain ⟨hx, hby, -, -, -, hr, hlk, -, -, -, hT, locs, Y, N⟩ := X
  obtain ⟨fs, hl, hrun, hended, hW, hsame⟩ := Y.leave (v := some w) (fun q => by rw [hr, hret] at q; cases q) hlk
  refine ⟨_, _, retOut Y hx (hr.trans hret) hn hi (hb hby hd) hl, hrun, hended, _, locs, rfl, ⟨N, ?_⟩, ⟨_, rfl⟩, hW, hsame.mono hc hsl⟩
  show Q (some w) T.heap
  rw [hT]; exact hQ
theorem ow_retI (X : oSt Z ω γ κ T h cs ss) {z : Int32} (hret : κ.2.2.2.2.1 = some .int) (hd : decode κ.1 pc = .ok (.ireturn, 1)) (hc : cs ≤ κ.2.2.2.2.2.cells) (hsl : ss ≤ κ.2.2.2.2.2.slots) (hQ : Q (some (.int z)) h) : oWP ω γ κ Q T pc L (.int z :: S) :=
  ow_ret X hret rfl (Or.inl ⟨rfl, Or.inl rfl, z, rfl⟩) hd hc hsl hQ
theorem ow_retZ (X : oSt Z ω γ κ T h cs ss) {z : Int32} (hret : κ.2.2.2.2.1 = some .boolean) (hd : decode κ.1 pc = .ok (.ireturn, 1)) (hc : cs ≤ κ.2.2.2.2.2.cells) (hsl : ss ≤ κ.2.2.2.2.2.slots) (hz : z = 0 ∨ z = 1) (hQ : Q (some (.int z)) h) : oWP ω γ κ Q T pc L (.int z :: S) :=
  ow_ret X hret (by rcases hz with rfl | rfl <;> rfl) (Or.inl ⟨rfl, Or.inr (Or.inl rfl), z, rfl⟩) hd hc hsl hQ
theorem ow_retC (X : oSt Z ω γ κ T h cs ss) {z : Int32} (hret : κ.2.2.2.2.1 = some .char) (hd : decode κ.1 pc = .ok (.ireturn, 1)) (hc : cs ≤ κ.2.2.2.2.2.cells) (hsl : ss ≤ κ.2.2.2.2.2.slots) (hz : z.toUInt32.toUInt16.toUInt32.toInt32 = z) (hQ : Q (some (.int z)) h) : oWP ω γ κ Q T pc L (.int z :: S) :=
  ow_ret X hret (by show Value.int z.toUInt32.toUInt16.toUInt32.toInt32 = _; rw [hz]) (Or.inl ⟨rfl, Or.inr (Or.inr (Or.inr (Or.inl rfl))), z, rfl⟩) hd hc hsl hQ
theorem ow_retJ (X : oSt Z ω γ κ T h cs ss) {z : Int64} (hret : κ.2.2.2.2.1 = some .long) (hd : decode κ.1 pc = .ok (.lreturn, 1)) (hc : cs ≤ κ.2.2.2.2.2.cells) (hsl : ss ≤ κ.2.2.2.2.2.slots) (hQ : Q (some (.long z)) h) : oWP ω γ κ Q T pc L (.long z :: S) :=
  ow_ret X hret rfl (Or.inr (Or.inl ⟨rfl, rfl, z, rfl⟩)) hd hc hsl hQ
theorem ow_retA (X : oSt Z ω γ κ T h cs ss) {v : Value} {t : FieldType} (hret : κ.2.2.2.2.1 = some t) (ht : t.isReference = true) (hv : v.isRef = true) (hd : decode κ.1 pc = .ok (.areturn, 1)) (hc : cs ≤ κ.2.2.2.2.2.cells) (hsl : ss ≤ κ.2.2.2.2.2.slots) (hQ : Q (some v) h) : oWP ω γ κ Q T pc L (v :: S) :=
  ow_ret X hret (by cases t <;> first | rfl | cases ht) (Or.inr (Or.inr (Or.inr (Or.inr ⟨rfl, ht, hv⟩)))) hd hc hsl hQ
theorem ow_retV (X : oSt Z ω γ κ T h cs ss) (hret : κ.2.2.2.2.1 = none) (hd : decode κ.1 pc = .ok (.return_, 1)) (hc : cs ≤ κ.2.2.2.2.2.cells) (hsl : ss ≤ κ.2.2.2.2.2.slots) (hQ : Q none h) : oWP ω γ κ Q T pc L [] := by
  obtain ⟨hx, hby, -, -, -, hr, hlk, -, -, -, hT, locs, Y, N⟩ := X
  obtain ⟨fs, hl, hrun, hended, hW, hsame⟩ := Y.leave (v := none) (fun _ => rfl) hlk
  refine ⟨_, _, Y.returnOut hx (hr.trans hret) (hb hby hd) hl, hrun, hended, _, locs, rfl, ⟨N, ?_⟩, ⟨_, rfl⟩, hW, hsame.mono hc hsl⟩
  show Q none T.heap
  rw [hT]; exact hQ
theorem ow_getF (X : oSt Z ω γ κ T h cs ss) (pc' i : Nat) {own O n d : String} {idx : Nat} {a : Addr} {v : Value} (hw : tables_1[i]? = some (.fieldLink own idx O n d)) (ho : κ.2.2.1 = own) (F : Fld Z h a O n d v) (hd : decode κ.1 pc = .ok (.getfield idx, 3)) (hp : pc + 3 = pc')
    (K : ∀ T', oSt Z ω γ κ T' h cs ss → oWP ω γ κ Q T' pc' L (v :: S)) : oWP ω γ κ Q T pc L (.ref a :: S) := by
  have hw' := oSt_at X i hw
  obtain ⟨hx, hby, hml, hown, hnm, hr, hlk, hZ, hT1, hn0, hT, locs, Y, N⟩ := X
  subst hp ho
  obtain ⟨T', Y', e', st⟩ := getF Y hx hZ hown (host := "") (Or.inl hw') Via.refl hT F (g := mkF γ.2.2.2.1 pc L (.ref a :: S)) rfl rfl (hb hby hd)
  obtain ⟨s₂, o, hs, r⟩ := K T' ⟨hx, hby, hml, hown, hnm, hr, hlk, hZ, hT1, hn0, e', locs, Y', N⟩
  exact ⟨s₂, o, st _ hs, r⟩
theorem ow_getS (X : oSt Z ω γ κ T h cs ss) (pc' i : Nat) {own O n d : String} {idx : Nat} {v : Value} (hw : tables_1[i]? = some (.fieldLink own idx O n d)) (ho : κ.2.2.1 = own) (F : Sta Z h O n d v) (hd : decode κ.1 pc = .ok (.getstatic idx, 3)) (hp : pc + 3 = pc')
    (K : ∀ T', oSt Z ω γ κ T' h cs ss → oWP ω γ κ Q T' pc' L (v :: S)) : oWP ω γ κ Q T pc L S := by
  have hw' := oSt_at X i hw
  obtain ⟨hx, hby, hml, hown, hnm, hr, hlk, hZ, hT1, hn0, hT, locs, Y, N⟩ := X
  subst hp ho
  obtain ⟨T', Y', e', st⟩ := getS Y hx hZ hown hw' Via.refl hT F (g := mkF γ.2.2.2.1 pc L S) rfl (hb hby hd) (host := "")
  obtain ⟨s₂, o, hs, r⟩ := K T' ⟨hx, hby, hml, hown, hnm, hr, hlk, hZ, hT1, hn0, e', locs, Y', N⟩
  exact ⟨s₂, o, st _ hs, r⟩
theorem ow_cast (X : oSt Z ω γ κ T h cs ss) (pc' i : Nat) {own K : String} {idx : Nat} {a : Addr} (hw : tables_1[i]? = some (.classLink own idx K)) (ho : κ.2.2.1 = own) (F : Ins Z h a K true) (hd : decode κ.1 pc = .ok (.checkcast idx, 3)) (hp : pc + 3 = pc')
    (K' : ∀ T', oSt Z ω γ κ T' h cs ss → oWP ω γ κ Q T' pc' L (.ref a :: S)) : oWP ω γ κ Q T pc L (.ref a :: S) := by
  have hw' := oSt_at X i hw
  obtain ⟨hx, hby, hml, hown, hnm, hr, hlk, hZ, hT1, hn0, hT, locs, Y, N⟩ := X
  subst hp ho
  obtain ⟨T', Y', e', st⟩ := castY Y hx hZ hown hw' hT F (g := mkF γ.2.2.2.1 pc L (.ref a :: S)) rfl rfl (hb hby hd)
  obtain ⟨s₂, o, hs, r⟩ := K' T' ⟨hx, hby, hml, hown, hnm, hr, hlk, hZ, hT1, hn0, e', locs, Y', N⟩
  exact ⟨s₂, o, st _ hs, r⟩
theorem ow_putF (X : oSt Z ω γ κ T h cs ss) (pc' i k : Nat) {own O n d C : String} {idx kk : Nat} {a : Addr} {v old : Value} {ty : FieldType} (hw : tables_1[i]? = some (.fieldLink own idx O n d)) (ho : κ.2.2.1 = own) (F : Fld Z h a O n d old) (E : Exa Z h a C)
    (hl : (Jvm.Cond.lays C O n d).before ω.2.2 Z = true ∨ ((Jvm.Cond.laysFinal C O n d).before ω.2.2 Z = true ∧ κ.2.2.1 = O ∧ κ.2.2.2.1 = "<init>")) (hi : tables_1[k]? = some (.instantiable C kk)) (hty : parseFieldDescriptor d = some ty) (hn : narrow ty v = v) (hf : fits ty v = true) (ha : ω.2.1 ≤ a)
    (hd : decode κ.1 pc = .ok (.putfield idx, 3)) (hp : pc + 3 = pc')
    (K : ∀ T' h', oSt Z ω γ κ T' h' cs ss → Wr h h' a (RoadKit.slotOf Z O n d) v → oWP ω γ κ Q T' pc' L S) : oWP ω γ κ Q T pc L (v :: .ref a :: S) := by
  have hw' := oSt_at X i hw
  have hi' := oSt_at X k hi
  obtain ⟨hx, hby, hml, hown, hnm, hr, hlk, hZ, hT1, hn0, hT, locs, Y, N⟩ := X
  subst hp ho
  obtain ⟨T', h', Y', e', W, st⟩ := putF Y hx hZ hown (host := "") (Or.inl hw') Via.refl hT F E (hl.imp id fun q => ⟨q.1, q.2.1, hnm.trans q.2.2⟩) hi' hty hn hf (g := mkF γ.2.2.2.1 pc L (v :: .ref a :: S)) rfl rfl (hb hby hd)
  obtain ⟨s₂, o, hs, r⟩ := K T' h' ⟨hx, hby, hml, hown, hnm, hr, hlk, hZ, hT1, hn0, e', _, Y', Fr.snoc Y' N ha⟩ W
  exact ⟨s₂, o, st _ hs, r⟩
theorem ow_new (X : oSt Z ω γ κ T h cs ss) (pc' i1 i2 i3 : Nat) {own C : String} {idx n : Nat} (w1 : tables_1[i1]? = some (.classLink own idx C)) (ho : κ.2.2.1 = own) (w2 : tables_1[i2]? = some (.instantiable C n)) (w3 : tables_1[i3]? = some (.initialized C))
    (hd : decode κ.1 pc = .ok (.new idx, 3)) (hp : pc + 3 = pc') (hc : cs + 1 ≤ κ.2.2.2.2.2.cells) (hsl : ss + n ≤ κ.2.2.2.2.2.slots)
    (K : ∀ T' h' a, a = h.size → oSt Z ω γ κ T' h' (cs + 1) (ss + n) → Ext h h' → Exa Z h' a C → (∀ {O nm d : String} {ty : FieldType}, Laid Z ω.2.2 C O nm d → parseFieldDescriptor d = some ty → Fld Z h' a O nm d (defaultValue ty)) → ω.2.1 ≤ a → oWP ω γ κ Q T' pc' L (.ref a :: S)) : oWP ω γ κ Q T pc L S := by
  have w1' := oSt_at X i1 w1
  have w2' := oSt_at X i2 w2
  have w3' := oSt_at X i3 w3
  have hN := oSt_n0 X
  obtain ⟨hx, hby, hml, hown, hnm, hr, hlk, hZ, hT1, hn0, hT, locs, Y, N⟩ := X
  subst hp ho
  obtain ⟨T', h', Y', e', E, A, D, -, st⟩ := newO Y hx hZ hown w1' w2' w3' hT (g := mkF γ.2.2.2.1 pc L S) rfl (hb hby hd) hc hsl
  obtain ⟨s₂, o, hs, r⟩ := K T' h' h.size rfl ⟨hx, hby, hml, hown, hnm, hr, hlk, hZ, hT1, hn0, e', _, Y', N⟩ E A D hN
  exact ⟨s₂, o, st _ hs, r⟩
theorem ow_initO (X : oSt Z ω γ κ T h cs ss) (pc' i1 i2 i3 : Nat) {own : String} {idx : Nat} {a : Addr} (w1 : tables_1[i1]? = some (.methodLink own idx Lib.objectInit)) (ho : κ.2.2.1 = own) (w2 : tables_1[i2]? = some (.instanceMethod Lib.objectInit)) (w3 : tables_1[i3]? = some (.code Lib.objectInit ⟨#[0xb1]⟩ 1 none))
    (hd : decode κ.1 pc = .ok (.invokespecial idx, 3)) (hp : pc + 3 = pc') (hL : L.size = κ.2.1) (hf : 1 ≤ κ.2.2.2.2.2.frames) {W : Nat} (hW : (S.map fun v => v.category).sum ≤ W) (hl : W + 12 ≤ κ.2.2.2.2.2.locals)
    (K : ∀ T', oSt Z ω γ κ T' h cs ss → oWP ω γ κ Q T' pc' L S) : oWP ω γ κ Q T pc L (.ref a :: S) := by
  have w1' := oSt_at X i1 w1
  have w2' := oSt_at X i2 w2
  have w3' := oSt_at X i3 w3
  obtain ⟨hx, hby, hml, hown, hnm, hr, hlk, hZ, hT1, hn0, hT, locs, Y, N⟩ := X
  subst hp ho
  obtain ⟨T', Y', e', st⟩ := initO Y hx hZ hown w1' w2' w3' hT (g := mkF γ.2.2.2.1 pc L (.ref a :: S)) rfl (by rw [hml]; exact hL) rfl (hb hby hd) hf (W := W) (by show 2 * 0 + _ ≤ _; omega) hl
  obtain ⟨s₂, o, hs, r⟩ := K T' ⟨hx, hby, hml, hown, hnm, hr, hlk, hZ, hT1, hn0, e', _, Y', N⟩
  exact ⟨s₂, o, st _ hs, r⟩
theorem ow_callS (X : oSt Z ω γ κ T h cs ss) (pc' i1 i2 i3 i4 : Nat) {own : String} {idx : Nat} {y : MethodName} {κ' : OM} {Q' : Option Value → Heap → Prop} {as : List Value} {ps : List FieldType} {rt : Option FieldType} {W : Nat} {S0 : List Value}
    (w1 : tables_1[i1]? = some (.methodLink own idx y)) (ho : κ.2.2.1 = own) (w2 : tables_1[i2]? = some (.static y)) (w3 : tables_1[i3]? = some (.initialized y.cls)) (w4 : tables_1[i4]? = some (.code y κ'.1 κ'.2.1 κ'.2.2.2.2.1)) (hy : y.cls ≠ "java/lang/invoke/MethodHandle" ∧ y.cls ≠ "java/lang/invoke/VarHandle")
    (C : oC Z ω y κ' [] as.toArray h Q') (hf : κ'.2.2.2.2.2.frames + 1 ≤ κ.2.2.2.2.2.frames) (hl : W + (κ'.2.1 + 11) + κ'.2.2.2.2.2.locals ≤ κ.2.2.2.2.2.locals) (hW : (S.map fun v => v.category).sum ≤ W) (hc : cs + κ'.2.2.2.2.2.cells ≤ κ.2.2.2.2.2.cells) (hs : ss + κ'.2.2.2.2.2.slots ≤ κ.2.2.2.2.2.slots)
    (hpd : parseMethodDescriptor y.desc = some ⟨ps, rt⟩) (hlen : as.length = ps.length) (hS : S0 = as.reverse ++ S) (hL : L.size = κ.2.1) (hd : decode κ.1 pc = .ok (.invokestatic idx, 3)) (hp : pc + 3 = pc')
    (K : ∀ v T' h', oSt Z ω γ κ T' h' (cs + κ'.2.2.2.2.2.cells) (ss + κ'.2.2.2.2.2.slots) → Q' v h' → oWP ω γ κ Q T' pc' L (v.toList ++ S)) : oWP ω γ κ Q T pc L S0 := by
  have w1' := oSt_at X i1 w1
  have w2' := oSt_at X i2 w2
  have w3' := oSt_at X i3 w3
  have w4' := oSt_at X i4 w4
  obtain ⟨hx, hby, hml, hown, hnm, hr, hlk, hZ, hT1, hn0, hT, locs, Y, N⟩ := X
  subst hp ho hS
  obtain ⟨v, vm₁, ⟨T', L', k', n'⟩, -, Y', ⟨Lc, ⟨hF, hQ⟩, q1, q2, q3⟩, st⟩ := Jvm.LawKit.callS Y hx (y := y) hown (mvT hZ w1') (mvT hZ w2') (mvT hZ w3') (mvT hZ w4') hy (backOf (W := W) (Q := fun v hh Lc => Fr ω.2.1 Lc ∧ Q' v hh) (bytes := κ'.1) (maxL := κ'.2.1) (ret := κ'.2.2.2.2.1) (rm := κ'.2.2.2.2.2) C hZ w4' w3' hf hl) (g := mkF γ.2.2.2.1 pc L (as.reverse ++ S)) rfl (by rw [hml]; exact hL) (argsL := as) (rest := S) (lenOf hpd hlen) rfl (by show 2 * 0 + _ ≤ _; omega) (hb hby hd) (fun _ _ => ⟨rfl, hT, hc, hs⟩)
  dsimp only [Pt.U, Pt.locs, Pt.cells, Pt.slots] at Y' q1 q2 q3 st hQ
  subst q1 q2 q3
  obtain ⟨s₂, o, hs, r⟩ := K v T' T'.heap ⟨hx, hby, hml, hown, hnm, hr, hlk, hZ, hT1, hn0, rfl, _, Y', N.app hF⟩ hQ
  exact ⟨s₂, o, st _ hs, r⟩
theorem ow_callC (X : oSt Z ω γ κ T h cs ss) (pc' i1 i2 i3 i4 : Nat) {own : String} {idx : Nat} {y : MethodName} {κ' : OM} {Q' : Option Value → Heap → Prop} {a : Addr} {as : List Value} {ps : List FieldType} {rt : Option FieldType} {W : Nat} {S0 : List Value}
    (hy1 : y.name = "<init>") (w1 : tables_1[i1]? = some (.methodLink own idx y)) (ho : κ.2.2.1 = own) (w2 : tables_1[i2]? = some (.instanceMethod y)) (w3 : tables_1[i3]? = some (.initialized y.cls)) (w4 : tables_1[i4]? = some (.code y κ'.1 κ'.2.1 κ'.2.2.2.2.1)) (hr0 : κ'.2.2.2.2.1 = none) (hy : y.cls ≠ "java/lang/invoke/MethodHandle" ∧ y.cls ≠ "java/lang/invoke/VarHandle")
    (C : oC Z ω y κ' [] (.ref a :: as).toArray h Q') (hf : κ'.2.2.2.2.2.frames + 1 ≤ κ.2.2.2.2.2.frames) (hl : W + (κ'.2.1 + 11) + κ'.2.2.2.2.2.locals ≤ κ.2.2.2.2.2.locals) (hW : (S.map fun v => v.category).sum ≤ W) (hc : cs + κ'.2.2.2.2.2.cells ≤ κ.2.2.2.2.2.cells) (hs : ss + κ'.2.2.2.2.2.slots ≤ κ.2.2.2.2.2.slots)
    (hpd : parseMethodDescriptor y.desc = some ⟨ps, rt⟩) (hlen : as.length = ps.length) (hS : S0 = as.reverse ++ .ref a :: S) (hL : L.size = κ.2.1) (hd : decode κ.1 pc = .ok (.invokespecial idx, 3)) (hp : pc + 3 = pc')
    (K : ∀ v T' h', oSt Z ω γ κ T' h' (cs + κ'.2.2.2.2.2.cells) (ss + κ'.2.2.2.2.2.slots) → Q' v h' → oWP ω γ κ Q T' pc' L (v.toList ++ S)) : oWP ω γ κ Q T pc L S0 := by
  have w1' := oSt_at X i1 w1
  have w2' := oSt_at X i2 w2
  have w3' := oSt_at X i3 w3
  have w4' := oSt_at X i4 w4
  obtain ⟨hx, hby, hml, hown, hnm, hr, hlk, hZ, hT1, hn0, hT, locs, Y, N⟩ := X
  subst hp ho hS
  obtain ⟨v, vm₁, ⟨T', L', k', n'⟩, -, Y', ⟨Lc, ⟨hF, hQ⟩, q1, q2, q3⟩, st⟩ := Y.specialBack hx (y := y) hy1 hown (mvT hZ w1') (mvT hZ w2') (mvT hZ (hr0 ▸ w4')) hy (backOf (W := W) (Q := fun v hh Lc => Fr ω.2.1 Lc ∧ Q' v hh) (bytes := κ'.1) (maxL := κ'.2.1) (ret := κ'.2.2.2.2.1) (rm := κ'.2.2.2.2.2) C hZ w4' w3' hf hl) (g := mkF γ.2.2.2.1 pc L (as.reverse ++ .ref a :: S)) rfl (by rw [hml]; exact hL) (Steps.refl _) (a := a) (argsL := as) (rest := S) (lenOf hpd hlen) rfl (by show 2 * 0 + _ ≤ _; omega) (hb hby hd) (fun _ _ => ⟨rfl, hT, hc, hs⟩)
  dsimp only [Pt.U, Pt.locs, Pt.cells, Pt.slots] at Y' q1 q2 q3 st hQ
  subst q1 q2 q3
  obtain ⟨s₂, o, hs, r⟩ := K v T' T'.heap ⟨hx, hby, hml, hown, hnm, hr, hlk, hZ, hT1, hn0, rfl, _, Y', N.app hF⟩ hQ
  exact ⟨s₂, o, st.trans hs, r⟩
theorem ow_callV (X : oSt Z ω γ κ T h cs ss) (pc' i1 i2 i3 i4 i5 i6 : Nat) {own C0 : String} {idx : Nat} {y : MethodName} {κ' : OM} {Q' : Option Value → Heap → Prop} {a : Addr} {as : List Value} {ps : List FieldType} {rt : Option FieldType} {W : Nat} {S0 : List Value}
    (w1 : tables_1[i1]? = some (.methodLink own idx y)) (ho : κ.2.2.1 = own) (w2 : tables_1[i2]? = some (.declares y)) (w3 : tables_1[i3]? = some (.selects C0 y y)) (w4 : tables_1[i4]? = some (.instanceMethod y)) (w5 : tables_1[i5]? = some (.code y κ'.1 κ'.2.1 κ'.2.2.2.2.1)) (w6 : tables_1[i6]? = some (.initialized y.cls)) (hy : y.cls ≠ "java/lang/invoke/MethodHandle" ∧ y.cls ≠ "java/lang/invoke/VarHandle")
    (E : Exa Z h a C0) (C : oC Z ω y κ' [] (.ref a :: as).toArray h Q') (hf : κ'.2.2.2.2.2.frames + 1 ≤ κ.2.2.2.2.2.frames) (hl : W + (κ'.2.1 + 11) + κ'.2.2.2.2.2.locals ≤ κ.2.2.2.2.2.locals) (hW : (S.map fun v => v.category).sum ≤ W) (hc : cs + κ'.2.2.2.2.2.cells ≤ κ.2.2.2.2.2.cells) (hs : ss + κ'.2.2.2.2.2.slots ≤ κ.2.2.2.2.2.slots)
    (hpd : parseMethodDescriptor y.desc = some ⟨ps, rt⟩) (hlen : as.length = ps.length) (hS : S0 = as.reverse ++ .ref a :: S) (hL : L.size = κ.2.1) (hd : decode κ.1 pc = .ok (.invokevirtual idx, 3)) (hp : pc + 3 = pc')
    (K : ∀ v T' h', oSt Z ω γ κ T' h' (cs + κ'.2.2.2.2.2.cells) (ss + κ'.2.2.2.2.2.slots) → Q' v h' → oWP ω γ κ Q T' pc' L (v.toList ++ S)) : oWP ω γ κ Q T pc L S0 := by
  have w1' := oSt_at X i1 w1
  have w2' := oSt_at X i2 w2
  have w3' := oSt_at X i3 w3
  have w4' := oSt_at X i4 w4
  have w5' := oSt_at X i5 w5
  have w6' := oSt_at X i6 w6
  obtain ⟨hx, hby, hml, hown, hnm, hr, hlk, hZ, hT1, hn0, hT, locs, Y, N⟩ := X
  subst hp ho hS
  obtain ⟨cq, kq, qa, qb, qc⟩ := isOf hZ hT E
  obtain ⟨v, vm₁, ⟨T', L', k', n'⟩, -, Y', ⟨Lc, ⟨hF, hQ⟩, q1, q2, q3⟩, st⟩ := Y.virtualBack hx (y := y) (z := y) hown (mvT hZ w1') (mvT hZ w2') (notFace_of_selects (args := #[]) (mvT hZ w3')) (mvT hZ w3') (mvT hZ w4') hy (backOf (W := W) (Q := fun v hh Lc => Fr ω.2.1 Lc ∧ Q' v hh) (bytes := κ'.1) (maxL := κ'.2.1) (ret := κ'.2.2.2.2.1) (rm := κ'.2.2.2.2.2) C hZ w5' w6' hf hl) qa qc (g := mkF γ.2.2.2.1 pc L (as.reverse ++ .ref a :: S)) rfl (by rw [hml]; exact hL) (Steps.refl _) (argsL := as) (rest := S) (lenOf hpd hlen) rfl (by show 2 * 0 + _ ≤ _; omega) (hb hby hd) (fun _ _ => ⟨rfl, hT, hc, hs⟩)
  dsimp only [Pt.U, Pt.locs, Pt.cells, Pt.slots] at Y' q1 q2 q3 st hQ
  subst q1 q2 q3
  obtain ⟨s₂, o, hs, r⟩ := K v T' T'.heap ⟨hx, hby, hml, hown, hnm, hr, hlk, hZ, hT1, hn0, rfl, _, Y', N.app hF⟩ hQ
  exact ⟨s₂, o, st.trans hs, r⟩
theorem ow_callP (X : oSt Z ω γ κ T h cs ss) (pc' i1 i2 i3 i4 i5 i6 : Nat) {own C0 : String} {idx nn : Nat} {y : MethodName} {κ' : OM} {Q' : Option Value → Heap → Prop} {a : Addr} {as : List Value} {ps : List FieldType} {rt : Option FieldType} {W : Nat} {S0 : List Value}
    (w1 : tables_1[i1]? = some (.methodLink own idx y)) (ho : κ.2.2.1 = own) (w2 : tables_1[i2]? = some (.instanceMethod y)) (w3 : tables_1[i3]? = some (.privateMethod y)) (w4 : tables_1[i4]? = some (.initialized y.cls)) (w5 : tables_1[i5]? = some (.code y κ'.1 κ'.2.1 κ'.2.2.2.2.1)) (w6 : tables_1[i6]? = some (.instantiable y.cls nn)) (hy : y.cls ≠ "java/lang/invoke/MethodHandle" ∧ y.cls ≠ "java/lang/invoke/VarHandle")
    (E : Exa Z h a C0) (C : oC Z ω y κ' [] (.ref a :: as).toArray h Q') (hf : κ'.2.2.2.2.2.frames + 1 ≤ κ.2.2.2.2.2.frames) (hl : W + (κ'.2.1 + 11) + κ'.2.2.2.2.2.locals ≤ κ.2.2.2.2.2.locals) (hW : (S.map fun v => v.category).sum ≤ W) (hc : cs + κ'.2.2.2.2.2.cells ≤ κ.2.2.2.2.2.cells) (hs : ss + κ'.2.2.2.2.2.slots ≤ κ.2.2.2.2.2.slots)
    (hpd : parseMethodDescriptor y.desc = some ⟨ps, rt⟩) (hlen : as.length = ps.length) (hS : S0 = as.reverse ++ .ref a :: S) (hL : L.size = κ.2.1) (hd : decode κ.1 pc = .ok (.invokevirtual idx, 3)) (hp : pc + 3 = pc')
    (K : ∀ v T' h', oSt Z ω γ κ T' h' (cs + κ'.2.2.2.2.2.cells) (ss + κ'.2.2.2.2.2.slots) → Q' v h' → oWP ω γ κ Q T' pc' L (v.toList ++ S)) : oWP ω γ κ Q T pc L S0 := by
  have w1' := oSt_at X i1 w1
  have w2' := oSt_at X i2 w2
  have w3' := oSt_at X i3 w3
  have w4' := oSt_at X i4 w4
  have w5' := oSt_at X i5 w5
  have w6' := oSt_at X i6 w6
  obtain ⟨hx, hby, hml, hown, hnm, hr, hlk, hZ, hT1, hn0, hT, locs, Y, N⟩ := X
  subst hp ho hS
  obtain ⟨cq, q1, q2⟩ := E.cell
  obtain ⟨ck, kk, i1, i2, -, i4, -⟩ := Cond.instantiable_spec (mvT (args := #[]) hZ w6')
  have hni : kk.isInterface = false := (Bool.or_eq_false_iff.mp i4).1
  have hpr := Cond.privateMethod_at (mvP (args := #[]) hZ w3')
  obtain ⟨v, vm₁, ⟨T', L', k', n'⟩, -, Y', ⟨Lc, ⟨hF, hQ⟩, q1, q2, q3⟩, st⟩ := Y.privateBack hx (y := y) hown (mvT hZ w1') (mvT hZ w2') (selects_self_of_private i1 i2 hni hpr (mvT hZ w2') hy) hpr (mvT hZ w5') hy (backOf (W := W) (Q := fun v hh Lc => Fr ω.2.1 Lc ∧ Q' v hh) (bytes := κ'.1) (maxL := κ'.2.1) (ret := κ'.2.2.2.2.1) (rm := κ'.2.2.2.2.2) C hZ w5' w4' hf hl) (g := mkF γ.2.2.2.1 pc L (as.reverse ++ .ref a :: S)) rfl (by rw [hml]; exact hL) (Steps.refl _) (a := a) (by rw [hT]; exact q1) q2 (argsL := as) (rest := S) (lenOf hpd hlen) rfl (by show 2 * 0 + _ ≤ _; omega) (hb hby hd) (fun _ _ => ⟨rfl, hT, hc, hs⟩)
  dsimp only [Pt.U, Pt.locs, Pt.cells, Pt.slots] at Y' q1 q2 q3 st hQ
  subst q1 q2 q3
  obtain ⟨s₂, o, hs, r⟩ := K v T' T'.heap ⟨hx, hby, hml, hown, hnm, hr, hlk, hZ, hT1, hn0, rfl, _, Y', N.app hF⟩ hQ
  exact ⟨s₂, o, st.trans hs, r⟩
end Walk
/-- an array: its component type, its length, what it holds -/
def oA (Z : State) (h : Heap) (a : Addr) (ty : FieldType) (n : Nat) (f : Nat → Value) : Prop := ∃ c : Cell, Arr Z h a c ty ∧ c.slots.size = n ∧ n < 2147483648 ∧ ∀ i, i < n → c.slots[i]? = some (f i)
section Arrays
variable {Z : State} {h h' : Heap} {a b : Addr} {ty : FieldType} {n sl : Nat} {f g : Nat → Value} {v : Value} {ws : List Addr}
theorem oA.lt (A : oA Z h a ty n f) : a < h.size := by obtain ⟨c, A, -⟩ := A; exact A.lt
theorem oA.small (A : oA Z h a ty n f) : n < 2147483648 := by obtain ⟨c, -, -, q, -⟩ := A; exact q
theorem oA.ext (A : oA Z h a ty n f) (E : Ext h h') : oA Z h' a ty n f := by obtain ⟨c, A, r⟩ := A; exact ⟨c, A.ext E, r⟩
theorem oA.other (A : oA Z h b ty n f) (W : Wr h h' a sl v) (q : b ≠ a) : oA Z h' b ty n f := by obtain ⟨c, A, r⟩ := A; exact ⟨c, A.other W q, r⟩
theorem oA.keep (A : oA Z h a ty n f) (K : Keep h h' ws) (q : a ∉ ws) : oA Z h' a ty n f := by obtain ⟨c, A, r⟩ := A; exact ⟨c, ⟨K.2.1 a c A.1 q, A.2⟩, r⟩
theorem oA.congr (A : oA Z h a ty n f) (q : ∀ i, i < n → f i = g i) : oA Z h a ty n g := by obtain ⟨c, A, r1, r2, r3⟩ := A; exact ⟨c, A, r1, r2, fun i hi => by rw [← q i hi]; exact r3 i hi⟩
theorem oA.set (A : oA Z h a ty n f) (W : Wr h h' a sl v) : oA Z h' a ty n (fun i => if i = sl then v else f i) := by
  obtain ⟨c, A, r1, r2, r3⟩ := A
  have hlt : sl < n := by
    obtain ⟨c', h1, -, h3, -⟩ := W
    cases A.1.symm.trans h1
    omega
  refine ⟨c.setSlot sl v, A.same W, (sz_set _ _ _).trans r1, r2, fun i hi => ?_⟩
  by_cases e : i = sl
  · subst e; simp [Cell.setSlot, r1, hlt]
  · simp only [e, if_false]
    rw [← r3 i hi]
    exact Array.getElem?_setIfInBounds_ne (Ne.symm e)
/-- one place changed -/
def oUpd {α : Type} (g : Nat → α) (k : Nat) (v : α) : Nat → α := fun i => if i = k then v else g i
theorem oUpd_hit {α : Type} (g : Nat → α) (k : Nat) (v : α) : oUpd g k v k = v := if_pos rfl
theorem oUpd_miss {α : Type} (g : Nat → α) {k i : Nat} (v : α) (q : i ≠ k) : oUpd g k v i = g i := if_neg q
def oZI : Nat → Int32 := fun _ => 0
def oZJ : Nat → Int64 := fun _ => 0
theorem oA.setI {g : Nat → Int32} {x : Int32} (A : oA Z h a ty n (fun i => .int (g i))) (W : Wr h h' a sl (.int x)) : oA Z h' a ty n (fun i => .int (oUpd g sl x i)) :=
  (A.set W).congr fun i _ => by unfold oUpd; split <;> rfl
theorem oA.setJ {g : Nat → Int64} {x : Int64} (A : oA Z h a ty n (fun i => .long (g i))) (W : Wr h h' a sl (.long x)) : oA Z h' a ty n (fun i => .long (oUpd g sl x i)) :=
  (A.set W).congr fun i _ => by unfold oUpd; split <;> rfl
theorem oNd {l : List Addr} (h : l.Nodup) (i j : Nat) (hij : i ≠ j) {a b : Addr} (ha : l[i]? = some a) (hb : l[j]? = some b) : a ≠ b := by
  intro e; subst e
  obtain ⟨h1, h2⟩ := List.getElem?_eq_some_iff.mp ha
  obtain ⟨h3, h4⟩ := List.getElem?_eq_some_iff.mp hb
  have q := List.pairwise_iff_getElem.mp h
  rcases Nat.lt_or_gt_of_ne hij with r | r
  · exact q i j h1 h3 r (h2.trans h4.symm)
  · exact q j i h3 h1 r (h4.trans h2.symm)
theorem oA.new {cA : ClassId} {k : Int32} (A : Arr Z h a (newA cA ty k) ty) (q : 0 ≤ k.toInt) : oA Z h a ty k.toInt.toNat (fun _ => defaultValue ty) := by
  have e : k.toNatClampNeg = k.toInt.toNat := rfl
  have := k.toInt_lt
  refine ⟨_, A, (sz_new _ _ _).trans e, by omega, fun i hi => ?_⟩
  have : i < k.toNatClampNeg := by rw [e]; exact hi
  simp [newA, this]
theorem oInb {j : Int32} {c : Cell} (r1 : c.slots.size = n) (q : 0 ≤ j.toInt) (q' : j.toInt < n) : ¬ (j < 0 ∨ c.slots.size ≤ j.toNatClampNeg) := by
  have e : j.toNatClampNeg = j.toInt.toNat := rfl
  rw [Int32.lt_iff_toInt_lt, r1, e, o0]; omega
end Arrays
section Walk2
variable {Z : State} {ω : OW} {γ : OG} {κ : OM} {Q : Option Value → Heap → Prop} {T : State} {h : Heap} {cs ss : Nat} {pc : Nat} {L : Array Slot} {S : List Value}
theorem ow_alen (X : oSt Z ω γ κ T h cs ss) (pc' : Nat) {a : Addr} {ty : FieldType} {n : Nat} {f : Nat → Value} {v : Int32} (A : oA Z h a ty n f) (hd : decode κ.1 pc = .ok (.arraylength, 1)) (hp : pc + 1 = pc') (hv : v.toInt = n)
    (K : oWP ω γ κ Q T pc' L (.int v :: S)) : oWP ω γ κ Q T pc L (.ref a :: S) := by
  obtain ⟨hx, hby, -, -, -, -, -, hZ, -, -, hT, locs, Y, -⟩ := X
  obtain ⟨c, A, r1, r2, -⟩ := A
  subst hp
  obtain ⟨s₂, o, hs, r⟩ := K
  have e : c.slots.size.toInt32 = v := Int32.toInt_inj.mp (by rw [hv, len_toInt (by omega), r1])
  exact ⟨s₂, o, Y.arraylength hx (by rw [hT]; exact A.1) (State.isArrayOf_alike hZ.alike A.2.1) (g := mkF γ.2.2.2.1 pc L (.ref a :: S)) rfl rfl (hb hby hd) _ (by rw [e]; exact hs), r⟩
theorem ow_iaload (X : oSt Z ω γ κ T h cs ss) (pc' : Nat) {a : Addr} {n : Nat} {f : Nat → Value} {j : Int32} {v : Value} (A : oA Z h a .int n f) (hd : decode κ.1 pc = .ok (.iaload, 1)) (hp : pc + 1 = pc') (h0 : 0 ≤ j.toInt) (h1 : j.toInt < n) (hv : f j.toInt.toNat = v)
    (K : oWP ω γ κ Q T pc' L (v :: S)) : oWP ω γ κ Q T pc L (.int j :: .ref a :: S) := by
  obtain ⟨hx, hby, -, -, -, -, -, hZ, -, -, hT, locs, Y, -⟩ := X
  obtain ⟨c, A, r1, r2, r3⟩ := A
  subst hp hv
  obtain ⟨s₂, o, hs, r⟩ := K
  exact ⟨s₂, o, Y.iaload hx (by rw [hT]; exact A.1) (State.isArrayOf_alike hZ.alike A.2.1) A.2.2 (oInb r1 h0 h1) (r3 _ (by show j.toInt.toNat < _; omega)) (g := mkF γ.2.2.2.1 pc L (.int j :: .ref a :: S)) rfl rfl (hb hby hd) _ hs, r⟩
theorem ow_laload (X : oSt Z ω γ κ T h cs ss) (pc' : Nat) {a : Addr} {n : Nat} {f : Nat → Value} {j : Int32} {v : Value} (A : oA Z h a .long n f) (hd : decode κ.1 pc = .ok (.laload, 1)) (hp : pc + 1 = pc') (h0 : 0 ≤ j.toInt) (h1 : j.toInt < n) (hv : f j.toInt.toNat = v)
    (K : oWP ω γ κ Q T pc' L (v :: S)) : oWP ω γ κ Q T pc L (.int j :: .ref a :: S) := by
  obtain ⟨hx, hby, -, -, -, -, -, hZ, -, -, hT, locs, Y, -⟩ := X
  obtain ⟨c, A, r1, r2, r3⟩ := A
  subst hp hv
  obtain ⟨s₂, o, hs, r⟩ := K
  exact ⟨s₂, o, Y.laload hx (by rw [hT]; exact A.1) (State.isArrayOf_alike hZ.alike A.2.1) A.2.2 (oInb r1 h0 h1) (r3 _ (by show j.toInt.toNat < _; omega)) (g := mkF γ.2.2.2.1 pc L (.int j :: .ref a :: S)) rfl rfl (hb hby hd) _ hs, r⟩
theorem ow_caload (X : oSt Z ω γ κ T h cs ss) (pc' : Nat) {a : Addr} {n : Nat} {f : Nat → Value} {j : Int32} {v : Value} (A : oA Z h a .char n f) (hd : decode κ.1 pc = .ok (.caload, 1)) (hp : pc + 1 = pc') (h0 : 0 ≤ j.toInt) (h1 : j.toInt < n) (hv : f j.toInt.toNat = v)
    (K : oWP ω γ κ Q T pc' L (v :: S)) : oWP ω γ κ Q T pc L (.int j :: .ref a :: S) := by
  obtain ⟨hx, hby, -, -, -, -, -, hZ, -, -, hT, locs, Y, -⟩ := X
  obtain ⟨c, A, r1, r2, r3⟩ := A
  subst hp hv
  obtain ⟨s₂, o, hs, r⟩ := K
  exact ⟨s₂, o, Y.caload hx (by rw [hT]; exact A.1) (State.isArrayOf_alike hZ.alike A.2.1) A.2.2 (oInb r1 h0 h1) (r3 _ (by show j.toInt.toNat < _; omega)) (g := mkF γ.2.2.2.1 pc L (.int j :: .ref a :: S)) rfl rfl (hb hby hd) _ hs, r⟩
theorem ow_baload (X : oSt Z ω γ κ T h cs ss) (pc' : Nat) {a : Addr} {n : Nat} {f : Nat → Value} {j : Int32} {v : Value} (A : oA Z h a .byte n f) (hd : decode κ.1 pc = .ok (.baload, 1)) (hp : pc + 1 = pc') (h0 : 0 ≤ j.toInt) (h1 : j.toInt < n) (hv : f j.toInt.toNat = v)
    (K : oWP ω γ κ Q T pc' L (v :: S)) : oWP ω γ κ Q T pc L (.int j :: .ref a :: S) := by
  obtain ⟨hx, hby, -, -, -, -, -, hZ, -, -, hT, locs, Y, -⟩ := X
  obtain ⟨c, A, r1, r2, r3⟩ := A
  subst hp hv
  obtain ⟨s₂, o, hs, r⟩ := K
  exact ⟨s₂, o, Y.baloadBytes hx (by rw [hT]; exact A.1) (State.isArrayOf_alike hZ.alike A.2.1) A.2.2 (oInb r1 h0 h1) (r3 _ (by show j.toInt.toNat < _; omega)) (g := mkF γ.2.2.2.1 pc L (.int j :: .ref a :: S)) rfl rfl (hb hby hd) _ hs, r⟩
theorem ow_baloadZ (X : oSt Z ω γ κ T h cs ss) (pc' : Nat) {a : Addr} {n : Nat} {f : Nat → Value} {j : Int32} {v : Value} (A : oA Z h a .boolean n f) (hd : decode κ.1 pc = .ok (.baload, 1)) (hp : pc + 1 = pc') (h0 : 0 ≤ j.toInt) (h1 : j.toInt < n) (hv : f j.toInt.toNat = v)
    (K : oWP ω γ κ Q T pc' L (v :: S)) : oWP ω γ κ Q T pc L (.int j :: .ref a :: S) := by
  obtain ⟨hx, hby, -, -, -, -, -, hZ, -, -, hT, locs, Y, -⟩ := X
  obtain ⟨c, A, r1, r2, r3⟩ := A
  subst hp hv
  obtain ⟨s₂, o, hs, r⟩ := K
  exact ⟨s₂, o, Y.baloadBooleans hx (by rw [hT]; exact A.1) (State.isArrayOf_alike hZ.alike A.2.1) A.2.2 (oInb r1 h0 h1) (r3 _ (by show j.toInt.toNat < _; omega)) (g := mkF γ.2.2.2.1 pc L (.int j :: .ref a :: S)) rfl rfl (hb hby hd) _ hs, r⟩
theorem ow_aaload (X : oSt Z ω γ κ T h cs ss) (pc' : Nat) {a : Addr} {ty : FieldType} {n : Nat} {f : Nat → Value} {j : Int32} {v : Value} (A : oA Z h a ty n f) (ht : ty.isReference = true) (hd : decode κ.1 pc = .ok (.aaload, 1)) (hp : pc + 1 = pc') (h0 : 0 ≤ j.toInt) (h1 : j.toInt < n) (hv : f j.toInt.toNat = v)
    (K : oWP ω γ κ Q T pc' L (v :: S)) : oWP ω γ κ Q T pc L (.int j :: .ref a :: S) := by
  obtain ⟨hx, hby, -, -, -, -, -, hZ, -, -, hT, locs, Y, -⟩ := X
  obtain ⟨c, A, r1, r2, r3⟩ := A
  subst hp hv
  obtain ⟨s₂, o, hs, r⟩ := K
  exact ⟨s₂, o, Y.aaload hx (by rw [hT]; exact A.1) (State.isArrayOf_alike hZ.alike A.2.1) ht A.2.2 (oInb r1 h0 h1) (r3 _ (by show j.toInt.toNat < _; omega)) (g := mkF γ.2.2.2.1 pc L (.int j :: .ref a :: S)) rfl rfl (hb hby hd) _ hs, r⟩
theorem ow_iastore (X : oSt Z ω γ κ T h cs ss) (pc' : Nat) {a : Addr} {n : Nat} {f : Nat → Value} {j : Int32} {x : Int32} (A : oA Z h a .int n f) (ha : ω.2.1 ≤ a) (hd : decode κ.1 pc = .ok (.iastore, 1)) (hp : pc + 1 = pc') (h0 : 0 ≤ j.toInt) (h1 : j.toInt < n)
    (K : ∀ T' h', oSt Z ω γ κ T' h' cs ss → Wr h h' a j.toInt.toNat (.int x) → oWP ω γ κ Q T' pc' L S) : oWP ω γ κ Q T pc L (.int x :: .int j :: .ref a :: S) := by
  obtain ⟨hx, hby, hml, hown, hnm, hr, hlk, hZ, hT1, hn0, hT, locs, Y, N⟩ := X
  obtain ⟨c, A, r1, r2, r3⟩ := A
  subst hp
  obtain ⟨T', h', Y', e', W, st⟩ := stI Y hx hZ hT A (oInb r1 h0 h1) (g := mkF γ.2.2.2.1 pc L (.int x :: .int j :: .ref a :: S)) rfl rfl (hb hby hd)
  obtain ⟨s₂, o, hs, r⟩ := K T' h' ⟨hx, hby, hml, hown, hnm, hr, hlk, hZ, hT1, hn0, e', _, Y', Fr.snoc Y' N ha⟩ W
  exact ⟨s₂, o, st _ hs, r⟩
theorem ow_lastore (X : oSt Z ω γ κ T h cs ss) (pc' : Nat) {a : Addr} {n : Nat} {f : Nat → Value} {j : Int32} {x : Int64} (A : oA Z h a .long n f) (ha : ω.2.1 ≤ a) (hd : decode κ.1 pc = .ok (.lastore, 1)) (hp : pc + 1 = pc') (h0 : 0 ≤ j.toInt) (h1 : j.toInt < n)
    (K : ∀ T' h', oSt Z ω γ κ T' h' cs ss → Wr h h' a j.toInt.toNat (.long x) → oWP ω γ κ Q T' pc' L S) : oWP ω γ κ Q T pc L (.long x :: .int j :: .ref a :: S) := by
  obtain ⟨hx, hby, hml, hown, hnm, hr, hlk, hZ, hT1, hn0, hT, locs, Y, N⟩ := X
  obtain ⟨c, A, r1, r2, r3⟩ := A
  subst hp
  obtain ⟨T', h', Y', e', W, st⟩ := stJ Y hx hZ hT A (oInb r1 h0 h1) (g := mkF γ.2.2.2.1 pc L (.long x :: .int j :: .ref a :: S)) rfl rfl (hb hby hd)
  obtain ⟨s₂, o, hs, r⟩ := K T' h' ⟨hx, hby, hml, hown, hnm, hr, hlk, hZ, hT1, hn0, e', _, Y', Fr.snoc Y' N ha⟩ W
  exact ⟨s₂, o, st _ hs, r⟩
theorem ow_castore (X : oSt Z ω γ κ T h cs ss) (pc' : Nat) {a : Addr} {n : Nat} {f : Nat → Value} {j : Int32} {x : Int32} (A : oA Z h a .char n f) (ha : ω.2.1 ≤ a) (hd : decode κ.1 pc = .ok (.castore, 1)) (hp : pc + 1 = pc') (h0 : 0 ≤ j.toInt) (h1 : j.toInt < n)
    (K : ∀ T' h', oSt Z ω γ κ T' h' cs ss → Wr h h' a j.toInt.toNat (.int (nar .char x)) → oWP ω γ κ Q T' pc' L S) : oWP ω γ κ Q T pc L (.int x :: .int j :: .ref a :: S) := by
  obtain ⟨hx, hby, hml, hown, hnm, hr, hlk, hZ, hT1, hn0, hT, locs, Y, N⟩ := X
  obtain ⟨c, A, r1, r2, r3⟩ := A
  subst hp
  obtain ⟨T', h', Y', e', W, st⟩ := stC Y hx hZ hT A (oInb r1 h0 h1) (g := mkF γ.2.2.2.1 pc L (.int x :: .int j :: .ref a :: S)) rfl rfl (hb hby hd)
  obtain ⟨s₂, o, hs, r⟩ := K T' h' ⟨hx, hby, hml, hown, hnm, hr, hlk, hZ, hT1, hn0, e', _, Y', Fr.snoc Y' N ha⟩ W
  exact ⟨s₂, o, st _ hs, r⟩
theorem ow_bastore (X : oSt Z ω γ κ T h cs ss) (pc' : Nat) {a : Addr} {n : Nat} {f : Nat → Value} {j : Int32} {x : Int32} (A : oA Z h a .byte n f) (ha : ω.2.1 ≤ a) (hd : decode κ.1 pc = .ok (.bastore, 1)) (hp : pc + 1 = pc') (h0 : 0 ≤ j.toInt) (h1 : j.toInt < n)
    (K : ∀ T' h', oSt Z ω γ κ T' h' cs ss → Wr h h' a j.toInt.toNat (.int x.toInt8.toInt32) → oWP ω γ κ Q T' pc' L S) : oWP ω γ κ Q T pc L (.int x :: .int j :: .ref a :: S) := by
  obtain ⟨hx, hby, hml, hown, hnm, hr, hlk, hZ, hT1, hn0, hT, locs, Y, N⟩ := X
  obtain ⟨c, A, r1, r2, r3⟩ := A
  subst hp
  obtain ⟨T', h', Y', e', W, st⟩ := stB Y hx hZ hT A (oInb r1 h0 h1) (g := mkF γ.2.2.2.1 pc L (.int x :: .int j :: .ref a :: S)) rfl rfl (hb hby hd)
  obtain ⟨s₂, o, hs, r⟩ := K T' h' ⟨hx, hby, hml, hown, hnm, hr, hlk, hZ, hT1, hn0, e', _, Y', Fr.snoc Y' N ha⟩ W
  exact ⟨s₂, o, st _ hs, r⟩
theorem ow_bastoreZ (X : oSt Z ω γ κ T h cs ss) (pc' : Nat) {a : Addr} {n : Nat} {f : Nat → Value} {j : Int32} {x : Int32} (A : oA Z h a .boolean n f) (ha : ω.2.1 ≤ a) (hd : decode κ.1 pc = .ok (.bastore, 1)) (hp : pc + 1 = pc') (h0 : 0 ≤ j.toInt) (h1 : j.toInt < n)
    (K : ∀ T' h', oSt Z ω γ κ T' h' cs ss → Wr h h' a j.toInt.toNat (.int (nar .boolean x)) → oWP ω γ κ Q T' pc' L S) : oWP ω γ κ Q T pc L (.int x :: .int j :: .ref a :: S) := by
  obtain ⟨hx, hby, hml, hown, hnm, hr, hlk, hZ, hT1, hn0, hT, locs, Y, N⟩ := X
  obtain ⟨c, A, r1, r2, r3⟩ := A
  subst hp
  obtain ⟨T', h', Y', e', W, st⟩ := stZ Y hx hZ hT A (oInb r1 h0 h1) (g := mkF γ.2.2.2.1 pc L (.int x :: .int j :: .ref a :: S)) rfl rfl (hb hby hd)
  obtain ⟨s₂, o, hs, r⟩ := K T' h' ⟨hx, hby, hml, hown, hnm, hr, hlk, hZ, hT1, hn0, e', _, Y', Fr.snoc Y' N ha⟩ W
  exact ⟨s₂, o, st _ hs, r⟩
theorem ow_aastore (X : oSt Z ω γ κ T h cs ss) (pc' : Nat) {a : Addr} {ty : FieldType} {n : Nat} {f : Nat → Value} {j : Int32} {v : Value} (A : oA Z h a ty n f) (ht : ty.isReference = true) (F : Sto Z h a v) (ha : ω.2.1 ≤ a) (hd : decode κ.1 pc = .ok (.aastore, 1)) (hp : pc + 1 = pc') (h0 : 0 ≤ j.toInt) (h1 : j.toInt < n)
    (K : ∀ T' h', oSt Z ω γ κ T' h' cs ss → Wr h h' a j.toInt.toNat v → oWP ω γ κ Q T' pc' L S) : oWP ω γ κ Q T pc L (v :: .int j :: .ref a :: S) := by
  obtain ⟨hx, hby, hml, hown, hnm, hr, hlk, hZ, hT1, hn0, hT, locs, Y, N⟩ := X
  obtain ⟨c, A, r1, r2, r3⟩ := A
  subst hp
  obtain ⟨T', h', Y', e', W, st⟩ := stR Y hx hZ hT A (oInb r1 h0 h1) ht F (g := mkF γ.2.2.2.1 pc L (v :: .int j :: .ref a :: S)) rfl rfl (hb hby hd)
  obtain ⟨s₂, o, hs, r⟩ := K T' h' ⟨hx, hby, hml, hown, hnm, hr, hlk, hZ, hT1, hn0, e', _, Y', Fr.snoc Y' N ha⟩ W
  exact ⟨s₂, o, st _ hs, r⟩
theorem ow_newP (X : oSt Z ω γ κ T h cs ss) (pc' i : Nat) {aty : ArrayType} {k : Int32} {cap : Nat} (hw : tables_1[i]? = some (.arrayClass (newarray.typeOf aty))) (hd : decode κ.1 pc = .ok (.newarray aty, 2)) (hp : pc + 2 = pc') (h0 : 0 ≤ k.toInt) (h1 : k.toInt ≤ cap) (hb1 : cap * 8 ≤ 536870912) (hc : cs + 1 ≤ κ.2.2.2.2.2.cells) (hsl : ss + cap ≤ κ.2.2.2.2.2.slots)
    (K : ∀ T' h' a, a = h.size → oSt Z ω γ κ T' h' (cs + 1) (ss + cap) → Ext h h' → oA Z h' a (newarray.typeOf aty) k.toInt.toNat (fun _ => defaultValue (newarray.typeOf aty)) → ω.2.1 ≤ a → oWP ω γ κ Q T' pc' L (.ref a :: S)) : oWP ω γ κ Q T pc L (.int k :: S) := by
  have hw' := oSt_at X i hw
  have hN := oSt_n0 X
  obtain ⟨hx, hby, hml, hown, hnm, hr, hlk, hZ, hT1, hn0, hT, locs, Y, N⟩ := X
  subst hp
  have hk : ¬ k < 0 := by rw [Int32.lt_iff_toInt_lt, o0]; omega
  have hk' : k.toNatClampNeg ≤ cap := by show k.toInt.toNat ≤ cap; omega
  obtain ⟨T', h', cA, Y', e', E, A, st⟩ := newP Y hx hZ hw' hT (g := mkF γ.2.2.2.1 pc L (.int k :: S)) rfl (hb hby hd) rfl hk hk' hb1 hc hsl
  obtain ⟨s₂, o, hs, r⟩ := K T' h' h.size rfl ⟨hx, hby, hml, hown, hnm, hr, hlk, hZ, hT1, hn0, e', _, Y', N⟩ E (oA.new A h0) hN
  exact ⟨s₂, o, st _ hs, r⟩
/-- a new array's class takes objects of C -/
def oOv (Z : State) (h : Heap) (a : Addr) (C : String) : Prop := ∃ (c : Cell) (ty : FieldType), Arr Z h a c ty ∧ Ovr Z c.cls C
theorem oOv.ext {h' : Heap} {a : Addr} {C : String} (O : oOv Z h a C) (E : Ext h h') : oOv Z h' a C := by obtain ⟨c, ty, A, O⟩ := O; exact ⟨c, ty, A.ext E, O⟩
theorem oOv.wr {h' : Heap} {a b : Addr} {C : String} {sl : Nat} {v : Value} (O : oOv Z h a C) (W : Wr h h' b sl v) : oOv Z h' a C := by
  obtain ⟨c, ty, A, O⟩ := O
  by_cases e : a = b
  · subst e; exact ⟨_, ty, A.same W, O⟩
  · exact ⟨c, ty, A.other W e, O⟩
theorem oOv.keep {h' : Heap} {a : Addr} {C : String} {ws : List Addr} (O : oOv Z h a C) (K : Keep h h' ws) (q : a ∉ ws) : oOv Z h' a C := by
  obtain ⟨c, ty, A, O⟩ := O; exact ⟨c, ty, ⟨K.2.1 a c A.1 q, A.2⟩, O⟩
theorem oOv.sto {a y : Addr} {C : String} (O : oOv Z h a C) (I : Ins Z h y C true) : Sto Z h a (.ref y) := by obtain ⟨c, ty, A, O⟩ := O; exact Sto.of A O I
theorem ow_newR (X : oSt Z ω γ κ T h cs ss) (pc' i1 i2 : Nat) {own C : String} {idx : Nat} {k : Int32} {cap : Nat} (w1 : tables_1[i1]? = some (.classLink own idx C)) (ho : κ.2.2.1 = own) (w2 : tables_1[i2]? = some (.arrayOver (.object C))) (hd : decode κ.1 pc = .ok (.anewarray idx, 3)) (hp : pc + 3 = pc') (h0 : 0 ≤ k.toInt) (h1 : k.toInt ≤ cap) (hb1 : cap * 8 ≤ 536870912) (hc : cs + 1 ≤ κ.2.2.2.2.2.cells) (hsl : ss + cap ≤ κ.2.2.2.2.2.slots)
    (K : ∀ T' h' a, a = h.size → oSt Z ω γ κ T' h' (cs + 1) (ss + cap) → Ext h h' → oA Z h' a (.object C) k.toInt.toNat (fun _ => .null) → oOv Z h' a C → ω.2.1 ≤ a → oWP ω γ κ Q T' pc' L (.ref a :: S)) : oWP ω γ κ Q T pc L (.int k :: S) := by
  have w1' := oSt_at X i1 w1
  have w2' := oSt_at X i2 w2
  have hN := oSt_n0 X
  obtain ⟨hx, hby, hml, hown, hnm, hr, hlk, hZ, hT1, hn0, hT, locs, Y, N⟩ := X
  subst hp ho
  have hk : ¬ k < 0 := by rw [Int32.lt_iff_toInt_lt, o0]; omega
  have hk' : k.toNatClampNeg ≤ cap := by show k.toInt.toNat ≤ cap; omega
  obtain ⟨T', h', cA, Y', e', E, A, O, st⟩ := newR Y hx hZ hown w1' w2' hT (g := mkF γ.2.2.2.1 pc L (.int k :: S)) rfl (hb hby hd) rfl hk hk' hb1 hc hsl
  obtain ⟨s₂, o, hs, r⟩ := K T' h' h.size rfl ⟨hx, hby, hml, hown, hnm, hr, hlk, hZ, hT1, hn0, e', _, Y', N⟩ E (oA.new A h0) ⟨_, _, A, O⟩ hN
  exact ⟨s₂, o, st _ hs, r⟩
end Walk2
section WalkD
variable {Z : State} {ω : OW} {γ : OG} {κ : OM} {Q : Option Value → Heap → Prop} {T : State} {h : Heap} {cs ss : Nat} {pc : Nat} {L : Array Slot} {S : List Value}
theorem ow_dconst0 (X : oSt Z ω γ κ T h cs ss) (pc' : Nat) (v : UInt64) (hd : decode κ.1 pc = .ok (.dconst 0, 1)) (hp : pc + 1 = pc') (hv : FP.dconst0 = v)
    (K : oWP ω γ κ Q T pc' L (.double v :: S)) : oWP ω γ κ Q T pc L (S) := by
  obtain ⟨hx, hby, -, -, -, -, -, -, -, -, -, locs, Y, -⟩ := X
  subst hp
  obtain ⟨s₂, o, hs, r⟩ := K
  exact ⟨s₂, o, XS.dconst0 Y.here hx rfl (hb hby hd) hv hs, r⟩
theorem ow_dcmp (X : oSt Z ω γ κ T h cs ss) (pc' : Nat) {op : CmpOp} {x y : UInt64} (v : Int32) (hd : decode κ.1 pc = .ok (.dcmp op, 1)) (hp : pc + 1 = pc') (hv : cmpValue (FP.dcmp x y) op = v)
    (K : oWP ω γ κ Q T pc' L (.int v :: S)) : oWP ω γ κ Q T pc L (.double y :: .double x :: S) := by
  obtain ⟨hx, hby, -, -, -, -, -, -, -, -, -, locs, Y, -⟩ := X
  subst hp
  obtain ⟨s₂, o, hs, r⟩ := K
  exact ⟨s₂, o, XS.dcmpS Y.here hx rfl (hb hby hd) rfl hv hs, r⟩
theorem ow_daload (X : oSt Z ω γ κ T h cs ss) (pc' : Nat) {a : Addr} {n : Nat} {f : Nat → Value} {j : Int32} {v : Value} (A : oA Z h a .double n f) (hd : decode κ.1 pc = .ok (.daload, 1)) (hp : pc + 1 = pc') (h0 : 0 ≤ j.toInt) (h1 : j.toInt < n) (hv : f j.toInt.toNat = v)
    (K : oWP ω γ κ Q T pc' L (v :: S)) : oWP ω γ κ Q T pc L (.int j :: .ref a :: S) := by
  obtain ⟨hx, hby, -, -, -, -, -, hZ, -, -, hT, locs, Y, -⟩ := X
  obtain ⟨c, A, r1, r2, r3⟩ := A
  subst hp hv
  obtain ⟨s₂, o, hs, r⟩ := K
  exact ⟨s₂, o, Y.daload hx (by rw [hT]; exact A.1) (State.isArrayOf_alike hZ.alike A.2.1) A.2.2 (oInb r1 h0 h1) (r3 _ (by show j.toInt.toNat < _; omega)) (g := mkF γ.2.2.2.1 pc L (.int j :: .ref a :: S)) rfl rfl (hb hby hd) _ hs, r⟩
theorem ow_retD (X : oSt Z ω γ κ T h cs ss) {z : UInt64} (hret : κ.2.2.2.2.1 = some .double) (hd : decode κ.1 pc = .ok (.dreturn, 1)) (hc : cs ≤ κ.2.2.2.2.2.cells) (hsl : ss ≤ κ.2.2.2.2.2.slots) (hQ : Q (some (.double z)) h) : oWP ω γ κ Q T pc L (.double z :: S) :=
  ow_ret X hret rfl (Or.inr (Or.inr (Or.inl ⟨rfl, rfl, z, rfl⟩))) hd hc hsl hQ
end WalkD
abbrev own_u (d : Int32) : Int32 := (d.toUInt32 >>> ((6 : Int32) &&& 31).toUInt32).toInt32
def own_m (d : Int32) : Int64 := (1 : Int64) <<< (d &&& 0x3f).toInt64
def own_W (W : Nat → Int64) (d : Int32) : Nat → Int64 := oUpd W (own_u d).toInt.toNat (W (own_u d).toInt.toNat ||| own_m d)
def own_b (W : Nat → Int64) (x : Nat) : Bool := (W (x / 64)).toBitVec.getLsbD (x % 64)
theorem own_u_eq (d : Int32) (h : 0 ≤ d.toInt) : (own_u d).toInt = d.toInt / 64 := by
  have e := c_iushr d 6 6 (by decide) (by decide); have r := rng32 d
  have p : ((2 ^ 6 : Nat) : Int) = 64 := by decide
  rw [p] at e
  rw [e, Int.emod_eq_of_lt h (by omega)]
theorem own_un (d : Int32) (h : 0 ≤ d.toInt) : (own_u d).toInt.toNat = d.toInt.toNat / 64 := by
  have e := own_u_eq d h; rw [e]; omega
theorem own_mb (d : Int32) (h : 0 ≤ d.toInt) : (own_m d).toBitVec = BitVec.twoPow 64 (d.toInt.toNat % 64) := by
  have hk : d.toBitVec.toNat % 64 = d.toInt.toNat % 64 := by
    have e : d.toInt = d.toBitVec.toInt := rfl
    have t := d.toBitVec.toInt_eq_toNat_cond
    rw [← e] at t
    split at t
    · omega
    · have := d.toBitVec.isLt; omega
  obtain ⟨e, hk'⟩ := sm64 d _ hk
  show (1 : Int64).toBitVec <<< ((d &&& 0x3f).toInt64.toBitVec.smod 64) = _
  rw [BitVec.shiftLeft_eq', e, smod64 _ hk']
  rfl
theorem own_e0 (x : Int64) : x.toInt = 0 ↔ x.toBitVec = 0#64 := by
  constructor
  · intro q
    have : x = 0 := Int64.toInt_inj.mp q
    rw [this]; rfl
  · intro q
    have : x = 0 := Int64.toBitVec_inj.mp q
    rw [this]; rfl
theorem own_and (W : Nat → Int64) (d : Int32) (h : 0 ≤ d.toInt) : (W (own_u d).toInt.toNat &&& own_m d).toInt = 0 ↔ own_b W d.toInt.toNat = false := by
  rw [own_un d h, own_e0]
  unfold own_b
  show (W _).toBitVec &&& (own_m d).toBitVec = 0#64 ↔ _
  rw [own_mb d h, BitVec.and_twoPow]
  have hk : d.toInt.toNat % 64 < 64 := by omega
  generalize d.toInt.toNat % 64 = k at hk ⊢
  cases q : (W (d.toInt.toNat / 64)).toBitVec.getLsbD k
  · simp
  · simp only [if_true]
    constructor
    · intro z
      have z2 := congrArg (fun v => v.getLsbD k) z
      simp only [BitVec.getLsbD_twoPow, BitVec.getLsbD_zero] at z2
      simp [hk] at z2
    · intro z; cases z
theorem own_bW (W : Nat → Int64) (d : Int32) (x : Nat) (h : 0 ≤ d.toInt) : own_b (own_W W d) x = (own_b W x || decide (x = d.toInt.toNat)) := by
  unfold own_b own_W
  rw [own_un d h]
  by_cases q : x / 64 = d.toInt.toNat / 64
  · rw [q, oUpd_hit]
    show ((W _).toBitVec ||| (own_m d).toBitVec).getLsbD _ = _
    rw [own_mb d h, BitVec.getLsbD_or, BitVec.getLsbD_twoPow]
    have e1 : decide (d.toInt.toNat % 64 < 64) = true := decide_eq_true (by omega)
    have e2 : decide (d.toInt.toNat % 64 = x % 64) = decide (x = d.toInt.toNat) := decide_eq_decide.mpr (by omega)
    rw [e1, e2, Bool.true_and]
  · rw [oUpd_miss _ _ q, decide_eq_false (fun e => q (by rw [e])), Bool.or_false]
theorem own_Wset (W : Nat → Int64) (d : Int32) (k : Nat) (h : 0 ≤ d.toInt) (hb : own_b W d.toInt.toNat = true) : own_W W d k = W k := by
  unfold own_W
  by_cases q : k = (own_u d).toInt.toNat
  · rw [q, oUpd_hit]
    have hb' : (W (own_u d).toInt.toNat).toBitVec.getLsbD (d.toInt.toNat % 64) = true := by rw [own_un d h]; exact hb
    apply Int64.toBitVec_inj.mp
    show (W _).toBitVec ||| (own_m d).toBitVec = _
    rw [own_mb d h]
    apply BitVec.eq_of_getLsbD_eq
    intro i hi
    rw [BitVec.getLsbD_or, BitVec.getLsbD_twoPow]
    by_cases e : d.toInt.toNat % 64 = i
    · rw [← e, hb', Bool.true_or]
    · rw [decide_eq_false e, Bool.and_false, Bool.or_false]
  · exact oUpd_miss _ _ q
theorem own_zero (x : Nat) : own_b oZJ x = false := by
  show (0#64).getLsbD _ = false
  exact BitVec.getLsbD_zero
theorem own_nz (x a : Int32) (hx : 0 ≤ x.toInt) (ha : 0 ≤ a.toInt) : decide (x.toInt.toNat = a.toInt.toNat) = decide (x.toInt = a.toInt) := decide_eq_decide.mpr (by omega)
theorem own_bv1 (a x : Int32) (ha : 0 ≤ a.toInt) (hx : 0 ≤ x.toInt) : own_b (own_W oZJ a) x.toInt.toNat = decide (x.toInt = a.toInt) := by
  rw [own_bW _ _ _ ha, own_zero, Bool.false_or, own_nz x a hx ha]
theorem own_bv2 (a b x : Int32) (ha : 0 ≤ a.toInt) (hb : 0 ≤ b.toInt) (hx : 0 ≤ x.toInt) : own_b (own_W (own_W oZJ a) b) x.toInt.toNat = (decide (x.toInt = a.toInt) || decide (x.toInt = b.toInt)) := by
  rw [own_bW _ _ _ hb, own_bv1 a x ha hx, own_nz x b hx hb]
theorem own_bv3 (a b c x : Int32) (ha : 0 ≤ a.toInt) (hb : 0 ≤ b.toInt) (hc : 0 ≤ c.toInt) (hx : 0 ≤ x.toInt) : own_b (own_W (own_W (own_W oZJ a) b) c) x.toInt.toNat = (decide (x.toInt = a.toInt) || decide (x.toInt = b.toInt) || decide (x.toInt = c.toInt)) := by
  rw [own_bW _ _ _ hc, own_bv2 a b x ha hb hx, own_nz x c hx hc]
theorem own_mm (d : Int32) : own_m d = (1 : Int64) <<< ((d &&& (63 : Int32)) &&& 0x3f).toInt64 := by
  unfold own_m
  rw [Int32.and_assoc, show ((63 : Int32) &&& 0x3f) = 0x3f from by decide]
theorem own_w1 {W : Nat → Int64} {d K : Int32} {x : Int64} (h : W K.toInt.toNat = x) (q : (own_u d).toInt = K.toInt) : own_W W d K.toInt.toNat = x ||| (1 : Int64) <<< ((d &&& (63 : Int32)) &&& 0x3f).toInt64 := by
  unfold own_W
  rw [q, oUpd_hit, h, own_mm]
theorem own_w0 {W : Nat → Int64} {d K : Int32} {x : Int64} (h0 : 0 ≤ (own_u d).toInt) (h1 : 0 ≤ K.toInt) (h : W K.toInt.toNat = x) (q : (own_u d).toInt ≠ K.toInt) : own_W W d K.toInt.toNat = x := by
  unfold own_W
  rw [oUpd_miss _ _ (by omega), h]
theorem own_ui {d : Int32} (h : 0 ≤ d.toInt) : 0 ≤ (own_u d).toInt := by have := own_u_eq d h; omega
theorem own_uj {d n nw : Int32} (h : 0 ≤ d.toInt) (h1 : d.toInt < n.toInt) (h2 : n.toInt ≤ 64 * nw.toInt) : (own_u d).toInt < (nw.toInt.toNat : Int) := by have := own_u_eq d h; omega
theorem own_nw (n : Int32) (h0 : 1 ≤ n.toInt) (h1 : n.toInt ≤ 256) : 0 ≤ (own_u (n + (63 : Int32))).toInt ∧ (own_u (n + (63 : Int32))).toInt ≤ 4 ∧ n.toInt ≤ 64 * (own_u (n + (63 : Int32))).toInt := by
  have e := c_iadd n 63; have r := rng32 (n + 63); have k : (63 : Int32).toInt = 63 := rfl
  have q : (n + (63 : Int32)).toInt = n.toInt + 63 := by omega
  have u := own_u_eq (n + (63 : Int32)) (by omega)
  rw [q] at u
  rw [u]; omega
theorem own_nz0 (n : Int32) (h : 1 ≤ n.toInt) : n ≠ 0 := by intro e; rw [e] at h; exact absurd h (by decide)
theorem own_md (x n : Int32) (h : 1 ≤ n.toInt) : 0 ≤ ((x &&& (2147483647 : Int32)) % n).toInt ∧ ((x &&& (2147483647 : Int32)) % n).toInt < n.toInt := by
  have h1 := (c_andS x 2147483647).2.2 (by decide)
  have := (c_iremV (x &&& 2147483647) n).1 h1 (by omega)
  omega
theorem own_size (x : Int32) : 1 ≤ ((1 : Int32) + (x &&& (255 : Int32))).toInt ∧ ((1 : Int32) + (x &&& (255 : Int32))).toInt ≤ 256 := by
  have h := c_and x 255 (by decide); have k : (255 : Int32).toInt = 255 := rfl; have k1 : (1 : Int32).toInt = 1 := rfl
  have e := c_iadd 1 (x &&& 255); have r := rng32 ((1 : Int32) + (x &&& (255 : Int32)))
  omega
theorem own_nd4 {a b c d : Addr} (h1 : a ≠ b) (h2 : a ≠ c) (h3 : a ≠ d) (h4 : b ≠ c) (h5 : b ≠ d) (h6 : c ≠ d) : [a, b, c, d].Nodup := by simp [h1, h2, h3, h4, h5, h6]
def SAC (Z : State) (h : Heap) (a : Addr) (v0 v1 v2 v3 : Value) : Prop := Exa Z h a "com/example/multibern/multibern/rank/model/ScoreAccumulator" ∧ Fld Z h a "com/example/multibern/multibern/rank/model/ScoreAccumulator" "partialScores" "[D" v0 ∧ Fld Z h a "com/example/multibern/multibern/rank/model/ScoreAccumulator" "reached" "[J" v1 ∧ Fld Z h a "com/example/multibern/multibern/rank/model/ScoreAccumulator" "reachedDocuments" "[I" v2 ∧ Fld Z h a "com/example/multibern/multibern/rank/model/ScoreAccumulator" "reachedCount" "I" v3
theorem SAC.lt {Z : State} {h : Heap} {a : Addr} {v0 v1 v2 v3 : Value} (R : SAC Z h a v0 v1 v2 v3) : a < h.size := R.1.lt
theorem SAC.ext {Z : State} {h h' : Heap} {a : Addr} {v0 v1 v2 v3 : Value} (R : SAC Z h a v0 v1 v2 v3) (W : Ext h h') : SAC Z h' a v0 v1 v2 v3 := by
  obtain ⟨E, F0, F1, F2, F3⟩ := R
  exact ⟨E.ext W, F0.ext W, F1.ext W, F2.ext W, F3.ext W⟩
theorem SAC.other {Z : State} {h h' : Heap} {a b : Addr} {sl : Nat} {w : Value} {v0 v1 v2 v3 : Value} (R : SAC Z h a v0 v1 v2 v3) (W : Wr h h' b sl w) (q : a ≠ b) : SAC Z h' a v0 v1 v2 v3 := by
  obtain ⟨E, F0, F1, F2, F3⟩ := R
  exact ⟨E.wr W, F0.other W (Or.inl q), F1.other W (Or.inl q), F2.other W (Or.inl q), F3.other W (Or.inl q)⟩
theorem SAC.keep {Z : State} {h h' : Heap} {a : Addr} {ws : List Addr} {v0 v1 v2 v3 : Value} (R : SAC Z h a v0 v1 v2 v3) (K : Keep h h' ws) (q : a ∉ ws) : SAC Z h' a v0 v1 v2 v3 := by
  obtain ⟨E, F0, F1, F2, F3⟩ := R
  exact ⟨E.keep K, F0.keep K q, F1.keep K q, F2.keep K q, F3.keep K q⟩
theorem SAC.set_partialScores {Z : State} {h h' : Heap} {a : Addr} {a0 : Array Value} {w : Value} {v0 v1 v2 v3 : Value} (hw : ∀ d ∈ tables_1, d.before a0 Z = true) (R : SAC Z h a v0 v1 v2 v3) (W : Wr h h' a (RoadKit.slotOf Z "com/example/multibern/multibern/rank/model/ScoreAccumulator" "partialScores" "[D") w) : SAC Z h' a w v1 v2 v3 := by
  obtain ⟨E, F0, F1, F2, F3⟩ := R
  exact ⟨E.wr W, F0.same W, F1.other W (Or.inr (slot_ne (C := "com/example/multibern/multibern/rank/model/ScoreAccumulator") (Or.inr (hw _ (List.mem_of_getElem? (i := 15) rfl))) (Or.inr (hw _ (List.mem_of_getElem? (i := 12) rfl))) (by decide) (t := (.array .long)) (t' := (.array .double)) (by decide) (by decide))), F2.other W (Or.inr (slot_ne (C := "com/example/multibern/multibern/rank/model/ScoreAccumulator") (Or.inl (hw _ (List.mem_of_getElem? (i := 22) rfl))) (Or.inr (hw _ (List.mem_of_getElem? (i := 12) rfl))) (by decide) (t := (.array .int)) (t' := (.array .double)) (by decide) (by decide))), F3.other W (Or.inr (slot_ne (C := "com/example/multibern/multibern/rank/model/ScoreAccumulator") (Or.inl (hw _ (List.mem_of_getElem? (i := 29) rfl))) (Or.inr (hw _ (List.mem_of_getElem? (i := 12) rfl))) (by decide) (t := .int) (t' := (.array .double)) (by decide) (by decide)))⟩
theorem SAC.set_reached {Z : State} {h h' : Heap} {a : Addr} {a0 : Array Value} {w : Value} {v0 v1 v2 v3 : Value} (hw : ∀ d ∈ tables_1, d.before a0 Z = true) (R : SAC Z h a v0 v1 v2 v3) (W : Wr h h' a (RoadKit.slotOf Z "com/example/multibern/multibern/rank/model/ScoreAccumulator" "reached" "[J") w) : SAC Z h' a v0 w v2 v3 := by
  obtain ⟨E, F0, F1, F2, F3⟩ := R
  exact ⟨E.wr W, F0.other W (Or.inr (slot_ne (C := "com/example/multibern/multibern/rank/model/ScoreAccumulator") (Or.inr (hw _ (List.mem_of_getElem? (i := 12) rfl))) (Or.inr (hw _ (List.mem_of_getElem? (i := 15) rfl))) (by decide) (t := (.array .double)) (t' := (.array .long)) (by decide) (by decide))), F1.same W, F2.other W (Or.inr (slot_ne (C := "com/example/multibern/multibern/rank/model/ScoreAccumulator") (Or.inl (hw _ (List.mem_of_getElem? (i := 22) rfl))) (Or.inr (hw _ (List.mem_of_getElem? (i := 15) rfl))) (by decide) (t := (.array .int)) (t' := (.array .long)) (by decide) (by decide))), F3.other W (Or.inr (slot_ne (C := "com/example/multibern/multibern/rank/model/ScoreAccumulator") (Or.inl (hw _ (List.mem_of_getElem? (i := 29) rfl))) (Or.inr (hw _ (List.mem_of_getElem? (i := 15) rfl))) (by decide) (t := .int) (t' := (.array .long)) (by decide) (by decide)))⟩
theorem SAC.set_reachedDocuments {Z : State} {h h' : Heap} {a : Addr} {a0 : Array Value} {w : Value} {v0 v1 v2 v3 : Value} (hw : ∀ d ∈ tables_1, d.before a0 Z = true) (R : SAC Z h a v0 v1 v2 v3) (W : Wr h h' a (RoadKit.slotOf Z "com/example/multibern/multibern/rank/model/ScoreAccumulator" "reachedDocuments" "[I") w) : SAC Z h' a v0 v1 w v3 := by
  obtain ⟨E, F0, F1, F2, F3⟩ := R
  exact ⟨E.wr W, F0.other W (Or.inr (slot_ne (C := "com/example/multibern/multibern/rank/model/ScoreAccumulator") (Or.inr (hw _ (List.mem_of_getElem? (i := 12) rfl))) (Or.inl (hw _ (List.mem_of_getElem? (i := 22) rfl))) (by decide) (t := (.array .double)) (t' := (.array .int)) (by decide) (by decide))), F1.other W (Or.inr (slot_ne (C := "com/example/multibern/multibern/rank/model/ScoreAccumulator") (Or.inr (hw _ (List.mem_of_getElem? (i := 15) rfl))) (Or.inl (hw _ (List.mem_of_getElem? (i := 22) rfl))) (by decide) (t := (.array .long)) (t' := (.array .int)) (by decide) (by decide))), F2.same W, F3.other W (Or.inr (slot_ne (C := "com/example/multibern/multibern/rank/model/ScoreAccumulator") (Or.inl (hw _ (List.mem_of_getElem? (i := 29) rfl))) (Or.inl (hw _ (List.mem_of_getElem? (i := 22) rfl))) (by decide) (t := .int) (t' := (.array .int)) (by decide) (by decide)))⟩
theorem SAC.set_reachedCount {Z : State} {h h' : Heap} {a : Addr} {a0 : Array Value} {w : Value} {v0 v1 v2 v3 : Value} (hw : ∀ d ∈ tables_1, d.before a0 Z = true) (R : SAC Z h a v0 v1 v2 v3) (W : Wr h h' a (RoadKit.slotOf Z "com/example/multibern/multibern/rank/model/ScoreAccumulator" "reachedCount" "I") w) : SAC Z h' a v0 v1 v2 w := by
  obtain ⟨E, F0, F1, F2, F3⟩ := R
  exact ⟨E.wr W, F0.other W (Or.inr (slot_ne (C := "com/example/multibern/multibern/rank/model/ScoreAccumulator") (Or.inr (hw _ (List.mem_of_getElem? (i := 12) rfl))) (Or.inl (hw _ (List.mem_of_getElem? (i := 29) rfl))) (by decide) (t := (.array .double)) (t' := .int) (by decide) (by decide))), F1.other W (Or.inr (slot_ne (C := "com/example/multibern/multibern/rank/model/ScoreAccumulator") (Or.inr (hw _ (List.mem_of_getElem? (i := 15) rfl))) (Or.inl (hw _ (List.mem_of_getElem? (i := 29) rfl))) (by decide) (t := (.array .long)) (t' := .int) (by decide) (by decide))), F2.other W (Or.inr (slot_ne (C := "com/example/multibern/multibern/rank/model/ScoreAccumulator") (Or.inl (hw _ (List.mem_of_getElem? (i := 22) rfl))) (Or.inl (hw _ (List.mem_of_getElem? (i := 29) rfl))) (by decide) (t := (.array .int)) (t' := .int) (by decide) (by decide))), F3.same W⟩
theorem d3_0 : decode jdk_29_method_69_code 0 = .ok (.iload_n 0, 1) := by decide +kernel
theorem d3_1 : decode jdk_29_method_69_code 1 = .ok (.iload_n 1, 1) := by decide +kernel
theorem d3_2 : decode jdk_29_method_69_code 2 = .ok (.if_icmp .gt 7, 3) := by decide +kernel
theorem d3_5 : decode jdk_29_method_69_code 5 = .ok (.iload_n 0, 1) := by decide +kernel
theorem d3_6 : decode jdk_29_method_69_code 6 = .ok (.goto 4, 3) := by decide +kernel
theorem d3_9 : decode jdk_29_method_69_code 9 = .ok (.iload_n 1, 1) := by decide +kernel
theorem d3_10 : decode jdk_29_method_69_code 10 = .ok (.ireturn, 1) := by decide +kernel
def k3 : OM := (jdk_29_method_69_code, 2, "java/lang/Math", "min", (some .int), { frames := 0, cells := 0, slots := 0, locals := 0 })
theorem pn3 : plainFor (⟨"java/lang/Math", "min", "(II)I"⟩ : MethodName) = true := by decide +kernel
theorem pd3 : parseMethodDescriptor "(II)I" = some ⟨[.int, .int], (some .int)⟩ := by decide +kernel
set_option maxRecDepth 65536 in
set_option maxHeartbeats 4000000 in
theorem C_min {Z : State} {ω : OW} {h : Heap} (hw_ : ∀ d ∈ tables_1, d.before ω.2.2 Z = true) (hn_ : ω.2.1 ≤ h.size) (x y : Int32) (hx : x.toInt ≤ y.toInt) :
    oC Z ω (⟨"java/lang/Math", "min", "(II)I"⟩ : MethodName) k3 [] #[.int x, .int y] h (fun v h' => v = some (.int x) ∧ h = h') := by
  refine oC_of hw_ hn_ pn3 rfl rfl (L := #[.val (.int x), .val (.int y)]) (fun m => by first | (simp [entryFrame, mkF, argsToLocals, Value.category, k3]; done) | rfl) ?_
  intro γ T X
  refine ow_iloadN X 1 d3_0 rfl rfl ?_
  refine ow_iloadN X 2 d3_1 rfl rfl ?_
  refine ow_icmp_gt X 5 9 d3_2 rfl rfl (fun (c2 : y.toInt < x.toInt) => by exfalso; omega) (fun (c2 : x.toInt ≤ y.toInt) => ?_)
  refine ow_iloadN X 6 d3_5 rfl rfl ?_
  refine ow_goto X 10 d3_6 rfl ?_
  refine ow_retI X rfl d3_10 (by decide) (by decide) ?_
  exact ⟨rfl, rfl⟩
theorem d1_0 : decode prog_116_method_1_code 0 = .ok (.aload_n 0, 1) := by decide +kernel
theorem d1_1 : decode prog_116_method_1_code 1 = .ok (.invokespecial 1, 3) := by decide +kernel
theorem d1_4 : decode prog_116_method_1_code 4 = .ok (.aload_n 0, 1) := by decide +kernel
theorem d1_5 : decode prog_116_method_1_code 5 = .ok (.iload_n 1, 1) := by decide +kernel
theorem d1_6 : decode prog_116_method_1_code 6 = .ok (.newarray .double, 2) := by decide +kernel
theorem d1_8 : decode prog_116_method_1_code 8 = .ok (.putfield 7, 3) := by decide +kernel
theorem d1_11 : decode prog_116_method_1_code 11 = .ok (.aload_n 0, 1) := by decide +kernel
theorem d1_12 : decode prog_116_method_1_code 12 = .ok (.iload_n 1, 1) := by decide +kernel
theorem d1_13 : decode prog_116_method_1_code 13 = .ok (.bipush 63, 2) := by decide +kernel
theorem d1_15 : decode prog_116_method_1_code 15 = .ok (.iadd, 1) := by decide +kernel
theorem d1_16 : decode prog_116_method_1_code 16 = .ok (.bipush 6, 2) := by decide +kernel
theorem d1_18 : decode prog_116_method_1_code 18 = .ok (.iushr, 1) := by decide +kernel
theorem d1_19 : decode prog_116_method_1_code 19 = .ok (.newarray .long, 2) := by decide +kernel
theorem d1_21 : decode prog_116_method_1_code 21 = .ok (.putfield 13, 3) := by decide +kernel
theorem d1_24 : decode prog_116_method_1_code 24 = .ok (.aload_n 0, 1) := by decide +kernel
theorem d1_25 : decode prog_116_method_1_code 25 = .ok (.iload_n 1, 1) := by decide +kernel
theorem d1_26 : decode prog_116_method_1_code 26 = .ok (.sipush 1024, 3) := by decide +kernel
theorem d1_29 : decode prog_116_method_1_code 29 = .ok (.invokestatic 17, 3) := by decide +kernel
theorem d1_32 : decode prog_116_method_1_code 32 = .ok (.newarray .int, 2) := by decide +kernel
theorem d1_34 : decode prog_116_method_1_code 34 = .ok (.putfield 23, 3) := by decide +kernel
theorem d1_37 : decode prog_116_method_1_code 37 = .ok (.return_, 1) := by decide +kernel
def k1 : OM := (prog_116_method_1_code, 2, "com/example/multibern/multibern/rank/model/ScoreAccumulator", "<init>", none, { frames := 1, cells := 3, slots := 516, locals := 14 })
theorem pn1 : plainFor (⟨"com/example/multibern/multibern/rank/model/ScoreAccumulator", "<init>", "(I)V"⟩ : MethodName) = true := plainFor_of_name (by first | (simp [plainName, overriddenIn]; done) | decide +kernel)
theorem pd1 : parseMethodDescriptor "(I)V" = some ⟨[.int], none⟩ := by decide +kernel
set_option maxRecDepth 65536 in
set_option maxHeartbeats 4000000 in
theorem C_init {Z : State} {ω : OW} {h : Heap} (hw_ : ∀ d ∈ tables_1, d.before ω.2.2 Z = true) (hn_ : ω.2.1 ≤ h.size) (a : Addr) (n : Int32) (R0 : SAC Z h a .null .null .null (.int (0 : Int32))) (ga : ω.2.1 ≤ a) (hn : 1 ≤ n.toInt ∧ n.toInt ≤ 256) :
    oC Z ω (⟨"com/example/multibern/multibern/rank/model/ScoreAccumulator", "<init>", "(I)V"⟩ : MethodName) k1 [] #[.ref a, .int n] h (fun v h' => v = none ∧ ∃ (pd pw pi : Addr) (nw : Int32), Keep h h' [a] ∧ [a, pd, pw, pi].Nodup ∧ ω.2.1 ≤ pw ∧ ω.2.1 ≤ pi ∧ 0 ≤ nw.toInt ∧ n.toInt ≤ 64 * nw.toInt ∧ SAC Z h' a (.ref pd) (.ref pw) (.ref pi) (.int (0 : Int32)) ∧ oA Z h' pd .double n.toInt.toNat (fun _ => .double (0 : UInt64)) ∧ oA Z h' pw .long nw.toInt.toNat (fun i_ => .long (oZJ i_)) ∧ oA Z h' pi .int n.toInt.toNat (fun i_ => .int (oZI i_))) := by
  refine oC_of hw_ hn_ pn1 rfl rfl (L := #[.val (.ref a), .val (.int n)]) (fun m => by first | (simp [entryFrame, mkF, argsToLocals, Value.category, k1]; done) | rfl) ?_
  intro γ T X
  refine ow_aloadN X 1 d1_0 rfl rfl rfl ?_
  refine ow_initO X 4 7 8 9 rfl rfl rfl rfl d1_1 rfl rfl (by decide) (W := 0) (Nat.le_of_eq rfl) (by decide) ?_
  intro T_1 X_1
  refine ow_aloadN X_1 5 d1_4 rfl rfl rfl ?_
  refine ow_iloadN X_1 6 d1_5 rfl rfl ?_
  refine ow_newP X_1 8 10 (cap := 256) rfl d1_6 rfl (by omega) (by omega) (by decide) (by decide) (by decide) ?_
  intro T_2 h_2 a_2 q_2 X_2 E_2 A_2 g_2
  have ne_a_a_2 : a ≠ a_2 := by rw [q_2]; exact Nat.ne_of_lt R0.lt
  have ge_h_a_2 : h.size ≤ a_2 := by rw [q_2]; exact (Keep.refl h [a]).1
  have f3_0 : SAC Z h_2 a .null .null .null (.int (0 : Int32)) := R0.ext E_2
  have f3_1 : Keep h h_2 [a] := (Keep.refl h [a]).ext E_2
  have A_2 : oA Z h_2 a_2 .double n.toInt.toNat (fun _ => .double (0 : UInt64)) := A_2
  refine ow_putF X_2 11 11 2 rfl rfl f3_0.2.1 f3_0.1 (Or.inr ⟨oSt_at X_2 12 rfl, rfl, rfl⟩) rfl (ty := (.array .double)) (by decide) rfl rfl ga d1_8 rfl ?_
  intro T_4 h_4 X_4 W_4
  have f5_0 : SAC Z h_4 a (.ref a_2) .null .null (.int (0 : Int32)) := SAC.set_partialScores (oSt_w X_4) f3_0 W_4
  have f5_1 : Keep h h_4 [a] := f3_1.wr W_4 (Or.inl (List.mem_of_getElem? (i := 0) rfl))
  have f5_2 : oA Z h_4 a_2 .double n.toInt.toNat (fun _ => .double (0 : UInt64)) := A_2.other W_4 (Ne.symm ne_a_a_2)
  refine ow_aloadN X_4 12 d1_11 rfl rfl rfl ?_
  refine ow_iloadN X_4 13 d1_12 rfl rfl ?_
  refine ow_bipush X_4 15 (63 : Int32) d1_13 rfl rfl ?_
  refine ow_iadd X_4 16 d1_15 rfl ?_
  refine ow_bipush X_4 18 (6 : Int32) d1_16 rfl rfl ?_
  refine ow_iushr X_4 19 d1_18 rfl ?_
  have hq : 0 ≤ (((n + (63 : Int32)).toUInt32 >>> ((6 : Int32) &&& 31).toUInt32).toInt32).toInt ∧ (((n + (63 : Int32)).toUInt32 >>> ((6 : Int32) &&& 31).toUInt32).toInt32).toInt ≤ 4 ∧ n.toInt ≤ 64 * (((n + (63 : Int32)).toUInt32 >>> ((6 : Int32) &&& 31).toUInt32).toInt32).toInt := own_nw n hn.1 hn.2
  generalize ((n + (63 : Int32)).toUInt32 >>> ((6 : Int32) &&& 31).toUInt32).toInt32 = nw at hq ⊢
  refine ow_newP X_4 21 13 (cap := 4) rfl d1_19 rfl hq.1 (by omega) (by decide) (by decide) (by decide) ?_
  intro T_6 h_6 a_6 q_6 X_6 E_6 A_6 g_6
  have ne_a_a_6 : a ≠ a_6 := by rw [q_6]; exact Nat.ne_of_lt f5_0.lt
  have ge_h_a_6 : h.size ≤ a_6 := by rw [q_6]; exact f5_1.1
  have ne_a_2_a_6 : a_2 ≠ a_6 := by rw [q_6]; exact Nat.ne_of_lt f5_2.lt
  have f7_0 : SAC Z h_6 a (.ref a_2) .null .null (.int (0 : Int32)) := f5_0.ext E_6
  have f7_1 : Keep h h_6 [a] := f5_1.ext E_6
  have f7_2 : oA Z h_6 a_2 .double n.toInt.toNat (fun _ => .double (0 : UInt64)) := f5_2.ext E_6
  have A_6 : oA Z h_6 a_6 .long nw.toInt.toNat (fun i_ => .long (oZJ i_)) := A_6
  refine ow_putF X_6 24 14 2 rfl rfl f7_0.2.2.1 f7_0.1 (Or.inr ⟨oSt_at X_6 15 rfl, rfl, rfl⟩) rfl (ty := (.array .long)) (by decide) rfl rfl ga d1_21 rfl ?_
  intro T_8 h_8 X_8 W_8
  have f9_0 : SAC Z h_8 a (.ref a_2) (.ref a_6) .null (.int (0 : Int32)) := SAC.set_reached (oSt_w X_8) f7_0 W_8
  have f9_1 : Keep h h_8 [a] := f7_1.wr W_8 (Or.inl (List.mem_of_getElem? (i := 0) rfl))
  have f9_2 : oA Z h_8 a_2 .double n.toInt.toNat (fun _ => .double (0 : UInt64)) := f7_2.other W_8 (Ne.symm ne_a_a_2)
  have f9_3 : oA Z h_8 a_6 .long nw.toInt.toNat (fun i_ => .long (oZJ i_)) := A_6.other W_8 (Ne.symm ne_a_a_6)
  refine ow_aloadN X_8 25 d1_24 rfl rfl rfl ?_
  refine ow_iloadN X_8 26 d1_25 rfl rfl ?_
  refine ow_sipush X_8 29 (1024 : Int32) d1_26 rfl rfl ?_
  refine ow_callS X_8 32 16 17 18 19 (κ' := k3) (as := [.int n, .int (1024 : Int32)]) (S := [.ref a]) (W := 1) rfl rfl rfl rfl rfl (by decide) (C_min (oSt_w X_8) (oSt_n0 X_8) n (1024 : Int32) (by have : (1024 : Int32).toInt = 1024 := rfl; omega)) (by decide) (by decide) (Nat.le_of_eq rfl) (by decide) (by decide) pd3 rfl rfl rfl d1_29 rfl ?_
  intro v_10 T_10 h_10 X_10 q_10
  obtain ⟨rfl, rfl⟩ := q_10
  show oWP ω γ k1 _ T_10 32 #[.val (.ref a), .val (.int n)] [.int n, .ref a]
  refine ow_newP X_10 34 20 (cap := 256) rfl d1_32 rfl (by omega) (by omega) (by decide) (by decide) (by decide) ?_
  intro T_11 h_11 a_11 q_11 X_11 E_11 A_11 g_11
  have ne_a_a_11 : a ≠ a_11 := by rw [q_11]; exact Nat.ne_of_lt f9_0.lt
  have ge_h_a_11 : h.size ≤ a_11 := by rw [q_11]; exact f9_1.1
  have ne_a_2_a_11 : a_2 ≠ a_11 := by rw [q_11]; exact Nat.ne_of_lt f9_2.lt
  have ne_a_6_a_11 : a_6 ≠ a_11 := by rw [q_11]; exact Nat.ne_of_lt f9_3.lt
  have f12_0 : SAC Z h_11 a (.ref a_2) (.ref a_6) .null (.int (0 : Int32)) := f9_0.ext E_11
  have f12_1 : Keep h h_11 [a] := f9_1.ext E_11
  have f12_2 : oA Z h_11 a_2 .double n.toInt.toNat (fun _ => .double (0 : UInt64)) := f9_2.ext E_11
  have f12_3 : oA Z h_11 a_6 .long nw.toInt.toNat (fun i_ => .long (oZJ i_)) := f9_3.ext E_11
  have A_11 : oA Z h_11 a_11 .int n.toInt.toNat (fun i_ => .int (oZI i_)) := A_11
  refine ow_putF X_11 37 21 2 rfl rfl f12_0.2.2.2.1 f12_0.1 (Or.inl (oSt_at X_11 22 rfl)) rfl (ty := (.array .int)) (by decide) rfl rfl ga d1_34 rfl ?_
  intro T_13 h_13 X_13 W_13
  have f14_0 : SAC Z h_13 a (.ref a_2) (.ref a_6) (.ref a_11) (.int (0 : Int32)) := SAC.set_reachedDocuments (oSt_w X_13) f12_0 W_13
  have f14_1 : Keep h h_13 [a] := f12_1.wr W_13 (Or.inl (List.mem_of_getElem? (i := 0) rfl))
  have f14_2 : oA Z h_13 a_2 .double n.toInt.toNat (fun _ => .double (0 : UInt64)) := f12_2.other W_13 (Ne.symm ne_a_a_2)
  have f14_3 : oA Z h_13 a_6 .long nw.toInt.toNat (fun i_ => .long (oZJ i_)) := f12_3.other W_13 (Ne.symm ne_a_a_6)
  have f14_4 : oA Z h_13 a_11 .int n.toInt.toNat (fun i_ => .int (oZI i_)) := A_11.other W_13 (Ne.symm ne_a_a_11)
  refine ow_retV X_13 rfl d1_37 (by decide) (by decide) ?_
  exact ⟨rfl, a_2, a_6, a_11, nw, f14_1, own_nd4 ne_a_a_2 ne_a_a_6 ne_a_a_11 ne_a_2_a_6 ne_a_2_a_11 ne_a_6_a_11, g_6, g_11, hq.1, hq.2.2, f14_0, f14_2, f14_3, f14_4⟩
theorem d4_0 : decode prog_116_method_5_code 0 = .ok (.lconst 1, 1) := by decide +kernel
theorem d4_1 : decode prog_116_method_5_code 1 = .ok (.iload_n 1, 1) := by decide +kernel
theorem d4_2 : decode prog_116_method_5_code 2 = .ok (.lshl, 1) := by decide +kernel
theorem d4_3 : decode prog_116_method_5_code 3 = .ok (.lstore_n 2, 1) := by decide +kernel
theorem d4_4 : decode prog_116_method_5_code 4 = .ok (.aload_n 0, 1) := by decide +kernel
theorem d4_5 : decode prog_116_method_5_code 5 = .ok (.getfield 13, 3) := by decide +kernel
theorem d4_8 : decode prog_116_method_5_code 8 = .ok (.iload_n 1, 1) := by decide +kernel
theorem d4_9 : decode prog_116_method_5_code 9 = .ok (.bipush 6, 2) := by decide +kernel
theorem d4_11 : decode prog_116_method_5_code 11 = .ok (.iushr, 1) := by decide +kernel
theorem d4_12 : decode prog_116_method_5_code 12 = .ok (.laload, 1) := by decide +kernel
theorem d4_13 : decode prog_116_method_5_code 13 = .ok (.lload_n 2, 1) := by decide +kernel
theorem d4_14 : decode prog_116_method_5_code 14 = .ok (.land, 1) := by decide +kernel
theorem d4_15 : decode prog_116_method_5_code 15 = .ok (.lconst 0, 1) := by decide +kernel
theorem d4_16 : decode prog_116_method_5_code 16 = .ok (.lcmp, 1) := by decide +kernel
theorem d4_17 : decode prog_116_method_5_code 17 = .ok (.ifCond .ne 33, 3) := by decide +kernel
theorem d4_20 : decode prog_116_method_5_code 20 = .ok (.aload_n 0, 1) := by decide +kernel
theorem d4_21 : decode prog_116_method_5_code 21 = .ok (.getfield 13, 3) := by decide +kernel
theorem d4_24 : decode prog_116_method_5_code 24 = .ok (.iload_n 1, 1) := by decide +kernel
theorem d4_25 : decode prog_116_method_5_code 25 = .ok (.bipush 6, 2) := by decide +kernel
theorem d4_27 : decode prog_116_method_5_code 27 = .ok (.iushr, 1) := by decide +kernel
theorem d4_28 : decode prog_116_method_5_code 28 = .ok (.dup2, 1) := by decide +kernel
theorem d4_29 : decode prog_116_method_5_code 29 = .ok (.laload, 1) := by decide +kernel
theorem d4_30 : decode prog_116_method_5_code 30 = .ok (.lload_n 2, 1) := by decide +kernel
theorem d4_31 : decode prog_116_method_5_code 31 = .ok (.lor, 1) := by decide +kernel
theorem d4_32 : decode prog_116_method_5_code 32 = .ok (.lastore, 1) := by decide +kernel
theorem d4_33 : decode prog_116_method_5_code 33 = .ok (.aload_n 0, 1) := by decide +kernel
theorem d4_34 : decode prog_116_method_5_code 34 = .ok (.getfield 23, 3) := by decide +kernel
theorem d4_37 : decode prog_116_method_5_code 37 = .ok (.aload_n 0, 1) := by decide +kernel
theorem d4_38 : decode prog_116_method_5_code 38 = .ok (.dup, 1) := by decide +kernel
theorem d4_39 : decode prog_116_method_5_code 39 = .ok (.getfield 27, 3) := by decide +kernel
theorem d4_42 : decode prog_116_method_5_code 42 = .ok (.dup_x1, 1) := by decide +kernel
theorem d4_43 : decode prog_116_method_5_code 43 = .ok (.iconst 1, 1) := by decide +kernel
theorem d4_44 : decode prog_116_method_5_code 44 = .ok (.iadd, 1) := by decide +kernel
theorem d4_45 : decode prog_116_method_5_code 45 = .ok (.putfield 27, 3) := by decide +kernel
theorem d4_48 : decode prog_116_method_5_code 48 = .ok (.iload_n 1, 1) := by decide +kernel
theorem d4_49 : decode prog_116_method_5_code 49 = .ok (.iastore, 1) := by decide +kernel
theorem d4_50 : decode prog_116_method_5_code 50 = .ok (.return_, 1) := by decide +kernel
def k4 : OM := (prog_116_method_5_code, 4, "com/example/multibern/multibern/rank/model/ScoreAccumulator", "reach", none, { frames := 0, cells := 0, slots := 0, locals := 0 })
theorem pn4 : plainFor (⟨"com/example/multibern/multibern/rank/model/ScoreAccumulator", "reach", "(I)V"⟩ : MethodName) = true := plainFor_of_name (by first | (simp [plainName, overriddenIn]; done) | decide +kernel)
theorem pd4 : parseMethodDescriptor "(I)V" = some ⟨[.int], none⟩ := by decide +kernel
set_option maxRecDepth 65536 in
set_option maxHeartbeats 4000000 in
theorem C_reachY {Z : State} {ω : OW} {h : Heap} (hw_ : ∀ d ∈ tables_1, d.before ω.2.2 Z = true) (hn_ : ω.2.1 ≤ h.size) (a pd pw pi : Addr) (d cnt n nw : Int32) (W : Nat → Int64) (G : Nat → Int32) (R0 : SAC Z h a (.ref pd) (.ref pw) (.ref pi) (.int cnt)) (Aw : oA Z h pw .long nw.toInt.toNat (fun i_ => .long (W i_))) (hd : 0 ≤ d.toInt ∧ d.toInt < n.toInt) (hnw : n.toInt ≤ 64 * nw.toInt) (hb : own_b W d.toInt.toNat = true) :
    oC Z ω (⟨"com/example/multibern/multibern/rank/model/ScoreAccumulator", "reach", "(I)V"⟩ : MethodName) k4 [] #[.ref a, .int d] h (fun v h' => v = none ∧ h = h') := by
  refine oC_of hw_ hn_ pn4 rfl rfl (L := #[.val (.ref a), .val (.int d), .unset, .unset]) (fun m => by first | (simp [entryFrame, mkF, argsToLocals, Value.category, k4]; done) | rfl) ?_
  intro γ T X
  refine ow_lconst X 1 (1 : Int64) d4_0 rfl rfl ?_
  refine ow_iloadN X 2 d4_1 rfl rfl ?_
  refine ow_lshl X 3 d4_2 rfl ?_
  refine ow_lstoreN X 4 (L' := #[.val (.ref a), .val (.int d), .val (.long ((1 : Int64) <<< (d &&& 0x3f).toInt64)), .second]) d4_3 rfl rfl ?_
  refine ow_aloadN X 5 d4_4 rfl rfl rfl ?_
  refine ow_getF X 8 14 rfl rfl R0.2.2.1 d4_5 rfl ?_
  intro T_15 X_15
  refine ow_iloadN X_15 9 d4_8 rfl rfl ?_
  refine ow_bipush X_15 11 (6 : Int32) d4_9 rfl rfl ?_
  refine ow_iushr X_15 12 d4_11 rfl ?_
  refine ow_laload X_15 13 Aw d4_12 rfl (own_ui hd.1) (own_uj hd.1 hd.2 hnw) rfl ?_
  refine ow_lloadN X_15 14 d4_13 rfl rfl ?_
  refine ow_land X_15 15 d4_14 rfl ?_
  refine ow_lconst X_15 16 (0 : Int64) d4_15 rfl rfl ?_
  refine ow_lcmp_ne X_15 17 20 50 d4_16 rfl d4_17 rfl rfl (fun (c16 : ((W ((d.toUInt32 >>> ((6 : Int32) &&& 31).toUInt32).toInt32).toInt.toNat) &&& ((1 : Int64) <<< (d &&& 0x3f).toInt64)).toInt ≠ 0) => ?_) (fun (c16 : ((W ((d.toUInt32 >>> ((6 : Int32) &&& 31).toUInt32).toInt32).toInt.toNat) &&& ((1 : Int64) <<< (d &&& 0x3f).toInt64)).toInt = 0) => absurd ((own_and W d hd.1).1 c16) (by rw [hb]; decide))
  refine ow_retV X_15 rfl d4_50 (by decide) (by decide) ?_
  exact ⟨rfl, rfl⟩
set_option maxRecDepth 65536 in
set_option maxHeartbeats 4000000 in
theorem C_reachN {Z : State} {ω : OW} {h : Heap} (hw_ : ∀ d ∈ tables_1, d.before ω.2.2 Z = true) (hn_ : ω.2.1 ≤ h.size) (a pd pw pi : Addr) (d cnt n nw : Int32) (W : Nat → Int64) (G : Nat → Int32) (cnt' : Int32) (R0 : SAC Z h a (.ref pd) (.ref pw) (.ref pi) (.int cnt)) (Aw : oA Z h pw .long nw.toInt.toNat (fun i_ => .long (W i_))) (Ai : oA Z h pi .int n.toInt.toNat (fun i_ => .int (G i_))) (ga : ω.2.1 ≤ a) (gw : ω.2.1 ≤ pw) (gi : ω.2.1 ≤ pi) (nd : [a, pd, pw, pi].Nodup) (hd : 0 ≤ d.toInt ∧ d.toInt < n.toInt) (hnw : n.toInt ≤ 64 * nw.toInt) (hb : own_b W d.toInt.toNat = false) (hc : 0 ≤ cnt.toInt ∧ cnt.toInt < n.toInt) (hcn : cnt + (1 : Int32) = cnt') :
    oC Z ω (⟨"com/example/multibern/multibern/rank/model/ScoreAccumulator", "reach", "(I)V"⟩ : MethodName) k4 [] #[.ref a, .int d] h (fun v h' => v = none ∧ Keep h h' [a, pw, pi] ∧ SAC Z h' a (.ref pd) (.ref pw) (.ref pi) (.int cnt') ∧ oA Z h' pw .long nw.toInt.toNat (fun i_ => .long ((own_W W d) i_)) ∧ oA Z h' pi .int n.toInt.toNat (fun i_ => .int ((oUpd G cnt.toInt.toNat d) i_))) := by
  refine oC_of hw_ hn_ pn4 rfl rfl (L := #[.val (.ref a), .val (.int d), .unset, .unset]) (fun m => by first | (simp [entryFrame, mkF, argsToLocals, Value.category, k4]; done) | rfl) ?_
  intro γ T X
  subst hcn
  refine ow_lconst X 1 (1 : Int64) d4_0 rfl rfl ?_
  refine ow_iloadN X 2 d4_1 rfl rfl ?_
  refine ow_lshl X 3 d4_2 rfl ?_
  refine ow_lstoreN X 4 (L' := #[.val (.ref a), .val (.int d), .val (.long ((1 : Int64) <<< (d &&& 0x3f).toInt64)), .second]) d4_3 rfl rfl ?_
  refine ow_aloadN X 5 d4_4 rfl rfl rfl ?_
  refine ow_getF X 8 14 rfl rfl R0.2.2.1 d4_5 rfl ?_
  intro T_16 X_16
  refine ow_iloadN X_16 9 d4_8 rfl rfl ?_
  refine ow_bipush X_16 11 (6 : Int32) d4_9 rfl rfl ?_
  refine ow_iushr X_16 12 d4_11 rfl ?_
  refine ow_laload X_16 13 Aw d4_12 rfl (own_ui hd.1) (own_uj hd.1 hd.2 hnw) rfl ?_
  refine ow_lloadN X_16 14 d4_13 rfl rfl ?_
  refine ow_land X_16 15 d4_14 rfl ?_
  refine ow_lconst X_16 16 (0 : Int64) d4_15 rfl rfl ?_
  refine ow_lcmp_ne X_16 17 20 50 d4_16 rfl d4_17 rfl rfl (fun (c16 : ((W ((d.toUInt32 >>> ((6 : Int32) &&& 31).toUInt32).toInt32).toInt.toNat) &&& ((1 : Int64) <<< (d &&& 0x3f).toInt64)).toInt ≠ 0) => absurd ((own_and W d hd.1).2 hb) c16) (fun (c16 : ((W ((d.toUInt32 >>> ((6 : Int32) &&& 31).toUInt32).toInt32).toInt.toNat) &&& ((1 : Int64) <<< (d &&& 0x3f).toInt64)).toInt = 0) => ?_)
  refine ow_aloadN X_16 21 d4_20 rfl rfl rfl ?_
  refine ow_getF X_16 24 14 rfl rfl R0.2.2.1 d4_21 rfl ?_
  intro T_17 X_17
  refine ow_iloadN X_17 25 d4_24 rfl rfl ?_
  refine ow_bipush X_17 27 (6 : Int32) d4_25 rfl rfl ?_
  refine ow_iushr X_17 28 d4_27 rfl ?_
  refine ow_dup2 X_17 29 d4_28 rfl rfl rfl ?_
  refine ow_laload X_17 30 Aw d4_29 rfl (own_ui hd.1) (own_uj hd.1 hd.2 hnw) rfl ?_
  refine ow_lloadN X_17 31 d4_30 rfl rfl ?_
  refine ow_lor X_17 32 d4_31 rfl ?_
  refine ow_lastore X_17 33 Aw gw d4_32 rfl (own_ui hd.1) (own_uj hd.1 hd.2 hnw) ?_
  intro T_18 h_18 X_18 W_18
  have f19_0 : SAC Z h_18 a (.ref pd) (.ref pw) (.ref pi) (.int cnt) := R0.other W_18 (oNd nd 0 2 (by decide) rfl rfl)
  have f19_1 : oA Z h_18 pw .long nw.toInt.toNat (fun i_ => .long ((oUpd W (((d.toUInt32 >>> ((6 : Int32) &&& 31).toUInt32).toInt32).toInt.toNat) ((W ((d.toUInt32 >>> ((6 : Int32) &&& 31).toUInt32).toInt32).toInt.toNat) ||| ((1 : Int64) <<< (d &&& 0x3f).toInt64))) i_)) := Aw.setJ W_18
  have f19_2 : oA Z h_18 pi .int n.toInt.toNat (fun i_ => .int (G i_)) := Ai.other W_18 (oNd nd 3 2 (by decide) rfl rfl)
  have f19_3 : Keep h h_18 [a, pw, pi] := (Keep.refl h [a, pw, pi]).wr W_18 (Or.inl (List.mem_of_getElem? (i := 1) rfl))
  refine ow_aloadN X_18 34 d4_33 rfl rfl rfl ?_
  refine ow_getF X_18 37 21 rfl rfl f19_0.2.2.2.1 d4_34 rfl ?_
  intro T_20 X_20
  refine ow_aloadN X_20 38 d4_37 rfl rfl rfl ?_
  refine ow_dup X_20 39 d4_38 rfl rfl ?_
  refine ow_getF X_20 42 28 rfl rfl f19_0.2.2.2.2 d4_39 rfl ?_
  intro T_21 X_21
  refine ow_dupX1 X_21 43 d4_42 rfl rfl rfl ?_
  refine ow_iconst X_21 44 (1 : Int32) d4_43 rfl rfl ?_
  refine ow_iadd X_21 45 d4_44 rfl ?_
  refine ow_putF X_21 48 28 2 rfl rfl f19_0.2.2.2.2 f19_0.1 (Or.inl (oSt_at X_21 29 rfl)) rfl (ty := .int) (by decide) rfl rfl ga d4_45 rfl ?_
  intro T_22 h_22 X_22 W_22
  have f23_0 : SAC Z h_22 a (.ref pd) (.ref pw) (.ref pi) (.int (cnt + (1 : Int32))) := SAC.set_reachedCount (oSt_w X_22) f19_0 W_22
  have f23_1 : oA Z h_22 pw .long nw.toInt.toNat (fun i_ => .long ((oUpd W (((d.toUInt32 >>> ((6 : Int32) &&& 31).toUInt32).toInt32).toInt.toNat) ((W ((d.toUInt32 >>> ((6 : Int32) &&& 31).toUInt32).toInt32).toInt.toNat) ||| ((1 : Int64) <<< (d &&& 0x3f).toInt64))) i_)) := f19_1.other W_22 (oNd nd 2 0 (by decide) rfl rfl)
  have f23_2 : oA Z h_22 pi .int n.toInt.toNat (fun i_ => .int (G i_)) := f19_2.other W_22 (oNd nd 3 0 (by decide) rfl rfl)
  have f23_3 : Keep h h_22 [a, pw, pi] := f19_3.wr W_22 (Or.inl (List.mem_of_getElem? (i := 0) rfl))
  refine ow_iloadN X_22 49 d4_48 rfl rfl ?_
  refine ow_iastore X_22 50 f23_2 gi d4_49 rfl hc.1 (by omega) ?_
  intro T_24 h_24 X_24 W_24
  have f25_0 : SAC Z h_24 a (.ref pd) (.ref pw) (.ref pi) (.int (cnt + (1 : Int32))) := f23_0.other W_24 (oNd nd 0 3 (by decide) rfl rfl)
  have f25_1 : oA Z h_24 pw .long nw.toInt.toNat (fun i_ => .long ((oUpd W (((d.toUInt32 >>> ((6 : Int32) &&& 31).toUInt32).toInt32).toInt.toNat) ((W ((d.toUInt32 >>> ((6 : Int32) &&& 31).toUInt32).toInt32).toInt.toNat) ||| ((1 : Int64) <<< (d &&& 0x3f).toInt64))) i_)) := f23_1.other W_24 (oNd nd 2 3 (by decide) rfl rfl)
  have f25_2 : oA Z h_24 pi .int n.toInt.toNat (fun i_ => .int ((oUpd G cnt.toInt.toNat d) i_)) := f23_2.setI W_24
  have f25_3 : Keep h h_24 [a, pw, pi] := f23_3.wr W_24 (Or.inl (List.mem_of_getElem? (i := 2) rfl))
  refine ow_retV X_24 rfl d4_50 (by decide) (by decide) ?_
  exact ⟨rfl, f25_3, f25_0, f25_1, f25_2⟩
theorem d5_0 : decode prog_116_method_9_code 0 = .ok (.aload_n 0, 1) := by decide +kernel
theorem d5_1 : decode prog_116_method_9_code 1 = .ok (.getfield 27, 3) := by decide +kernel
theorem d5_4 : decode prog_116_method_9_code 4 = .ok (.ireturn, 1) := by decide +kernel
def k5 : OM := (prog_116_method_9_code, 1, "com/example/multibern/multibern/rank/model/ScoreAccumulator", "reachedCount", (some .int), { frames := 0, cells := 0, slots := 0, locals := 0 })
theorem pn5 : plainFor (⟨"com/example/multibern/multibern/rank/model/ScoreAccumulator", "reachedCount", "()I"⟩ : MethodName) = true := plainFor_of_name (by first | (simp [plainName, overriddenIn]; done) | decide +kernel)
theorem pd5 : parseMethodDescriptor "()I" = some ⟨[], (some .int)⟩ := by decide +kernel
set_option maxRecDepth 65536 in
set_option maxHeartbeats 4000000 in
theorem C_cnt {Z : State} {ω : OW} {h : Heap} (hw_ : ∀ d ∈ tables_1, d.before ω.2.2 Z = true) (hn_ : ω.2.1 ≤ h.size) (a pd pw pi : Addr) (cnt : Int32) (R0 : SAC Z h a (.ref pd) (.ref pw) (.ref pi) (.int cnt)) :
    oC Z ω (⟨"com/example/multibern/multibern/rank/model/ScoreAccumulator", "reachedCount", "()I"⟩ : MethodName) k5 [] #[.ref a] h (fun v h' => v = some (.int cnt) ∧ h = h') := by
  refine oC_of hw_ hn_ pn5 rfl rfl (L := #[.val (.ref a)]) (fun m => by first | (simp [entryFrame, mkF, argsToLocals, Value.category, k5]; done) | rfl) ?_
  intro γ T X
  refine ow_aloadN X 1 d5_0 rfl rfl rfl ?_
  refine ow_getF X 4 28 rfl rfl R0.2.2.2.2 d5_1 rfl ?_
  intro T_26 X_26
  refine ow_retI X_26 rfl d5_4 (by decide) (by decide) ?_
  exact ⟨rfl, rfl⟩
theorem d6_0 : decode prog_116_method_10_code 0 = .ok (.aload_n 0, 1) := by decide +kernel
theorem d6_1 : decode prog_116_method_10_code 1 = .ok (.getfield 23, 3) := by decide +kernel
theorem d6_4 : decode prog_116_method_10_code 4 = .ok (.iload_n 1, 1) := by decide +kernel
theorem d6_5 : decode prog_116_method_10_code 5 = .ok (.iaload, 1) := by decide +kernel
theorem d6_6 : decode prog_116_method_10_code 6 = .ok (.ireturn, 1) := by decide +kernel
def k6 : OM := (prog_116_method_10_code, 2, "com/example/multibern/multibern/rank/model/ScoreAccumulator", "reachedDocument", (some .int), { frames := 0, cells := 0, slots := 0, locals := 0 })
theorem pn6 : plainFor (⟨"com/example/multibern/multibern/rank/model/ScoreAccumulator", "reachedDocument", "(I)I"⟩ : MethodName) = true := plainFor_of_name (by first | (simp [plainName, overriddenIn]; done) | decide +kernel)
theorem pd6 : parseMethodDescriptor "(I)I" = some ⟨[.int], (some .int)⟩ := by decide +kernel
set_option maxRecDepth 65536 in
set_option maxHeartbeats 4000000 in
theorem C_doc {Z : State} {ω : OW} {h : Heap} (hw_ : ∀ d ∈ tables_1, d.before ω.2.2 Z = true) (hn_ : ω.2.1 ≤ h.size) (a pd pw pi : Addr) (i cnt n : Int32) (G : Nat → Int32) (R0 : SAC Z h a (.ref pd) (.ref pw) (.ref pi) (.int cnt)) (Ai : oA Z h pi .int n.toInt.toNat (fun i_ => .int (G i_))) (hi : 0 ≤ i.toInt ∧ i.toInt < n.toInt) :
    oC Z ω (⟨"com/example/multibern/multibern/rank/model/ScoreAccumulator", "reachedDocument", "(I)I"⟩ : MethodName) k6 [] #[.ref a, .int i] h (fun v h' => v = some (.int (G i.toInt.toNat)) ∧ h = h') := by
  refine oC_of hw_ hn_ pn6 rfl rfl (L := #[.val (.ref a), .val (.int i)]) (fun m => by first | (simp [entryFrame, mkF, argsToLocals, Value.category, k6]; done) | rfl) ?_
  intro γ T X
  refine ow_aloadN X 1 d6_0 rfl rfl rfl ?_
  refine ow_getF X 4 21 rfl rfl R0.2.2.2.1 d6_1 rfl ?_
  intro T_27 X_27
  refine ow_iloadN X_27 5 d6_4 rfl rfl ?_
  refine ow_iaload X_27 6 Ai d6_5 rfl hi.1 (by omega) rfl ?_
  refine ow_retI X_27 rfl d6_6 (by decide) (by decide) ?_
  exact ⟨rfl, rfl⟩
theorem d7_0 : decode prog_116_method_6_code 0 = .ok (.aload_n 0, 1) := by decide +kernel
theorem d7_1 : decode prog_116_method_6_code 1 = .ok (.getfield 13, 3) := by decide +kernel
theorem d7_4 : decode prog_116_method_6_code 4 = .ok (.iload_n 1, 1) := by decide +kernel
theorem d7_5 : decode prog_116_method_6_code 5 = .ok (.bipush 6, 2) := by decide +kernel
theorem d7_7 : decode prog_116_method_6_code 7 = .ok (.iushr, 1) := by decide +kernel
theorem d7_8 : decode prog_116_method_6_code 8 = .ok (.laload, 1) := by decide +kernel
theorem d7_9 : decode prog_116_method_6_code 9 = .ok (.lconst 1, 1) := by decide +kernel
theorem d7_10 : decode prog_116_method_6_code 10 = .ok (.iload_n 1, 1) := by decide +kernel
theorem d7_11 : decode prog_116_method_6_code 11 = .ok (.lshl, 1) := by decide +kernel
theorem d7_12 : decode prog_116_method_6_code 12 = .ok (.land, 1) := by decide +kernel
theorem d7_13 : decode prog_116_method_6_code 13 = .ok (.lconst 0, 1) := by decide +kernel
theorem d7_14 : decode prog_116_method_6_code 14 = .ok (.lcmp, 1) := by decide +kernel
theorem d7_15 : decode prog_116_method_6_code 15 = .ok (.ifCond .eq 7, 3) := by decide +kernel
theorem d7_18 : decode prog_116_method_6_code 18 = .ok (.iconst 1, 1) := by decide +kernel
theorem d7_19 : decode prog_116_method_6_code 19 = .ok (.goto 4, 3) := by decide +kernel
theorem d7_22 : decode prog_116_method_6_code 22 = .ok (.iconst 0, 1) := by decide +kernel
theorem d7_23 : decode prog_116_method_6_code 23 = .ok (.ireturn, 1) := by decide +kernel
def k7 : OM := (prog_116_method_6_code, 2, "com/example/multibern/multibern/rank/model/ScoreAccumulator", "isReached", (some .boolean), { frames := 0, cells := 0, slots := 0, locals := 0 })
theorem pn7 : plainFor (⟨"com/example/multibern/multibern/rank/model/ScoreAccumulator", "isReached", "(I)Z"⟩ : MethodName) = true := plainFor_of_name (by first | (simp [plainName, overriddenIn]; done) | decide +kernel)
theorem pd7 : parseMethodDescriptor "(I)Z" = some ⟨[.int], (some .boolean)⟩ := by decide +kernel
set_option maxRecDepth 65536 in
set_option maxHeartbeats 4000000 in
theorem C_is {Z : State} {ω : OW} {h : Heap} (hw_ : ∀ d ∈ tables_1, d.before ω.2.2 Z = true) (hn_ : ω.2.1 ≤ h.size) (a pd pw pi : Addr) (d cnt n nw : Int32) (W : Nat → Int64) (R0 : SAC Z h a (.ref pd) (.ref pw) (.ref pi) (.int cnt)) (Aw : oA Z h pw .long nw.toInt.toNat (fun i_ => .long (W i_))) (hd : 0 ≤ d.toInt ∧ d.toInt < n.toInt) (hnw : n.toInt ≤ 64 * nw.toInt) :
    oC Z ω (⟨"com/example/multibern/multibern/rank/model/ScoreAccumulator", "isReached", "(I)Z"⟩ : MethodName) k7 [] #[.ref a, .int d] h (fun v h' => v = some (.int (if own_b W d.toInt.toNat = true then 1 else 0)) ∧ h = h') := by
  refine oC_of hw_ hn_ pn7 rfl rfl (L := #[.val (.ref a), .val (.int d)]) (fun m => by first | (simp [entryFrame, mkF, argsToLocals, Value.category, k7]; done) | rfl) ?_
  intro γ T X
  refine ow_aloadN X 1 d7_0 rfl rfl rfl ?_
  refine ow_getF X 4 14 rfl rfl R0.2.2.1 d7_1 rfl ?_
  intro T_28 X_28
  refine ow_iloadN X_28 5 d7_4 rfl rfl ?_
  refine ow_bipush X_28 7 (6 : Int32) d7_5 rfl rfl ?_
  refine ow_iushr X_28 8 d7_7 rfl ?_
  refine ow_laload X_28 9 Aw d7_8 rfl (own_ui hd.1) (own_uj hd.1 hd.2 hnw) rfl ?_
  refine ow_lconst X_28 10 (1 : Int64) d7_9 rfl rfl ?_
  refine ow_iloadN X_28 11 d7_10 rfl rfl ?_
  refine ow_lshl X_28 12 d7_11 rfl ?_
  refine ow_land X_28 13 d7_12 rfl ?_
  refine ow_lconst X_28 14 (0 : Int64) d7_13 rfl rfl ?_
  refine ow_lcmp_eq X_28 15 18 22 d7_14 rfl d7_15 rfl rfl (fun (c14 : ((W ((d.toUInt32 >>> ((6 : Int32) &&& 31).toUInt32).toInt32).toInt.toNat) &&& ((1 : Int64) <<< (d &&& 0x3f).toInt64)).toInt = 0) => ?_) (fun (c14 : ((W ((d.toUInt32 >>> ((6 : Int32) &&& 31).toUInt32).toInt32).toInt.toNat) &&& ((1 : Int64) <<< (d &&& 0x3f).toInt64)).toInt ≠ 0) => ?_)
  · refine ow_iconst X_28 23 (0 : Int32) d7_22 rfl rfl ?_
    refine ow_retZ X_28 rfl d7_23 (by decide) (by decide) (by decide) ?_
    have e : own_b W d.toInt.toNat = false := (own_and W d hd.1).1 c14
    rw [e]
    exact ⟨rfl, rfl⟩
  · refine ow_iconst X_28 19 (1 : Int32) d7_18 rfl rfl ?_
    refine ow_goto X_28 23 d7_19 rfl ?_
    refine ow_retZ X_28 rfl d7_23 (by decide) (by decide) (by decide) ?_
    have e : own_b W d.toInt.toNat = true := Bool.of_not_eq_false (fun e => c14 ((own_and W d hd.1).2 e))
    rw [e]
    exact ⟨rfl, rfl⟩
theorem d8_0 : decode prog_116_method_8_code 0 = .ok (.aload_n 0, 1) := by decide +kernel
theorem d8_1 : decode prog_116_method_8_code 1 = .ok (.getfield 13, 3) := by decide +kernel
theorem d8_4 : decode prog_116_method_8_code 4 = .ok (.iload_n 1, 1) := by decide +kernel
theorem d8_5 : decode prog_116_method_8_code 5 = .ok (.laload, 1) := by decide +kernel
theorem d8_6 : decode prog_116_method_8_code 6 = .ok (.lreturn, 1) := by decide +kernel
def k8 : OM := (prog_116_method_8_code, 2, "com/example/multibern/multibern/rank/model/ScoreAccumulator", "reachedWord", (some .long), { frames := 0, cells := 0, slots := 0, locals := 0 })
theorem pn8 : plainFor (⟨"com/example/multibern/multibern/rank/model/ScoreAccumulator", "reachedWord", "(I)J"⟩ : MethodName) = true := plainFor_of_name (by first | (simp [plainName, overriddenIn]; done) | decide +kernel)
theorem pd8 : parseMethodDescriptor "(I)J" = some ⟨[.int], (some .long)⟩ := by decide +kernel
set_option maxRecDepth 65536 in
set_option maxHeartbeats 4000000 in
theorem C_word {Z : State} {ω : OW} {h : Heap} (hw_ : ∀ d ∈ tables_1, d.before ω.2.2 Z = true) (hn_ : ω.2.1 ≤ h.size) (a pd pw pi : Addr) (k cnt nw : Int32) (W : Nat → Int64) (R0 : SAC Z h a (.ref pd) (.ref pw) (.ref pi) (.int cnt)) (Aw : oA Z h pw .long nw.toInt.toNat (fun i_ => .long (W i_))) (hk0 : 0 ≤ k.toInt) (hk1 : k.toInt < (nw.toInt.toNat : Int)) :
    oC Z ω (⟨"com/example/multibern/multibern/rank/model/ScoreAccumulator", "reachedWord", "(I)J"⟩ : MethodName) k8 [] #[.ref a, .int k] h (fun v h' => v = some (.long (W k.toInt.toNat)) ∧ h = h') := by
  refine oC_of hw_ hn_ pn8 rfl rfl (L := #[.val (.ref a), .val (.int k)]) (fun m => by first | (simp [entryFrame, mkF, argsToLocals, Value.category, k8]; done) | rfl) ?_
  intro γ T X
  refine ow_aloadN X 1 d8_0 rfl rfl rfl ?_
  refine ow_getF X 4 14 rfl rfl R0.2.2.1 d8_1 rfl ?_
  intro T_29 X_29
  refine ow_iloadN X_29 5 d8_4 rfl rfl ?_
  refine ow_laload X_29 6 Aw d8_5 rfl hk0 hk1 rfl ?_
  refine ow_retJ X_29 rfl d8_6 (by decide) (by decide) ?_
  exact ⟨rfl, rfl⟩
theorem d9_0 : decode prog_116_method_11_code 0 = .ok (.aload_n 0, 1) := by decide +kernel
theorem d9_1 : decode prog_116_method_11_code 1 = .ok (.getfield 7, 3) := by decide +kernel
theorem d9_4 : decode prog_116_method_11_code 4 = .ok (.iload_n 1, 1) := by decide +kernel
theorem d9_5 : decode prog_116_method_11_code 5 = .ok (.daload, 1) := by decide +kernel
theorem d9_6 : decode prog_116_method_11_code 6 = .ok (.dreturn, 1) := by decide +kernel
def k9 : OM := (prog_116_method_11_code, 2, "com/example/multibern/multibern/rank/model/ScoreAccumulator", "partialScore", (some .double), { frames := 0, cells := 0, slots := 0, locals := 0 })
theorem pn9 : plainFor (⟨"com/example/multibern/multibern/rank/model/ScoreAccumulator", "partialScore", "(I)D"⟩ : MethodName) = true := plainFor_of_name (by first | (simp [plainName, overriddenIn]; done) | decide +kernel)
theorem pd9 : parseMethodDescriptor "(I)D" = some ⟨[.int], (some .double)⟩ := by decide +kernel
set_option maxRecDepth 65536 in
set_option maxHeartbeats 4000000 in
theorem C_part {Z : State} {ω : OW} {h : Heap} (hw_ : ∀ d ∈ tables_1, d.before ω.2.2 Z = true) (hn_ : ω.2.1 ≤ h.size) (a pd pw pi : Addr) (d cnt n : Int32) (R0 : SAC Z h a (.ref pd) (.ref pw) (.ref pi) (.int cnt)) (Ad : oA Z h pd .double n.toInt.toNat (fun _ => .double (0 : UInt64))) (hd : 0 ≤ d.toInt ∧ d.toInt < n.toInt) :
    oC Z ω (⟨"com/example/multibern/multibern/rank/model/ScoreAccumulator", "partialScore", "(I)D"⟩ : MethodName) k9 [] #[.ref a, .int d] h (fun v h' => v = some (.double 0) ∧ h = h') := by
  refine oC_of hw_ hn_ pn9 rfl rfl (L := #[.val (.ref a), .val (.int d)]) (fun m => by first | (simp [entryFrame, mkF, argsToLocals, Value.category, k9]; done) | rfl) ?_
  intro γ T X
  refine ow_aloadN X 1 d9_0 rfl rfl rfl ?_
  refine ow_getF X 4 11 rfl rfl R0.2.1 d9_1 rfl ?_
  intro T_30 X_30
  refine ow_iloadN X_30 5 d9_4 rfl rfl ?_
  refine ow_daload X_30 6 Ad d9_5 rfl hd.1 (by omega) rfl ?_
  refine ow_retD X_30 rfl d9_6 (by decide) (by decide) ?_
  exact ⟨rfl, rfl⟩
def k0 : OM := (code, maxLocals, "com/example/multibern/multibern/rank/model/ScoreAccumulatorReachPinLaw", "law", ret, room_1)
theorem pn0 : plainFor Jvm.Pilot.@@N@@.x = true := plainFor_of_name (by first | (simp [plainName, overriddenIn]; done) | decide +kernel)
theorem pd0 : parseMethodDescriptor "(IIIIII)Z" = some ⟨[.int, .int, .int, .int, .int, .int], (some .boolean)⟩ := by decide +kernel
set_option maxRecDepth 65536 in
set_option maxHeartbeats 4000000 in
theorem B308 {Z : State} {ω : OW} {γ : OG} {T : State} {h : Heap} (X : oSt Z ω γ k0 T h 4 520) (p0 p1 p2 p3 p4 p5 n a b c sl d k e1 e2 cnt nw : Int32) (o pd pw pi : Addr) (ex : Int32) (R0 : SAC Z h o (.ref pd) (.ref pw) (.ref pi) (.int cnt)) (Ad : oA Z h pd .double n.toInt.toNat (fun _ => .double (0 : UInt64))) (Aw : oA Z h pw .long nw.toInt.toNat (fun i_ => .long ((own_W (own_W (own_W oZJ a) b) c) i_))) (hn : 1 ≤ n.toInt ∧ n.toInt ≤ 256) (ha : 0 ≤ a.toInt ∧ a.toInt < n.toInt) (hb : 0 ≤ b.toInt ∧ b.toInt < n.toInt) (hc : 0 ≤ c.toInt ∧ c.toInt < n.toInt) (hd : 0 ≤ d.toInt ∧ d.toInt < n.toInt) (hnw : n.toInt ≤ 64 * nw.toInt) (hex : ex = (if own_b (own_W (own_W (own_W oZJ a) b) c) d.toInt.toNat = true then 1 else 0)) :
    oWP ω γ k0 (fun v _ => v = some (.int 1)) T 308 #[.val (.int p0), .val (.int p1), .val (.int p2), .val (.int p3), .val (.int p4), .val (.int p5), .val (.int n), .val (.int a), .val (.int b), .val (.int c), .val (.int sl), .val (.int d), .val (.ref o), .val (.int k), .val (.int e1), .val (.int e2), .val (.int (1 : Int32)), .val (.int ex), .unset, .unset, .unset] [] := by
  refine ow_iload X 310 at_308 rfl rfl ?_
  refine ow_if_eq X 313 329 at_310 rfl rfl (fun (c310 : 1 = 0) => absurd c310 (by decide)) (fun (c310 : 1 ≠ 0) => ?_)
  refine ow_aload X 315 at_313 rfl rfl rfl ?_
  refine ow_iload X 317 at_315 rfl rfl ?_
  refine ow_callV X 320 40 41 43 42 44 3 (κ' := k7) (as := [.int d]) (S := []) (W := 0) rfl rfl rfl rfl rfl rfl rfl (by decide) R0.1 (C_is (oSt_w X) (oSt_n0 X) o pd pw pi d cnt n nw (own_W (own_W (own_W oZJ a) b) c) R0 Aw hd hnw) (by decide) (by decide) (Nat.le_of_eq rfl) (by decide) (by decide) pd7 rfl rfl rfl at_317 rfl ?_
  intro v_31 T_31 h_31 X_31 q_31
  obtain ⟨rfl, rfl⟩ := q_31
  rw [← hex]
  show oWP ω γ k0 _ T_31 320 #[.val (.int p0), .val (.int p1), .val (.int p2), .val (.int p3), .val (.int p4), .val (.int p5), .val (.int n), .val (.int a), .val (.int b), .val (.int c), .val (.int sl), .val (.int d), .val (.ref o), .val (.int k), .val (.int e1), .val (.int e2), .val (.int (1 : Int32)), .val (.int ex), .unset, .unset, .unset] [.int ex]
  refine ow_iload X_31 322 at_320 rfl rfl ?_
  refine ow_icmp_ne X_31 325 329 at_322 rfl rfl (fun (c322 : ex.toInt ≠ ex.toInt) => absurd rfl c322) (fun (c322 : ex.toInt = ex.toInt) => ?_)
  refine ow_iconst X_31 326 (1 : Int32) at_325 rfl rfl ?_
  refine ow_goto X_31 330 at_326 rfl ?_
  refine ow_istore X_31 332 (L' := #[.val (.int p0), .val (.int p1), .val (.int p2), .val (.int p3), .val (.int p4), .val (.int p5), .val (.int n), .val (.int a), .val (.int b), .val (.int c), .val (.int sl), .val (.int d), .val (.ref o), .val (.int k), .val (.int e1), .val (.int e2), .val (.int (1 : Int32)), .val (.int ex), .unset, .unset, .unset]) at_330 rfl rfl ?_
  refine ow_iload X_31 334 at_332 rfl rfl ?_
  refine ow_bipush X_31 336 (6 : Int32) at_334 rfl rfl ?_
  refine ow_iushr X_31 337 at_336 rfl ?_
  refine ow_istore X_31 339 (L' := #[.val (.int p0), .val (.int p1), .val (.int p2), .val (.int p3), .val (.int p4), .val (.int p5), .val (.int n), .val (.int a), .val (.int b), .val (.int c), .val (.int sl), .val (.int d), .val (.ref o), .val (.int k), .val (.int e1), .val (.int e2), .val (.int (1 : Int32)), .val (.int ex), .val (.int ((d.toUInt32 >>> ((6 : Int32) &&& 31).toUInt32).toInt32)), .unset, .unset]) at_337 rfl rfl ?_
  refine ow_lconst X_31 340 (0 : Int64) at_339 rfl rfl ?_
  refine ow_lstore X_31 342 (L' := #[.val (.int p0), .val (.int p1), .val (.int p2), .val (.int p3), .val (.int p4), .val (.int p5), .val (.int n), .val (.int a), .val (.int b), .val (.int c), .val (.int sl), .val (.int d), .val (.ref o), .val (.int k), .val (.int e1), .val (.int e2), .val (.int (1 : Int32)), .val (.int ex), .val (.int ((d.toUInt32 >>> ((6 : Int32) &&& 31).toUInt32).toInt32)), .val (.long (0 : Int64)), .second]) at_340 rfl rfl ?_
  refine ow_iload X_31 344 at_342 rfl rfl ?_
  refine ow_bipush X_31 346 (6 : Int32) at_344 rfl rfl ?_
  refine ow_iushr X_31 347 at_346 rfl ?_
  refine ow_iload X_31 349 at_347 rfl rfl ?_
  refine ow_icmp_ne X_31 352 364 at_349 rfl rfl (fun (c349 : ((a.toUInt32 >>> ((6 : Int32) &&& 31).toUInt32).toInt32).toInt ≠ ((d.toUInt32 >>> ((6 : Int32) &&& 31).toUInt32).toInt32).toInt) => ?_) (fun (c349 : ((a.toUInt32 >>> ((6 : Int32) &&& 31).toUInt32).toInt32).toInt = ((d.toUInt32 >>> ((6 : Int32) &&& 31).toUInt32).toInt32).toInt) => ?_)
  · refine ow_iload X_31 366 at_364 rfl rfl ?_
    refine ow_bipush X_31 368 (6 : Int32) at_366 rfl rfl ?_
    refine ow_iushr X_31 369 at_368 rfl ?_
    refine ow_iload X_31 371 at_369 rfl rfl ?_
    refine ow_icmp_ne X_31 374 386 at_371 rfl rfl (fun (c371 : ((b.toUInt32 >>> ((6 : Int32) &&& 31).toUInt32).toInt32).toInt ≠ ((d.toUInt32 >>> ((6 : Int32) &&& 31).toUInt32).toInt32).toInt) => ?_) (fun (c371 : ((b.toUInt32 >>> ((6 : Int32) &&& 31).toUInt32).toInt32).toInt = ((d.toUInt32 >>> ((6 : Int32) &&& 31).toUInt32).toInt32).toInt) => ?_)
    · refine ow_iload X_31 388 at_386 rfl rfl ?_
      refine ow_bipush X_31 390 (6 : Int32) at_388 rfl rfl ?_
      refine ow_iushr X_31 391 at_390 rfl ?_
      refine ow_iload X_31 393 at_391 rfl rfl ?_
      refine ow_icmp_ne X_31 396 408 at_393 rfl rfl (fun (c393 : ((c.toUInt32 >>> ((6 : Int32) &&& 31).toUInt32).toInt32).toInt ≠ ((d.toUInt32 >>> ((6 : Int32) &&& 31).toUInt32).toInt32).toInt) => ?_) (fun (c393 : ((c.toUInt32 >>> ((6 : Int32) &&& 31).toUInt32).toInt32).toInt = ((d.toUInt32 >>> ((6 : Int32) &&& 31).toUInt32).toInt32).toInt) => ?_)
      · refine ow_iload X_31 410 at_408 rfl rfl ?_
        refine ow_if_eq X_31 413 430 at_410 rfl rfl (fun (c410 : 1 = 0) => absurd c410 (by decide)) (fun (c410 : 1 ≠ 0) => ?_)
        refine ow_aload X_31 415 at_413 rfl rfl rfl ?_
        refine ow_iload X_31 417 at_415 rfl rfl ?_
        have hw : (own_W (own_W (own_W oZJ a) b) c) ((d.toUInt32 >>> ((6 : Int32) &&& 31).toUInt32).toInt32).toInt.toNat = (0 : Int64) := (own_w0 (d := c) (own_ui hc.1) (own_ui hd.1) (own_w0 (d := b) (own_ui hb.1) (own_ui hd.1) (own_w0 (d := a) (own_ui ha.1) (own_ui hd.1) (rfl : oZJ ((d.toUInt32 >>> ((6 : Int32) &&& 31).toUInt32).toInt32).toInt.toNat = (0 : Int64)) c349) c371) c393)
        refine ow_callV X_31 420 45 46 48 47 49 3 (κ' := k8) (as := [.int ((d.toUInt32 >>> ((6 : Int32) &&& 31).toUInt32).toInt32)]) (S := []) (W := 0) rfl rfl rfl rfl rfl rfl rfl (by decide) R0.1 (C_word (oSt_w X_31) (oSt_n0 X_31) o pd pw pi ((d.toUInt32 >>> ((6 : Int32) &&& 31).toUInt32).toInt32) cnt nw (own_W (own_W (own_W oZJ a) b) c) R0 Aw (own_ui hd.1) (own_uj hd.1 hd.2 hnw)) (by decide) (by decide) (Nat.le_of_eq rfl) (by decide) (by decide) pd8 rfl rfl rfl at_417 rfl ?_
        intro v_32 T_32 h_32 X_32 q_32
        obtain ⟨rfl, rfl⟩ := q_32
        rw [hw]
        show oWP ω γ k0 _ T_32 420 #[.val (.int p0), .val (.int p1), .val (.int p2), .val (.int p3), .val (.int p4), .val (.int p5), .val (.int n), .val (.int a), .val (.int b), .val (.int c), .val (.int sl), .val (.int d), .val (.ref o), .val (.int k), .val (.int e1), .val (.int e2), .val (.int (1 : Int32)), .val (.int ex), .val (.int ((d.toUInt32 >>> ((6 : Int32) &&& 31).toUInt32).toInt32)), .val (.long (0 : Int64)), .second] [.long (0 : Int64)]
        refine ow_lload X_32 422 at_420 rfl rfl ?_
        refine ow_lcmp_ne X_32 423 426 430 at_422 rfl at_423 rfl rfl (fun (c422 : 0 ≠ 0) => absurd rfl c422) (fun (c422 : 0 = 0) => ?_)
        refine ow_iconst X_32 427 (1 : Int32) at_426 rfl rfl ?_
        refine ow_goto X_32 431 at_427 rfl ?_
        refine ow_istore X_32 433 (L' := #[.val (.int p0), .val (.int p1), .val (.int p2), .val (.int p3), .val (.int p4), .val (.int p5), .val (.int n), .val (.int a), .val (.int b), .val (.int c), .val (.int sl), .val (.int d), .val (.ref o), .val (.int k), .val (.int e1), .val (.int e2), .val (.int (1 : Int32)), .val (.int ex), .val (.int ((d.toUInt32 >>> ((6 : Int32) &&& 31).toUInt32).toInt32)), .val (.long (0 : Int64)), .second]) at_431 rfl rfl ?_
        refine ow_iload X_32 435 at_433 rfl rfl ?_
        refine ow_if_eq X_32 438 454 at_435 rfl rfl (fun (c435 : 1 = 0) => absurd c435 (by decide)) (fun (c435 : 1 ≠ 0) => ?_)
        refine ow_aload X_32 440 at_438 rfl rfl rfl ?_
        refine ow_iload X_32 442 at_440 rfl rfl ?_
        refine ow_callV X_32 445 50 51 53 52 54 3 (κ' := k9) (as := [.int d]) (S := []) (W := 0) rfl rfl rfl rfl rfl rfl rfl (by decide) R0.1 (C_part (oSt_w X_32) (oSt_n0 X_32) o pd pw pi d cnt n R0 Ad hd) (by decide) (by decide) (Nat.le_of_eq rfl) (by decide) (by decide) pd9 rfl rfl rfl at_442 rfl ?_
        intro v_33 T_33 h_33 X_33 q_33
        obtain ⟨rfl, rfl⟩ := q_33
        show oWP ω γ k0 _ T_33 445 #[.val (.int p0), .val (.int p1), .val (.int p2), .val (.int p3), .val (.int p4), .val (.int p5), .val (.int n), .val (.int a), .val (.int b), .val (.int c), .val (.int sl), .val (.int d), .val (.ref o), .val (.int k), .val (.int e1), .val (.int e2), .val (.int (1 : Int32)), .val (.int ex), .val (.int ((d.toUInt32 >>> ((6 : Int32) &&& 31).toUInt32).toInt32)), .val (.long (0 : Int64)), .second] [.double (0 : UInt64)]
        refine ow_dconst0 X_33 446 (0 : UInt64) at_445 rfl rfl ?_
        refine ow_dcmp X_33 447 (0 : Int32) at_446 rfl (by decide +kernel) ?_
        refine ow_if_ne X_33 450 454 at_447 rfl rfl (fun (c447 : 0 ≠ 0) => absurd rfl c447) (fun (c447 : 0 = 0) => ?_)
        refine ow_iconst X_33 451 (1 : Int32) at_450 rfl rfl ?_
        refine ow_goto X_33 455 at_451 rfl ?_
        refine ow_istore X_33 457 (L' := #[.val (.int p0), .val (.int p1), .val (.int p2), .val (.int p3), .val (.int p4), .val (.int p5), .val (.int n), .val (.int a), .val (.int b), .val (.int c), .val (.int sl), .val (.int d), .val (.ref o), .val (.int k), .val (.int e1), .val (.int e2), .val (.int (1 : Int32)), .val (.int ex), .val (.int ((d.toUInt32 >>> ((6 : Int32) &&& 31).toUInt32).toInt32)), .val (.long (0 : Int64)), .second]) at_455 rfl rfl ?_
        refine ow_iload X_33 459 at_457 rfl rfl ?_
        refine ow_retZ X_33 rfl at_459 (by decide) (by decide) (by decide) ?_
        rfl
      · refine ow_lload X_31 398 at_396 rfl rfl ?_
        refine ow_lconst X_31 399 (1 : Int64) at_398 rfl rfl ?_
        refine ow_iload X_31 401 at_399 rfl rfl ?_
        refine ow_bipush X_31 403 (63 : Int32) at_401 rfl rfl ?_
        refine ow_iand X_31 404 at_403 rfl ?_
        refine ow_lshl X_31 405 at_404 rfl ?_
        refine ow_lor X_31 406 at_405 rfl ?_
        refine ow_lstore X_31 408 (L' := #[.val (.int p0), .val (.int p1), .val (.int p2), .val (.int p3), .val (.int p4), .val (.int p5), .val (.int n), .val (.int a), .val (.int b), .val (.int c), .val (.int sl), .val (.int d), .val (.ref o), .val (.int k), .val (.int e1), .val (.int e2), .val (.int (1 : Int32)), .val (.int ex), .val (.int ((d.toUInt32 >>> ((6 : Int32) &&& 31).toUInt32).toInt32)), .val (.long ((0 : Int64) ||| ((1 : Int64) <<< ((c &&& (63 : Int32)) &&& 0x3f).toInt64))), .second]) at_406 rfl rfl ?_
        refine ow_iload X_31 410 at_408 rfl rfl ?_
        refine ow_if_eq X_31 413 430 at_410 rfl rfl (fun (c410 : 1 = 0) => absurd c410 (by decide)) (fun (c410 : 1 ≠ 0) => ?_)
        refine ow_aload X_31 415 at_413 rfl rfl rfl ?_
        refine ow_iload X_31 417 at_415 rfl rfl ?_
        have hw : (own_W (own_W (own_W oZJ a) b) c) ((d.toUInt32 >>> ((6 : Int32) &&& 31).toUInt32).toInt32).toInt.toNat = (0 : Int64) ||| ((1 : Int64) <<< ((c &&& (63 : Int32)) &&& 0x3f).toInt64) := (own_w1 (d := c) (own_w0 (d := b) (own_ui hb.1) (own_ui hd.1) (own_w0 (d := a) (own_ui ha.1) (own_ui hd.1) (rfl : oZJ ((d.toUInt32 >>> ((6 : Int32) &&& 31).toUInt32).toInt32).toInt.toNat = (0 : Int64)) c349) c371) c393)
        refine ow_callV X_31 420 45 46 48 47 49 3 (κ' := k8) (as := [.int ((d.toUInt32 >>> ((6 : Int32) &&& 31).toUInt32).toInt32)]) (S := []) (W := 0) rfl rfl rfl rfl rfl rfl rfl (by decide) R0.1 (C_word (oSt_w X_31) (oSt_n0 X_31) o pd pw pi ((d.toUInt32 >>> ((6 : Int32) &&& 31).toUInt32).toInt32) cnt nw (own_W (own_W (own_W oZJ a) b) c) R0 Aw (own_ui hd.1) (own_uj hd.1 hd.2 hnw)) (by decide) (by decide) (Nat.le_of_eq rfl) (by decide) (by decide) pd8 rfl rfl rfl at_417 rfl ?_
        intro v_34 T_34 h_34 X_34 q_34
        obtain ⟨rfl, rfl⟩ := q_34
        rw [hw]
        show oWP ω γ k0 _ T_34 420 #[.val (.int p0), .val (.int p1), .val (.int p2), .val (.int p3), .val (.int p4), .val (.int p5), .val (.int n), .val (.int a), .val (.int b), .val (.int c), .val (.int sl), .val (.int d), .val (.ref o), .val (.int k), .val (.int e1), .val (.int e2), .val (.int (1 : Int32)), .val (.int ex), .val (.int ((d.toUInt32 >>> ((6 : Int32) &&& 31).toUInt32).toInt32)), .val (.long ((0 : Int64) ||| ((1 : Int64) <<< ((c &&& (63 : Int32)) &&& 0x3f).toInt64))), .second] [.long ((0 : Int64) ||| ((1 : Int64) <<< ((c &&& (63 : Int32)) &&& 0x3f).toInt64))]
        refine ow_lload X_34 422 at_420 rfl rfl ?_
        refine ow_lcmp_ne X_34 423 426 430 at_422 rfl at_423 rfl rfl (fun (c422 : ((0 : Int64) ||| ((1 : Int64) <<< ((c &&& (63 : Int32)) &&& 0x3f).toInt64)).toInt ≠ ((0 : Int64) ||| ((1 : Int64) <<< ((c &&& (63 : Int32)) &&& 0x3f).toInt64)).toInt) => absurd rfl c422) (fun (c422 : ((0 : Int64) ||| ((1 : Int64) <<< ((c &&& (63 : Int32)) &&& 0x3f).toInt64)).toInt = ((0 : Int64) ||| ((1 : Int64) <<< ((c &&& (63 : Int32)) &&& 0x3f).toInt64)).toInt) => ?_)
        refine ow_iconst X_34 427 (1 : Int32) at_426 rfl rfl ?_
        refine ow_goto X_34 431 at_427 rfl ?_
        refine ow_istore X_34 433 (L' := #[.val (.int p0), .val (.int p1), .val (.int p2), .val (.int p3), .val (.int p4), .val (.int p5), .val (.int n), .val (.int a), .val (.int b), .val (.int c), .val (.int sl), .val (.int d), .val (.ref o), .val (.int k), .val (.int e1), .val (.int e2), .val (.int (1 : Int32)), .val (.int ex), .val (.int ((d.toUInt32 >>> ((6 : Int32) &&& 31).toUInt32).toInt32)), .val (.long ((0 : Int64) ||| ((1 : Int64) <<< ((c &&& (63 : Int32)) &&& 0x3f).toInt64))), .second]) at_431 rfl rfl ?_
        refine ow_iload X_34 435 at_433 rfl rfl ?_
        refine ow_if_eq X_34 438 454 at_435 rfl rfl (fun (c435 : 1 = 0) => absurd c435 (by decide)) (fun (c435 : 1 ≠ 0) => ?_)
        refine ow_aload X_34 440 at_438 rfl rfl rfl ?_
        refine ow_iload X_34 442 at_440 rfl rfl ?_
        refine ow_callV X_34 445 50 51 53 52 54 3 (κ' := k9) (as := [.int d]) (S := []) (W := 0) rfl rfl rfl rfl rfl rfl rfl (by decide) R0.1 (C_part (oSt_w X_34) (oSt_n0 X_34) o pd pw pi d cnt n R0 Ad hd) (by decide) (by decide) (Nat.le_of_eq rfl) (by decide) (by decide) pd9 rfl rfl rfl at_442 rfl ?_
        intro v_35 T_35 h_35 X_35 q_35
        obtain ⟨rfl, rfl⟩ := q_35
        show oWP ω γ k0 _ T_35 445 #[.val (.int p0), .val (.int p1), .val (.int p2), .val (.int p3), .val (.int p4), .val (.int p5), .val (.int n), .val (.int a), .val (.int b), .val (.int c), .val (.int sl), .val (.int d), .val (.ref o), .val (.int k), .val (.int e1), .val (.int e2), .val (.int (1 : Int32)), .val (.int ex), .val (.int ((d.toUInt32 >>> ((6 : Int32) &&& 31).toUInt32).toInt32)), .val (.long ((0 : Int64) ||| ((1 : Int64) <<< ((c &&& (63 : Int32)) &&& 0x3f).toInt64))), .second] [.double (0 : UInt64)]
        refine ow_dconst0 X_35 446 (0 : UInt64) at_445 rfl rfl ?_
        refine ow_dcmp X_35 447 (0 : Int32) at_446 rfl (by decide +kernel) ?_
        refine ow_if_ne X_35 450 454 at_447 rfl rfl (fun (c447 : 0 ≠ 0) => absurd rfl c447) (fun (c447 : 0 = 0) => ?_)
        refine ow_iconst X_35 451 (1 : Int32) at_450 rfl rfl ?_
        refine ow_goto X_35 455 at_451 rfl ?_
        refine ow_istore X_35 457 (L' := #[.val (.int p0), .val (.int p1), .val (.int p2), .val (.int p3), .val (.int p4), .val (.int p5), .val (.int n), .val (.int a), .val (.int b), .val (.int c), .val (.int sl), .val (.int d), .val (.ref o), .val (.int k), .val (.int e1), .val (.int e2), .val (.int (1 : Int32)), .val (.int ex), .val (.int ((d.toUInt32 >>> ((6 : Int32) &&& 31).toUInt32).toInt32)), .val (.long ((0 : Int64) ||| ((1 : Int64) <<< ((c &&& (63 : Int32)) &&& 0x3f).toInt64))), .second]) at_455 rfl rfl ?_
        refine ow_iload X_35 459 at_457 rfl rfl ?_
        refine ow_retZ X_35 rfl at_459 (by decide) (by decide) (by decide) ?_
        rfl
    · refine ow_lload X_31 376 at_374 rfl rfl ?_
      refine ow_lconst X_31 377 (1 : Int64) at_376 rfl rfl ?_
      refine ow_iload X_31 379 at_377 rfl rfl ?_
      refine ow_bipush X_31 381 (63 : Int32) at_379 rfl rfl ?_
      refine ow_iand X_31 382 at_381 rfl ?_
      refine ow_lshl X_31 383 at_382 rfl ?_
      refine ow_lor X_31 384 at_383 rfl ?_
      refine ow_lstore X_31 386 (L' := #[.val (.int p0), .val (.int p1), .val (.int p2), .val (.int p3), .val (.int p4), .val (.int p5), .val (.int n), .val (.int a), .val (.int b), .val (.int c), .val (.int sl), .val (.int d), .val (.ref o), .val (.int k), .val (.int e1), .val (.int e2), .val (.int (1 : Int32)), .val (.int ex), .val (.int ((d.toUInt32 >>> ((6 : Int32) &&& 31).toUInt32).toInt32)), .val (.long ((0 : Int64) ||| ((1 : Int64) <<< ((b &&& (63 : Int32)) &&& 0x3f).toInt64))), .second]) at_384 rfl rfl ?_
      refine ow_iload X_31 388 at_386 rfl rfl ?_
      refine ow_bipush X_31 390 (6 : Int32) at_388 rfl rfl ?_
      refine ow_iushr X_31 391 at_390 rfl ?_
      refine ow_iload X_31 393 at_391 rfl rfl ?_
      refine ow_icmp_ne X_31 396 408 at_393 rfl rfl (fun (c393 : ((c.toUInt32 >>> ((6 : Int32) &&& 31).toUInt32).toInt32).toInt ≠ ((d.toUInt32 >>> ((6 : Int32) &&& 31).toUInt32).toInt32).toInt) => ?_) (fun (c393 : ((c.toUInt32 >>> ((6 : Int32) &&& 31).toUInt32).toInt32).toInt = ((d.toUInt32 >>> ((6 : Int32) &&& 31).toUInt32).toInt32).toInt) => ?_)
      · refine ow_iload X_31 410 at_408 rfl rfl ?_
        refine ow_if_eq X_31 413 430 at_410 rfl rfl (fun (c410 : 1 = 0) => absurd c410 (by decide)) (fun (c410 : 1 ≠ 0) => ?_)
        refine ow_aload X_31 415 at_413 rfl rfl rfl ?_
        refine ow_iload X_31 417 at_415 rfl rfl ?_
        have hw : (own_W (own_W (own_W oZJ a) b) c) ((d.toUInt32 >>> ((6 : Int32) &&& 31).toUInt32).toInt32).toInt.toNat = (0 : Int64) ||| ((1 : Int64) <<< ((b &&& (63 : Int32)) &&& 0x3f).toInt64) := (own_w0 (d := c) (own_ui hc.1) (own_ui hd.1) (own_w1 (d := b) (own_w0 (d := a) (own_ui ha.1) (own_ui hd.1) (rfl : oZJ ((d.toUInt32 >>> ((6 : Int32) &&& 31).toUInt32).toInt32).toInt.toNat = (0 : Int64)) c349) c371) c393)
        refine ow_callV X_31 420 45 46 48 47 49 3 (κ' := k8) (as := [.int ((d.toUInt32 >>> ((6 : Int32) &&& 31).toUInt32).toInt32)]) (S := []) (W := 0) rfl rfl rfl rfl rfl rfl rfl (by decide) R0.1 (C_word (oSt_w X_31) (oSt_n0 X_31) o pd pw pi ((d.toUInt32 >>> ((6 : Int32) &&& 31).toUInt32).toInt32) cnt nw (own_W (own_W (own_W oZJ a) b) c) R0 Aw (own_ui hd.1) (own_uj hd.1 hd.2 hnw)) (by decide) (by decide) (Nat.le_of_eq rfl) (by decide) (by decide) pd8 rfl rfl rfl at_417 rfl ?_
        intro v_36 T_36 h_36 X_36 q_36
        obtain ⟨rfl, rfl⟩ := q_36
        rw [hw]
        show oWP ω γ k0 _ T_36 420 #[.val (.int p0), .val (.int p1), .val (.int p2), .val (.int p3), .val (.int p4), .val (.int p5), .val (.int n), .val (.int a), .val (.int b), .val (.int c), .val (.int sl), .val (.int d), .val (.ref o), .val (.int k), .val (.int e1), .val (.int e2), .val (.int (1 : Int32)), .val (.int ex), .val (.int ((d.toUInt32 >>> ((6 : Int32) &&& 31).toUInt32).toInt32)), .val (.long ((0 : Int64) ||| ((1 : Int64) <<< ((b &&& (63 : Int32)) &&& 0x3f).toInt64))), .second] [.long ((0 : Int64) ||| ((1 : Int64) <<< ((b &&& (63 : Int32)) &&& 0x3f).toInt64))]
        refine ow_lload X_36 422 at_420 rfl rfl ?_
        refine ow_lcmp_ne X_36 423 426 430 at_422 rfl at_423 rfl rfl (fun (c422 : ((0 : Int64) ||| ((1 : Int64) <<< ((b &&& (63 : Int32)) &&& 0x3f).toInt64)).toInt ≠ ((0 : Int64) ||| ((1 : Int64) <<< ((b &&& (63 : Int32)) &&& 0x3f).toInt64)).toInt) => absurd rfl c422) (fun (c422 : ((0 : Int64) ||| ((1 : Int64) <<< ((b &&& (63 : Int32)) &&& 0x3f).toInt64)).toInt = ((0 : Int64) ||| ((1 : Int64) <<< ((b &&& (63 : Int32)) &&& 0x3f).toInt64)).toInt) => ?_)
        refine ow_iconst X_36 427 (1 : Int32) at_426 rfl rfl ?_
        refine ow_goto X_36 431 at_427 rfl ?_
        refine ow_istore X_36 433 (L' := #[.val (.int p0), .val (.int p1), .val (.int p2), .val (.int p3), .val (.int p4), .val (.int p5), .val (.int n), .val (.int a), .val (.int b), .val (.int c), .val (.int sl), .val (.int d), .val (.ref o), .val (.int k), .val (.int e1), .val (.int e2), .val (.int (1 : Int32)), .val (.int ex), .val (.int ((d.toUInt32 >>> ((6 : Int32) &&& 31).toUInt32).toInt32)), .val (.long ((0 : Int64) ||| ((1 : Int64) <<< ((b &&& (63 : Int32)) &&& 0x3f).toInt64))), .second]) at_431 rfl rfl ?_
        refine ow_iload X_36 435 at_433 rfl rfl ?_
        refine ow_if_eq X_36 438 454 at_435 rfl rfl (fun (c435 : 1 = 0) => absurd c435 (by decide)) (fun (c435 : 1 ≠ 0) => ?_)
        refine ow_aload X_36 440 at_438 rfl rfl rfl ?_
        refine ow_iload X_36 442 at_440 rfl rfl ?_
        refine ow_callV X_36 445 50 51 53 52 54 3 (κ' := k9) (as := [.int d]) (S := []) (W := 0) rfl rfl rfl rfl rfl rfl rfl (by decide) R0.1 (C_part (oSt_w X_36) (oSt_n0 X_36) o pd pw pi d cnt n R0 Ad hd) (by decide) (by decide) (Nat.le_of_eq rfl) (by decide) (by decide) pd9 rfl rfl rfl at_442 rfl ?_
        intro v_37 T_37 h_37 X_37 q_37
        obtain ⟨rfl, rfl⟩ := q_37
        show oWP ω γ k0 _ T_37 445 #[.val (.int p0), .val (.int p1), .val (.int p2), .val (.int p3), .val (.int p4), .val (.int p5), .val (.int n), .val (.int a), .val (.int b), .val (.int c), .val (.int sl), .val (.int d), .val (.ref o), .val (.int k), .val (.int e1), .val (.int e2), .val (.int (1 : Int32)), .val (.int ex), .val (.int ((d.toUInt32 >>> ((6 : Int32) &&& 31).toUInt32).toInt32)), .val (.long ((0 : Int64) ||| ((1 : Int64) <<< ((b &&& (63 : Int32)) &&& 0x3f).toInt64))), .second] [.double (0 : UInt64)]
        refine ow_dconst0 X_37 446 (0 : UInt64) at_445 rfl rfl ?_
        refine ow_dcmp X_37 447 (0 : Int32) at_446 rfl (by decide +kernel) ?_
        refine ow_if_ne X_37 450 454 at_447 rfl rfl (fun (c447 : 0 ≠ 0) => absurd rfl c447) (fun (c447 : 0 = 0) => ?_)
        refine ow_iconst X_37 451 (1 : Int32) at_450 rfl rfl ?_
        refine ow_goto X_37 455 at_451 rfl ?_
        refine ow_istore X_37 457 (L' := #[.val (.int p0), .val (.int p1), .val (.int p2), .val (.int p3), .val (.int p4), .val (.int p5), .val (.int n), .val (.int a), .val (.int b), .val (.int c), .val (.int sl), .val (.int d), .val (.ref o), .val (.int k), .val (.int e1), .val (.int e2), .val (.int (1 : Int32)), .val (.int ex), .val (.int ((d.toUInt32 >>> ((6 : Int32) &&& 31).toUInt32).toInt32)), .val (.long ((0 : Int64) ||| ((1 : Int64) <<< ((b &&& (63 : Int32)) &&& 0x3f).toInt64))), .second]) at_455 rfl rfl ?_
        refine ow_iload X_37 459 at_457 rfl rfl ?_
        refine ow_retZ X_37 rfl at_459 (by decide) (by decide) (by decide) ?_
        rfl
      · refine ow_lload X_31 398 at_396 rfl rfl ?_
        refine ow_lconst X_31 399 (1 : Int64) at_398 rfl rfl ?_
        refine ow_iload X_31 401 at_399 rfl rfl ?_
        refine ow_bipush X_31 403 (63 : Int32) at_401 rfl rfl ?_
        refine ow_iand X_31 404 at_403 rfl ?_
        refine ow_lshl X_31 405 at_404 rfl ?_
        refine ow_lor X_31 406 at_405 rfl ?_
        refine ow_lstore X_31 408 (L' := #[.val (.int p0), .val (.int p1), .val (.int p2), .val (.int p3), .val (.int p4), .val (.int p5), .val (.int n), .val (.int a), .val (.int b), .val (.int c), .val (.int sl), .val (.int d), .val (.ref o), .val (.int k), .val (.int e1), .val (.int e2), .val (.int (1 : Int32)), .val (.int ex), .val (.int ((d.toUInt32 >>> ((6 : Int32) &&& 31).toUInt32).toInt32)), .val (.long (((0 : Int64) ||| ((1 : Int64) <<< ((b &&& (63 : Int32)) &&& 0x3f).toInt64)) ||| ((1 : Int64) <<< ((c &&& (63 : Int32)) &&& 0x3f).toInt64))), .second]) at_406 rfl rfl ?_
        refine ow_iload X_31 410 at_408 rfl rfl ?_
        refine ow_if_eq X_31 413 430 at_410 rfl rfl (fun (c410 : 1 = 0) => absurd c410 (by decide)) (fun (c410 : 1 ≠ 0) => ?_)
        refine ow_aload X_31 415 at_413 rfl rfl rfl ?_
        refine ow_iload X_31 417 at_415 rfl rfl ?_
        have hw : (own_W (own_W (own_W oZJ a) b) c) ((d.toUInt32 >>> ((6 : Int32) &&& 31).toUInt32).toInt32).toInt.toNat = ((0 : Int64) ||| ((1 : Int64) <<< ((b &&& (63 : Int32)) &&& 0x3f).toInt64)) ||| ((1 : Int64) <<< ((c &&& (63 : Int32)) &&& 0x3f).toInt64) := (own_w1 (d := c) (own_w1 (d := b) (own_w0 (d := a) (own_ui ha.1) (own_ui hd.1) (rfl : oZJ ((d.toUInt32 >>> ((6 : Int32) &&& 31).toUInt32).toInt32).toInt.toNat = (0 : Int64)) c349) c371) c393)
        refine ow_callV X_31 420 45 46 48 47 49 3 (κ' := k8) (as := [.int ((d.toUInt32 >>> ((6 : Int32) &&& 31).toUInt32).toInt32)]) (S := []) (W := 0) rfl rfl rfl rfl rfl rfl rfl (by decide) R0.1 (C_word (oSt_w X_31) (oSt_n0 X_31) o pd pw pi ((d.toUInt32 >>> ((6 : Int32) &&& 31).toUInt32).toInt32) cnt nw (own_W (own_W (own_W oZJ a) b) c) R0 Aw (own_ui hd.1) (own_uj hd.1 hd.2 hnw)) (by decide) (by decide) (Nat.le_of_eq rfl) (by decide) (by decide) pd8 rfl rfl rfl at_417 rfl ?_
        intro v_38 T_38 h_38 X_38 q_38
        obtain ⟨rfl, rfl⟩ := q_38
        rw [hw]
        show oWP ω γ k0 _ T_38 420 #[.val (.int p0), .val (.int p1), .val (.int p2), .val (.int p3), .val (.int p4), .val (.int p5), .val (.int n), .val (.int a), .val (.int b), .val (.int c), .val (.int sl), .val (.int d), .val (.ref o), .val (.int k), .val (.int e1), .val (.int e2), .val (.int (1 : Int32)), .val (.int ex), .val (.int ((d.toUInt32 >>> ((6 : Int32) &&& 31).toUInt32).toInt32)), .val (.long (((0 : Int64) ||| ((1 : Int64) <<< ((b &&& (63 : Int32)) &&& 0x3f).toInt64)) ||| ((1 : Int64) <<< ((c &&& (63 : Int32)) &&& 0x3f).toInt64))), .second] [.long (((0 : Int64) ||| ((1 : Int64) <<< ((b &&& (63 : Int32)) &&& 0x3f).toInt64)) ||| ((1 : Int64) <<< ((c &&& (63 : Int32)) &&& 0x3f).toInt64))]
        refine ow_lload X_38 422 at_420 rfl rfl ?_
        refine ow_lcmp_ne X_38 423 426 430 at_422 rfl at_423 rfl rfl (fun (c422 : (((0 : Int64) ||| ((1 : Int64) <<< ((b &&& (63 : Int32)) &&& 0x3f).toInt64)) ||| ((1 : Int64) <<< ((c &&& (63 : Int32)) &&& 0x3f).toInt64)).toInt ≠ (((0 : Int64) ||| ((1 : Int64) <<< ((b &&& (63 : Int32)) &&& 0x3f).toInt64)) ||| ((1 : Int64) <<< ((c &&& (63 : Int32)) &&& 0x3f).toInt64)).toInt) => absurd rfl c422) (fun (c422 : (((0 : Int64) ||| ((1 : Int64) <<< ((b &&& (63 : Int32)) &&& 0x3f).toInt64)) ||| ((1 : Int64) <<< ((c &&& (63 : Int32)) &&& 0x3f).toInt64)).toInt = (((0 : Int64) ||| ((1 : Int64) <<< ((b &&& (63 : Int32)) &&& 0x3f).toInt64)) ||| ((1 : Int64) <<< ((c &&& (63 : Int32)) &&& 0x3f).toInt64)).toInt) => ?_)
        refine ow_iconst X_38 427 (1 : Int32) at_426 rfl rfl ?_
        refine ow_goto X_38 431 at_427 rfl ?_
        refine ow_istore X_38 433 (L' := #[.val (.int p0), .val (.int p1), .val (.int p2), .val (.int p3), .val (.int p4), .val (.int p5), .val (.int n), .val (.int a), .val (.int b), .val (.int c), .val (.int sl), .val (.int d), .val (.ref o), .val (.int k), .val (.int e1), .val (.int e2), .val (.int (1 : Int32)), .val (.int ex), .val (.int ((d.toUInt32 >>> ((6 : Int32) &&& 31).toUInt32).toInt32)), .val (.long (((0 : Int64) ||| ((1 : Int64) <<< ((b &&& (63 : Int32)) &&& 0x3f).toInt64)) ||| ((1 : Int64) <<< ((c &&& (63 : Int32)) &&& 0x3f).toInt64))), .second]) at_431 rfl rfl ?_
        refine ow_iload X_38 435 at_433 rfl rfl ?_
        refine ow_if_eq X_38 438 454 at_435 rfl rfl (fun (c435 : 1 = 0) => absurd c435 (by decide)) (fun (c435 : 1 ≠ 0) => ?_)
        refine ow_aload X_38 440 at_438 rfl rfl rfl ?_
        refine ow_iload X_38 442 at_440 rfl rfl ?_
        refine ow_callV X_38 445 50 51 53 52 54 3 (κ' := k9) (as := [.int d]) (S := []) (W := 0) rfl rfl rfl rfl rfl rfl rfl (by decide) R0.1 (C_part (oSt_w X_38) (oSt_n0 X_38) o pd pw pi d cnt n R0 Ad hd) (by decide) (by decide) (Nat.le_of_eq rfl) (by decide) (by decide) pd9 rfl rfl rfl at_442 rfl ?_
        intro v_39 T_39 h_39 X_39 q_39
        obtain ⟨rfl, rfl⟩ := q_39
        show oWP ω γ k0 _ T_39 445 #[.val (.int p0), .val (.int p1), .val (.int p2), .val (.int p3), .val (.int p4), .val (.int p5), .val (.int n), .val (.int a), .val (.int b), .val (.int c), .val (.int sl), .val (.int d), .val (.ref o), .val (.int k), .val (.int e1), .val (.int e2), .val (.int (1 : Int32)), .val (.int ex), .val (.int ((d.toUInt32 >>> ((6 : Int32) &&& 31).toUInt32).toInt32)), .val (.long (((0 : Int64) ||| ((1 : Int64) <<< ((b &&& (63 : Int32)) &&& 0x3f).toInt64)) ||| ((1 : Int64) <<< ((c &&& (63 : Int32)) &&& 0x3f).toInt64))), .second] [.double (0 : UInt64)]
        refine ow_dconst0 X_39 446 (0 : UInt64) at_445 rfl rfl ?_
        refine ow_dcmp X_39 447 (0 : Int32) at_446 rfl (by decide +kernel) ?_
        refine ow_if_ne X_39 450 454 at_447 rfl rfl (fun (c447 : 0 ≠ 0) => absurd rfl c447) (fun (c447 : 0 = 0) => ?_)
        refine ow_iconst X_39 451 (1 : Int32) at_450 rfl rfl ?_
        refine ow_goto X_39 455 at_451 rfl ?_
        refine ow_istore X_39 457 (L' := #[.val (.int p0), .val (.int p1), .val (.int p2), .val (.int p3), .val (.int p4), .val (.int p5), .val (.int n), .val (.int a), .val (.int b), .val (.int c), .val (.int sl), .val (.int d), .val (.ref o), .val (.int k), .val (.int e1), .val (.int e2), .val (.int (1 : Int32)), .val (.int ex), .val (.int ((d.toUInt32 >>> ((6 : Int32) &&& 31).toUInt32).toInt32)), .val (.long (((0 : Int64) ||| ((1 : Int64) <<< ((b &&& (63 : Int32)) &&& 0x3f).toInt64)) ||| ((1 : Int64) <<< ((c &&& (63 : Int32)) &&& 0x3f).toInt64))), .second]) at_455 rfl rfl ?_
        refine ow_iload X_39 459 at_457 rfl rfl ?_
        refine ow_retZ X_39 rfl at_459 (by decide) (by decide) (by decide) ?_
        rfl
  · refine ow_lload X_31 354 at_352 rfl rfl ?_
    refine ow_lconst X_31 355 (1 : Int64) at_354 rfl rfl ?_
    refine ow_iload X_31 357 at_355 rfl rfl ?_
    refine ow_bipush X_31 359 (63 : Int32) at_357 rfl rfl ?_
    refine ow_iand X_31 360 at_359 rfl ?_
    refine ow_lshl X_31 361 at_360 rfl ?_
    refine ow_lor X_31 362 at_361 rfl ?_
    refine ow_lstore X_31 364 (L' := #[.val (.int p0), .val (.int p1), .val (.int p2), .val (.int p3), .val (.int p4), .val (.int p5), .val (.int n), .val (.int a), .val (.int b), .val (.int c), .val (.int sl), .val (.int d), .val (.ref o), .val (.int k), .val (.int e1), .val (.int e2), .val (.int (1 : Int32)), .val (.int ex), .val (.int ((d.toUInt32 >>> ((6 : Int32) &&& 31).toUInt32).toInt32)), .val (.long ((0 : Int64) ||| ((1 : Int64) <<< ((a &&& (63 : Int32)) &&& 0x3f).toInt64))), .second]) at_362 rfl rfl ?_
    refine ow_iload X_31 366 at_364 rfl rfl ?_
    refine ow_bipush X_31 368 (6 : Int32) at_366 rfl rfl ?_
    refine ow_iushr X_31 369 at_368 rfl ?_
    refine ow_iload X_31 371 at_369 rfl rfl ?_
    refine ow_icmp_ne X_31 374 386 at_371 rfl rfl (fun (c371 : ((b.toUInt32 >>> ((6 : Int32) &&& 31).toUInt32).toInt32).toInt ≠ ((d.toUInt32 >>> ((6 : Int32) &&& 31).toUInt32).toInt32).toInt) => ?_) (fun (c371 : ((b.toUInt32 >>> ((6 : Int32) &&& 31).toUInt32).toInt32).toInt = ((d.toUInt32 >>> ((6 : Int32) &&& 31).toUInt32).toInt32).toInt) => ?_)
    · refine ow_iload X_31 388 at_386 rfl rfl ?_
      refine ow_bipush X_31 390 (6 : Int32) at_388 rfl rfl ?_
      refine ow_iushr X_31 391 at_390 rfl ?_
      refine ow_iload X_31 393 at_391 rfl rfl ?_
      refine ow_icmp_ne X_31 396 408 at_393 rfl rfl (fun (c393 : ((c.toUInt32 >>> ((6 : Int32) &&& 31).toUInt32).toInt32).toInt ≠ ((d.toUInt32 >>> ((6 : Int32) &&& 31).toUInt32).toInt32).toInt) => ?_) (fun (c393 : ((c.toUInt32 >>> ((6 : Int32) &&& 31).toUInt32).toInt32).toInt = ((d.toUInt32 >>> ((6 : Int32) &&& 31).toUInt32).toInt32).toInt) => ?_)
      · refine ow_iload X_31 410 at_408 rfl rfl ?_
        refine ow_if_eq X_31 413 430 at_410 rfl rfl (fun (c410 : 1 = 0) => absurd c410 (by decide)) (fun (c410 : 1 ≠ 0) => ?_)
        refine ow_aload X_31 415 at_413 rfl rfl rfl ?_
        refine ow_iload X_31 417 at_415 rfl rfl ?_
        have hw : (own_W (own_W (own_W oZJ a) b) c) ((d.toUInt32 >>> ((6 : Int32) &&& 31).toUInt32).toInt32).toInt.toNat = (0 : Int64) ||| ((1 : Int64) <<< ((a &&& (63 : Int32)) &&& 0x3f).toInt64) := (own_w0 (d := c) (own_ui hc.1) (own_ui hd.1) (own_w0 (d := b) (own_ui hb.1) (own_ui hd.1) (own_w1 (d := a) (rfl : oZJ ((d.toUInt32 >>> ((6 : Int32) &&& 31).toUInt32).toInt32).toInt.toNat = (0 : Int64)) c349) c371) c393)
        refine ow_callV X_31 420 45 46 48 47 49 3 (κ' := k8) (as := [.int ((d.toUInt32 >>> ((6 : Int32) &&& 31).toUInt32).toInt32)]) (S := []) (W := 0) rfl rfl rfl rfl rfl rfl rfl (by decide) R0.1 (C_word (oSt_w X_31) (oSt_n0 X_31) o pd pw pi ((d.toUInt32 >>> ((6 : Int32) &&& 31).toUInt32).toInt32) cnt nw (own_W (own_W (own_W oZJ a) b) c) R0 Aw (own_ui hd.1) (own_uj hd.1 hd.2 hnw)) (by decide) (by decide) (Nat.le_of_eq rfl) (by decide) (by decide) pd8 rfl rfl rfl at_417 rfl ?_
        intro v_40 T_40 h_40 X_40 q_40
        obtain ⟨rfl, rfl⟩ := q_40
        rw [hw]
        show oWP ω γ k0 _ T_40 420 #[.val (.int p0), .val (.int p1), .val (.int p2), .val (.int p3), .val (.int p4), .val (.int p5), .val (.int n), .val (.int a), .val (.int b), .val (.int c), .val (.int sl), .val (.int d), .val (.ref o), .val (.int k), .val (.int e1), .val (.int e2), .val (.int (1 : Int32)), .val (.int ex), .val (.int ((d.toUInt32 >>> ((6 : Int32) &&& 31).toUInt32).toInt32)), .val (.long ((0 : Int64) ||| ((1 : Int64) <<< ((a &&& (63 : Int32)) &&& 0x3f).toInt64))), .second] [.long ((0 : Int64) ||| ((1 : Int64) <<< ((a &&& (63 : Int32)) &&& 0x3f).toInt64))]
        refine ow_lload X_40 422 at_420 rfl rfl ?_
        refine ow_lcmp_ne X_40 423 426 430 at_422 rfl at_423 rfl rfl (fun (c422 : ((0 : Int64) ||| ((1 : Int64) <<< ((a &&& (63 : Int32)) &&& 0x3f).toInt64)).toInt ≠ ((0 : Int64) ||| ((1 : Int64) <<< ((a &&& (63 : Int32)) &&& 0x3f).toInt64)).toInt) => absurd rfl c422) (fun (c422 : ((0 : Int64) ||| ((1 : Int64) <<< ((a &&& (63 : Int32)) &&& 0x3f).toInt64)).toInt = ((0 : Int64) ||| ((1 : Int64) <<< ((a &&& (63 : Int32)) &&& 0x3f).toInt64)).toInt) => ?_)
        refine ow_iconst X_40 427 (1 : Int32) at_426 rfl rfl ?_
        refine ow_goto X_40 431 at_427 rfl ?_
        refine ow_istore X_40 433 (L' := #[.val (.int p0), .val (.int p1), .val (.int p2), .val (.int p3), .val (.int p4), .val (.int p5), .val (.int n), .val (.int a), .val (.int b), .val (.int c), .val (.int sl), .val (.int d), .val (.ref o), .val (.int k), .val (.int e1), .val (.int e2), .val (.int (1 : Int32)), .val (.int ex), .val (.int ((d.toUInt32 >>> ((6 : Int32) &&& 31).toUInt32).toInt32)), .val (.long ((0 : Int64) ||| ((1 : Int64) <<< ((a &&& (63 : Int32)) &&& 0x3f).toInt64))), .second]) at_431 rfl rfl ?_
        refine ow_iload X_40 435 at_433 rfl rfl ?_
        refine ow_if_eq X_40 438 454 at_435 rfl rfl (fun (c435 : 1 = 0) => absurd c435 (by decide)) (fun (c435 : 1 ≠ 0) => ?_)
        refine ow_aload X_40 440 at_438 rfl rfl rfl ?_
        refine ow_iload X_40 442 at_440 rfl rfl ?_
        refine ow_callV X_40 445 50 51 53 52 54 3 (κ' := k9) (as := [.int d]) (S := []) (W := 0) rfl rfl rfl rfl rfl rfl rfl (by decide) R0.1 (C_part (oSt_w X_40) (oSt_n0 X_40) o pd pw pi d cnt n R0 Ad hd) (by decide) (by decide) (Nat.le_of_eq rfl) (by decide) (by decide) pd9 rfl rfl rfl at_442 rfl ?_
        intro v_41 T_41 h_41 X_41 q_41
        obtain ⟨rfl, rfl⟩ := q_41
        show oWP ω γ k0 _ T_41 445 #[.val (.int p0), .val (.int p1), .val (.int p2), .val (.int p3), .val (.int p4), .val (.int p5), .val (.int n), .val (.int a), .val (.int b), .val (.int c), .val (.int sl), .val (.int d), .val (.ref o), .val (.int k), .val (.int e1), .val (.int e2), .val (.int (1 : Int32)), .val (.int ex), .val (.int ((d.toUInt32 >>> ((6 : Int32) &&& 31).toUInt32).toInt32)), .val (.long ((0 : Int64) ||| ((1 : Int64) <<< ((a &&& (63 : Int32)) &&& 0x3f).toInt64))), .second] [.double (0 : UInt64)]
        refine ow_dconst0 X_41 446 (0 : UInt64) at_445 rfl rfl ?_
        refine ow_dcmp X_41 447 (0 : Int32) at_446 rfl (by decide +kernel) ?_
        refine ow_if_ne X_41 450 454 at_447 rfl rfl (fun (c447 : 0 ≠ 0) => absurd rfl c447) (fun (c447 : 0 = 0) => ?_)
        refine ow_iconst X_41 451 (1 : Int32) at_450 rfl rfl ?_
        refine ow_goto X_41 455 at_451 rfl ?_
        refine ow_istore X_41 457 (L' := #[.val (.int p0), .val (.int p1), .val (.int p2), .val (.int p3), .val (.int p4), .val (.int p5), .val (.int n), .val (.int a), .val (.int b), .val (.int c), .val (.int sl), .val (.int d), .val (.ref o), .val (.int k), .val (.int e1), .val (.int e2), .val (.int (1 : Int32)), .val (.int ex), .val (.int ((d.toUInt32 >>> ((6 : Int32) &&& 31).toUInt32).toInt32)), .val (.long ((0 : Int64) ||| ((1 : Int64) <<< ((a &&& (63 : Int32)) &&& 0x3f).toInt64))), .second]) at_455 rfl rfl ?_
        refine ow_iload X_41 459 at_457 rfl rfl ?_
        refine ow_retZ X_41 rfl at_459 (by decide) (by decide) (by decide) ?_
        rfl
      · refine ow_lload X_31 398 at_396 rfl rfl ?_
        refine ow_lconst X_31 399 (1 : Int64) at_398 rfl rfl ?_
        refine ow_iload X_31 401 at_399 rfl rfl ?_
        refine ow_bipush X_31 403 (63 : Int32) at_401 rfl rfl ?_
        refine ow_iand X_31 404 at_403 rfl ?_
        refine ow_lshl X_31 405 at_404 rfl ?_
        refine ow_lor X_31 406 at_405 rfl ?_
        refine ow_lstore X_31 408 (L' := #[.val (.int p0), .val (.int p1), .val (.int p2), .val (.int p3), .val (.int p4), .val (.int p5), .val (.int n), .val (.int a), .val (.int b), .val (.int c), .val (.int sl), .val (.int d), .val (.ref o), .val (.int k), .val (.int e1), .val (.int e2), .val (.int (1 : Int32)), .val (.int ex), .val (.int ((d.toUInt32 >>> ((6 : Int32) &&& 31).toUInt32).toInt32)), .val (.long (((0 : Int64) ||| ((1 : Int64) <<< ((a &&& (63 : Int32)) &&& 0x3f).toInt64)) ||| ((1 : Int64) <<< ((c &&& (63 : Int32)) &&& 0x3f).toInt64))), .second]) at_406 rfl rfl ?_
        refine ow_iload X_31 410 at_408 rfl rfl ?_
        refine ow_if_eq X_31 413 430 at_410 rfl rfl (fun (c410 : 1 = 0) => absurd c410 (by decide)) (fun (c410 : 1 ≠ 0) => ?_)
        refine ow_aload X_31 415 at_413 rfl rfl rfl ?_
        refine ow_iload X_31 417 at_415 rfl rfl ?_
        have hw : (own_W (own_W (own_W oZJ a) b) c) ((d.toUInt32 >>> ((6 : Int32) &&& 31).toUInt32).toInt32).toInt.toNat = ((0 : Int64) ||| ((1 : Int64) <<< ((a &&& (63 : Int32)) &&& 0x3f).toInt64)) ||| ((1 : Int64) <<< ((c &&& (63 : Int32)) &&& 0x3f).toInt64) := (own_w1 (d := c) (own_w0 (d := b) (own_ui hb.1) (own_ui hd.1) (own_w1 (d := a) (rfl : oZJ ((d.toUInt32 >>> ((6 : Int32) &&& 31).toUInt32).toInt32).toInt.toNat = (0 : Int64)) c349) c371) c393)
        refine ow_callV X_31 420 45 46 48 47 49 3 (κ' := k8) (as := [.int ((d.toUInt32 >>> ((6 : Int32) &&& 31).toUInt32).toInt32)]) (S := []) (W := 0) rfl rfl rfl rfl rfl rfl rfl (by decide) R0.1 (C_word (oSt_w X_31) (oSt_n0 X_31) o pd pw pi ((d.toUInt32 >>> ((6 : Int32) &&& 31).toUInt32).toInt32) cnt nw (own_W (own_W (own_W oZJ a) b) c) R0 Aw (own_ui hd.1) (own_uj hd.1 hd.2 hnw)) (by decide) (by decide) (Nat.le_of_eq rfl) (by decide) (by decide) pd8 rfl rfl rfl at_417 rfl ?_
        intro v_42 T_42 h_42 X_42 q_42
        obtain ⟨rfl, rfl⟩ := q_42
        rw [hw]
        show oWP ω γ k0 _ T_42 420 #[.val (.int p0), .val (.int p1), .val (.int p2), .val (.int p3), .val (.int p4), .val (.int p5), .val (.int n), .val (.int a), .val (.int b), .val (.int c), .val (.int sl), .val (.int d), .val (.ref o), .val (.int k), .val (.int e1), .val (.int e2), .val (.int (1 : Int32)), .val (.int ex), .val (.int ((d.toUInt32 >>> ((6 : Int32) &&& 31).toUInt32).toInt32)), .val (.long (((0 : Int64) ||| ((1 : Int64) <<< ((a &&& (63 : Int32)) &&& 0x3f).toInt64)) ||| ((1 : Int64) <<< ((c &&& (63 : Int32)) &&& 0x3f).toInt64))), .second] [.long (((0 : Int64) ||| ((1 : Int64) <<< ((a &&& (63 : Int32)) &&& 0x3f).toInt64)) ||| ((1 : Int64) <<< ((c &&& (63 : Int32)) &&& 0x3f).toInt64))]
        refine ow_lload X_42 422 at_420 rfl rfl ?_
        refine ow_lcmp_ne X_42 423 426 430 at_422 rfl at_423 rfl rfl (fun (c422 : (((0 : Int64) ||| ((1 : Int64) <<< ((a &&& (63 : Int32)) &&& 0x3f).toInt64)) ||| ((1 : Int64) <<< ((c &&& (63 : Int32)) &&& 0x3f).toInt64)).toInt ≠ (((0 : Int64) ||| ((1 : Int64) <<< ((a &&& (63 : Int32)) &&& 0x3f).toInt64)) ||| ((1 : Int64) <<< ((c &&& (63 : Int32)) &&& 0x3f).toInt64)).toInt) => absurd rfl c422) (fun (c422 : (((0 : Int64) ||| ((1 : Int64) <<< ((a &&& (63 : Int32)) &&& 0x3f).toInt64)) ||| ((1 : Int64) <<< ((c &&& (63 : Int32)) &&& 0x3f).toInt64)).toInt = (((0 : Int64) ||| ((1 : Int64) <<< ((a &&& (63 : Int32)) &&& 0x3f).toInt64)) ||| ((1 : Int64) <<< ((c &&& (63 : Int32)) &&& 0x3f).toInt64)).toInt) => ?_)
        refine ow_iconst X_42 427 (1 : Int32) at_426 rfl rfl ?_
        refine ow_goto X_42 431 at_427 rfl ?_
        refine ow_istore X_42 433 (L' := #[.val (.int p0), .val (.int p1), .val (.int p2), .val (.int p3), .val (.int p4), .val (.int p5), .val (.int n), .val (.int a), .val (.int b), .val (.int c), .val (.int sl), .val (.int d), .val (.ref o), .val (.int k), .val (.int e1), .val (.int e2), .val (.int (1 : Int32)), .val (.int ex), .val (.int ((d.toUInt32 >>> ((6 : Int32) &&& 31).toUInt32).toInt32)), .val (.long (((0 : Int64) ||| ((1 : Int64) <<< ((a &&& (63 : Int32)) &&& 0x3f).toInt64)) ||| ((1 : Int64) <<< ((c &&& (63 : Int32)) &&& 0x3f).toInt64))), .second]) at_431 rfl rfl ?_
        refine ow_iload X_42 435 at_433 rfl rfl ?_
        refine ow_if_eq X_42 438 454 at_435 rfl rfl (fun (c435 : 1 = 0) => absurd c435 (by decide)) (fun (c435 : 1 ≠ 0) => ?_)
        refine ow_aload X_42 440 at_438 rfl rfl rfl ?_
        refine ow_iload X_42 442 at_440 rfl rfl ?_
        refine ow_callV X_42 445 50 51 53 52 54 3 (κ' := k9) (as := [.int d]) (S := []) (W := 0) rfl rfl rfl rfl rfl rfl rfl (by decide) R0.1 (C_part (oSt_w X_42) (oSt_n0 X_42) o pd pw pi d cnt n R0 Ad hd) (by decide) (by decide) (Nat.le_of_eq rfl) (by decide) (by decide) pd9 rfl rfl rfl at_442 rfl ?_
        intro v_43 T_43 h_43 X_43 q_43
        obtain ⟨rfl, rfl⟩ := q_43
        show oWP ω γ k0 _ T_43 445 #[.val (.int p0), .val (.int p1), .val (.int p2), .val (.int p3), .val (.int p4), .val (.int p5), .val (.int n), .val (.int a), .val (.int b), .val (.int c), .val (.int sl), .val (.int d), .val (.ref o), .val (.int k), .val (.int e1), .val (.int e2), .val (.int (1 : Int32)), .val (.int ex), .val (.int ((d.toUInt32 >>> ((6 : Int32) &&& 31).toUInt32).toInt32)), .val (.long (((0 : Int64) ||| ((1 : Int64) <<< ((a &&& (63 : Int32)) &&& 0x3f).toInt64)) ||| ((1 : Int64) <<< ((c &&& (63 : Int32)) &&& 0x3f).toInt64))), .second] [.double (0 : UInt64)]
        refine ow_dconst0 X_43 446 (0 : UInt64) at_445 rfl rfl ?_
        refine ow_dcmp X_43 447 (0 : Int32) at_446 rfl (by decide +kernel) ?_
        refine ow_if_ne X_43 450 454 at_447 rfl rfl (fun (c447 : 0 ≠ 0) => absurd rfl c447) (fun (c447 : 0 = 0) => ?_)
        refine ow_iconst X_43 451 (1 : Int32) at_450 rfl rfl ?_
        refine ow_goto X_43 455 at_451 rfl ?_
        refine ow_istore X_43 457 (L' := #[.val (.int p0), .val (.int p1), .val (.int p2), .val (.int p3), .val (.int p4), .val (.int p5), .val (.int n), .val (.int a), .val (.int b), .val (.int c), .val (.int sl), .val (.int d), .val (.ref o), .val (.int k), .val (.int e1), .val (.int e2), .val (.int (1 : Int32)), .val (.int ex), .val (.int ((d.toUInt32 >>> ((6 : Int32) &&& 31).toUInt32).toInt32)), .val (.long (((0 : Int64) ||| ((1 : Int64) <<< ((a &&& (63 : Int32)) &&& 0x3f).toInt64)) ||| ((1 : Int64) <<< ((c &&& (63 : Int32)) &&& 0x3f).toInt64))), .second]) at_455 rfl rfl ?_
        refine ow_iload X_43 459 at_457 rfl rfl ?_
        refine ow_retZ X_43 rfl at_459 (by decide) (by decide) (by decide) ?_
        rfl
    · refine ow_lload X_31 376 at_374 rfl rfl ?_
      refine ow_lconst X_31 377 (1 : Int64) at_376 rfl rfl ?_
      refine ow_iload X_31 379 at_377 rfl rfl ?_
      refine ow_bipush X_31 381 (63 : Int32) at_379 rfl rfl ?_
      refine ow_iand X_31 382 at_381 rfl ?_
      refine ow_lshl X_31 383 at_382 rfl ?_
      refine ow_lor X_31 384 at_383 rfl ?_
      refine ow_lstore X_31 386 (L' := #[.val (.int p0), .val (.int p1), .val (.int p2), .val (.int p3), .val (.int p4), .val (.int p5), .val (.int n), .val (.int a), .val (.int b), .val (.int c), .val (.int sl), .val (.int d), .val (.ref o), .val (.int k), .val (.int e1), .val (.int e2), .val (.int (1 : Int32)), .val (.int ex), .val (.int ((d.toUInt32 >>> ((6 : Int32) &&& 31).toUInt32).toInt32)), .val (.long (((0 : Int64) ||| ((1 : Int64) <<< ((a &&& (63 : Int32)) &&& 0x3f).toInt64)) ||| ((1 : Int64) <<< ((b &&& (63 : Int32)) &&& 0x3f).toInt64))), .second]) at_384 rfl rfl ?_
      refine ow_iload X_31 388 at_386 rfl rfl ?_
      refine ow_bipush X_31 390 (6 : Int32) at_388 rfl rfl ?_
      refine ow_iushr X_31 391 at_390 rfl ?_
      refine ow_iload X_31 393 at_391 rfl rfl ?_
      refine ow_icmp_ne X_31 396 408 at_393 rfl rfl (fun (c393 : ((c.toUInt32 >>> ((6 : Int32) &&& 31).toUInt32).toInt32).toInt ≠ ((d.toUInt32 >>> ((6 : Int32) &&& 31).toUInt32).toInt32).toInt) => ?_) (fun (c393 : ((c.toUInt32 >>> ((6 : Int32) &&& 31).toUInt32).toInt32).toInt = ((d.toUInt32 >>> ((6 : Int32) &&& 31).toUInt32).toInt32).toInt) => ?_)
      · refine ow_iload X_31 410 at_408 rfl rfl ?_
        refine ow_if_eq X_31 413 430 at_410 rfl rfl (fun (c410 : 1 = 0) => absurd c410 (by decide)) (fun (c410 : 1 ≠ 0) => ?_)
        refine ow_aload X_31 415 at_413 rfl rfl rfl ?_
        refine ow_iload X_31 417 at_415 rfl rfl ?_
        have hw : (own_W (own_W (own_W oZJ a) b) c) ((d.toUInt32 >>> ((6 : Int32) &&& 31).toUInt32).toInt32).toInt.toNat = ((0 : Int64) ||| ((1 : Int64) <<< ((a &&& (63 : Int32)) &&& 0x3f).toInt64)) ||| ((1 : Int64) <<< ((b &&& (63 : Int32)) &&& 0x3f).toInt64) := (own_w0 (d := c) (own_ui hc.1) (own_ui hd.1) (own_w1 (d := b) (own_w1 (d := a) (rfl : oZJ ((d.toUInt32 >>> ((6 : Int32) &&& 31).toUInt32).toInt32).toInt.toNat = (0 : Int64)) c349) c371) c393)
        refine ow_callV X_31 420 45 46 48 47 49 3 (κ' := k8) (as := [.int ((d.toUInt32 >>> ((6 : Int32) &&& 31).toUInt32).toInt32)]) (S := []) (W := 0) rfl rfl rfl rfl rfl rfl rfl (by decide) R0.1 (C_word (oSt_w X_31) (oSt_n0 X_31) o pd pw pi ((d.toUInt32 >>> ((6 : Int32) &&& 31).toUInt32).toInt32) cnt nw (own_W (own_W (own_W oZJ a) b) c) R0 Aw (own_ui hd.1) (own_uj hd.1 hd.2 hnw)) (by decide) (by decide) (Nat.le_of_eq rfl) (by decide) (by decide) pd8 rfl rfl rfl at_417 rfl ?_
        intro v_44 T_44 h_44 X_44 q_44
        obtain ⟨rfl, rfl⟩ := q_44
        rw [hw]
        show oWP ω γ k0 _ T_44 420 #[.val (.int p0), .val (.int p1), .val (.int p2), .val (.int p3), .val (.int p4), .val (.int p5), .val (.int n), .val (.int a), .val (.int b), .val (.int c), .val (.int sl), .val (.int d), .val (.ref o), .val (.int k), .val (.int e1), .val (.int e2), .val (.int (1 : Int32)), .val (.int ex), .val (.int ((d.toUInt32 >>> ((6 : Int32) &&& 31).toUInt32).toInt32)), .val (.long (((0 : Int64) ||| ((1 : Int64) <<< ((a &&& (63 : Int32)) &&& 0x3f).toInt64)) ||| ((1 : Int64) <<< ((b &&& (63 : Int32)) &&& 0x3f).toInt64))), .second] [.long (((0 : Int64) ||| ((1 : Int64) <<< ((a &&& (63 : Int32)) &&& 0x3f).toInt64)) ||| ((1 : Int64) <<< ((b &&& (63 : Int32)) &&& 0x3f).toInt64))]
        refine ow_lload X_44 422 at_420 rfl rfl ?_
        refine ow_lcmp_ne X_44 423 426 430 at_422 rfl at_423 rfl rfl (fun (c422 : (((0 : Int64) ||| ((1 : Int64) <<< ((a &&& (63 : Int32)) &&& 0x3f).toInt64)) ||| ((1 : Int64) <<< ((b &&& (63 : Int32)) &&& 0x3f).toInt64)).toInt ≠ (((0 : Int64) ||| ((1 : Int64) <<< ((a &&& (63 : Int32)) &&& 0x3f).toInt64)) ||| ((1 : Int64) <<< ((b &&& (63 : Int32)) &&& 0x3f).toInt64)).toInt) => absurd rfl c422) (fun (c422 : (((0 : Int64) ||| ((1 : Int64) <<< ((a &&& (63 : Int32)) &&& 0x3f).toInt64)) ||| ((1 : Int64) <<< ((b &&& (63 : Int32)) &&& 0x3f).toInt64)).toInt = (((0 : Int64) ||| ((1 : Int64) <<< ((a &&& (63 : Int32)) &&& 0x3f).toInt64)) ||| ((1 : Int64) <<< ((b &&& (63 : Int32)) &&& 0x3f).toInt64)).toInt) => ?_)
        refine ow_iconst X_44 427 (1 : Int32) at_426 rfl rfl ?_
        refine ow_goto X_44 431 at_427 rfl ?_
        refine ow_istore X_44 433 (L' := #[.val (.int p0), .val (.int p1), .val (.int p2), .val (.int p3), .val (.int p4), .val (.int p5), .val (.int n), .val (.int a), .val (.int b), .val (.int c), .val (.int sl), .val (.int d), .val (.ref o), .val (.int k), .val (.int e1), .val (.int e2), .val (.int (1 : Int32)), .val (.int ex), .val (.int ((d.toUInt32 >>> ((6 : Int32) &&& 31).toUInt32).toInt32)), .val (.long (((0 : Int64) ||| ((1 : Int64) <<< ((a &&& (63 : Int32)) &&& 0x3f).toInt64)) ||| ((1 : Int64) <<< ((b &&& (63 : Int32)) &&& 0x3f).toInt64))), .second]) at_431 rfl rfl ?_
        refine ow_iload X_44 435 at_433 rfl rfl ?_
        refine ow_if_eq X_44 438 454 at_435 rfl rfl (fun (c435 : 1 = 0) => absurd c435 (by decide)) (fun (c435 : 1 ≠ 0) => ?_)
        refine ow_aload X_44 440 at_438 rfl rfl rfl ?_
        refine ow_iload X_44 442 at_440 rfl rfl ?_
        refine ow_callV X_44 445 50 51 53 52 54 3 (κ' := k9) (as := [.int d]) (S := []) (W := 0) rfl rfl rfl rfl rfl rfl rfl (by decide) R0.1 (C_part (oSt_w X_44) (oSt_n0 X_44) o pd pw pi d cnt n R0 Ad hd) (by decide) (by decide) (Nat.le_of_eq rfl) (by decide) (by decide) pd9 rfl rfl rfl at_442 rfl ?_
        intro v_45 T_45 h_45 X_45 q_45
        obtain ⟨rfl, rfl⟩ := q_45
        show oWP ω γ k0 _ T_45 445 #[.val (.int p0), .val (.int p1), .val (.int p2), .val (.int p3), .val (.int p4), .val (.int p5), .val (.int n), .val (.int a), .val (.int b), .val (.int c), .val (.int sl), .val (.int d), .val (.ref o), .val (.int k), .val (.int e1), .val (.int e2), .val (.int (1 : Int32)), .val (.int ex), .val (.int ((d.toUInt32 >>> ((6 : Int32) &&& 31).toUInt32).toInt32)), .val (.long (((0 : Int64) ||| ((1 : Int64) <<< ((a &&& (63 : Int32)) &&& 0x3f).toInt64)) ||| ((1 : Int64) <<< ((b &&& (63 : Int32)) &&& 0x3f).toInt64))), .second] [.double (0 : UInt64)]
        refine ow_dconst0 X_45 446 (0 : UInt64) at_445 rfl rfl ?_
        refine ow_dcmp X_45 447 (0 : Int32) at_446 rfl (by decide +kernel) ?_
        refine ow_if_ne X_45 450 454 at_447 rfl rfl (fun (c447 : 0 ≠ 0) => absurd rfl c447) (fun (c447 : 0 = 0) => ?_)
        refine ow_iconst X_45 451 (1 : Int32) at_450 rfl rfl ?_
        refine ow_goto X_45 455 at_451 rfl ?_
        refine ow_istore X_45 457 (L' := #[.val (.int p0), .val (.int p1), .val (.int p2), .val (.int p3), .val (.int p4), .val (.int p5), .val (.int n), .val (.int a), .val (.int b), .val (.int c), .val (.int sl), .val (.int d), .val (.ref o), .val (.int k), .val (.int e1), .val (.int e2), .val (.int (1 : Int32)), .val (.int ex), .val (.int ((d.toUInt32 >>> ((6 : Int32) &&& 31).toUInt32).toInt32)), .val (.long (((0 : Int64) ||| ((1 : Int64) <<< ((a &&& (63 : Int32)) &&& 0x3f).toInt64)) ||| ((1 : Int64) <<< ((b &&& (63 : Int32)) &&& 0x3f).toInt64))), .second]) at_455 rfl rfl ?_
        refine ow_iload X_45 459 at_457 rfl rfl ?_
        refine ow_retZ X_45 rfl at_459 (by decide) (by decide) (by decide) ?_
        rfl
      · refine ow_lload X_31 398 at_396 rfl rfl ?_
        refine ow_lconst X_31 399 (1 : Int64) at_398 rfl rfl ?_
        refine ow_iload X_31 401 at_399 rfl rfl ?_
        refine ow_bipush X_31 403 (63 : Int32) at_401 rfl rfl ?_
        refine ow_iand X_31 404 at_403 rfl ?_
        refine ow_lshl X_31 405 at_404 rfl ?_
        refine ow_lor X_31 406 at_405 rfl ?_
        refine ow_lstore X_31 408 (L' := #[.val (.int p0), .val (.int p1), .val (.int p2), .val (.int p3), .val (.int p4), .val (.int p5), .val (.int n), .val (.int a), .val (.int b), .val (.int c), .val (.int sl), .val (.int d), .val (.ref o), .val (.int k), .val (.int e1), .val (.int e2), .val (.int (1 : Int32)), .val (.int ex), .val (.int ((d.toUInt32 >>> ((6 : Int32) &&& 31).toUInt32).toInt32)), .val (.long ((((0 : Int64) ||| ((1 : Int64) <<< ((a &&& (63 : Int32)) &&& 0x3f).toInt64)) ||| ((1 : Int64) <<< ((b &&& (63 : Int32)) &&& 0x3f).toInt64)) ||| ((1 : Int64) <<< ((c &&& (63 : Int32)) &&& 0x3f).toInt64))), .second]) at_406 rfl rfl ?_
        refine ow_iload X_31 410 at_408 rfl rfl ?_
        refine ow_if_eq X_31 413 430 at_410 rfl rfl (fun (c410 : 1 = 0) => absurd c410 (by decide)) (fun (c410 : 1 ≠ 0) => ?_)
        refine ow_aload X_31 415 at_413 rfl rfl rfl ?_
        refine ow_iload X_31 417 at_415 rfl rfl ?_
        have hw : (own_W (own_W (own_W oZJ a) b) c) ((d.toUInt32 >>> ((6 : Int32) &&& 31).toUInt32).toInt32).toInt.toNat = (((0 : Int64) ||| ((1 : Int64) <<< ((a &&& (63 : Int32)) &&& 0x3f).toInt64)) ||| ((1 : Int64) <<< ((b &&& (63 : Int32)) &&& 0x3f).toInt64)) ||| ((1 : Int64) <<< ((c &&& (63 : Int32)) &&& 0x3f).toInt64) := (own_w1 (d := c) (own_w1 (d := b) (own_w1 (d := a) (rfl : oZJ ((d.toUInt32 >>> ((6 : Int32) &&& 31).toUInt32).toInt32).toInt.toNat = (0 : Int64)) c349) c371) c393)
        refine ow_callV X_31 420 45 46 48 47 49 3 (κ' := k8) (as := [.int ((d.toUInt32 >>> ((6 : Int32) &&& 31).toUInt32).toInt32)]) (S := []) (W := 0) rfl rfl rfl rfl rfl rfl rfl (by decide) R0.1 (C_word (oSt_w X_31) (oSt_n0 X_31) o pd pw pi ((d.toUInt32 >>> ((6 : Int32) &&& 31).toUInt32).toInt32) cnt nw (own_W (own_W (own_W oZJ a) b) c) R0 Aw (own_ui hd.1) (own_uj hd.1 hd.2 hnw)) (by decide) (by decide) (Nat.le_of_eq rfl) (by decide) (by decide) pd8 rfl rfl rfl at_417 rfl ?_
        intro v_46 T_46 h_46 X_46 q_46
        obtain ⟨rfl, rfl⟩ := q_46
        rw [hw]
        show oWP ω γ k0 _ T_46 420 #[.val (.int p0), .val (.int p1), .val (.int p2), .val (.int p3), .val (.int p4), .val (.int p5), .val (.int n), .val (.int a), .val (.int b), .val (.int c), .val (.int sl), .val (.int d), .val (.ref o), .val (.int k), .val (.int e1), .val (.int e2), .val (.int (1 : Int32)), .val (.int ex), .val (.int ((d.toUInt32 >>> ((6 : Int32) &&& 31).toUInt32).toInt32)), .val (.long ((((0 : Int64) ||| ((1 : Int64) <<< ((a &&& (63 : Int32)) &&& 0x3f).toInt64)) ||| ((1 : Int64) <<< ((b &&& (63 : Int32)) &&& 0x3f).toInt64)) ||| ((1 : Int64) <<< ((c &&& (63 : Int32)) &&& 0x3f).toInt64))), .second] [.long ((((0 : Int64) ||| ((1 : Int64) <<< ((a &&& (63 : Int32)) &&& 0x3f).toInt64)) ||| ((1 : Int64) <<< ((b &&& (63 : Int32)) &&& 0x3f).toInt64)) ||| ((1 : Int64) <<< ((c &&& (63 : Int32)) &&& 0x3f).toInt64))]
        refine ow_lload X_46 422 at_420 rfl rfl ?_
        refine ow_lcmp_ne X_46 423 426 430 at_422 rfl at_423 rfl rfl (fun (c422 : ((((0 : Int64) ||| ((1 : Int64) <<< ((a &&& (63 : Int32)) &&& 0x3f).toInt64)) ||| ((1 : Int64) <<< ((b &&& (63 : Int32)) &&& 0x3f).toInt64)) ||| ((1 : Int64) <<< ((c &&& (63 : Int32)) &&& 0x3f).toInt64)).toInt ≠ ((((0 : Int64) ||| ((1 : Int64) <<< ((a &&& (63 : Int32)) &&& 0x3f).toInt64)) ||| ((1 : Int64) <<< ((b &&& (63 : Int32)) &&& 0x3f).toInt64)) ||| ((1 : Int64) <<< ((c &&& (63 : Int32)) &&& 0x3f).toInt64)).toInt) => absurd rfl c422) (fun (c422 : ((((0 : Int64) ||| ((1 : Int64) <<< ((a &&& (63 : Int32)) &&& 0x3f).toInt64)) ||| ((1 : Int64) <<< ((b &&& (63 : Int32)) &&& 0x3f).toInt64)) ||| ((1 : Int64) <<< ((c &&& (63 : Int32)) &&& 0x3f).toInt64)).toInt = ((((0 : Int64) ||| ((1 : Int64) <<< ((a &&& (63 : Int32)) &&& 0x3f).toInt64)) ||| ((1 : Int64) <<< ((b &&& (63 : Int32)) &&& 0x3f).toInt64)) ||| ((1 : Int64) <<< ((c &&& (63 : Int32)) &&& 0x3f).toInt64)).toInt) => ?_)
        refine ow_iconst X_46 427 (1 : Int32) at_426 rfl rfl ?_
        refine ow_goto X_46 431 at_427 rfl ?_
        refine ow_istore X_46 433 (L' := #[.val (.int p0), .val (.int p1), .val (.int p2), .val (.int p3), .val (.int p4), .val (.int p5), .val (.int n), .val (.int a), .val (.int b), .val (.int c), .val (.int sl), .val (.int d), .val (.ref o), .val (.int k), .val (.int e1), .val (.int e2), .val (.int (1 : Int32)), .val (.int ex), .val (.int ((d.toUInt32 >>> ((6 : Int32) &&& 31).toUInt32).toInt32)), .val (.long ((((0 : Int64) ||| ((1 : Int64) <<< ((a &&& (63 : Int32)) &&& 0x3f).toInt64)) ||| ((1 : Int64) <<< ((b &&& (63 : Int32)) &&& 0x3f).toInt64)) ||| ((1 : Int64) <<< ((c &&& (63 : Int32)) &&& 0x3f).toInt64))), .second]) at_431 rfl rfl ?_
        refine ow_iload X_46 435 at_433 rfl rfl ?_
        refine ow_if_eq X_46 438 454 at_435 rfl rfl (fun (c435 : 1 = 0) => absurd c435 (by decide)) (fun (c435 : 1 ≠ 0) => ?_)
        refine ow_aload X_46 440 at_438 rfl rfl rfl ?_
        refine ow_iload X_46 442 at_440 rfl rfl ?_
        refine ow_callV X_46 445 50 51 53 52 54 3 (κ' := k9) (as := [.int d]) (S := []) (W := 0) rfl rfl rfl rfl rfl rfl rfl (by decide) R0.1 (C_part (oSt_w X_46) (oSt_n0 X_46) o pd pw pi d cnt n R0 Ad hd) (by decide) (by decide) (Nat.le_of_eq rfl) (by decide) (by decide) pd9 rfl rfl rfl at_442 rfl ?_
        intro v_47 T_47 h_47 X_47 q_47
        obtain ⟨rfl, rfl⟩ := q_47
        show oWP ω γ k0 _ T_47 445 #[.val (.int p0), .val (.int p1), .val (.int p2), .val (.int p3), .val (.int p4), .val (.int p5), .val (.int n), .val (.int a), .val (.int b), .val (.int c), .val (.int sl), .val (.int d), .val (.ref o), .val (.int k), .val (.int e1), .val (.int e2), .val (.int (1 : Int32)), .val (.int ex), .val (.int ((d.toUInt32 >>> ((6 : Int32) &&& 31).toUInt32).toInt32)), .val (.long ((((0 : Int64) ||| ((1 : Int64) <<< ((a &&& (63 : Int32)) &&& 0x3f).toInt64)) ||| ((1 : Int64) <<< ((b &&& (63 : Int32)) &&& 0x3f).toInt64)) ||| ((1 : Int64) <<< ((c &&& (63 : Int32)) &&& 0x3f).toInt64))), .second] [.double (0 : UInt64)]
        refine ow_dconst0 X_47 446 (0 : UInt64) at_445 rfl rfl ?_
        refine ow_dcmp X_47 447 (0 : Int32) at_446 rfl (by decide +kernel) ?_
        refine ow_if_ne X_47 450 454 at_447 rfl rfl (fun (c447 : 0 ≠ 0) => absurd rfl c447) (fun (c447 : 0 = 0) => ?_)
        refine ow_iconst X_47 451 (1 : Int32) at_450 rfl rfl ?_
        refine ow_goto X_47 455 at_451 rfl ?_
        refine ow_istore X_47 457 (L' := #[.val (.int p0), .val (.int p1), .val (.int p2), .val (.int p3), .val (.int p4), .val (.int p5), .val (.int n), .val (.int a), .val (.int b), .val (.int c), .val (.int sl), .val (.int d), .val (.ref o), .val (.int k), .val (.int e1), .val (.int e2), .val (.int (1 : Int32)), .val (.int ex), .val (.int ((d.toUInt32 >>> ((6 : Int32) &&& 31).toUInt32).toInt32)), .val (.long ((((0 : Int64) ||| ((1 : Int64) <<< ((a &&& (63 : Int32)) &&& 0x3f).toInt64)) ||| ((1 : Int64) <<< ((b &&& (63 : Int32)) &&& 0x3f).toInt64)) ||| ((1 : Int64) <<< ((c &&& (63 : Int32)) &&& 0x3f).toInt64))), .second]) at_455 rfl rfl ?_
        refine ow_iload X_47 459 at_457 rfl rfl ?_
        refine ow_retZ X_47 rfl at_459 (by decide) (by decide) (by decide) ?_
        rfl
set_option maxRecDepth 65536 in
set_option maxHeartbeats 4000000 in
theorem B280 {Z : State} {ω : OW} {γ : OG} {T : State} {h : Heap} (X : oSt Z ω γ k0 T h 4 520) (p0 p1 p2 p3 p4 p5 n a b c sl d k e1 e2 cnt nw : Int32) (o pd pw pi : Addr) (R0 : SAC Z h o (.ref pd) (.ref pw) (.ref pi) (.int cnt)) (Ad : oA Z h pd .double n.toInt.toNat (fun _ => .double (0 : UInt64))) (Aw : oA Z h pw .long nw.toInt.toNat (fun i_ => .long ((own_W (own_W (own_W oZJ a) b) c) i_))) (hn : 1 ≤ n.toInt ∧ n.toInt ≤ 256) (ha : 0 ≤ a.toInt ∧ a.toInt < n.toInt) (hb : 0 ≤ b.toInt ∧ b.toInt < n.toInt) (hc : 0 ≤ c.toInt ∧ c.toInt < n.toInt) (hd : 0 ≤ d.toInt ∧ d.toInt < n.toInt) (hnw : n.toInt ≤ 64 * nw.toInt) :
    oWP ω γ k0 (fun v _ => v = some (.int 1)) T 280 #[.val (.int p0), .val (.int p1), .val (.int p2), .val (.int p3), .val (.int p4), .val (.int p5), .val (.int n), .val (.int a), .val (.int b), .val (.int c), .val (.int sl), .val (.int d), .val (.ref o), .val (.int k), .val (.int e1), .val (.int e2), .val (.int (1 : Int32)), .unset, .unset, .unset, .unset] [] := by
  refine ow_iload X 282 at_280 rfl rfl ?_
  refine ow_iload X 284 at_282 rfl rfl ?_
  refine ow_icmp_eq X 287 301 at_284 rfl rfl (fun (c284 : d.toInt = a.toInt) => ?_) (fun (c284 : d.toInt ≠ a.toInt) => ?_)
  · refine ow_iconst X 302 (1 : Int32) at_301 rfl rfl ?_
    refine ow_goto X 306 at_302 rfl ?_
    refine ow_istore X 308 (L' := #[.val (.int p0), .val (.int p1), .val (.int p2), .val (.int p3), .val (.int p4), .val (.int p5), .val (.int n), .val (.int a), .val (.int b), .val (.int c), .val (.int sl), .val (.int d), .val (.ref o), .val (.int k), .val (.int e1), .val (.int e2), .val (.int (1 : Int32)), .val (.int (1 : Int32)), .unset, .unset, .unset]) at_306 rfl rfl ?_
    exact B308 X p0 p1 p2 p3 p4 p5 n a b c sl d k e1 e2 cnt nw o pd pw pi (1 : Int32) R0 Ad Aw hn ha hb hc hd hnw (by
      rw [own_bv3 a b c d ha.1 hb.1 hc.1 hd.1]
      first | (simp [c284, c291, c298]; done) | (simp [c284, c291]; done) | (simp [c284]; done))
  · refine ow_iload X 289 at_287 rfl rfl ?_
    refine ow_iload X 291 at_289 rfl rfl ?_
    refine ow_icmp_eq X 294 301 at_291 rfl rfl (fun (c291 : d.toInt = b.toInt) => ?_) (fun (c291 : d.toInt ≠ b.toInt) => ?_)
    · refine ow_iconst X 302 (1 : Int32) at_301 rfl rfl ?_
      refine ow_goto X 306 at_302 rfl ?_
      refine ow_istore X 308 (L' := #[.val (.int p0), .val (.int p1), .val (.int p2), .val (.int p3), .val (.int p4), .val (.int p5), .val (.int n), .val (.int a), .val (.int b), .val (.int c), .val (.int sl), .val (.int d), .val (.ref o), .val (.int k), .val (.int e1), .val (.int e2), .val (.int (1 : Int32)), .val (.int (1 : Int32)), .unset, .unset, .unset]) at_306 rfl rfl ?_
      exact B308 X p0 p1 p2 p3 p4 p5 n a b c sl d k e1 e2 cnt nw o pd pw pi (1 : Int32) R0 Ad Aw hn ha hb hc hd hnw (by
        rw [own_bv3 a b c d ha.1 hb.1 hc.1 hd.1]
        first | (simp [c284, c291, c298]; done) | (simp [c284, c291]; done) | (simp [c284]; done))
    · refine ow_iload X 296 at_294 rfl rfl ?_
      refine ow_iload X 298 at_296 rfl rfl ?_
      refine ow_icmp_ne X 301 305 at_298 rfl rfl (fun (c298 : d.toInt ≠ c.toInt) => ?_) (fun (c298 : d.toInt = c.toInt) => ?_)
      · refine ow_iconst X 306 (0 : Int32) at_305 rfl rfl ?_
        refine ow_istore X 308 (L' := #[.val (.int p0), .val (.int p1), .val (.int p2), .val (.int p3), .val (.int p4), .val (.int p5), .val (.int n), .val (.int a), .val (.int b), .val (.int c), .val (.int sl), .val (.int d), .val (.ref o), .val (.int k), .val (.int e1), .val (.int e2), .val (.int (1 : Int32)), .val (.int (0 : Int32)), .unset, .unset, .unset]) at_306 rfl rfl ?_
        exact B308 X p0 p1 p2 p3 p4 p5 n a b c sl d k e1 e2 cnt nw o pd pw pi (0 : Int32) R0 Ad Aw hn ha hb hc hd hnw (by
          rw [own_bv3 a b c d ha.1 hb.1 hc.1 hd.1]
          first | (simp [c284, c291, c298]; done) | (simp [c284, c291]; done) | (simp [c284]; done))
      · refine ow_iconst X 302 (1 : Int32) at_301 rfl rfl ?_
        refine ow_goto X 306 at_302 rfl ?_
        refine ow_istore X 308 (L' := #[.val (.int p0), .val (.int p1), .val (.int p2), .val (.int p3), .val (.int p4), .val (.int p5), .val (.int n), .val (.int a), .val (.int b), .val (.int c), .val (.int sl), .val (.int d), .val (.ref o), .val (.int k), .val (.int e1), .val (.int e2), .val (.int (1 : Int32)), .val (.int (1 : Int32)), .unset, .unset, .unset]) at_306 rfl rfl ?_
        exact B308 X p0 p1 p2 p3 p4 p5 n a b c sl d k e1 e2 cnt nw o pd pw pi (1 : Int32) R0 Ad Aw hn ha hb hc hd hnw (by
          rw [own_bv3 a b c d ha.1 hb.1 hc.1 hd.1]
          first | (simp [c284, c291, c298]; done) | (simp [c284, c291]; done) | (simp [c284]; done))
set_option maxRecDepth 65536 in
set_option maxHeartbeats 4000000 in
theorem B251 {Z : State} {ω : OW} {γ : OG} {T : State} {h : Heap} (X : oSt Z ω γ k0 T h 4 520) (p0 p1 p2 p3 p4 p5 n a b c sl d k e1 e2 cnt nw : Int32) (o pd pw pi : Addr) (G : Nat → Int32) (R0 : SAC Z h o (.ref pd) (.ref pw) (.ref pi) (.int cnt)) (Ad : oA Z h pd .double n.toInt.toNat (fun _ => .double (0 : UInt64))) (Aw : oA Z h pw .long nw.toInt.toNat (fun i_ => .long ((own_W (own_W (own_W oZJ a) b) c) i_))) (Ai : oA Z h pi .int n.toInt.toNat (fun i_ => .int (G i_))) (hn : 1 ≤ n.toInt ∧ n.toInt ≤ 256) (ha : 0 ≤ a.toInt ∧ a.toInt < n.toInt) (hb : 0 ≤ b.toInt ∧ b.toInt < n.toInt) (hc : 0 ≤ c.toInt ∧ c.toInt < n.toInt) (hd : 0 ≤ d.toInt ∧ d.toInt < n.toInt) (hnw : n.toInt ≤ 64 * nw.toInt) (hG2 : k.toInt = 3 → G 2 = e2 ∧ 3 ≤ n.toInt) :
    oWP ω γ k0 (fun v _ => v = some (.int 1)) T 251 #[.val (.int p0), .val (.int p1), .val (.int p2), .val (.int p3), .val (.int p4), .val (.int p5), .val (.int n), .val (.int a), .val (.int b), .val (.int c), .val (.int sl), .val (.int d), .val (.ref o), .val (.int k), .val (.int e1), .val (.int e2), .val (.int (1 : Int32)), .unset, .unset, .unset, .unset] [] := by
  refine ow_iload X 253 at_251 rfl rfl ?_
  refine ow_if_eq X 256 280 at_253 rfl rfl (fun (c253 : 1 = 0) => absurd c253 (by decide)) (fun (c253 : 1 ≠ 0) => ?_)
  refine ow_iload X 258 at_256 rfl rfl ?_
  refine ow_iconst X 259 (3 : Int32) at_258 rfl rfl ?_
  refine ow_icmp_ne X 262 280 at_259 rfl rfl (fun (c259 : k.toInt ≠ 3) => ?_) (fun (c259 : k.toInt = 3) => ?_)
  · exact B280 X p0 p1 p2 p3 p4 p5 n a b c sl d k e1 e2 cnt nw o pd pw pi R0 Ad Aw hn ha hb hc hd hnw
  · refine ow_aload X 264 at_262 rfl rfl rfl ?_
    refine ow_iconst X 265 (2 : Int32) at_264 rfl rfl ?_
    refine ow_callV X 268 35 36 38 37 39 3 (κ' := k6) (as := [.int (2 : Int32)]) (S := []) (W := 0) rfl rfl rfl rfl rfl rfl rfl (by decide) R0.1 (C_doc (oSt_w X) (oSt_n0 X) o pd pw pi (2 : Int32) cnt n G R0 Ai ⟨by decide, by have : (2 : Int32).toInt = 2 := rfl; have := (hG2 c259).2; omega⟩) (by decide) (by decide) (Nat.le_of_eq rfl) (by decide) (by decide) pd6 rfl rfl rfl at_265 rfl ?_
    intro v_48 T_48 h_48 X_48 q_48
    obtain ⟨rfl, rfl⟩ := q_48
    rw [show G (2 : Int32).toInt.toNat = e2 from (hG2 c259).1]
    show oWP ω γ k0 _ T_48 268 #[.val (.int p0), .val (.int p1), .val (.int p2), .val (.int p3), .val (.int p4), .val (.int p5), .val (.int n), .val (.int a), .val (.int b), .val (.int c), .val (.int sl), .val (.int d), .val (.ref o), .val (.int k), .val (.int e1), .val (.int e2), .val (.int (1 : Int32)), .unset, .unset, .unset, .unset] [.int e2]
    refine ow_iload X_48 270 at_268 rfl rfl ?_
    refine ow_icmp_ne X_48 273 277 at_270 rfl rfl (fun (c270 : e2.toInt ≠ e2.toInt) => absurd rfl c270) (fun (c270 : e2.toInt = e2.toInt) => ?_)
    refine ow_iconst X_48 274 (1 : Int32) at_273 rfl rfl ?_
    refine ow_goto X_48 278 at_274 rfl ?_
    refine ow_istore X_48 280 (L' := #[.val (.int p0), .val (.int p1), .val (.int p2), .val (.int p3), .val (.int p4), .val (.int p5), .val (.int n), .val (.int a), .val (.int b), .val (.int c), .val (.int sl), .val (.int d), .val (.ref o), .val (.int k), .val (.int e1), .val (.int e2), .val (.int (1 : Int32)), .unset, .unset, .unset, .unset]) at_278 rfl rfl ?_
    exact B280 X_48 p0 p1 p2 p3 p4 p5 n a b c sl d k e1 e2 cnt nw o pd pw pi R0 Ad Aw hn ha hb hc hd hnw
set_option maxRecDepth 65536 in
set_option maxHeartbeats 4000000 in
theorem B182 {Z : State} {ω : OW} {γ : OG} {T : State} {h : Heap} (X : oSt Z ω γ k0 T h 4 520) (p0 p1 p2 p3 p4 p5 n a b c sl d k e1 e2 cnt nw : Int32) (o pd pw pi : Addr) (G : Nat → Int32) (R0 : SAC Z h o (.ref pd) (.ref pw) (.ref pi) (.int cnt)) (Ad : oA Z h pd .double n.toInt.toNat (fun _ => .double (0 : UInt64))) (Aw : oA Z h pw .long nw.toInt.toNat (fun i_ => .long ((own_W (own_W (own_W oZJ a) b) c) i_))) (Ai : oA Z h pi .int n.toInt.toNat (fun i_ => .int (G i_))) (hn : 1 ≤ n.toInt ∧ n.toInt ≤ 256) (ha : 0 ≤ a.toInt ∧ a.toInt < n.toInt) (hb : 0 ≤ b.toInt ∧ b.toInt < n.toInt) (hc : 0 ≤ c.toInt ∧ c.toInt < n.toInt) (hd : 0 ≤ d.toInt ∧ d.toInt < n.toInt) (hnw : n.toInt ≤ 64 * nw.toInt) (hG2 : k.toInt = 3 → G 2 = e2 ∧ 3 ≤ n.toInt) (hk : cnt.toInt = k.toInt) (hG0 : G 0 = a) (hG1 : 2 ≤ k.toInt → G 1 = e1 ∧ 2 ≤ n.toInt) :
    oWP ω γ k0 (fun v _ => v = some (.int 1)) T 182 #[.val (.int p0), .val (.int p1), .val (.int p2), .val (.int p3), .val (.int p4), .val (.int p5), .val (.int n), .val (.int a), .val (.int b), .val (.int c), .val (.int sl), .val (.int d), .val (.ref o), .val (.int k), .val (.int e1), .val (.int e2), .unset, .unset, .unset, .unset, .unset] [] := by
  refine ow_aload X 184 at_182 rfl rfl rfl ?_
  refine ow_callV X 187 30 31 33 32 34 3 (κ' := k5) (as := []) (S := []) (W := 0) rfl rfl rfl rfl rfl rfl rfl (by decide) R0.1 (C_cnt (oSt_w X) (oSt_n0 X) o pd pw pi cnt R0) (by decide) (by decide) (Nat.le_of_eq rfl) (by decide) (by decide) pd5 rfl rfl rfl at_184 rfl ?_
  intro v_49 T_49 h_49 X_49 q_49
  obtain ⟨rfl, rfl⟩ := q_49
  show oWP ω γ k0 _ T_49 187 #[.val (.int p0), .val (.int p1), .val (.int p2), .val (.int p3), .val (.int p4), .val (.int p5), .val (.int n), .val (.int a), .val (.int b), .val (.int c), .val (.int sl), .val (.int d), .val (.ref o), .val (.int k), .val (.int e1), .val (.int e2), .unset, .unset, .unset, .unset, .unset] [.int cnt]
  refine ow_iload X_49 189 at_187 rfl rfl ?_
  refine ow_icmp_ne X_49 192 196 at_189 rfl rfl (fun (c189 : cnt.toInt ≠ k.toInt) => absurd hk c189) (fun (c189 : cnt.toInt = k.toInt) => ?_)
  refine ow_iconst X_49 193 (1 : Int32) at_192 rfl rfl ?_
  refine ow_goto X_49 197 at_193 rfl ?_
  refine ow_istore X_49 199 (L' := #[.val (.int p0), .val (.int p1), .val (.int p2), .val (.int p3), .val (.int p4), .val (.int p5), .val (.int n), .val (.int a), .val (.int b), .val (.int c), .val (.int sl), .val (.int d), .val (.ref o), .val (.int k), .val (.int e1), .val (.int e2), .val (.int (1 : Int32)), .unset, .unset, .unset, .unset]) at_197 rfl rfl ?_
  refine ow_iload X_49 201 at_199 rfl rfl ?_
  refine ow_if_eq X_49 204 219 at_201 rfl rfl (fun (c201 : 1 = 0) => absurd c201 (by decide)) (fun (c201 : 1 ≠ 0) => ?_)
  refine ow_aload X_49 206 at_204 rfl rfl rfl ?_
  refine ow_iconst X_49 207 (0 : Int32) at_206 rfl rfl ?_
  refine ow_callV X_49 210 35 36 38 37 39 3 (κ' := k6) (as := [.int (0 : Int32)]) (S := []) (W := 0) rfl rfl rfl rfl rfl rfl rfl (by decide) R0.1 (C_doc (oSt_w X_49) (oSt_n0 X_49) o pd pw pi (0 : Int32) cnt n G R0 Ai ⟨by decide, by have : (0 : Int32).toInt = 0 := rfl; omega⟩) (by decide) (by decide) (Nat.le_of_eq rfl) (by decide) (by decide) pd6 rfl rfl rfl at_207 rfl ?_
  intro v_50 T_50 h_50 X_50 q_50
  obtain ⟨rfl, rfl⟩ := q_50
  rw [show G (0 : Int32).toInt.toNat = a from hG0]
  show oWP ω γ k0 _ T_50 210 #[.val (.int p0), .val (.int p1), .val (.int p2), .val (.int p3), .val (.int p4), .val (.int p5), .val (.int n), .val (.int a), .val (.int b), .val (.int c), .val (.int sl), .val (.int d), .val (.ref o), .val (.int k), .val (.int e1), .val (.int e2), .val (.int (1 : Int32)), .unset, .unset, .unset, .unset] [.int a]
  refine ow_iload X_50 212 at_210 rfl rfl ?_
  refine ow_icmp_ne X_50 215 219 at_212 rfl rfl (fun (c212 : a.toInt ≠ a.toInt) => absurd rfl c212) (fun (c212 : a.toInt = a.toInt) => ?_)
  refine ow_iconst X_50 216 (1 : Int32) at_215 rfl rfl ?_
  refine ow_goto X_50 220 at_216 rfl ?_
  refine ow_istore X_50 222 (L' := #[.val (.int p0), .val (.int p1), .val (.int p2), .val (.int p3), .val (.int p4), .val (.int p5), .val (.int n), .val (.int a), .val (.int b), .val (.int c), .val (.int sl), .val (.int d), .val (.ref o), .val (.int k), .val (.int e1), .val (.int e2), .val (.int (1 : Int32)), .unset, .unset, .unset, .unset]) at_220 rfl rfl ?_
  refine ow_iload X_50 224 at_222 rfl rfl ?_
  refine ow_if_eq X_50 227 251 at_224 rfl rfl (fun (c224 : 1 = 0) => absurd c224 (by decide)) (fun (c224 : 1 ≠ 0) => ?_)
  refine ow_iload X_50 229 at_227 rfl rfl ?_
  refine ow_iconst X_50 230 (2 : Int32) at_229 rfl rfl ?_
  refine ow_icmp_lt X_50 233 251 at_230 rfl rfl (fun (c230 : k.toInt < 2) => ?_) (fun (c230 : 2 ≤ k.toInt) => ?_)
  · exact B251 X_50 p0 p1 p2 p3 p4 p5 n a b c sl d k e1 e2 cnt nw o pd pw pi G R0 Ad Aw Ai hn ha hb hc hd hnw hG2
  · refine ow_aload X_50 235 at_233 rfl rfl rfl ?_
    refine ow_iconst X_50 236 (1 : Int32) at_235 rfl rfl ?_
    refine ow_callV X_50 239 35 36 38 37 39 3 (κ' := k6) (as := [.int (1 : Int32)]) (S := []) (W := 0) rfl rfl rfl rfl rfl rfl rfl (by decide) R0.1 (C_doc (oSt_w X_50) (oSt_n0 X_50) o pd pw pi (1 : Int32) cnt n G R0 Ai ⟨by decide, by have : (1 : Int32).toInt = 1 := rfl; have := (hG1 c230).2; omega⟩) (by decide) (by decide) (Nat.le_of_eq rfl) (by decide) (by decide) pd6 rfl rfl rfl at_236 rfl ?_
    intro v_51 T_51 h_51 X_51 q_51
    obtain ⟨rfl, rfl⟩ := q_51
    rw [show G (1 : Int32).toInt.toNat = e1 from (hG1 c230).1]
    show oWP ω γ k0 _ T_51 239 #[.val (.int p0), .val (.int p1), .val (.int p2), .val (.int p3), .val (.int p4), .val (.int p5), .val (.int n), .val (.int a), .val (.int b), .val (.int c), .val (.int sl), .val (.int d), .val (.ref o), .val (.int k), .val (.int e1), .val (.int e2), .val (.int (1 : Int32)), .unset, .unset, .unset, .unset] [.int e1]
    refine ow_iload X_51 241 at_239 rfl rfl ?_
    refine ow_icmp_ne X_51 244 248 at_241 rfl rfl (fun (c241 : e1.toInt ≠ e1.toInt) => absurd rfl c241) (fun (c241 : e1.toInt = e1.toInt) => ?_)
    refine ow_iconst X_51 245 (1 : Int32) at_244 rfl rfl ?_
    refine ow_goto X_51 249 at_245 rfl ?_
    refine ow_istore X_51 251 (L' := #[.val (.int p0), .val (.int p1), .val (.int p2), .val (.int p3), .val (.int p4), .val (.int p5), .val (.int n), .val (.int a), .val (.int b), .val (.int c), .val (.int sl), .val (.int d), .val (.ref o), .val (.int k), .val (.int e1), .val (.int e2), .val (.int (1 : Int32)), .unset, .unset, .unset, .unset]) at_249 rfl rfl ?_
    exact B251 X_51 p0 p1 p2 p3 p4 p5 n a b c sl d k e1 e2 cnt nw o pd pw pi G R0 Ad Aw Ai hn ha hb hc hd hnw hG2
set_option maxRecDepth 65536 in
set_option maxHeartbeats 4000000 in
theorem B90 {Z : State} {ω : OW} {γ : OG} {T : State} {h : Heap} (X : oSt Z ω γ k0 T h 0 0) (p0 p1 p2 p3 p4 p5 n a b c sl d : Int32) (hn : 1 ≤ n.toInt ∧ n.toInt ≤ 256) (ha : 0 ≤ a.toInt ∧ a.toInt < n.toInt) (hb : 0 ≤ b.toInt ∧ b.toInt < n.toInt) (hc : 0 ≤ c.toInt ∧ c.toInt < n.toInt) (hd : 0 ≤ d.toInt ∧ d.toInt < n.toInt) :
    oWP ω γ k0 (fun v _ => v = some (.int 1)) T 90 #[.val (.int p0), .val (.int p1), .val (.int p2), .val (.int p3), .val (.int p4), .val (.int p5), .val (.int n), .val (.int a), .val (.int b), .val (.int c), .val (.int sl), .val (.int d), .unset, .unset, .unset, .unset, .unset, .unset, .unset, .unset, .unset] [] := by
  refine ow_new X 93 1 2 3 rfl rfl rfl rfl at_90 rfl (by decide) (by decide) ?_
  intro T_52 h_52 a_52 q_52 X_52 E_52 A_52 D_52 g_52
  have R_52 : SAC Z h_52 a_52 .null .null .null (.int (0 : Int32)) := ⟨A_52, D_52 (Or.inr (oSt_at X_52 12 rfl)) (ty := (.array .double)) (by decide), D_52 (Or.inr (oSt_at X_52 15 rfl)) (ty := (.array .long)) (by decide), D_52 (Or.inl (oSt_at X_52 22 rfl)) (ty := (.array .int)) (by decide), D_52 (Or.inl (oSt_at X_52 29 rfl)) (ty := .int) (by decide)⟩
  refine ow_dup X_52 94 at_93 rfl rfl ?_
  refine ow_iload X_52 96 at_94 rfl rfl ?_
  refine ow_callC X_52 99 4 5 3 6 (κ' := k1) (as := [.int n]) (S := [.ref a_52]) (W := 1) rfl rfl rfl rfl rfl rfl rfl (by decide) (C_init (oSt_w X_52) (oSt_n0 X_52) a_52 n R_52 g_52 hn) (by decide) (by decide) (Nat.le_of_eq rfl) (by decide) (by decide) pd1 rfl rfl rfl at_96 rfl ?_
  intro v_54 T_54 h_54 X_54 q_54
  obtain ⟨rfl, pd, pw, pi, nw, K54, nd, gw, gi, hnw0, hnw, R54, Ad54, Aw54, Ai54⟩ := q_54
  show oWP ω γ k0 _ T_54 99 #[.val (.int p0), .val (.int p1), .val (.int p2), .val (.int p3), .val (.int p4), .val (.int p5), .val (.int n), .val (.int a), .val (.int b), .val (.int c), .val (.int sl), .val (.int d), .unset, .unset, .unset, .unset, .unset, .unset, .unset, .unset, .unset] [.ref a_52]
  refine ow_astore X_54 101 (L' := #[.val (.int p0), .val (.int p1), .val (.int p2), .val (.int p3), .val (.int p4), .val (.int p5), .val (.int n), .val (.int a), .val (.int b), .val (.int c), .val (.int sl), .val (.int d), .val (.ref a_52), .unset, .unset, .unset, .unset, .unset, .unset, .unset, .unset]) at_99 rfl rfl rfl ?_
  refine ow_aload X_54 103 at_101 rfl rfl rfl ?_
  refine ow_iload X_54 105 at_103 rfl rfl ?_
  refine ow_callV X_54 108 23 24 26 25 27 3 (κ' := k4) (as := [.int a]) (S := []) (W := 0) rfl rfl rfl rfl rfl rfl rfl (by decide) R54.1 (C_reachN (oSt_w X_54) (oSt_n0 X_54) a_52 pd pw pi a (0 : Int32) n nw (oZJ) (oZI) (1 : Int32) R54 Aw54 Ai54 g_52 gw gi nd ha hnw (own_zero _) ⟨by decide, by have : (0 : Int32).toInt = 0 := rfl; omega⟩ (by decide)) (by decide) (by decide) (Nat.le_of_eq rfl) (by decide) (by decide) pd4 rfl rfl rfl at_105 rfl ?_
  intro v_56 T_56 h_56 X_56 q_56
  obtain ⟨rfl, K56, R56, Aw56, Ai56⟩ := q_56
  have f57_1 : oA Z h_56 pd .double n.toInt.toNat (fun _ => .double (0 : UInt64)) := Ad54.keep K56 (ninS (Ne.symm (oNd nd 0 1 (by decide) rfl rfl)) (ninS (oNd nd 1 2 (by decide) rfl rfl) (ninS (oNd nd 1 3 (by decide) rfl rfl) nin0)))
  show oWP ω γ k0 _ T_56 108 #[.val (.int p0), .val (.int p1), .val (.int p2), .val (.int p3), .val (.int p4), .val (.int p5), .val (.int n), .val (.int a), .val (.int b), .val (.int c), .val (.int sl), .val (.int d), .val (.ref a_52), .unset, .unset, .unset, .unset, .unset, .unset, .unset, .unset] []
  refine ow_aload X_56 110 at_108 rfl rfl rfl ?_
  refine ow_iload X_56 112 at_110 rfl rfl ?_
  by_cases hba : b.toInt = a.toInt
  · refine ow_callV X_56 115 23 24 26 25 27 3 (κ' := k4) (as := [.int b]) (S := []) (W := 0) rfl rfl rfl rfl rfl rfl rfl (by decide) R56.1 (C_reachY (oSt_w X_56) (oSt_n0 X_56) a_52 pd pw pi b (1 : Int32) n nw (own_W (oZJ) a) (oUpd (oZI) (0 : Int32).toInt.toNat a) R56 Aw56 hb hnw (by rw [own_bv1 a b ha.1 hb.1]; simp [hba])) (by decide) (by decide) (Nat.le_of_eq rfl) (by decide) (by decide) pd4 rfl rfl rfl at_112 rfl ?_
    intro v_58 T_58 h_58 X_58 q_58
    obtain ⟨rfl, rfl⟩ := q_58
    have Aw58 : oA Z h_56 pw .long nw.toInt.toNat (fun i_ => .long ((own_W (own_W (oZJ) a) b) i_)) := Aw56.congr (fun i _ => by rw [own_Wset _ b i hb.1 (by rw [own_bv1 a b ha.1 hb.1]; simp [hba])])
    show oWP ω γ k0 _ T_58 115 #[.val (.int p0), .val (.int p1), .val (.int p2), .val (.int p3), .val (.int p4), .val (.int p5), .val (.int n), .val (.int a), .val (.int b), .val (.int c), .val (.int sl), .val (.int d), .val (.ref a_52), .unset, .unset, .unset, .unset, .unset, .unset, .unset, .unset] []
    refine ow_aload X_58 117 at_115 rfl rfl rfl ?_
    refine ow_iload X_58 119 at_117 rfl rfl ?_
    by_cases hca : c.toInt = a.toInt
    · refine ow_callV X_58 122 23 24 26 25 27 3 (κ' := k4) (as := [.int c]) (S := []) (W := 0) rfl rfl rfl rfl rfl rfl rfl (by decide) R56.1 (C_reachY (oSt_w X_58) (oSt_n0 X_58) a_52 pd pw pi c (1 : Int32) n nw (own_W (own_W (oZJ) a) b) (oUpd (oZI) (0 : Int32).toInt.toNat a) R56 Aw58 hc hnw (by rw [own_bv2 a b c ha.1 hb.1 hc.1]; simp [hca])) (by decide) (by decide) (Nat.le_of_eq rfl) (by decide) (by decide) pd4 rfl rfl rfl at_119 rfl ?_
      intro v_59 T_59 h_59 X_59 q_59
      obtain ⟨rfl, rfl⟩ := q_59
      have Aw59 : oA Z h_56 pw .long nw.toInt.toNat (fun i_ => .long ((own_W (own_W (own_W (oZJ) a) b) c) i_)) := Aw58.congr (fun i _ => by rw [own_Wset _ c i hc.1 (by rw [own_bv2 a b c ha.1 hb.1 hc.1]; simp [hca])])
      show oWP ω γ k0 _ T_59 122 #[.val (.int p0), .val (.int p1), .val (.int p2), .val (.int p3), .val (.int p4), .val (.int p5), .val (.int n), .val (.int a), .val (.int b), .val (.int c), .val (.int sl), .val (.int d), .val (.ref a_52), .unset, .unset, .unset, .unset, .unset, .unset, .unset, .unset] []
      refine ow_iconst X_59 123 (1 : Int32) at_122 rfl rfl ?_
      refine ow_istore X_59 125 (L' := #[.val (.int p0), .val (.int p1), .val (.int p2), .val (.int p3), .val (.int p4), .val (.int p5), .val (.int n), .val (.int a), .val (.int b), .val (.int c), .val (.int sl), .val (.int d), .val (.ref a_52), .val (.int (1 : Int32)), .unset, .unset, .unset, .unset, .unset, .unset, .unset]) at_123 rfl rfl ?_
      refine ow_iconst X_59 126 (-1 : Int32) at_125 rfl rfl ?_
      refine ow_istore X_59 128 (L' := #[.val (.int p0), .val (.int p1), .val (.int p2), .val (.int p3), .val (.int p4), .val (.int p5), .val (.int n), .val (.int a), .val (.int b), .val (.int c), .val (.int sl), .val (.int d), .val (.ref a_52), .val (.int (1 : Int32)), .val (.int (-1 : Int32)), .unset, .unset, .unset, .unset, .unset, .unset]) at_126 rfl rfl ?_
      refine ow_iconst X_59 129 (-1 : Int32) at_128 rfl rfl ?_
      refine ow_istore X_59 131 (L' := #[.val (.int p0), .val (.int p1), .val (.int p2), .val (.int p3), .val (.int p4), .val (.int p5), .val (.int n), .val (.int a), .val (.int b), .val (.int c), .val (.int sl), .val (.int d), .val (.ref a_52), .val (.int (1 : Int32)), .val (.int (-1 : Int32)), .val (.int (-1 : Int32)), .unset, .unset, .unset, .unset, .unset]) at_129 rfl rfl ?_
      refine ow_iload X_59 133 at_131 rfl rfl ?_
      refine ow_iload X_59 135 at_133 rfl rfl ?_
      refine ow_icmp_eq X_59 138 145 at_135 rfl rfl (fun (c135 : b.toInt = a.toInt) => ?_) (fun (c135 : b.toInt ≠ a.toInt) => absurd hba c135)
      refine ow_iload X_59 147 at_145 rfl rfl ?_
      refine ow_iload X_59 149 at_147 rfl rfl ?_
      refine ow_icmp_eq X_59 152 182 at_149 rfl rfl (fun (c149 : c.toInt = a.toInt) => ?_) (fun (c149 : c.toInt ≠ a.toInt) => absurd hca c149)
      exact B182 X_59 p0 p1 p2 p3 p4 p5 n a b c sl d (1 : Int32) (-1 : Int32) (-1 : Int32) (1 : Int32) nw a_52 pd pw pi (oUpd (oZI) (0 : Int32).toInt.toNat a) R56 f57_1 Aw59 Ai56 hn ha hb hc hd hnw (fun q => by first | (exact absurd q (by decide)) | exact ⟨rfl, by omega⟩) (by decide) rfl (fun q => by first | (exact absurd q (by decide)) | exact ⟨rfl, by omega⟩)
    · refine ow_callV X_58 122 23 24 26 25 27 3 (κ' := k4) (as := [.int c]) (S := []) (W := 0) rfl rfl rfl rfl rfl rfl rfl (by decide) R56.1 (C_reachN (oSt_w X_58) (oSt_n0 X_58) a_52 pd pw pi c (1 : Int32) n nw (own_W (own_W (oZJ) a) b) (oUpd (oZI) (0 : Int32).toInt.toNat a) (2 : Int32) R56 Aw58 Ai56 g_52 gw gi nd hc hnw (by rw [own_bv2 a b c ha.1 hb.1 hc.1, hba]; simp [hca]) ⟨by decide, by have : (1 : Int32).toInt = 1 := rfl; omega⟩ (by decide)) (by decide) (by decide) (Nat.le_of_eq rfl) (by decide) (by decide) pd4 rfl rfl rfl at_119 rfl ?_
      intro v_60 T_60 h_60 X_60 q_60
      obtain ⟨rfl, K60, R60, Aw60, Ai60⟩ := q_60
      have f61_0 : oA Z h_60 pd .double n.toInt.toNat (fun _ => .double (0 : UInt64)) := f57_1.keep K60 (ninS (Ne.symm (oNd nd 0 1 (by decide) rfl rfl)) (ninS (oNd nd 1 2 (by decide) rfl rfl) (ninS (oNd nd 1 3 (by decide) rfl rfl) nin0)))
      show oWP ω γ k0 _ T_60 122 #[.val (.int p0), .val (.int p1), .val (.int p2), .val (.int p3), .val (.int p4), .val (.int p5), .val (.int n), .val (.int a), .val (.int b), .val (.int c), .val (.int sl), .val (.int d), .val (.ref a_52), .unset, .unset, .unset, .unset, .unset, .unset, .unset, .unset] []
      refine ow_iconst X_60 123 (1 : Int32) at_122 rfl rfl ?_
      refine ow_istore X_60 125 (L' := #[.val (.int p0), .val (.int p1), .val (.int p2), .val (.int p3), .val (.int p4), .val (.int p5), .val (.int n), .val (.int a), .val (.int b), .val (.int c), .val (.int sl), .val (.int d), .val (.ref a_52), .val (.int (1 : Int32)), .unset, .unset, .unset, .unset, .unset, .unset, .unset]) at_123 rfl rfl ?_
      refine ow_iconst X_60 126 (-1 : Int32) at_125 rfl rfl ?_
      refine ow_istore X_60 128 (L' := #[.val (.int p0), .val (.int p1), .val (.int p2), .val (.int p3), .val (.int p4), .val (.int p5), .val (.int n), .val (.int a), .val (.int b), .val (.int c), .val (.int sl), .val (.int d), .val (.ref a_52), .val (.int (1 : Int32)), .val (.int (-1 : Int32)), .unset, .unset, .unset, .unset, .unset, .unset]) at_126 rfl rfl ?_
      refine ow_iconst X_60 129 (-1 : Int32) at_128 rfl rfl ?_
      refine ow_istore X_60 131 (L' := #[.val (.int p0), .val (.int p1), .val (.int p2), .val (.int p3), .val (.int p4), .val (.int p5), .val (.int n), .val (.int a), .val (.int b), .val (.int c), .val (.int sl), .val (.int d), .val (.ref a_52), .val (.int (1 : Int32)), .val (.int (-1 : Int32)), .val (.int (-1 : Int32)), .unset, .unset, .unset, .unset, .unset]) at_129 rfl rfl ?_
      refine ow_iload X_60 133 at_131 rfl rfl ?_
      refine ow_iload X_60 135 at_133 rfl rfl ?_
      refine ow_icmp_eq X_60 138 145 at_135 rfl rfl (fun (c135 : b.toInt = a.toInt) => ?_) (fun (c135 : b.toInt ≠ a.toInt) => absurd hba c135)
      refine ow_iload X_60 147 at_145 rfl rfl ?_
      refine ow_iload X_60 149 at_147 rfl rfl ?_
      refine ow_icmp_eq X_60 152 182 at_149 rfl rfl (fun (c149 : c.toInt = a.toInt) => absurd c149 hca) (fun (c149 : c.toInt ≠ a.toInt) => ?_)
      refine ow_iload X_60 154 at_152 rfl rfl ?_
      refine ow_iload X_60 156 at_154 rfl rfl ?_
      refine ow_icmp_eq X_60 159 182 at_156 rfl rfl (fun (c156 : c.toInt = b.toInt) => by exfalso; omega) (fun (c156 : c.toInt ≠ b.toInt) => ?_)
      refine ow_iload X_60 161 at_159 rfl rfl ?_
      refine ow_iconst X_60 162 (1 : Int32) at_161 rfl rfl ?_
      refine ow_icmp_ne X_60 165 172 at_162 rfl rfl (fun (c162 : 1 ≠ 1) => absurd rfl c162) (fun (c162 : 1 = 1) => ?_)
      refine ow_iload X_60 167 at_165 rfl rfl ?_
      refine ow_istore X_60 169 (L' := #[.val (.int p0), .val (.int p1), .val (.int p2), .val (.int p3), .val (.int p4), .val (.int p5), .val (.int n), .val (.int a), .val (.int b), .val (.int c), .val (.int sl), .val (.int d), .val (.ref a_52), .val (.int (1 : Int32)), .val (.int c), .val (.int (-1 : Int32)), .unset, .unset, .unset, .unset, .unset]) at_167 rfl rfl ?_
      refine ow_goto X_60 176 at_169 rfl ?_
      refine ow_iload X_60 178 at_176 rfl rfl ?_
      refine ow_iconst X_60 179 (1 : Int32) at_178 rfl rfl ?_
      refine ow_iadd X_60 180 at_179 rfl ?_
      refine ow_istore X_60 182 (L' := #[.val (.int p0), .val (.int p1), .val (.int p2), .val (.int p3), .val (.int p4), .val (.int p5), .val (.int n), .val (.int a), .val (.int b), .val (.int c), .val (.int sl), .val (.int d), .val (.ref a_52), .val (.int ((1 : Int32) + (1 : Int32))), .val (.int c), .val (.int (-1 : Int32)), .unset, .unset, .unset, .unset, .unset]) at_180 rfl rfl ?_
      exact B182 X_60 p0 p1 p2 p3 p4 p5 n a b c sl d ((1 : Int32) + (1 : Int32)) c (-1 : Int32) (2 : Int32) nw a_52 pd pw pi (oUpd (oUpd (oZI) (0 : Int32).toInt.toNat a) (1 : Int32).toInt.toNat c) R60 f61_0 Aw60 Ai60 hn ha hb hc hd hnw (fun q => by first | (exact absurd q (by decide)) | exact ⟨rfl, by omega⟩) (by decide) rfl (fun q => by first | (exact absurd q (by decide)) | exact ⟨rfl, by omega⟩)
  · refine ow_callV X_56 115 23 24 26 25 27 3 (κ' := k4) (as := [.int b]) (S := []) (W := 0) rfl rfl rfl rfl rfl rfl rfl (by decide) R56.1 (C_reachN (oSt_w X_56) (oSt_n0 X_56) a_52 pd pw pi b (1 : Int32) n nw (own_W (oZJ) a) (oUpd (oZI) (0 : Int32).toInt.toNat a) (2 : Int32) R56 Aw56 Ai56 g_52 gw gi nd hb hnw (by rw [own_bv1 a b ha.1 hb.1]; simp [hba]) ⟨by decide, by have : (1 : Int32).toInt = 1 := rfl; omega⟩ (by decide)) (by decide) (by decide) (Nat.le_of_eq rfl) (by decide) (by decide) pd4 rfl rfl rfl at_112 rfl ?_
    intro v_62 T_62 h_62 X_62 q_62
    obtain ⟨rfl, K62, R62, Aw62, Ai62⟩ := q_62
    have f63_0 : oA Z h_62 pd .double n.toInt.toNat (fun _ => .double (0 : UInt64)) := f57_1.keep K62 (ninS (Ne.symm (oNd nd 0 1 (by decide) rfl rfl)) (ninS (oNd nd 1 2 (by decide) rfl rfl) (ninS (oNd nd 1 3 (by decide) rfl rfl) nin0)))
    show oWP ω γ k0 _ T_62 115 #[.val (.int p0), .val (.int p1), .val (.int p2), .val (.int p3), .val (.int p4), .val (.int p5), .val (.int n), .val (.int a), .val (.int b), .val (.int c), .val (.int sl), .val (.int d), .val (.ref a_52), .unset, .unset, .unset, .unset, .unset, .unset, .unset, .unset] []
    refine ow_aload X_62 117 at_115 rfl rfl rfl ?_
    refine ow_iload X_62 119 at_117 rfl rfl ?_
    by_cases hca : c.toInt = a.toInt
    · refine ow_callV X_62 122 23 24 26 25 27 3 (κ' := k4) (as := [.int c]) (S := []) (W := 0) rfl rfl rfl rfl rfl rfl rfl (by decide) R62.1 (C_reachY (oSt_w X_62) (oSt_n0 X_62) a_52 pd pw pi c (2 : Int32) n nw (own_W (own_W (oZJ) a) b) (oUpd (oUpd (oZI) (0 : Int32).toInt.toNat a) (1 : Int32).toInt.toNat b) R62 Aw62 hc hnw (by rw [own_bv2 a b c ha.1 hb.1 hc.1]; simp [hca])) (by decide) (by decide) (Nat.le_of_eq rfl) (by decide) (by decide) pd4 rfl rfl rfl at_119 rfl ?_
      intro v_64 T_64 h_64 X_64 q_64
      obtain ⟨rfl, rfl⟩ := q_64
      have Aw64 : oA Z h_62 pw .long nw.toInt.toNat (fun i_ => .long ((own_W (own_W (own_W (oZJ) a) b) c) i_)) := Aw62.congr (fun i _ => by rw [own_Wset _ c i hc.1 (by rw [own_bv2 a b c ha.1 hb.1 hc.1]; simp [hca])])
      show oWP ω γ k0 _ T_64 122 #[.val (.int p0), .val (.int p1), .val (.int p2), .val (.int p3), .val (.int p4), .val (.int p5), .val (.int n), .val (.int a), .val (.int b), .val (.int c), .val (.int sl), .val (.int d), .val (.ref a_52), .unset, .unset, .unset, .unset, .unset, .unset, .unset, .unset] []
      refine ow_iconst X_64 123 (1 : Int32) at_122 rfl rfl ?_
      refine ow_istore X_64 125 (L' := #[.val (.int p0), .val (.int p1), .val (.int p2), .val (.int p3), .val (.int p4), .val (.int p5), .val (.int n), .val (.int a), .val (.int b), .val (.int c), .val (.int sl), .val (.int d), .val (.ref a_52), .val (.int (1 : Int32)), .unset, .unset, .unset, .unset, .unset, .unset, .unset]) at_123 rfl rfl ?_
      refine ow_iconst X_64 126 (-1 : Int32) at_125 rfl rfl ?_
      refine ow_istore X_64 128 (L' := #[.val (.int p0), .val (.int p1), .val (.int p2), .val (.int p3), .val (.int p4), .val (.int p5), .val (.int n), .val (.int a), .val (.int b), .val (.int c), .val (.int sl), .val (.int d), .val (.ref a_52), .val (.int (1 : Int32)), .val (.int (-1 : Int32)), .unset, .unset, .unset, .unset, .unset, .unset]) at_126 rfl rfl ?_
      refine ow_iconst X_64 129 (-1 : Int32) at_128 rfl rfl ?_
      refine ow_istore X_64 131 (L' := #[.val (.int p0), .val (.int p1), .val (.int p2), .val (.int p3), .val (.int p4), .val (.int p5), .val (.int n), .val (.int a), .val (.int b), .val (.int c), .val (.int sl), .val (.int d), .val (.ref a_52), .val (.int (1 : Int32)), .val (.int (-1 : Int32)), .val (.int (-1 : Int32)), .unset, .unset, .unset, .unset, .unset]) at_129 rfl rfl ?_
      refine ow_iload X_64 133 at_131 rfl rfl ?_
      refine ow_iload X_64 135 at_133 rfl rfl ?_
      refine ow_icmp_eq X_64 138 145 at_135 rfl rfl (fun (c135 : b.toInt = a.toInt) => absurd c135 hba) (fun (c135 : b.toInt ≠ a.toInt) => ?_)
      refine ow_iload X_64 140 at_138 rfl rfl ?_
      refine ow_istore X_64 142 (L' := #[.val (.int p0), .val (.int p1), .val (.int p2), .val (.int p3), .val (.int p4), .val (.int p5), .val (.int n), .val (.int a), .val (.int b), .val (.int c), .val (.int sl), .val (.int d), .val (.ref a_52), .val (.int (1 : Int32)), .val (.int b), .val (.int (-1 : Int32)), .unset, .unset, .unset, .unset, .unset]) at_140 rfl rfl ?_
      refine ow_iconst X_64 143 (2 : Int32) at_142 rfl rfl ?_
      refine ow_istore X_64 145 (L' := #[.val (.int p0), .val (.int p1), .val (.int p2), .val (.int p3), .val (.int p4), .val (.int p5), .val (.int n), .val (.int a), .val (.int b), .val (.int c), .val (.int sl), .val (.int d), .val (.ref a_52), .val (.int (2 : Int32)), .val (.int b), .val (.int (-1 : Int32)), .unset, .unset, .unset, .unset, .unset]) at_143 rfl rfl ?_
      refine ow_iload X_64 147 at_145 rfl rfl ?_
      refine ow_iload X_64 149 at_147 rfl rfl ?_
      refine ow_icmp_eq X_64 152 182 at_149 rfl rfl (fun (c149 : c.toInt = a.toInt) => ?_) (fun (c149 : c.toInt ≠ a.toInt) => absurd hca c149)
      exact B182 X_64 p0 p1 p2 p3 p4 p5 n a b c sl d (2 : Int32) b (-1 : Int32) (2 : Int32) nw a_52 pd pw pi (oUpd (oUpd (oZI) (0 : Int32).toInt.toNat a) (1 : Int32).toInt.toNat b) R62 f63_0 Aw64 Ai62 hn ha hb hc hd hnw (fun q => by first | (exact absurd q (by decide)) | exact ⟨rfl, by omega⟩) (by decide) rfl (fun q => by first | (exact absurd q (by decide)) | exact ⟨rfl, by omega⟩)
    · by_cases hcb : c.toInt = b.toInt
      · refine ow_callV X_62 122 23 24 26 25 27 3 (κ' := k4) (as := [.int c]) (S := []) (W := 0) rfl rfl rfl rfl rfl rfl rfl (by decide) R62.1 (C_reachY (oSt_w X_62) (oSt_n0 X_62) a_52 pd pw pi c (2 : Int32) n nw (own_W (own_W (oZJ) a) b) (oUpd (oUpd (oZI) (0 : Int32).toInt.toNat a) (1 : Int32).toInt.toNat b) R62 Aw62 hc hnw (by rw [own_bv2 a b c ha.1 hb.1 hc.1]; simp [hca, hcb])) (by decide) (by decide) (Nat.le_of_eq rfl) (by decide) (by decide) pd4 rfl rfl rfl at_119 rfl ?_
        intro v_65 T_65 h_65 X_65 q_65
        obtain ⟨rfl, rfl⟩ := q_65
        have Aw65 : oA Z h_62 pw .long nw.toInt.toNat (fun i_ => .long ((own_W (own_W (own_W (oZJ) a) b) c) i_)) := Aw62.congr (fun i _ => by rw [own_Wset _ c i hc.1 (by rw [own_bv2 a b c ha.1 hb.1 hc.1]; simp [hca, hcb])])
        show oWP ω γ k0 _ T_65 122 #[.val (.int p0), .val (.int p1), .val (.int p2), .val (.int p3), .val (.int p4), .val (.int p5), .val (.int n), .val (.int a), .val (.int b), .val (.int c), .val (.int sl), .val (.int d), .val (.ref a_52), .unset, .unset, .unset, .unset, .unset, .unset, .unset, .unset] []
        refine ow_iconst X_65 123 (1 : Int32) at_122 rfl rfl ?_
        refine ow_istore X_65 125 (L' := #[.val (.int p0), .val (.int p1), .val (.int p2), .val (.int p3), .val (.int p4), .val (.int p5), .val (.int n), .val (.int a), .val (.int b), .val (.int c), .val (.int sl), .val (.int d), .val (.ref a_52), .val (.int (1 : Int32)), .unset, .unset, .unset, .unset, .unset, .unset, .unset]) at_123 rfl rfl ?_
        refine ow_iconst X_65 126 (-1 : Int32) at_125 rfl rfl ?_
        refine ow_istore X_65 128 (L' := #[.val (.int p0), .val (.int p1), .val (.int p2), .val (.int p3), .val (.int p4), .val (.int p5), .val (.int n), .val (.int a), .val (.int b), .val (.int c), .val (.int sl), .val (.int d), .val (.ref a_52), .val (.int (1 : Int32)), .val (.int (-1 : Int32)), .unset, .unset, .unset, .unset, .unset, .unset]) at_126 rfl rfl ?_
        refine ow_iconst X_65 129 (-1 : Int32) at_128 rfl rfl ?_
        refine ow_istore X_65 131 (L' := #[.val (.int p0), .val (.int p1), .val (.int p2), .val (.int p3), .val (.int p4), .val (.int p5), .val (.int n), .val (.int a), .val (.int b), .val (.int c), .val (.int sl), .val (.int d), .val (.ref a_52), .val (.int (1 : Int32)), .val (.int (-1 : Int32)), .val (.int (-1 : Int32)), .unset, .unset, .unset, .unset, .unset]) at_129 rfl rfl ?_
        refine ow_iload X_65 133 at_131 rfl rfl ?_
        refine ow_iload X_65 135 at_133 rfl rfl ?_
        refine ow_icmp_eq X_65 138 145 at_135 rfl rfl (fun (c135 : b.toInt = a.toInt) => absurd c135 hba) (fun (c135 : b.toInt ≠ a.toInt) => ?_)
        refine ow_iload X_65 140 at_138 rfl rfl ?_
        refine ow_istore X_65 142 (L' := #[.val (.int p0), .val (.int p1), .val (.int p2), .val (.int p3), .val (.int p4), .val (.int p5), .val (.int n), .val (.int a), .val (.int b), .val (.int c), .val (.int sl), .val (.int d), .val (.ref a_52), .val (.int (1 : Int32)), .val (.int b), .val (.int (-1 : Int32)), .unset, .unset, .unset, .unset, .unset]) at_140 rfl rfl ?_
        refine ow_iconst X_65 143 (2 : Int32) at_142 rfl rfl ?_
        refine ow_istore X_65 145 (L' := #[.val (.int p0), .val (.int p1), .val (.int p2), .val (.int p3), .val (.int p4), .val (.int p5), .val (.int n), .val (.int a), .val (.int b), .val (.int c), .val (.int sl), .val (.int d), .val (.ref a_52), .val (.int (2 : Int32)), .val (.int b), .val (.int (-1 : Int32)), .unset, .unset, .unset, .unset, .unset]) at_143 rfl rfl ?_
        refine ow_iload X_65 147 at_145 rfl rfl ?_
        refine ow_iload X_65 149 at_147 rfl rfl ?_
        refine ow_icmp_eq X_65 152 182 at_149 rfl rfl (fun (c149 : c.toInt = a.toInt) => absurd c149 hca) (fun (c149 : c.toInt ≠ a.toInt) => ?_)
        refine ow_iload X_65 154 at_152 rfl rfl ?_
        refine ow_iload X_65 156 at_154 rfl rfl ?_
        refine ow_icmp_eq X_65 159 182 at_156 rfl rfl (fun (c156 : c.toInt = b.toInt) => ?_) (fun (c156 : c.toInt ≠ b.toInt) => absurd hcb c156)
        exact B182 X_65 p0 p1 p2 p3 p4 p5 n a b c sl d (2 : Int32) b (-1 : Int32) (2 : Int32) nw a_52 pd pw pi (oUpd (oUpd (oZI) (0 : Int32).toInt.toNat a) (1 : Int32).toInt.toNat b) R62 f63_0 Aw65 Ai62 hn ha hb hc hd hnw (fun q => by first | (exact absurd q (by decide)) | exact ⟨rfl, by omega⟩) (by decide) rfl (fun q => by first | (exact absurd q (by decide)) | exact ⟨rfl, by omega⟩)
      · refine ow_callV X_62 122 23 24 26 25 27 3 (κ' := k4) (as := [.int c]) (S := []) (W := 0) rfl rfl rfl rfl rfl rfl rfl (by decide) R62.1 (C_reachN (oSt_w X_62) (oSt_n0 X_62) a_52 pd pw pi c (2 : Int32) n nw (own_W (own_W (oZJ) a) b) (oUpd (oUpd (oZI) (0 : Int32).toInt.toNat a) (1 : Int32).toInt.toNat b) (3 : Int32) R62 Aw62 Ai62 g_52 gw gi nd hc hnw (by rw [own_bv2 a b c ha.1 hb.1 hc.1]; simp [hca, hcb]) ⟨by decide, by have : (2 : Int32).toInt = 2 := rfl; omega⟩ (by decide)) (by decide) (by decide) (Nat.le_of_eq rfl) (by decide) (by decide) pd4 rfl rfl rfl at_119 rfl ?_
        intro v_66 T_66 h_66 X_66 q_66
        obtain ⟨rfl, K66, R66, Aw66, Ai66⟩ := q_66
        have f67_0 : oA Z h_66 pd .double n.toInt.toNat (fun _ => .double (0 : UInt64)) := f63_0.keep K66 (ninS (Ne.symm (oNd nd 0 1 (by decide) rfl rfl)) (ninS (oNd nd 1 2 (by decide) rfl rfl) (ninS (oNd nd 1 3 (by decide) rfl rfl) nin0)))
        show oWP ω γ k0 _ T_66 122 #[.val (.int p0), .val (.int p1), .val (.int p2), .val (.int p3), .val (.int p4), .val (.int p5), .val (.int n), .val (.int a), .val (.int b), .val (.int c), .val (.int sl), .val (.int d), .val (.ref a_52), .unset, .unset, .unset, .unset, .unset, .unset, .unset, .unset] []
        refine ow_iconst X_66 123 (1 : Int32) at_122 rfl rfl ?_
        refine ow_istore X_66 125 (L' := #[.val (.int p0), .val (.int p1), .val (.int p2), .val (.int p3), .val (.int p4), .val (.int p5), .val (.int n), .val (.int a), .val (.int b), .val (.int c), .val (.int sl), .val (.int d), .val (.ref a_52), .val (.int (1 : Int32)), .unset, .unset, .unset, .unset, .unset, .unset, .unset]) at_123 rfl rfl ?_
        refine ow_iconst X_66 126 (-1 : Int32) at_125 rfl rfl ?_
        refine ow_istore X_66 128 (L' := #[.val (.int p0), .val (.int p1), .val (.int p2), .val (.int p3), .val (.int p4), .val (.int p5), .val (.int n), .val (.int a), .val (.int b), .val (.int c), .val (.int sl), .val (.int d), .val (.ref a_52), .val (.int (1 : Int32)), .val (.int (-1 : Int32)), .unset, .unset, .unset, .unset, .unset, .unset]) at_126 rfl rfl ?_
        refine ow_iconst X_66 129 (-1 : Int32) at_128 rfl rfl ?_
        refine ow_istore X_66 131 (L' := #[.val (.int p0), .val (.int p1), .val (.int p2), .val (.int p3), .val (.int p4), .val (.int p5), .val (.int n), .val (.int a), .val (.int b), .val (.int c), .val (.int sl), .val (.int d), .val (.ref a_52), .val (.int (1 : Int32)), .val (.int (-1 : Int32)), .val (.int (-1 : Int32)), .unset, .unset, .unset, .unset, .unset]) at_129 rfl rfl ?_
        refine ow_iload X_66 133 at_131 rfl rfl ?_
        refine ow_iload X_66 135 at_133 rfl rfl ?_
        refine ow_icmp_eq X_66 138 145 at_135 rfl rfl (fun (c135 : b.toInt = a.toInt) => absurd c135 hba) (fun (c135 : b.toInt ≠ a.toInt) => ?_)
        refine ow_iload X_66 140 at_138 rfl rfl ?_
        refine ow_istore X_66 142 (L' := #[.val (.int p0), .val (.int p1), .val (.int p2), .val (.int p3), .val (.int p4), .val (.int p5), .val (.int n), .val (.int a), .val (.int b), .val (.int c), .val (.int sl), .val (.int d), .val (.ref a_52), .val (.int (1 : Int32)), .val (.int b), .val (.int (-1 : Int32)), .unset, .unset, .unset, .unset, .unset]) at_140 rfl rfl ?_
        refine ow_iconst X_66 143 (2 : Int32) at_142 rfl rfl ?_
        refine ow_istore X_66 145 (L' := #[.val (.int p0), .val (.int p1), .val (.int p2), .val (.int p3), .val (.int p4), .val (.int p5), .val (.int n), .val (.int a), .val (.int b), .val (.int c), .val (.int sl), .val (.int d), .val (.ref a_52), .val (.int (2 : Int32)), .val (.int b), .val (.int (-1 : Int32)), .unset, .unset, .unset, .unset, .unset]) at_143 rfl rfl ?_
        refine ow_iload X_66 147 at_145 rfl rfl ?_
        refine ow_iload X_66 149 at_147 rfl rfl ?_
        refine ow_icmp_eq X_66 152 182 at_149 rfl rfl (fun (c149 : c.toInt = a.toInt) => absurd c149 hca) (fun (c149 : c.toInt ≠ a.toInt) => ?_)
        refine ow_iload X_66 154 at_152 rfl rfl ?_
        refine ow_iload X_66 156 at_154 rfl rfl ?_
        refine ow_icmp_eq X_66 159 182 at_156 rfl rfl (fun (c156 : c.toInt = b.toInt) => by exfalso; omega) (fun (c156 : c.toInt ≠ b.toInt) => ?_)
        refine ow_iload X_66 161 at_159 rfl rfl ?_
        refine ow_iconst X_66 162 (1 : Int32) at_161 rfl rfl ?_
        refine ow_icmp_ne X_66 165 172 at_162 rfl rfl (fun (c162 : 2 ≠ 1) => ?_) (fun (c162 : 2 = 1) => absurd c162 (by decide))
        refine ow_iload X_66 174 at_172 rfl rfl ?_
        refine ow_istore X_66 176 (L' := #[.val (.int p0), .val (.int p1), .val (.int p2), .val (.int p3), .val (.int p4), .val (.int p5), .val (.int n), .val (.int a), .val (.int b), .val (.int c), .val (.int sl), .val (.int d), .val (.ref a_52), .val (.int (2 : Int32)), .val (.int b), .val (.int c), .unset, .unset, .unset, .unset, .unset]) at_174 rfl rfl ?_
        refine ow_iload X_66 178 at_176 rfl rfl ?_
        refine ow_iconst X_66 179 (1 : Int32) at_178 rfl rfl ?_
        refine ow_iadd X_66 180 at_179 rfl ?_
        refine ow_istore X_66 182 (L' := #[.val (.int p0), .val (.int p1), .val (.int p2), .val (.int p3), .val (.int p4), .val (.int p5), .val (.int n), .val (.int a), .val (.int b), .val (.int c), .val (.int sl), .val (.int d), .val (.ref a_52), .val (.int ((2 : Int32) + (1 : Int32))), .val (.int b), .val (.int c), .unset, .unset, .unset, .unset, .unset]) at_180 rfl rfl ?_
        exact B182 X_66 p0 p1 p2 p3 p4 p5 n a b c sl d ((2 : Int32) + (1 : Int32)) b c (3 : Int32) nw a_52 pd pw pi (oUpd (oUpd (oUpd (oZI) (0 : Int32).toInt.toNat a) (1 : Int32).toInt.toNat b) (2 : Int32).toInt.toNat c) R66 f67_0 Aw66 Ai66 hn ha hb hc hd hnw (fun q => by first | (exact absurd q (by decide)) | exact ⟨rfl, by omega⟩) (by decide) rfl (fun q => by first | (exact absurd q (by decide)) | exact ⟨rfl, by omega⟩)
set_option maxRecDepth 65536 in
set_option maxHeartbeats 4000000 in
theorem C_law {Z : State} {ω : OW} {h : Heap} (hw_ : ∀ d ∈ tables_1, d.before ω.2.2 Z = true) (hn_ : ω.2.1 ≤ h.size) (p0 p1 p2 p3 p4 p5 : Int32) :
    oC Z ω Jvm.Pilot.@@N@@.x k0 tables_1 #[.int p0, .int p1, .int p2, .int p3, .int p4, .int p5] h (fun v _ => v = some (.int 1)) := by
  refine oC_of hw_ hn_ pn0 rfl rfl (L := #[.val (.int p0), .val (.int p1), .val (.int p2), .val (.int p3), .val (.int p4), .val (.int p5), .unset, .unset, .unset, .unset, .unset, .unset, .unset, .unset, .unset, .unset, .unset, .unset, .unset, .unset, .unset]) (fun m => by first | (simp [entryFrame, mkF, argsToLocals, Value.category, k0, maxLocals]; done) | rfl) ?_
  intro γ T X
  refine ow_iconst X 1 (1 : Int32) at_0 rfl rfl ?_
  refine ow_iloadN X 2 at_1 rfl rfl ?_
  refine ow_sipush X 5 (255 : Int32) at_2 rfl rfl ?_
  refine ow_iand X 6 at_5 rfl ?_
  refine ow_iadd X 7 at_6 rfl ?_
  refine ow_istore X 9 (L' := #[.val (.int p0), .val (.int p1), .val (.int p2), .val (.int p3), .val (.int p4), .val (.int p5), .val (.int ((1 : Int32) + (p0 &&& (255 : Int32)))), .unset, .unset, .unset, .unset, .unset, .unset, .unset, .unset, .unset, .unset, .unset, .unset, .unset, .unset]) at_7 rfl rfl ?_
  have hn := own_size p0
  generalize (1 : Int32) + (p0 &&& (255 : Int32)) = n at hn ⊢
  refine ow_iloadN X 10 at_9 rfl rfl ?_
  refine ow_ldcI X 12 0 rfl rfl at_10 rfl ?_
  refine ow_iand X 13 at_12 rfl ?_
  refine ow_iload X 15 at_13 rfl rfl ?_
  refine ow_irem X 16 at_15 rfl (own_nz0 n hn.1) ?_
  refine ow_istore X 18 (L' := #[.val (.int p0), .val (.int p1), .val (.int p2), .val (.int p3), .val (.int p4), .val (.int p5), .val (.int n), .val (.int ((p1 &&& (2147483647 : Int32)) % n)), .unset, .unset, .unset, .unset, .unset, .unset, .unset, .unset, .unset, .unset, .unset, .unset, .unset]) at_16 rfl rfl ?_
  have ha := own_md p1 n hn.1
  generalize (p1 &&& (2147483647 : Int32)) % n = a at ha ⊢
  refine ow_iloadN X 19 at_18 rfl rfl ?_
  refine ow_ldcI X 21 0 rfl rfl at_19 rfl ?_
  refine ow_iand X 22 at_21 rfl ?_
  refine ow_iload X 24 at_22 rfl rfl ?_
  refine ow_irem X 25 at_24 rfl (own_nz0 n hn.1) ?_
  refine ow_istore X 27 (L' := #[.val (.int p0), .val (.int p1), .val (.int p2), .val (.int p3), .val (.int p4), .val (.int p5), .val (.int n), .val (.int a), .val (.int ((p2 &&& (2147483647 : Int32)) % n)), .unset, .unset, .unset, .unset, .unset, .unset, .unset, .unset, .unset, .unset, .unset, .unset]) at_25 rfl rfl ?_
  have hb := own_md p2 n hn.1
  generalize (p2 &&& (2147483647 : Int32)) % n = b at hb ⊢
  refine ow_iloadN X 28 at_27 rfl rfl ?_
  refine ow_ldcI X 30 0 rfl rfl at_28 rfl ?_
  refine ow_iand X 31 at_30 rfl ?_
  refine ow_iload X 33 at_31 rfl rfl ?_
  refine ow_irem X 34 at_33 rfl (own_nz0 n hn.1) ?_
  refine ow_istore X 36 (L' := #[.val (.int p0), .val (.int p1), .val (.int p2), .val (.int p3), .val (.int p4), .val (.int p5), .val (.int n), .val (.int a), .val (.int b), .val (.int ((p3 &&& (2147483647 : Int32)) % n)), .unset, .unset, .unset, .unset, .unset, .unset, .unset, .unset, .unset, .unset, .unset]) at_34 rfl rfl ?_
  have hc := own_md p3 n hn.1
  generalize (p3 &&& (2147483647 : Int32)) % n = c at hc ⊢
  refine ow_iload X 38 at_36 rfl rfl ?_
  refine ow_iconst X 39 (3 : Int32) at_38 rfl rfl ?_
  refine ow_iand X 40 at_39 rfl ?_
  refine ow_istore X 42 (L' := #[.val (.int p0), .val (.int p1), .val (.int p2), .val (.int p3), .val (.int p4), .val (.int p5), .val (.int n), .val (.int a), .val (.int b), .val (.int c), .val (.int (p5 &&& (3 : Int32))), .unset, .unset, .unset, .unset, .unset, .unset, .unset, .unset, .unset, .unset]) at_40 rfl rfl ?_
  generalize p5 &&& (3 : Int32) = sl
  refine ow_iload X 44 at_42 rfl rfl ?_
  refine ow_if_ne X 47 54 at_44 rfl rfl (fun (c44 : sl.toInt ≠ 0) => ?_) (fun (c44 : sl.toInt = 0) => ?_)
  · refine ow_iload X 56 at_54 rfl rfl ?_
    refine ow_iconst X 57 (1 : Int32) at_56 rfl rfl ?_
    refine ow_icmp_ne X 60 67 at_57 rfl rfl (fun (c57 : sl.toInt ≠ 1) => ?_) (fun (c57 : sl.toInt = 1) => ?_)
    · refine ow_iload X 69 at_67 rfl rfl ?_
      refine ow_iconst X 70 (2 : Int32) at_69 rfl rfl ?_
      refine ow_icmp_ne X 73 80 at_70 rfl rfl (fun (c70 : sl.toInt ≠ 2) => ?_) (fun (c70 : sl.toInt = 2) => ?_)
      · refine ow_iload X 82 at_80 rfl rfl ?_
        refine ow_ldcI X 84 0 rfl rfl at_82 rfl ?_
        refine ow_iand X 85 at_84 rfl ?_
        refine ow_iload X 87 at_85 rfl rfl ?_
        refine ow_irem X 88 at_87 rfl (own_nz0 n hn.1) ?_
        refine ow_istore X 90 (L' := #[.val (.int p0), .val (.int p1), .val (.int p2), .val (.int p3), .val (.int p4), .val (.int p5), .val (.int n), .val (.int a), .val (.int b), .val (.int c), .val (.int sl), .val (.int ((p4 &&& (2147483647 : Int32)) % n)), .unset, .unset, .unset, .unset, .unset, .unset, .unset, .unset, .unset]) at_88 rfl rfl ?_
        exact B90 X p0 p1 p2 p3 p4 p5 n a b c sl ((p4 &&& (2147483647 : Int32)) % n) hn ha hb hc (own_md p4 n hn.1)
      · refine ow_iload X 75 at_73 rfl rfl ?_
        refine ow_istore X 77 (L' := #[.val (.int p0), .val (.int p1), .val (.int p2), .val (.int p3), .val (.int p4), .val (.int p5), .val (.int n), .val (.int a), .val (.int b), .val (.int c), .val (.int sl), .val (.int c), .unset, .unset, .unset, .unset, .unset, .unset, .unset, .unset, .unset]) at_75 rfl rfl ?_
        refine ow_goto X 90 at_77 rfl ?_
        exact B90 X p0 p1 p2 p3 p4 p5 n a b c sl c hn ha hb hc hc
    · refine ow_iload X 62 at_60 rfl rfl ?_
      refine ow_istore X 64 (L' := #[.val (.int p0), .val (.int p1), .val (.int p2), .val (.int p3), .val (.int p4), .val (.int p5), .val (.int n), .val (.int a), .val (.int b), .val (.int c), .val (.int sl), .val (.int b), .unset, .unset, .unset, .unset, .unset, .unset, .unset, .unset, .unset]) at_62 rfl rfl ?_
      refine ow_goto X 90 at_64 rfl ?_
      exact B90 X p0 p1 p2 p3 p4 p5 n a b c sl b hn ha hb hc hb
  · refine ow_iload X 49 at_47 rfl rfl ?_
    refine ow_istore X 51 (L' := #[.val (.int p0), .val (.int p1), .val (.int p2), .val (.int p3), .val (.int p4), .val (.int p5), .val (.int n), .val (.int a), .val (.int b), .val (.int c), .val (.int sl), .val (.int a), .unset, .unset, .unset, .unset, .unset, .unset, .unset, .unset, .unset]) at_49 rfl rfl ?_
    refine ow_goto X 90 at_51 rfl ?_
    exact B90 X p0 p1 p2 p3 p4 p5 n a b c sl a hn ha hb hc ha
set_option maxRecDepth 65536 in
set_option maxHeartbeats 4000000 in
theorem comes_1 {Post : Tables → Env → Array Value → State → Outcome → State → Prop} (hpost : ∀ tb e args s v u, (limb_1_1.after args s (.returned v) u = true ∧ limb_1_2.after args s (.returned v) u = true ∧ True) → FrameEnd s (.returned v) u (Jvm.fieldLocs frame_1_writes args s ++ Jvm.arrayLocs frame_1_arrays args s ++ Jvm.staticLocs frame_1_statics s) 16 1152 → Post tb e args s (.returned v) u) :
    ArmFor flags0 classFile x code maxLocals ret World_1 tables_1 room_1 Calls_1 rest_1 Pre_1 Post := by
  intro l hfl _ _ p e ha hc hk s m args below hf hA hF happ hP
  obtain ⟨hcalls, hrest, hpre⟩ := hP
  obtain ⟨-, -, -, hnamed, -, -, -, hat⟩ := (Spec.applies_iff hf).mp happ
  obtain ⟨hg, hn⟩ := and_e (Cond.before_iff.mp (show (Jvm.Cond.and given_1 narrow_1).before args s = true from hpre))
  obtain ⟨hcount, hg0⟩ := and_e hg
  obtain ⟨ha0, hg1⟩ := and_e hg0
  obtain ⟨ha1, hg2⟩ := and_e hg1
  obtain ⟨ha2, hg3⟩ := and_e hg2
  obtain ⟨ha3, hg4⟩ := and_e hg3
  obtain ⟨ha4, hg5⟩ := and_e hg4
  have ha5 := hg5
  obtain ⟨w0, w1, w2, w3, w4, w5, rfl⟩ : ∃ w0 w1 w2 w3 w4 w5 : Value, args = #[w0, w1, w2, w3, w4, w5] := by
    have hs : args.size = 6 := by simpa [Cond.value, given_1] using hcount
    obtain ⟨L⟩ := args
    match L, hs with
    | [w0, w1, w2, w3, w4, w5], _ => exact ⟨w0, w1, w2, w3, w4, w5, rfl⟩
  have hw := fun d (hd : d ∈ tables_1) => atoms_spec (ws := Jvm.Cond.code x code maxLocals ret :: tables_1) hat d (List.mem_cons_of_mem _ hd)
  have hfit : Fit s := fun {y c} hc i hi => by
    obtain ⟨ha, rfl⟩ := Array.getElem?_eq_some_iff.mp hc
    have q := List.all_eq_true.mp ((Array.all_eq_true_iff_forall_mem.mp hF) _ (Array.getElem_mem ha)) i (List.mem_range.mpr hi)
    simpa [Array.getElem?_eq_getElem hi] using q
  obtain ⟨i0, e0⟩ := is_v ha0
  obtain rfl : w0 = (.int i0) := Option.some.inj e0
  obtain ⟨i1, e1⟩ := is_v ha1
  obtain rfl : w1 = (.int i1) := Option.some.inj e1
  obtain ⟨i2, e2⟩ := is_v ha2
  obtain rfl : w2 = (.int i2) := Option.some.inj e2
  obtain ⟨i3, e3⟩ := is_v ha3
  obtain rfl : w3 = (.int i3) := Option.some.inj e3
  obtain ⟨i4, e4⟩ := is_v ha4
  obtain rfl : w4 = (.int i4) := Option.some.inj e4
  obtain ⟨i5, e5⟩ := is_v ha5
  obtain rfl : w5 = (.int i5) := Option.some.inj e5
  obtain ⟨n, o, h1, h2, h3, _, L, rfl, ⟨N, rfl⟩, hq⟩ := C_law (Z := s) (ω := (l, s.heap.size, _)) hw (Nat.le_refl _) i0 i1 i2 i3 i4 i5 p e ha hc hk s m _ below hf ((Spec.applies_iff_loose hf).mp happ).1 ⟨rfl, State.Warmed39.refl s, rfl⟩ trivial
  refine ⟨n, _, h1, h2, h3, hpost _ _ _ _ _ _ ⟨Cond.after_iff.mpr rfl, Cond.after_iff.mpr (eq_i res_at (Term.int_eval (1)) rfl), trivial⟩ ⟨hq.1, hq.2.1, (hq.2.2.sift fun y hy => Or.inr (N y hy)).mono (by decide) (by decide)⟩⟩
theorem main_1_1 : Claimed_1_1 := comes_1 fun _ _ _ _ _ _ h hF => ⟨h.1, hF⟩
theorem main_1_2 : Claimed_1_2 := comes_1 fun _ _ _ _ _ _ h hF => ⟨h.2.1, hF⟩
end Jvm.Pilot.@@N@@
namespace Jvm.Pilot.@@N@@
open Jvm Jvm.ClassFile Sem Op Lib Jvm.Free Jvm.Stand Jvm.Pilot.@@N@@.Jvm.D
/-! MADE BY PROGRAM (witnessworld.py) out of the Statement's table words and the real class files: 12 classes; the members and pool entries that the words name. The judged class is class 1, her method 1. -/
namespace start1
open Jvm.ClassFile
def u (s : String) : CpInfo := .utf8 (stringToUtf16 s)
/-- a pool by its gaps: so many unusable entries, then the entry; so many at the end -/
def gap : Nat → List CpInfo → List CpInfo
  | 0, r => r
  | n + 1, r => .unusable :: gap n r
def poolList (es : List (Nat × CpInfo)) (last : Nat) : List CpInfo := es.foldr (fun e r => gap e.1 (e.2 :: r)) (gap last [])
def pool (es : List (Nat × CpInfo)) (last : Nat) : Array CpInfo := ⟨poolList es last⟩
def fileOf (pool : Array CpInfo) (this : Nat) (attrs : Array Attribute := #[]) (ms : Array MethodInfo := #[]) (fl : Nat := 33) (sup : Nat := 0) (ifs : Array Nat := #[]) (fds : Array FieldInfo := #[]) : ClassFile where
  minorVersion := 0
  majorVersion := 65
  constantPool := pool
  accessFlags := fl
  thisClass := this
  superClass := sup
  interfaces := ifs
  fields := fds
  methods := ms
  attributes := attrs
def plain (name : String) (sup : Option ClassId) : Class where
  name := name
  kind := .ordinary
  loader := none
  accessFlags := 33
  super := sup
  interfaces := #[]
  cf := none
  fields := #[]
  methods := #[]
  instanceTypes := #[]
  staticTypes := #[]
  resolved := #[]
  callSites := []
  init := .initialized
  statics := none
  mirror := none

def pool0 : Array CpInfo := pool [(5, u "<init>"), (0, u "()V"), (1, .class_ 10), (1, u "java/lang/Object")] 113

def k0c0 : Code := { maxStack := 0, maxLocals := 1, code := object_method_1_code, exceptionTable := #[], attributes := #[] }
def k0m0 : Method := { name := "<init>", desc := "()V", sig := { parameters := [], returnType := none }, accessFlags := 1, code := some k0c0 }
/-- java/lang/Object -/
def k0 : Class := { plain "java/lang/Object" none with
  accessFlags := 33
  interfaces := #[]
  cf := some (fileOf pool0 8 #[] #[{ accessFlags := 1, nameIndex := 5, descriptorIndex := 6, attributes := #[] }] 33 0 #[] #[])
  fields := #[]
  methods := #[k0m0]
  instanceTypes := #[]
  staticTypes := #[]
  resolved := Array.replicate 124 none
  statics := none }

def pool1 : Array CpInfo := pool [(2, .class_ 4), (1, u "java/lang/Object"), (0, u "<init>"), (0, u "()V"), (0, .integer 2147483647), (0, .class_ 9), (0, u "com/example/multibern/multibern/rank/model/ScoreAccumulator"), (0, .methodref 8 11), (0, .nameAndType 5 12), (0, u "(I)V"), (0, .methodref 8 14), (0, .nameAndType 15 12), (0, u "reach"), (0, .methodref 8 17), (0, .nameAndType 18 19), (0, u "reachedCount"), (0, u "()I"), (0, .methodref 8 21), (0, .nameAndType 22 23), (0, u "reachedDocument"), (0, u "(I)I"), (0, .methodref 8 25), (0, .nameAndType 26 27), (0, u "isReached"), (0, u "(I)Z"), (0, .methodref 8 29), (0, .nameAndType 30 31), (0, u "reachedWord"), (0, u "(I)J"), (0, .methodref 8 33), (0, .nameAndType 34 35), (0, u "partialScore"), (0, u "(I)D"), (0, .class_ 37), (0, u "com/example/multibern/multibern/rank/model/ScoreAccumulatorReachPinLaw"), (2, u "law"), (0, u "(IIIIII)Z")] 3

def k1m0 : Method := { name := "<init>", desc := "()V", sig := { parameters := [], returnType := none }, accessFlags := 1, code := none }
def k1c1 : Code := { maxStack := 6, maxLocals := 21, code := code, exceptionTable := #[], attributes := #[] }
def k1m1 : Method := { name := "law", desc := "(IIIIII)Z", sig := { parameters := [.int, .int, .int, .int, .int, .int], returnType := some .boolean }, accessFlags := 9, code := some k1c1 }
/-- com/example/multibern/multibern/rank/model/ScoreAccumulatorReachPinLaw -/
def k1 : Class := { plain "com/example/multibern/multibern/rank/model/ScoreAccumulatorReachPinLaw" (some 0) with
  accessFlags := 49
  interfaces := #[]
  cf := some (fileOf pool1 36 #[] #[{ accessFlags := 1, nameIndex := 5, descriptorIndex := 6, attributes := #[] }, { accessFlags := 9, nameIndex := 40, descriptorIndex := 41, attributes := #[] }] 49 2 #[] #[])
  fields := #[]
  methods := #[k1m0, k1m1]
  instanceTypes := #[]
  staticTypes := #[]
  resolved := Array.replicate 45 none
  statics := none }

def pool2 : Array CpInfo := pool [(1, .methodref 2 3), (0, .class_ 4), (0, .nameAndType 5 6), (0, u "java/lang/Object"), (0, u "<init>"), (0, u "()V"), (0, .fieldref 8 9), (0, .class_ 10), (0, .nameAndType 11 12), (0, u "com/example/multibern/multibern/rank/model/ScoreAccumulator"), (0, u "partialScores"), (0, u "[D"), (0, .fieldref 8 14), (0, .nameAndType 15 16), (0, u "reached"), (0, u "[J"), (0, .methodref 18 19), (0, .class_ 20), (0, .nameAndType 21 22), (0, u "java/lang/Math"), (0, u "min"), (0, u "(II)I"), (0, .fieldref 8 24), (0, .nameAndType 25 26), (0, u "reachedDocuments"), (0, u "[I"), (0, .fieldref 8 28), (0, .nameAndType 29 30), (0, u "reachedCount"), (0, u "I"), (13, u "reach"), (0, u "(I)V"), (12, u "SPARSE_REACH"), (2, u "INITIAL_REACH"), (8, u "isReached"), (0, u "(I)Z"), (1, u "()I"), (0, u "reachedWord"), (0, u "(I)J"), (0, u "reachedDocument"), (0, u "(I)I"), (0, u "partialScore"), (0, u "(I)D")] 2

def k2c0 : Code := { maxStack := 3, maxLocals := 2, code := prog_116_method_1_code, exceptionTable := #[], attributes := #[] }
def k2m0 : Method := { name := "<init>", desc := "(I)V", sig := { parameters := [.int], returnType := none }, accessFlags := 0, code := some k2c0 }
def k2c1 : Code := { maxStack := 6, maxLocals := 4, code := prog_116_method_5_code, exceptionTable := #[], attributes := #[] }
def k2m1 : Method := { name := "reach", desc := "(I)V", sig := { parameters := [.int], returnType := none }, accessFlags := 0, code := some k2c1 }
def k2c2 : Code := { maxStack := 5, maxLocals := 2, code := prog_116_method_6_code, exceptionTable := #[], attributes := #[] }
def k2m2 : Method := { name := "isReached", desc := "(I)Z", sig := { parameters := [.int], returnType := some .boolean }, accessFlags := 0, code := some k2c2 }
def k2c3 : Code := { maxStack := 2, maxLocals := 2, code := prog_116_method_8_code, exceptionTable := #[], attributes := #[] }
def k2m3 : Method := { name := "reachedWord", desc := "(I)J", sig := { parameters := [.int], returnType := some .long }, accessFlags := 0, code := some k2c3 }
def k2c4 : Code := { maxStack := 1, maxLocals := 1, code := prog_116_method_9_code, exceptionTable := #[], attributes := #[] }
def k2m4 : Method := { name := "reachedCount", desc := "()I", sig := { parameters := [], returnType := some .int }, accessFlags := 0, code := some k2c4 }
def k2c5 : Code := { maxStack := 2, maxLocals := 2, code := prog_116_method_10_code, exceptionTable := #[], attributes := #[] }
def k2m5 : Method := { name := "reachedDocument", desc := "(I)I", sig := { parameters := [.int], returnType := some .int }, accessFlags := 0, code := some k2c5 }
def k2c6 : Code := { maxStack := 2, maxLocals := 2, code := prog_116_method_11_code, exceptionTable := #[], attributes := #[] }
def k2m6 : Method := { name := "partialScore", desc := "(I)D", sig := { parameters := [.int], returnType := some .double }, accessFlags := 0, code := some k2c6 }
/-- com/example/multibern/multibern/rank/model/ScoreAccumulator -/
def k2 : Class := { plain "com/example/multibern/multibern/rank/model/ScoreAccumulator" (some 0) with
  accessFlags := 48
  interfaces := #[]
  cf := some (fileOf pool2 8 #[] #[{ accessFlags := 0, nameIndex := 5, descriptorIndex := 45, attributes := #[] }, { accessFlags := 0, nameIndex := 44, descriptorIndex := 45, attributes := #[] }, { accessFlags := 0, nameIndex := 70, descriptorIndex := 71, attributes := #[] }, { accessFlags := 0, nameIndex := 74, descriptorIndex := 75, attributes := #[] }, { accessFlags := 0, nameIndex := 29, descriptorIndex := 73, attributes := #[] }, { accessFlags := 0, nameIndex := 76, descriptorIndex := 77, attributes := #[] }, { accessFlags := 0, nameIndex := 78, descriptorIndex := 79, attributes := #[] }] 48 2 #[] #[{ accessFlags := 26, nameIndex := 58, descriptorIndex := 30, attributes := #[] }, { accessFlags := 26, nameIndex := 61, descriptorIndex := 30, attributes := #[] }, { accessFlags := 18, nameIndex := 11, descriptorIndex := 12, attributes := #[] }, { accessFlags := 18, nameIndex := 15, descriptorIndex := 16, attributes := #[] }, { accessFlags := 2, nameIndex := 25, descriptorIndex := 26, attributes := #[] }, { accessFlags := 2, nameIndex := 29, descriptorIndex := 30, attributes := #[] }])
  fields := #[{ name := "SPARSE_REACH", type := .int, accessFlags := 26, slot := 0, constantValue := 0 }, { name := "INITIAL_REACH", type := .int, accessFlags := 26, slot := 1, constantValue := 0 }, { name := "partialScores", type := (.array .double), accessFlags := 18, slot := 0, constantValue := 0 }, { name := "reached", type := (.array .long), accessFlags := 18, slot := 1, constantValue := 0 }, { name := "reachedDocuments", type := (.array .int), accessFlags := 2, slot := 2, constantValue := 0 }, { name := "reachedCount", type := .int, accessFlags := 2, slot := 3, constantValue := 0 }]
  methods := #[k2m0, k2m1, k2m2, k2m3, k2m4, k2m5, k2m6]
  instanceTypes := #[(.array .double), (.array .long), (.array .int), .int]
  staticTypes := #[.int, .int]
  resolved := Array.replicate 82 none
  statics := none }

def pool3 : Array CpInfo := pool [(1, .class_ 2), (0, u "java/lang/Math"), (1, .class_ 6), (1, u "java/lang/Object"), (0, u "<init>"), (0, u "()V"), (89, .class_ 100), (1, u "java/lang/Math$RandomNumberGeneratorHolder"), (71, u "negativeZeroFloatBits"), (0, u "J"), (2, u "negativeZeroDoubleBits"), (24, u "min"), (43, u "$assertionsDisabled"), (0, u "Z"), (88, u "(II)I"), (2, u "twoToTheDoubleScaleDown"), (0, u "D"), (4, u "twoToTheDoubleScaleUp"), (9, u "E"), (3, u "PI"), (2, u "TAU"), (2, u "DEGREES_TO_RADIANS"), (0, u "RADIANS_TO_DEGREES")] 94

def k3m0 : Method := { name := "<init>", desc := "()V", sig := { parameters := [], returnType := none }, accessFlags := 2, code := none }
def k3c1 : Code := { maxStack := 2, maxLocals := 2, code := jdk_29_method_69_code, exceptionTable := #[], attributes := #[] }
def k3m1 : Method := { name := "min", desc := "(II)I", sig := { parameters := [.int, .int], returnType := some .int }, accessFlags := 9, code := some k3c1 }
/-- java/lang/Math -/
def k3 : Class := { plain "java/lang/Math" (some 0) with
  accessFlags := 49
  interfaces := #[]
  cf := some (fileOf pool3 1 #[.nestMembers #[98]] #[{ accessFlags := 2, nameIndex := 7, descriptorIndex := 8, attributes := #[] }, { accessFlags := 9, nameIndex := 201, descriptorIndex := 335, attributes := #[] }] 49 4 #[] #[{ accessFlags := 25, nameIndex := 354, descriptorIndex := 339, attributes := #[] }, { accessFlags := 25, nameIndex := 358, descriptorIndex := 339, attributes := #[] }, { accessFlags := 25, nameIndex := 361, descriptorIndex := 339, attributes := #[] }, { accessFlags := 26, nameIndex := 364, descriptorIndex := 339, attributes := #[] }, { accessFlags := 26, nameIndex := 365, descriptorIndex := 339, attributes := #[] }, { accessFlags := 26, nameIndex := 172, descriptorIndex := 173, attributes := #[] }, { accessFlags := 26, nameIndex := 176, descriptorIndex := 173, attributes := #[] }, { accessFlags := 8, nameIndex := 344, descriptorIndex := 339, attributes := #[] }, { accessFlags := 8, nameIndex := 338, descriptorIndex := 339, attributes := #[] }, { accessFlags := 4120, nameIndex := 245, descriptorIndex := 246, attributes := #[] }])
  fields := #[{ name := "E", type := .double, accessFlags := 25, slot := 0, constantValue := 0 }, { name := "PI", type := .double, accessFlags := 25, slot := 1, constantValue := 0 }, { name := "TAU", type := .double, accessFlags := 25, slot := 2, constantValue := 0 }, { name := "DEGREES_TO_RADIANS", type := .double, accessFlags := 26, slot := 3, constantValue := 0 }, { name := "RADIANS_TO_DEGREES", type := .double, accessFlags := 26, slot := 4, constantValue := 0 }, { name := "negativeZeroFloatBits", type := .long, accessFlags := 26, slot := 5, constantValue := 0 }, { name := "negativeZeroDoubleBits", type := .long, accessFlags := 26, slot := 6, constantValue := 0 }, { name := "twoToTheDoubleScaleUp", type := .double, accessFlags := 8, slot := 7, constantValue := 0 }, { name := "twoToTheDoubleScaleDown", type := .double, accessFlags := 8, slot := 8, constantValue := 0 }, { name := "$assertionsDisabled", type := .boolean, accessFlags := 4120, slot := 9, constantValue := 0 }]
  methods := #[k3m0, k3m1]
  instanceTypes := #[]
  staticTypes := #[.double, .double, .double, .double, .double, .long, .long, .double, .double, .boolean]
  resolved := Array.replicate 460 none
  statics := none }

def pool4 : Array CpInfo := pool [(1, u "java/lang/Cloneable"), (0, .class_ 1), (0, u "java/lang/Object"), (0, .class_ 3)] 3

/-- java/lang/Cloneable -/
def k4 : Class := { plain "java/lang/Cloneable" (some 0) with
  accessFlags := 1537
  interfaces := #[]
  cf := some (fileOf pool4 2 #[] #[] 1537 4 #[] #[])
  fields := #[]
  methods := #[]
  instanceTypes := #[]
  staticTypes := #[]
  resolved := Array.replicate 8 none
  statics := none }

def pool5 : Array CpInfo := pool [(1, u "java/io/Serializable"), (0, .class_ 1), (0, u "java/lang/Object"), (0, .class_ 3)] 3

/-- java/io/Serializable -/
def k5 : Class := { plain "java/io/Serializable" (some 0) with
  accessFlags := 1537
  interfaces := #[]
  cf := some (fileOf pool5 2 #[] #[] 1537 4 #[] #[])
  fields := #[]
  methods := #[]
  instanceTypes := #[]
  staticTypes := #[]
  resolved := Array.replicate 8 none
  statics := none }

/-- the primitive byte -/
def k6 : Class := { plain "byte" none with kind := .primitive 'B', accessFlags := 0x411 }
/-- [B -/
def k7 : Class := { plain "[B" (some 0) with kind := .array 6 .byte, interfaces := #[4, 5], accessFlags := 1041 }

/-- the primitive int -/
def k8 : Class := { plain "int" none with kind := .primitive 'I', accessFlags := 0x411 }
/-- [I -/
def k9 : Class := { plain "[I" (some 0) with kind := .array 8 .int, interfaces := #[4, 5], accessFlags := 1041 }

/-- the primitive long -/
def k10 : Class := { plain "long" none with kind := .primitive 'J', accessFlags := 0x411 }
/-- [J -/
def k11 : Class := { plain "[J" (some 0) with kind := .array 10 .long, interfaces := #[4, 5], accessFlags := 1041 }

/-- the primitive double -/
def k12 : Class := { plain "double" none with kind := .primitive 'D', accessFlags := 0x411 }
/-- [D -/
def k13 : Class := { plain "[D" (some 0) with kind := .array 12 .double, interfaces := #[4, 5], accessFlags := 1041 }

def heap : Heap := #[]
def classes : Array Class := #[k0, k1, k2, k3, k4, k5, k6, k7, k8, k9, k10, k11, k12, k13]
def interned : List (Array UInt16 × Addr) := []
def slotsUsed : Nat := 0
def theMethod : MethodId := ⟨1, 1⟩
def args0 : Array Value := #[.int 3, .int 9, .int 3, .int 1, .int 7, .int 1]
def aboutOver (below : List Frame) : State where
  vm := { classes := classes, interned := interned.toArray }
  heap := heap
  slotsUsed := slotsUsed
  threads := #[{ frames := .invoking theMethod args0 :: below }]
def below0 : List Frame := [.native { method := ⟨0, 0⟩, args := #[] }]
def about1 : State := aboutOver below0
def p0 : Program := .bare "" "" ""
def e0 : Env := launch0.env 0 0 0
theorem w_frames : about1.frames = Frame.invoking theMethod args0 :: below0 := rfl
set_option maxRecDepth 65536 in
theorem w_args : argsFit about1.vm theMethod args0 = true := by decide +kernel
set_option maxRecDepth 65536 in
theorem w_heap : heapFits about1 = true := by decide +kernel
set_option maxRecDepth 65536 in
theorem w_runnable : about1.curStatus? = some .runnable := by decide +kernel
set_option maxRecDepth 65536 in
theorem w_alone : about1.alone = true := by decide +kernel
set_option maxRecDepth 65536 in
theorem w_named : about1.methodNamed? x = some theMethod := by decide +kernel
set_option maxRecDepth 65536 in
theorem w_hears : about1.hears theMethod below0 = true := by decide +kernel
set_option maxRecDepth 65536 in
theorem w_ripe : about1.ripe theMethod args0 below0 = true := by decide +kernel
theorem w_running : about1.status = .running := rfl
set_option maxRecDepth 65536 in
theorem w_room : about1.hasRoom e0.platform room_1 = true :=
  launch0.hasRoom_least _ room_1 (by decide +kernel) (by decide +kernel) (by decide +kernel) (by decide +kernel) (by decide +kernel) (by decide +kernel)
theorem allAtoms_all (ts : List Jvm.Cond) (a : Array Jvm.Value) (st : Jvm.State) : (allAtoms ts).before a st = ts.all (fun c => c.before a st) := by
  induction ts with
  | nil => rfl
  | cons c t ih =>
    show (Jvm.Cond.and c (allAtoms t)).before a st = _
    rw [Jvm.Cond.before_and, ih, List.all_cons]
def words1 : List Jvm.Cond := Jvm.Cond.code x code maxLocals ret :: tables_1
/-- a 'code' word, met by the world's own term for the bytes: nothing is compared byte by byte -/
theorem code_word {y : MethodName} {bytes : ByteArray} {mx : Nat} {rt : Option FieldType} {a : Array Value} {s : State} {m : MethodId} {meth : Method} {c : Code} (h1 : s.methodNamed? y = some m) (h2 : s.vm.method? m = some meth) (h3 : meth.code = some c) (h4 : c.code = bytes)
    (h5 : (c.maxLocals == mx && c.exceptionTable.isEmpty && decide (c.maxStack ≤ mostOperands) && decide (meth.sig.returnType = rt) && !meth.locks && decide (parseMethodDescriptor y.desc = some meth.sig)) = true) : (Jvm.Cond.code y bytes mx rt).before a s = true := by
  simp only [Bool.and_eq_true, beq_iff_eq, Bool.not_eq_true', decide_eq_true_eq] at h5
  obtain ⟨⟨⟨⟨⟨g1, g2⟩, g3⟩, g4⟩, g5⟩, g6⟩ := h5
  simp [Cond.before, Cond.holds, Cond.value, h1, h2, h3, h4, g1, g2, g3, g4, g5, g6]
def isCode : Jvm.Cond → Bool
  | .code _ _ _ _ => true
  | _ => false
theorem all_split {L : List Jvm.Cond} {P : Jvm.Cond → Bool} (h1 : L.all (fun c => isCode c || P c) = true) (h2 : ∀ c ∈ L.filter isCode, P c = true) : L.all P = true := by
  refine List.all_eq_true.mpr fun c hc => ?_
  have h := List.all_eq_true.mp h1 c hc
  rcases Bool.eq_false_or_eq_true (isCode c) with hi | hi
  · exact h2 c (List.mem_filter.mpr ⟨hc, hi⟩)
  · simpa [hi] using h
set_option maxRecDepth 65536 in
theorem w_c0 : (Jvm.Cond.code x code maxLocals ret).before args0 about1 = true := code_word (m := ⟨1, 1⟩) (meth := k1m1) (c := k1c1) (by decide +kernel) rfl rfl rfl (by decide +kernel)
set_option maxRecDepth 65536 in
theorem w_c1 : (Jvm.Cond.code ({ cls := "com/example/multibern/multibern/rank/model/ScoreAccumulator", name := "<init>", desc := "(I)V" } : Jvm.MethodName) prog_116_method_1_code (2 : Nat) (Option.none : Option Jvm.ClassFile.FieldType)).before args0 about1 = true := code_word (m := ⟨2, 0⟩) (meth := k2m0) (c := k2c0) (by decide +kernel) rfl rfl rfl (by decide +kernel)
set_option maxRecDepth 65536 in
theorem w_c2 : (Jvm.Cond.code ({ cls := "java/lang/Object", name := "<init>", desc := "()V" } : Jvm.MethodName) object_method_1_code (1 : Nat) (Option.none : Option Jvm.ClassFile.FieldType)).before args0 about1 = true := code_word (m := ⟨0, 0⟩) (meth := k0m0) (c := k0c0) (by decide +kernel) rfl rfl rfl (by decide +kernel)
set_option maxRecDepth 65536 in
theorem w_c3 : (Jvm.Cond.code ({ cls := "java/lang/Math", name := "min", desc := "(II)I" } : Jvm.MethodName) jdk_29_method_69_code (2 : Nat) (Option.some Jvm.ClassFile.FieldType.int)).before args0 about1 = true := code_word (m := ⟨3, 1⟩) (meth := k3m1) (c := k3c1) (by decide +kernel) rfl rfl rfl (by decide +kernel)
set_option maxRecDepth 65536 in
theorem w_c4 : (Jvm.Cond.code ({ cls := "com/example/multibern/multibern/rank/model/ScoreAccumulator", name := "reach", desc := "(I)V" } : Jvm.MethodName) prog_116_method_5_code (4 : Nat) (Option.none : Option Jvm.ClassFile.FieldType)).before args0 about1 = true := code_word (m := ⟨2, 1⟩) (meth := k2m1) (c := k2c1) (by decide +kernel) rfl rfl rfl (by decide +kernel)
set_option maxRecDepth 65536 in
theorem w_c5 : (Jvm.Cond.code ({ cls := "com/example/multibern/multibern/rank/model/ScoreAccumulator", name := "reachedCount", desc := "()I" } : Jvm.MethodName) prog_116_method_9_code (1 : Nat) (Option.some Jvm.ClassFile.FieldType.int)).before args0 about1 = true := code_word (m := ⟨2, 4⟩) (meth := k2m4) (c := k2c4) (by decide +kernel) rfl rfl rfl (by decide +kernel)
set_option maxRecDepth 65536 in
theorem w_c6 : (Jvm.Cond.code ({ cls := "com/example/multibern/multibern/rank/model/ScoreAccumulator", name := "reachedDocument", desc := "(I)I" } : Jvm.MethodName) prog_116_method_10_code (2 : Nat) (Option.some Jvm.ClassFile.FieldType.int)).before args0 about1 = true := code_word (m := ⟨2, 5⟩) (meth := k2m5) (c := k2c5) (by decide +kernel) rfl rfl rfl (by decide +kernel)
set_option maxRecDepth 65536 in
theorem w_c7 : (Jvm.Cond.code ({ cls := "com/example/multibern/multibern/rank/model/ScoreAccumulator", name := "isReached", desc := "(I)Z" } : Jvm.MethodName) prog_116_method_6_code (2 : Nat) (Option.some Jvm.ClassFile.FieldType.boolean)).before args0 about1 = true := code_word (m := ⟨2, 2⟩) (meth := k2m2) (c := k2c2) (by decide +kernel) rfl rfl rfl (by decide +kernel)
set_option maxRecDepth 65536 in
theorem w_c8 : (Jvm.Cond.code ({ cls := "com/example/multibern/multibern/rank/model/ScoreAccumulator", name := "reachedWord", desc := "(I)J" } : Jvm.MethodName) prog_116_method_8_code (2 : Nat) (Option.some Jvm.ClassFile.FieldType.long)).before args0 about1 = true := code_word (m := ⟨2, 3⟩) (meth := k2m3) (c := k2c3) (by decide +kernel) rfl rfl rfl (by decide +kernel)
set_option maxRecDepth 65536 in
theorem w_c9 : (Jvm.Cond.code ({ cls := "com/example/multibern/multibern/rank/model/ScoreAccumulator", name := "partialScore", desc := "(I)D" } : Jvm.MethodName) prog_116_method_11_code (2 : Nat) (Option.some Jvm.ClassFile.FieldType.double)).before args0 about1 = true := code_word (m := ⟨2, 6⟩) (meth := k2m6) (c := k2c6) (by decide +kernel) rfl rfl rfl (by decide +kernel)
def codes1 : List Jvm.Cond := [Jvm.Cond.code x code maxLocals ret, Jvm.Cond.code ({ cls := "com/example/multibern/multibern/rank/model/ScoreAccumulator", name := "<init>", desc := "(I)V" } : Jvm.MethodName) prog_116_method_1_code (2 : Nat) (Option.none : Option Jvm.ClassFile.FieldType), Jvm.Cond.code ({ cls := "java/lang/Object", name := "<init>", desc := "()V" } : Jvm.MethodName) object_method_1_code (1 : Nat) (Option.none : Option Jvm.ClassFile.FieldType), Jvm.Cond.code ({ cls := "java/lang/Math", name := "min", desc := "(II)I" } : Jvm.MethodName) jdk_29_method_69_code (2 : Nat) (Option.some Jvm.ClassFile.FieldType.int), Jvm.Cond.code ({ cls := "com/example/multibern/multibern/rank/model/ScoreAccumulator", name := "reach", desc := "(I)V" } : Jvm.MethodName) prog_116_method_5_code (4 : Nat) (Option.none : Option Jvm.ClassFile.FieldType), Jvm.Cond.code ({ cls := "com/example/multibern/multibern/rank/model/ScoreAccumulator", name := "reachedCount", desc := "()I" } : Jvm.MethodName) prog_116_method_9_code (1 : Nat) (Option.some Jvm.ClassFile.FieldType.int), Jvm.Cond.code ({ cls := "com/example/multibern/multibern/rank/model/ScoreAccumulator", name := "reachedDocument", desc := "(I)I" } : Jvm.MethodName) prog_116_method_10_code (2 : Nat) (Option.some Jvm.ClassFile.FieldType.int), Jvm.Cond.code ({ cls := "com/example/multibern/multibern/rank/model/ScoreAccumulator", name := "isReached", desc := "(I)Z" } : Jvm.MethodName) prog_116_method_6_code (2 : Nat) (Option.some Jvm.ClassFile.FieldType.boolean), Jvm.Cond.code ({ cls := "com/example/multibern/multibern/rank/model/ScoreAccumulator", name := "reachedWord", desc := "(I)J" } : Jvm.MethodName) prog_116_method_8_code (2 : Nat) (Option.some Jvm.ClassFile.FieldType.long), Jvm.Cond.code ({ cls := "com/example/multibern/multibern/rank/model/ScoreAccumulator", name := "partialScore", desc := "(I)D" } : Jvm.MethodName) prog_116_method_11_code (2 : Nat) (Option.some Jvm.ClassFile.FieldType.double)]
set_option maxRecDepth 65536 in
theorem codes_eq : words1.filter isCode = codes1 := rfl
theorem w_codes : ∀ c ∈ words1.filter isCode, c.before args0 about1 = true := by
  rw [codes_eq]
  intro c hc
  simp only [codes1, List.mem_cons, List.not_mem_nil, or_false] at hc
  rcases hc with rfl | rfl | rfl | rfl | rfl | rfl | rfl | rfl | rfl | rfl
  · exact w_c0
  · exact w_c1
  · exact w_c2
  · exact w_c3
  · exact w_c4
  · exact w_c5
  · exact w_c6
  · exact w_c7
  · exact w_c8
  · exact w_c9
set_option maxRecDepth 65536 in
theorem w_t1 : (words1.take 24).all (fun c => isCode c || c.before args0 about1) = true := by decide +kernel
set_option maxRecDepth 65536 in
theorem w_t2 : ((words1.drop 24).take 24).all (fun c => isCode c || c.before args0 about1) = true := by decide +kernel
set_option maxRecDepth 65536 in
theorem w_t3 : ((words1.drop 24).drop 24).all (fun c => isCode c || c.before args0 about1) = true := by decide +kernel
theorem w_tables : (allAtoms (Jvm.Cond.code x code maxLocals ret :: tables_1)).before args0 about1 = true := by
  rw [allAtoms_all]
  show words1.all (fun c => c.before args0 about1) = true
  refine all_split ?_ w_codes
  rw [← List.take_append_drop 24 words1, List.all_append, w_t1, ← List.take_append_drop 24 (words1.drop 24), List.all_append, w_t2, w_t3]
  rfl
set_option maxRecDepth 65536 in
theorem w_case : (Jvm.Cond.and given_1 narrow_1).before args0 about1 = true := by decide +kernel
theorem w_applies : (headSpec (Jvm.Cond.code x code maxLocals ret :: tables_1) room_1).applies x e0.platform about1 = true :=
  (Spec.applies_iff w_frames).mpr ⟨w_running, w_runnable, w_alone, w_named, w_hears, w_ripe, w_room, w_tables⟩
theorem atStart : AtStart classFile x code maxLocals ret World_1 tables_1 room_1 Calls_1 rest_1 Pre_1 launch0 p0 e0 about1 theMethod args0 below0 :=
  ⟨lists_1, trivial, launch0.admits_env _ _ _, launch0.least_env, fairChoices_fair.cas, fairChoices_fair.clock, w_frames, w_args, w_heap, w_applies, trivial, trivial, w_case⟩
end start1
theorem witness_1 : WitnessClaimed_1 := ⟨start1.p0, start1.e0, start1.about1, start1.theMethod, start1.args0, start1.below0, start1.atStart⟩
end Jvm.Pilot.@@N@@
