import JvmDerived
import JvmDerived.Pilot.@@N@@Statement
import JvmDerived.Pilot.@@N@@Code
set_option linter.unusedVariables false
set_option linter.unusedSimpArgs false
namespace Jvm.Pilot.@@N@@
open Jvm Jvm.ClassFile Sem Op Lib Jvm.Free Jvm.Stand Jvm.LawKit Jvm.RoadKit Bundle Jvm.Pilot.@@N@@.Jvm.D
/-- one invocation: program, environment, the state at the invocation, method, arguments, the frames below, the method's record, its code -/
abbrev OG := Program × Env × State × MethodId × Array Value × List Frame × Method × Code
/-- the whole run: the launch, the heap's size at the law's start, the law's arguments -/
abbrev OW := Launch × Nat × Array Value
/-- one method: its bytes, its number of locals, its class, its name, what it returns, the room it asks -/
abbrev OM := ByteArray × Nat × String × String × Option FieldType × Room
/-- where a walk stands -/
def oSt (Z : State) (ω : OW) (γ : OG) (κ : OM) (T : State) (h : Heap) (cs ss : Nat) : Prop :=
  γ.1.tables.exec = Jvm.exec ∧ γ.2.2.2.2.2.2.2.code = κ.1 ∧ γ.2.2.2.2.2.2.2.maxLocals = κ.2.1 ∧ γ.2.2.1.vm.findClass κ.2.2.1 = some γ.2.2.2.1.cls ∧ γ.2.2.2.2.2.2.1.name = κ.2.2.2.1 ∧
  γ.2.2.2.2.2.2.1.sig.returnType = κ.2.2.2.2.1 ∧ γ.2.2.2.2.2.2.1.locks = false ∧ Z.Warmed39 γ.2.2.1.vm ∧ (∀ d ∈ tables_1, d.before ω.2.2 Z = true) ∧ ω.2.1 ≤ γ.2.2.1.heap.size ∧ T.heap = h ∧
  ∃ locs, Stand γ.1 ω.1 γ.2.1 κ.2.2.2.2.2 γ.2.2.1 γ.2.2.2.1 γ.2.2.2.2.1 γ.2.2.2.2.2.1 γ.2.2.2.2.2.2.1 γ.2.2.2.2.2.2.2 T locs cs ss ∧ Fr ω.2.1 locs
/-- from here the method returns, and Q holds of what it returns and of the heap it leaves -/
def oWP (ω : OW) (γ : OG) (κ : OM) (Q : Option Value → Heap → Prop) (T : State) (pc : Nat) (L : Array Slot) (S : List Value) : Prop :=
  ∃ s₂ o, Steps γ.1.tables γ.2.1 γ.2.2.2.2.2.1 (T.setTop (mkF γ.2.2.2.1 pc L S)) s₂ ∧ s₂.status = .running ∧ Ended s₂ γ.2.2.2.2.2.1 o ∧
    ∃ v Lc, o = .returned v ∧ (Fr ω.2.1 Lc ∧ Q v s₂.heap) ∧ FrameEnd γ.2.2.1 o s₂ Lc κ.2.2.2.2.2.cells κ.2.2.2.2.2.slots
/-- a method's contract -/
def oC (Z : State) (ω : OW) (y : MethodName) (κ : OM) (ws : List Jvm.Cond) (as : Array Value) (h : Heap) (Q : Option Value → Heap → Prop) : Prop :=
  MetFree ω.1 y (head1 (Jvm.Cond.code y κ.1 κ.2.1 κ.2.2.2.2.1 :: ws) κ.2.2.2.2.2) (fun a U => a = as ∧ Z.Warmed39 U.vm ∧ U.heap = h) (fun _ _ _ _ _ => True)
    (fun _ U o U' => ∃ v Lc, o = .returned v ∧ (Fr ω.2.1 Lc ∧ Q v U'.heap) ∧ FrameEnd U o U' Lc κ.2.2.2.2.2.cells κ.2.2.2.2.2.slots)
theorem oC_of {Z : State} {ω : OW} {y : MethodName} {κ : OM} {ws : List Jvm.Cond} {as : Array Value} {h : Heap} {Q : Option Value → Heap → Prop} {L : Array Slot} (hw : ∀ d ∈ tables_1, d.before ω.2.2 Z = true) (hn0 : ω.2.1 ≤ h.size)
    (hpn : plainFor y = true) (hcl : κ.2.2.1 = y.cls) (hnm : κ.2.2.2.1 = y.name) (hef : ∀ m, entryFrame m as κ.2.1 = mkF m 0 L []) (body : ∀ γ T, oSt Z ω γ κ T h 0 0 → oWP ω γ κ Q T 0 L []) : oC Z ω y κ ws as h Q := by
  refine MetFree.of_bodySF hpn hisR ?_
  intro p e s m args below meth c s₁ Bd hml0 hP hK
  obtain ⟨rfl, hZ, hh⟩ := hP
  have hown : s.vm.findClass y.cls = some m.cls := findClass_of_methodNamed Bd.named
  have hnm' := (name_of_methodNamed Bd.named Bd.method).1
  have X0 := Stand.of_body Bd
  have e0 : s₁.heap = h := by rw [← hh, Bd.state]; rfl
  have hlk : meth.locks = false := BodyLoose.notSynchronized Bd
  obtain ⟨s₂, o, h1, h2, h3, h4⟩ := body (p, e, s, m, args, below, meth, c) s₁ ⟨Bd.exec, Bd.bytes, hml0, by rw [hcl]; exact hown, by rw [hnm]; exact hnm', Bd.returns, hlk, hZ, hw, by rw [hh]; exact hn0, e0, [], X0, Fr.nil _⟩
  exact ⟨s₂, o, castTop (hef m) h1, h2, h3, h4⟩
section Walk
variable {Z : State} {ω : OW} {γ : OG} {κ : OM} {Q : Option Value → Heap → Prop} {T : State} {h : Heap} {cs ss : Nat} {pc : Nat} {L : Array Slot} {S : List Value}
theorem oSt_n0 (X : oSt Z ω γ κ T h cs ss) : ω.2.1 ≤ h.size := by
  obtain ⟨-, -, -, -, -, -, -, -, -, hn0, hT, locs, Y, -⟩ := X
  have q : γ.2.2.1.heap.size ≤ T.heap.size := Y.same.2.1
  rw [hT] at q
  exact Nat.le_trans hn0 q
theorem oSt_w (X : oSt Z ω γ κ T h cs ss) : ∀ d ∈ tables_1, d.before ω.2.2 Z = true := by
  obtain ⟨-, -, -, -, -, -, -, -, hw, -⟩ := X; exact hw
theorem oSt_at (X : oSt Z ω γ κ T h cs ss) (i : Nat) {d : Jvm.Cond} (hi : tables_1[i]? = some d) : d.before ω.2.2 Z = true := oSt_w X _ (List.mem_of_getElem? hi)
theorem ow_iload (X : oSt Z ω γ κ T h cs ss) (pc' : Nat) {k : Nat} {v : Int32} (hd : decode κ.1 pc = .ok (.iload k, 2)) (hp : pc + 2 = pc') (hl : L[k]? = some (.val (.int v)))
    (K : oWP ω γ κ Q T pc' L (.int v :: S)) : oWP ω γ κ Q T pc L (S) := by
  obtain ⟨hx, hby, -, -, -, -, -, -, -, -, -, locs, Y, -⟩ := X
  subst hp
  obtain ⟨s₂, o, hs, r⟩ := K
  exact ⟨s₂, o, XS.iload Y.here hx rfl (hb hby hd) hl hs, r⟩
theorem ow_iloadN (X : oSt Z ω γ κ T h cs ss) (pc' : Nat) {k : Fin 4} {v : Int32} (hd : decode κ.1 pc = .ok (.iload_n k, 1)) (hp : pc + 1 = pc') (hl : L[k.val]? = some (.val (.int v)))
    (K : oWP ω γ κ Q T pc' L (.int v :: S)) : oWP ω γ κ Q T pc L (S) := by
  obtain ⟨hx, hby, -, -, -, -, -, -, -, -, -, locs, Y, -⟩ := X
  subst hp
  obtain ⟨s₂, o, hs, r⟩ := K
  exact ⟨s₂, o, XS.iloadN Y.here hx rfl (hb hby hd) hl hs, r⟩
theorem ow_istore (X : oSt Z ω γ κ T h cs ss) (pc' : Nat) {k : Nat} {v : Int32} {L' : Array Slot} (hd : decode κ.1 pc = .ok (.istore k, 2)) (hp : pc + 2 = pc') (hl : storeLocals L k (.int v) = some L')
    (K : oWP ω γ κ Q T pc' L' (S)) : oWP ω γ κ Q T pc L (.int v :: S) := by
  obtain ⟨hx, hby, -, -, -, -, -, -, -, -, -, locs, Y, -⟩ := X
  subst hp
  obtain ⟨s₂, o, hs, r⟩ := K
  exact ⟨s₂, o, XS.istore Y.here hx rfl (hb hby hd) rfl hl hs, r⟩
theorem ow_istoreN (X : oSt Z ω γ κ T h cs ss) (pc' : Nat) {k : Fin 4} {v : Int32} {L' : Array Slot} (hd : decode κ.1 pc = .ok (.istore_n k, 1)) (hp : pc + 1 = pc') (hl : storeLocals L k.val (.int v) = some L')
    (K : oWP ω γ κ Q T pc' L' (S)) : oWP ω γ κ Q T pc L (.int v :: S) := by
  obtain ⟨hx, hby, -, -, -, -, -, -, -, -, -, locs, Y, -⟩ := X
  subst hp
  obtain ⟨s₂, o, hs, r⟩ := K
  exact ⟨s₂, o, XS.istoreN Y.here hx rfl (hb hby hd) rfl hl hs, r⟩
theorem ow_lload (X : oSt Z ω γ κ T h cs ss) (pc' : Nat) {k : Nat} {v : Int64} (hd : decode κ.1 pc = .ok (.lload k, 2)) (hp : pc + 2 = pc') (hl : L[k]? = some (.val (.long v)))
    (K : oWP ω γ κ Q T pc' L (.long v :: S)) : oWP ω γ κ Q T pc L (S) := by
  obtain ⟨hx, hby, -, -, -, -, -, -, -, -, -, locs, Y, -⟩ := X
  subst hp
  obtain ⟨s₂, o, hs, r⟩ := K
  exact ⟨s₂, o, XS.lload Y.here hx rfl (hb hby hd) hl hs, r⟩
theorem ow_lloadN (X : oSt Z ω γ κ T h cs ss) (pc' : Nat) {k : Fin 4} {v : Int64} (hd : decode κ.1 pc = .ok (.lload_n k, 1)) (hp : pc + 1 = pc') (hl : L[k.val]? = some (.val (.long v)))
    (K : oWP ω γ κ Q T pc' L (.long v :: S)) : oWP ω γ κ Q T pc L (S) := by
  obtain ⟨hx, hby, -, -, -, -, -, -, -, -, -, locs, Y, -⟩ := X
  subst hp
  obtain ⟨s₂, o, hs, r⟩ := K
  exact ⟨s₂, o, XS.lloadN Y.here hx rfl (hb hby hd) hl hs, r⟩
theorem ow_lstore (X : oSt Z ω γ κ T h cs ss) (pc' : Nat) {k : Nat} {v : Int64} {L' : Array Slot} (hd : decode κ.1 pc = .ok (.lstore k, 2)) (hp : pc + 2 = pc') (hl : storeLocals L k (.long v) = some L')
    (K : oWP ω γ κ Q T pc' L' (S)) : oWP ω γ κ Q T pc L (.long v :: S) := by
  obtain ⟨hx, hby, -, -, -, -, -, -, -, -, -, locs, Y, -⟩ := X
  subst hp
  obtain ⟨s₂, o, hs, r⟩ := K
  exact ⟨s₂, o, XS.lstore Y.here hx rfl (hb hby hd) rfl hl hs, r⟩
theorem ow_lstoreN (X : oSt Z ω γ κ T h cs ss) (pc' : Nat) {k : Fin 4} {v : Int64} {L' : Array Slot} (hd : decode κ.1 pc = .ok (.lstore_n k, 1)) (hp : pc + 1 = pc') (hl : storeLocals L k.val (.long v) = some L')
    (K : oWP ω γ κ Q T pc' L' (S)) : oWP ω γ κ Q T pc L (.long v :: S) := by
  obtain ⟨hx, hby, -, -, -, -, -, -, -, -, -, locs, Y, -⟩ := X
  subst hp
  obtain ⟨s₂, o, hs, r⟩ := K
  exact ⟨s₂, o, XS.lstoreN Y.here hx rfl (hb hby hd) rfl hl hs, r⟩
theorem ow_aload (X : oSt Z ω γ κ T h cs ss) (pc' : Nat) {k : Nat} {v : Value} (hd : decode κ.1 pc = .ok (.aload k, 2)) (hp : pc + 2 = pc') (hl : L[k]? = some (.val v)) (hv : v.isRef = true)
    (K : oWP ω γ κ Q T pc' L (v :: S)) : oWP ω γ κ Q T pc L (S) := by
  obtain ⟨hx, hby, -, -, -, -, -, -, -, -, -, locs, Y, -⟩ := X
  subst hp
  obtain ⟨s₂, o, hs, r⟩ := K
  exact ⟨s₂, o, XS.aload Y.here hx rfl (hb hby hd) hl hv hs, r⟩
theorem ow_aloadN (X : oSt Z ω γ κ T h cs ss) (pc' : Nat) {k : Fin 4} {v : Value} (hd : decode κ.1 pc = .ok (.aload_n k, 1)) (hp : pc + 1 = pc') (hl : L[k.val]? = some (.val v)) (hv : v.isRef = true)
    (K : oWP ω γ κ Q T pc' L (v :: S)) : oWP ω γ κ Q T pc L (S) := by
  obtain ⟨hx, hby, -, -, -, -, -, -, -, -, -, locs, Y, -⟩ := X
  subst hp
  obtain ⟨s₂, o, hs, r⟩ := K
  exact ⟨s₂, o, XS.aloadN Y.here hx rfl (hb hby hd) hl hv hs, r⟩
theorem ow_astore (X : oSt Z ω γ κ T h cs ss) (pc' : Nat) {k : Nat} {v : Value} {L' : Array Slot} (hd : decode κ.1 pc = .ok (.astore k, 2)) (hp : pc + 2 = pc') (hv : v.isRef = true) (hl : storeLocals L k v = some L')
    (K : oWP ω γ κ Q T pc' L' (S)) : oWP ω γ κ Q T pc L (v :: S) := by
  obtain ⟨hx, hby, -, -, -, -, -, -, -, -, -, locs, Y, -⟩ := X
  subst hp
  obtain ⟨s₂, o, hs, r⟩ := K
  exact ⟨s₂, o, XS.astore Y.here hx rfl (hb hby hd) rfl hv hl hs, r⟩
theorem ow_astoreN (X : oSt Z ω γ κ T h cs ss) (pc' : Nat) {k : Fin 4} {v : Value} {L' : Array Slot} (hd : decode κ.1 pc = .ok (.astore_n k, 1)) (hp : pc + 1 = pc') (hv : v.isRef = true) (hl : storeLocals L k.val v = some L')
    (K : oWP ω γ κ Q T pc' L' (S)) : oWP ω γ κ Q T pc L (v :: S) := by
  obtain ⟨hx, hby, -, -, -, -, -, -, -, -, -, locs, Y, -⟩ := X
  subst hp
  obtain ⟨s₂, o, hs, r⟩ := K
  exact ⟨s₂, o, XS.astoreN Y.here hx rfl (hb hby hd) rfl hv hl hs, r⟩
theorem ow_iconst (X : oSt Z ω γ κ T h cs ss) (pc' : Nat) {i : Int} (v : Int32) (hd : decode κ.1 pc = .ok (.iconst i, 1)) (hp : pc + 1 = pc') (hv : Int32.ofInt i = v)
    (K : oWP ω γ κ Q T pc' L (.int v :: S)) : oWP ω γ κ Q T pc L (S) := by
  obtain ⟨hx, hby, -, -, -, -, -, -, -, -, -, locs, Y, -⟩ := X
  subst hp
  obtain ⟨s₂, o, hs, r⟩ := K
  subst hv; exact ⟨s₂, o, XS.iconst Y.here hx rfl (hb hby hd) hs, r⟩
theorem ow_bipush (X : oSt Z ω γ κ T h cs ss) (pc' : Nat) {i : Int} (v : Int32) (hd : decode κ.1 pc = .ok (.bipush i, 2)) (hp : pc + 2 = pc') (hv : (Int8.ofInt i).toInt32 = v)
    (K : oWP ω γ κ Q T pc' L (.int v :: S)) : oWP ω γ κ Q T pc L (S) := by
  obtain ⟨hx, hby, -, -, -, -, -, -, -, -, -, locs, Y, -⟩ := X
  subst hp
  obtain ⟨s₂, o, hs, r⟩ := K
  subst hv; exact ⟨s₂, o, XS.bipush Y.here hx rfl (hb hby hd) hs, r⟩
theorem ow_sipush (X : oSt Z ω γ κ T h cs ss) (pc' : Nat) {i : Int} (v : Int32) (hd : decode κ.1 pc = .ok (.sipush i, 3)) (hp : pc + 3 = pc') (hv : (Int16.ofInt i).toInt32 = v)
    (K : oWP ω γ κ Q T pc' L (.int v :: S)) : oWP ω γ κ Q T pc L (S) := by
  obtain ⟨hx, hby, -, -, -, -, -, -, -, -, -, locs, Y, -⟩ := X
  subst hp
  obtain ⟨s₂, o, hs, r⟩ := K
  subst hv; exact ⟨s₂, o, XS.sipush Y.here hx rfl (hb hby hd) hs, r⟩
theorem ow_lconst (X : oSt Z ω γ κ T h cs ss) (pc' : Nat) {k : Fin 2} (v : Int64) (hd : decode κ.1 pc = .ok (.lconst k, 1)) (hp : pc + 1 = pc') (hv : Int64.ofNat k = v)
    (K : oWP ω γ κ Q T pc' L (.long v :: S)) : oWP ω γ κ Q T pc L (S) := by
  obtain ⟨hx, hby, -, -, -, -, -, -, -, -, -, locs, Y, -⟩ := X
  subst hp
  obtain ⟨s₂, o, hs, r⟩ := K
  subst hv; exact ⟨s₂, o, XS.lconst Y.here hx rfl (hb hby hd) hs, r⟩
theorem ow_anull (X : oSt Z ω γ κ T h cs ss) (pc' : Nat)  (hd : decode κ.1 pc = .ok (.aconst_null, 1)) (hp : pc + 1 = pc') 
    (K : oWP ω γ κ Q T pc' L (.null :: S)) : oWP ω γ κ Q T pc L (S) := by
  obtain ⟨hx, hby, -, -, -, -, -, -, -, -, -, locs, Y, -⟩ := X
  subst hp
  obtain ⟨s₂, o, hs, r⟩ := K
  exact ⟨s₂, o, XS.aconstNull Y.here hx rfl (hb hby hd) hs, r⟩
theorem ow_iinc (X : oSt Z ω γ κ T h cs ss) (pc' : Nat) {k : Nat} {i : Int} {x : Int32} {L' : Array Slot} (v : Int32) (hd : decode κ.1 pc = .ok (.iinc k i, 3)) (hp : pc + 3 = pc') (hv : Int32.ofInt i = v) (hl : L[k]? = some (.val (.int x))) (hl' : storeLocals L k (.int (x + v)) = some L')
    (K : oWP ω γ κ Q T pc' L' (S)) : oWP ω γ κ Q T pc L (S) := by
  obtain ⟨hx, hby, -, -, -, -, -, -, -, -, -, locs, Y, -⟩ := X
  subst hp
  obtain ⟨s₂, o, hs, r⟩ := K
  subst hv; exact ⟨s₂, o, XS.iinc Y.here hx rfl (hb hby hd) hl hl' hs, r⟩
theorem ow_iadd (X : oSt Z ω γ κ T h cs ss) (pc' : Nat) {x y : Int32} (hd : decode κ.1 pc = .ok (.iadd, 1)) (hp : pc + 1 = pc') 
    (K : oWP ω γ κ Q T pc' L (.int (x + y) :: S)) : oWP ω γ κ Q T pc L (.int y :: .int x :: S) := by
  obtain ⟨hx, hby, -, -, -, -, -, -, -, -, -, locs, Y, -⟩ := X
  subst hp
  obtain ⟨s₂, o, hs, r⟩ := K
  exact ⟨s₂, o, XS.iadd Y.here hx rfl (hb hby hd) rfl hs, r⟩
theorem ow_isub (X : oSt Z ω γ κ T h cs ss) (pc' : Nat) {x y : Int32} (hd : decode κ.1 pc = .ok (.isub, 1)) (hp : pc + 1 = pc') 
    (K : oWP ω γ κ Q T pc' L (.int (x - y) :: S)) : oWP ω γ κ Q T pc L (.int y :: .int x :: S) := by
  obtain ⟨hx, hby, -, -, -, -, -, -, -, -, -, locs, Y, -⟩ := X
  subst hp
  obtain ⟨s₂, o, hs, r⟩ := K
  exact ⟨s₂, o, XS.isub Y.here hx rfl (hb hby hd) rfl hs, r⟩
theorem ow_imul (X : oSt Z ω γ κ T h cs ss) (pc' : Nat) {x y : Int32} (hd : decode κ.1 pc = .ok (.imul, 1)) (hp : pc + 1 = pc') 
    (K : oWP ω γ κ Q T pc' L (.int (x * y) :: S)) : oWP ω γ κ Q T pc L (.int y :: .int x :: S) := by
  obtain ⟨hx, hby, -, -, -, -, -, -, -, -, -, locs, Y, -⟩ := X
  subst hp
  obtain ⟨s₂, o, hs, r⟩ := K
  exact ⟨s₂, o, XS.imul Y.here hx rfl (hb hby hd) rfl hs, r⟩
theorem ow_iand (X : oSt Z ω γ κ T h cs ss) (pc' : Nat) {x y : Int32} (hd : decode κ.1 pc = .ok (.iand, 1)) (hp : pc + 1 = pc') 
    (K : oWP ω γ κ Q T pc' L (.int (x &&& y) :: S)) : oWP ω γ κ Q T pc L (.int y :: .int x :: S) := by
  obtain ⟨hx, hby, -, -, -, -, -, -, -, -, -, locs, Y, -⟩ := X
  subst hp
  obtain ⟨s₂, o, hs, r⟩ := K
  exact ⟨s₂, o, XS.iand Y.here hx rfl (hb hby hd) rfl hs, r⟩
theorem ow_ior (X : oSt Z ω γ κ T h cs ss) (pc' : Nat) {x y : Int32} (hd : decode κ.1 pc = .ok (.ior, 1)) (hp : pc + 1 = pc') 
    (K : oWP ω γ κ Q T pc' L (.int (x ||| y) :: S)) : oWP ω γ κ Q T pc L (.int y :: .int x :: S) := by
  obtain ⟨hx, hby, -, -, -, -, -, -, -, -, -, locs, Y, -⟩ := X
  subst hp
  obtain ⟨s₂, o, hs, r⟩ := K
  exact ⟨s₂, o, XS.ior Y.here hx rfl (hb hby hd) rfl hs, r⟩
theorem ow_ixor (X : oSt Z ω γ κ T h cs ss) (pc' : Nat) {x y : Int32} (hd : decode κ.1 pc = .ok (.ixor, 1)) (hp : pc + 1 = pc') 
    (K : oWP ω γ κ Q T pc' L (.int (x ^^^ y) :: S)) : oWP ω γ κ Q T pc L (.int y :: .int x :: S) := by
  obtain ⟨hx, hby, -, -, -, -, -, -, -, -, -, locs, Y, -⟩ := X
  subst hp
  obtain ⟨s₂, o, hs, r⟩ := K
  exact ⟨s₂, o, XS.ixor Y.here hx rfl (hb hby hd) rfl hs, r⟩
theorem ow_ishl (X : oSt Z ω γ κ T h cs ss) (pc' : Nat) {x y : Int32} (hd : decode κ.1 pc = .ok (.ishl, 1)) (hp : pc + 1 = pc') 
    (K : oWP ω γ κ Q T pc' L (.int (x <<< (y &&& 31)) :: S)) : oWP ω γ κ Q T pc L (.int y :: .int x :: S) := by
  obtain ⟨hx, hby, -, -, -, -, -, -, -, -, -, locs, Y, -⟩ := X
  subst hp
  obtain ⟨s₂, o, hs, r⟩ := K
  exact ⟨s₂, o, XS.ishl Y.here hx rfl (hb hby hd) rfl hs, r⟩
theorem ow_ishr (X : oSt Z ω γ κ T h cs ss) (pc' : Nat) {x y : Int32} (hd : decode κ.1 pc = .ok (.ishr, 1)) (hp : pc + 1 = pc') 
    (K : oWP ω γ κ Q T pc' L (.int (x >>> (y &&& 31)) :: S)) : oWP ω γ κ Q T pc L (.int y :: .int x :: S) := by
  obtain ⟨hx, hby, -, -, -, -, -, -, -, -, -, locs, Y, -⟩ := X
  subst hp
  obtain ⟨s₂, o, hs, r⟩ := K
  exact ⟨s₂, o, XS.ishr Y.here hx rfl (hb hby hd) rfl hs, r⟩
theorem ow_iushr (X : oSt Z ω γ κ T h cs ss) (pc' : Nat) {x y : Int32} (hd : decode κ.1 pc = .ok (.iushr, 1)) (hp : pc + 1 = pc') 
    (K : oWP ω γ κ Q T pc' L (.int ((x.toUInt32 >>> (y &&& 31).toUInt32).toInt32) :: S)) : oWP ω γ κ Q T pc L (.int y :: .int x :: S) := by
  obtain ⟨hx, hby, -, -, -, -, -, -, -, -, -, locs, Y, -⟩ := X
  subst hp
  obtain ⟨s₂, o, hs, r⟩ := K
  exact ⟨s₂, o, XS.iushr Y.here hx rfl (hb hby hd) rfl hs, r⟩
theorem ow_ineg (X : oSt Z ω γ κ T h cs ss) (pc' : Nat) {x : Int32} (hd : decode κ.1 pc = .ok (.ineg, 1)) (hp : pc + 1 = pc') 
    (K : oWP ω γ κ Q T pc' L (.int (-x) :: S)) : oWP ω γ κ Q T pc L (.int x :: S) := by
  obtain ⟨hx, hby, -, -, -, -, -, -, -, -, -, locs, Y, -⟩ := X
  subst hp
  obtain ⟨s₂, o, hs, r⟩ := K
  exact ⟨s₂, o, XS.ineg Y.here hx rfl (hb hby hd) rfl hs, r⟩
theorem ow_idiv (X : oSt Z ω γ κ T h cs ss) (pc' : Nat) {x y : Int32} (hd : decode κ.1 pc = .ok (.idiv, 1)) (hp : pc + 1 = pc') (hy : y ≠ 0)
    (K : oWP ω γ κ Q T pc' L (.int (x / y) :: S)) : oWP ω γ κ Q T pc L (.int y :: .int x :: S) := by
  obtain ⟨hx, hby, -, -, -, -, -, -, -, -, -, locs, Y, -⟩ := X
  subst hp
  obtain ⟨s₂, o, hs, r⟩ := K
  exact ⟨s₂, o, XS.idiv Y.here hx rfl (hb hby hd) rfl hy hs, r⟩
theorem ow_irem (X : oSt Z ω γ κ T h cs ss) (pc' : Nat) {x y : Int32} (hd : decode κ.1 pc = .ok (.irem, 1)) (hp : pc + 1 = pc') (hy : y ≠ 0)
    (K : oWP ω γ κ Q T pc' L (.int (x % y) :: S)) : oWP ω γ κ Q T pc L (.int y :: .int x :: S) := by
  obtain ⟨hx, hby, -, -, -, -, -, -, -, -, -, locs, Y, -⟩ := X
  subst hp
  obtain ⟨s₂, o, hs, r⟩ := K
  exact ⟨s₂, o, iremM Y hx rfl (hb hby hd) rfl hy hs, r⟩
theorem ow_ladd (X : oSt Z ω γ κ T h cs ss) (pc' : Nat) {x y : Int64} (hd : decode κ.1 pc = .ok (.ladd, 1)) (hp : pc + 1 = pc') 
    (K : oWP ω γ κ Q T pc' L (.long (x + y) :: S)) : oWP ω γ κ Q T pc L (.long y :: .long x :: S) := by
  obtain ⟨hx, hby, -, -, -, -, -, -, -, -, -, locs, Y, -⟩ := X
  subst hp
  obtain ⟨s₂, o, hs, r⟩ := K
  exact ⟨s₂, o, XS.ladd Y.here hx rfl (hb hby hd) rfl hs, r⟩
theorem ow_lsub (X : oSt Z ω γ κ T h cs ss) (pc' : Nat) {x y : Int64} (hd : decode κ.1 pc = .ok (.lsub, 1)) (hp : pc + 1 = pc') 
    (K : oWP ω γ κ Q T pc' L (.long (x - y) :: S)) : oWP ω γ κ Q T pc L (.long y :: .long x :: S) := by
  obtain ⟨hx, hby, -, -, -, -, -, -, -, -, -, locs, Y, -⟩ := X
  subst hp
  obtain ⟨s₂, o, hs, r⟩ := K
  exact ⟨s₂, o, XS.lsub Y.here hx rfl (hb hby hd) rfl hs, r⟩
theorem ow_lmul (X : oSt Z ω γ κ T h cs ss) (pc' : Nat) {x y : Int64} (hd : decode κ.1 pc = .ok (.lmul, 1)) (hp : pc + 1 = pc') 
    (K : oWP ω γ κ Q T pc' L (.long (x * y) :: S)) : oWP ω γ κ Q T pc L (.long y :: .long x :: S) := by
  obtain ⟨hx, hby, -, -, -, -, -, -, -, -, -, locs, Y, -⟩ := X
  subst hp
  obtain ⟨s₂, o, hs, r⟩ := K
  exact ⟨s₂, o, XS.lmul Y.here hx rfl (hb hby hd) rfl hs, r⟩
theorem ow_land (X : oSt Z ω γ κ T h cs ss) (pc' : Nat) {x y : Int64} (hd : decode κ.1 pc = .ok (.land, 1)) (hp : pc + 1 = pc') 
    (K : oWP ω γ κ Q T pc' L (.long (x &&& y) :: S)) : oWP ω γ κ Q T pc L (.long y :: .long x :: S) := by
  obtain ⟨hx, hby, -, -, -, -, -, -, -, -, -, locs, Y, -⟩ := X
  subst hp
  obtain ⟨s₂, o, hs, r⟩ := K
  exact ⟨s₂, o, XS.land Y.here hx rfl (hb hby hd) rfl hs, r⟩
theorem ow_lor (X : oSt Z ω γ κ T h cs ss) (pc' : Nat) {x y : Int64} (hd : decode κ.1 pc = .ok (.lor, 1)) (hp : pc + 1 = pc') 
    (K : oWP ω γ κ Q T pc' L (.long (x ||| y) :: S)) : oWP ω γ κ Q T pc L (.long y :: .long x :: S) := by
  obtain ⟨hx, hby, -, -, -, -, -, -, -, -, -, locs, Y, -⟩ := X
  subst hp
  obtain ⟨s₂, o, hs, r⟩ := K
  exact ⟨s₂, o, XS.lor Y.here hx rfl (hb hby hd) rfl hs, r⟩
theorem ow_lxor (X : oSt Z ω γ κ T h cs ss) (pc' : Nat) {x y : Int64} (hd : decode κ.1 pc = .ok (.lxor, 1)) (hp : pc + 1 = pc') 
    (K : oWP ω γ κ Q T pc' L (.long (x ^^^ y) :: S)) : oWP ω γ κ Q T pc L (.long y :: .long x :: S) := by
  obtain ⟨hx, hby, -, -, -, -, -, -, -, -, -, locs, Y, -⟩ := X
  subst hp
  obtain ⟨s₂, o, hs, r⟩ := K
  exact ⟨s₂, o, XS.lxor Y.here hx rfl (hb hby hd) rfl hs, r⟩
theorem ow_lshl (X : oSt Z ω γ κ T h cs ss) (pc' : Nat) {x : Int64} {y : Int32} (hd : decode κ.1 pc = .ok (.lshl, 1)) (hp : pc + 1 = pc') 
    (K : oWP ω γ κ Q T pc' L (.long (x <<< (y &&& 0x3f).toInt64) :: S)) : oWP ω γ κ Q T pc L (.int y :: .long x :: S) := by
  obtain ⟨hx, hby, -, -, -, -, -, -, -, -, -, locs, Y, -⟩ := X
  subst hp
  obtain ⟨s₂, o, hs, r⟩ := K
  exact ⟨s₂, o, XS.lshl Y.here hx rfl (hb hby hd) rfl hs, r⟩
theorem ow_lshr (X : oSt Z ω γ κ T h cs ss) (pc' : Nat) {x : Int64} {y : Int32} (hd : decode κ.1 pc = .ok (.lshr, 1)) (hp : pc + 1 = pc') 
    (K : oWP ω γ κ Q T pc' L (.long (x >>> (y &&& 0x3f).toInt64) :: S)) : oWP ω γ κ Q T pc L (.int y :: .long x :: S) := by
  obtain ⟨hx, hby, -, -, -, -, -, -, -, -, -, locs, Y, -⟩ := X
  subst hp
  obtain ⟨s₂, o, hs, r⟩ := K
  exact ⟨s₂, o, XS.lshr Y.here hx rfl (hb hby hd) rfl hs, r⟩
theorem ow_lushr (X : oSt Z ω γ κ T h cs ss) (pc' : Nat) {x : Int64} {y : Int32} (hd : decode κ.1 pc = .ok (.lushr, 1)) (hp : pc + 1 = pc') 
    (K : oWP ω γ κ Q T pc' L (.long ((x.toUInt64 >>> (y &&& 0x3f).toInt64.toUInt64).toInt64) :: S)) : oWP ω γ κ Q T pc L (.int y :: .long x :: S) := by
  obtain ⟨hx, hby, -, -, -, -, -, -, -, -, -, locs, Y, -⟩ := X
  subst hp
  obtain ⟨s₂, o, hs, r⟩ := K
  exact ⟨s₂, o, XS.lushr Y.here hx rfl (hb hby hd) rfl hs, r⟩
theorem ow_ldiv (X : oSt Z ω γ κ T h cs ss) (pc' : Nat) {x y : Int64} (hd : decode κ.1 pc = .ok (.ldiv, 1)) (hp : pc + 1 = pc') (hy : y ≠ 0)
    (K : oWP ω γ κ Q T pc' L (.long (x / y) :: S)) : oWP ω γ κ Q T pc L (.long y :: .long x :: S) := by
  obtain ⟨hx, hby, -, -, -, -, -, -, -, -, -, locs, Y, -⟩ := X
  subst hp
  obtain ⟨s₂, o, hs, r⟩ := K
  exact ⟨s₂, o, XS.ldiv Y.here hx rfl (hb hby hd) rfl hy hs, r⟩
theorem ow_lrem (X : oSt Z ω γ κ T h cs ss) (pc' : Nat) {x y : Int64} (hd : decode κ.1 pc = .ok (.lrem, 1)) (hp : pc + 1 = pc') (hy : y ≠ 0)
    (K : oWP ω γ κ Q T pc' L (.long (x % y) :: S)) : oWP ω γ κ Q T pc L (.long y :: .long x :: S) := by
  obtain ⟨hx, hby, -, -, -, -, -, -, -, -, -, locs, Y, -⟩ := X
  subst hp
  obtain ⟨s₂, o, hs, r⟩ := K
  rw [← lrem_mod] at hs; exact ⟨s₂, o, XS.lrem Y.here hx rfl (hb hby hd) rfl hy hs, r⟩
theorem ow_i2l (X : oSt Z ω γ κ T h cs ss) (pc' : Nat) {x : Int32} (hd : decode κ.1 pc = .ok (.i2l, 1)) (hp : pc + 1 = pc') 
    (K : oWP ω γ κ Q T pc' L (.long x.toInt64 :: S)) : oWP ω γ κ Q T pc L (.int x :: S) := by
  obtain ⟨hx, hby, -, -, -, -, -, -, -, -, -, locs, Y, -⟩ := X
  subst hp
  obtain ⟨s₂, o, hs, r⟩ := K
  exact ⟨s₂, o, XS.i2l Y.here hx rfl (hb hby hd) rfl hs, r⟩
theorem ow_l2i (X : oSt Z ω γ κ T h cs ss) (pc' : Nat) {x : Int64} (hd : decode κ.1 pc = .ok (.l2i, 1)) (hp : pc + 1 = pc') 
    (K : oWP ω γ κ Q T pc' L (.int x.toInt32 :: S)) : oWP ω γ κ Q T pc L (.long x :: S) := by
  obtain ⟨hx, hby, -, -, -, -, -, -, -, -, -, locs, Y, -⟩ := X
  subst hp
  obtain ⟨s₂, o, hs, r⟩ := K
  exact ⟨s₂, o, XS.l2i Y.here hx rfl (hb hby hd) rfl hs, r⟩
theorem ow_i2b (X : oSt Z ω γ κ T h cs ss) (pc' : Nat) {x : Int32} (hd : decode κ.1 pc = .ok (.i2b, 1)) (hp : pc + 1 = pc') 
    (K : oWP ω γ κ Q T pc' L (.int x.toInt8.toInt32 :: S)) : oWP ω γ κ Q T pc L (.int x :: S) := by
  obtain ⟨hx, hby, -, -, -, -, -, -, -, -, -, locs, Y, -⟩ := X
  subst hp
  obtain ⟨s₂, o, hs, r⟩ := K
  exact ⟨s₂, o, XS.i2b Y.here hx rfl (hb hby hd) rfl hs, r⟩
theorem ow_i2c (X : oSt Z ω γ κ T h cs ss) (pc' : Nat) {x : Int32} (hd : decode κ.1 pc = .ok (.i2c, 1)) (hp : pc + 1 = pc') 
    (K : oWP ω γ κ Q T pc' L (.int x.toUInt32.toUInt16.toUInt32.toInt32 :: S)) : oWP ω γ κ Q T pc L (.int x :: S) := by
  obtain ⟨hx, hby, -, -, -, -, -, -, -, -, -, locs, Y, -⟩ := X
  subst hp
  obtain ⟨s₂, o, hs, r⟩ := K
  exact ⟨s₂, o, XS.i2c Y.here hx rfl (hb hby hd) rfl hs, r⟩
theorem ow_i2s (X : oSt Z ω γ κ T h cs ss) (pc' : Nat) {x : Int32} (hd : decode κ.1 pc = .ok (.i2s, 1)) (hp : pc + 1 = pc') 
    (K : oWP ω γ κ Q T pc' L (.int x.toInt16.toInt32 :: S)) : oWP ω γ κ Q T pc L (.int x :: S) := by
  obtain ⟨hx, hby, -, -, -, -, -, -, -, -, -, locs, Y, -⟩ := X
  subst hp
  obtain ⟨s₂, o, hs, r⟩ := K
  exact ⟨s₂, o, XS.i2s Y.here hx rfl (hb hby hd) rfl hs, r⟩
theorem ow_dup (X : oSt Z ω γ κ T h cs ss) (pc' : Nat) {x : Value} (hd : decode κ.1 pc = .ok (.dup, 1)) (hp : pc + 1 = pc') (hc : x.category = 1)
    (K : oWP ω γ κ Q T pc' L (x :: x :: S)) : oWP ω γ κ Q T pc L (x :: S) := by
  obtain ⟨hx, hby, -, -, -, -, -, -, -, -, -, locs, Y, -⟩ := X
  subst hp
  obtain ⟨s₂, o, hs, r⟩ := K
  exact ⟨s₂, o, XS.dup Y.here hx rfl (hb hby hd) rfl hc hs, r⟩
theorem ow_pop (X : oSt Z ω γ κ T h cs ss) (pc' : Nat) {x : Value} (hd : decode κ.1 pc = .ok (.pop, 1)) (hp : pc + 1 = pc') (hc : x.category = 1)
    (K : oWP ω γ κ Q T pc' L (S)) : oWP ω γ κ Q T pc L (x :: S) := by
  obtain ⟨hx, hby, -, -, -, -, -, -, -, -, -, locs, Y, -⟩ := X
  subst hp
  obtain ⟨s₂, o, hs, r⟩ := K
  exact ⟨s₂, o, XS.pop Y.here hx rfl (hb hby hd) rfl hc hs, r⟩
theorem ow_dupX1 (X : oSt Z ω γ κ T h cs ss) (pc' : Nat) {x y : Value} (hd : decode κ.1 pc = .ok (.dup_x1, 1)) (hp : pc + 1 = pc') (hc : x.category = 1) (hc' : y.category = 1)
    (K : oWP ω γ κ Q T pc' L (x :: y :: x :: S)) : oWP ω γ κ Q T pc L (x :: y :: S) := by
  obtain ⟨hx, hby, -, -, -, -, -, -, -, -, -, locs, Y, -⟩ := X
  subst hp
  obtain ⟨s₂, o, hs, r⟩ := K
  exact ⟨s₂, o, XS.dupX1 Y.here hx rfl (hb hby hd) rfl hc hc' hs, r⟩
theorem ow_dup2 (X : oSt Z ω γ κ T h cs ss) (pc' : Nat) {x y : Value} (hd : decode κ.1 pc = .ok (.dup2, 1)) (hp : pc + 1 = pc') (hc : x.category = 1) (hc' : y.category = 1)
    (K : oWP ω γ κ Q T pc' L (x :: y :: x :: y :: S)) : oWP ω γ κ Q T pc L (x :: y :: S) := by
  obtain ⟨hx, hby, -, -, -, -, -, -, -, -, -, locs, Y, -⟩ := X
  subst hp
  obtain ⟨s₂, o, hs, r⟩ := K
  exact ⟨s₂, o, XT.dup2 Y.here hx rfl (hb hby hd) rfl hc hc' hs, r⟩
theorem oXpop2L {tb : Tables} [Ours tb] {e : Env} {below : List Frame} {T target : State} {m : MethodId} {c : Code} {g : JFrame} (h : At T m c below) (hx : tb.exec = Jvm.exec) (hg : g.method = m) {x : Int64} {rest : List Value} (hd : decode c.code g.pc = .ok (.pop2, 1)) (hs : g.stack = .long x :: rest)
    (hr : Steps tb e below (T.setTop { g with pc := g.pc + 1, stack := rest }) target) : Steps tb e below (T.setTop g) target := by
  subst hg
  jvm_step h [h.top, hx, hd, hs, Value.category]
  exact hr
theorem ow_pop2L (X : oSt Z ω γ κ T h cs ss) (pc' : Nat) {x : Int64} (hd : decode κ.1 pc = .ok (.pop2, 1)) (hp : pc + 1 = pc') 
    (K : oWP ω γ κ Q T pc' L (S)) : oWP ω γ κ Q T pc L (.long x :: S) := by
  obtain ⟨hx, hby, -, -, -, -, -, -, -, -, -, locs, Y, -⟩ := X
  subst hp
  obtain ⟨s₂, o, hs, r⟩ := K
  exact ⟨s₂, o, oXpop2L Y.here hx rfl (hb hby hd) rfl hs, r⟩
theorem ow_ldcI (X : oSt Z ω γ κ T h cs ss) (pc' i : Nat) {own : String} {idx : Nat} {v : Int32} (hw : tables_1[i]? = some (.constant own idx v)) (ho : κ.2.2.1 = own) (hd : decode κ.1 pc = .ok (.ldc idx, 2)) (hp : pc + 2 = pc')
    (K : oWP ω γ κ Q T pc' L (.int v :: S)) : oWP ω γ κ Q T pc L S := by
  have hw' := oSt_at X i hw
  obtain ⟨hx, hby, -, hown, -, -, -, hZ, -, -, -, locs, Y, -⟩ := X
  subst hp ho
  obtain ⟨s₂, o, hs, r⟩ := K
  exact ⟨s₂, o, Stand.ldcI Y hx hown (mv hZ hw') rfl (hb hby hd) hs, r⟩
theorem ow_ldcWI (X : oSt Z ω γ κ T h cs ss) (pc' i : Nat) {own : String} {idx : Nat} {v : Int32} (hw : tables_1[i]? = some (.constant own idx v)) (ho : κ.2.2.1 = own) (hd : decode κ.1 pc = .ok (.ldc_w idx, 3)) (hp : pc + 3 = pc')
    (K : oWP ω γ κ Q T pc' L (.int v :: S)) : oWP ω γ κ Q T pc L S := by
  have hw' := oSt_at X i hw
  obtain ⟨hx, hby, -, hown, -, -, -, hZ, -, -, -, locs, Y, -⟩ := X
  subst hp ho
  obtain ⟨s₂, o, hs, r⟩ := K
  exact ⟨s₂, o, Stand.ldcWI Y hx hown (mv hZ hw') rfl (hb hby hd) hs, r⟩
theorem ow_ldc2J (X : oSt Z ω γ κ T h cs ss) (pc' i : Nat) {own : String} {idx : Nat} {v : Int64} (hw : tables_1[i]? = some (.constantLong own idx v)) (ho : κ.2.2.1 = own) (hd : decode κ.1 pc = .ok (.ldc2_w idx, 3)) (hp : pc + 3 = pc')
    (K : oWP ω γ κ Q T pc' L (.long v :: S)) : oWP ω γ κ Q T pc L S := by
  have hw' := oSt_at X i hw
  obtain ⟨hx, hby, -, hown, -, -, -, hZ, -, -, -, locs, Y, -⟩ := X
  subst hp ho
  obtain ⟨s₂, o, hs, r⟩ := K
  exact ⟨s₂, o, Stand.ldc2J Y hx hown (mv hZ hw') rfl (hb hby hd) hs, r⟩
theorem ow_goto (X : oSt Z ω γ κ T h cs ss) (pc' : Nat) {o : Int} (hd : decode κ.1 pc = .ok (.goto o, 3)) (hp : (pc : Int) + o = (pc' : Int))
    (K : oWP ω γ κ Q T pc' L S) : oWP ω γ κ Q T pc L S := by
  obtain ⟨hx, hby, -, -, -, -, -, -, -, -, -, locs, Y, -⟩ := X
  obtain ⟨s₂, o, hs, r⟩ := K
  exact ⟨s₂, o, XS.goto Y.here hx rfl (pc0 := pc) rfl (hb hby hd) (by omega) (by omega) hs, r⟩
theorem ow_if (X : oSt Z ω γ κ T h cs ss) (pc' pq : Nat) {cd : ClassFile.Cond} {x : Int32} {o : Int} (hd : decode κ.1 pc = .ok (.ifCond cd o, 3)) (hp : pc + 3 = pc') (hq : (pc : Int) + o = (pq : Int))
    (Ky : ifCond.holds cd x = true → oWP ω γ κ Q T pq L S) (Kn : ifCond.holds cd x = false → oWP ω γ κ Q T pc' L S) : oWP ω γ κ Q T pc L (.int x :: S) := by
  obtain ⟨hx, hby, -, -, -, -, -, -, -, -, -, locs, Y, -⟩ := X
  subst hp
  cases hc : ifCond.holds cd x
  · obtain ⟨s₂, o, hs, r⟩ := Kn hc
    exact ⟨s₂, o, XS.ifNo Y.here hx rfl (hb hby hd) rfl hc hs, r⟩
  · obtain ⟨s₂, o, hs, r⟩ := Ky hc
    exact ⟨s₂, o, XS.ifYes Y.here hx rfl (pc0 := pc) rfl (hb hby hd) rfl hc (by omega) (by omega) hs, r⟩
theorem ow_icmp (X : oSt Z ω γ κ T h cs ss) (pc' pq : Nat) {cd : ClassFile.Cond} {x y : Int32} {o : Int} (hd : decode κ.1 pc = .ok (.if_icmp cd o, 3)) (hp : pc + 3 = pc') (hq : (pc : Int) + o = (pq : Int))
    (Ky : if_icmp.holds cd x y = true → oWP ω γ κ Q T pq L S) (Kn : if_icmp.holds cd x y = false → oWP ω γ κ Q T pc' L S) : oWP ω γ κ Q T pc L (.int y :: .int x :: S) := by
  obtain ⟨hx, hby, -, -, -, -, -, -, -, -, -, locs, Y, -⟩ := X
  subst hp
  cases hc : if_icmp.holds cd x y
  · obtain ⟨s₂, o, hs, r⟩ := Kn hc
    exact ⟨s₂, o, XS.icmpNo Y.here hx rfl (hb hby hd) rfl hc hs, r⟩
  · obtain ⟨s₂, o, hs, r⟩ := Ky hc
    exact ⟨s₂, o, XS.icmpYes Y.here hx rfl (pc0 := pc) rfl (hb hby hd) rfl hc (by omega) (by omega) hs, r⟩
theorem o0 : (0 : Int32).toInt = 0 := rfl
theorem ow_if_eq (X : oSt Z ω γ κ T h cs ss) (pc' pq : Nat) {x : Int32} {o : Int} (hd : decode κ.1 pc = .ok (.ifCond .eq o, 3)) (hp : pc + 3 = pc') (hq : (pc : Int) + o = (pq : Int))
    (Ky : x.toInt = 0 → oWP ω γ κ Q T pq L S) (Kn : x.toInt ≠ 0 → oWP ω γ κ Q T pc' L S) : oWP ω γ κ Q T pc L (.int x :: S) :=
  ow_if X pc' pq hd hp hq (fun q => Ky (by simp only [ifCond.holds, decide_eq_true_eq, decide_eq_false_iff_not, beq_iff_eq, bne_iff_ne, ne_eq, Int32.lt_iff_toInt_lt, Int32.le_iff_toInt_le, ← Int32.toInt_inj, o0, GT.gt, GE.ge, beq_eq_false_iff_ne, bne_eq_false_iff_eq, Decidable.not_not] at q; omega)) (fun q => Kn (by simp only [ifCond.holds, decide_eq_true_eq, decide_eq_false_iff_not, beq_iff_eq, bne_iff_ne, ne_eq, Int32.lt_iff_toInt_lt, Int32.le_iff_toInt_le, ← Int32.toInt_inj, o0, GT.gt, GE.ge, beq_eq_false_iff_ne, bne_eq_false_iff_eq, Decidable.not_not] at q; omega))
theorem ow_icmp_eq (X : oSt Z ω γ κ T h cs ss) (pc' pq : Nat) {x y : Int32} {o : Int} (hd : decode κ.1 pc = .ok (.if_icmp .eq o, 3)) (hp : pc + 3 = pc') (hq : (pc : Int) + o = (pq : Int))
    (Ky : x.toInt = y.toInt → oWP ω γ κ Q T pq L S) (Kn : x.toInt ≠ y.toInt → oWP ω γ κ Q T pc' L S) : oWP ω γ κ Q T pc L (.int y :: .int x :: S) :=
  ow_icmp X pc' pq hd hp hq (fun q => Ky (by simp only [if_icmp.holds, decide_eq_true_eq, decide_eq_false_iff_not, beq_iff_eq, bne_iff_ne, ne_eq, Int32.lt_iff_toInt_lt, Int32.le_iff_toInt_le, ← Int32.toInt_inj, o0, GT.gt, GE.ge, beq_eq_false_iff_ne, bne_eq_false_iff_eq, Decidable.not_not] at q; omega)) (fun q => Kn (by simp only [if_icmp.holds, decide_eq_true_eq, decide_eq_false_iff_not, beq_iff_eq, bne_iff_ne, ne_eq, Int32.lt_iff_toInt_lt, Int32.le_iff_toInt_le, ← Int32.toInt_inj, o0, GT.gt, GE.ge, beq_eq_false_iff_ne, bne_eq_false_iff_eq, Decidable.not_not] at q; omega))
theorem ow_if_ne (X : oSt Z ω γ κ T h cs ss) (pc' pq : Nat) {x : Int32} {o : Int} (hd : decode κ.1 pc = .ok (.ifCond .ne o, 3)) (hp : pc + 3 = pc') (hq : (pc : Int) + o = (pq : Int))
    (Ky : x.toInt ≠ 0 → oWP ω γ κ Q T pq L S) (Kn : x.toInt = 0 → oWP ω γ κ Q T pc' L S) : oWP ω γ κ Q T pc L (.int x :: S) :=
  ow_if X pc' pq hd hp hq (fun q => Ky (by simp only [ifCond.holds, decide_eq_true_eq, decide_eq_false_iff_not, beq_iff_eq, bne_iff_ne, ne_eq, Int32.lt_iff_toInt_lt, Int32.le_iff_toInt_le, ← Int32.toInt_inj, o0, GT.gt, GE.ge, beq_eq_false_iff_ne, bne_eq_false_iff_eq, Decidable.not_not] at q; omega)) (fun q => Kn (by simp only [ifCond.holds, decide_eq_true_eq, decide_eq_false_iff_not, beq_iff_eq, bne_iff_ne, ne_eq, Int32.lt_iff_toInt_lt, Int32.le_iff_toInt_le, ← Int32.toInt_inj, o0, GT.gt, GE.ge, beq_eq_false_iff_ne, bne_eq_false_iff_eq, Decidable.not_not] at q; omega))
theorem ow_icmp_ne (X : oSt Z ω γ κ T h cs ss) (pc' pq : Nat) {x y : Int32} {o : Int} (hd : decode κ.1 pc = .ok (.if_icmp .ne o, 3)) (hp : pc + 3 = pc') (hq : (pc : Int) + o = (pq : Int))
    (Ky : x.toInt ≠ y.toInt → oWP ω γ κ Q T pq L S) (Kn : x.toInt = y.toInt → oWP ω γ κ Q T pc' L S) : oWP ω γ κ Q T pc L (.int y :: .int x :: S) :=
  ow_icmp X pc' pq hd hp hq (fun q => Ky (by simp only [if_icmp.holds, decide_eq_true_eq, decide_eq_false_iff_not, beq_iff_eq, bne_iff_ne, ne_eq, Int32.lt_iff_toInt_lt, Int32.le_iff_toInt_le, ← Int32.toInt_inj, o0, GT.gt, GE.ge, beq_eq_false_iff_ne, bne_eq_false_iff_eq, Decidable.not_not] at q; omega)) (fun q => Kn (by simp only [if_icmp.holds, decide_eq_true_eq, decide_eq_false_iff_not, beq_iff_eq, bne_iff_ne, ne_eq, Int32.lt_iff_toInt_lt, Int32.le_iff_toInt_le, ← Int32.toInt_inj, o0, GT.gt, GE.ge, beq_eq_false_iff_ne, bne_eq_false_iff_eq, Decidable.not_not] at q; omega))
theorem ow_if_lt (X : oSt Z ω γ κ T h cs ss) (pc' pq : Nat) {x : Int32} {o : Int} (hd : decode κ.1 pc = .ok (.ifCond .lt o, 3)) (hp : pc + 3 = pc') (hq : (pc : Int) + o = (pq : Int))
    (Ky : x.toInt < 0 → oWP ω γ κ Q T pq L S) (Kn : 0 ≤ x.toInt → oWP ω γ κ Q T pc' L S) : oWP ω γ κ Q T pc L (.int x :: S) :=
  ow_if X pc' pq hd hp hq (fun q => Ky (by simp only [ifCond.holds, decide_eq_true_eq, decide_eq_false_iff_not, beq_iff_eq, bne_iff_ne, ne_eq, Int32.lt_iff_toInt_lt, Int32.le_iff_toInt_le, ← Int32.toInt_inj, o0, GT.gt, GE.ge, beq_eq_false_iff_ne, bne_eq_false_iff_eq, Decidable.not_not] at q; omega)) (fun q => Kn (by simp only [ifCond.holds, decide_eq_true_eq, decide_eq_false_iff_not, beq_iff_eq, bne_iff_ne, ne_eq, Int32.lt_iff_toInt_lt, Int32.le_iff_toInt_le, ← Int32.toInt_inj, o0, GT.gt, GE.ge, beq_eq_false_iff_ne, bne_eq_false_iff_eq, Decidable.not_not] at q; omega))
theorem ow_icmp_lt (X : oSt Z ω γ κ T h cs ss) (pc' pq : Nat) {x y : Int32} {o : Int} (hd : decode κ.1 pc = .ok (.if_icmp .lt o, 3)) (hp : pc + 3 = pc') (hq : (pc : Int) + o = (pq : Int))
    (Ky : x.toInt < y.toInt → oWP ω γ κ Q T pq L S) (Kn : y.toInt ≤ x.toInt → oWP ω γ κ Q T pc' L S) : oWP ω γ κ Q T pc L (.int y :: .int x :: S) :=
  ow_icmp X pc' pq hd hp hq (fun q => Ky (by simp only [if_icmp.holds, decide_eq_true_eq, decide_eq_false_iff_not, beq_iff_eq, bne_iff_ne, ne_eq, Int32.lt_iff_toInt_lt, Int32.le_iff_toInt_le, ← Int32.toInt_inj, o0, GT.gt, GE.ge, beq_eq_false_iff_ne, bne_eq_false_iff_eq, Decidable.not_not] at q; omega)) (fun q => Kn (by simp only [if_icmp.holds, decide_eq_true_eq, decide_eq_false_iff_not, beq_iff_eq, bne_iff_ne, ne_eq, Int32.lt_iff_toInt_lt, Int32.le_iff_toInt_le, ← Int32.toInt_inj, o0, GT.gt, GE.ge, beq_eq_false_iff_ne, bne_eq_false_iff_eq, Decidable.not_not] at q; omega))
theorem ow_if_ge (X : oSt Z ω γ κ T h cs ss) (pc' pq : Nat) {x : Int32} {o : Int} (hd : decode κ.1 pc = .ok (.ifCond .ge o, 3)) (hp : pc + 3 = pc') (hq : (pc : Int) + o = (pq : Int))
    (Ky : 0 ≤ x.toInt → oWP ω γ κ Q T pq L S) (Kn : x.toInt < 0 → oWP ω γ κ Q T pc' L S) : oWP ω γ κ Q T pc L (.int x :: S) :=
  ow_if X pc' pq hd hp hq (fun q => Ky (by simp only [ifCond.holds, decide_eq_true_eq, decide_eq_false_iff_not, beq_iff_eq, bne_iff_ne, ne_eq, Int32.lt_iff_toInt_lt, Int32.le_iff_toInt_le, ← Int32.toInt_inj, o0, GT.gt, GE.ge, beq_eq_false_iff_ne, bne_eq_false_iff_eq, Decidable.not_not] at q; omega)) (fun q => Kn (by simp only [ifCond.holds, decide_eq_true_eq, decide_eq_false_iff_not, beq_iff_eq, bne_iff_ne, ne_eq, Int32.lt_iff_toInt_lt, Int32.le_iff_toInt_le, ← Int32.toInt_inj, o0, GT.gt, GE.ge, beq_eq_false_iff_ne, bne_eq_false_iff_eq, Decidable.not_not] at q; omega))
theorem ow_icmp_ge (X : oSt Z ω γ κ T h cs ss) (pc' pq : Nat) {x y : Int32} {o : Int} (hd : decode κ.1 pc = .ok (.if_icmp .ge o, 3)) (hp : pc + 3 = pc') (hq : (pc : Int) + o = (pq : Int))
    (Ky : y.toInt ≤ x.toInt → oWP ω γ κ Q T pq L S) (Kn : x.toInt < y.toInt → oWP ω γ κ Q T pc' L S) : oWP ω γ κ Q T pc L (.int y :: .int x :: S) :=
  ow_icmp X pc' pq hd hp hq (fun q => Ky (by simp only [if_icmp.holds, decide_eq_true_eq, decide_eq_false_iff_not, beq_iff_eq, bne_iff_ne, ne_eq, Int32.lt_iff_toInt_lt, Int32.le_iff_toInt_le, ← Int32.toInt_inj, o0, GT.gt, GE.ge, beq_eq_false_iff_ne, bne_eq_false_iff_eq, Decidable.not_not] at q; omega)) (fun q => Kn (by simp only [if_icmp.holds, decide_eq_true_eq, decide_eq_false_iff_not, beq_iff_eq, bne_iff_ne, ne_eq, Int32.lt_iff_toInt_lt, Int32.le_iff_toInt_le, ← Int32.toInt_inj, o0, GT.gt, GE.ge, beq_eq_false_iff_ne, bne_eq_false_iff_eq, Decidable.not_not] at q; omega))
theorem ow_if_gt (X : oSt Z ω γ κ T h cs ss) (pc' pq : Nat) {x : Int32} {o : Int} (hd : decode κ.1 pc = .ok (.ifCond .gt o, 3)) (hp : pc + 3 = pc') (hq : (pc : Int) + o = (pq : Int))
    (Ky : 0 < x.toInt → oWP ω γ κ Q T pq L S) (Kn : x.toInt ≤ 0 → oWP ω γ κ Q T pc' L S) : oWP ω γ κ Q T pc L (.int x :: S) :=
  ow_if X pc' pq hd hp hq (fun q => Ky (by simp only [ifCond.holds, decide_eq_true_eq, decide_eq_false_iff_not, beq_iff_eq, bne_iff_ne, ne_eq, Int32.lt_iff_toInt_lt, Int32.le_iff_toInt_le, ← Int32.toInt_inj, o0, GT.gt, GE.ge, beq_eq_false_iff_ne, bne_eq_false_iff_eq, Decidable.not_not] at q; omega)) (fun q => Kn (by simp only [ifCond.holds, decide_eq_true_eq, decide_eq_false_iff_not, beq_iff_eq, bne_iff_ne, ne_eq, Int32.lt_iff_toInt_lt, Int32.le_iff_toInt_le, ← Int32.toInt_inj, o0, GT.gt, GE.ge, beq_eq_false_iff_ne, bne_eq_false_iff_eq, Decidable.not_not] at q; omega))
theorem ow_icmp_gt (X : oSt Z ω γ κ T h cs ss) (pc' pq : Nat) {x y : Int32} {o : Int} (hd : decode κ.1 pc = .ok (.if_icmp .gt o, 3)) (hp : pc + 3 = pc') (hq : (pc : Int) + o = (pq : Int))
    (Ky : y.toInt < x.toInt → oWP ω γ κ Q T pq L S) (Kn : x.toInt ≤ y.toInt → oWP ω γ κ Q T pc' L S) : oWP ω γ κ Q T pc L (.int y :: .int x :: S) :=
  ow_icmp X pc' pq hd hp hq (fun q => Ky (by simp only [if_icmp.holds, decide_eq_true_eq, decide_eq_false_iff_not, beq_iff_eq, bne_iff_ne, ne_eq, Int32.lt_iff_toInt_lt, Int32.le_iff_toInt_le, ← Int32.toInt_inj, o0, GT.gt, GE.ge, beq_eq_false_iff_ne, bne_eq_false_iff_eq, Decidable.not_not] at q; omega)) (fun q => Kn (by simp only [if_icmp.holds, decide_eq_true_eq, decide_eq_false_iff_not, beq_iff_eq, bne_iff_ne, ne_eq, Int32.lt_iff_toInt_lt, Int32.le_iff_toInt_le, ← Int32.toInt_inj, o0, GT.gt, GE.ge, beq_eq_false_iff_ne, bne_eq_false_iff_eq, Decidable.not_not] at q; omega))
theorem ow_if_le (X : oSt Z ω γ κ T h cs ss) (pc' pq : Nat) {x : Int32} {o : Int} (hd : decode κ.1 pc = .ok (.ifCond .le o, 3)) (hp : pc + 3 = pc') (hq : (pc : Int) + o = (pq : Int))
    (Ky : x.toInt ≤ 0 → oWP ω γ κ Q T pq L S) (Kn : 0 < x.toInt → oWP ω γ κ Q T pc' L S) : oWP ω γ κ Q T pc L (.int x :: S) :=
  ow_if X pc' pq hd hp hq (fun q => Ky (by simp only [ifCond.holds, decide_eq_true_eq, decide_eq_false_iff_not, beq_iff_eq, bne_iff_ne, ne_eq, Int32.lt_iff_toInt_lt, Int32.le_iff_toInt_le, ← Int32.toInt_inj, o0, GT.gt, GE.ge, beq_eq_false_iff_ne, bne_eq_false_iff_eq, Decidable.not_not] at q; omega)) (fun q => Kn (by simp only [ifCond.holds, decide_eq_true_eq, decide_eq_false_iff_not, beq_iff_eq, bne_iff_ne, ne_eq, Int32.lt_iff_toInt_lt, Int32.le_iff_toInt_le, ← Int32.toInt_inj, o0, GT.gt, GE.ge, beq_eq_false_iff_ne, bne_eq_false_iff_eq, Decidable.not_not] at q; omega))
theorem ow_icmp_le (X : oSt Z ω γ κ T h cs ss) (pc' pq : Nat) {x y : Int32} {o : Int} (hd : decode κ.1 pc = .ok (.if_icmp .le o, 3)) (hp : pc + 3 = pc') (hq : (pc : Int) + o = (pq : Int))
    (Ky : x.toInt ≤ y.toInt → oWP ω γ κ Q T pq L S) (Kn : y.toInt < x.toInt → oWP ω γ κ Q T pc' L S) : oWP ω γ κ Q T pc L (.int y :: .int x :: S) :=
  ow_icmp X pc' pq hd hp hq (fun q => Ky (by simp only [if_icmp.holds, decide_eq_true_eq, decide_eq_false_iff_not, beq_iff_eq, bne_iff_ne, ne_eq, Int32.lt_iff_toInt_lt, Int32.le_iff_toInt_le, ← Int32.toInt_inj, o0, GT.gt, GE.ge, beq_eq_false_iff_ne, bne_eq_false_iff_eq, Decidable.not_not] at q; omega)) (fun q => Kn (by simp only [if_icmp.holds, decide_eq_true_eq, decide_eq_false_iff_not, beq_iff_eq, bne_iff_ne, ne_eq, Int32.lt_iff_toInt_lt, Int32.le_iff_toInt_le, ← Int32.toInt_inj, o0, GT.gt, GE.ge, beq_eq_false_iff_ne, bne_eq_false_iff_eq, Decidable.not_not] at q; omega))
theorem ow_lcmp (X : oSt Z ω γ κ T h cs ss) (pc' : Nat) {x y : Int64} (hd : decode κ.1 pc = .ok (.lcmp, 1)) (hp : pc + 1 = pc')
    (K : oWP ω γ κ Q T pc' L (.int (lcmpW x y) :: S)) : oWP ω γ κ Q T pc L (.long y :: .long x :: S) := by
  obtain ⟨hx, hby, -, -, -, -, -, -, -, -, -, locs, Y, -⟩ := X
  subst hp
  obtain ⟨s₂, o, hs, r⟩ := K
  exact ⟨s₂, o, XS.lcmp Y.here hx rfl (hb hby hd) rfl hs, r⟩
theorem ow_lcmp_eq (X : oSt Z ω γ κ T h cs ss) (pc1 pc' pq : Nat) {x y : Int64} {o : Int} (hd : decode κ.1 pc = .ok (.lcmp, 1)) (hp1 : pc + 1 = pc1) (hd' : decode κ.1 pc1 = .ok (.ifCond .eq o, 3)) (hp : pc1 + 3 = pc') (hq : (pc1 : Int) + o = (pq : Int))
    (Ky : x.toInt = y.toInt → oWP ω γ κ Q T pq L S) (Kn : x.toInt ≠ y.toInt → oWP ω γ κ Q T pc' L S) : oWP ω γ κ Q T pc L (.long y :: .long x :: S) := by
  refine ow_lcmp X pc1 hd hp1 (ow_if_eq X pc' pq hd' hp hq (fun q => Ky ?_) (fun q => Kn ?_))
  · obtain ⟨c1, c2, c3⟩ := c_lcmp x y
    rcases Int.lt_trichotomy x.toInt y.toInt with a | a | a
    · have := c1 a; omega
    · have := c2 a; omega
    · have := c3 a; omega
  · obtain ⟨c1, c2, c3⟩ := c_lcmp x y
    rcases Int.lt_trichotomy x.toInt y.toInt with a | a | a
    · have := c1 a; omega
    · have := c2 a; omega
    · have := c3 a; omega
theorem ow_lcmp_ne (X : oSt Z ω γ κ T h cs ss) (pc1 pc' pq : Nat) {x y : Int64} {o : Int} (hd : decode κ.1 pc = .ok (.lcmp, 1)) (hp1 : pc + 1 = pc1) (hd' : decode κ.1 pc1 = .ok (.ifCond .ne o, 3)) (hp : pc1 + 3 = pc') (hq : (pc1 : Int) + o = (pq : Int))
    (Ky : x.toInt ≠ y.toInt → oWP ω γ κ Q T pq L S) (Kn : x.toInt = y.toInt → oWP ω γ κ Q T pc' L S) : oWP ω γ κ Q T pc L (.long y :: .long x :: S) := by
  refine ow_lcmp X pc1 hd hp1 (ow_if_ne X pc' pq hd' hp hq (fun q => Ky ?_) (fun q => Kn ?_))
  · obtain ⟨c1, c2, c3⟩ := c_lcmp x y
    rcases Int.lt_trichotomy x.toInt y.toInt with a | a | a
    · have := c1 a; omega
    · have := c2 a; omega
    · have := c3 a; omega
  · obtain ⟨c1, c2, c3⟩ := c_lcmp x y
    rcases Int.lt_trichotomy x.toInt y.toInt with a | a | a
    · have := c1 a; omega
    · have := c2 a; omega
    · have := c3 a; omega
theorem ow_lcmp_lt (X : oSt Z ω γ κ T h cs ss) (pc1 pc' pq : Nat) {x y : Int64} {o : Int} (hd : decode κ.1 pc = .ok (.lcmp, 1)) (hp1 : pc + 1 = pc1) (hd' : decode κ.1 pc1 = .ok (.ifCond .lt o, 3)) (hp : pc1 + 3 = pc') (hq : (pc1 : Int) + o = (pq : Int))
    (Ky : x.toInt < y.toInt → oWP ω γ κ Q T pq L S) (Kn : y.toInt ≤ x.toInt → oWP ω γ κ Q T pc' L S) : oWP ω γ κ Q T pc L (.long y :: .long x :: S) := by
  refine ow_lcmp X pc1 hd hp1 (ow_if_lt X pc' pq hd' hp hq (fun q => Ky ?_) (fun q => Kn ?_))
  · obtain ⟨c1, c2, c3⟩ := c_lcmp x y
    rcases Int.lt_trichotomy x.toInt y.toInt with a | a | a
    · have := c1 a; omega
    · have := c2 a; omega
    · have := c3 a; omega
  · obtain ⟨c1, c2, c3⟩ := c_lcmp x y
    rcases Int.lt_trichotomy x.toInt y.toInt with a | a | a
    · have := c1 a; omega
    · have := c2 a; omega
    · have := c3 a; omega
theorem ow_lcmp_ge (X : oSt Z ω γ κ T h cs ss) (pc1 pc' pq : Nat) {x y : Int64} {o : Int} (hd : decode κ.1 pc = .ok (.lcmp, 1)) (hp1 : pc + 1 = pc1) (hd' : decode κ.1 pc1 = .ok (.ifCond .ge o, 3)) (hp : pc1 + 3 = pc') (hq : (pc1 : Int) + o = (pq : Int))
    (Ky : y.toInt ≤ x.toInt → oWP ω γ κ Q T pq L S) (Kn : x.toInt < y.toInt → oWP ω γ κ Q T pc' L S) : oWP ω γ κ Q T pc L (.long y :: .long x :: S) := by
  refine ow_lcmp X pc1 hd hp1 (ow_if_ge X pc' pq hd' hp hq (fun q => Ky ?_) (fun q => Kn ?_))
  · obtain ⟨c1, c2, c3⟩ := c_lcmp x y
    rcases Int.lt_trichotomy x.toInt y.toInt with a | a | a
    · have := c1 a; omega
    · have := c2 a; omega
    · have := c3 a; omega
  · obtain ⟨c1, c2, c3⟩ := c_lcmp x y
    rcases Int.lt_trichotomy x.toInt y.toInt with a | a | a
    · have := c1 a; omega
    · have := c2 a; omega
    · have := c3 a; omega
theorem ow_lcmp_gt (X : oSt Z ω γ κ T h cs ss) (pc1 pc' pq : Nat) {x y : Int64} {o : Int} (hd : decode κ.1 pc = .ok (.lcmp, 1)) (hp1 : pc + 1 = pc1) (hd' : decode κ.1 pc1 = .ok (.ifCond .gt o, 3)) (hp : pc1 + 3 = pc') (hq : (pc1 : Int) + o = (pq : Int))
    (Ky : y.toInt < x.toInt → oWP ω γ κ Q T pq L S) (Kn : x.toInt ≤ y.toInt → oWP ω γ κ Q T pc' L S) : oWP ω γ κ Q T pc L (.long y :: .long x :: S) := by
  refine ow_lcmp X pc1 hd hp1 (ow_if_gt X pc' pq hd' hp hq (fun q => Ky ?_) (fun q => Kn ?_))
  · obtain ⟨c1, c2, c3⟩ := c_lcmp x y
    rcases Int.lt_trichotomy x.toInt y.toInt with a | a | a
    · have := c1 a; omega
    · have := c2 a; omega
    · have := c3 a; omega
  · obtain ⟨c1, c2, c3⟩ := c_lcmp x y
    rcases Int.lt_trichotomy x.toInt y.toInt with a | a | a
    · have := c1 a; omega
    · have := c2 a; omega
    · have := c3 a; omega
theorem ow_lcmp_le (X : oSt Z ω γ κ T h cs ss) (pc1 pc' pq : Nat) {x y : Int64} {o : Int} (hd : decode κ.1 pc = .ok (.lcmp, 1)) (hp1 : pc + 1 = pc1) (hd' : decode κ.1 pc1 = .ok (.ifCond .le o, 3)) (hp : pc1 + 3 = pc') (hq : (pc1 : Int) + o = (pq : Int))
    (Ky : x.toInt ≤ y.toInt → oWP ω γ κ Q T pq L S) (Kn : y.toInt < x.toInt → oWP ω γ κ Q T pc' L S) : oWP ω γ κ Q T pc L (.long y :: .long x :: S) := by
  refine ow_lcmp X pc1 hd hp1 (ow_if_le X pc' pq hd' hp hq (fun q => Ky ?_) (fun q => Kn ?_))
  · obtain ⟨c1, c2, c3⟩ := c_lcmp x y
    rcases Int.lt_trichotomy x.toInt y.toInt with a | a | a
    · have := c1 a; omega
    · have := c2 a; omega
    · have := c3 a; omega
  · obtain ⟨c1, c2, c3⟩ := c_lcmp x y
    rcases Int.lt_trichotomy x.toInt y.toInt with a | a | a
    · have := c1 a; omega
    · have := c2 a; omega
    · have := c3 a; omega
theorem ow_ifnull (X : oSt Z ω γ κ T h cs ss) (pc' pq : Nat) {v : Value} {o : Int} (hv : v.isRef = true) (hd : decode κ.1 pc = .ok (.ifnull o, 3)) (hp : pc + 3 = pc') (hq : (pc : Int) + o = (pq : Int))
    (Ky : v = .null → oWP ω γ κ Q T pq L S) (Kn : v ≠ .null → oWP ω γ κ Q T pc' L S) : oWP ω γ κ Q T pc L (v :: S) := by
  obtain ⟨hx, hby, -, -, -, -, -, -, -, -, -, locs, Y, -⟩ := X
  subst hp
  rcases ref_cases hv with rfl | ⟨a, rfl⟩
  · obtain ⟨s₂, o, hs, r⟩ := Ky rfl
    exact ⟨s₂, o, XS.ifnullYes Y.here hx rfl (pc0 := pc) rfl (hb hby hd) rfl (by omega) (by omega) hs, r⟩
  · obtain ⟨s₂, o, hs, r⟩ := Kn (by simp)
    exact ⟨s₂, o, XS.ifnullNo Y.here hx rfl (hb hby hd) rfl hs, r⟩
theorem ow_ifnonnull (X : oSt Z ω γ κ T h cs ss) (pc' pq : Nat) {v : Value} {o : Int} (hv : v.isRef = true) (hd : decode κ.1 pc = .ok (.ifnonnull o, 3)) (hp : pc + 3 = pc') (hq : (pc : Int) + o = (pq : Int))
    (Ky : v ≠ .null → oWP ω γ κ Q T pq L S) (Kn : v = .null → oWP ω γ κ Q T pc' L S) : oWP ω γ κ Q T pc L (v :: S) := by
  obtain ⟨hx, hby, -, -, -, -, -, -, -, -, -, locs, Y, -⟩ := X
  subst hp
  rcases ref_cases hv with rfl | ⟨a, rfl⟩
  · obtain ⟨s₂, o, hs, r⟩ := Kn rfl
    exact ⟨s₂, o, XS.ifnonnullNo Y.here hx rfl (hb hby hd) rfl hs, r⟩
  · obtain ⟨s₂, o, hs, r⟩ := Ky (by simp)
    exact ⟨s₂, o, XS.ifnonnullYes Y.here hx rfl (pc0 := pc) rfl (hb hby hd) rfl (by omega) (by omega) hs, r⟩
theorem ow_acmp_eq (X : oSt Z ω γ κ T h cs ss) (pc' pq : Nat) {v w : Value} {o : Int} (hv : v.isRef = true) (hw : w.isRef = true) (hd : decode κ.1 pc = .ok (.if_acmp .eq o, 3)) (hp : pc + 3 = pc') (hq : (pc : Int) + o = (pq : Int))
    (Ky : v = w → oWP ω γ κ Q T pq L S) (Kn : v ≠ w → oWP ω γ κ Q T pc' L S) : oWP ω γ κ Q T pc L (w :: v :: S) := by
  obtain ⟨hx, hby, -, -, -, -, -, -, -, -, -, locs, Y, -⟩ := X
  subst hp
  by_cases e : v = w
  · obtain ⟨s₂, o, hs, r⟩ := Ky e
    exact ⟨s₂, o, RoadKit.acmp Y hx rfl hv hw (pc0 := pc) rfl (hb hby hd) rfl (same := true) (by simp [e]) (by omega) (by simp [acV]; omega) hs, r⟩
  · obtain ⟨s₂, o, hs, r⟩ := Kn e
    exact ⟨s₂, o, RoadKit.acmp Y hx rfl hv hw (pc0 := pc) rfl (hb hby hd) rfl (same := false) (by simp [e]) (by omega) (by simp [acV]) hs, r⟩
theorem ow_acmp_ne (X : oSt Z ω γ κ T h cs ss) (pc' pq : Nat) {v w : Value} {o : Int} (hv : v.isRef = true) (hw : w.isRef = true) (hd : decode κ.1 pc = .ok (.if_acmp .ne o, 3)) (hp : pc + 3 = pc') (hq : (pc : Int) + o = (pq : Int))
    (Ky : v ≠ w → oWP ω γ κ Q T pq L S) (Kn : v = w → oWP ω γ κ Q T pc' L S) : oWP ω γ κ Q T pc L (w :: v :: S) := by
  obtain ⟨hx, hby, -, -, -, -, -, -, -, -, -, locs, Y, -⟩ := X
  subst hp
  by_cases e : v = w
  · obtain ⟨s₂, o, hs, r⟩ := Kn e
    exact ⟨s₂, o, RoadKit.acmp Y hx rfl hv hw (pc0 := pc) rfl (hb hby hd) rfl (same := true) (by simp [e]) (by omega) (by simp [acV]) hs, r⟩
  · obtain ⟨s₂, o, hs, r⟩ := Ky e
    exact ⟨s₂, o, RoadKit.acmp Y hx rfl hv hw (pc0 := pc) rfl (hb hby hd) rfl (same := false) (by simp [e]) (by omega) (by simp [acV]; omega) hs, r⟩
theorem ow_ret (X : oSt Z ω γ κ T h cs ss) {w : Value} {t : FieldType} {i : Instr} (hret : κ.2.2.2.2.1 = some t) (hn : narrow t w = w)
    (hi : (i = .ireturn ∧ (t = .int ∨ t = .boolean ∨ t = .byte ∨ t = .char ∨ t = .short) ∧ ∃ z, w = .int z) ∨ (i = .lreturn ∧ t = .long ∧ ∃ z, w = .long z) ∨ (i = .dreturn ∧ t = .double ∧ ∃ z, w = .double z) ∨ (i = .freturn ∧ t = .float ∧ ∃ z, w = .float z) ∨ (i = .areturn ∧ t.isReference = true ∧ w.isRef = true))
    (hd : decode κ.1 pc = .ok (i, 1)) (hc : cs ≤ κ.2.2.2.2.2.cells) (hsl : ss ≤ κ.2.2.2.2.2.slots) (hQ : Q (some w) h) : oWP ω γ κ Q T pc L (w :: S) := by
  obtain ⟨hx, hby, -, -, -, hr, hlk, -, -, -, hT, locs, Y, N⟩ := X
  obtain ⟨fs, hl, hrun, hended, hW, hsame⟩ := Y.leave (v := some w) (fun q => by rw [hr, hret] at q; cases q) hlk
  refine ⟨_, _, retOut Y hx (hr.trans hret) hn hi (hb hby hd) hl, hrun, hended, _, locs, rfl, ⟨N, ?_⟩, ⟨_, rfl⟩, hW, hsame.mono hc hsl⟩
  show Q (some w) T.heap
  rw [hT]; exact hQ
theorem ow_retI (X : oSt Z ω γ κ T h cs ss) {z : Int32} (hret : κ.2.2.2.2.1 = some .int) (hd : decode κ.1 pc = .ok (.ireturn, 1)) (hc : cs ≤ κ.2.2.2.2.2.cells) (hsl : ss ≤ κ.2.2.2.2.2.slots) (hQ : Q (some (.int z)) h) : oWP ω γ κ Q T pc L (.int z :: S) :=
  ow_ret X hret rfl (Or.inl ⟨rfl, Or.inl rfl, z, rfl⟩) hd hc hsl hQ
theorem ow_retZ (X : oSt Z ω γ κ T h cs ss) {z : Int32} (hret : κ.2.2.2.2.1 = some .boolean) (hd : decode κ.1 pc = .ok (.ireturn, 1)) (hc : cs ≤ κ.2.2.2.2.2.cells) (hsl : ss ≤ κ.2.2.2.2.2.slots) (hz : z = 0 ∨ z = 1) (hQ : Q (some (.int z)) h) : oWP ω γ κ Q T pc L (.int z :: S) :=
  ow_ret X hret (by rcases hz with rfl | rfl <;> rfl) (Or.inl ⟨rfl, Or.inr (Or.inl rfl), z, rfl⟩) hd hc hsl hQ
theorem ow_retC (X : oSt Z ω γ κ T h cs ss) {z : Int32} (hret : κ.2.2.2.2.1 = some .char) (hd : decode κ.1 pc = .ok (.ireturn, 1)) (hc : cs ≤ κ.2.2.2.2.2.cells) (hsl : ss ≤ κ.2.2.2.2.2.slots) (hz : z.toUInt32.toUInt16.toUInt32.toInt32 = z) (hQ : Q (some (.int z)) h) : oWP ω γ κ Q T pc L (.int z :: S) :=
  ow_ret X hret (by show Value.int z.toUInt32.toUInt16.toUInt32.toInt32 = _; rw [hz]) (Or.inl ⟨rfl, Or.inr (Or.inr (Or.inr (Or.inl rfl))), z, rfl⟩) hd hc hsl hQ
theorem ow_retJ (X : oSt Z ω γ κ T h cs ss) {z : Int64} (hret : κ.2.2.2.2.1 = some .long) (hd : decode κ.1 pc = .ok (.lreturn, 1)) (hc : cs ≤ κ.2.2.2.2.2.cells) (hsl : ss ≤ κ.2.2.2.2.2.slots) (hQ : Q (some (.long z)) h) : oWP ω γ κ Q T pc L (.long z :: S) :=
  ow_ret X hret rfl (Or.inr (Or.inl ⟨rfl, rfl, z, rfl⟩)) hd hc hsl hQ
theorem ow_retA (X : oSt Z ω γ κ T h cs ss) {v : Value} {t : FieldType} (hret : κ.2.2.2.2.1 = some t) (ht : t.isReference = true) (hv : v.isRef = true) (hd : decode κ.1 pc = .ok (.areturn, 1)) (hc : cs ≤ κ.2.2.2.2.2.cells) (hsl : ss ≤ κ.2.2.2.2.2.slots) (hQ : Q (some v) h) : oWP ω γ κ Q T pc L (v :: S) :=
  ow_ret X hret (by cases t <;> first | rfl | cases ht) (Or.inr (Or.inr (Or.inr (Or.inr ⟨rfl, ht, hv⟩)))) hd hc hsl hQ
theorem ow_retV (X : oSt Z ω γ κ T h cs ss) (hret : κ.2.2.2.2.1 = none) (hd : decode κ.1 pc = .ok (.return_, 1)) (hc : cs ≤ κ.2.2.2.2.2.cells) (hsl : ss ≤ κ.2.2.2.2.2.slots) (hQ : Q none h) : oWP ω γ κ Q T pc L [] := by
  obtain ⟨hx, hby, -, -, -, hr, hlk, -, -, -, hT, locs, Y, N⟩ := X
  obtain ⟨fs, hl, hrun, hended, hW, hsame⟩ := Y.leave (v := none) (fun _ => rfl) hlk
  refine ⟨_, _, Y.returnOut hx (hr.trans hret) (hb hby hd) hl, hrun, hended, _, locs, rfl, ⟨N, ?_⟩, ⟨_, rfl⟩, hW, hsame.mono hc hsl⟩
  show Q none T.heap
  rw [hT]; exact hQ
theorem ow_getF (X : oSt Z ω γ κ T h cs ss) (pc' i : Nat) {own O n d : String} {idx : Nat} {a : Addr} {v : Value} (hw : tables_1[i]? = some (.fieldLink own idx O n d)) (ho : κ.2.2.1 = own) (F : Fld Z h a O n d v) (hd : decode κ.1 pc = .ok (.getfield idx, 3)) (hp : pc + 3 = pc')
    (K : ∀ T', oSt Z ω γ κ T' h cs ss → oWP ω γ κ Q T' pc' L (v :: S)) : oWP ω γ κ Q T pc L (.ref a :: S) := by
  have hw' := oSt_at X i hw
  obtain ⟨hx, hby, hml, hown, hnm, hr, hlk, hZ, hT1, hn0, hT, locs, Y, N⟩ := X
  subst hp ho
  obtain ⟨T', Y', e', st⟩ := getF Y hx hZ hown (host := "") (Or.inl hw') Via.refl hT F (g := mkF γ.2.2.2.1 pc L (.ref a :: S)) rfl rfl (hb hby hd)
  obtain ⟨s₂, o, hs, r⟩ := K T' ⟨hx, hby, hml, hown, hnm, hr, hlk, hZ, hT1, hn0, e', locs, Y', N⟩
  exact ⟨s₂, o, st _ hs, r⟩
theorem ow_getS (X : oSt Z ω γ κ T h cs ss) (pc' i : Nat) {own O n d : String} {idx : Nat} {v : Value} (hw : tables_1[i]? = some (.fieldLink own idx O n d)) (ho : κ.2.2.1 = own) (F : Sta Z h O n d v) (hd : decode κ.1 pc = .ok (.getstatic idx, 3)) (hp : pc + 3 = pc')
    (K : ∀ T', oSt Z ω γ κ T' h cs ss → oWP ω γ κ Q T' pc' L (v :: S)) : oWP ω γ κ Q T pc L S := by
  have hw' := oSt_at X i hw
  obtain ⟨hx, hby, hml, hown, hnm, hr, hlk, hZ, hT1, hn0, hT, locs, Y, N⟩ := X
  subst hp ho
  obtain ⟨T', Y', e', st⟩ := getS Y hx hZ hown hw' Via.refl hT F (g := mkF γ.2.2.2.1 pc L S) rfl (hb hby hd) (host := "")
  obtain ⟨s₂, o, hs, r⟩ := K T' ⟨hx, hby, hml, hown, hnm, hr, hlk, hZ, hT1, hn0, e', locs, Y', N⟩
  exact ⟨s₂, o, st _ hs, r⟩
theorem ow_putF (X : oSt Z ω γ κ T h cs ss) (pc' i k : Nat) {own O n d C : String} {idx kk : Nat} {a : Addr} {v old : Value} {ty : FieldType} (hw : tables_1[i]? = some (.fieldLink own idx O n d)) (ho : κ.2.2.1 = own) (F : Fld Z h a O n d old) (E : Exa Z h a C)
    (hl : (Jvm.Cond.lays C O n d).before ω.2.2 Z = true ∨ ((Jvm.Cond.laysFinal C O n d).before ω.2.2 Z = true ∧ κ.2.2.1 = O ∧ κ.2.2.2.1 = "<init>")) (hi : tables_1[k]? = some (.instantiable C kk)) (hty : parseFieldDescriptor d = some ty) (hn : narrow ty v = v) (hf : fits ty v = true) (ha : ω.2.1 ≤ a)
    (hd : decode κ.1 pc = .ok (.putfield idx, 3)) (hp : pc + 3 = pc')
    (K : ∀ T' h', oSt Z ω γ κ T' h' cs ss → Wr h h' a (RoadKit.slotOf Z O n d) v → oWP ω γ κ Q T' pc' L S) : oWP ω γ κ Q T pc L (v :: .ref a :: S) := by
  have hw' := oSt_at X i hw
  have hi' := oSt_at X k hi
  obtain ⟨hx, hby, hml, hown, hnm, hr, hlk, hZ, hT1, hn0, hT, locs, Y, N⟩ := X
  subst hp ho
  obtain ⟨T', h', Y', e', W, st⟩ := putF Y hx hZ hown (host := "") (Or.inl hw') Via.refl hT F E (hl.imp id fun q => ⟨q.1, q.2.1, hnm.trans q.2.2⟩) hi' hty hn hf (g := mkF γ.2.2.2.1 pc L (v :: .ref a :: S)) rfl rfl (hb hby hd)
  obtain ⟨s₂, o, hs, r⟩ := K T' h' ⟨hx, hby, hml, hown, hnm, hr, hlk, hZ, hT1, hn0, e', _, Y', Fr.snoc Y' N ha⟩ W
  exact ⟨s₂, o, st _ hs, r⟩
theorem ow_new (X : oSt Z ω γ κ T h cs ss) (pc' i1 i2 i3 : Nat) {own C : String} {idx n : Nat} (w1 : tables_1[i1]? = some (.classLink own idx C)) (ho : κ.2.2.1 = own) (w2 : tables_1[i2]? = some (.instantiable C n)) (w3 : tables_1[i3]? = some (.initialized C))
    (hd : decode κ.1 pc = .ok (.new idx, 3)) (hp : pc + 3 = pc') (hc : cs + 1 ≤ κ.2.2.2.2.2.cells) (hsl : ss + n ≤ κ.2.2.2.2.2.slots)
    (K : ∀ T' h' a, a = h.size → oSt Z ω γ κ T' h' (cs + 1) (ss + n) → Ext h h' → Exa Z h' a C → (∀ {O nm d : String} {ty : FieldType}, Laid Z ω.2.2 C O nm d → parseFieldDescriptor d = some ty → Fld Z h' a O nm d (defaultValue ty)) → ω.2.1 ≤ a → oWP ω γ κ Q T' pc' L (.ref a :: S)) : oWP ω γ κ Q T pc L S := by
  have w1' := oSt_at X i1 w1
  have w2' := oSt_at X i2 w2
  have w3' := oSt_at X i3 w3
  have hN := oSt_n0 X
  obtain ⟨hx, hby, hml, hown, hnm, hr, hlk, hZ, hT1, hn0, hT, locs, Y, N⟩ := X
  subst hp ho
  obtain ⟨T', h', Y', e', E, A, D, -, st⟩ := newO Y hx hZ hown w1' w2' w3' hT (g := mkF γ.2.2.2.1 pc L S) rfl (hb hby hd) hc hsl
  obtain ⟨s₂, o, hs, r⟩ := K T' h' h.size rfl ⟨hx, hby, hml, hown, hnm, hr, hlk, hZ, hT1, hn0, e', _, Y', N⟩ E A D hN
  exact ⟨s₂, o, st _ hs, r⟩
theorem ow_initO (X : oSt Z ω γ κ T h cs ss) (pc' i1 i2 i3 : Nat) {own : String} {idx : Nat} {a : Addr} (w1 : tables_1[i1]? = some (.methodLink own idx Lib.objectInit)) (ho : κ.2.2.1 = own) (w2 : tables_1[i2]? = some (.instanceMethod Lib.objectInit)) (w3 : tables_1[i3]? = some (.code Lib.objectInit ⟨#[0xb1]⟩ 1 none))
    (hd : decode κ.1 pc = .ok (.invokespecial idx, 3)) (hp : pc + 3 = pc') (hL : L.size = κ.2.1) (hf : 1 ≤ κ.2.2.2.2.2.frames) {W : Nat} (hW : (S.map fun v => v.category).sum ≤ W) (hl : W + 12 ≤ κ.2.2.2.2.2.locals)
    (K : ∀ T', oSt Z ω γ κ T' h cs ss → oWP ω γ κ Q T' pc' L S) : oWP ω γ κ Q T pc L (.ref a :: S) := by
  have w1' := oSt_at X i1 w1
  have w2' := oSt_at X i2 w2
  have w3' := oSt_at X i3 w3
  obtain ⟨hx, hby, hml, hown, hnm, hr, hlk, hZ, hT1, hn0, hT, locs, Y, N⟩ := X
  subst hp ho
  obtain ⟨T', Y', e', st⟩ := initO Y hx hZ hown w1' w2' w3' hT (g := mkF γ.2.2.2.1 pc L (.ref a :: S)) rfl (by rw [hml]; exact hL) rfl (hb hby hd) hf (W := W) (by show 2 * 0 + _ ≤ _; omega) hl
  obtain ⟨s₂, o, hs, r⟩ := K T' ⟨hx, hby, hml, hown, hnm, hr, hlk, hZ, hT1, hn0, e', _, Y', N⟩
  exact ⟨s₂, o, st _ hs, r⟩
theorem ow_callS (X : oSt Z ω γ κ T h cs ss) (pc' i1 i2 i3 i4 : Nat) {own : String} {idx : Nat} {y : MethodName} {κ' : OM} {Q' : Option Value → Heap → Prop} {as : List Value} {ps : List FieldType} {rt : Option FieldType} {W : Nat} {S0 : List Value}
    (w1 : tables_1[i1]? = some (.methodLink own idx y)) (ho : κ.2.2.1 = own) (w2 : tables_1[i2]? = some (.static y)) (w3 : tables_1[i3]? = some (.initialized y.cls)) (w4 : tables_1[i4]? = some (.code y κ'.1 κ'.2.1 κ'.2.2.2.2.1)) (hy : y.cls ≠ "java/lang/invoke/MethodHandle" ∧ y.cls ≠ "java/lang/invoke/VarHandle")
    (C : oC Z ω y κ' [] as.toArray h Q') (hf : κ'.2.2.2.2.2.frames + 1 ≤ κ.2.2.2.2.2.frames) (hl : W + (κ'.2.1 + 11) + κ'.2.2.2.2.2.locals ≤ κ.2.2.2.2.2.locals) (hW : (S.map fun v => v.category).sum ≤ W) (hc : cs + κ'.2.2.2.2.2.cells ≤ κ.2.2.2.2.2.cells) (hs : ss + κ'.2.2.2.2.2.slots ≤ κ.2.2.2.2.2.slots)
    (hpd : parseMethodDescriptor y.desc = some ⟨ps, rt⟩) (hlen : as.length = ps.length) (hS : S0 = as.reverse ++ S) (hL : L.size = κ.2.1) (hd : decode κ.1 pc = .ok (.invokestatic idx, 3)) (hp : pc + 3 = pc')
    (K : ∀ v T' h', oSt Z ω γ κ T' h' (cs + κ'.2.2.2.2.2.cells) (ss + κ'.2.2.2.2.2.slots) → Q' v h' → oWP ω γ κ Q T' pc' L (v.toList ++ S)) : oWP ω γ κ Q T pc L S0 := by
  have w1' := oSt_at X i1 w1
  have w2' := oSt_at X i2 w2
  have w3' := oSt_at X i3 w3
  have w4' := oSt_at X i4 w4
  obtain ⟨hx, hby, hml, hown, hnm, hr, hlk, hZ, hT1, hn0, hT, locs, Y, N⟩ := X
  subst hp ho hS
  obtain ⟨v, vm₁, ⟨T', L', k', n'⟩, -, Y', ⟨Lc, ⟨hF, hQ⟩, q1, q2, q3⟩, st⟩ := Jvm.LawKit.callS Y hx (y := y) hown (mvT hZ w1') (mvT hZ w2') (mvT hZ w3') (mvT hZ w4') hy (backOf (W := W) (Q := fun v hh Lc => Fr ω.2.1 Lc ∧ Q' v hh) (bytes := κ'.1) (maxL := κ'.2.1) (ret := κ'.2.2.2.2.1) (rm := κ'.2.2.2.2.2) C hZ w4' w3' hf hl) (g := mkF γ.2.2.2.1 pc L (as.reverse ++ S)) rfl (by rw [hml]; exact hL) (argsL := as) (rest := S) (lenOf hpd hlen) rfl (by show 2 * 0 + _ ≤ _; omega) (hb hby hd) (fun _ _ => ⟨rfl, hT, hc, hs⟩)
  dsimp only [Pt.U, Pt.locs, Pt.cells, Pt.slots] at Y' q1 q2 q3 st hQ
  subst q1 q2 q3
  obtain ⟨s₂, o, hs, r⟩ := K v T' T'.heap ⟨hx, hby, hml, hown, hnm, hr, hlk, hZ, hT1, hn0, rfl, _, Y', N.app hF⟩ hQ
  exact ⟨s₂, o, st _ hs, r⟩
theorem ow_callC (X : oSt Z ω γ κ T h cs ss) (pc' i1 i2 i3 i4 : Nat) {own : String} {idx : Nat} {y : MethodName} {κ' : OM} {Q' : Option Value → Heap → Prop} {a : Addr} {as : List Value} {ps : List FieldType} {rt : Option FieldType} {W : Nat} {S0 : List Value}
    (hy1 : y.name = "<init>") (w1 : tables_1[i1]? = some (.methodLink own idx y)) (ho : κ.2.2.1 = own) (w2 : tables_1[i2]? = some (.instanceMethod y)) (w3 : tables_1[i3]? = some (.initialized y.cls)) (w4 : tables_1[i4]? = some (.code y κ'.1 κ'.2.1 κ'.2.2.2.2.1)) (hr0 : κ'.2.2.2.2.1 = none) (hy : y.cls ≠ "java/lang/invoke/MethodHandle" ∧ y.cls ≠ "java/lang/invoke/VarHandle")
    (C : oC Z ω y κ' [] (.ref a :: as).toArray h Q') (hf : κ'.2.2.2.2.2.frames + 1 ≤ κ.2.2.2.2.2.frames) (hl : W + (κ'.2.1 + 11) + κ'.2.2.2.2.2.locals ≤ κ.2.2.2.2.2.locals) (hW : (S.map fun v => v.category).sum ≤ W) (hc : cs + κ'.2.2.2.2.2.cells ≤ κ.2.2.2.2.2.cells) (hs : ss + κ'.2.2.2.2.2.slots ≤ κ.2.2.2.2.2.slots)
    (hpd : parseMethodDescriptor y.desc = some ⟨ps, rt⟩) (hlen : as.length = ps.length) (hS : S0 = as.reverse ++ .ref a :: S) (hL : L.size = κ.2.1) (hd : decode κ.1 pc = .ok (.invokespecial idx, 3)) (hp : pc + 3 = pc')
    (K : ∀ v T' h', oSt Z ω γ κ T' h' (cs + κ'.2.2.2.2.2.cells) (ss + κ'.2.2.2.2.2.slots) → Q' v h' → oWP ω γ κ Q T' pc' L (v.toList ++ S)) : oWP ω γ κ Q T pc L S0 := by
  have w1' := oSt_at X i1 w1
  have w2' := oSt_at X i2 w2
  have w3' := oSt_at X i3 w3
  have w4' := oSt_at X i4 w4
  obtain ⟨hx, hby, hml, hown, hnm, hr, hlk, hZ, hT1, hn0, hT, locs, Y, N⟩ := X
  subst hp ho hS
  obtain ⟨v, vm₁, ⟨T', L', k', n'⟩, -, Y', ⟨Lc, ⟨hF, hQ⟩, q1, q2, q3⟩, st⟩ := Y.specialBack hx (y := y) hy1 hown (mvT hZ w1') (mvT hZ w2') (mvT hZ (hr0 ▸ w4')) hy (backOf (W := W) (Q := fun v hh Lc => Fr ω.2.1 Lc ∧ Q' v hh) (bytes := κ'.1) (maxL := κ'.2.1) (ret := κ'.2.2.2.2.1) (rm := κ'.2.2.2.2.2) C hZ w4' w3' hf hl) (g := mkF γ.2.2.2.1 pc L (as.reverse ++ .ref a :: S)) rfl (by rw [hml]; exact hL) (Steps.refl _) (a := a) (argsL := as) (rest := S) (lenOf hpd hlen) rfl (by show 2 * 0 + _ ≤ _; omega) (hb hby hd) (fun _ _ => ⟨rfl, hT, hc, hs⟩)
  dsimp only [Pt.U, Pt.locs, Pt.cells, Pt.slots] at Y' q1 q2 q3 st hQ
  subst q1 q2 q3
  obtain ⟨s₂, o, hs, r⟩ := K v T' T'.heap ⟨hx, hby, hml, hown, hnm, hr, hlk, hZ, hT1, hn0, rfl, _, Y', N.app hF⟩ hQ
  exact ⟨s₂, o, st.trans hs, r⟩
theorem ow_callV (X : oSt Z ω γ κ T h cs ss) (pc' i1 i2 i3 i4 i5 i6 : Nat) {own C0 : String} {idx : Nat} {y : MethodName} {κ' : OM} {Q' : Option Value → Heap → Prop} {a : Addr} {as : List Value} {ps : List FieldType} {rt : Option FieldType} {W : Nat} {S0 : List Value}
    (w1 : tables_1[i1]? = some (.methodLink own idx y)) (ho : κ.2.2.1 = own) (w2 : tables_1[i2]? = some (.declares y)) (w3 : tables_1[i3]? = some (.selects C0 y y)) (w4 : tables_1[i4]? = some (.instanceMethod y)) (w5 : tables_1[i5]? = some (.code y κ'.1 κ'.2.1 κ'.2.2.2.2.1)) (w6 : tables_1[i6]? = some (.initialized y.cls)) (hy : y.cls ≠ "java/lang/invoke/MethodHandle" ∧ y.cls ≠ "java/lang/invoke/VarHandle")
    (E : Exa Z h a C0) (C : oC Z ω y κ' [] (.ref a :: as).toArray h Q') (hf : κ'.2.2.2.2.2.frames + 1 ≤ κ.2.2.2.2.2.frames) (hl : W + (κ'.2.1 + 11) + κ'.2.2.2.2.2.locals ≤ κ.2.2.2.2.2.locals) (hW : (S.map fun v => v.category).sum ≤ W) (hc : cs + κ'.2.2.2.2.2.cells ≤ κ.2.2.2.2.2.cells) (hs : ss + κ'.2.2.2.2.2.slots ≤ κ.2.2.2.2.2.slots)
    (hpd : parseMethodDescriptor y.desc = some ⟨ps, rt⟩) (hlen : as.length = ps.length) (hS : S0 = as.reverse ++ .ref a :: S) (hL : L.size = κ.2.1) (hd : decode κ.1 pc = .ok (.invokevirtual idx, 3)) (hp : pc + 3 = pc')
    (K : ∀ v T' h', oSt Z ω γ κ T' h' (cs + κ'.2.2.2.2.2.cells) (ss + κ'.2.2.2.2.2.slots) → Q' v h' → oWP ω γ κ Q T' pc' L (v.toList ++ S)) : oWP ω γ κ Q T pc L S0 := by
  have w1' := oSt_at X i1 w1
  have w2' := oSt_at X i2 w2
  have w3' := oSt_at X i3 w3
  have w4' := oSt_at X i4 w4
  have w5' := oSt_at X i5 w5
  have w6' := oSt_at X i6 w6
  obtain ⟨hx, hby, hml, hown, hnm, hr, hlk, hZ, hT1, hn0, hT, locs, Y, N⟩ := X
  subst hp ho hS
  obtain ⟨cq, kq, qa, qb, qc⟩ := isOf hZ hT E
  obtain ⟨v, vm₁, ⟨T', L', k', n'⟩, -, Y', ⟨Lc, ⟨hF, hQ⟩, q1, q2, q3⟩, st⟩ := Y.virtualBack hx (y := y) (z := y) hown (mvT hZ w1') (mvT hZ w2') (notFace_of_selects (args := #[]) (mvT hZ w3')) (mvT hZ w3') (mvT hZ w4') hy (backOf (W := W) (Q := fun v hh Lc => Fr ω.2.1 Lc ∧ Q' v hh) (bytes := κ'.1) (maxL := κ'.2.1) (ret := κ'.2.2.2.2.1) (rm := κ'.2.2.2.2.2) C hZ w5' w6' hf hl) qa qc (g := mkF γ.2.2.2.1 pc L (as.reverse ++ .ref a :: S)) rfl (by rw [hml]; exact hL) (Steps.refl _) (argsL := as) (rest := S) (lenOf hpd hlen) rfl (by show 2 * 0 + _ ≤ _; omega) (hb hby hd) (fun _ _ => ⟨rfl, hT, hc, hs⟩)
  dsimp only [Pt.U, Pt.locs, Pt.cells, Pt.slots] at Y' q1 q2 q3 st hQ
  subst q1 q2 q3
  obtain ⟨s₂, o, hs, r⟩ := K v T' T'.heap ⟨hx, hby, hml, hown, hnm, hr, hlk, hZ, hT1, hn0, rfl, _, Y', N.app hF⟩ hQ
  exact ⟨s₂, o, st.trans hs, r⟩
theorem ow_callP (X : oSt Z ω γ κ T h cs ss) (pc' i1 i2 i3 i4 i5 i6 : Nat) {own C0 : String} {idx nn : Nat} {y : MethodName} {κ' : OM} {Q' : Option Value → Heap → Prop} {a : Addr} {as : List Value} {ps : List FieldType} {rt : Option FieldType} {W : Nat} {S0 : List Value}
    (w1 : tables_1[i1]? = some (.methodLink own idx y)) (ho : κ.2.2.1 = own) (w2 : tables_1[i2]? = some (.instanceMethod y)) (w3 : tables_1[i3]? = some (.privateMethod y)) (w4 : tables_1[i4]? = some (.initialized y.cls)) (w5 : tables_1[i5]? = some (.code y κ'.1 κ'.2.1 κ'.2.2.2.2.1)) (w6 : tables_1[i6]? = some (.instantiable y.cls nn)) (hy : y.cls ≠ "java/lang/invoke/MethodHandle" ∧ y.cls ≠ "java/lang/invoke/VarHandle")
    (E : Exa Z h a C0) (C : oC Z ω y κ' [] (.ref a :: as).toArray h Q') (hf : κ'.2.2.2.2.2.frames + 1 ≤ κ.2.2.2.2.2.frames) (hl : W + (κ'.2.1 + 11) + κ'.2.2.2.2.2.locals ≤ κ.2.2.2.2.2.locals) (hW : (S.map fun v => v.category).sum ≤ W) (hc : cs + κ'.2.2.2.2.2.cells ≤ κ.2.2.2.2.2.cells) (hs : ss + κ'.2.2.2.2.2.slots ≤ κ.2.2.2.2.2.slots)
    (hpd : parseMethodDescriptor y.desc = some ⟨ps, rt⟩) (hlen : as.length = ps.length) (hS : S0 = as.reverse ++ .ref a :: S) (hL : L.size = κ.2.1) (hd : decode κ.1 pc = .ok (.invokevirtual idx, 3)) (hp : pc + 3 = pc')
    (K : ∀ v T' h', oSt Z ω γ κ T' h' (cs + κ'.2.2.2.2.2.cells) (ss + κ'.2.2.2.2.2.slots) → Q' v h' → oWP ω γ κ Q T' pc' L (v.toList ++ S)) : oWP ω γ κ Q T pc L S0 := by
  have w1' := oSt_at X i1 w1
  have w2' := oSt_at X i2 w2
  have w3' := oSt_at X i3 w3
  have w4' := oSt_at X i4 w4
  have w5' := oSt_at X i5 w5
  have w6' := oSt_at X i6 w6
  obtain ⟨hx, hby, hml, hown, hnm, hr, hlk, hZ, hT1, hn0, hT, locs, Y, N⟩ := X
  subst hp ho hS
  obtain ⟨cq, q1, q2⟩ := E.cell
  obtain ⟨ck, kk, i1, i2, -, i4, -⟩ := Cond.instantiable_spec (mvT (args := #[]) hZ w6')
  have hni : kk.isInterface = false := (Bool.or_eq_false_iff.mp i4).1
  have hpr := Cond.privateMethod_at (mvP (args := #[]) hZ w3')
  obtain ⟨v, vm₁, ⟨T', L', k', n'⟩, -, Y', ⟨Lc, ⟨hF, hQ⟩, q1, q2, q3⟩, st⟩ := Y.privateBack hx (y := y) hown (mvT hZ w1') (mvT hZ w2') (selects_self_of_private i1 i2 hni hpr (mvT hZ w2') hy) hpr (mvT hZ w5') hy (backOf (W := W) (Q := fun v hh Lc => Fr ω.2.1 Lc ∧ Q' v hh) (bytes := κ'.1) (maxL := κ'.2.1) (ret := κ'.2.2.2.2.1) (rm := κ'.2.2.2.2.2) C hZ w5' w4' hf hl) (g := mkF γ.2.2.2.1 pc L (as.reverse ++ .ref a :: S)) rfl (by rw [hml]; exact hL) (Steps.refl _) (a := a) (by rw [hT]; exact q1) q2 (argsL := as) (rest := S) (lenOf hpd hlen) rfl (by show 2 * 0 + _ ≤ _; omega) (hb hby hd) (fun _ _ => ⟨rfl, hT, hc, hs⟩)
  dsimp only [Pt.U, Pt.locs, Pt.cells, Pt.slots] at Y' q1 q2 q3 st hQ
  subst q1 q2 q3
  obtain ⟨s₂, o, hs, r⟩ := K v T' T'.heap ⟨hx, hby, hml, hown, hnm, hr, hlk, hZ, hT1, hn0, rfl, _, Y', N.app hF⟩ hQ
  exact ⟨s₂, o, st.trans hs, r⟩
end Walk
/-- an array: its component type, its length, what it holds -/
def oA (Z : State) (h : Heap) (a : Addr) (ty : FieldType) (n : Nat) (f : Nat → Value) : Prop := ∃ c : Cell, Arr Z h a c ty ∧ c.slots.size = n ∧ n < 2147483648 ∧ ∀ i, i < n → c.slots[i]? = some (f i)
section Arrays
variable {Z : State} {h h' : Heap} {a b : Addr} {ty : FieldType} {n sl : Nat} {f g : Nat → Value} {v : Value} {ws : List Addr}
theorem oA.lt (A : oA Z h a ty n f) : a < h.size := by obtain ⟨c, A, -⟩ := A; exact A.lt
theorem oA.small (A : oA Z h a ty n f) : n < 2147483648 := by obtain ⟨c, -, -, q, -⟩ := A; exact q
theorem oA.ext (A : oA Z h a ty n f) (E : Ext h h') : oA Z h' a ty n f := by obtain ⟨c, A, r⟩ := A; exact ⟨c, A.ext E, r⟩
theorem oA.other (A : oA Z h b ty n f) (W : Wr h h' a sl v) (q : b ≠ a) : oA Z h' b ty n f := by obtain ⟨c, A, r⟩ := A; exact ⟨c, A.other W q, r⟩
theorem oA.keep (A : oA Z h a ty n f) (K : Keep h h' ws) (q : a ∉ ws) : oA Z h' a ty n f := by obtain ⟨c, A, r⟩ := A; exact ⟨c, ⟨K.2.1 a c A.1 q, A.2⟩, r⟩
theorem oA.congr (A : oA Z h a ty n f) (q : ∀ i, i < n → f i = g i) : oA Z h a ty n g := by obtain ⟨c, A, r1, r2, r3⟩ := A; exact ⟨c, A, r1, r2, fun i hi => by rw [← q i hi]; exact r3 i hi⟩
theorem oA.set (A : oA Z h a ty n f) (W : Wr h h' a sl v) : oA Z h' a ty n (fun i => if i = sl then v else f i) := by
  obtain ⟨c, A, r1, r2, r3⟩ := A
  have hlt : sl < n := by
    obtain ⟨c', h1, -, h3, -⟩ := W
    cases A.1.symm.trans h1
    omega
  refine ⟨c.setSlot sl v, A.same W, (sz_set _ _ _).trans r1, r2, fun i hi => ?_⟩
  by_cases e : i = sl
  · subst e; simp [Cell.setSlot, r1, hlt]
  · simp only [e, if_false]
    rw [← r3 i hi]
    exact Array.getElem?_setIfInBounds_ne (Ne.symm e)
/-- one place changed -/
def oUpd {α : Type} (g : Nat → α) (k : Nat) (v : α) : Nat → α := fun i => if i = k then v else g i
theorem oUpd_hit {α : Type} (g : Nat → α) (k : Nat) (v : α) : oUpd g k v k = v := if_pos rfl
theorem oUpd_miss {α : Type} (g : Nat → α) {k i : Nat} (v : α) (q : i ≠ k) : oUpd g k v i = g i := if_neg q
def oZI : Nat → Int32 := fun _ => 0
def oZJ : Nat → Int64 := fun _ => 0
theorem oA.setI {g : Nat → Int32} {x : Int32} (A : oA Z h a ty n (fun i => .int (g i))) (W : Wr h h' a sl (.int x)) : oA Z h' a ty n (fun i => .int (oUpd g sl x i)) :=
  (A.set W).congr fun i _ => by unfold oUpd; split <;> rfl
theorem oA.setJ {g : Nat → Int64} {x : Int64} (A : oA Z h a ty n (fun i => .long (g i))) (W : Wr h h' a sl (.long x)) : oA Z h' a ty n (fun i => .long (oUpd g sl x i)) :=
  (A.set W).congr fun i _ => by unfold oUpd; split <;> rfl
theorem oNd {l : List Addr} (h : l.Nodup) (i j : Nat) (hij : i ≠ j) {a b : Addr} (ha : l[i]? = some a) (hb : l[j]? = some b) : a ≠ b := by
  intro e; subst e
  obtain ⟨h1, h2⟩ := List.getElem?_eq_some_iff.mp ha
  obtain ⟨h3, h4⟩ := List.getElem?_eq_some_iff.mp hb
  have q := List.pairwise_iff_getElem.mp h
  rcases Nat.lt_or_gt_of_ne hij with r | r
  · exact q i j h1 h3 r (h2.trans h4.symm)
  · exact q j i h3 h1 r (h4.trans h2.symm)
theorem oA.new {cA : ClassId} {k : Int32} (A : Arr Z h a (newA cA ty k) ty) (q : 0 ≤ k.toInt) : oA Z h a ty k.toInt.toNat (fun _ => defaultValue ty) := by
  have e : k.toNatClampNeg = k.toInt.toNat := rfl
  have := k.toInt_lt
  refine ⟨_, A, (sz_new _ _ _).trans e, by omega, fun i hi => ?_⟩
  have : i < k.toNatClampNeg := by rw [e]; exact hi
  simp [newA, this]
theorem oInb {j : Int32} {c : Cell} (r1 : c.slots.size = n) (q : 0 ≤ j.toInt) (q' : j.toInt < n) : ¬ (j < 0 ∨ c.slots.size ≤ j.toNatClampNeg) := by
  have e : j.toNatClampNeg = j.toInt.toNat := rfl
  rw [Int32.lt_iff_toInt_lt, r1, e, o0]; omega
end Arrays
section Walk2
variable {Z : State} {ω : OW} {γ : OG} {κ : OM} {Q : Option Value → Heap → Prop} {T : State} {h : Heap} {cs ss : Nat} {pc : Nat} {L : Array Slot} {S : List Value}
theorem ow_alen (X : oSt Z ω γ κ T h cs ss) (pc' : Nat) {a : Addr} {ty : FieldType} {n : Nat} {f : Nat → Value} {v : Int32} (A : oA Z h a ty n f) (hd : decode κ.1 pc = .ok (.arraylength, 1)) (hp : pc + 1 = pc') (hv : v.toInt = n)
    (K : oWP ω γ κ Q T pc' L (.int v :: S)) : oWP ω γ κ Q T pc L (.ref a :: S) := by
  obtain ⟨hx, hby, -, -, -, -, -, hZ, -, -, hT, locs, Y, -⟩ := X
  obtain ⟨c, A, r1, r2, -⟩ := A
  subst hp
  obtain ⟨s₂, o, hs, r⟩ := K
  have e : c.slots.size.toInt32 = v := Int32.toInt_inj.mp (by rw [hv, len_toInt (by omega), r1])
  exact ⟨s₂, o, Y.arraylength hx (by rw [hT]; exact A.1) (State.isArrayOf_alike hZ.alike A.2.1) (g := mkF γ.2.2.2.1 pc L (.ref a :: S)) rfl rfl (hb hby hd) _ (by rw [e]; exact hs), r⟩
theorem ow_iaload (X : oSt Z ω γ κ T h cs ss) (pc' : Nat) {a : Addr} {n : Nat} {f : Nat → Value} {j : Int32} {v : Value} (A : oA Z h a .int n f) (hd : decode κ.1 pc = .ok (.iaload, 1)) (hp : pc + 1 = pc') (h0 : 0 ≤ j.toInt) (h1 : j.toInt < n) (hv : f j.toInt.toNat = v)
    (K : oWP ω γ κ Q T pc' L (v :: S)) : oWP ω γ κ Q T pc L (.int j :: .ref a :: S) := by
  obtain ⟨hx, hby, -, -, -, -, -, hZ, -, -, hT, locs, Y, -⟩ := X
  obtain ⟨c, A, r1, r2, r3⟩ := A
  subst hp hv
  obtain ⟨s₂, o, hs, r⟩ := K
  exact ⟨s₂, o, Y.iaload hx (by rw [hT]; exact A.1) (State.isArrayOf_alike hZ.alike A.2.1) A.2.2 (oInb r1 h0 h1) (r3 _ (by show j.toInt.toNat < _; omega)) (g := mkF γ.2.2.2.1 pc L (.int j :: .ref a :: S)) rfl rfl (hb hby hd) _ hs, r⟩
theorem ow_laload (X : oSt Z ω γ κ T h cs ss) (pc' : Nat) {a : Addr} {n : Nat} {f : Nat → Value} {j : Int32} {v : Value} (A : oA Z h a .long n f) (hd : decode κ.1 pc = .ok (.laload, 1)) (hp : pc + 1 = pc') (h0 : 0 ≤ j.toInt) (h1 : j.toInt < n) (hv : f j.toInt.toNat = v)
    (K : oWP ω γ κ Q T pc' L (v :: S)) : oWP ω γ κ Q T pc L (.int j :: .ref a :: S) := by
  obtain ⟨hx, hby, -, -, -, -, -, hZ, -, -, hT, locs, Y, -⟩ := X
  obtain ⟨c, A, r1, r2, r3⟩ := A
  subst hp hv
  obtain ⟨s₂, o, hs, r⟩ := K
  exact ⟨s₂, o, Y.laload hx (by rw [hT]; exact A.1) (State.isArrayOf_alike hZ.alike A.2.1) A.2.2 (oInb r1 h0 h1) (r3 _ (by show j.toInt.toNat < _; omega)) (g := mkF γ.2.2.2.1 pc L (.int j :: .ref a :: S)) rfl rfl (hb hby hd) _ hs, r⟩
theorem ow_caload (X : oSt Z ω γ κ T h cs ss) (pc' : Nat) {a : Addr} {n : Nat} {f : Nat → Value} {j : Int32} {v : Value} (A : oA Z h a .char n f) (hd : decode κ.1 pc = .ok (.caload, 1)) (hp : pc + 1 = pc') (h0 : 0 ≤ j.toInt) (h1 : j.toInt < n) (hv : f j.toInt.toNat = v)
    (K : oWP ω γ κ Q T pc' L (v :: S)) : oWP ω γ κ Q T pc L (.int j :: .ref a :: S) := by
  obtain ⟨hx, hby, -, -, -, -, -, hZ, -, -, hT, locs, Y, -⟩ := X
  obtain ⟨c, A, r1, r2, r3⟩ := A
  subst hp hv
  obtain ⟨s₂, o, hs, r⟩ := K
  exact ⟨s₂, o, Y.caload hx (by rw [hT]; exact A.1) (State.isArrayOf_alike hZ.alike A.2.1) A.2.2 (oInb r1 h0 h1) (r3 _ (by show j.toInt.toNat < _; omega)) (g := mkF γ.2.2.2.1 pc L (.int j :: .ref a :: S)) rfl rfl (hb hby hd) _ hs, r⟩
theorem ow_baload (X : oSt Z ω γ κ T h cs ss) (pc' : Nat) {a : Addr} {n : Nat} {f : Nat → Value} {j : Int32} {v : Value} (A : oA Z h a .byte n f) (hd : decode κ.1 pc = .ok (.baload, 1)) (hp : pc + 1 = pc') (h0 : 0 ≤ j.toInt) (h1 : j.toInt < n) (hv : f j.toInt.toNat = v)
    (K : oWP ω γ κ Q T pc' L (v :: S)) : oWP ω γ κ Q T pc L (.int j :: .ref a :: S) := by
  obtain ⟨hx, hby, -, -, -, -, -, hZ, -, -, hT, locs, Y, -⟩ := X
  obtain ⟨c, A, r1, r2, r3⟩ := A
  subst hp hv
  obtain ⟨s₂, o, hs, r⟩ := K
  exact ⟨s₂, o, Y.baloadBytes hx (by rw [hT]; exact A.1) (State.isArrayOf_alike hZ.alike A.2.1) A.2.2 (oInb r1 h0 h1) (r3 _ (by show j.toInt.toNat < _; omega)) (g := mkF γ.2.2.2.1 pc L (.int j :: .ref a :: S)) rfl rfl (hb hby hd) _ hs, r⟩
theorem ow_baloadZ (X : oSt Z ω γ κ T h cs ss) (pc' : Nat) {a : Addr} {n : Nat} {f : Nat → Value} {j : Int32} {v : Value} (A : oA Z h a .boolean n f) (hd : decode κ.1 pc = .ok (.baload, 1)) (hp : pc + 1 = pc') (h0 : 0 ≤ j.toInt) (h1 : j.toInt < n) (hv : f j.toInt.toNat = v)
    (K : oWP ω γ κ Q T pc' L (v :: S)) : oWP ω γ κ Q T pc L (.int j :: .ref a :: S) := by
  obtain ⟨hx, hby, -, -, -, -, -, hZ, -, -, hT, locs, Y, -⟩ := X
  obtain ⟨c, A, r1, r2, r3⟩ := A
  subst hp hv
  obtain ⟨s₂, o, hs, r⟩ := K
  exact ⟨s₂, o, Y.baloadBooleans hx (by rw [hT]; exact A.1) (State.isArrayOf_alike hZ.alike A.2.1) A.2.2 (oInb r1 h0 h1) (r3 _ (by show j.toInt.toNat < _; omega)) (g := mkF γ.2.2.2.1 pc L (.int j :: .ref a :: S)) rfl rfl (hb hby hd) _ hs, r⟩
theorem ow_aaload (X : oSt Z ω γ κ T h cs ss) (pc' : Nat) {a : Addr} {ty : FieldType} {n : Nat} {f : Nat → Value} {j : Int32} {v : Value} (A : oA Z h a ty n f) (ht : ty.isReference = true) (hd : decode κ.1 pc = .ok (.aaload, 1)) (hp : pc + 1 = pc') (h0 : 0 ≤ j.toInt) (h1 : j.toInt < n) (hv : f j.toInt.toNat = v)
    (K : oWP ω γ κ Q T pc' L (v :: S)) : oWP ω γ κ Q T pc L (.int j :: .ref a :: S) := by
  obtain ⟨hx, hby, -, -, -, -, -, hZ, -, -, hT, locs, Y, -⟩ := X
  obtain ⟨c, A, r1, r2, r3⟩ := A
  subst hp hv
  obtain ⟨s₂, o, hs, r⟩ := K
  exact ⟨s₂, o, Y.aaload hx (by rw [hT]; exact A.1) (State.isArrayOf_alike hZ.alike A.2.1) ht A.2.2 (oInb r1 h0 h1) (r3 _ (by show j.toInt.toNat < _; omega)) (g := mkF γ.2.2.2.1 pc L (.int j :: .ref a :: S)) rfl rfl (hb hby hd) _ hs, r⟩
theorem ow_iastore (X : oSt Z ω γ κ T h cs ss) (pc' : Nat) {a : Addr} {n : Nat} {f : Nat → Value} {j : Int32} {x : Int32} (A : oA Z h a .int n f) (ha : ω.2.1 ≤ a) (hd : decode κ.1 pc = .ok (.iastore, 1)) (hp : pc + 1 = pc') (h0 : 0 ≤ j.toInt) (h1 : j.toInt < n)
    (K : ∀ T' h', oSt Z ω γ κ T' h' cs ss → Wr h h' a j.toInt.toNat (.int x) → oWP ω γ κ Q T' pc' L S) : oWP ω γ κ Q T pc L (.int x :: .int j :: .ref a :: S) := by
  obtain ⟨hx, hby, hml, hown, hnm, hr, hlk, hZ, hT1, hn0, hT, locs, Y, N⟩ := X
  obtain ⟨c, A, r1, r2, r3⟩ := A
  subst hp
  obtain ⟨T', h', Y', e', W, st⟩ := stI Y hx hZ hT A (oInb r1 h0 h1) (g := mkF γ.2.2.2.1 pc L (.int x :: .int j :: .ref a :: S)) rfl rfl (hb hby hd)
  obtain ⟨s₂, o, hs, r⟩ := K T' h' ⟨hx, hby, hml, hown, hnm, hr, hlk, hZ, hT1, hn0, e', _, Y', Fr.snoc Y' N ha⟩ W
  exact ⟨s₂, o, st _ hs, r⟩
theorem ow_lastore (X : oSt Z ω γ κ T h cs ss) (pc' : Nat) {a : Addr} {n : Nat} {f : Nat → Value} {j : Int32} {x : Int64} (A : oA Z h a .long n f) (ha : ω.2.1 ≤ a) (hd : decode κ.1 pc = .ok (.lastore, 1)) (hp : pc + 1 = pc') (h0 : 0 ≤ j.toInt) (h1 : j.toInt < n)
    (K : ∀ T' h', oSt Z ω γ κ T' h' cs ss → Wr h h' a j.toInt.toNat (.long x) → oWP ω γ κ Q T' pc' L S) : oWP ω γ κ Q T pc L (.long x :: .int j :: .ref a :: S) := by
  obtain ⟨hx, hby, hml, hown, hnm, hr, hlk, hZ, hT1, hn0, hT, locs, Y, N⟩ := X
  obtain ⟨c, A, r1, r2, r3⟩ := A
  subst hp
  obtain ⟨T', h', Y', e', W, st⟩ := stJ Y hx hZ hT A (oInb r1 h0 h1) (g := mkF γ.2.2.2.1 pc L (.long x :: .int j :: .ref a :: S)) rfl rfl (hb hby hd)
  obtain ⟨s₂, o, hs, r⟩ := K T' h' ⟨hx, hby, hml, hown, hnm, hr, hlk, hZ, hT1, hn0, e', _, Y', Fr.snoc Y' N ha⟩ W
  exact ⟨s₂, o, st _ hs, r⟩
theorem ow_castore (X : oSt Z ω γ κ T h cs ss) (pc' : Nat) {a : Addr} {n : Nat} {f : Nat → Value} {j : Int32} {x : Int32} (A : oA Z h a .char n f) (ha : ω.2.1 ≤ a) (hd : decode κ.1 pc = .ok (.castore, 1)) (hp : pc + 1 = pc') (h0 : 0 ≤ j.toInt) (h1 : j.toInt < n)
    (K : ∀ T' h', oSt Z ω γ κ T' h' cs ss → Wr h h' a j.toInt.toNat (.int (nar .char x)) → oWP ω γ κ Q T' pc' L S) : oWP ω γ κ Q T pc L (.int x :: .int j :: .ref a :: S) := by
  obtain ⟨hx, hby, hml, hown, hnm, hr, hlk, hZ, hT1, hn0, hT, locs, Y, N⟩ := X
  obtain ⟨c, A, r1, r2, r3⟩ := A
  subst hp
  obtain ⟨T', h', Y', e', W, st⟩ := stC Y hx hZ hT A (oInb r1 h0 h1) (g := mkF γ.2.2.2.1 pc L (.int x :: .int j :: .ref a :: S)) rfl rfl (hb hby hd)
  obtain ⟨s₂, o, hs, r⟩ := K T' h' ⟨hx, hby, hml, hown, hnm, hr, hlk, hZ, hT1, hn0, e', _, Y', Fr.snoc Y' N ha⟩ W
  exact ⟨s₂, o, st _ hs, r⟩
theorem ow_bastore (X : oSt Z ω γ κ T h cs ss) (pc' : Nat) {a : Addr} {n : Nat} {f : Nat → Value} {j : Int32} {x : Int32} (A : oA Z h a .byte n f) (ha : ω.2.1 ≤ a) (hd : decode κ.1 pc = .ok (.bastore, 1)) (hp : pc + 1 = pc') (h0 : 0 ≤ j.toInt) (h1 : j.toInt < n)
    (K : ∀ T' h', oSt Z ω γ κ T' h' cs ss → Wr h h' a j.toInt.toNat (.int x.toInt8.toInt32) → oWP ω γ κ Q T' pc' L S) : oWP ω γ κ Q T pc L (.int x :: .int j :: .ref a :: S) := by
  obtain ⟨hx, hby, hml, hown, hnm, hr, hlk, hZ, hT1, hn0, hT, locs, Y, N⟩ := X
  obtain ⟨c, A, r1, r2, r3⟩ := A
  subst hp
  obtain ⟨T', h', Y', e', W, st⟩ := stB Y hx hZ hT A (oInb r1 h0 h1) (g := mkF γ.2.2.2.1 pc L (.int x :: .int j :: .ref a :: S)) rfl rfl (hb hby hd)
  obtain ⟨s₂, o, hs, r⟩ := K T' h' ⟨hx, hby, hml, hown, hnm, hr, hlk, hZ, hT1, hn0, e', _, Y', Fr.snoc Y' N ha⟩ W
  exact ⟨s₂, o, st _ hs, r⟩
theorem ow_bastoreZ (X : oSt Z ω γ κ T h cs ss) (pc' : Nat) {a : Addr} {n : Nat} {f : Nat → Value} {j : Int32} {x : Int32} (A : oA Z h a .boolean n f) (ha : ω.2.1 ≤ a) (hd : decode κ.1 pc = .ok (.bastore, 1)) (hp : pc + 1 = pc') (h0 : 0 ≤ j.toInt) (h1 : j.toInt < n)
    (K : ∀ T' h', oSt Z ω γ κ T' h' cs ss → Wr h h' a j.toInt.toNat (.int (nar .boolean x)) → oWP ω γ κ Q T' pc' L S) : oWP ω γ κ Q T pc L (.int x :: .int j :: .ref a :: S) := by
  obtain ⟨hx, hby, hml, hown, hnm, hr, hlk, hZ, hT1, hn0, hT, locs, Y, N⟩ := X
  obtain ⟨c, A, r1, r2, r3⟩ := A
  subst hp
  obtain ⟨T', h', Y', e', W, st⟩ := stZ Y hx hZ hT A (oInb r1 h0 h1) (g := mkF γ.2.2.2.1 pc L (.int x :: .int j :: .ref a :: S)) rfl rfl (hb hby hd)
  obtain ⟨s₂, o, hs, r⟩ := K T' h' ⟨hx, hby, hml, hown, hnm, hr, hlk, hZ, hT1, hn0, e', _, Y', Fr.snoc Y' N ha⟩ W
  exact ⟨s₂, o, st _ hs, r⟩
theorem ow_aastore (X : oSt Z ω γ κ T h cs ss) (pc' : Nat) {a : Addr} {ty : FieldType} {n : Nat} {f : Nat → Value} {j : Int32} {v : Value} (A : oA Z h a ty n f) (ht : ty.isReference = true) (F : Sto Z h a v) (ha : ω.2.1 ≤ a) (hd : decode κ.1 pc = .ok (.aastore, 1)) (hp : pc + 1 = pc') (h0 : 0 ≤ j.toInt) (h1 : j.toInt < n)
    (K : ∀ T' h', oSt Z ω γ κ T' h' cs ss → Wr h h' a j.toInt.toNat v → oWP ω γ κ Q T' pc' L S) : oWP ω γ κ Q T pc L (v :: .int j :: .ref a :: S) := by
  obtain ⟨hx, hby, hml, hown, hnm, hr, hlk, hZ, hT1, hn0, hT, locs, Y, N⟩ := X
  obtain ⟨c, A, r1, r2, r3⟩ := A
  subst hp
  obtain ⟨T', h', Y', e', W, st⟩ := stR Y hx hZ hT A (oInb r1 h0 h1) ht F (g := mkF γ.2.2.2.1 pc L (v :: .int j :: .ref a :: S)) rfl rfl (hb hby hd)
  obtain ⟨s₂, o, hs, r⟩ := K T' h' ⟨hx, hby, hml, hown, hnm, hr, hlk, hZ, hT1, hn0, e', _, Y', Fr.snoc Y' N ha⟩ W
  exact ⟨s₂, o, st _ hs, r⟩
theorem ow_newP (X : oSt Z ω γ κ T h cs ss) (pc' i : Nat) {aty : ArrayType} {k : Int32} {cap : Nat} (hw : tables_1[i]? = some (.arrayClass (newarray.typeOf aty))) (hd : decode κ.1 pc = .ok (.newarray aty, 2)) (hp : pc + 2 = pc') (h0 : 0 ≤ k.toInt) (h1 : k.toInt ≤ cap) (hb1 : cap * 8 ≤ 536870912) (hc : cs + 1 ≤ κ.2.2.2.2.2.cells) (hsl : ss + cap ≤ κ.2.2.2.2.2.slots)
    (K : ∀ T' h' a, a = h.size → oSt Z ω γ κ T' h' (cs + 1) (ss + cap) → Ext h h' → oA Z h' a (newarray.typeOf aty) k.toInt.toNat (fun _ => defaultValue (newarray.typeOf aty)) → ω.2.1 ≤ a → oWP ω γ κ Q T' pc' L (.ref a :: S)) : oWP ω γ κ Q T pc L (.int k :: S) := by
  have hw' := oSt_at X i hw
  have hN := oSt_n0 X
  obtain ⟨hx, hby, hml, hown, hnm, hr, hlk, hZ, hT1, hn0, hT, locs, Y, N⟩ := X
  subst hp
  have hk : ¬ k < 0 := by rw [Int32.lt_iff_toInt_lt, o0]; omega
  have hk' : k.toNatClampNeg ≤ cap := by show k.toInt.toNat ≤ cap; omega
  obtain ⟨T', h', cA, Y', e', E, A, st⟩ := newP Y hx hZ hw' hT (g := mkF γ.2.2.2.1 pc L (.int k :: S)) rfl (hb hby hd) rfl hk hk' hb1 hc hsl
  obtain ⟨s₂, o, hs, r⟩ := K T' h' h.size rfl ⟨hx, hby, hml, hown, hnm, hr, hlk, hZ, hT1, hn0, e', _, Y', N⟩ E (oA.new A h0) hN
  exact ⟨s₂, o, st _ hs, r⟩
/-- a new array's class takes objects of C -/
def oOv (Z : State) (h : Heap) (a : Addr) (C : String) : Prop := ∃ (c : Cell) (ty : FieldType), Arr Z h a c ty ∧ Ovr Z c.cls C
theorem oOv.ext {h' : Heap} {a : Addr} {C : String} (O : oOv Z h a C) (E : Ext h h') : oOv Z h' a C := by obtain ⟨c, ty, A, O⟩ := O; exact ⟨c, ty, A.ext E, O⟩
theorem oOv.wr {h' : Heap} {a b : Addr} {C : String} {sl : Nat} {v : Value} (O : oOv Z h a C) (W : Wr h h' b sl v) : oOv Z h' a C := by
  obtain ⟨c, ty, A, O⟩ := O
  by_cases e : a = b
  · subst e; exact ⟨_, ty, A.same W, O⟩
  · exact ⟨c, ty, A.other W e, O⟩
theorem oOv.keep {h' : Heap} {a : Addr} {C : String} {ws : List Addr} (O : oOv Z h a C) (K : Keep h h' ws) (q : a ∉ ws) : oOv Z h' a C := by
  obtain ⟨c, ty, A, O⟩ := O; exact ⟨c, ty, ⟨K.2.1 a c A.1 q, A.2⟩, O⟩
theorem oOv.sto {a y : Addr} {C : String} (O : oOv Z h a C) (I : Ins Z h y C true) : Sto Z h a (.ref y) := by obtain ⟨c, ty, A, O⟩ := O; exact Sto.of A O I
theorem ow_newR (X : oSt Z ω γ κ T h cs ss) (pc' i1 i2 : Nat) {own C : String} {idx : Nat} {k : Int32} {cap : Nat} (w1 : tables_1[i1]? = some (.classLink own idx C)) (ho : κ.2.2.1 = own) (w2 : tables_1[i2]? = some (.arrayOver (.object C))) (hd : decode κ.1 pc = .ok (.anewarray idx, 3)) (hp : pc + 3 = pc') (h0 : 0 ≤ k.toInt) (h1 : k.toInt ≤ cap) (hb1 : cap * 8 ≤ 536870912) (hc : cs + 1 ≤ κ.2.2.2.2.2.cells) (hsl : ss + cap ≤ κ.2.2.2.2.2.slots)
    (K : ∀ T' h' a, a = h.size → oSt Z ω γ κ T' h' (cs + 1) (ss + cap) → Ext h h' → oA Z h' a (.object C) k.toInt.toNat (fun _ => .null) → oOv Z h' a C → ω.2.1 ≤ a → oWP ω γ κ Q T' pc' L (.ref a :: S)) : oWP ω γ κ Q T pc L (.int k :: S) := by
  have w1' := oSt_at X i1 w1
  have w2' := oSt_at X i2 w2
  have hN := oSt_n0 X
  obtain ⟨hx, hby, hml, hown, hnm, hr, hlk, hZ, hT1, hn0, hT, locs, Y, N⟩ := X
  subst hp ho
  have hk : ¬ k < 0 := by rw [Int32.lt_iff_toInt_lt, o0]; omega
  have hk' : k.toNatClampNeg ≤ cap := by show k.toInt.toNat ≤ cap; omega
  obtain ⟨T', h', cA, Y', e', E, A, O, st⟩ := newR Y hx hZ hown w1' w2' hT (g := mkF γ.2.2.2.1 pc L (.int k :: S)) rfl (hb hby hd) rfl hk hk' hb1 hc hsl
  obtain ⟨s₂, o, hs, r⟩ := K T' h' h.size rfl ⟨hx, hby, hml, hown, hnm, hr, hlk, hZ, hT1, hn0, e', _, Y', N⟩ E (oA.new A h0) ⟨_, _, A, O⟩ hN
  exact ⟨s₂, o, st _ hs, r⟩
end Walk2
def CP (Z : State) (h : Heap) (a : Addr) (v0 v1 v2 v3 v4 v5 v6 : Value) : Prop := Exa Z h a "com/example/rexquill/rexquill/Copies" ∧ Fld Z h a "com/example/rexquill/rexquill/Copies" "records" "[I" v0 ∧ Fld Z h a "com/example/rexquill/rexquill/Copies" "recordLists" "[I" v1 ∧ Fld Z h a "com/example/rexquill/rexquill/Copies" "innerRecords" "[I" v2 ∧ Fld Z h a "com/example/rexquill/rexquill/Copies" "innerRecordCount" "[I" v3 ∧ Fld Z h a "com/example/rexquill/rexquill/Copies" "topRecords" "I" v4 ∧ Fld Z h a "com/example/rexquill/rexquill/Copies" "topRecordCount" "I" v5 ∧ Fld Z h a "com/example/rexquill/rexquill/Copies" "copyRoom" "I" v6
theorem CP.lt {Z : State} {h : Heap} {a : Addr} {v0 v1 v2 v3 v4 v5 v6 : Value} (R : CP Z h a v0 v1 v2 v3 v4 v5 v6) : a < h.size := R.1.lt
theorem CP.ext {Z : State} {h h' : Heap} {a : Addr} {v0 v1 v2 v3 v4 v5 v6 : Value} (R : CP Z h a v0 v1 v2 v3 v4 v5 v6) (W : Ext h h') : CP Z h' a v0 v1 v2 v3 v4 v5 v6 := by
  obtain ⟨E, F0, F1, F2, F3, F4, F5, F6⟩ := R
  exact ⟨E.ext W, F0.ext W, F1.ext W, F2.ext W, F3.ext W, F4.ext W, F5.ext W, F6.ext W⟩
theorem CP.other {Z : State} {h h' : Heap} {a b : Addr} {sl : Nat} {w : Value} {v0 v1 v2 v3 v4 v5 v6 : Value} (R : CP Z h a v0 v1 v2 v3 v4 v5 v6) (W : Wr h h' b sl w) (q : a ≠ b) : CP Z h' a v0 v1 v2 v3 v4 v5 v6 := by
  obtain ⟨E, F0, F1, F2, F3, F4, F5, F6⟩ := R
  exact ⟨E.wr W, F0.other W (Or.inl q), F1.other W (Or.inl q), F2.other W (Or.inl q), F3.other W (Or.inl q), F4.other W (Or.inl q), F5.other W (Or.inl q), F6.other W (Or.inl q)⟩
theorem CP.keep {Z : State} {h h' : Heap} {a : Addr} {ws : List Addr} {v0 v1 v2 v3 v4 v5 v6 : Value} (R : CP Z h a v0 v1 v2 v3 v4 v5 v6) (K : Keep h h' ws) (q : a ∉ ws) : CP Z h' a v0 v1 v2 v3 v4 v5 v6 := by
  obtain ⟨E, F0, F1, F2, F3, F4, F5, F6⟩ := R
  exact ⟨E.keep K, F0.keep K q, F1.keep K q, F2.keep K q, F3.keep K q, F4.keep K q, F5.keep K q, F6.keep K q⟩
theorem CP.set_records {Z : State} {h h' : Heap} {a : Addr} {a0 : Array Value} {w : Value} {v0 v1 v2 v3 v4 v5 v6 : Value} (hw : ∀ d ∈ tables_1, d.before a0 Z = true) (R : CP Z h a v0 v1 v2 v3 v4 v5 v6) (W : Wr h h' a (RoadKit.slotOf Z "com/example/rexquill/rexquill/Copies" "records" "[I") w) : CP Z h' a w v1 v2 v3 v4 v5 v6 := by
  obtain ⟨E, F0, F1, F2, F3, F4, F5, F6⟩ := R
  exact ⟨E.wr W, F0.same W, F1.other W (Or.inr (slot_ne (C := "com/example/rexquill/rexquill/Copies") (Or.inr (hw _ (List.mem_of_getElem? (i := 18) rfl))) (Or.inr (hw _ (List.mem_of_getElem? (i := 16) rfl))) (by decide) (t := (.array .int)) (t' := (.array .int)) (by decide) (by decide))), F2.other W (Or.inr (slot_ne (C := "com/example/rexquill/rexquill/Copies") (Or.inr (hw _ (List.mem_of_getElem? (i := 20) rfl))) (Or.inr (hw _ (List.mem_of_getElem? (i := 16) rfl))) (by decide) (t := (.array .int)) (t' := (.array .int)) (by decide) (by decide))), F3.other W (Or.inr (slot_ne (C := "com/example/rexquill/rexquill/Copies") (Or.inr (hw _ (List.mem_of_getElem? (i := 22) rfl))) (Or.inr (hw _ (List.mem_of_getElem? (i := 16) rfl))) (by decide) (t := (.array .int)) (t' := (.array .int)) (by decide) (by decide))), F4.other W (Or.inr (slot_ne (C := "com/example/rexquill/rexquill/Copies") (Or.inr (hw _ (List.mem_of_getElem? (i := 38) rfl))) (Or.inr (hw _ (List.mem_of_getElem? (i := 16) rfl))) (by decide) (t := .int) (t' := (.array .int)) (by decide) (by decide))), F5.other W (Or.inr (slot_ne (C := "com/example/rexquill/rexquill/Copies") (Or.inr (hw _ (List.mem_of_getElem? (i := 40) rfl))) (Or.inr (hw _ (List.mem_of_getElem? (i := 16) rfl))) (by decide) (t := .int) (t' := (.array .int)) (by decide) (by decide))), F6.other W (Or.inr (slot_ne (C := "com/example/rexquill/rexquill/Copies") (Or.inr (hw _ (List.mem_of_getElem? (i := 46) rfl))) (Or.inr (hw _ (List.mem_of_getElem? (i := 16) rfl))) (by decide) (t := .int) (t' := (.array .int)) (by decide) (by decide)))⟩
theorem CP.set_recordLists {Z : State} {h h' : Heap} {a : Addr} {a0 : Array Value} {w : Value} {v0 v1 v2 v3 v4 v5 v6 : Value} (hw : ∀ d ∈ tables_1, d.before a0 Z = true) (R : CP Z h a v0 v1 v2 v3 v4 v5 v6) (W : Wr h h' a (RoadKit.slotOf Z "com/example/rexquill/rexquill/Copies" "recordLists" "[I") w) : CP Z h' a v0 w v2 v3 v4 v5 v6 := by
  obtain ⟨E, F0, F1, F2, F3, F4, F5, F6⟩ := R
  exact ⟨E.wr W, F0.other W (Or.inr (slot_ne (C := "com/example/rexquill/rexquill/Copies") (Or.inr (hw _ (List.mem_of_getElem? (i := 16) rfl))) (Or.inr (hw _ (List.mem_of_getElem? (i := 18) rfl))) (by decide) (t := (.array .int)) (t' := (.array .int)) (by decide) (by decide))), F1.same W, F2.other W (Or.inr (slot_ne (C := "com/example/rexquill/rexquill/Copies") (Or.inr (hw _ (List.mem_of_getElem? (i := 20) rfl))) (Or.inr (hw _ (List.mem_of_getElem? (i := 18) rfl))) (by decide) (t := (.array .int)) (t' := (.array .int)) (by decide) (by decide))), F3.other W (Or.inr (slot_ne (C := "com/example/rexquill/rexquill/Copies") (Or.inr (hw _ (List.mem_of_getElem? (i := 22) rfl))) (Or.inr (hw _ (List.mem_of_getElem? (i := 18) rfl))) (by decide) (t := (.array .int)) (t' := (.array .int)) (by decide) (by decide))), F4.other W (Or.inr (slot_ne (C := "com/example/rexquill/rexquill/Copies") (Or.inr (hw _ (List.mem_of_getElem? (i := 38) rfl))) (Or.inr (hw _ (List.mem_of_getElem? (i := 18) rfl))) (by decide) (t := .int) (t' := (.array .int)) (by decide) (by decide))), F5.other W (Or.inr (slot_ne (C := "com/example/rexquill/rexquill/Copies") (Or.inr (hw _ (List.mem_of_getElem? (i := 40) rfl))) (Or.inr (hw _ (List.mem_of_getElem? (i := 18) rfl))) (by decide) (t := .int) (t' := (.array .int)) (by decide) (by decide))), F6.other W (Or.inr (slot_ne (C := "com/example/rexquill/rexquill/Copies") (Or.inr (hw _ (List.mem_of_getElem? (i := 46) rfl))) (Or.inr (hw _ (List.mem_of_getElem? (i := 18) rfl))) (by decide) (t := .int) (t' := (.array .int)) (by decide) (by decide)))⟩
theorem CP.set_innerRecords {Z : State} {h h' : Heap} {a : Addr} {a0 : Array Value} {w : Value} {v0 v1 v2 v3 v4 v5 v6 : Value} (hw : ∀ d ∈ tables_1, d.before a0 Z = true) (R : CP Z h a v0 v1 v2 v3 v4 v5 v6) (W : Wr h h' a (RoadKit.slotOf Z "com/example/rexquill/rexquill/Copies" "innerRecords" "[I") w) : CP Z h' a v0 v1 w v3 v4 v5 v6 := by
  obtain ⟨E, F0, F1, F2, F3, F4, F5, F6⟩ := R
  exact ⟨E.wr W, F0.other W (Or.inr (slot_ne (C := "com/example/rexquill/rexquill/Copies") (Or.inr (hw _ (List.mem_of_getElem? (i := 16) rfl))) (Or.inr (hw _ (List.mem_of_getElem? (i := 20) rfl))) (by decide) (t := (.array .int)) (t' := (.array .int)) (by decide) (by decide))), F1.other W (Or.inr (slot_ne (C := "com/example/rexquill/rexquill/Copies") (Or.inr (hw _ (List.mem_of_getElem? (i := 18) rfl))) (Or.inr (hw _ (List.mem_of_getElem? (i := 20) rfl))) (by decide) (t := (.array .int)) (t' := (.array .int)) (by decide) (by decide))), F2.same W, F3.other W (Or.inr (slot_ne (C := "com/example/rexquill/rexquill/Copies") (Or.inr (hw _ (List.mem_of_getElem? (i := 22) rfl))) (Or.inr (hw _ (List.mem_of_getElem? (i := 20) rfl))) (by decide) (t := (.array .int)) (t' := (.array .int)) (by decide) (by decide))), F4.other W (Or.inr (slot_ne (C := "com/example/rexquill/rexquill/Copies") (Or.inr (hw _ (List.mem_of_getElem? (i := 38) rfl))) (Or.inr (hw _ (List.mem_of_getElem? (i := 20) rfl))) (by decide) (t := .int) (t' := (.array .int)) (by decide) (by decide))), F5.other W (Or.inr (slot_ne (C := "com/example/rexquill/rexquill/Copies") (Or.inr (hw _ (List.mem_of_getElem? (i := 40) rfl))) (Or.inr (hw _ (List.mem_of_getElem? (i := 20) rfl))) (by decide) (t := .int) (t' := (.array .int)) (by decide) (by decide))), F6.other W (Or.inr (slot_ne (C := "com/example/rexquill/rexquill/Copies") (Or.inr (hw _ (List.mem_of_getElem? (i := 46) rfl))) (Or.inr (hw _ (List.mem_of_getElem? (i := 20) rfl))) (by decide) (t := .int) (t' := (.array .int)) (by decide) (by decide)))⟩
theorem CP.set_innerRecordCount {Z : State} {h h' : Heap} {a : Addr} {a0 : Array Value} {w : Value} {v0 v1 v2 v3 v4 v5 v6 : Value} (hw : ∀ d ∈ tables_1, d.before a0 Z = true) (R : CP Z h a v0 v1 v2 v3 v4 v5 v6) (W : Wr h h' a (RoadKit.slotOf Z "com/example/rexquill/rexquill/Copies" "innerRecordCount" "[I") w) : CP Z h' a v0 v1 v2 w v4 v5 v6 := by
  obtain ⟨E, F0, F1, F2, F3, F4, F5, F6⟩ := R
  exact ⟨E.wr W, F0.other W (Or.inr (slot_ne (C := "com/example/rexquill/rexquill/Copies") (Or.inr (hw _ (List.mem_of_getElem? (i := 16) rfl))) (Or.inr (hw _ (List.mem_of_getElem? (i := 22) rfl))) (by decide) (t := (.array .int)) (t' := (.array .int)) (by decide) (by decide))), F1.other W (Or.inr (slot_ne (C := "com/example/rexquill/rexquill/Copies") (Or.inr (hw _ (List.mem_of_getElem? (i := 18) rfl))) (Or.inr (hw _ (List.mem_of_getElem? (i := 22) rfl))) (by decide) (t := (.array .int)) (t' := (.array .int)) (by decide) (by decide))), F2.other W (Or.inr (slot_ne (C := "com/example/rexquill/rexquill/Copies") (Or.inr (hw _ (List.mem_of_getElem? (i := 20) rfl))) (Or.inr (hw _ (List.mem_of_getElem? (i := 22) rfl))) (by decide) (t := (.array .int)) (t' := (.array .int)) (by decide) (by decide))), F3.same W, F4.other W (Or.inr (slot_ne (C := "com/example/rexquill/rexquill/Copies") (Or.inr (hw _ (List.mem_of_getElem? (i := 38) rfl))) (Or.inr (hw _ (List.mem_of_getElem? (i := 22) rfl))) (by decide) (t := .int) (t' := (.array .int)) (by decide) (by decide))), F5.other W (Or.inr (slot_ne (C := "com/example/rexquill/rexquill/Copies") (Or.inr (hw _ (List.mem_of_getElem? (i := 40) rfl))) (Or.inr (hw _ (List.mem_of_getElem? (i := 22) rfl))) (by decide) (t := .int) (t' := (.array .int)) (by decide) (by decide))), F6.other W (Or.inr (slot_ne (C := "com/example/rexquill/rexquill/Copies") (Or.inr (hw _ (List.mem_of_getElem? (i := 46) rfl))) (Or.inr (hw _ (List.mem_of_getElem? (i := 22) rfl))) (by decide) (t := .int) (t' := (.array .int)) (by decide) (by decide)))⟩
theorem CP.set_topRecords {Z : State} {h h' : Heap} {a : Addr} {a0 : Array Value} {w : Value} {v0 v1 v2 v3 v4 v5 v6 : Value} (hw : ∀ d ∈ tables_1, d.before a0 Z = true) (R : CP Z h a v0 v1 v2 v3 v4 v5 v6) (W : Wr h h' a (RoadKit.slotOf Z "com/example/rexquill/rexquill/Copies" "topRecords" "I") w) : CP Z h' a v0 v1 v2 v3 w v5 v6 := by
  obtain ⟨E, F0, F1, F2, F3, F4, F5, F6⟩ := R
  exact ⟨E.wr W, F0.other W (Or.inr (slot_ne (C := "com/example/rexquill/rexquill/Copies") (Or.inr (hw _ (List.mem_of_getElem? (i := 16) rfl))) (Or.inr (hw _ (List.mem_of_getElem? (i := 38) rfl))) (by decide) (t := (.array .int)) (t' := .int) (by decide) (by decide))), F1.other W (Or.inr (slot_ne (C := "com/example/rexquill/rexquill/Copies") (Or.inr (hw _ (List.mem_of_getElem? (i := 18) rfl))) (Or.inr (hw _ (List.mem_of_getElem? (i := 38) rfl))) (by decide) (t := (.array .int)) (t' := .int) (by decide) (by decide))), F2.other W (Or.inr (slot_ne (C := "com/example/rexquill/rexquill/Copies") (Or.inr (hw _ (List.mem_of_getElem? (i := 20) rfl))) (Or.inr (hw _ (List.mem_of_getElem? (i := 38) rfl))) (by decide) (t := (.array .int)) (t' := .int) (by decide) (by decide))), F3.other W (Or.inr (slot_ne (C := "com/example/rexquill/rexquill/Copies") (Or.inr (hw _ (List.mem_of_getElem? (i := 22) rfl))) (Or.inr (hw _ (List.mem_of_getElem? (i := 38) rfl))) (by decide) (t := (.array .int)) (t' := .int) (by decide) (by decide))), F4.same W, F5.other W (Or.inr (slot_ne (C := "com/example/rexquill/rexquill/Copies") (Or.inr (hw _ (List.mem_of_getElem? (i := 40) rfl))) (Or.inr (hw _ (List.mem_of_getElem? (i := 38) rfl))) (by decide) (t := .int) (t' := .int) (by decide) (by decide))), F6.other W (Or.inr (slot_ne (C := "com/example/rexquill/rexquill/Copies") (Or.inr (hw _ (List.mem_of_getElem? (i := 46) rfl))) (Or.inr (hw _ (List.mem_of_getElem? (i := 38) rfl))) (by decide) (t := .int) (t' := .int) (by decide) (by decide)))⟩
theorem CP.set_topRecordCount {Z : State} {h h' : Heap} {a : Addr} {a0 : Array Value} {w : Value} {v0 v1 v2 v3 v4 v5 v6 : Value} (hw : ∀ d ∈ tables_1, d.before a0 Z = true) (R : CP Z h a v0 v1 v2 v3 v4 v5 v6) (W : Wr h h' a (RoadKit.slotOf Z "com/example/rexquill/rexquill/Copies" "topRecordCount" "I") w) : CP Z h' a v0 v1 v2 v3 v4 w v6 := by
  obtain ⟨E, F0, F1, F2, F3, F4, F5, F6⟩ := R
  exact ⟨E.wr W, F0.other W (Or.inr (slot_ne (C := "com/example/rexquill/rexquill/Copies") (Or.inr (hw _ (List.mem_of_getElem? (i := 16) rfl))) (Or.inr (hw _ (List.mem_of_getElem? (i := 40) rfl))) (by decide) (t := (.array .int)) (t' := .int) (by decide) (by decide))), F1.other W (Or.inr (slot_ne (C := "com/example/rexquill/rexquill/Copies") (Or.inr (hw _ (List.mem_of_getElem? (i := 18) rfl))) (Or.inr (hw _ (List.mem_of_getElem? (i := 40) rfl))) (by decide) (t := (.array .int)) (t' := .int) (by decide) (by decide))), F2.other W (Or.inr (slot_ne (C := "com/example/rexquill/rexquill/Copies") (Or.inr (hw _ (List.mem_of_getElem? (i := 20) rfl))) (Or.inr (hw _ (List.mem_of_getElem? (i := 40) rfl))) (by decide) (t := (.array .int)) (t' := .int) (by decide) (by decide))), F3.other W (Or.inr (slot_ne (C := "com/example/rexquill/rexquill/Copies") (Or.inr (hw _ (List.mem_of_getElem? (i := 22) rfl))) (Or.inr (hw _ (List.mem_of_getElem? (i := 40) rfl))) (by decide) (t := (.array .int)) (t' := .int) (by decide) (by decide))), F4.other W (Or.inr (slot_ne (C := "com/example/rexquill/rexquill/Copies") (Or.inr (hw _ (List.mem_of_getElem? (i := 38) rfl))) (Or.inr (hw _ (List.mem_of_getElem? (i := 40) rfl))) (by decide) (t := .int) (t' := .int) (by decide) (by decide))), F5.same W, F6.other W (Or.inr (slot_ne (C := "com/example/rexquill/rexquill/Copies") (Or.inr (hw _ (List.mem_of_getElem? (i := 46) rfl))) (Or.inr (hw _ (List.mem_of_getElem? (i := 40) rfl))) (by decide) (t := .int) (t' := .int) (by decide) (by decide)))⟩
theorem CP.set_copyRoom {Z : State} {h h' : Heap} {a : Addr} {a0 : Array Value} {w : Value} {v0 v1 v2 v3 v4 v5 v6 : Value} (hw : ∀ d ∈ tables_1, d.before a0 Z = true) (R : CP Z h a v0 v1 v2 v3 v4 v5 v6) (W : Wr h h' a (RoadKit.slotOf Z "com/example/rexquill/rexquill/Copies" "copyRoom" "I") w) : CP Z h' a v0 v1 v2 v3 v4 v5 w := by
  obtain ⟨E, F0, F1, F2, F3, F4, F5, F6⟩ := R
  exact ⟨E.wr W, F0.other W (Or.inr (slot_ne (C := "com/example/rexquill/rexquill/Copies") (Or.inr (hw _ (List.mem_of_getElem? (i := 16) rfl))) (Or.inr (hw _ (List.mem_of_getElem? (i := 46) rfl))) (by decide) (t := (.array .int)) (t' := .int) (by decide) (by decide))), F1.other W (Or.inr (slot_ne (C := "com/example/rexquill/rexquill/Copies") (Or.inr (hw _ (List.mem_of_getElem? (i := 18) rfl))) (Or.inr (hw _ (List.mem_of_getElem? (i := 46) rfl))) (by decide) (t := (.array .int)) (t' := .int) (by decide) (by decide))), F2.other W (Or.inr (slot_ne (C := "com/example/rexquill/rexquill/Copies") (Or.inr (hw _ (List.mem_of_getElem? (i := 20) rfl))) (Or.inr (hw _ (List.mem_of_getElem? (i := 46) rfl))) (by decide) (t := (.array .int)) (t' := .int) (by decide) (by decide))), F3.other W (Or.inr (slot_ne (C := "com/example/rexquill/rexquill/Copies") (Or.inr (hw _ (List.mem_of_getElem? (i := 22) rfl))) (Or.inr (hw _ (List.mem_of_getElem? (i := 46) rfl))) (by decide) (t := (.array .int)) (t' := .int) (by decide) (by decide))), F4.other W (Or.inr (slot_ne (C := "com/example/rexquill/rexquill/Copies") (Or.inr (hw _ (List.mem_of_getElem? (i := 38) rfl))) (Or.inr (hw _ (List.mem_of_getElem? (i := 46) rfl))) (by decide) (t := .int) (t' := .int) (by decide) (by decide))), F5.other W (Or.inr (slot_ne (C := "com/example/rexquill/rexquill/Copies") (Or.inr (hw _ (List.mem_of_getElem? (i := 40) rfl))) (Or.inr (hw _ (List.mem_of_getElem? (i := 46) rfl))) (by decide) (t := .int) (t' := .int) (by decide) (by decide))), F6.same W⟩
/-- System.arraycopy between int arrays: what the target holds behind it isn't said -/
theorem oArv {Z : State} {h : Heap} {a : Addr} {n : Nat} {g : Nat → Int32} (A : oA Z h a .int n (fun i => .int (g i))) : ∃ k, Arv Z h a k .int n.toInt32 ((List.range n).map fun i => .int (g i)) (.int 0) := by
  obtain ⟨c, A, r1, r2, r3⟩ := A
  have e : n.toInt32.toNatClampNeg = n := by show n.toInt32.toInt.toNat = n; rw [len_toInt r2]; rfl
  have gd : ∀ i, i < n → ((List.range n).map fun i => Value.int (g i)).getD i (.int 0) = .int (g i) := fun i hi => by simp [hi]
  refine ⟨c.cls, c, A, rfl, by rw [r1, e], ?_, fun i hi => ?_, fun i hi => ?_⟩
  · rw [Int32.lt_iff_toInt_lt, len_toInt r2, o0]; omega
  · rw [gd i (by omega)]; exact r3 i (by omega)
  · rw [gd i (by omega)]; rfl
def oUnI : Value → Int32
  | .int x => x
  | _ => 0
theorem oArvBack {Z : State} {h : Heap} {a : Addr} {k : ClassId} {n : Nat} (hn : n < 2147483648) {vs : List Value} {d : Value} (A : Arv Z h a k .int n.toInt32 vs d) : ∃ g : Nat → Int32, oA Z h a .int n (fun i => .int (g i)) := by
  obtain ⟨c, A, -, S, -, H, G⟩ := A
  have e : n.toInt32.toNatClampNeg = n := by show n.toInt32.toInt.toNat = n; rw [len_toInt hn]; rfl
  rw [e] at S
  refine ⟨fun i => oUnI (vs.getD i d), c, A, S, hn, fun i hi => ?_⟩
  rw [H i (by omega)]
  obtain ⟨x, hx⟩ := fit_I (G i (by omega)) (Or.inl rfl)
  have e3 : oUnI (vs.getD i d) = x := by rw [hx]; rfl
  show some (vs.getD i d) = some (.int (oUnI (vs.getD i d)))
  rw [e3, hx]
theorem ow_acopy {Z : State} {ω : OW} {γ : OG} {κ : OM} {Q : Option Value → Heap → Prop} {T : State} {h : Heap} {cs ss : Nat} {pc : Nat} {L : Array Slot} {S : List Value} (X : oSt Z ω γ κ T h cs ss) (pc' i1 i2 i3 i4 : Nat) {own : String} {idx : Nat} {a b : Addr} {n n' : Nat} {g g' : Nat → Int32} {sp dp nn : Int32} {W : Nat}
    (w1 : tables_1[i1]? = some (.methodLink own idx Jvm.Stand.acN)) (ho : κ.2.2.1 = own) (w2 : tables_1[i2]? = some (.native Jvm.Stand.acN)) (w3 : tables_1[i3]? = some (.static Jvm.Stand.acN)) (w4 : tables_1[i4]? = some (.initialized "java/lang/System"))
    (A : oA Z h a .int n (fun i => .int (g i))) (B : oA Z h b .int n' (fun i => .int (g' i))) (hb1 : ω.2.1 ≤ b) (h1 : 0 ≤ sp.toInt) (h2 : 0 ≤ dp.toInt) (h3 : 0 ≤ nn.toInt) (h4 : sp.toInt + nn.toInt ≤ n) (h5 : dp.toInt + nn.toInt ≤ n') (hL : L.size = κ.2.1) (hd : decode κ.1 pc = .ok (.invokestatic idx, 3)) (hp : pc + 3 = pc')
    (hf : 1 ≤ κ.2.2.2.2.2.frames) (hW : (S.map fun v => v.category).sum ≤ W) (hl : W + (nativeFrameWords "java/lang/System" "arraycopy" 5 + 11) ≤ κ.2.2.2.2.2.locals)
    (K : ∀ T' h' (gg : Nat → Int32), oSt Z ω γ κ T' h' cs ss → Keep h h' [b] → oA Z h' b .int n' (fun i => .int (gg i)) → oWP ω γ κ Q T' pc' L S) : oWP ω γ κ Q T pc L (.int nn :: .int dp :: .ref b :: .int sp :: .ref a :: S) := by
  have w1' := oSt_at X i1 w1
  have w2' := oSt_at X i2 w2
  have w3' := oSt_at X i3 w3
  have w4' := oSt_at X i4 w4
  have hn := A.small
  have hn' := B.small
  obtain ⟨ka, A'⟩ := oArv A
  obtain ⟨kb, B'⟩ := oArv B
  obtain ⟨hx, hby, hml, hown, hnm, hr, hlk, hZ, hT1, hn0, hT, locs, Y, N⟩ := X
  subst hp ho
  have e1 : n.toInt32.toNatClampNeg = n := by show n.toInt32.toInt.toNat = n; rw [len_toInt hn]; rfl
  have e2 : n'.toInt32.toNatClampNeg = n' := by show n'.toInt32.toInt.toNat = n'; rw [len_toInt hn']; rfl
  have neg : ∀ x : Int32, 0 ≤ x.toInt → ¬ x < 0 := fun x q => by rw [Int32.lt_iff_toInt_lt, o0]; omega
  obtain ⟨T', h', L', Y', e', N', Kp, B'', st⟩ := cpA Y hx hZ hown w1' w2' w3' w4' hT A' B' (Or.inl ⟨rfl, rfl⟩) (neg _ h1) (neg _ h2) (neg _ h3) (by rw [e1]; show sp.toInt.toNat + nn.toInt.toNat ≤ n; omega) (by rw [e2]; show dp.toInt.toNat + nn.toInt.toNat ≤ n'; omega) rfl (by rw [List.length_map, List.length_range]; show dp.toInt.toNat + nn.toInt.toNat ≤ n'; omega) N hb1 (g := mkF γ.2.2.2.1 pc L (.int nn :: .int dp :: .ref b :: .int sp :: .ref a :: S)) rfl (by rw [hml]; exact hL) rfl (hb hby hd) hf (W := W) (by show 2 * 0 + _ ≤ _; omega) hl
  obtain ⟨gg, B3⟩ := oArvBack hn' B''
  obtain ⟨s₂, o, hs, r⟩ := K T' h' gg ⟨hx, hby, hml, hown, hnm, hr, hlk, hZ, hT1, hn0, e', _, Y', N'⟩ Kp B3
  exact ⟨s₂, o, st _ hs, r⟩
theorem own_add (x y : Int32) (h1 : -2147483648 ≤ x.toInt + y.toInt) (h2 : x.toInt + y.toInt < 2147483648) : (x + y).toInt = x.toInt + y.toInt := by
  have := c_iadd x y; have := rng32 (x + y); omega
theorem own_sub (x y : Int32) (h1 : -2147483648 ≤ x.toInt - y.toInt) (h2 : x.toInt - y.toInt < 2147483648) : (x - y).toInt = x.toInt - y.toInt := by
  have := c_isub x y; have := rng32 (x - y); omega
theorem own_addk (x k : Int32) (K : Int) (hk : k.toInt = K) (h0 : 0 ≤ K) (h : x.toInt + K < 2147483648) : (x + k).toInt = x.toInt + K := by
  subst hk; have := rng32 x; exact own_add x k (by omega) h
theorem own_subk (x k : Int32) (K : Int) (hk : k.toInt = K) (h0 : 0 ≤ K) (h : -2147483648 ≤ x.toInt - K) : (x - k).toInt = x.toInt - K := by
  subst hk; have := rng32 x; exact own_sub x k h (by omega)
theorem own_dec (i : Int32) (h : 0 < i.toInt) : (i + (-1 : Int32)).toInt = i.toInt - 1 := by
  have em : (-1 : Int32).toInt = -1 := rfl
  have r := rng32 i
  rw [own_add i (-1) (by omega) (by omega), em, Int.sub_eq_add_neg]
theorem own_d6 (k : Int32) (h : 0 ≤ k.toInt) : (k / (6 : Int32)).toInt = k.toInt / 6 := (c_idiv k 6 6 rfl (by decide)).1 h
theorem own_six (w k : Int32) (n : Nat) (h0 : 0 ≤ k.toInt) (h1 : k.toInt + 5 < n) (hn : (n : Int) < 2147483648) : (k + (1 : Int32)).toInt = k.toInt + 1 ∧ (k + (2 : Int32)).toInt = k.toInt + 2 ∧ (k + (3 : Int32)).toInt = k.toInt + 3 ∧ (k + (4 : Int32)).toInt = k.toInt + 4 ∧ (k + (5 : Int32)).toInt = k.toInt + 5 :=
  ⟨own_addk k 1 1 rfl (by decide) (by omega), own_addk k 2 2 rfl (by decide) (by omega), own_addk k 3 3 rfl (by decide) (by omega), own_addk k 4 4 rfl (by decide) (by omega), own_addk k 5 5 rfl (by decide) (by omega)⟩
theorem d4_0 : decode prog_20_method_17_code 0 = .ok (.aload_n 0, 1) := by decide +kernel
theorem d4_1 : decode prog_20_method_17_code 1 = .ok (.iload_n 1, 1) := by decide +kernel
theorem d4_2 : decode prog_20_method_17_code 2 = .ok (.iconst 2, 1) := by decide +kernel
theorem d4_3 : decode prog_20_method_17_code 3 = .ok (.iadd, 1) := by decide +kernel
theorem d4_4 : decode prog_20_method_17_code 4 = .ok (.iaload, 1) := by decide +kernel
theorem d4_5 : decode prog_20_method_17_code 5 = .ok (.aload_n 0, 1) := by decide +kernel
theorem d4_6 : decode prog_20_method_17_code 6 = .ok (.iload_n 1, 1) := by decide +kernel
theorem d4_7 : decode prog_20_method_17_code 7 = .ok (.iaload, 1) := by decide +kernel
theorem d4_8 : decode prog_20_method_17_code 8 = .ok (.isub, 1) := by decide +kernel
theorem d4_9 : decode prog_20_method_17_code 9 = .ok (.aload_n 0, 1) := by decide +kernel
theorem d4_10 : decode prog_20_method_17_code 10 = .ok (.iload_n 1, 1) := by decide +kernel
theorem d4_11 : decode prog_20_method_17_code 11 = .ok (.iconst 1, 1) := by decide +kernel
theorem d4_12 : decode prog_20_method_17_code 12 = .ok (.iadd, 1) := by decide +kernel
theorem d4_13 : decode prog_20_method_17_code 13 = .ok (.iaload, 1) := by decide +kernel
theorem d4_14 : decode prog_20_method_17_code 14 = .ok (.idiv, 1) := by decide +kernel
theorem d4_15 : decode prog_20_method_17_code 15 = .ok (.aload_n 0, 1) := by decide +kernel
theorem d4_16 : decode prog_20_method_17_code 16 = .ok (.iload_n 1, 1) := by decide +kernel
theorem d4_17 : decode prog_20_method_17_code 17 = .ok (.iconst 4, 1) := by decide +kernel
theorem d4_18 : decode prog_20_method_17_code 18 = .ok (.iadd, 1) := by decide +kernel
theorem d4_19 : decode prog_20_method_17_code 19 = .ok (.iaload, 1) := by decide +kernel
theorem d4_20 : decode prog_20_method_17_code 20 = .ok (.aload_n 0, 1) := by decide +kernel
theorem d4_21 : decode prog_20_method_17_code 21 = .ok (.iload_n 1, 1) := by decide +kernel
theorem d4_22 : decode prog_20_method_17_code 22 = .ok (.iconst 3, 1) := by decide +kernel
theorem d4_23 : decode prog_20_method_17_code 23 = .ok (.iadd, 1) := by decide +kernel
theorem d4_24 : decode prog_20_method_17_code 24 = .ok (.iaload, 1) := by decide +kernel
theorem d4_25 : decode prog_20_method_17_code 25 = .ok (.isub, 1) := by decide +kernel
theorem d4_26 : decode prog_20_method_17_code 26 = .ok (.isub, 1) := by decide +kernel
theorem d4_27 : decode prog_20_method_17_code 27 = .ok (.ireturn, 1) := by decide +kernel
def k4 : OM := (prog_20_method_17_code, 2, "com/example/rexquill/rexquill/Copies", "firstOptionalCopy", (some .int), { frames := 0, cells := 0, slots := 0, locals := 0 })
theorem pn4 : plainFor (⟨"com/example/rexquill/rexquill/Copies", "firstOptionalCopy", "([II)I"⟩ : MethodName) = true := plainFor_of_name (by first | (simp [plainName, overriddenIn]; done) | decide +kernel)
theorem pd4 : parseMethodDescriptor "([II)I" = some ⟨[(.array .int), .int], (some .int)⟩ := by decide +kernel
set_option maxRecDepth 65536 in
set_option maxHeartbeats 4000000 in
theorem C_foc {Z : State} {ω : OW} {h : Heap} (hw_ : ∀ d ∈ tables_1, d.before ω.2.2 Z = true) (hn_ : ω.2.1 ≤ h.size) (w : Addr) (k : Int32) (n : Nat) (G : Nat → Int32) (A0 : oA Z h w .int n (fun i_ => .int (G i_))) (hk0 : 0 ≤ k.toInt) (hk1 : k.toInt + 5 < n) (hn : (n : Int) < 2147483648) (hz : G (k + (1 : Int32)).toInt.toNat ≠ 0) :
    oC Z ω (⟨"com/example/rexquill/rexquill/Copies", "firstOptionalCopy", "([II)I"⟩ : MethodName) k4 [] #[.ref w, .int k] h (fun v h' => ∃ z : Int32, v = some (.int z) ∧ h = h') := by
  refine oC_of hw_ hn_ pn4 rfl rfl (L := #[.val (.ref w), .val (.int k)]) (fun m => by first | (simp [entryFrame, mkF, argsToLocals, Value.category, k4]; done) | rfl) ?_
  intro γ T X
  obtain ⟨x1, x2, x3, x4, x5⟩ := own_six 0 k n hk0 hk1 hn
  refine ow_aloadN X 1 d4_0 rfl rfl rfl ?_
  refine ow_iloadN X 2 d4_1 rfl rfl ?_
  refine ow_iconst X 3 (2 : Int32) d4_2 rfl rfl ?_
  refine ow_iadd X 4 d4_3 rfl ?_
  refine ow_iaload X 5 A0 d4_4 rfl (by omega) (by omega) rfl ?_
  refine ow_aloadN X 6 d4_5 rfl rfl rfl ?_
  refine ow_iloadN X 7 d4_6 rfl rfl ?_
  refine ow_iaload X 8 A0 d4_7 rfl (by omega) (by omega) rfl ?_
  refine ow_isub X 9 d4_8 rfl ?_
  refine ow_aloadN X 10 d4_9 rfl rfl rfl ?_
  refine ow_iloadN X 11 d4_10 rfl rfl ?_
  refine ow_iconst X 12 (1 : Int32) d4_11 rfl rfl ?_
  refine ow_iadd X 13 d4_12 rfl ?_
  refine ow_iaload X 14 A0 d4_13 rfl (by omega) (by omega) rfl ?_
  refine ow_idiv X 15 d4_14 rfl hz ?_
  refine ow_aloadN X 16 d4_15 rfl rfl rfl ?_
  refine ow_iloadN X 17 d4_16 rfl rfl ?_
  refine ow_iconst X 18 (4 : Int32) d4_17 rfl rfl ?_
  refine ow_iadd X 19 d4_18 rfl ?_
  refine ow_iaload X 20 A0 d4_19 rfl (by omega) (by omega) rfl ?_
  refine ow_aloadN X 21 d4_20 rfl rfl rfl ?_
  refine ow_iloadN X 22 d4_21 rfl rfl ?_
  refine ow_iconst X 23 (3 : Int32) d4_22 rfl rfl ?_
  refine ow_iadd X 24 d4_23 rfl ?_
  refine ow_iaload X 25 A0 d4_24 rfl (by omega) (by omega) rfl ?_
  refine ow_isub X 26 d4_25 rfl ?_
  refine ow_isub X 27 d4_26 rfl ?_
  refine ow_retI X rfl d4_27 (by decide) (by decide) ?_
  exact ⟨_, rfl, rfl⟩
theorem d5_0 : decode prog_20_method_16_code 0 = .ok (.aload_n 0, 1) := by decide +kernel
theorem d5_1 : decode prog_20_method_16_code 1 = .ok (.iload_n 1, 1) := by decide +kernel
theorem d5_2 : decode prog_20_method_16_code 2 = .ok (.iconst 2, 1) := by decide +kernel
theorem d5_3 : decode prog_20_method_16_code 3 = .ok (.iadd, 1) := by decide +kernel
theorem d5_4 : decode prog_20_method_16_code 4 = .ok (.iaload, 1) := by decide +kernel
theorem d5_5 : decode prog_20_method_16_code 5 = .ok (.aload_n 0, 1) := by decide +kernel
theorem d5_6 : decode prog_20_method_16_code 6 = .ok (.iload_n 1, 1) := by decide +kernel
theorem d5_7 : decode prog_20_method_16_code 7 = .ok (.iaload, 1) := by decide +kernel
theorem d5_8 : decode prog_20_method_16_code 8 = .ok (.isub, 1) := by decide +kernel
theorem d5_9 : decode prog_20_method_16_code 9 = .ok (.aload_n 0, 1) := by decide +kernel
theorem d5_10 : decode prog_20_method_16_code 10 = .ok (.iload_n 1, 1) := by decide +kernel
theorem d5_11 : decode prog_20_method_16_code 11 = .ok (.iconst 1, 1) := by decide +kernel
theorem d5_12 : decode prog_20_method_16_code 12 = .ok (.iadd, 1) := by decide +kernel
theorem d5_13 : decode prog_20_method_16_code 13 = .ok (.iaload, 1) := by decide +kernel
theorem d5_14 : decode prog_20_method_16_code 14 = .ok (.idiv, 1) := by decide +kernel
theorem d5_15 : decode prog_20_method_16_code 15 = .ok (.istore_n 3, 1) := by decide +kernel
theorem d5_16 : decode prog_20_method_16_code 16 = .ok (.iload_n 2, 1) := by decide +kernel
theorem d5_17 : decode prog_20_method_16_code 17 = .ok (.aload_n 0, 1) := by decide +kernel
theorem d5_18 : decode prog_20_method_16_code 18 = .ok (.iload_n 1, 1) := by decide +kernel
theorem d5_19 : decode prog_20_method_16_code 19 = .ok (.invokestatic 28, 3) := by decide +kernel
theorem d5_22 : decode prog_20_method_16_code 22 = .ok (.if_icmp .ge 7, 3) := by decide +kernel
theorem d5_25 : decode prog_20_method_16_code 25 = .ok (.lconst 0, 1) := by decide +kernel
theorem d5_26 : decode prog_20_method_16_code 26 = .ok (.goto 14, 3) := by decide +kernel
theorem d5_29 : decode prog_20_method_16_code 29 = .ok (.iload_n 3, 1) := by decide +kernel
theorem d5_30 : decode prog_20_method_16_code 30 = .ok (.iload_n 2, 1) := by decide +kernel
theorem d5_31 : decode prog_20_method_16_code 31 = .ok (.isub, 1) := by decide +kernel
theorem d5_32 : decode prog_20_method_16_code 32 = .ok (.i2l, 1) := by decide +kernel
theorem d5_33 : decode prog_20_method_16_code 33 = .ok (.aload_n 0, 1) := by decide +kernel
theorem d5_34 : decode prog_20_method_16_code 34 = .ok (.iload_n 1, 1) := by decide +kernel
theorem d5_35 : decode prog_20_method_16_code 35 = .ok (.iconst 5, 1) := by decide +kernel
theorem d5_36 : decode prog_20_method_16_code 36 = .ok (.iadd, 1) := by decide +kernel
theorem d5_37 : decode prog_20_method_16_code 37 = .ok (.iaload, 1) := by decide +kernel
theorem d5_38 : decode prog_20_method_16_code 38 = .ok (.i2l, 1) := by decide +kernel
theorem d5_39 : decode prog_20_method_16_code 39 = .ok (.lmul, 1) := by decide +kernel
theorem d5_40 : decode prog_20_method_16_code 40 = .ok (.lreturn, 1) := by decide +kernel
def k5 : OM := (prog_20_method_16_code, 4, "com/example/rexquill/rexquill/Copies", "room", (some .long), { frames := 1, cells := 0, slots := 0, locals := 14 })
theorem pn5 : plainFor (⟨"com/example/rexquill/rexquill/Copies", "room", "([III)J"⟩ : MethodName) = true := plainFor_of_name (by first | (simp [plainName, overriddenIn]; done) | decide +kernel)
theorem pd5 : parseMethodDescriptor "([III)J" = some ⟨[(.array .int), .int, .int], (some .long)⟩ := by decide +kernel
set_option maxRecDepth 65536 in
set_option maxHeartbeats 4000000 in
theorem C_room {Z : State} {ω : OW} {h : Heap} (hw_ : ∀ d ∈ tables_1, d.before ω.2.2 Z = true) (hn_ : ω.2.1 ≤ h.size) (w : Addr) (k c : Int32) (n : Nat) (G : Nat → Int32) (A0 : oA Z h w .int n (fun i_ => .int (G i_))) (hk0 : 0 ≤ k.toInt) (hk1 : k.toInt + 5 < n) (hn : (n : Int) < 2147483648) (hz : G (k + (1 : Int32)).toInt.toNat ≠ 0) :
    oC Z ω (⟨"com/example/rexquill/rexquill/Copies", "room", "([III)J"⟩ : MethodName) k5 [] #[.ref w, .int k, .int c] h (fun v h' => ∃ z : Int64, v = some (.long z) ∧ h = h') := by
  refine oC_of hw_ hn_ pn5 rfl rfl (L := #[.val (.ref w), .val (.int k), .val (.int c), .unset]) (fun m => by first | (simp [entryFrame, mkF, argsToLocals, Value.category, k5]; done) | rfl) ?_
  intro γ T X
  obtain ⟨x1, x2, x3, x4, x5⟩ := own_six 0 k n hk0 hk1 hn
  refine ow_aloadN X 1 d5_0 rfl rfl rfl ?_
  refine ow_iloadN X 2 d5_1 rfl rfl ?_
  refine ow_iconst X 3 (2 : Int32) d5_2 rfl rfl ?_
  refine ow_iadd X 4 d5_3 rfl ?_
  refine ow_iaload X 5 A0 d5_4 rfl (by omega) (by omega) rfl ?_
  refine ow_aloadN X 6 d5_5 rfl rfl rfl ?_
  refine ow_iloadN X 7 d5_6 rfl rfl ?_
  refine ow_iaload X 8 A0 d5_7 rfl (by omega) (by omega) rfl ?_
  refine ow_isub X 9 d5_8 rfl ?_
  refine ow_aloadN X 10 d5_9 rfl rfl rfl ?_
  refine ow_iloadN X 11 d5_10 rfl rfl ?_
  refine ow_iconst X 12 (1 : Int32) d5_11 rfl rfl ?_
  refine ow_iadd X 13 d5_12 rfl ?_
  refine ow_iaload X 14 A0 d5_13 rfl (by omega) (by omega) rfl ?_
  refine ow_idiv X 15 d5_14 rfl hz ?_
  refine ow_istoreN X 16 (L' := #[.val (.ref w), .val (.int k), .val (.int c), .val (.int (((G (k + (2 : Int32)).toInt.toNat) - (G k.toInt.toNat)) / (G (k + (1 : Int32)).toInt.toNat)))]) d5_15 rfl rfl ?_
  refine ow_iloadN X 17 d5_16 rfl rfl ?_
  refine ow_aloadN X 18 d5_17 rfl rfl rfl ?_
  refine ow_iloadN X 19 d5_18 rfl rfl ?_
  refine ow_callS X 22 27 28 8 29 (κ' := k4) (as := [.ref w, .int k]) (S := [.int c]) (W := 1) rfl rfl rfl rfl rfl (by decide) (C_foc (oSt_w X) (oSt_n0 X) w k n G A0 hk0 hk1 hn hz) (by decide) (by decide) (Nat.le_of_eq rfl) (by decide) (by decide) pd4 rfl rfl rfl d5_19 rfl ?_
  intro v_1 T_1 h_1 X_1 q_1
  obtain ⟨z1, rfl, rfl⟩ := q_1
  show oWP ω γ k5 _ T_1 22 #[.val (.ref w), .val (.int k), .val (.int c), .val (.int (((G (k + (2 : Int32)).toInt.toNat) - (G k.toInt.toNat)) / (G (k + (1 : Int32)).toInt.toNat)))] [.int z1, .int c]
  refine ow_icmp_ge X_1 25 29 d5_22 rfl rfl (fun (c22 : z1.toInt ≤ c.toInt) => ?_) (fun (c22 : c.toInt < z1.toInt) => ?_)
  · refine ow_iloadN X_1 30 d5_29 rfl rfl ?_
    refine ow_iloadN X_1 31 d5_30 rfl rfl ?_
    refine ow_isub X_1 32 d5_31 rfl ?_
    refine ow_i2l X_1 33 d5_32 rfl ?_
    refine ow_aloadN X_1 34 d5_33 rfl rfl rfl ?_
    refine ow_iloadN X_1 35 d5_34 rfl rfl ?_
    refine ow_iconst X_1 36 (5 : Int32) d5_35 rfl rfl ?_
    refine ow_iadd X_1 37 d5_36 rfl ?_
    refine ow_iaload X_1 38 A0 d5_37 rfl (by omega) (by omega) rfl ?_
    refine ow_i2l X_1 39 d5_38 rfl ?_
    refine ow_lmul X_1 40 d5_39 rfl ?_
    refine ow_retJ X_1 rfl d5_40 (by decide) (by decide) ?_
    exact ⟨_, rfl, rfl⟩
  · refine ow_lconst X_1 26 (0 : Int64) d5_25 rfl rfl ?_
    refine ow_goto X_1 40 d5_26 rfl ?_
    refine ow_retJ X_1 rfl d5_40 (by decide) (by decide) ?_
    exact ⟨_, rfl, rfl⟩
theorem d6_0 : decode jdk_29_method_66_code 0 = .ok (.lload_n 0, 1) := by decide +kernel
theorem d6_1 : decode jdk_29_method_66_code 1 = .ok (.lload_n 2, 1) := by decide +kernel
theorem d6_2 : decode jdk_29_method_66_code 2 = .ok (.lcmp, 1) := by decide +kernel
theorem d6_3 : decode jdk_29_method_66_code 3 = .ok (.ifCond .lt 7, 3) := by decide +kernel
theorem d6_6 : decode jdk_29_method_66_code 6 = .ok (.lload_n 0, 1) := by decide +kernel
theorem d6_7 : decode jdk_29_method_66_code 7 = .ok (.goto 4, 3) := by decide +kernel
theorem d6_10 : decode jdk_29_method_66_code 10 = .ok (.lload_n 2, 1) := by decide +kernel
theorem d6_11 : decode jdk_29_method_66_code 11 = .ok (.lreturn, 1) := by decide +kernel
def k6 : OM := (jdk_29_method_66_code, 4, "java/lang/Math", "max", (some .long), { frames := 0, cells := 0, slots := 0, locals := 0 })
theorem pn6 : plainFor (⟨"java/lang/Math", "max", "(JJ)J"⟩ : MethodName) = true := by decide +kernel
theorem pd6 : parseMethodDescriptor "(JJ)J" = some ⟨[.long, .long], (some .long)⟩ := by decide +kernel
set_option maxRecDepth 65536 in
set_option maxHeartbeats 4000000 in
theorem C_maxJ {Z : State} {ω : OW} {h : Heap} (hw_ : ∀ d ∈ tables_1, d.before ω.2.2 Z = true) (hn_ : ω.2.1 ≤ h.size) (x y : Int64) :
    oC Z ω (⟨"java/lang/Math", "max", "(JJ)J"⟩ : MethodName) k6 [] #[.long x, .long y] h (fun v h' => ∃ z : Int64, v = some (.long z) ∧ h = h') := by
  refine oC_of hw_ hn_ pn6 rfl rfl (L := #[.val (.long x), .second, .val (.long y), .second]) (fun m => by first | (simp [entryFrame, mkF, argsToLocals, Value.category, k6]; done) | rfl) ?_
  intro γ T X
  refine ow_lloadN X 1 d6_0 rfl rfl ?_
  refine ow_lloadN X 2 d6_1 rfl rfl ?_
  refine ow_lcmp_lt X 3 6 10 d6_2 rfl d6_3 rfl rfl (fun (c2 : x.toInt < y.toInt) => ?_) (fun (c2 : y.toInt ≤ x.toInt) => ?_)
  · refine ow_lloadN X 11 d6_10 rfl rfl ?_
    refine ow_retJ X rfl d6_11 (by decide) (by decide) ?_
    exact ⟨_, rfl, rfl⟩
  · refine ow_lloadN X 7 d6_6 rfl rfl ?_
    refine ow_goto X 11 d6_7 rfl ?_
    refine ow_retJ X rfl d6_11 (by decide) (by decide) ?_
    exact ⟨_, rfl, rfl⟩
theorem d7_0 : decode jdk_29_method_70_code 0 = .ok (.lload_n 0, 1) := by decide +kernel
theorem d7_1 : decode jdk_29_method_70_code 1 = .ok (.lload_n 2, 1) := by decide +kernel
theorem d7_2 : decode jdk_29_method_70_code 2 = .ok (.lcmp, 1) := by decide +kernel
theorem d7_3 : decode jdk_29_method_70_code 3 = .ok (.ifCond .gt 7, 3) := by decide +kernel
theorem d7_6 : decode jdk_29_method_70_code 6 = .ok (.lload_n 0, 1) := by decide +kernel
theorem d7_7 : decode jdk_29_method_70_code 7 = .ok (.goto 4, 3) := by decide +kernel
theorem d7_10 : decode jdk_29_method_70_code 10 = .ok (.lload_n 2, 1) := by decide +kernel
theorem d7_11 : decode jdk_29_method_70_code 11 = .ok (.lreturn, 1) := by decide +kernel
def k7 : OM := (jdk_29_method_70_code, 4, "java/lang/Math", "min", (some .long), { frames := 0, cells := 0, slots := 0, locals := 0 })
theorem pn7 : plainFor (⟨"java/lang/Math", "min", "(JJ)J"⟩ : MethodName) = true := by decide +kernel
theorem pd7 : parseMethodDescriptor "(JJ)J" = some ⟨[.long, .long], (some .long)⟩ := by decide +kernel
set_option maxRecDepth 65536 in
set_option maxHeartbeats 4000000 in
theorem C_minJ {Z : State} {ω : OW} {h : Heap} (hw_ : ∀ d ∈ tables_1, d.before ω.2.2 Z = true) (hn_ : ω.2.1 ≤ h.size) (x y : Int64) :
    oC Z ω (⟨"java/lang/Math", "min", "(JJ)J"⟩ : MethodName) k7 [] #[.long x, .long y] h (fun v h' => ∃ z : Int64, v = some (.long z) ∧ h = h') := by
  refine oC_of hw_ hn_ pn7 rfl rfl (L := #[.val (.long x), .second, .val (.long y), .second]) (fun m => by first | (simp [entryFrame, mkF, argsToLocals, Value.category, k7]; done) | rfl) ?_
  intro γ T X
  refine ow_lloadN X 1 d7_0 rfl rfl ?_
  refine ow_lloadN X 2 d7_1 rfl rfl ?_
  refine ow_lcmp_gt X 3 6 10 d7_2 rfl d7_3 rfl rfl (fun (c2 : y.toInt < x.toInt) => ?_) (fun (c2 : x.toInt ≤ y.toInt) => ?_)
  · refine ow_lloadN X 11 d7_10 rfl rfl ?_
    refine ow_retJ X rfl d7_11 (by decide) (by decide) ?_
    exact ⟨_, rfl, rfl⟩
  · refine ow_lloadN X 7 d7_6 rfl rfl ?_
    refine ow_goto X 11 d7_7 rfl ?_
    refine ow_retJ X rfl d7_11 (by decide) (by decide) ?_
    exact ⟨_, rfl, rfl⟩
theorem d2_0 : decode prog_20_method_1_code 0 = .ok (.aload_n 0, 1) := by decide +kernel
theorem d2_1 : decode prog_20_method_1_code 1 = .ok (.invokespecial 1, 3) := by decide +kernel
theorem d2_4 : decode prog_20_method_1_code 4 = .ok (.aload_n 0, 1) := by decide +kernel
theorem d2_5 : decode prog_20_method_1_code 5 = .ok (.aload_n 1, 1) := by decide +kernel
theorem d2_6 : decode prog_20_method_1_code 6 = .ok (.putfield 7, 3) := by decide +kernel
theorem d2_9 : decode prog_20_method_1_code 9 = .ok (.aload_n 1, 1) := by decide +kernel
theorem d2_10 : decode prog_20_method_1_code 10 = .ok (.arraylength, 1) := by decide +kernel
theorem d2_11 : decode prog_20_method_1_code 11 = .ok (.bipush 6, 2) := by decide +kernel
theorem d2_13 : decode prog_20_method_1_code 13 = .ok (.idiv, 1) := by decide +kernel
theorem d2_14 : decode prog_20_method_1_code 14 = .ok (.istore_n 2, 1) := by decide +kernel
theorem d2_15 : decode prog_20_method_1_code 15 = .ok (.aload_n 0, 1) := by decide +kernel
theorem d2_16 : decode prog_20_method_1_code 16 = .ok (.iload_n 2, 1) := by decide +kernel
theorem d2_17 : decode prog_20_method_1_code 17 = .ok (.newarray .int, 2) := by decide +kernel
theorem d2_19 : decode prog_20_method_1_code 19 = .ok (.putfield 13, 3) := by decide +kernel
theorem d2_22 : decode prog_20_method_1_code 22 = .ok (.aload_n 0, 1) := by decide +kernel
theorem d2_23 : decode prog_20_method_1_code 23 = .ok (.iload_n 2, 1) := by decide +kernel
theorem d2_24 : decode prog_20_method_1_code 24 = .ok (.newarray .int, 2) := by decide +kernel
theorem d2_26 : decode prog_20_method_1_code 26 = .ok (.putfield 16, 3) := by decide +kernel
theorem d2_29 : decode prog_20_method_1_code 29 = .ok (.aload_n 0, 1) := by decide +kernel
theorem d2_30 : decode prog_20_method_1_code 30 = .ok (.iload_n 2, 1) := by decide +kernel
theorem d2_31 : decode prog_20_method_1_code 31 = .ok (.newarray .int, 2) := by decide +kernel
theorem d2_33 : decode prog_20_method_1_code 33 = .ok (.putfield 19, 3) := by decide +kernel
theorem d2_36 : decode prog_20_method_1_code 36 = .ok (.iload_n 2, 1) := by decide +kernel
theorem d2_37 : decode prog_20_method_1_code 37 = .ok (.newarray .int, 2) := by decide +kernel
theorem d2_39 : decode prog_20_method_1_code 39 = .ok (.astore_n 3, 1) := by decide +kernel
theorem d2_40 : decode prog_20_method_1_code 40 = .ok (.iconst 0, 1) := by decide +kernel
theorem d2_41 : decode prog_20_method_1_code 41 = .ok (.istore 4, 2) := by decide +kernel
theorem d2_43 : decode prog_20_method_1_code 43 = .ok (.iconst 0, 1) := by decide +kernel
theorem d2_44 : decode prog_20_method_1_code 44 = .ok (.istore 5, 2) := by decide +kernel
theorem d2_46 : decode prog_20_method_1_code 46 = .ok (.lconst 0, 1) := by decide +kernel
theorem d2_47 : decode prog_20_method_1_code 47 = .ok (.lstore 6, 2) := by decide +kernel
theorem d2_49 : decode prog_20_method_1_code 49 = .ok (.iconst 0, 1) := by decide +kernel
theorem d2_50 : decode prog_20_method_1_code 50 = .ok (.istore 8, 2) := by decide +kernel
theorem d2_52 : decode prog_20_method_1_code 52 = .ok (.iload 8, 2) := by decide +kernel
theorem d2_54 : decode prog_20_method_1_code 54 = .ok (.aload_n 1, 1) := by decide +kernel
theorem d2_55 : decode prog_20_method_1_code 55 = .ok (.arraylength, 1) := by decide +kernel
theorem d2_56 : decode prog_20_method_1_code 56 = .ok (.if_icmp .ge 125, 3) := by decide +kernel
theorem d2_59 : decode prog_20_method_1_code 59 = .ok (.iload 4, 2) := by decide +kernel
theorem d2_61 : decode prog_20_method_1_code 61 = .ok (.istore 9, 2) := by decide +kernel
theorem d2_63 : decode prog_20_method_1_code 63 = .ok (.iload 9, 2) := by decide +kernel
theorem d2_65 : decode prog_20_method_1_code 65 = .ok (.ifCond .le 24, 3) := by decide +kernel
theorem d2_68 : decode prog_20_method_1_code 68 = .ok (.aload_n 1, 1) := by decide +kernel
theorem d2_69 : decode prog_20_method_1_code 69 = .ok (.aload_n 3, 1) := by decide +kernel
theorem d2_70 : decode prog_20_method_1_code 70 = .ok (.iload 9, 2) := by decide +kernel
theorem d2_72 : decode prog_20_method_1_code 72 = .ok (.iconst 1, 1) := by decide +kernel
theorem d2_73 : decode prog_20_method_1_code 73 = .ok (.isub, 1) := by decide +kernel
theorem d2_74 : decode prog_20_method_1_code 74 = .ok (.iaload, 1) := by decide +kernel
theorem d2_75 : decode prog_20_method_1_code 75 = .ok (.iaload, 1) := by decide +kernel
theorem d2_76 : decode prog_20_method_1_code 76 = .ok (.aload_n 1, 1) := by decide +kernel
theorem d2_77 : decode prog_20_method_1_code 77 = .ok (.iload 8, 2) := by decide +kernel
theorem d2_79 : decode prog_20_method_1_code 79 = .ok (.iaload, 1) := by decide +kernel
theorem d2_80 : decode prog_20_method_1_code 80 = .ok (.if_icmp .lt 9, 3) := by decide +kernel
theorem d2_83 : decode prog_20_method_1_code 83 = .ok (.iinc 9 (-1), 3) := by decide +kernel
theorem d2_86 : decode prog_20_method_1_code 86 = .ok (.goto (-23), 3) := by decide +kernel
theorem d2_89 : decode prog_20_method_1_code 89 = .ok (.aload_n 0, 1) := by decide +kernel
theorem d2_90 : decode prog_20_method_1_code 90 = .ok (.getfield 16, 3) := by decide +kernel
theorem d2_93 : decode prog_20_method_1_code 93 = .ok (.iload 8, 2) := by decide +kernel
theorem d2_95 : decode prog_20_method_1_code 95 = .ok (.bipush 6, 2) := by decide +kernel
theorem d2_97 : decode prog_20_method_1_code 97 = .ok (.idiv, 1) := by decide +kernel
theorem d2_98 : decode prog_20_method_1_code 98 = .ok (.iload 5, 2) := by decide +kernel
theorem d2_100 : decode prog_20_method_1_code 100 = .ok (.iastore, 1) := by decide +kernel
theorem d2_101 : decode prog_20_method_1_code 101 = .ok (.aload_n 0, 1) := by decide +kernel
theorem d2_102 : decode prog_20_method_1_code 102 = .ok (.getfield 19, 3) := by decide +kernel
theorem d2_105 : decode prog_20_method_1_code 105 = .ok (.iload 8, 2) := by decide +kernel
theorem d2_107 : decode prog_20_method_1_code 107 = .ok (.bipush 6, 2) := by decide +kernel
theorem d2_109 : decode prog_20_method_1_code 109 = .ok (.idiv, 1) := by decide +kernel
theorem d2_110 : decode prog_20_method_1_code 110 = .ok (.iload 4, 2) := by decide +kernel
theorem d2_112 : decode prog_20_method_1_code 112 = .ok (.iload 9, 2) := by decide +kernel
theorem d2_114 : decode prog_20_method_1_code 114 = .ok (.isub, 1) := by decide +kernel
theorem d2_115 : decode prog_20_method_1_code 115 = .ok (.iastore, 1) := by decide +kernel
theorem d2_116 : decode prog_20_method_1_code 116 = .ok (.aload_n 3, 1) := by decide +kernel
theorem d2_117 : decode prog_20_method_1_code 117 = .ok (.iload 9, 2) := by decide +kernel
theorem d2_119 : decode prog_20_method_1_code 119 = .ok (.aload_n 0, 1) := by decide +kernel
theorem d2_120 : decode prog_20_method_1_code 120 = .ok (.getfield 13, 3) := by decide +kernel
theorem d2_123 : decode prog_20_method_1_code 123 = .ok (.iload 5, 2) := by decide +kernel
theorem d2_125 : decode prog_20_method_1_code 125 = .ok (.iload 4, 2) := by decide +kernel
theorem d2_127 : decode prog_20_method_1_code 127 = .ok (.iload 9, 2) := by decide +kernel
theorem d2_129 : decode prog_20_method_1_code 129 = .ok (.isub, 1) := by decide +kernel
theorem d2_130 : decode prog_20_method_1_code 130 = .ok (.invokestatic 22, 3) := by decide +kernel
theorem d2_133 : decode prog_20_method_1_code 133 = .ok (.iload 5, 2) := by decide +kernel
theorem d2_135 : decode prog_20_method_1_code 135 = .ok (.iload 4, 2) := by decide +kernel
theorem d2_137 : decode prog_20_method_1_code 137 = .ok (.iload 9, 2) := by decide +kernel
theorem d2_139 : decode prog_20_method_1_code 139 = .ok (.isub, 1) := by decide +kernel
theorem d2_140 : decode prog_20_method_1_code 140 = .ok (.iadd, 1) := by decide +kernel
theorem d2_141 : decode prog_20_method_1_code 141 = .ok (.istore 5, 2) := by decide +kernel
theorem d2_143 : decode prog_20_method_1_code 143 = .ok (.iload 9, 2) := by decide +kernel
theorem d2_145 : decode prog_20_method_1_code 145 = .ok (.istore 4, 2) := by decide +kernel
theorem d2_147 : decode prog_20_method_1_code 147 = .ok (.aload_n 3, 1) := by decide +kernel
theorem d2_148 : decode prog_20_method_1_code 148 = .ok (.iload 4, 2) := by decide +kernel
theorem d2_150 : decode prog_20_method_1_code 150 = .ok (.iinc 4 1, 3) := by decide +kernel
theorem d2_153 : decode prog_20_method_1_code 153 = .ok (.iload 8, 2) := by decide +kernel
theorem d2_155 : decode prog_20_method_1_code 155 = .ok (.iastore, 1) := by decide +kernel
theorem d2_156 : decode prog_20_method_1_code 156 = .ok (.lload 6, 2) := by decide +kernel
theorem d2_158 : decode prog_20_method_1_code 158 = .ok (.aload_n 1, 1) := by decide +kernel
theorem d2_159 : decode prog_20_method_1_code 159 = .ok (.iload 8, 2) := by decide +kernel
theorem d2_161 : decode prog_20_method_1_code 161 = .ok (.aload_n 1, 1) := by decide +kernel
theorem d2_162 : decode prog_20_method_1_code 162 = .ok (.iload 8, 2) := by decide +kernel
theorem d2_164 : decode prog_20_method_1_code 164 = .ok (.invokestatic 28, 3) := by decide +kernel
theorem d2_167 : decode prog_20_method_1_code 167 = .ok (.invokestatic 32, 3) := by decide +kernel
theorem d2_170 : decode prog_20_method_1_code 170 = .ok (.invokestatic 36, 3) := by decide +kernel
theorem d2_173 : decode prog_20_method_1_code 173 = .ok (.lstore 6, 2) := by decide +kernel
theorem d2_175 : decode prog_20_method_1_code 175 = .ok (.iinc 8 6, 3) := by decide +kernel
theorem d2_178 : decode prog_20_method_1_code 178 = .ok (.goto (-126), 3) := by decide +kernel
theorem d2_181 : decode prog_20_method_1_code 181 = .ok (.aload_n 0, 1) := by decide +kernel
theorem d2_182 : decode prog_20_method_1_code 182 = .ok (.iload 5, 2) := by decide +kernel
theorem d2_184 : decode prog_20_method_1_code 184 = .ok (.putfield 42, 3) := by decide +kernel
theorem d2_187 : decode prog_20_method_1_code 187 = .ok (.aload_n 0, 1) := by decide +kernel
theorem d2_188 : decode prog_20_method_1_code 188 = .ok (.iload 4, 2) := by decide +kernel
theorem d2_190 : decode prog_20_method_1_code 190 = .ok (.putfield 46, 3) := by decide +kernel
theorem d2_193 : decode prog_20_method_1_code 193 = .ok (.aload_n 3, 1) := by decide +kernel
theorem d2_194 : decode prog_20_method_1_code 194 = .ok (.iconst 0, 1) := by decide +kernel
theorem d2_195 : decode prog_20_method_1_code 195 = .ok (.aload_n 0, 1) := by decide +kernel
theorem d2_196 : decode prog_20_method_1_code 196 = .ok (.getfield 13, 3) := by decide +kernel
theorem d2_199 : decode prog_20_method_1_code 199 = .ok (.iload 5, 2) := by decide +kernel
theorem d2_201 : decode prog_20_method_1_code 201 = .ok (.iload 4, 2) := by decide +kernel
theorem d2_203 : decode prog_20_method_1_code 203 = .ok (.invokestatic 22, 3) := by decide +kernel
theorem d2_206 : decode prog_20_method_1_code 206 = .ok (.aload_n 0, 1) := by decide +kernel
theorem d2_207 : decode prog_20_method_1_code 207 = .ok (.lload 6, 2) := by decide +kernel
theorem d2_209 : decode prog_20_method_1_code 209 = .ok (.ldc2_w 51, 3) := by decide +kernel
theorem d2_212 : decode prog_20_method_1_code 212 = .ok (.invokestatic 53, 3) := by decide +kernel
theorem d2_215 : decode prog_20_method_1_code 215 = .ok (.l2i, 1) := by decide +kernel
theorem d2_216 : decode prog_20_method_1_code 216 = .ok (.putfield 56, 3) := by decide +kernel
theorem d2_219 : decode prog_20_method_1_code 219 = .ok (.return_, 1) := by decide +kernel
def k2 : OM := (prog_20_method_1_code, 10, "com/example/rexquill/rexquill/Copies", "<init>", none, { frames := 2, cells := 4, slots := 12, locals := 40 })
theorem pn2 : plainFor (⟨"com/example/rexquill/rexquill/Copies", "<init>", "([I)V"⟩ : MethodName) = true := plainFor_of_name (by first | (simp [plainName, overriddenIn]; done) | decide +kernel)
theorem pd2 : parseMethodDescriptor "([I)V" = some ⟨[(.array .int)], none⟩ := by decide +kernel
set_option maxRecDepth 65536 in
set_option maxHeartbeats 4000000 in
theorem E181 {Z : State} {ω : OW} {γ : OG} {T : State} {h : Heap} (X : oSt Z ω γ k2 T h 4 12) (h0 : Heap) (a w aRL aIR aIC ao : Addr) (u1 u2 u3 : Value) (n m : Nat) (ln mm : Int32) (G : Nat → Int32) (nd : List.Nodup [a, w, aRL, aIR, aIC, ao]) (gs : ∀ x ∈ [a, aRL, aIR, aIC, ao], ω.2.1 ≤ x) (gh : ∀ x ∈ [aRL, aIR, aIC, ao], h0.size ≤ x) (hln : ln.toInt = n) (hmm : mm.toInt = m) (hnm : n = 6 * m) (hm : m ≤ 3) (hG : ∀ j, j < m → G (6 * j + 1) ≠ 0) (lc ct k : Int32) (rm : Int64) (RL IR IC O : Nat → Int32) (s9 : Slot) (F0 : CP Z h a (.ref w) (.ref aRL) (.ref aIR) (.ref aIC) u1 u2 u3) (Aw : oA Z h w .int n (fun i_ => .int (G i_))) (AaRL : oA Z h aRL .int m (fun i_ => .int (RL i_))) (AaIR : oA Z h aIR .int m (fun i_ => .int (IR i_))) (AaIC : oA Z h aIC .int m (fun i_ => .int (IC i_))) (Aao : oA Z h ao .int m (fun i_ => .int (O i_))) (K0 : Keep h0 h [a]) (hc0 : 0 ≤ ct.toInt) (hl0 : 0 ≤ lc.toInt) (hk0 : 0 ≤ k.toInt) (hk6 : k.toInt = 6 * (ct.toInt + lc.toInt)) (hO : ∀ i : Nat, (i : Int) < ct.toInt → 0 ≤ (O i).toInt ∧ (O i).toInt < n) (hend : k.toInt = n) :
    oWP ω γ k2 (fun v h' => v = none ∧ Keep h0 h' [a] ∧ ∃ v1 v2 v3 v4 v5 v6, CP Z h' a (.ref w) v1 v2 v3 v4 v5 v6) T 181 #[.val (.ref a), .val (.ref w), .val (.int mm), .val (.ref ao), .val (.int ct), .val (.int lc), .val (.long rm), .second, .val (.int k), s9] [] := by
  refine ow_aloadN X 182 d2_181 rfl rfl rfl ?_
  refine ow_iload X 184 d2_182 rfl rfl ?_
  refine ow_putF X 187 37 7 rfl rfl F0.2.2.2.2.2.1 F0.1 (Or.inr ⟨oSt_at X 38 rfl, rfl, rfl⟩) rfl (ty := .int) (by decide) rfl rfl (gs _ (List.mem_of_getElem? (i := 0) rfl)) d2_184 rfl ?_
  intro T_2 h_2 X_2 W_2
  have f3_0 : CP Z h_2 a (.ref w) (.ref aRL) (.ref aIR) (.ref aIC) (.int lc) u2 u3 := CP.set_topRecords (oSt_w X_2) F0 W_2
  have f3_1 : oA Z h_2 w .int n (fun i_ => .int (G i_)) := Aw.other W_2 (oNd nd 1 0 (by decide) rfl rfl)
  have f3_2 : oA Z h_2 aRL .int m (fun i_ => .int (RL i_)) := AaRL.other W_2 (oNd nd 2 0 (by decide) rfl rfl)
  have f3_3 : oA Z h_2 aIR .int m (fun i_ => .int (IR i_)) := AaIR.other W_2 (oNd nd 3 0 (by decide) rfl rfl)
  have f3_4 : oA Z h_2 aIC .int m (fun i_ => .int (IC i_)) := AaIC.other W_2 (oNd nd 4 0 (by decide) rfl rfl)
  have f3_5 : oA Z h_2 ao .int m (fun i_ => .int (O i_)) := Aao.other W_2 (oNd nd 5 0 (by decide) rfl rfl)
  have f3_6 : Keep h0 h_2 [a] := K0.wr W_2 (Or.inl (List.mem_of_getElem? (i := 0) rfl))
  refine ow_aloadN X_2 188 d2_187 rfl rfl rfl ?_
  refine ow_iload X_2 190 d2_188 rfl rfl ?_
  refine ow_putF X_2 193 39 7 rfl rfl f3_0.2.2.2.2.2.2.1 f3_0.1 (Or.inr ⟨oSt_at X_2 40 rfl, rfl, rfl⟩) rfl (ty := .int) (by decide) rfl rfl (gs _ (List.mem_of_getElem? (i := 0) rfl)) d2_190 rfl ?_
  intro T_4 h_4 X_4 W_4
  have f5_0 : CP Z h_4 a (.ref w) (.ref aRL) (.ref aIR) (.ref aIC) (.int lc) (.int ct) u3 := CP.set_topRecordCount (oSt_w X_4) f3_0 W_4
  have f5_1 : oA Z h_4 w .int n (fun i_ => .int (G i_)) := f3_1.other W_4 (oNd nd 1 0 (by decide) rfl rfl)
  have f5_2 : oA Z h_4 aRL .int m (fun i_ => .int (RL i_)) := f3_2.other W_4 (oNd nd 2 0 (by decide) rfl rfl)
  have f5_3 : oA Z h_4 aIR .int m (fun i_ => .int (IR i_)) := f3_3.other W_4 (oNd nd 3 0 (by decide) rfl rfl)
  have f5_4 : oA Z h_4 aIC .int m (fun i_ => .int (IC i_)) := f3_4.other W_4 (oNd nd 4 0 (by decide) rfl rfl)
  have f5_5 : oA Z h_4 ao .int m (fun i_ => .int (O i_)) := f3_5.other W_4 (oNd nd 5 0 (by decide) rfl rfl)
  have f5_6 : Keep h0 h_4 [a] := f3_6.wr W_4 (Or.inl (List.mem_of_getElem? (i := 0) rfl))
  refine ow_aloadN X_4 194 d2_193 rfl rfl rfl ?_
  refine ow_iconst X_4 195 (0 : Int32) d2_194 rfl rfl ?_
  refine ow_aloadN X_4 196 d2_195 rfl rfl rfl ?_
  refine ow_getF X_4 199 17 rfl rfl f5_0.2.2.1 d2_196 rfl ?_
  intro T_6 X_6
  refine ow_iload X_6 201 d2_199 rfl rfl ?_
  refine ow_iload X_6 203 d2_201 rfl rfl ?_
  refine ow_acopy X_6 206 23 26 24 25 (W := 0) rfl rfl rfl rfl rfl f5_5 f5_2 (gs _ (List.mem_of_getElem? (i := 1) rfl)) (by decide) hl0 hc0 (by have e : (0 : Int32).toInt = 0 := rfl; omega) (by omega) rfl d2_203 rfl (by decide) (Nat.le_of_eq rfl) (by decide +kernel) ?_
  intro T_7 h_7 gg7 X_7 Kc7 Ac7
  have f8_0 : CP Z h_7 a (.ref w) (.ref aRL) (.ref aIR) (.ref aIC) (.int lc) (.int ct) u3 := f5_0.keep Kc7 (ninS (oNd nd 0 2 (by decide) rfl rfl) nin0)
  have f8_1 : oA Z h_7 w .int n (fun i_ => .int (G i_)) := f5_1.keep Kc7 (ninS (oNd nd 1 2 (by decide) rfl rfl) nin0)
  have f8_3 : oA Z h_7 aIR .int m (fun i_ => .int (IR i_)) := f5_3.keep Kc7 (ninS (oNd nd 3 2 (by decide) rfl rfl) nin0)
  have f8_4 : oA Z h_7 aIC .int m (fun i_ => .int (IC i_)) := f5_4.keep Kc7 (ninS (oNd nd 4 2 (by decide) rfl rfl) nin0)
  have f8_5 : oA Z h_7 ao .int m (fun i_ => .int (O i_)) := f5_5.keep Kc7 (ninS (oNd nd 5 2 (by decide) rfl rfl) nin0)
  have f8_6 : Keep h0 h_7 [a] := f5_6.trans Kc7 (allS (Or.inr (gh _ (List.mem_of_getElem? (i := 0) rfl))) all0)
  refine ow_aloadN X_7 207 d2_206 rfl rfl rfl ?_
  refine ow_lload X_7 209 d2_207 rfl rfl ?_
  refine ow_ldc2J X_7 212 41 rfl rfl d2_209 rfl ?_
  refine ow_callS X_7 215 42 43 35 44 (κ' := k7) (as := [.long rm, .long (2147483647 : Int64)]) (S := [.ref a]) (W := 1) rfl rfl rfl rfl rfl (by decide) (C_minJ (oSt_w X_7) (oSt_n0 X_7) rm (2147483647 : Int64)) (by decide) (by decide) (Nat.le_of_eq rfl) (by decide) (by decide) pd7 rfl rfl rfl d2_212 rfl ?_
  intro v_9 T_9 h_9 X_9 q_9
  obtain ⟨z9, rfl, rfl⟩ := q_9
  show oWP ω γ k2 _ T_9 215 #[.val (.ref a), .val (.ref w), .val (.int mm), .val (.ref ao), .val (.int ct), .val (.int lc), .val (.long rm), .second, .val (.int k), s9] [.long z9, .ref a]
  refine ow_l2i X_9 216 d2_215 rfl ?_
  refine ow_putF X_9 219 45 7 rfl rfl f8_0.2.2.2.2.2.2.2 f8_0.1 (Or.inr ⟨oSt_at X_9 46 rfl, rfl, rfl⟩) rfl (ty := .int) (by decide) rfl rfl (gs _ (List.mem_of_getElem? (i := 0) rfl)) d2_216 rfl ?_
  intro T_10 h_10 X_10 W_10
  have f11_0 : CP Z h_10 a (.ref w) (.ref aRL) (.ref aIR) (.ref aIC) (.int lc) (.int ct) (.int z9.toInt32) := CP.set_copyRoom (oSt_w X_10) f8_0 W_10
  have f11_1 : oA Z h_10 w .int n (fun i_ => .int (G i_)) := f8_1.other W_10 (oNd nd 1 0 (by decide) rfl rfl)
  have f11_2 : oA Z h_10 aIR .int m (fun i_ => .int (IR i_)) := f8_3.other W_10 (oNd nd 3 0 (by decide) rfl rfl)
  have f11_3 : oA Z h_10 aIC .int m (fun i_ => .int (IC i_)) := f8_4.other W_10 (oNd nd 4 0 (by decide) rfl rfl)
  have f11_4 : oA Z h_10 ao .int m (fun i_ => .int (O i_)) := f8_5.other W_10 (oNd nd 5 0 (by decide) rfl rfl)
  have f11_5 : Keep h0 h_10 [a] := f8_6.wr W_10 (Or.inl (List.mem_of_getElem? (i := 0) rfl))
  have f11_6 : oA Z h_10 aRL .int m (fun i_ => .int (gg7 i_)) := Ac7.other W_10 (oNd nd 2 0 (by decide) rfl rfl)
  refine ow_retV X_10 rfl d2_219 (by decide) (by decide) ?_
  exact ⟨rfl, f11_5, _, _, _, _, _, _, f11_0⟩
theorem own_open {n : Nat} {O : Nat → Int32} {i ct k : Int32} (hi0 : 0 ≤ i.toInt) (hic : i.toInt ≤ ct.toInt) (hO : ∀ j : Nat, (j : Int) < ct.toInt → 0 ≤ (O j).toInt ∧ (O j).toInt < n) (hk0 : 0 ≤ k.toInt) (hkn : k.toInt < n) (e : (i + (1 : Int32)).toInt = i.toInt + 1) : ∀ j : Nat, (j : Int) < (i + (1 : Int32)).toInt → 0 ≤ (oUpd O i.toInt.toNat k j).toInt ∧ (oUpd O i.toInt.toNat k j).toInt < n := by
  intro j hj
  by_cases q : j = i.toInt.toNat
  · subst q; rw [oUpd_hit]; exact ⟨hk0, hkn⟩
  · rw [oUpd_miss _ _ q]; exact hO j (by omega)
set_option maxRecDepth 65536 in
set_option maxHeartbeats 4000000 in
theorem I63 {Z : State} {ω : OW} {γ : OG} (h0 : Heap) (a w ao : Addr) (n m : Nat) (mm lc ct k : Int32) (rm : Int64) (G O : Nat → Int32) (hm : m ≤ 3) (hcm : ct.toInt ≤ m) (hk0 : 0 ≤ k.toInt) (hkn : k.toInt < n) (hO : ∀ j : Nat, (j : Int) < ct.toInt → 0 ≤ (O j).toInt ∧ (O j).toInt < n) (d : Nat) : ∀ {T : State} {h : Heap} (X : oSt Z ω γ k2 T h 4 12) (i : Int32) (Aw : oA Z h w .int n (fun i_ => .int (G i_))) (Aao : oA Z h ao .int m (fun i_ => .int (O i_))) (hi0 : 0 ≤ i.toInt) (hic : i.toInt ≤ ct.toInt) (K89 : ∀ i' : Int32, 0 ≤ i'.toInt → i'.toInt ≤ ct.toInt → oWP ω γ k2 (fun v h' => v = none ∧ Keep h0 h' [a] ∧ ∃ v1 v2 v3 v4 v5 v6, CP Z h' a (.ref w) v1 v2 v3 v4 v5 v6) T 89 #[.val (.ref a), .val (.ref w), .val (.int mm), .val (.ref ao), .val (.int ct), .val (.int lc), .val (.long rm), .second, .val (.int k), .val (.int i')] []) (hd_ : i.toInt.toNat = d),
    oWP ω γ k2 (fun v h' => v = none ∧ Keep h0 h' [a] ∧ ∃ v1 v2 v3 v4 v5 v6, CP Z h' a (.ref w) v1 v2 v3 v4 v5 v6) T 63 #[.val (.ref a), .val (.ref w), .val (.int mm), .val (.ref ao), .val (.int ct), .val (.int lc), .val (.long rm), .second, .val (.int k), .val (.int i)] [] := by
  induction d using Nat.strongRecOn with
  | _ d ih =>
    intro T h X i Aw Aao hi0 hic K89 hd_
    refine ow_iload X 65 d2_63 rfl rfl ?_
    refine ow_if_le X 68 89 d2_65 rfl rfl (fun (c65 : i.toInt ≤ 0) => ?_) (fun (c65 : 0 < i.toInt) => ?_)
    · exact K89 i hi0 hic
    · refine ow_aloadN X 69 d2_68 rfl rfl rfl ?_
      refine ow_aloadN X 70 d2_69 rfl rfl rfl ?_
      refine ow_iload X 72 d2_70 rfl rfl ?_
      refine ow_iconst X 73 (1 : Int32) d2_72 rfl rfl ?_
      refine ow_isub X 74 d2_73 rfl ?_
      refine ow_iaload X 75 Aao d2_74 rfl (by rw [(own_subk i 1 1 rfl (by decide) (by omega))]; omega) (by rw [(own_subk i 1 1 rfl (by decide) (by omega))]; omega) rfl ?_
      refine ow_iaload X 76 Aw d2_75 rfl (hO _ (by rw [(own_subk i 1 1 rfl (by decide) (by omega))]; omega)).1 (hO _ (by rw [(own_subk i 1 1 rfl (by decide) (by omega))]; omega)).2 rfl ?_
      refine ow_aloadN X 77 d2_76 rfl rfl rfl ?_
      refine ow_iload X 79 d2_77 rfl rfl ?_
      refine ow_iaload X 80 Aw d2_79 rfl hk0 hkn rfl ?_
      refine ow_icmp_lt X 83 89 d2_80 rfl rfl (fun (c80 : (G (O (i - (1 : Int32)).toInt.toNat).toInt.toNat).toInt < (G k.toInt.toNat).toInt) => ?_) (fun (c80 : (G k.toInt.toNat).toInt ≤ (G (O (i - (1 : Int32)).toInt.toNat).toInt.toNat).toInt) => ?_)
      · exact K89 i hi0 hic
      · refine ow_iinc X 86 (L' := #[.val (.ref a), .val (.ref w), .val (.int mm), .val (.ref ao), .val (.int ct), .val (.int lc), .val (.long rm), .second, .val (.int k), .val (.int (i + (-1 : Int32)))]) (-1 : Int32) d2_83 rfl rfl rfl rfl ?_
        refine ow_goto X 63 d2_86 rfl ?_
        have e1 := own_dec i (by omega)
        generalize i + (-1 : Int32) = i2 at e1 ⊢
        exact ih _ (by omega) X i2 Aw Aao (by omega) (by omega) K89 rfl
set_option maxRecDepth 65536 in
set_option maxHeartbeats 4000000 in
theorem O52 {Z : State} {ω : OW} {γ : OG} (h0 : Heap) (a w aRL aIR aIC ao : Addr) (u1 u2 u3 : Value) (n m : Nat) (ln mm : Int32) (G : Nat → Int32) (nd : List.Nodup [a, w, aRL, aIR, aIC, ao]) (gs : ∀ x ∈ [a, aRL, aIR, aIC, ao], ω.2.1 ≤ x) (gh : ∀ x ∈ [aRL, aIR, aIC, ao], h0.size ≤ x) (hln : ln.toInt = n) (hmm : mm.toInt = m) (hnm : n = 6 * m) (hm : m ≤ 3) (hG : ∀ j, j < m → G (6 * j + 1) ≠ 0) (d : Nat) : ∀ {T : State} {h : Heap} (X : oSt Z ω γ k2 T h 4 12) (lc ct k : Int32) (rm : Int64) (RL IR IC O : Nat → Int32) (s9 : Slot) (hs9 : s9 = .unset ∨ ∃ z : Int32, s9 = .val (.int z)) (F0 : CP Z h a (.ref w) (.ref aRL) (.ref aIR) (.ref aIC) u1 u2 u3) (Aw : oA Z h w .int n (fun i_ => .int (G i_))) (AaRL : oA Z h aRL .int m (fun i_ => .int (RL i_))) (AaIR : oA Z h aIR .int m (fun i_ => .int (IR i_))) (AaIC : oA Z h aIC .int m (fun i_ => .int (IC i_))) (Aao : oA Z h ao .int m (fun i_ => .int (O i_))) (K0 : Keep h0 h [a]) (hc0 : 0 ≤ ct.toInt) (hl0 : 0 ≤ lc.toInt) (hk0 : 0 ≤ k.toInt) (hk6 : k.toInt = 6 * (ct.toInt + lc.toInt)) (hO : ∀ i : Nat, (i : Int) < ct.toInt → 0 ≤ (O i).toInt ∧ (O i).toInt < n) (hkn : k.toInt ≤ n) (hd_ : n - k.toInt.toNat = d),
    oWP ω γ k2 (fun v h' => v = none ∧ Keep h0 h' [a] ∧ ∃ v1 v2 v3 v4 v5 v6, CP Z h' a (.ref w) v1 v2 v3 v4 v5 v6) T 52 #[.val (.ref a), .val (.ref w), .val (.int mm), .val (.ref ao), .val (.int ct), .val (.int lc), .val (.long rm), .second, .val (.int k), s9] [] := by
  induction d using Nat.strongRecOn with
  | _ d ih =>
    intro T h X lc ct k rm RL IR IC O s9 hs9 F0 Aw AaRL AaIR AaIC Aao K0 hc0 hl0 hk0 hk6 hO hkn hd_
    refine ow_iload X 54 d2_52 rfl rfl ?_
    refine ow_aloadN X 55 d2_54 rfl rfl rfl ?_
    refine ow_alen X 56 (v := ln) Aw d2_55 rfl hln ?_
    refine ow_icmp_ge X 59 181 d2_56 rfl rfl (fun (c56 : ln.toInt ≤ k.toInt) => ?_) (fun (c56 : k.toInt < ln.toInt) => ?_)
    · exact E181 X h0 a w aRL aIR aIC ao u1 u2 u3 n m ln mm G nd gs gh hln hmm hnm hm hG lc ct k rm RL IR IC O s9 F0 Aw AaRL AaIR AaIC Aao K0 hc0 hl0 hk0 hk6 hO (by omega)
    · refine ow_iload X 61 d2_59 rfl rfl ?_
      refine ow_istore X 63 (L' := #[.val (.ref a), .val (.ref w), .val (.int mm), .val (.ref ao), .val (.int ct), .val (.int lc), .val (.long rm), .second, .val (.int k), .val (.int ct)]) d2_61 rfl (XS.store1 rfl (hs9.imp id fun ⟨z, e⟩ => ⟨_, e, rfl⟩) rfl) ?_
      refine I63 h0 a w ao n m mm lc ct k rm G O hm (by omega) hk0 (by omega) hO _ X ct Aw Aao hc0 (Int.le_refl _) (fun i hi0 hic => ?_) rfl
      have hz : G (k + (1 : Int32)).toInt.toNat ≠ 0 := by
        have q := own_addk k 1 1 rfl (by decide) (by omega)
        have q2 : (k + (1 : Int32)).toInt.toNat = 6 * (k.toInt.toNat / 6) + 1 := by omega
        rw [q2]; exact hG _ (by omega)
      have d6 := own_d6 k hk0; have y1 := own_sub ct i (by omega) (by omega); have y2 := own_add lc (ct - i) (by omega) (by omega); have y3 := own_addk i 1 1 rfl (by decide) (by omega); have y4 := own_addk k 6 6 rfl (by decide) (by omega)
      refine ow_aloadN X 90 d2_89 rfl rfl rfl ?_
      refine ow_getF X 93 19 rfl rfl F0.2.2.2.1 d2_90 rfl ?_
      intro T_12 X_12
      refine ow_iload X_12 95 d2_93 rfl rfl ?_
      refine ow_bipush X_12 97 (6 : Int32) d2_95 rfl rfl ?_
      refine ow_idiv X_12 98 d2_97 rfl (by decide) ?_
      refine ow_iload X_12 100 d2_98 rfl rfl ?_
      refine ow_iastore X_12 101 AaIR (gs _ (List.mem_of_getElem? (i := 2) rfl)) d2_100 rfl (by omega) (by omega) ?_
      intro T_13 h_13 X_13 W_13
      have f14_0 : CP Z h_13 a (.ref w) (.ref aRL) (.ref aIR) (.ref aIC) u1 u2 u3 := F0.other W_13 (oNd nd 0 3 (by decide) rfl rfl)
      have f14_1 : oA Z h_13 w .int n (fun i_ => .int (G i_)) := Aw.other W_13 (oNd nd 1 3 (by decide) rfl rfl)
      have f14_2 : oA Z h_13 aRL .int m (fun i_ => .int (RL i_)) := AaRL.other W_13 (oNd nd 2 3 (by decide) rfl rfl)
      have f14_3 : oA Z h_13 aIR .int m (fun i_ => .int ((oUpd IR ((k / (6 : Int32)).toInt.toNat) lc) i_)) := AaIR.setI W_13
      have f14_4 : oA Z h_13 aIC .int m (fun i_ => .int (IC i_)) := AaIC.other W_13 (oNd nd 4 3 (by decide) rfl rfl)
      have f14_5 : oA Z h_13 ao .int m (fun i_ => .int (O i_)) := Aao.other W_13 (oNd nd 5 3 (by decide) rfl rfl)
      have f14_6 : Keep h0 h_13 [a] := K0.wr W_13 (Or.inr (gh _ (List.mem_of_getElem? (i := 1) rfl)))
      refine ow_aloadN X_13 102 d2_101 rfl rfl rfl ?_
      refine ow_getF X_13 105 21 rfl rfl f14_0.2.2.2.2.1 d2_102 rfl ?_
      intro T_15 X_15
      refine ow_iload X_15 107 d2_105 rfl rfl ?_
      refine ow_bipush X_15 109 (6 : Int32) d2_107 rfl rfl ?_
      refine ow_idiv X_15 110 d2_109 rfl (by decide) ?_
      refine ow_iload X_15 112 d2_110 rfl rfl ?_
      refine ow_iload X_15 114 d2_112 rfl rfl ?_
      refine ow_isub X_15 115 d2_114 rfl ?_
      refine ow_iastore X_15 116 f14_4 (gs _ (List.mem_of_getElem? (i := 3) rfl)) d2_115 rfl (by omega) (by omega) ?_
      intro T_16 h_16 X_16 W_16
      have f17_0 : CP Z h_16 a (.ref w) (.ref aRL) (.ref aIR) (.ref aIC) u1 u2 u3 := f14_0.other W_16 (oNd nd 0 4 (by decide) rfl rfl)
      have f17_1 : oA Z h_16 w .int n (fun i_ => .int (G i_)) := f14_1.other W_16 (oNd nd 1 4 (by decide) rfl rfl)
      have f17_2 : oA Z h_16 aRL .int m (fun i_ => .int (RL i_)) := f14_2.other W_16 (oNd nd 2 4 (by decide) rfl rfl)
      have f17_3 : oA Z h_16 aIR .int m (fun i_ => .int ((oUpd IR ((k / (6 : Int32)).toInt.toNat) lc) i_)) := f14_3.other W_16 (oNd nd 3 4 (by decide) rfl rfl)
      have f17_4 : oA Z h_16 aIC .int m (fun i_ => .int ((oUpd IC ((k / (6 : Int32)).toInt.toNat) (ct - i)) i_)) := f14_4.setI W_16
      have f17_5 : oA Z h_16 ao .int m (fun i_ => .int (O i_)) := f14_5.other W_16 (oNd nd 5 4 (by decide) rfl rfl)
      have f17_6 : Keep h0 h_16 [a] := f14_6.wr W_16 (Or.inr (gh _ (List.mem_of_getElem? (i := 2) rfl)))
      refine ow_aloadN X_16 117 d2_116 rfl rfl rfl ?_
      refine ow_iload X_16 119 d2_117 rfl rfl ?_
      refine ow_aloadN X_16 120 d2_119 rfl rfl rfl ?_
      refine ow_getF X_16 123 17 rfl rfl f17_0.2.2.1 d2_120 rfl ?_
      intro T_18 X_18
      refine ow_iload X_18 125 d2_123 rfl rfl ?_
      refine ow_iload X_18 127 d2_125 rfl rfl ?_
      refine ow_iload X_18 129 d2_127 rfl rfl ?_
      refine ow_isub X_18 130 d2_129 rfl ?_
      refine ow_acopy X_18 133 23 26 24 25 (W := 0) rfl rfl rfl rfl rfl f17_5 f17_2 (gs _ (List.mem_of_getElem? (i := 1) rfl)) hi0 hl0 (by omega) (by omega) (by omega) rfl d2_130 rfl (by decide) (Nat.le_of_eq rfl) (by decide +kernel) ?_
      intro T_19 h_19 gg19 X_19 Kc19 Ac19
      have f20_0 : CP Z h_19 a (.ref w) (.ref aRL) (.ref aIR) (.ref aIC) u1 u2 u3 := f17_0.keep Kc19 (ninS (oNd nd 0 2 (by decide) rfl rfl) nin0)
      have f20_1 : oA Z h_19 w .int n (fun i_ => .int (G i_)) := f17_1.keep Kc19 (ninS (oNd nd 1 2 (by decide) rfl rfl) nin0)
      have f20_3 : oA Z h_19 aIR .int m (fun i_ => .int ((oUpd IR ((k / (6 : Int32)).toInt.toNat) lc) i_)) := f17_3.keep Kc19 (ninS (oNd nd 3 2 (by decide) rfl rfl) nin0)
      have f20_4 : oA Z h_19 aIC .int m (fun i_ => .int ((oUpd IC ((k / (6 : Int32)).toInt.toNat) (ct - i)) i_)) := f17_4.keep Kc19 (ninS (oNd nd 4 2 (by decide) rfl rfl) nin0)
      have f20_5 : oA Z h_19 ao .int m (fun i_ => .int (O i_)) := f17_5.keep Kc19 (ninS (oNd nd 5 2 (by decide) rfl rfl) nin0)
      have f20_6 : Keep h0 h_19 [a] := f17_6.trans Kc19 (allS (Or.inr (gh _ (List.mem_of_getElem? (i := 0) rfl))) all0)
      refine ow_iload X_19 135 d2_133 rfl rfl ?_
      refine ow_iload X_19 137 d2_135 rfl rfl ?_
      refine ow_iload X_19 139 d2_137 rfl rfl ?_
      refine ow_isub X_19 140 d2_139 rfl ?_
      refine ow_iadd X_19 141 d2_140 rfl ?_
      refine ow_istore X_19 143 (L' := #[.val (.ref a), .val (.ref w), .val (.int mm), .val (.ref ao), .val (.int ct), .val (.int (lc + (ct - i))), .val (.long rm), .second, .val (.int k), .val (.int i)]) d2_141 rfl rfl ?_
      refine ow_iload X_19 145 d2_143 rfl rfl ?_
      refine ow_istore X_19 147 (L' := #[.val (.ref a), .val (.ref w), .val (.int mm), .val (.ref ao), .val (.int i), .val (.int (lc + (ct - i))), .val (.long rm), .second, .val (.int k), .val (.int i)]) d2_145 rfl rfl ?_
      refine ow_aloadN X_19 148 d2_147 rfl rfl rfl ?_
      refine ow_iload X_19 150 d2_148 rfl rfl ?_
      refine ow_iinc X_19 153 (L' := #[.val (.ref a), .val (.ref w), .val (.int mm), .val (.ref ao), .val (.int (i + (1 : Int32))), .val (.int (lc + (ct - i))), .val (.long rm), .second, .val (.int k), .val (.int i)]) (1 : Int32) d2_150 rfl rfl rfl rfl ?_
      refine ow_iload X_19 155 d2_153 rfl rfl ?_
      refine ow_iastore X_19 156 f20_5 (gs _ (List.mem_of_getElem? (i := 4) rfl)) d2_155 rfl (by omega) (by omega) ?_
      intro T_21 h_21 X_21 W_21
      have f22_0 : CP Z h_21 a (.ref w) (.ref aRL) (.ref aIR) (.ref aIC) u1 u2 u3 := f20_0.other W_21 (oNd nd 0 5 (by decide) rfl rfl)
      have f22_1 : oA Z h_21 w .int n (fun i_ => .int (G i_)) := f20_1.other W_21 (oNd nd 1 5 (by decide) rfl rfl)
      have f22_2 : oA Z h_21 aIR .int m (fun i_ => .int ((oUpd IR ((k / (6 : Int32)).toInt.toNat) lc) i_)) := f20_3.other W_21 (oNd nd 3 5 (by decide) rfl rfl)
      have f22_3 : oA Z h_21 aIC .int m (fun i_ => .int ((oUpd IC ((k / (6 : Int32)).toInt.toNat) (ct - i)) i_)) := f20_4.other W_21 (oNd nd 4 5 (by decide) rfl rfl)
      have f22_4 : oA Z h_21 ao .int m (fun i_ => .int ((oUpd O i.toInt.toNat k) i_)) := f20_5.setI W_21
      have f22_5 : Keep h0 h_21 [a] := f20_6.wr W_21 (Or.inr (gh _ (List.mem_of_getElem? (i := 3) rfl)))
      have f22_6 : oA Z h_21 aRL .int m (fun i_ => .int (gg19 i_)) := Ac19.other W_21 (oNd nd 2 5 (by decide) rfl rfl)
      refine ow_lload X_21 158 d2_156 rfl rfl ?_
      refine ow_aloadN X_21 159 d2_158 rfl rfl rfl ?_
      refine ow_iload X_21 161 d2_159 rfl rfl ?_
      refine ow_aloadN X_21 162 d2_161 rfl rfl rfl ?_
      refine ow_iload X_21 164 d2_162 rfl rfl ?_
      refine ow_callS X_21 167 27 28 8 29 (κ' := k4) (as := [.ref w, .int k]) (S := [.int k, .ref w, .long rm]) (W := 4) rfl rfl rfl rfl rfl (by decide) (C_foc (oSt_w X_21) (oSt_n0 X_21) w k n G f22_1 hk0 (by omega) (by omega) hz) (by decide) (by decide) (Nat.le_of_eq rfl) (by decide) (by decide) pd4 rfl rfl rfl d2_164 rfl ?_
      intro v_23 T_23 h_23 X_23 q_23
      obtain ⟨z23, rfl, rfl⟩ := q_23
      show oWP ω γ k2 _ T_23 167 #[.val (.ref a), .val (.ref w), .val (.int mm), .val (.ref ao), .val (.int (i + (1 : Int32))), .val (.int (lc + (ct - i))), .val (.long rm), .second, .val (.int k), .val (.int i)] [.int z23, .int k, .ref w, .long rm]
      refine ow_callS X_23 170 30 31 8 32 (κ' := k5) (as := [.ref w, .int k, .int z23]) (S := [.long rm]) (W := 2) rfl rfl rfl rfl rfl (by decide) (C_room (oSt_w X_23) (oSt_n0 X_23) w k z23 n G f22_1 hk0 (by omega) (by omega) hz) (by decide) (by decide) (Nat.le_of_eq rfl) (by decide) (by decide) pd5 rfl rfl rfl d2_167 rfl ?_
      intro v_24 T_24 h_24 X_24 q_24
      obtain ⟨z24, rfl, rfl⟩ := q_24
      show oWP ω γ k2 _ T_24 170 #[.val (.ref a), .val (.ref w), .val (.int mm), .val (.ref ao), .val (.int (i + (1 : Int32))), .val (.int (lc + (ct - i))), .val (.long rm), .second, .val (.int k), .val (.int i)] [.long z24, .long rm]
      refine ow_callS X_24 173 33 34 35 36 (κ' := k6) (as := [.long rm, .long z24]) (S := []) (W := 0) rfl rfl rfl rfl rfl (by decide) (C_maxJ (oSt_w X_24) (oSt_n0 X_24) rm z24) (by decide) (by decide) (Nat.le_of_eq rfl) (by decide) (by decide) pd6 rfl rfl rfl d2_170 rfl ?_
      intro v_25 T_25 h_25 X_25 q_25
      obtain ⟨z25, rfl, rfl⟩ := q_25
      show oWP ω γ k2 _ T_25 173 #[.val (.ref a), .val (.ref w), .val (.int mm), .val (.ref ao), .val (.int (i + (1 : Int32))), .val (.int (lc + (ct - i))), .val (.long rm), .second, .val (.int k), .val (.int i)] [.long z25]
      refine ow_lstore X_25 175 (L' := #[.val (.ref a), .val (.ref w), .val (.int mm), .val (.ref ao), .val (.int (i + (1 : Int32))), .val (.int (lc + (ct - i))), .val (.long z25), .second, .val (.int k), .val (.int i)]) d2_173 rfl rfl ?_
      refine ow_iinc X_25 178 (L' := #[.val (.ref a), .val (.ref w), .val (.int mm), .val (.ref ao), .val (.int (i + (1 : Int32))), .val (.int (lc + (ct - i))), .val (.long z25), .second, .val (.int (k + (6 : Int32))), .val (.int i)]) (6 : Int32) d2_175 rfl rfl rfl rfl ?_
      refine ow_goto X_25 52 d2_178 rfl ?_
      exact ih _ (by omega) X_25 _ _ _ _ _ _ _ _ _ (Or.inr ⟨_, rfl⟩) f22_0 f22_1 f22_6 f22_2 f22_3 f22_4 f22_5 (by omega) (by omega) (by omega) (by omega) (own_open hi0 hic hO hk0 (by omega) y3) (by omega) rfl
set_option maxRecDepth 65536 in
set_option maxHeartbeats 4000000 in
theorem C_init {Z : State} {ω : OW} {h : Heap} (hw_ : ∀ d ∈ tables_1, d.before ω.2.2 Z = true) (hn_ : ω.2.1 ≤ h.size) (a w : Addr) (n m : Nat) (ln : Int32) (G : Nat → Int32) (F0 : CP Z h a .null .null .null .null (.int (0 : Int32)) (.int (0 : Int32)) (.int (0 : Int32))) (Aw : oA Z h w .int n (fun i_ => .int (G i_))) (ga : ω.2.1 ≤ a) (ne : a ≠ w) (hln : ln.toInt = n) (hnm : n = 6 * m) (hm : m ≤ 3) (hG : ∀ j, j < m → G (6 * j + 1) ≠ 0) :
    oC Z ω (⟨"com/example/rexquill/rexquill/Copies", "<init>", "([I)V"⟩ : MethodName) k2 [] #[.ref a, .ref w] h (fun v h' => v = none ∧ Keep h h' [a] ∧ ∃ v1 v2 v3 v4 v5 v6, CP Z h' a (.ref w) v1 v2 v3 v4 v5 v6) := by
  refine oC_of hw_ hn_ pn2 rfl rfl (L := #[.val (.ref a), .val (.ref w), .unset, .unset, .unset, .unset, .unset, .unset, .unset, .unset]) (fun m => by first | (simp [entryFrame, mkF, argsToLocals, Value.category, k2]; done) | rfl) ?_
  intro γ T X
  refine ow_aloadN X 1 d2_0 rfl rfl rfl ?_
  refine ow_initO X 4 12 13 14 rfl rfl rfl rfl d2_1 rfl rfl (by decide) (W := 0) (Nat.le_of_eq rfl) (by decide) ?_
  intro T_26 X_26
  refine ow_aloadN X_26 5 d2_4 rfl rfl rfl ?_
  refine ow_aloadN X_26 6 d2_5 rfl rfl rfl ?_
  refine ow_putF X_26 9 15 7 rfl rfl F0.2.1 F0.1 (Or.inr ⟨oSt_at X_26 16 rfl, rfl, rfl⟩) rfl (ty := (.array .int)) (by decide) rfl rfl ga d2_6 rfl ?_
  intro T_27 h_27 X_27 W_27
  have f28_0 : CP Z h_27 a (.ref w) .null .null .null (.int (0 : Int32)) (.int (0 : Int32)) (.int (0 : Int32)) := CP.set_records (oSt_w X_27) F0 W_27
  have f28_1 : oA Z h_27 w .int n (fun i_ => .int (G i_)) := Aw.other W_27 (Ne.symm ne)
  have f28_2 : Keep h h_27 [a] := (Keep.refl h [a]).wr W_27 (Or.inl (List.mem_of_getElem? (i := 0) rfl))
  refine ow_aloadN X_27 10 d2_9 rfl rfl rfl ?_
  refine ow_alen X_27 11 (v := ln) f28_1 d2_10 rfl hln ?_
  refine ow_bipush X_27 13 (6 : Int32) d2_11 rfl rfl ?_
  refine ow_idiv X_27 14 d2_13 rfl (by decide) ?_
  refine ow_istoreN X_27 15 (L' := #[.val (.ref a), .val (.ref w), .val (.int (ln / (6 : Int32))), .unset, .unset, .unset, .unset, .unset, .unset, .unset]) d2_14 rfl rfl ?_
  have d6 := own_d6 ln (by omega)
  generalize ln / (6 : Int32) = mm at d6 ⊢
  have hmm : mm.toInt = m := by omega
  have hmn : mm.toInt.toNat = m := by omega
  refine ow_aloadN X_27 16 d2_15 rfl rfl rfl ?_
  refine ow_iloadN X_27 17 d2_16 rfl rfl ?_
  refine ow_newP X_27 19 1 (cap := 3) rfl d2_17 rfl (by omega) (by omega) (by decide) (by decide) (by decide) ?_
  intro T_29 h_29 a_29 q_29 X_29 E_29 A_29 g_29
  have ne_a_a_29 : a ≠ a_29 := by rw [q_29]; exact Nat.ne_of_lt f28_0.lt
  have ne_w_a_29 : w ≠ a_29 := by rw [q_29]; exact Nat.ne_of_lt f28_1.lt
  have ge_h_a_29 : h.size ≤ a_29 := by rw [q_29]; exact f28_2.1
  have f30_0 : CP Z h_29 a (.ref w) .null .null .null (.int (0 : Int32)) (.int (0 : Int32)) (.int (0 : Int32)) := f28_0.ext E_29
  have f30_1 : oA Z h_29 w .int n (fun i_ => .int (G i_)) := f28_1.ext E_29
  have f30_2 : Keep h h_29 [a] := f28_2.ext E_29
  have A_29 : oA Z h_29 a_29 .int mm.toInt.toNat (fun i_ => .int (oZI i_)) := A_29
  refine ow_putF X_29 22 17 7 rfl rfl f30_0.2.2.1 f30_0.1 (Or.inr ⟨oSt_at X_29 18 rfl, rfl, rfl⟩) rfl (ty := (.array .int)) (by decide) rfl rfl ga d2_19 rfl ?_
  intro T_31 h_31 X_31 W_31
  have f32_0 : CP Z h_31 a (.ref w) (.ref a_29) .null .null (.int (0 : Int32)) (.int (0 : Int32)) (.int (0 : Int32)) := CP.set_recordLists (oSt_w X_31) f30_0 W_31
  have f32_1 : oA Z h_31 w .int n (fun i_ => .int (G i_)) := f30_1.other W_31 (Ne.symm ne)
  have f32_2 : Keep h h_31 [a] := f30_2.wr W_31 (Or.inl (List.mem_of_getElem? (i := 0) rfl))
  have f32_3 : oA Z h_31 a_29 .int mm.toInt.toNat (fun i_ => .int (oZI i_)) := A_29.other W_31 (Ne.symm ne_a_a_29)
  refine ow_aloadN X_31 23 d2_22 rfl rfl rfl ?_
  refine ow_iloadN X_31 24 d2_23 rfl rfl ?_
  refine ow_newP X_31 26 1 (cap := 3) rfl d2_24 rfl (by omega) (by omega) (by decide) (by decide) (by decide) ?_
  intro T_33 h_33 a_33 q_33 X_33 E_33 A_33 g_33
  have ne_a_a_33 : a ≠ a_33 := by rw [q_33]; exact Nat.ne_of_lt f32_0.lt
  have ne_w_a_33 : w ≠ a_33 := by rw [q_33]; exact Nat.ne_of_lt f32_1.lt
  have ge_h_a_33 : h.size ≤ a_33 := by rw [q_33]; exact f32_2.1
  have ne_a_29_a_33 : a_29 ≠ a_33 := by rw [q_33]; exact Nat.ne_of_lt f32_3.lt
  have f34_0 : CP Z h_33 a (.ref w) (.ref a_29) .null .null (.int (0 : Int32)) (.int (0 : Int32)) (.int (0 : Int32)) := f32_0.ext E_33
  have f34_1 : oA Z h_33 w .int n (fun i_ => .int (G i_)) := f32_1.ext E_33
  have f34_2 : Keep h h_33 [a] := f32_2.ext E_33
  have f34_3 : oA Z h_33 a_29 .int mm.toInt.toNat (fun i_ => .int (oZI i_)) := f32_3.ext E_33
  have A_33 : oA Z h_33 a_33 .int mm.toInt.toNat (fun i_ => .int (oZI i_)) := A_33
  refine ow_putF X_33 29 19 7 rfl rfl f34_0.2.2.2.1 f34_0.1 (Or.inr ⟨oSt_at X_33 20 rfl, rfl, rfl⟩) rfl (ty := (.array .int)) (by decide) rfl rfl ga d2_26 rfl ?_
  intro T_35 h_35 X_35 W_35
  have f36_0 : CP Z h_35 a (.ref w) (.ref a_29) (.ref a_33) .null (.int (0 : Int32)) (.int (0 : Int32)) (.int (0 : Int32)) := CP.set_innerRecords (oSt_w X_35) f34_0 W_35
  have f36_1 : oA Z h_35 w .int n (fun i_ => .int (G i_)) := f34_1.other W_35 (Ne.symm ne)
  have f36_2 : Keep h h_35 [a] := f34_2.wr W_35 (Or.inl (List.mem_of_getElem? (i := 0) rfl))
  have f36_3 : oA Z h_35 a_29 .int mm.toInt.toNat (fun i_ => .int (oZI i_)) := f34_3.other W_35 (Ne.symm ne_a_a_29)
  have f36_4 : oA Z h_35 a_33 .int mm.toInt.toNat (fun i_ => .int (oZI i_)) := A_33.other W_35 (Ne.symm ne_a_a_33)
  refine ow_aloadN X_35 30 d2_29 rfl rfl rfl ?_
  refine ow_iloadN X_35 31 d2_30 rfl rfl ?_
  refine ow_newP X_35 33 1 (cap := 3) rfl d2_31 rfl (by omega) (by omega) (by decide) (by decide) (by decide) ?_
  intro T_37 h_37 a_37 q_37 X_37 E_37 A_37 g_37
  have ne_a_a_37 : a ≠ a_37 := by rw [q_37]; exact Nat.ne_of_lt f36_0.lt
  have ne_w_a_37 : w ≠ a_37 := by rw [q_37]; exact Nat.ne_of_lt f36_1.lt
  have ge_h_a_37 : h.size ≤ a_37 := by rw [q_37]; exact f36_2.1
  have ne_a_29_a_37 : a_29 ≠ a_37 := by rw [q_37]; exact Nat.ne_of_lt f36_3.lt
  have ne_a_33_a_37 : a_33 ≠ a_37 := by rw [q_37]; exact Nat.ne_of_lt f36_4.lt
  have f38_0 : CP Z h_37 a (.ref w) (.ref a_29) (.ref a_33) .null (.int (0 : Int32)) (.int (0 : Int32)) (.int (0 : Int32)) := f36_0.ext E_37
  have f38_1 : oA Z h_37 w .int n (fun i_ => .int (G i_)) := f36_1.ext E_37
  have f38_2 : Keep h h_37 [a] := f36_2.ext E_37
  have f38_3 : oA Z h_37 a_29 .int mm.toInt.toNat (fun i_ => .int (oZI i_)) := f36_3.ext E_37
  have f38_4 : oA Z h_37 a_33 .int mm.toInt.toNat (fun i_ => .int (oZI i_)) := f36_4.ext E_37
  have A_37 : oA Z h_37 a_37 .int mm.toInt.toNat (fun i_ => .int (oZI i_)) := A_37
  refine ow_putF X_37 36 21 7 rfl rfl f38_0.2.2.2.2.1 f38_0.1 (Or.inr ⟨oSt_at X_37 22 rfl, rfl, rfl⟩) rfl (ty := (.array .int)) (by decide) rfl rfl ga d2_33 rfl ?_
  intro T_39 h_39 X_39 W_39
  have f40_0 : CP Z h_39 a (.ref w) (.ref a_29) (.ref a_33) (.ref a_37) (.int (0 : Int32)) (.int (0 : Int32)) (.int (0 : Int32)) := CP.set_innerRecordCount (oSt_w X_39) f38_0 W_39
  have f40_1 : oA Z h_39 w .int n (fun i_ => .int (G i_)) := f38_1.other W_39 (Ne.symm ne)
  have f40_2 : Keep h h_39 [a] := f38_2.wr W_39 (Or.inl (List.mem_of_getElem? (i := 0) rfl))
  have f40_3 : oA Z h_39 a_29 .int mm.toInt.toNat (fun i_ => .int (oZI i_)) := f38_3.other W_39 (Ne.symm ne_a_a_29)
  have f40_4 : oA Z h_39 a_33 .int mm.toInt.toNat (fun i_ => .int (oZI i_)) := f38_4.other W_39 (Ne.symm ne_a_a_33)
  have f40_5 : oA Z h_39 a_37 .int mm.toInt.toNat (fun i_ => .int (oZI i_)) := A_37.other W_39 (Ne.symm ne_a_a_37)
  refine ow_iloadN X_39 37 d2_36 rfl rfl ?_
  refine ow_newP X_39 39 1 (cap := 3) rfl d2_37 rfl (by omega) (by omega) (by decide) (by decide) (by decide) ?_
  intro T_41 h_41 a_41 q_41 X_41 E_41 A_41 g_41
  have ne_a_a_41 : a ≠ a_41 := by rw [q_41]; exact Nat.ne_of_lt f40_0.lt
  have ne_w_a_41 : w ≠ a_41 := by rw [q_41]; exact Nat.ne_of_lt f40_1.lt
  have ge_h_a_41 : h.size ≤ a_41 := by rw [q_41]; exact f40_2.1
  have ne_a_29_a_41 : a_29 ≠ a_41 := by rw [q_41]; exact Nat.ne_of_lt f40_3.lt
  have ne_a_33_a_41 : a_33 ≠ a_41 := by rw [q_41]; exact Nat.ne_of_lt f40_4.lt
  have ne_a_37_a_41 : a_37 ≠ a_41 := by rw [q_41]; exact Nat.ne_of_lt f40_5.lt
  have f42_0 : CP Z h_41 a (.ref w) (.ref a_29) (.ref a_33) (.ref a_37) (.int (0 : Int32)) (.int (0 : Int32)) (.int (0 : Int32)) := f40_0.ext E_41
  have f42_1 : oA Z h_41 w .int n (fun i_ => .int (G i_)) := f40_1.ext E_41
  have f42_2 : Keep h h_41 [a] := f40_2.ext E_41
  have f42_3 : oA Z h_41 a_29 .int mm.toInt.toNat (fun i_ => .int (oZI i_)) := f40_3.ext E_41
  have f42_4 : oA Z h_41 a_33 .int mm.toInt.toNat (fun i_ => .int (oZI i_)) := f40_4.ext E_41
  have f42_5 : oA Z h_41 a_37 .int mm.toInt.toNat (fun i_ => .int (oZI i_)) := f40_5.ext E_41
  have A_41 : oA Z h_41 a_41 .int mm.toInt.toNat (fun i_ => .int (oZI i_)) := A_41
  refine ow_astoreN X_41 40 (L' := #[.val (.ref a), .val (.ref w), .val (.int mm), .val (.ref a_41), .unset, .unset, .unset, .unset, .unset, .unset]) d2_39 rfl rfl rfl ?_
  refine ow_iconst X_41 41 (0 : Int32) d2_40 rfl rfl ?_
  refine ow_istore X_41 43 (L' := #[.val (.ref a), .val (.ref w), .val (.int mm), .val (.ref a_41), .val (.int (0 : Int32)), .unset, .unset, .unset, .unset, .unset]) d2_41 rfl rfl ?_
  refine ow_iconst X_41 44 (0 : Int32) d2_43 rfl rfl ?_
  refine ow_istore X_41 46 (L' := #[.val (.ref a), .val (.ref w), .val (.int mm), .val (.ref a_41), .val (.int (0 : Int32)), .val (.int (0 : Int32)), .unset, .unset, .unset, .unset]) d2_44 rfl rfl ?_
  refine ow_lconst X_41 47 (0 : Int64) d2_46 rfl rfl ?_
  refine ow_lstore X_41 49 (L' := #[.val (.ref a), .val (.ref w), .val (.int mm), .val (.ref a_41), .val (.int (0 : Int32)), .val (.int (0 : Int32)), .val (.long (0 : Int64)), .second, .unset, .unset]) d2_47 rfl rfl ?_
  refine ow_iconst X_41 50 (0 : Int32) d2_49 rfl rfl ?_
  refine ow_istore X_41 52 (L' := #[.val (.ref a), .val (.ref w), .val (.int mm), .val (.ref a_41), .val (.int (0 : Int32)), .val (.int (0 : Int32)), .val (.long (0 : Int64)), .second, .val (.int (0 : Int32)), .unset]) d2_50 rfl rfl ?_
  have z1 : oA Z h_41 a_29 .int m (fun i => .int (oZI i)) := hmn ▸ f42_3
  have z2 : oA Z h_41 a_33 .int m (fun i => .int (oZI i)) := hmn ▸ f42_4
  have z3 : oA Z h_41 a_37 .int m (fun i => .int (oZI i)) := hmn ▸ f42_5
  have z4 : oA Z h_41 a_41 .int m (fun i => .int (oZI i)) := hmn ▸ A_41
  exact O52 h a w a_29 a_33 a_37 a_41 _ _ _ n m ln mm G (List.nodup_cons.mpr ⟨(ninS ne (ninS ne_a_a_29 (ninS ne_a_a_33 (ninS ne_a_a_37 (ninS ne_a_a_41 nin0))))), (List.nodup_cons.mpr ⟨(ninS ne_w_a_29 (ninS ne_w_a_33 (ninS ne_w_a_37 (ninS ne_w_a_41 nin0)))), (List.nodup_cons.mpr ⟨(ninS ne_a_29_a_33 (ninS ne_a_29_a_37 (ninS ne_a_29_a_41 nin0))), (List.nodup_cons.mpr ⟨(ninS ne_a_33_a_37 (ninS ne_a_33_a_41 nin0)), (List.nodup_cons.mpr ⟨(ninS ne_a_37_a_41 nin0), (List.nodup_cons.mpr ⟨nin0, List.nodup_nil⟩)⟩)⟩)⟩)⟩)⟩) (allS ga (allS g_29 (allS g_33 (allS g_37 (allS g_41 all0))))) (allS ge_h_a_29 (allS ge_h_a_33 (allS ge_h_a_37 (allS ge_h_a_41 all0)))) hln hmm hnm hm hG _ X_41 0 0 0 0 _ _ _ _ _ (Or.inl rfl) f42_0 f42_1 z1 z2 z3 z4 f42_2 (by decide) (by decide) (by decide) (by decide) (fun i hi => by have e : (0 : Int32).toInt = 0 := rfl; omega) (by have e : (0 : Int32).toInt = 0 := rfl; omega) rfl
theorem d1_0 : decode method_3_code 0 = .ok (.aload_n 0, 1) := by decide +kernel
theorem d1_1 : decode method_3_code 1 = .ok (.iload_n 1, 1) := by decide +kernel
theorem d1_2 : decode method_3_code 2 = .ok (.iload_n 1, 1) := by decide +kernel
theorem d1_3 : decode method_3_code 3 = .ok (.iastore, 1) := by decide +kernel
theorem d1_4 : decode method_3_code 4 = .ok (.aload_n 0, 1) := by decide +kernel
theorem d1_5 : decode method_3_code 5 = .ok (.iload_n 1, 1) := by decide +kernel
theorem d1_6 : decode method_3_code 6 = .ok (.iconst 1, 1) := by decide +kernel
theorem d1_7 : decode method_3_code 7 = .ok (.iadd, 1) := by decide +kernel
theorem d1_8 : decode method_3_code 8 = .ok (.iconst 1, 1) := by decide +kernel
theorem d1_9 : decode method_3_code 9 = .ok (.iastore, 1) := by decide +kernel
theorem d1_10 : decode method_3_code 10 = .ok (.aload_n 0, 1) := by decide +kernel
theorem d1_11 : decode method_3_code 11 = .ok (.iload_n 1, 1) := by decide +kernel
theorem d1_12 : decode method_3_code 12 = .ok (.iconst 2, 1) := by decide +kernel
theorem d1_13 : decode method_3_code 13 = .ok (.iadd, 1) := by decide +kernel
theorem d1_14 : decode method_3_code 14 = .ok (.iload_n 1, 1) := by decide +kernel
theorem d1_15 : decode method_3_code 15 = .ok (.iconst 1, 1) := by decide +kernel
theorem d1_16 : decode method_3_code 16 = .ok (.iadd, 1) := by decide +kernel
theorem d1_17 : decode method_3_code 17 = .ok (.iastore, 1) := by decide +kernel
theorem d1_18 : decode method_3_code 18 = .ok (.aload_n 0, 1) := by decide +kernel
theorem d1_19 : decode method_3_code 19 = .ok (.iload_n 1, 1) := by decide +kernel
theorem d1_20 : decode method_3_code 20 = .ok (.iconst 3, 1) := by decide +kernel
theorem d1_21 : decode method_3_code 21 = .ok (.iadd, 1) := by decide +kernel
theorem d1_22 : decode method_3_code 22 = .ok (.iload_n 2, 1) := by decide +kernel
theorem d1_23 : decode method_3_code 23 = .ok (.iastore, 1) := by decide +kernel
theorem d1_24 : decode method_3_code 24 = .ok (.aload_n 0, 1) := by decide +kernel
theorem d1_25 : decode method_3_code 25 = .ok (.iload_n 1, 1) := by decide +kernel
theorem d1_26 : decode method_3_code 26 = .ok (.iconst 4, 1) := by decide +kernel
theorem d1_27 : decode method_3_code 27 = .ok (.iadd, 1) := by decide +kernel
theorem d1_28 : decode method_3_code 28 = .ok (.iload_n 3, 1) := by decide +kernel
theorem d1_29 : decode method_3_code 29 = .ok (.iastore, 1) := by decide +kernel
theorem d1_30 : decode method_3_code 30 = .ok (.aload_n 0, 1) := by decide +kernel
theorem d1_31 : decode method_3_code 31 = .ok (.iload_n 1, 1) := by decide +kernel
theorem d1_32 : decode method_3_code 32 = .ok (.iconst 5, 1) := by decide +kernel
theorem d1_33 : decode method_3_code 33 = .ok (.iadd, 1) := by decide +kernel
theorem d1_34 : decode method_3_code 34 = .ok (.iconst 0, 1) := by decide +kernel
theorem d1_35 : decode method_3_code 35 = .ok (.iastore, 1) := by decide +kernel
theorem d1_36 : decode method_3_code 36 = .ok (.return_, 1) := by decide +kernel
def k1 : OM := (method_3_code, 4, "com/example/rexquill/rexquill/CopiesHasLaterOptionalCopiesPinLaw", "fill", none, { frames := 0, cells := 0, slots := 0, locals := 0 })
theorem pn1 : plainFor (⟨"com/example/rexquill/rexquill/CopiesHasLaterOptionalCopiesPinLaw", "fill", "([IIII)V"⟩ : MethodName) = true := plainFor_of_name (by first | (simp [plainName, overriddenIn]; done) | decide +kernel)
theorem pd1 : parseMethodDescriptor "([IIII)V" = some ⟨[(.array .int), .int, .int, .int], none⟩ := by decide +kernel
/-- one record's six places -/
def own_fill (G : Nat → Int32) (k : Nat) (v0 v1 v2 v3 v4 v5 : Int32) : Nat → Int32 := oUpd (oUpd (oUpd (oUpd (oUpd (oUpd G k v0) (k + 1) v1) (k + 2) v2) (k + 3) v3) (k + 4) v4) (k + 5) v5
theorem own_fill_at (G : Nat → Int32) (k : Nat) (v0 v1 v2 v3 v4 v5 : Int32) (j : Nat) : own_fill G k v0 v1 v2 v3 v4 v5 j = if j = k + 5 then v5 else if j = k + 4 then v4 else if j = k + 3 then v3 else if j = k + 2 then v2 else if j = k + 1 then v1 else if j = k then v0 else G j := rfl
set_option maxRecDepth 65536 in
set_option maxHeartbeats 4000000 in
theorem C_fill {Z : State} {ω : OW} {h : Heap} (hw_ : ∀ d ∈ tables_1, d.before ω.2.2 Z = true) (hn_ : ω.2.1 ≤ h.size) (w : Addr) (k st en : Int32) (n : Nat) (G : Nat → Int32) (A0 : oA Z h w .int n (fun i_ => .int (G i_))) (gw : ω.2.1 ≤ w) (hk0 : 0 ≤ k.toInt) (hk1 : k.toInt + 5 < n) (hn : (n : Int) < 2147483648) :
    oC Z ω (⟨"com/example/rexquill/rexquill/CopiesHasLaterOptionalCopiesPinLaw", "fill", "([IIII)V"⟩ : MethodName) k1 [] #[.ref w, .int k, .int st, .int en] h (fun v h' => v = none ∧ Keep h h' [w] ∧ oA Z h' w .int n (fun i => .int (own_fill G k.toInt.toNat k (1 : Int32) (k + (1 : Int32)) st en (0 : Int32) i))) := by
  refine oC_of hw_ hn_ pn1 rfl rfl (L := #[.val (.ref w), .val (.int k), .val (.int st), .val (.int en)]) (fun m => by first | (simp [entryFrame, mkF, argsToLocals, Value.category, k1]; done) | rfl) ?_
  intro γ T X
  obtain ⟨x1, x2, x3, x4, x5⟩ := own_six 0 k n hk0 hk1 hn
  refine ow_aloadN X 1 d1_0 rfl rfl rfl ?_
  refine ow_iloadN X 2 d1_1 rfl rfl ?_
  refine ow_iloadN X 3 d1_2 rfl rfl ?_
  refine ow_iastore X 4 A0 gw d1_3 rfl (by omega) (by omega) ?_
  intro T_43 h_43 X_43 W_43
  have f44_0 : oA Z h_43 w .int n (fun i_ => .int ((oUpd G k.toInt.toNat k) i_)) := A0.setI W_43
  have f44_1 : Keep h h_43 [w] := (Keep.refl h [w]).wr W_43 (Or.inl (List.mem_of_getElem? (i := 0) rfl))
  refine ow_aloadN X_43 5 d1_4 rfl rfl rfl ?_
  refine ow_iloadN X_43 6 d1_5 rfl rfl ?_
  refine ow_iconst X_43 7 (1 : Int32) d1_6 rfl rfl ?_
  refine ow_iadd X_43 8 d1_7 rfl ?_
  refine ow_iconst X_43 9 (1 : Int32) d1_8 rfl rfl ?_
  refine ow_iastore X_43 10 f44_0 gw d1_9 rfl (by omega) (by omega) ?_
  intro T_45 h_45 X_45 W_45
  have f46_0 : oA Z h_45 w .int n (fun i_ => .int ((oUpd (oUpd G k.toInt.toNat k) ((k + (1 : Int32)).toInt.toNat) (1 : Int32)) i_)) := f44_0.setI W_45
  have f46_1 : Keep h h_45 [w] := f44_1.wr W_45 (Or.inl (List.mem_of_getElem? (i := 0) rfl))
  refine ow_aloadN X_45 11 d1_10 rfl rfl rfl ?_
  refine ow_iloadN X_45 12 d1_11 rfl rfl ?_
  refine ow_iconst X_45 13 (2 : Int32) d1_12 rfl rfl ?_
  refine ow_iadd X_45 14 d1_13 rfl ?_
  refine ow_iloadN X_45 15 d1_14 rfl rfl ?_
  refine ow_iconst X_45 16 (1 : Int32) d1_15 rfl rfl ?_
  refine ow_iadd X_45 17 d1_16 rfl ?_
  refine ow_iastore X_45 18 f46_0 gw d1_17 rfl (by omega) (by omega) ?_
  intro T_47 h_47 X_47 W_47
  have f48_0 : oA Z h_47 w .int n (fun i_ => .int ((oUpd (oUpd (oUpd G k.toInt.toNat k) ((k + (1 : Int32)).toInt.toNat) (1 : Int32)) ((k + (2 : Int32)).toInt.toNat) (k + (1 : Int32))) i_)) := f46_0.setI W_47
  have f48_1 : Keep h h_47 [w] := f46_1.wr W_47 (Or.inl (List.mem_of_getElem? (i := 0) rfl))
  refine ow_aloadN X_47 19 d1_18 rfl rfl rfl ?_
  refine ow_iloadN X_47 20 d1_19 rfl rfl ?_
  refine ow_iconst X_47 21 (3 : Int32) d1_20 rfl rfl ?_
  refine ow_iadd X_47 22 d1_21 rfl ?_
  refine ow_iloadN X_47 23 d1_22 rfl rfl ?_
  refine ow_iastore X_47 24 f48_0 gw d1_23 rfl (by omega) (by omega) ?_
  intro T_49 h_49 X_49 W_49
  have f50_0 : oA Z h_49 w .int n (fun i_ => .int ((oUpd (oUpd (oUpd (oUpd G k.toInt.toNat k) ((k + (1 : Int32)).toInt.toNat) (1 : Int32)) ((k + (2 : Int32)).toInt.toNat) (k + (1 : Int32))) ((k + (3 : Int32)).toInt.toNat) st) i_)) := f48_0.setI W_49
  have f50_1 : Keep h h_49 [w] := f48_1.wr W_49 (Or.inl (List.mem_of_getElem? (i := 0) rfl))
  refine ow_aloadN X_49 25 d1_24 rfl rfl rfl ?_
  refine ow_iloadN X_49 26 d1_25 rfl rfl ?_
  refine ow_iconst X_49 27 (4 : Int32) d1_26 rfl rfl ?_
  refine ow_iadd X_49 28 d1_27 rfl ?_
  refine ow_iloadN X_49 29 d1_28 rfl rfl ?_
  refine ow_iastore X_49 30 f50_0 gw d1_29 rfl (by omega) (by omega) ?_
  intro T_51 h_51 X_51 W_51
  have f52_0 : oA Z h_51 w .int n (fun i_ => .int ((oUpd (oUpd (oUpd (oUpd (oUpd G k.toInt.toNat k) ((k + (1 : Int32)).toInt.toNat) (1 : Int32)) ((k + (2 : Int32)).toInt.toNat) (k + (1 : Int32))) ((k + (3 : Int32)).toInt.toNat) st) ((k + (4 : Int32)).toInt.toNat) en) i_)) := f50_0.setI W_51
  have f52_1 : Keep h h_51 [w] := f50_1.wr W_51 (Or.inl (List.mem_of_getElem? (i := 0) rfl))
  refine ow_aloadN X_51 31 d1_30 rfl rfl rfl ?_
  refine ow_iloadN X_51 32 d1_31 rfl rfl ?_
  refine ow_iconst X_51 33 (5 : Int32) d1_32 rfl rfl ?_
  refine ow_iadd X_51 34 d1_33 rfl ?_
  refine ow_iconst X_51 35 (0 : Int32) d1_34 rfl rfl ?_
  refine ow_iastore X_51 36 f52_0 gw d1_35 rfl (by omega) (by omega) ?_
  intro T_53 h_53 X_53 W_53
  have f54_0 : oA Z h_53 w .int n (fun i_ => .int ((oUpd (oUpd (oUpd (oUpd (oUpd (oUpd G k.toInt.toNat k) ((k + (1 : Int32)).toInt.toNat) (1 : Int32)) ((k + (2 : Int32)).toInt.toNat) (k + (1 : Int32))) ((k + (3 : Int32)).toInt.toNat) st) ((k + (4 : Int32)).toInt.toNat) en) ((k + (5 : Int32)).toInt.toNat) (0 : Int32)) i_)) := f52_0.setI W_53
  have f54_1 : Keep h h_53 [w] := f52_1.wr W_53 (Or.inl (List.mem_of_getElem? (i := 0) rfl))
  refine ow_retV X_53 rfl d1_36 (by decide) (by decide) ?_
  refine ⟨rfl, f54_1, ?_⟩
  have q := f54_0
  have n1 : (k + (1 : Int32)).toInt.toNat = k.toInt.toNat + 1 := by omega
  have n2 : (k + (2 : Int32)).toInt.toNat = k.toInt.toNat + 2 := by omega
  have n3 : (k + (3 : Int32)).toInt.toNat = k.toInt.toNat + 3 := by omega
  have n4 : (k + (4 : Int32)).toInt.toNat = k.toInt.toNat + 4 := by omega
  have n5 : (k + (5 : Int32)).toInt.toNat = k.toInt.toNat + 5 := by omega
  rw [n1, n2, n3, n4, n5] at q
  exact q
theorem d8_0 : decode method_4_code 0 = .ok (.iload_n 1, 1) := by decide +kernel
theorem d8_1 : decode method_4_code 1 = .ok (.i2l, 1) := by decide +kernel
theorem d8_2 : decode method_4_code 2 = .ok (.iload_n 0, 1) := by decide +kernel
theorem d8_3 : decode method_4_code 3 = .ok (.i2l, 1) := by decide +kernel
theorem d8_4 : decode method_4_code 4 = .ok (.ldc2_w 27, 3) := by decide +kernel
theorem d8_7 : decode method_4_code 7 = .ok (.ladd, 1) := by decide +kernel
theorem d8_8 : decode method_4_code 8 = .ok (.lcmp, 1) := by decide +kernel
theorem d8_9 : decode method_4_code 9 = .ok (.ifCond .lt 7, 3) := by decide +kernel
theorem d8_12 : decode method_4_code 12 = .ok (.iconst 1, 1) := by decide +kernel
theorem d8_13 : decode method_4_code 13 = .ok (.goto 4, 3) := by decide +kernel
theorem d8_16 : decode method_4_code 16 = .ok (.iconst 0, 1) := by decide +kernel
theorem d8_17 : decode method_4_code 17 = .ok (.ireturn, 1) := by decide +kernel
def k8 : OM := (method_4_code, 2, "com/example/rexquill/rexquill/CopiesHasLaterOptionalCopiesPinLaw", "later", (some .boolean), { frames := 0, cells := 0, slots := 0, locals := 0 })
theorem pn8 : plainFor (⟨"com/example/rexquill/rexquill/CopiesHasLaterOptionalCopiesPinLaw", "later", "(II)Z"⟩ : MethodName) = true := plainFor_of_name (by first | (simp [plainName, overriddenIn]; done) | decide +kernel)
theorem pd8 : parseMethodDescriptor "(II)Z" = some ⟨[.int, .int], (some .boolean)⟩ := by decide +kernel
theorem own_two (s : Int32) (h : 0 ≤ s.toInt) : (s.toInt64 + (2 : Int64)).toInt = s.toInt + 2 := by
  have e1 := c_i2l s; have a := c_ladd s.toInt64 2; have r1 := rng64 (s.toInt64 + 2); have r0 := rng32 s; have k : (2 : Int64).toInt = 2 := rfl
  omega
set_option maxRecDepth 65536 in
set_option maxHeartbeats 4000000 in
theorem C_later {Z : State} {ω : OW} {h : Heap} (hw_ : ∀ d ∈ tables_1, d.before ω.2.2 Z = true) (hn_ : ω.2.1 ≤ h.size) (st en : Int32) (h0 : 0 ≤ st.toInt) :
    oC Z ω (⟨"com/example/rexquill/rexquill/CopiesHasLaterOptionalCopiesPinLaw", "later", "(II)Z"⟩ : MethodName) k8 [] #[.int st, .int en] h (fun v h' => ∃ z : Int32, v = some (.int z) ∧ h = h' ∧ ((z = 1 ∧ st.toInt + 2 ≤ en.toInt) ∨ (z = 0 ∧ ¬ st.toInt + 2 ≤ en.toInt))) := by
  refine oC_of hw_ hn_ pn8 rfl rfl (L := #[.val (.int st), .val (.int en)]) (fun m => by first | (simp [entryFrame, mkF, argsToLocals, Value.category, k8]; done) | rfl) ?_
  intro γ T X
  refine ow_iloadN X 1 d8_0 rfl rfl ?_
  refine ow_i2l X 2 d8_1 rfl ?_
  refine ow_iloadN X 3 d8_2 rfl rfl ?_
  refine ow_i2l X 4 d8_3 rfl ?_
  refine ow_ldc2J X 7 50 rfl rfl d8_4 rfl ?_
  refine ow_ladd X 8 d8_7 rfl ?_
  refine ow_lcmp_lt X 9 12 16 d8_8 rfl d8_9 rfl rfl (fun (c8 : en.toInt64.toInt < (st.toInt64 + (2 : Int64)).toInt) => ?_) (fun (c8 : (st.toInt64 + (2 : Int64)).toInt ≤ en.toInt64.toInt) => ?_)
  · refine ow_iconst X 17 (0 : Int32) d8_16 rfl rfl ?_
    refine ow_retZ X rfl d8_17 (by decide) (by decide) (by decide) ?_
    have e1 := own_two st h0; have e2 := c_i2l en
    exact ⟨_, rfl, rfl, Or.inr ⟨rfl, by omega⟩⟩
  · refine ow_iconst X 13 (1 : Int32) d8_12 rfl rfl ?_
    refine ow_goto X 17 d8_13 rfl ?_
    refine ow_retZ X rfl d8_17 (by decide) (by decide) (by decide) ?_
    have e1 := own_two st h0; have e2 := c_i2l en
    exact ⟨_, rfl, rfl, Or.inl ⟨rfl, by omega⟩⟩
theorem d9_0 : decode prog_20_method_5_code 0 = .ok (.iconst 0, 1) := by decide +kernel
theorem d9_1 : decode prog_20_method_5_code 1 = .ok (.istore_n 1, 1) := by decide +kernel
theorem d9_2 : decode prog_20_method_5_code 2 = .ok (.iload_n 1, 1) := by decide +kernel
theorem d9_3 : decode prog_20_method_5_code 3 = .ok (.aload_n 0, 1) := by decide +kernel
theorem d9_4 : decode prog_20_method_5_code 4 = .ok (.getfield 7, 3) := by decide +kernel
theorem d9_7 : decode prog_20_method_5_code 7 = .ok (.arraylength, 1) := by decide +kernel
theorem d9_8 : decode prog_20_method_5_code 8 = .ok (.if_icmp .ge 32, 3) := by decide +kernel
theorem d9_11 : decode prog_20_method_5_code 11 = .ok (.aload_n 0, 1) := by decide +kernel
theorem d9_12 : decode prog_20_method_5_code 12 = .ok (.getfield 7, 3) := by decide +kernel
theorem d9_15 : decode prog_20_method_5_code 15 = .ok (.iload_n 1, 1) := by decide +kernel
theorem d9_16 : decode prog_20_method_5_code 16 = .ok (.iconst 4, 1) := by decide +kernel
theorem d9_17 : decode prog_20_method_5_code 17 = .ok (.iadd, 1) := by decide +kernel
theorem d9_18 : decode prog_20_method_5_code 18 = .ok (.iaload, 1) := by decide +kernel
theorem d9_19 : decode prog_20_method_5_code 19 = .ok (.aload_n 0, 1) := by decide +kernel
theorem d9_20 : decode prog_20_method_5_code 20 = .ok (.getfield 7, 3) := by decide +kernel
theorem d9_23 : decode prog_20_method_5_code 23 = .ok (.iload_n 1, 1) := by decide +kernel
theorem d9_24 : decode prog_20_method_5_code 24 = .ok (.iconst 3, 1) := by decide +kernel
theorem d9_25 : decode prog_20_method_5_code 25 = .ok (.iadd, 1) := by decide +kernel
theorem d9_26 : decode prog_20_method_5_code 26 = .ok (.iaload, 1) := by decide +kernel
theorem d9_27 : decode prog_20_method_5_code 27 = .ok (.isub, 1) := by decide +kernel
theorem d9_28 : decode prog_20_method_5_code 28 = .ok (.iconst 1, 1) := by decide +kernel
theorem d9_29 : decode prog_20_method_5_code 29 = .ok (.if_icmp .le 5, 3) := by decide +kernel
theorem d9_32 : decode prog_20_method_5_code 32 = .ok (.iconst 1, 1) := by decide +kernel
theorem d9_33 : decode prog_20_method_5_code 33 = .ok (.ireturn, 1) := by decide +kernel
theorem d9_34 : decode prog_20_method_5_code 34 = .ok (.iinc 1 6, 3) := by decide +kernel
theorem d9_37 : decode prog_20_method_5_code 37 = .ok (.goto (-35), 3) := by decide +kernel
theorem d9_40 : decode prog_20_method_5_code 40 = .ok (.iconst 0, 1) := by decide +kernel
theorem d9_41 : decode prog_20_method_5_code 41 = .ok (.ireturn, 1) := by decide +kernel
def k9 : OM := (prog_20_method_5_code, 2, "com/example/rexquill/rexquill/Copies", "hasLaterOptionalCopies", (some .boolean), { frames := 0, cells := 0, slots := 0, locals := 0 })
theorem pn9 : plainFor (⟨"com/example/rexquill/rexquill/Copies", "hasLaterOptionalCopies", "()Z"⟩ : MethodName) = true := plainFor_of_name (by first | (simp [plainName, overriddenIn]; done) | decide +kernel)
theorem pd9 : parseMethodDescriptor "()Z" = some ⟨[], (some .boolean)⟩ := by decide +kernel
set_option maxRecDepth 65536 in
set_option maxHeartbeats 4000000 in
theorem L_has {Z : State} {ω : OW} {γ : OG} (h0 : Heap) (a w : Addr) (G : Nat → Int32) (u1 u2 u3 u4 u5 u6 : Value) (hG : ∀ j, j < 3 → 0 ≤ (G (6 * j + 3)).toInt ∧ 0 ≤ (G (6 * j + 4)).toInt) (d : Nat) : ∀ {T : State} {h : Heap} (X : oSt Z ω γ k9 T h 0 0) (k : Int32) (j : Nat) (hh : h0 = h) (F0 : CP Z h a (.ref w) u1 u2 u3 u4 u5 u6) (Aw : oA Z h w .int 18 (fun i_ => .int (G i_))) (hk : k.toInt = 6 * j) (hj : j ≤ 3) (hp : ∀ i, i < j → ¬ (G (6 * i + 3)).toInt + 2 ≤ (G (6 * i + 4)).toInt) (hd_ : 3 - j = d),
    oWP ω γ k9 (fun v h' => ∃ z : Int32, v = some (.int z) ∧ h0 = h' ∧ ((z = 1 ∧ ∃ j, j < 3 ∧ (G (6 * j + 3)).toInt + 2 ≤ (G (6 * j + 4)).toInt) ∨ (z = 0 ∧ ∀ j, j < 3 → ¬ (G (6 * j + 3)).toInt + 2 ≤ (G (6 * j + 4)).toInt))) T 2 #[.val (.ref a), .val (.int k)] [] := by
  induction d using Nat.strongRecOn with
  | _ d ih =>
    intro T h X k j hh F0 Aw hk hj hp hd_
    have x3 := own_addk k 3 3 rfl (by decide) (by omega); have x4 := own_addk k 4 4 rfl (by decide) (by omega); have x6 := own_addk k 6 6 rfl (by decide) (by omega)
    refine ow_iloadN X 3 d9_2 rfl rfl ?_
    refine ow_aloadN X 4 d9_3 rfl rfl rfl ?_
    refine ow_getF X 7 15 rfl rfl F0.2.1 d9_4 rfl ?_
    intro T_55 X_55
    refine ow_alen X_55 8 (v := 18) Aw d9_7 rfl rfl ?_
    refine ow_icmp_ge X_55 11 40 d9_8 rfl rfl (fun (c8 : 18 ≤ k.toInt) => ?_) (fun (c8 : k.toInt < 18) => ?_)
    · refine ow_iconst X_55 41 (0 : Int32) d9_40 rfl rfl ?_
      refine ow_retZ X_55 rfl d9_41 (by decide) (by decide) (by decide) ?_
      subst hh
      exact ⟨_, rfl, rfl, Or.inr ⟨rfl, fun i hi => hp i (by omega)⟩⟩
    · refine ow_aloadN X_55 12 d9_11 rfl rfl rfl ?_
      refine ow_getF X_55 15 15 rfl rfl F0.2.1 d9_12 rfl ?_
      intro T_56 X_56
      refine ow_iloadN X_56 16 d9_15 rfl rfl ?_
      refine ow_iconst X_56 17 (4 : Int32) d9_16 rfl rfl ?_
      refine ow_iadd X_56 18 d9_17 rfl ?_
      refine ow_iaload X_56 19 Aw d9_18 rfl (by omega) (by omega) rfl ?_
      refine ow_aloadN X_56 20 d9_19 rfl rfl rfl ?_
      refine ow_getF X_56 23 15 rfl rfl F0.2.1 d9_20 rfl ?_
      intro T_57 X_57
      refine ow_iloadN X_57 24 d9_23 rfl rfl ?_
      refine ow_iconst X_57 25 (3 : Int32) d9_24 rfl rfl ?_
      refine ow_iadd X_57 26 d9_25 rfl ?_
      refine ow_iaload X_57 27 Aw d9_26 rfl (by omega) (by omega) rfl ?_
      refine ow_isub X_57 28 d9_27 rfl ?_
      refine ow_iconst X_57 29 (1 : Int32) d9_28 rfl rfl ?_
      refine ow_icmp_le X_57 32 34 d9_29 rfl rfl (fun (c29 : ((G (k + (4 : Int32)).toInt.toNat) - (G (k + (3 : Int32)).toInt.toNat)).toInt ≤ 1) => ?_) (fun (c29 : 1 < ((G (k + (4 : Int32)).toInt.toNat) - (G (k + (3 : Int32)).toInt.toNat)).toInt) => ?_)
      · have n3 : (k + (3 : Int32)).toInt.toNat = 6 * j + 3 := by omega
        have n4 : (k + (4 : Int32)).toInt.toNat = 6 * j + 4 := by omega
        rw [n3, n4] at c29
        have q := hG j (by omega)
        have r1 := rng32 (G (6 * j + 3)); have r2 := rng32 (G (6 * j + 4))
        rw [own_sub _ _ (by omega) (by omega)] at c29
        refine ow_iinc X_57 37 (L' := #[.val (.ref a), .val (.int (k + (6 : Int32)))]) (6 : Int32) d9_34 rfl rfl rfl rfl ?_
        refine ow_goto X_57 2 d9_37 rfl ?_
        exact ih _ (by omega) X_57 (k + (6 : Int32)) (j + 1) hh F0 Aw (by omega) (by omega) (fun i hi => by
          by_cases e : i = j
          · subst e; omega
          · exact hp i (by omega)) rfl
      · have n3 : (k + (3 : Int32)).toInt.toNat = 6 * j + 3 := by omega
        have n4 : (k + (4 : Int32)).toInt.toNat = 6 * j + 4 := by omega
        rw [n3, n4] at c29
        have q := hG j (by omega)
        have r1 := rng32 (G (6 * j + 3)); have r2 := rng32 (G (6 * j + 4))
        rw [own_sub _ _ (by omega) (by omega)] at c29
        refine ow_iconst X_57 33 (1 : Int32) d9_32 rfl rfl ?_
        refine ow_retZ X_57 rfl d9_33 (by decide) (by decide) (by decide) ?_
        subst hh
        exact ⟨_, rfl, rfl, Or.inl ⟨rfl, j, by omega, by omega⟩⟩
set_option maxRecDepth 65536 in
set_option maxHeartbeats 4000000 in
theorem C_has {Z : State} {ω : OW} {h : Heap} (hw_ : ∀ d ∈ tables_1, d.before ω.2.2 Z = true) (hn_ : ω.2.1 ≤ h.size) (a w : Addr) (G : Nat → Int32) (u1 u2 u3 u4 u5 u6 : Value) (F0 : CP Z h a (.ref w) u1 u2 u3 u4 u5 u6) (Aw : oA Z h w .int 18 (fun i_ => .int (G i_))) (hG : ∀ j, j < 3 → 0 ≤ (G (6 * j + 3)).toInt ∧ 0 ≤ (G (6 * j + 4)).toInt) :
    oC Z ω (⟨"com/example/rexquill/rexquill/Copies", "hasLaterOptionalCopies", "()Z"⟩ : MethodName) k9 [] #[.ref a] h (fun v h' => ∃ z : Int32, v = some (.int z) ∧ h = h' ∧ ((z = 1 ∧ ∃ j, j < 3 ∧ (G (6 * j + 3)).toInt + 2 ≤ (G (6 * j + 4)).toInt) ∨ (z = 0 ∧ ∀ j, j < 3 → ¬ (G (6 * j + 3)).toInt + 2 ≤ (G (6 * j + 4)).toInt))) := by
  refine oC_of hw_ hn_ pn9 rfl rfl (L := #[.val (.ref a), .unset]) (fun m => by first | (simp [entryFrame, mkF, argsToLocals, Value.category, k9]; done) | rfl) ?_
  intro γ T X
  refine ow_iconst X 1 (0 : Int32) d9_0 rfl rfl ?_
  refine ow_istoreN X 2 (L' := #[.val (.ref a), .val (.int (0 : Int32))]) d9_1 rfl rfl ?_
  exact L_has h a w G u1 u2 u3 u4 u5 u6 hG _ X 0 0 rfl F0 Aw rfl (by decide) (fun i hi => absurd hi (Nat.not_lt_zero _)) rfl
def k0 : OM := (code, maxLocals, "com/example/rexquill/rexquill/CopiesHasLaterOptionalCopiesPinLaw", "law", ret, room_1)
theorem pn0 : plainFor Jvm.Pilot.@@N@@.x = true := plainFor_of_name (by first | (simp [plainName, overriddenIn]; done) | decide +kernel)
theorem pd0 : parseMethodDescriptor "(IIIIII)Z" = some ⟨[.int, .int, .int, .int, .int, .int], (some .boolean)⟩ := by decide +kernel
def own_G (s0 e0 s1 e1 s2 e2 : Int32) : Nat → Int32 := own_fill (own_fill (own_fill oZI (0 : Int32).toInt.toNat (0 : Int32) (1 : Int32) ((0 : Int32) + (1 : Int32)) s0 e0 (0 : Int32)) (6 : Int32).toInt.toNat (6 : Int32) (1 : Int32) ((6 : Int32) + (1 : Int32)) s1 e1 (0 : Int32)) (12 : Int32).toInt.toNat (12 : Int32) (1 : Int32) ((12 : Int32) + (1 : Int32)) s2 e2 (0 : Int32)
theorem own_G1 (s0 e0 s1 e1 s2 e2 : Int32) : ∀ j, j < 3 → own_G s0 e0 s1 e1 s2 e2 (6 * j + 1) ≠ 0 := by
  intro j hj
  match j, hj with
  | 0, _ => show (1 : Int32) ≠ 0; decide
  | 1, _ => show (1 : Int32) ≠ 0; decide
  | 2, _ => show (1 : Int32) ≠ 0; decide
theorem own_G3 (s0 e0 s1 e1 s2 e2 : Int32) (a0 : 0 ≤ s0.toInt) (b0 : 0 ≤ e0.toInt) (a1 : 0 ≤ s1.toInt) (b1 : 0 ≤ e1.toInt) (a2 : 0 ≤ s2.toInt) (b2 : 0 ≤ e2.toInt) : ∀ j, j < 3 → 0 ≤ (own_G s0 e0 s1 e1 s2 e2 (6 * j + 3)).toInt ∧ 0 ≤ (own_G s0 e0 s1 e1 s2 e2 (6 * j + 4)).toInt := by
  intro j hj
  match j, hj with
  | 0, _ => exact ⟨a0, b0⟩
  | 1, _ => exact ⟨a1, b1⟩
  | 2, _ => exact ⟨a2, b2⟩
theorem own_ex (s0 e0 s1 e1 s2 e2 : Int32) : (∃ j, j < 3 ∧ (own_G s0 e0 s1 e1 s2 e2 (6 * j + 3)).toInt + 2 ≤ (own_G s0 e0 s1 e1 s2 e2 (6 * j + 4)).toInt) → s0.toInt + 2 ≤ e0.toInt ∨ s1.toInt + 2 ≤ e1.toInt ∨ s2.toInt + 2 ≤ e2.toInt := by
  rintro ⟨j, hj, q⟩
  match j, hj with
  | 0, _ => exact Or.inl q
  | 1, _ => exact Or.inr (Or.inl q)
  | 2, _ => exact Or.inr (Or.inr q)
theorem own_all (s0 e0 s1 e1 s2 e2 : Int32) (h : ∀ j, j < 3 → ¬ (own_G s0 e0 s1 e1 s2 e2 (6 * j + 3)).toInt + 2 ≤ (own_G s0 e0 s1 e1 s2 e2 (6 * j + 4)).toInt) : ¬ s0.toInt + 2 ≤ e0.toInt ∧ ¬ s1.toInt + 2 ≤ e1.toInt ∧ ¬ s2.toInt + 2 ≤ e2.toInt := ⟨h 0 (by decide), h 1 (by decide), h 2 (by decide)⟩
theorem own_same {s0 e0 s1 e1 s2 e2 z ex : Int32} (hz : (z = 1 ∧ ∃ j, j < 3 ∧ (own_G s0 e0 s1 e1 s2 e2 (6 * j + 3)).toInt + 2 ≤ (own_G s0 e0 s1 e1 s2 e2 (6 * j + 4)).toInt) ∨ (z = 0 ∧ ∀ j, j < 3 → ¬ (own_G s0 e0 s1 e1 s2 e2 (6 * j + 3)).toInt + 2 ≤ (own_G s0 e0 s1 e1 s2 e2 (6 * j + 4)).toInt))
    (he : (ex = 1 ∧ (s0.toInt + 2 ≤ e0.toInt ∨ s1.toInt + 2 ≤ e1.toInt ∨ s2.toInt + 2 ≤ e2.toInt)) ∨ (ex = 0 ∧ ¬ s0.toInt + 2 ≤ e0.toInt ∧ ¬ s1.toInt + 2 ≤ e1.toInt ∧ ¬ s2.toInt + 2 ≤ e2.toInt)) : z.toInt = ex.toInt := by
  rcases hz with ⟨rfl, q⟩ | ⟨rfl, q⟩ <;> rcases he with ⟨rfl, r⟩ | ⟨rfl, r⟩
  · rfl
  · exfalso
    rcases own_ex _ _ _ _ _ _ q with q | q | q
    · exact r.1 q
    · exact r.2.1 q
    · exact r.2.2 q
  · exfalso
    have t := own_all _ _ _ _ _ _ q
    rcases r with r | r | r
    · exact t.1 r
    · exact t.2.1 r
    · exact t.2.2 r
  · rfl
set_option maxRecDepth 65536 in
set_option maxHeartbeats 4000000 in
theorem B124 {Z : State} {ω : OW} {γ : OG} {T : State} {h : Heap} (X : oSt Z ω γ k0 T h 6 37) (a0 b0 a1 b1 a2 b2 s0 e0 s1 e1 s2 e2 : Int32) (w a : Addr) (u1 u2 u3 u4 u5 u6 : Value) (ex : Int32) (F0 : CP Z h a (.ref w) u1 u2 u3 u4 u5 u6) (Aw : oA Z h w .int 18 (fun i_ => .int ((own_G s0 e0 s1 e1 s2 e2) i_))) (hs0 : 0 ≤ s0.toInt) (he0 : 0 ≤ e0.toInt) (hs1 : 0 ≤ s1.toInt) (he1 : 0 ≤ e1.toInt) (hs2 : 0 ≤ s2.toInt) (he2 : 0 ≤ e2.toInt) (he : (ex = 1 ∧ (s0.toInt + 2 ≤ e0.toInt ∨ s1.toInt + 2 ≤ e1.toInt ∨ s2.toInt + 2 ≤ e2.toInt)) ∨ (ex = 0 ∧ ¬ s0.toInt + 2 ≤ e0.toInt ∧ ¬ s1.toInt + 2 ≤ e1.toInt ∧ ¬ s2.toInt + 2 ≤ e2.toInt)) :
    oWP ω γ k0 (fun v _ => v = some (.int 1)) T 124 #[.val (.int a0), .val (.int b0), .val (.int a1), .val (.int b1), .val (.int a2), .val (.int b2), .val (.int s0), .val (.int e0), .val (.int s1), .val (.int e1), .val (.int s2), .val (.int e2), .val (.ref w), .val (.ref a), .val (.int ex)] [] := by
  refine ow_aload X 126 at_124 rfl rfl rfl ?_
  refine ow_callV X 129 51 52 54 53 55 8 (κ' := k9) (as := []) (S := []) (W := 0) rfl rfl rfl rfl rfl rfl rfl (by decide) F0.1 (C_has (oSt_w X) (oSt_n0 X) a w (own_G s0 e0 s1 e1 s2 e2) _ _ _ _ _ _ F0 Aw (own_G3 s0 e0 s1 e1 s2 e2 hs0 he0 hs1 he1 hs2 he2)) (by decide) (by decide) (Nat.le_of_eq rfl) (by decide) (by decide) pd9 rfl rfl rfl at_126 rfl ?_
  intro v_58 T_58 h_58 X_58 q_58
  obtain ⟨z, rfl, rfl, hz⟩ := q_58
  show oWP ω γ k0 _ T_58 129 #[.val (.int a0), .val (.int b0), .val (.int a1), .val (.int b1), .val (.int a2), .val (.int b2), .val (.int s0), .val (.int e0), .val (.int s1), .val (.int e1), .val (.int s2), .val (.int e2), .val (.ref w), .val (.ref a), .val (.int ex)] [.int z]
  refine ow_iload X_58 131 at_129 rfl rfl ?_
  refine ow_icmp_ne X_58 134 138 at_131 rfl rfl (fun (c131 : z.toInt ≠ ex.toInt) => absurd (own_same hz he) c131) (fun (c131 : z.toInt = ex.toInt) => ?_)
  refine ow_iconst X_58 135 (1 : Int32) at_134 rfl rfl ?_
  refine ow_goto X_58 139 at_135 rfl ?_
  refine ow_retZ X_58 rfl at_139 (by decide) (by decide) (by decide) ?_
  rfl
set_option maxRecDepth 65536 in
set_option maxHeartbeats 4000000 in
theorem B87 {Z : State} {ω : OW} {γ : OG} {T : State} {h : Heap} (X : oSt Z ω γ k0 T h 6 37) (a0 b0 a1 b1 a2 b2 s0 e0 s1 e1 s2 e2 : Int32) (w a : Addr) (u1 u2 u3 u4 u5 u6 : Value) (F0 : CP Z h a (.ref w) u1 u2 u3 u4 u5 u6) (Aw : oA Z h w .int 18 (fun i_ => .int ((own_G s0 e0 s1 e1 s2 e2) i_))) (hs0 : 0 ≤ s0.toInt) (he0 : 0 ≤ e0.toInt) (hs1 : 0 ≤ s1.toInt) (he1 : 0 ≤ e1.toInt) (hs2 : 0 ≤ s2.toInt) (he2 : 0 ≤ e2.toInt) :
    oWP ω γ k0 (fun v _ => v = some (.int 1)) T 87 #[.val (.int a0), .val (.int b0), .val (.int a1), .val (.int b1), .val (.int a2), .val (.int b2), .val (.int s0), .val (.int e0), .val (.int s1), .val (.int e1), .val (.int s2), .val (.int e2), .val (.ref w), .val (.ref a), .unset] [] := by
  refine ow_iload X 89 at_87 rfl rfl ?_
  refine ow_iload X 91 at_89 rfl rfl ?_
  refine ow_callS X 94 47 48 4 49 (κ' := k8) (as := [.int s0, .int e0]) (S := []) (W := 0) rfl rfl rfl rfl rfl (by decide) (C_later (oSt_w X) (oSt_n0 X) s0 e0 hs0) (by decide) (by decide) (Nat.le_of_eq rfl) (by decide) (by decide) pd8 rfl rfl rfl at_91 rfl ?_
  intro v_59 T_59 h_59 X_59 q_59
  obtain ⟨ys0, rfl, rfl, qs0⟩ := q_59
  show oWP ω γ k0 _ T_59 94 #[.val (.int a0), .val (.int b0), .val (.int a1), .val (.int b1), .val (.int a2), .val (.int b2), .val (.int s0), .val (.int e0), .val (.int s1), .val (.int e1), .val (.int s2), .val (.int e2), .val (.ref w), .val (.ref a), .unset] [.int ys0]
  refine ow_if_ne X_59 97 117 at_94 rfl rfl (fun (c94 : ys0.toInt ≠ 0) => ?_) (fun (c94 : ys0.toInt = 0) => ?_)
  · refine ow_iconst X_59 118 (1 : Int32) at_117 rfl rfl ?_
    refine ow_goto X_59 122 at_118 rfl ?_
    refine ow_istore X_59 124 (L' := #[.val (.int a0), .val (.int b0), .val (.int a1), .val (.int b1), .val (.int a2), .val (.int b2), .val (.int s0), .val (.int e0), .val (.int s1), .val (.int e1), .val (.int s2), .val (.int e2), .val (.ref w), .val (.ref a), .val (.int (1 : Int32))]) at_122 rfl rfl ?_
    refine B124 X_59 a0 b0 a1 b1 a2 b2 s0 e0 s1 e1 s2 e2 w a u1 u2 u3 u4 u5 u6 (1 : Int32) F0 Aw hs0 he0 hs1 he1 hs2 he2 ?_
    have k0 : (0 : Int32).toInt = 0 := rfl; have k1 : (1 : Int32).toInt = 1 := rfl
    left; refine ⟨rfl, ?_⟩
    first | (rcases qs2 with ⟨_, q⟩ | ⟨e, _⟩; exact Or.inr (Or.inr q); exact absurd (by rw [e]; rfl) c114) | (rcases qs1 with ⟨_, q⟩ | ⟨e, _⟩; exact Or.inr (Or.inl q); exact absurd (by rw [e]; rfl) c104) | (rcases qs0 with ⟨_, q⟩ | ⟨e, _⟩; exact Or.inl q; exact absurd (by rw [e]; rfl) c94)
  · refine ow_iload X_59 99 at_97 rfl rfl ?_
    refine ow_iload X_59 101 at_99 rfl rfl ?_
    refine ow_callS X_59 104 47 48 4 49 (κ' := k8) (as := [.int s1, .int e1]) (S := []) (W := 0) rfl rfl rfl rfl rfl (by decide) (C_later (oSt_w X_59) (oSt_n0 X_59) s1 e1 hs1) (by decide) (by decide) (Nat.le_of_eq rfl) (by decide) (by decide) pd8 rfl rfl rfl at_101 rfl ?_
    intro v_60 T_60 h_60 X_60 q_60
    obtain ⟨ys1, rfl, rfl, qs1⟩ := q_60
    show oWP ω γ k0 _ T_60 104 #[.val (.int a0), .val (.int b0), .val (.int a1), .val (.int b1), .val (.int a2), .val (.int b2), .val (.int s0), .val (.int e0), .val (.int s1), .val (.int e1), .val (.int s2), .val (.int e2), .val (.ref w), .val (.ref a), .unset] [.int ys1]
    refine ow_if_ne X_60 107 117 at_104 rfl rfl (fun (c104 : ys1.toInt ≠ 0) => ?_) (fun (c104 : ys1.toInt = 0) => ?_)
    · refine ow_iconst X_60 118 (1 : Int32) at_117 rfl rfl ?_
      refine ow_goto X_60 122 at_118 rfl ?_
      refine ow_istore X_60 124 (L' := #[.val (.int a0), .val (.int b0), .val (.int a1), .val (.int b1), .val (.int a2), .val (.int b2), .val (.int s0), .val (.int e0), .val (.int s1), .val (.int e1), .val (.int s2), .val (.int e2), .val (.ref w), .val (.ref a), .val (.int (1 : Int32))]) at_122 rfl rfl ?_
      refine B124 X_60 a0 b0 a1 b1 a2 b2 s0 e0 s1 e1 s2 e2 w a u1 u2 u3 u4 u5 u6 (1 : Int32) F0 Aw hs0 he0 hs1 he1 hs2 he2 ?_
      have k0 : (0 : Int32).toInt = 0 := rfl; have k1 : (1 : Int32).toInt = 1 := rfl
      left; refine ⟨rfl, ?_⟩
      first | (rcases qs2 with ⟨_, q⟩ | ⟨e, _⟩; exact Or.inr (Or.inr q); exact absurd (by rw [e]; rfl) c114) | (rcases qs1 with ⟨_, q⟩ | ⟨e, _⟩; exact Or.inr (Or.inl q); exact absurd (by rw [e]; rfl) c104) | (rcases qs0 with ⟨_, q⟩ | ⟨e, _⟩; exact Or.inl q; exact absurd (by rw [e]; rfl) c94)
    · refine ow_iload X_60 109 at_107 rfl rfl ?_
      refine ow_iload X_60 111 at_109 rfl rfl ?_
      refine ow_callS X_60 114 47 48 4 49 (κ' := k8) (as := [.int s2, .int e2]) (S := []) (W := 0) rfl rfl rfl rfl rfl (by decide) (C_later (oSt_w X_60) (oSt_n0 X_60) s2 e2 hs2) (by decide) (by decide) (Nat.le_of_eq rfl) (by decide) (by decide) pd8 rfl rfl rfl at_111 rfl ?_
      intro v_61 T_61 h_61 X_61 q_61
      obtain ⟨ys2, rfl, rfl, qs2⟩ := q_61
      show oWP ω γ k0 _ T_61 114 #[.val (.int a0), .val (.int b0), .val (.int a1), .val (.int b1), .val (.int a2), .val (.int b2), .val (.int s0), .val (.int e0), .val (.int s1), .val (.int e1), .val (.int s2), .val (.int e2), .val (.ref w), .val (.ref a), .unset] [.int ys2]
      refine ow_if_eq X_61 117 121 at_114 rfl rfl (fun (c114 : ys2.toInt = 0) => ?_) (fun (c114 : ys2.toInt ≠ 0) => ?_)
      · refine ow_iconst X_61 122 (0 : Int32) at_121 rfl rfl ?_
        refine ow_istore X_61 124 (L' := #[.val (.int a0), .val (.int b0), .val (.int a1), .val (.int b1), .val (.int a2), .val (.int b2), .val (.int s0), .val (.int e0), .val (.int s1), .val (.int e1), .val (.int s2), .val (.int e2), .val (.ref w), .val (.ref a), .val (.int (0 : Int32))]) at_122 rfl rfl ?_
        refine B124 X_61 a0 b0 a1 b1 a2 b2 s0 e0 s1 e1 s2 e2 w a u1 u2 u3 u4 u5 u6 (0 : Int32) F0 Aw hs0 he0 hs1 he1 hs2 he2 ?_
        have k0 : (0 : Int32).toInt = 0 := rfl; have k1 : (1 : Int32).toInt = 1 := rfl
        right; refine ⟨rfl, ?_, ?_, ?_⟩
        · rcases qs0 with ⟨e, _⟩ | ⟨_, q⟩; rw [e] at c94; exact absurd c94 (by decide); exact q
        · rcases qs1 with ⟨e, _⟩ | ⟨_, q⟩; rw [e] at c104; exact absurd c104 (by decide); exact q
        · rcases qs2 with ⟨e, _⟩ | ⟨_, q⟩; rw [e] at c114; exact absurd c114 (by decide); exact q
      · refine ow_iconst X_61 118 (1 : Int32) at_117 rfl rfl ?_
        refine ow_goto X_61 122 at_118 rfl ?_
        refine ow_istore X_61 124 (L' := #[.val (.int a0), .val (.int b0), .val (.int a1), .val (.int b1), .val (.int a2), .val (.int b2), .val (.int s0), .val (.int e0), .val (.int s1), .val (.int e1), .val (.int s2), .val (.int e2), .val (.ref w), .val (.ref a), .val (.int (1 : Int32))]) at_122 rfl rfl ?_
        refine B124 X_61 a0 b0 a1 b1 a2 b2 s0 e0 s1 e1 s2 e2 w a u1 u2 u3 u4 u5 u6 (1 : Int32) F0 Aw hs0 he0 hs1 he1 hs2 he2 ?_
        have k0 : (0 : Int32).toInt = 0 := rfl; have k1 : (1 : Int32).toInt = 1 := rfl
        left; refine ⟨rfl, ?_⟩
        first | (rcases qs2 with ⟨_, q⟩ | ⟨e, _⟩; exact Or.inr (Or.inr q); exact absurd (by rw [e]; rfl) c114) | (rcases qs1 with ⟨_, q⟩ | ⟨e, _⟩; exact Or.inr (Or.inl q); exact absurd (by rw [e]; rfl) c104) | (rcases qs0 with ⟨_, q⟩ | ⟨e, _⟩; exact Or.inl q; exact absurd (by rw [e]; rfl) c94)
set_option maxRecDepth 65536 in
set_option maxHeartbeats 4000000 in
theorem B38 {Z : State} {ω : OW} {γ : OG} {T : State} {h : Heap} (X : oSt Z ω γ k0 T h 0 0) (a0 b0 a1 b1 a2 b2 s0 e0 s1 e1 s2 e2 : Int32) (hs0 : 0 ≤ s0.toInt) (he0 : 0 ≤ e0.toInt) (hs1 : 0 ≤ s1.toInt) (he1 : 0 ≤ e1.toInt) (hs2 : 0 ≤ s2.toInt) (he2 : 0 ≤ e2.toInt) :
    oWP ω γ k0 (fun v _ => v = some (.int 1)) T 38 #[.val (.int a0), .val (.int b0), .val (.int a1), .val (.int b1), .val (.int a2), .val (.int b2), .val (.int s0), .val (.int e0), .val (.int s1), .val (.int e1), .val (.int s2), .val (.int e2), .unset, .unset, .unset] [] := by
  refine ow_bipush X 40 (18 : Int32) at_38 rfl rfl ?_
  refine ow_newP X 42 1 (cap := 18) rfl at_40 rfl (by decide) (by decide) (by decide) (by decide) (by decide) ?_
  intro T_62 h_62 a_62 q_62 X_62 E_62 A_62 g_62
  have A_62 : oA Z h_62 a_62 .int ((18 : Int32).toInt.toNat) (fun i_ => .int (oZI i_)) := A_62
  refine ow_astore X_62 44 (L' := #[.val (.int a0), .val (.int b0), .val (.int a1), .val (.int b1), .val (.int a2), .val (.int b2), .val (.int s0), .val (.int e0), .val (.int s1), .val (.int e1), .val (.int s2), .val (.int e2), .val (.ref a_62), .unset, .unset]) at_42 rfl rfl rfl ?_
  refine ow_aload X_62 46 at_44 rfl rfl rfl ?_
  refine ow_iconst X_62 47 (0 : Int32) at_46 rfl rfl ?_
  refine ow_iload X_62 49 at_47 rfl rfl ?_
  refine ow_iload X_62 51 at_49 rfl rfl ?_
  refine ow_callS X_62 54 2 3 4 5 (κ' := k1) (as := [.ref a_62, .int (0 : Int32), .int s0, .int e0]) (S := []) (W := 0) rfl rfl rfl rfl rfl (by decide) (C_fill (oSt_w X_62) (oSt_n0 X_62) a_62 (0 : Int32) s0 e0 _ oZI A_62 g_62 (by decide) (by decide) (by decide)) (by decide) (by decide) (Nat.le_of_eq rfl) (by decide) (by decide) pd1 rfl rfl rfl at_51 rfl ?_
  intro v_64 T_64 h_64 X_64 q_64
  obtain ⟨rfl, K64, A64⟩ := q_64
  show oWP ω γ k0 _ T_64 54 #[.val (.int a0), .val (.int b0), .val (.int a1), .val (.int b1), .val (.int a2), .val (.int b2), .val (.int s0), .val (.int e0), .val (.int s1), .val (.int e1), .val (.int s2), .val (.int e2), .val (.ref a_62), .unset, .unset] []
  refine ow_aload X_64 56 at_54 rfl rfl rfl ?_
  refine ow_bipush X_64 58 (6 : Int32) at_56 rfl rfl ?_
  refine ow_iload X_64 60 at_58 rfl rfl ?_
  refine ow_iload X_64 62 at_60 rfl rfl ?_
  refine ow_callS X_64 65 2 3 4 5 (κ' := k1) (as := [.ref a_62, .int (6 : Int32), .int s1, .int e1]) (S := []) (W := 0) rfl rfl rfl rfl rfl (by decide) (C_fill (oSt_w X_64) (oSt_n0 X_64) a_62 (6 : Int32) s1 e1 _ (own_fill oZI (0 : Int32).toInt.toNat (0 : Int32) (1 : Int32) ((0 : Int32) + (1 : Int32)) s0 e0 (0 : Int32)) A64 g_62 (by decide) (by decide) (by decide)) (by decide) (by decide) (Nat.le_of_eq rfl) (by decide) (by decide) pd1 rfl rfl rfl at_62 rfl ?_
  intro v_66 T_66 h_66 X_66 q_66
  obtain ⟨rfl, K66, A66⟩ := q_66
  show oWP ω γ k0 _ T_66 65 #[.val (.int a0), .val (.int b0), .val (.int a1), .val (.int b1), .val (.int a2), .val (.int b2), .val (.int s0), .val (.int e0), .val (.int s1), .val (.int e1), .val (.int s2), .val (.int e2), .val (.ref a_62), .unset, .unset] []
  refine ow_aload X_66 67 at_65 rfl rfl rfl ?_
  refine ow_bipush X_66 69 (12 : Int32) at_67 rfl rfl ?_
  refine ow_iload X_66 71 at_69 rfl rfl ?_
  refine ow_iload X_66 73 at_71 rfl rfl ?_
  refine ow_callS X_66 76 2 3 4 5 (κ' := k1) (as := [.ref a_62, .int (12 : Int32), .int s2, .int e2]) (S := []) (W := 0) rfl rfl rfl rfl rfl (by decide) (C_fill (oSt_w X_66) (oSt_n0 X_66) a_62 (12 : Int32) s2 e2 _ (own_fill (own_fill oZI (0 : Int32).toInt.toNat (0 : Int32) (1 : Int32) ((0 : Int32) + (1 : Int32)) s0 e0 (0 : Int32)) (6 : Int32).toInt.toNat (6 : Int32) (1 : Int32) ((6 : Int32) + (1 : Int32)) s1 e1 (0 : Int32)) A66 g_62 (by decide) (by decide) (by decide)) (by decide) (by decide) (Nat.le_of_eq rfl) (by decide) (by decide) pd1 rfl rfl rfl at_73 rfl ?_
  intro v_68 T_68 h_68 X_68 q_68
  obtain ⟨rfl, K68, A68⟩ := q_68
  show oWP ω γ k0 _ T_68 76 #[.val (.int a0), .val (.int b0), .val (.int a1), .val (.int b1), .val (.int a2), .val (.int b2), .val (.int s0), .val (.int e0), .val (.int s1), .val (.int e1), .val (.int s2), .val (.int e2), .val (.ref a_62), .unset, .unset] []
  refine ow_new X_68 79 6 7 8 rfl rfl rfl rfl at_76 rfl (by decide) (by decide) ?_
  intro T_70 h_70 a_70 q_70 X_70 E_70 A_70 D_70 g_70
  have ne_a_62_a_70 : a_62 ≠ a_70 := by rw [q_70]; exact Nat.ne_of_lt A68.lt
  have f71_0 : oA Z h_70 a_62 .int ((18 : Int32).toInt.toNat) (fun i_ => .int ((own_fill (own_fill (own_fill oZI (0 : Int32).toInt.toNat (0 : Int32) (1 : Int32) ((0 : Int32) + (1 : Int32)) s0 e0 (0 : Int32)) (6 : Int32).toInt.toNat (6 : Int32) (1 : Int32) ((6 : Int32) + (1 : Int32)) s1 e1 (0 : Int32)) (12 : Int32).toInt.toNat (12 : Int32) (1 : Int32) ((12 : Int32) + (1 : Int32)) s2 e2 (0 : Int32)) i_)) := A68.ext E_70
  have R_70 : CP Z h_70 a_70 .null .null .null .null (.int (0 : Int32)) (.int (0 : Int32)) (.int (0 : Int32)) := ⟨A_70, D_70 (Or.inr (oSt_at X_70 16 rfl)) (ty := (.array .int)) (by decide), D_70 (Or.inr (oSt_at X_70 18 rfl)) (ty := (.array .int)) (by decide), D_70 (Or.inr (oSt_at X_70 20 rfl)) (ty := (.array .int)) (by decide), D_70 (Or.inr (oSt_at X_70 22 rfl)) (ty := (.array .int)) (by decide), D_70 (Or.inr (oSt_at X_70 38 rfl)) (ty := .int) (by decide), D_70 (Or.inr (oSt_at X_70 40 rfl)) (ty := .int) (by decide), D_70 (Or.inr (oSt_at X_70 46 rfl)) (ty := .int) (by decide)⟩
  refine ow_dup X_70 80 at_79 rfl rfl ?_
  refine ow_aload X_70 82 at_80 rfl rfl rfl ?_
  refine ow_callC X_70 85 9 10 8 11 (κ' := k2) (as := [.ref a_62]) (S := [.ref a_70]) (W := 1) rfl rfl rfl rfl rfl rfl rfl (by decide) (C_init (oSt_w X_70) (oSt_n0 X_70) a_70 a_62 18 3 18 (own_G s0 e0 s1 e1 s2 e2) R_70 f71_0 g_70 (Ne.symm ne_a_62_a_70) rfl rfl (by decide) (own_G1 s0 e0 s1 e1 s2 e2)) (by decide) (by decide) (Nat.le_of_eq rfl) (by decide) (by decide) pd2 rfl rfl rfl at_82 rfl ?_
  intro v_72 T_72 h_72 X_72 q_72
  obtain ⟨rfl, K72, u1, u2, u3, u4, u5, u6, R72⟩ := q_72
  have f73_0 : oA Z h_72 a_62 .int ((18 : Int32).toInt.toNat) (fun i_ => .int ((own_fill (own_fill (own_fill oZI (0 : Int32).toInt.toNat (0 : Int32) (1 : Int32) ((0 : Int32) + (1 : Int32)) s0 e0 (0 : Int32)) (6 : Int32).toInt.toNat (6 : Int32) (1 : Int32) ((6 : Int32) + (1 : Int32)) s1 e1 (0 : Int32)) (12 : Int32).toInt.toNat (12 : Int32) (1 : Int32) ((12 : Int32) + (1 : Int32)) s2 e2 (0 : Int32)) i_)) := f71_0.keep K72 (ninS ne_a_62_a_70 nin0)
  show oWP ω γ k0 _ T_72 85 #[.val (.int a0), .val (.int b0), .val (.int a1), .val (.int b1), .val (.int a2), .val (.int b2), .val (.int s0), .val (.int e0), .val (.int s1), .val (.int e1), .val (.int s2), .val (.int e2), .val (.ref a_62), .unset, .unset] [.ref a_70]
  refine ow_astore X_72 87 (L' := #[.val (.int a0), .val (.int b0), .val (.int a1), .val (.int b1), .val (.int a2), .val (.int b2), .val (.int s0), .val (.int e0), .val (.int s1), .val (.int e1), .val (.int s2), .val (.int e2), .val (.ref a_62), .val (.ref a_70), .unset]) at_85 rfl rfl rfl ?_
  exact B87 X_72 a0 b0 a1 b1 a2 b2 s0 e0 s1 e1 s2 e2 a_62 a_70 _ _ _ _ _ _ R72 f73_0 hs0 he0 hs1 he1 hs2 he2
set_option maxRecDepth 65536 in
set_option maxHeartbeats 4000000 in
theorem C_law {Z : State} {ω : OW} {h : Heap} (hw_ : ∀ d ∈ tables_1, d.before ω.2.2 Z = true) (hn_ : ω.2.1 ≤ h.size) (a0 b0 a1 b1 a2 b2 : Int32) :
    oC Z ω Jvm.Pilot.@@N@@.x k0 tables_1 #[.int a0, .int b0, .int a1, .int b1, .int a2, .int b2] h (fun v _ => v = some (.int 1)) := by
  refine oC_of hw_ hn_ pn0 rfl rfl (L := #[.val (.int a0), .val (.int b0), .val (.int a1), .val (.int b1), .val (.int a2), .val (.int b2), .unset, .unset, .unset, .unset, .unset, .unset, .unset, .unset, .unset]) (fun m => by first | (simp [entryFrame, mkF, argsToLocals, Value.category, k0, maxLocals]; done) | rfl) ?_
  intro γ T X
  refine ow_iloadN X 1 at_0 rfl rfl ?_
  refine ow_ldcI X 3 0 rfl rfl at_1 rfl ?_
  refine ow_iand X 4 at_3 rfl ?_
  refine ow_istore X 6 (L' := #[.val (.int a0), .val (.int b0), .val (.int a1), .val (.int b1), .val (.int a2), .val (.int b2), .val (.int (a0 &&& (2147483647 : Int32))), .unset, .unset, .unset, .unset, .unset, .unset, .unset, .unset]) at_4 rfl rfl ?_
  refine ow_iloadN X 7 at_6 rfl rfl ?_
  refine ow_ldcI X 9 0 rfl rfl at_7 rfl ?_
  refine ow_iand X 10 at_9 rfl ?_
  refine ow_istore X 12 (L' := #[.val (.int a0), .val (.int b0), .val (.int a1), .val (.int b1), .val (.int a2), .val (.int b2), .val (.int (a0 &&& (2147483647 : Int32))), .val (.int (b0 &&& (2147483647 : Int32))), .unset, .unset, .unset, .unset, .unset, .unset, .unset]) at_10 rfl rfl ?_
  refine ow_iloadN X 13 at_12 rfl rfl ?_
  refine ow_ldcI X 15 0 rfl rfl at_13 rfl ?_
  refine ow_iand X 16 at_15 rfl ?_
  refine ow_istore X 18 (L' := #[.val (.int a0), .val (.int b0), .val (.int a1), .val (.int b1), .val (.int a2), .val (.int b2), .val (.int (a0 &&& (2147483647 : Int32))), .val (.int (b0 &&& (2147483647 : Int32))), .val (.int (a1 &&& (2147483647 : Int32))), .unset, .unset, .unset, .unset, .unset, .unset]) at_16 rfl rfl ?_
  refine ow_iloadN X 19 at_18 rfl rfl ?_
  refine ow_ldcI X 21 0 rfl rfl at_19 rfl ?_
  refine ow_iand X 22 at_21 rfl ?_
  refine ow_istore X 24 (L' := #[.val (.int a0), .val (.int b0), .val (.int a1), .val (.int b1), .val (.int a2), .val (.int b2), .val (.int (a0 &&& (2147483647 : Int32))), .val (.int (b0 &&& (2147483647 : Int32))), .val (.int (a1 &&& (2147483647 : Int32))), .val (.int (b1 &&& (2147483647 : Int32))), .unset, .unset, .unset, .unset, .unset]) at_22 rfl rfl ?_
  refine ow_iload X 26 at_24 rfl rfl ?_
  refine ow_ldcI X 28 0 rfl rfl at_26 rfl ?_
  refine ow_iand X 29 at_28 rfl ?_
  refine ow_istore X 31 (L' := #[.val (.int a0), .val (.int b0), .val (.int a1), .val (.int b1), .val (.int a2), .val (.int b2), .val (.int (a0 &&& (2147483647 : Int32))), .val (.int (b0 &&& (2147483647 : Int32))), .val (.int (a1 &&& (2147483647 : Int32))), .val (.int (b1 &&& (2147483647 : Int32))), .val (.int (a2 &&& (2147483647 : Int32))), .unset, .unset, .unset, .unset]) at_29 rfl rfl ?_
  refine ow_iload X 33 at_31 rfl rfl ?_
  refine ow_ldcI X 35 0 rfl rfl at_33 rfl ?_
  refine ow_iand X 36 at_35 rfl ?_
  refine ow_istore X 38 (L' := #[.val (.int a0), .val (.int b0), .val (.int a1), .val (.int b1), .val (.int a2), .val (.int b2), .val (.int (a0 &&& (2147483647 : Int32))), .val (.int (b0 &&& (2147483647 : Int32))), .val (.int (a1 &&& (2147483647 : Int32))), .val (.int (b1 &&& (2147483647 : Int32))), .val (.int (a2 &&& (2147483647 : Int32))), .val (.int (b2 &&& (2147483647 : Int32))), .unset, .unset, .unset]) at_36 rfl rfl ?_
  exact B38 X a0 b0 a1 b1 a2 b2 _ _ _ _ _ _ ((c_andS _ (2147483647 : Int32)).2.2 (by decide)) ((c_andS _ (2147483647 : Int32)).2.2 (by decide)) ((c_andS _ (2147483647 : Int32)).2.2 (by decide)) ((c_andS _ (2147483647 : Int32)).2.2 (by decide)) ((c_andS _ (2147483647 : Int32)).2.2 (by decide)) ((c_andS _ (2147483647 : Int32)).2.2 (by decide))
set_option maxRecDepth 65536 in
set_option maxHeartbeats 4000000 in
theorem comes_1 {Post : Tables → Env → Array Value → State → Outcome → State → Prop} (hpost : ∀ tb e args s v u, (limb_1_1.after args s (.returned v) u = true ∧ limb_1_2.after args s (.returned v) u = true ∧ True) → FrameEnd s (.returned v) u (Jvm.fieldLocs frame_1_writes args s ++ Jvm.arrayLocs frame_1_arrays args s ++ Jvm.staticLocs frame_1_statics s) 24 192 → Post tb e args s (.returned v) u) :
    ArmFor flags0 classFile x code maxLocals ret World_1 tables_1 room_1 Calls_1 rest_1 Pre_1 Post := by
  intro l hfl _ _ p e ha hc hk s m args below hf hA hF happ hP
  obtain ⟨hcalls, hrest, hpre⟩ := hP
  obtain ⟨-, -, -, hnamed, -, -, -, hat⟩ := (Spec.applies_iff hf).mp happ
  obtain ⟨hg, hn⟩ := and_e (Cond.before_iff.mp (show (Jvm.Cond.and given_1 narrow_1).before args s = true from hpre))
  obtain ⟨hcount, hg0⟩ := and_e hg
  obtain ⟨ha0, hg1⟩ := and_e hg0
  obtain ⟨ha1, hg2⟩ := and_e hg1
  obtain ⟨ha2, hg3⟩ := and_e hg2
  obtain ⟨ha3, hg4⟩ := and_e hg3
  obtain ⟨ha4, hg5⟩ := and_e hg4
  have ha5 := hg5
  obtain ⟨w0, w1, w2, w3, w4, w5, rfl⟩ : ∃ w0 w1 w2 w3 w4 w5 : Value, args = #[w0, w1, w2, w3, w4, w5] := by
    have hs : args.size = 6 := by simpa [Cond.value, given_1] using hcount
    obtain ⟨L⟩ := args
    match L, hs with
    | [w0, w1, w2, w3, w4, w5], _ => exact ⟨w0, w1, w2, w3, w4, w5, rfl⟩
  have hw := fun d (hd : d ∈ tables_1) => atoms_spec (ws := Jvm.Cond.code x code maxLocals ret :: tables_1) hat d (List.mem_cons_of_mem _ hd)
  have hfit : Fit s := fun {y c} hc i hi => by
    obtain ⟨ha, rfl⟩ := Array.getElem?_eq_some_iff.mp hc
    have q := List.all_eq_true.mp ((Array.all_eq_true_iff_forall_mem.mp hF) _ (Array.getElem_mem ha)) i (List.mem_range.mpr hi)
    simpa [Array.getElem?_eq_getElem hi] using q
  obtain ⟨i0, e0⟩ := is_v ha0
  obtain rfl : w0 = (.int i0) := Option.some.inj e0
  obtain ⟨i1, e1⟩ := is_v ha1
  obtain rfl : w1 = (.int i1) := Option.some.inj e1
  obtain ⟨i2, e2⟩ := is_v ha2
  obtain rfl : w2 = (.int i2) := Option.some.inj e2
  obtain ⟨i3, e3⟩ := is_v ha3
  obtain rfl : w3 = (.int i3) := Option.some.inj e3
  obtain ⟨i4, e4⟩ := is_v ha4
  obtain rfl : w4 = (.int i4) := Option.some.inj e4
  obtain ⟨i5, e5⟩ := is_v ha5
  obtain rfl : w5 = (.int i5) := Option.some.inj e5
  obtain ⟨n, o, h1, h2, h3, _, L, rfl, ⟨N, rfl⟩, hq⟩ := C_law (Z := s) (ω := (l, s.heap.size, _)) hw (Nat.le_refl _) i0 i1 i2 i3 i4 i5 p e ha hc hk s m _ below hf ((Spec.applies_iff_loose hf).mp happ).1 ⟨rfl, State.Warmed39.refl s, rfl⟩ trivial
  refine ⟨n, _, h1, h2, h3, hpost _ _ _ _ _ _ ⟨Cond.after_iff.mpr rfl, Cond.after_iff.mpr (eq_i res_at (Term.int_eval (1)) rfl), trivial⟩ ⟨hq.1, hq.2.1, (hq.2.2.sift fun y hy => Or.inr (N y hy)).mono (by decide) (by decide)⟩⟩
theorem main_1_1 : Claimed_1_1 := comes_1 fun _ _ _ _ _ _ h hF => ⟨h.1, hF⟩
theorem main_1_2 : Claimed_1_2 := comes_1 fun _ _ _ _ _ _ h hF => ⟨h.2.1, hF⟩
end Jvm.Pilot.@@N@@
namespace Jvm.Pilot.@@N@@
open Jvm Jvm.ClassFile Sem Op Lib Jvm.Free Jvm.Stand Jvm.Pilot.@@N@@.Jvm.D
/-! MADE BY PROGRAM (witnessworld.py) out of the Statement's table words and the real class files: 11 classes; the members and pool entries that the words name. The judged class is class 1, her method 1. -/
namespace start1
open Jvm.ClassFile
def u (s : String) : CpInfo := .utf8 (stringToUtf16 s)
/-- a pool by its gaps: so many unusable entries, then the entry; so many at the end -/
def gap : Nat → List CpInfo → List CpInfo
  | 0, r => r
  | n + 1, r => .unusable :: gap n r
def poolList (es : List (Nat × CpInfo)) (last : Nat) : List CpInfo := es.foldr (fun e r => gap e.1 (e.2 :: r)) (gap last [])
def pool (es : List (Nat × CpInfo)) (last : Nat) : Array CpInfo := ⟨poolList es last⟩
def fileOf (pool : Array CpInfo) (this : Nat) (attrs : Array Attribute := #[]) (ms : Array MethodInfo := #[]) (fl : Nat := 33) (sup : Nat := 0) (ifs : Array Nat := #[]) (fds : Array FieldInfo := #[]) : ClassFile where
  minorVersion := 0
  majorVersion := 65
  constantPool := pool
  accessFlags := fl
  thisClass := this
  superClass := sup
  interfaces := ifs
  fields := fds
  methods := ms
  attributes := attrs
def plain (name : String) (sup : Option ClassId) : Class where
  name := name
  kind := .ordinary
  loader := none
  accessFlags := 33
  super := sup
  interfaces := #[]
  cf := none
  fields := #[]
  methods := #[]
  instanceTypes := #[]
  staticTypes := #[]
  resolved := #[]
  callSites := []
  init := .initialized
  statics := none
  mirror := none

def pool0 : Array CpInfo := pool [(5, u "<init>"), (0, u "()V"), (1, .class_ 10), (1, u "java/lang/Object")] 113

def k0c0 : Code := { maxStack := 0, maxLocals := 1, code := object_method_1_code, exceptionTable := #[], attributes := #[] }
def k0m0 : Method := { name := "<init>", desc := "()V", sig := { parameters := [], returnType := none }, accessFlags := 1, code := some k0c0 }
/-- java/lang/Object -/
def k0 : Class := { plain "java/lang/Object" none with
  accessFlags := 33
  interfaces := #[]
  cf := some (fileOf pool0 8 #[] #[{ accessFlags := 1, nameIndex := 5, descriptorIndex := 6, attributes := #[] }] 33 0 #[] #[])
  fields := #[]
  methods := #[k0m0]
  instanceTypes := #[]
  staticTypes := #[]
  resolved := Array.replicate 124 none
  statics := none }

def pool1 : Array CpInfo := pool [(2, .class_ 4), (1, u "java/lang/Object"), (0, u "<init>"), (0, u "()V"), (0, .integer 2147483647), (0, .methodref 9 10), (0, .class_ 11), (0, .nameAndType 12 13), (0, u "com/example/rexquill/rexquill/CopiesHasLaterOptionalCopiesPinLaw"), (0, u "fill"), (0, u "([IIII)V"), (0, .class_ 15), (0, u "com/example/rexquill/rexquill/Copies"), (0, .methodref 14 17), (0, .nameAndType 5 18), (0, u "([I)V"), (0, .methodref 9 20), (0, .nameAndType 21 22), (0, u "later"), (0, u "(II)Z"), (0, .methodref 14 24), (0, .nameAndType 25 26), (0, u "hasLaterOptionalCopies"), (0, u "()Z"), (0, .long 2), (3, u "law"), (0, u "(IIIIII)Z")] 5

def k1m0 : Method := { name := "<init>", desc := "()V", sig := { parameters := [], returnType := none }, accessFlags := 1, code := none }
def k1c1 : Code := { maxStack := 4, maxLocals := 15, code := code, exceptionTable := #[], attributes := #[] }
def k1m1 : Method := { name := "law", desc := "(IIIIII)Z", sig := { parameters := [.int, .int, .int, .int, .int, .int], returnType := some .boolean }, accessFlags := 9, code := some k1c1 }
def k1c2 : Code := { maxStack := 4, maxLocals := 4, code := method_3_code, exceptionTable := #[], attributes := #[] }
def k1m2 : Method := { name := "fill", desc := "([IIII)V", sig := { parameters := [(.array .int), .int, .int, .int], returnType := none }, accessFlags := 10, code := some k1c2 }
def k1c3 : Code := { maxStack := 6, maxLocals := 2, code := method_4_code, exceptionTable := #[], attributes := #[] }
def k1m3 : Method := { name := "later", desc := "(II)Z", sig := { parameters := [.int, .int], returnType := some .boolean }, accessFlags := 10, code := some k1c3 }
/-- com/example/rexquill/rexquill/CopiesHasLaterOptionalCopiesPinLaw -/
def k1 : Class := { plain "com/example/rexquill/rexquill/CopiesHasLaterOptionalCopiesPinLaw" (some 0) with
  accessFlags := 49
  interfaces := #[]
  cf := some (fileOf pool1 9 #[] #[{ accessFlags := 1, nameIndex := 5, descriptorIndex := 6, attributes := #[] }, { accessFlags := 9, nameIndex := 31, descriptorIndex := 32, attributes := #[] }, { accessFlags := 10, nameIndex := 12, descriptorIndex := 13, attributes := #[] }, { accessFlags := 10, nameIndex := 21, descriptorIndex := 22, attributes := #[] }] 49 2 #[] #[])
  fields := #[]
  methods := #[k1m0, k1m1, k1m2, k1m3]
  instanceTypes := #[]
  staticTypes := #[]
  resolved := Array.replicate 38 none
  statics := none }

def pool2 : Array CpInfo := pool [(1, .methodref 2 3), (0, .class_ 4), (0, .nameAndType 5 6), (0, u "java/lang/Object"), (0, u "<init>"), (0, u "()V"), (0, .fieldref 8 9), (0, .class_ 10), (0, .nameAndType 11 12), (0, u "com/example/rexquill/rexquill/Copies"), (0, u "records"), (0, u "[I"), (0, .fieldref 8 14), (0, .nameAndType 15 12), (0, u "recordLists"), (0, .fieldref 8 17), (0, .nameAndType 18 12), (0, u "innerRecords"), (0, .fieldref 8 20), (0, .nameAndType 21 12), (0, u "innerRecordCount"), (0, .methodref 23 24), (0, .class_ 25), (0, .nameAndType 26 27), (0, u "java/lang/System"), (0, u "arraycopy"), (0, u "(Ljava/lang/Object;ILjava/lang/Object;II)V"), (0, .methodref 8 29), (0, .nameAndType 30 31), (0, u "firstOptionalCopy"), (0, u "([II)I"), (0, .methodref 8 33), (0, .nameAndType 34 35), (0, u "room"), (0, u "([III)J"), (0, .methodref 37 38), (0, .class_ 39), (0, .nameAndType 40 41), (0, u "java/lang/Math"), (0, u "max"), (0, u "(JJ)J"), (0, .fieldref 8 43), (0, .nameAndType 44 45), (0, u "topRecords"), (0, u "I"), (0, .fieldref 8 47), (0, .nameAndType 48 45), (0, u "topRecordCount"), (2, .long 2147483647), (1, .methodref 37 54), (0, .nameAndType 55 41), (0, u "min"), (0, .fieldref 8 57), (0, .nameAndType 58 45), (0, u "copyRoom"), (12, u "RECORD"), (2, u "([I)V"), (10, u "hasLaterOptionalCopies"), (0, u "()Z")] 11

def k2c0 : Code := { maxStack := 6, maxLocals := 10, code := prog_20_method_1_code, exceptionTable := #[], attributes := #[] }
def k2m0 : Method := { name := "<init>", desc := "([I)V", sig := { parameters := [(.array .int)], returnType := none }, accessFlags := 0, code := some k2c0 }
def k2c1 : Code := { maxStack := 4, maxLocals := 2, code := prog_20_method_5_code, exceptionTable := #[], attributes := #[] }
def k2m1 : Method := { name := "hasLaterOptionalCopies", desc := "()Z", sig := { parameters := [], returnType := some .boolean }, accessFlags := 0, code := some k2c1 }
def k2c2 : Code := { maxStack := 5, maxLocals := 4, code := prog_20_method_16_code, exceptionTable := #[], attributes := #[] }
def k2m2 : Method := { name := "room", desc := "([III)J", sig := { parameters := [(.array .int), .int, .int], returnType := some .long }, accessFlags := 10, code := some k2c2 }
def k2c3 : Code := { maxStack := 5, maxLocals := 2, code := prog_20_method_17_code, exceptionTable := #[], attributes := #[] }
def k2m3 : Method := { name := "firstOptionalCopy", desc := "([II)I", sig := { parameters := [(.array .int), .int], returnType := some .int }, accessFlags := 10, code := some k2c3 }
/-- com/example/rexquill/rexquill/Copies -/
def k2 : Class := { plain "com/example/rexquill/rexquill/Copies" (some 0) with
  accessFlags := 48
  interfaces := #[]
  cf := some (fileOf pool2 8 #[] #[{ accessFlags := 0, nameIndex := 5, descriptorIndex := 74, attributes := #[] }, { accessFlags := 0, nameIndex := 85, descriptorIndex := 86, attributes := #[] }, { accessFlags := 10, nameIndex := 34, descriptorIndex := 35, attributes := #[] }, { accessFlags := 10, nameIndex := 30, descriptorIndex := 31, attributes := #[] }] 48 2 #[] #[{ accessFlags := 24, nameIndex := 71, descriptorIndex := 45, attributes := #[] }, { accessFlags := 16, nameIndex := 11, descriptorIndex := 12, attributes := #[] }, { accessFlags := 18, nameIndex := 15, descriptorIndex := 12, attributes := #[] }, { accessFlags := 18, nameIndex := 44, descriptorIndex := 45, attributes := #[] }, { accessFlags := 18, nameIndex := 48, descriptorIndex := 45, attributes := #[] }, { accessFlags := 18, nameIndex := 18, descriptorIndex := 12, attributes := #[] }, { accessFlags := 18, nameIndex := 21, descriptorIndex := 12, attributes := #[] }, { accessFlags := 18, nameIndex := 58, descriptorIndex := 45, attributes := #[] }])
  fields := #[{ name := "RECORD", type := .int, accessFlags := 24, slot := 0, constantValue := 0 }, { name := "records", type := (.array .int), accessFlags := 16, slot := 0, constantValue := 0 }, { name := "recordLists", type := (.array .int), accessFlags := 18, slot := 1, constantValue := 0 }, { name := "topRecords", type := .int, accessFlags := 18, slot := 2, constantValue := 0 }, { name := "topRecordCount", type := .int, accessFlags := 18, slot := 3, constantValue := 0 }, { name := "innerRecords", type := (.array .int), accessFlags := 18, slot := 4, constantValue := 0 }, { name := "innerRecordCount", type := (.array .int), accessFlags := 18, slot := 5, constantValue := 0 }, { name := "copyRoom", type := .int, accessFlags := 18, slot := 6, constantValue := 0 }]
  methods := #[k2m0, k2m1, k2m2, k2m3]
  instanceTypes := #[(.array .int), (.array .int), .int, .int, (.array .int), (.array .int), .int]
  staticTypes := #[.int]
  resolved := Array.replicate 98 none
  statics := none }

def pool3 : Array CpInfo := pool [(2, .class_ 4), (1, u "java/lang/Object"), (0, u "<init>"), (0, u "()V"), (1, .class_ 10), (1, u "java/lang/System"), (0, u "allowSecurityManager"), (0, u "I"), (16, u "cons"), (0, u "Ljava/io/Console;"), (77, .class_ 110), (1, u "java/lang/System$CallersHolder"), (43, u "initialErrStream"), (0, u "Ljava/io/PrintStream;"), (19, u "security"), (0, u "Ljava/lang/SecurityManager;"), (31, .class_ 209), (0, u "java/lang/System$1"), (7, u "props"), (0, u "Ljava/util/Properties;"), (2, u "lineSeparator"), (0, u "Ljava/lang/String;"), (96, .class_ 321), (1, u "java/lang/System$LoggerFinder"), (5, .class_ 328), (0, u "java/lang/System$Logger"), (67, u "err"), (2, u "out"), (91, u "notSupportedJnuEncoding"), (15, u "in"), (17, u "initialIn"), (0, u "Ljava/io/InputStream;"), (35, u "bootLayer"), (0, u "Ljava/lang/ModuleLayer;"), (99, .class_ 664), (0, u "java/lang/System$2"), (9, u "NEVER"), (2, u "MAYBE"), (49, u "arraycopy"), (0, u "(Ljava/lang/Object;ILjava/lang/Object;II)V"), (72, .class_ 802), (0, u "java/lang/System$Logger$Level")] 31

def k3m0 : Method := { name := "<init>", desc := "()V", sig := { parameters := [], returnType := none }, accessFlags := 2, code := none }
def k3m1 : Method := { name := "arraycopy", desc := "(Ljava/lang/Object;ILjava/lang/Object;II)V", sig := { parameters := [(.object "java/lang/Object"), .int, (.object "java/lang/Object"), .int, .int], returnType := none }, accessFlags := 265, code := none }
/-- java/lang/System -/
def k3 : Class := { plain "java/lang/System" (some 0) with
  accessFlags := 49
  interfaces := #[]
  cf := some (fileOf pool3 8 #[.nestMembers #[319, 327, 801, 108, 663, 208]] #[{ accessFlags := 2, nameIndex := 5, descriptorIndex := 6, attributes := #[] }, { accessFlags := 265, nameIndex := 727, descriptorIndex := 728, attributes := #[] }] 49 2 #[] #[{ accessFlags := 25, nameIndex := 507, descriptorIndex := 526, attributes := #[] }, { accessFlags := 25, nameIndex := 399, descriptorIndex := 155, attributes := #[] }, { accessFlags := 25, nameIndex := 396, descriptorIndex := 155, attributes := #[] }, { accessFlags := 10, nameIndex := 525, descriptorIndex := 526, attributes := #[] }, { accessFlags := 26, nameIndex := 674, descriptorIndex := 12, attributes := #[] }, { accessFlags := 26, nameIndex := 677, descriptorIndex := 12, attributes := #[] }, { accessFlags := 10, nameIndex := 11, descriptorIndex := 12, attributes := #[] }, { accessFlags := 74, nameIndex := 175, descriptorIndex := 176, attributes := #[] }, { accessFlags := 10, nameIndex := 491, descriptorIndex := 222, attributes := #[] }, { accessFlags := 74, nameIndex := 29, descriptorIndex := 30, attributes := #[] }, { accessFlags := 74, nameIndex := 154, descriptorIndex := 155, attributes := #[] }, { accessFlags := 10, nameIndex := 217, descriptorIndex := 218, attributes := #[] }, { accessFlags := 10, nameIndex := 221, descriptorIndex := 222, attributes := #[] }, { accessFlags := 8, nameIndex := 562, descriptorIndex := 563, attributes := #[] }])
  fields := #[{ name := "in", type := (.object "java/io/InputStream"), accessFlags := 25, slot := 0, constantValue := 0 }, { name := "out", type := (.object "java/io/PrintStream"), accessFlags := 25, slot := 1, constantValue := 0 }, { name := "err", type := (.object "java/io/PrintStream"), accessFlags := 25, slot := 2, constantValue := 0 }, { name := "initialIn", type := (.object "java/io/InputStream"), accessFlags := 10, slot := 3, constantValue := 0 }, { name := "NEVER", type := .int, accessFlags := 26, slot := 4, constantValue := 0 }, { name := "MAYBE", type := .int, accessFlags := 26, slot := 5, constantValue := 0 }, { name := "allowSecurityManager", type := .int, accessFlags := 10, slot := 6, constantValue := 0 }, { name := "security", type := (.object "java/lang/SecurityManager"), accessFlags := 74, slot := 7, constantValue := 0 }, { name := "notSupportedJnuEncoding", type := (.object "java/lang/String"), accessFlags := 10, slot := 8, constantValue := 0 }, { name := "cons", type := (.object "java/io/Console"), accessFlags := 74, slot := 9, constantValue := 0 }, { name := "initialErrStream", type := (.object "java/io/PrintStream"), accessFlags := 74, slot := 10, constantValue := 0 }, { name := "props", type := (.object "java/util/Properties"), accessFlags := 10, slot := 11, constantValue := 0 }, { name := "lineSeparator", type := (.object "java/lang/String"), accessFlags := 10, slot := 12, constantValue := 0 }, { name := "bootLayer", type := (.object "java/lang/ModuleLayer"), accessFlags := 8, slot := 13, constantValue := 0 }]
  methods := #[k3m0, k3m1]
  instanceTypes := #[]
  staticTypes := #[(.object "java/io/InputStream"), (.object "java/io/PrintStream"), (.object "java/io/PrintStream"), (.object "java/io/InputStream"), .int, .int, .int, (.object "java/lang/SecurityManager"), (.object "java/lang/String"), (.object "java/io/Console"), (.object "java/io/PrintStream"), (.object "java/util/Properties"), (.object "java/lang/String"), (.object "java/lang/ModuleLayer")]
  resolved := Array.replicate 834 none
  statics := none }

def pool4 : Array CpInfo := pool [(1, .class_ 2), (0, u "java/lang/Math"), (1, .class_ 6), (1, u "java/lang/Object"), (0, u "<init>"), (0, u "()V"), (89, .class_ 100), (1, u "java/lang/Math$RandomNumberGeneratorHolder"), (20, u "(JJ)J"), (50, u "negativeZeroFloatBits"), (0, u "J"), (2, u "negativeZeroDoubleBits"), (21, u "max"), (2, u "min"), (43, u "$assertionsDisabled"), (0, u "Z"), (91, u "twoToTheDoubleScaleDown"), (0, u "D"), (4, u "twoToTheDoubleScaleUp"), (9, u "E"), (3, u "PI"), (2, u "TAU"), (2, u "DEGREES_TO_RADIANS"), (0, u "RADIANS_TO_DEGREES")] 94

def k4m0 : Method := { name := "<init>", desc := "()V", sig := { parameters := [], returnType := none }, accessFlags := 2, code := none }
def k4c1 : Code := { maxStack := 4, maxLocals := 4, code := jdk_29_method_66_code, exceptionTable := #[], attributes := #[] }
def k4m1 : Method := { name := "max", desc := "(JJ)J", sig := { parameters := [.long, .long], returnType := some .long }, accessFlags := 9, code := some k4c1 }
def k4c2 : Code := { maxStack := 4, maxLocals := 4, code := jdk_29_method_70_code, exceptionTable := #[], attributes := #[] }
def k4m2 : Method := { name := "min", desc := "(JJ)J", sig := { parameters := [.long, .long], returnType := some .long }, accessFlags := 9, code := some k4c2 }
/-- java/lang/Math -/
def k4 : Class := { plain "java/lang/Math" (some 0) with
  accessFlags := 49
  interfaces := #[]
  cf := some (fileOf pool4 1 #[.nestMembers #[98]] #[{ accessFlags := 2, nameIndex := 7, descriptorIndex := 8, attributes := #[] }, { accessFlags := 9, nameIndex := 198, descriptorIndex := 121, attributes := #[] }, { accessFlags := 9, nameIndex := 201, descriptorIndex := 121, attributes := #[] }] 49 4 #[] #[{ accessFlags := 25, nameIndex := 354, descriptorIndex := 339, attributes := #[] }, { accessFlags := 25, nameIndex := 358, descriptorIndex := 339, attributes := #[] }, { accessFlags := 25, nameIndex := 361, descriptorIndex := 339, attributes := #[] }, { accessFlags := 26, nameIndex := 364, descriptorIndex := 339, attributes := #[] }, { accessFlags := 26, nameIndex := 365, descriptorIndex := 339, attributes := #[] }, { accessFlags := 26, nameIndex := 172, descriptorIndex := 173, attributes := #[] }, { accessFlags := 26, nameIndex := 176, descriptorIndex := 173, attributes := #[] }, { accessFlags := 8, nameIndex := 344, descriptorIndex := 339, attributes := #[] }, { accessFlags := 8, nameIndex := 338, descriptorIndex := 339, attributes := #[] }, { accessFlags := 4120, nameIndex := 245, descriptorIndex := 246, attributes := #[] }])
  fields := #[{ name := "E", type := .double, accessFlags := 25, slot := 0, constantValue := 0 }, { name := "PI", type := .double, accessFlags := 25, slot := 1, constantValue := 0 }, { name := "TAU", type := .double, accessFlags := 25, slot := 2, constantValue := 0 }, { name := "DEGREES_TO_RADIANS", type := .double, accessFlags := 26, slot := 3, constantValue := 0 }, { name := "RADIANS_TO_DEGREES", type := .double, accessFlags := 26, slot := 4, constantValue := 0 }, { name := "negativeZeroFloatBits", type := .long, accessFlags := 26, slot := 5, constantValue := 0 }, { name := "negativeZeroDoubleBits", type := .long, accessFlags := 26, slot := 6, constantValue := 0 }, { name := "twoToTheDoubleScaleUp", type := .double, accessFlags := 8, slot := 7, constantValue := 0 }, { name := "twoToTheDoubleScaleDown", type := .double, accessFlags := 8, slot := 8, constantValue := 0 }, { name := "$assertionsDisabled", type := .boolean, accessFlags := 4120, slot := 9, constantValue := 0 }]
  methods := #[k4m0, k4m1, k4m2]
  instanceTypes := #[]
  staticTypes := #[.double, .double, .double, .double, .double, .long, .long, .double, .double, .boolean]
  resolved := Array.replicate 460 none
  statics := none }

def pool5 : Array CpInfo := pool [(1, u "java/lang/Cloneable"), (0, .class_ 1), (0, u "java/lang/Object"), (0, .class_ 3)] 3

/-- java/lang/Cloneable -/
def k5 : Class := { plain "java/lang/Cloneable" (some 0) with
  accessFlags := 1537
  interfaces := #[]
  cf := some (fileOf pool5 2 #[] #[] 1537 4 #[] #[])
  fields := #[]
  methods := #[]
  instanceTypes := #[]
  staticTypes := #[]
  resolved := Array.replicate 8 none
  statics := none }

def pool6 : Array CpInfo := pool [(1, u "java/io/Serializable"), (0, .class_ 1), (0, u "java/lang/Object"), (0, .class_ 3)] 3

/-- java/io/Serializable -/
def k6 : Class := { plain "java/io/Serializable" (some 0) with
  accessFlags := 1537
  interfaces := #[]
  cf := some (fileOf pool6 2 #[] #[] 1537 4 #[] #[])
  fields := #[]
  methods := #[]
  instanceTypes := #[]
  staticTypes := #[]
  resolved := Array.replicate 8 none
  statics := none }

/-- the primitive byte -/
def k7 : Class := { plain "byte" none with kind := .primitive 'B', accessFlags := 0x411 }
/-- [B -/
def k8 : Class := { plain "[B" (some 0) with kind := .array 7 .byte, interfaces := #[5, 6], accessFlags := 1041 }

/-- the primitive int -/
def k9 : Class := { plain "int" none with kind := .primitive 'I', accessFlags := 0x411 }
/-- [I -/
def k10 : Class := { plain "[I" (some 0) with kind := .array 9 .int, interfaces := #[5, 6], accessFlags := 1041 }

def heap : Heap := #[]
def classes : Array Class := #[k0, k1, k2, k3, k4, k5, k6, k7, k8, k9, k10]
def interned : List (Array UInt16 × Addr) := []
def slotsUsed : Nat := 0
def theMethod : MethodId := ⟨1, 1⟩
def args0 : Array Value := #[.int 3, .int 9, .int 3, .int 1, .int 3, .int 1]
def aboutOver (below : List Frame) : State where
  vm := { classes := classes, interned := interned.toArray }
  heap := heap
  slotsUsed := slotsUsed
  threads := #[{ frames := .invoking theMethod args0 :: below }]
def below0 : List Frame := [.native { method := ⟨0, 0⟩, args := #[] }]
def about1 : State := aboutOver below0
def p0 : Program := .bare "" "" ""
def e0 : Env := launch0.env 0 0 0
theorem w_frames : about1.frames = Frame.invoking theMethod args0 :: below0 := rfl
set_option maxRecDepth 65536 in
theorem w_args : argsFit about1.vm theMethod args0 = true := by decide +kernel
set_option maxRecDepth 65536 in
theorem w_heap : heapFits about1 = true := by decide +kernel
set_option maxRecDepth 65536 in
theorem w_runnable : about1.curStatus? = some .runnable := by decide +kernel
set_option maxRecDepth 65536 in
theorem w_alone : about1.alone = true := by decide +kernel
set_option maxRecDepth 65536 in
theorem w_named : about1.methodNamed? x = some theMethod := by decide +kernel
set_option maxRecDepth 65536 in
theorem w_hears : about1.hears theMethod below0 = true := by decide +kernel
set_option maxRecDepth 65536 in
theorem w_ripe : about1.ripe theMethod args0 below0 = true := by decide +kernel
theorem w_running : about1.status = .running := rfl
set_option maxRecDepth 65536 in
theorem w_room : about1.hasRoom e0.platform room_1 = true :=
  launch0.hasRoom_least _ room_1 (by decide +kernel) (by decide +kernel) (by decide +kernel) (by decide +kernel) (by decide +kernel) (by decide +kernel)
theorem allAtoms_all (ts : List Jvm.Cond) (a : Array Jvm.Value) (st : Jvm.State) : (allAtoms ts).before a st = ts.all (fun c => c.before a st) := by
  induction ts with
  | nil => rfl
  | cons c t ih =>
    show (Jvm.Cond.and c (allAtoms t)).before a st = _
    rw [Jvm.Cond.before_and, ih, List.all_cons]
def words1 : List Jvm.Cond := Jvm.Cond.code x code maxLocals ret :: tables_1
/-- a 'code' word, met by the world's own term for the bytes: nothing is compared byte by byte -/
theorem code_word {y : MethodName} {bytes : ByteArray} {mx : Nat} {rt : Option FieldType} {a : Array Value} {s : State} {m : MethodId} {meth : Method} {c : Code} (h1 : s.methodNamed? y = some m) (h2 : s.vm.method? m = some meth) (h3 : meth.code = some c) (h4 : c.code = bytes)
    (h5 : (c.maxLocals == mx && c.exceptionTable.isEmpty && decide (c.maxStack ≤ mostOperands) && decide (meth.sig.returnType = rt) && !meth.locks && decide (parseMethodDescriptor y.desc = some meth.sig)) = true) : (Jvm.Cond.code y bytes mx rt).before a s = true := by
  simp only [Bool.and_eq_true, beq_iff_eq, Bool.not_eq_true', decide_eq_true_eq] at h5
  obtain ⟨⟨⟨⟨⟨g1, g2⟩, g3⟩, g4⟩, g5⟩, g6⟩ := h5
  simp [Cond.before, Cond.holds, Cond.value, h1, h2, h3, h4, g1, g2, g3, g4, g5, g6]
def isCode : Jvm.Cond → Bool
  | .code _ _ _ _ => true
  | _ => false
theorem all_split {L : List Jvm.Cond} {P : Jvm.Cond → Bool} (h1 : L.all (fun c => isCode c || P c) = true) (h2 : ∀ c ∈ L.filter isCode, P c = true) : L.all P = true := by
  refine List.all_eq_true.mpr fun c hc => ?_
  have h := List.all_eq_true.mp h1 c hc
  rcases Bool.eq_false_or_eq_true (isCode c) with hi | hi
  · exact h2 c (List.mem_filter.mpr ⟨hc, hi⟩)
  · simpa [hi] using h
set_option maxRecDepth 65536 in
theorem w_c0 : (Jvm.Cond.code x code maxLocals ret).before args0 about1 = true := code_word (m := ⟨1, 1⟩) (meth := k1m1) (c := k1c1) (by decide +kernel) rfl rfl rfl (by decide +kernel)
set_option maxRecDepth 65536 in
theorem w_c1 : (Jvm.Cond.code ({ cls := "com/example/rexquill/rexquill/CopiesHasLaterOptionalCopiesPinLaw", name := "fill", desc := "([IIII)V" } : Jvm.MethodName) method_3_code (4 : Nat) (Option.none : Option Jvm.ClassFile.FieldType)).before args0 about1 = true := code_word (m := ⟨1, 2⟩) (meth := k1m2) (c := k1c2) (by decide +kernel) rfl rfl rfl (by decide +kernel)
set_option maxRecDepth 65536 in
theorem w_c2 : (Jvm.Cond.code ({ cls := "com/example/rexquill/rexquill/Copies", name := "<init>", desc := "([I)V" } : Jvm.MethodName) prog_20_method_1_code (10 : Nat) (Option.none : Option Jvm.ClassFile.FieldType)).before args0 about1 = true := code_word (m := ⟨2, 0⟩) (meth := k2m0) (c := k2c0) (by decide +kernel) rfl rfl rfl (by decide +kernel)
set_option maxRecDepth 65536 in
theorem w_c3 : (Jvm.Cond.code ({ cls := "java/lang/Object", name := "<init>", desc := "()V" } : Jvm.MethodName) object_method_1_code (1 : Nat) (Option.none : Option Jvm.ClassFile.FieldType)).before args0 about1 = true := code_word (m := ⟨0, 0⟩) (meth := k0m0) (c := k0c0) (by decide +kernel) rfl rfl rfl (by decide +kernel)
set_option maxRecDepth 65536 in
theorem w_c4 : (Jvm.Cond.code ({ cls := "com/example/rexquill/rexquill/Copies", name := "firstOptionalCopy", desc := "([II)I" } : Jvm.MethodName) prog_20_method_17_code (2 : Nat) (Option.some Jvm.ClassFile.FieldType.int)).before args0 about1 = true := code_word (m := ⟨2, 3⟩) (meth := k2m3) (c := k2c3) (by decide +kernel) rfl rfl rfl (by decide +kernel)
set_option maxRecDepth 65536 in
theorem w_c5 : (Jvm.Cond.code ({ cls := "com/example/rexquill/rexquill/Copies", name := "room", desc := "([III)J" } : Jvm.MethodName) prog_20_method_16_code (4 : Nat) (Option.some Jvm.ClassFile.FieldType.long)).before args0 about1 = true := code_word (m := ⟨2, 2⟩) (meth := k2m2) (c := k2c2) (by decide +kernel) rfl rfl rfl (by decide +kernel)
set_option maxRecDepth 65536 in
theorem w_c6 : (Jvm.Cond.code ({ cls := "java/lang/Math", name := "max", desc := "(JJ)J" } : Jvm.MethodName) jdk_29_method_66_code (4 : Nat) (Option.some Jvm.ClassFile.FieldType.long)).before args0 about1 = true := code_word (m := ⟨4, 1⟩) (meth := k4m1) (c := k4c1) (by decide +kernel) rfl rfl rfl (by decide +kernel)
set_option maxRecDepth 65536 in
theorem w_c7 : (Jvm.Cond.code ({ cls := "java/lang/Math", name := "min", desc := "(JJ)J" } : Jvm.MethodName) jdk_29_method_70_code (4 : Nat) (Option.some Jvm.ClassFile.FieldType.long)).before args0 about1 = true := code_word (m := ⟨4, 2⟩) (meth := k4m2) (c := k4c2) (by decide +kernel) rfl rfl rfl (by decide +kernel)
set_option maxRecDepth 65536 in
theorem w_c8 : (Jvm.Cond.code ({ cls := "com/example/rexquill/rexquill/CopiesHasLaterOptionalCopiesPinLaw", name := "later", desc := "(II)Z" } : Jvm.MethodName) method_4_code (2 : Nat) (Option.some Jvm.ClassFile.FieldType.boolean)).before args0 about1 = true := code_word (m := ⟨1, 3⟩) (meth := k1m3) (c := k1c3) (by decide +kernel) rfl rfl rfl (by decide +kernel)
set_option maxRecDepth 65536 in
theorem w_c9 : (Jvm.Cond.code ({ cls := "com/example/rexquill/rexquill/Copies", name := "hasLaterOptionalCopies", desc := "()Z" } : Jvm.MethodName) prog_20_method_5_code (2 : Nat) (Option.some Jvm.ClassFile.FieldType.boolean)).before args0 about1 = true := code_word (m := ⟨2, 1⟩) (meth := k2m1) (c := k2c1) (by decide +kernel) rfl rfl rfl (by decide +kernel)
def codes1 : List Jvm.Cond := [Jvm.Cond.code x code maxLocals ret, Jvm.Cond.code ({ cls := "com/example/rexquill/rexquill/CopiesHasLaterOptionalCopiesPinLaw", name := "fill", desc := "([IIII)V" } : Jvm.MethodName) method_3_code (4 : Nat) (Option.none : Option Jvm.ClassFile.FieldType), Jvm.Cond.code ({ cls := "com/example/rexquill/rexquill/Copies", name := "<init>", desc := "([I)V" } : Jvm.MethodName) prog_20_method_1_code (10 : Nat) (Option.none : Option Jvm.ClassFile.FieldType), Jvm.Cond.code ({ cls := "java/lang/Object", name := "<init>", desc := "()V" } : Jvm.MethodName) object_method_1_code (1 : Nat) (Option.none : Option Jvm.ClassFile.FieldType), Jvm.Cond.code ({ cls := "com/example/rexquill/rexquill/Copies", name := "firstOptionalCopy", desc := "([II)I" } : Jvm.MethodName) prog_20_method_17_code (2 : Nat) (Option.some Jvm.ClassFile.FieldType.int), Jvm.Cond.code ({ cls := "com/example/rexquill/rexquill/Copies", name := "room", desc := "([III)J" } : Jvm.MethodName) prog_20_method_16_code (4 : Nat) (Option.some Jvm.ClassFile.FieldType.long), Jvm.Cond.code ({ cls := "java/lang/Math", name := "max", desc := "(JJ)J" } : Jvm.MethodName) jdk_29_method_66_code (4 : Nat) (Option.some Jvm.ClassFile.FieldType.long), Jvm.Cond.code ({ cls := "java/lang/Math", name := "min", desc := "(JJ)J" } : Jvm.MethodName) jdk_29_method_70_code (4 : Nat) (Option.some Jvm.ClassFile.FieldType.long), Jvm.Cond.code ({ cls := "com/example/rexquill/rexquill/CopiesHasLaterOptionalCopiesPinLaw", name := "later", desc := "(II)Z" } : Jvm.MethodName) method_4_code (2 : Nat) (Option.some Jvm.ClassFile.FieldType.boolean), Jvm.Cond.code ({ cls := "com/example/rexquill/rexquill/Copies", name := "hasLaterOptionalCopies", desc := "()Z" } : Jvm.MethodName) prog_20_method_5_code (2 : Nat) (Option.some Jvm.ClassFile.FieldType.boolean)]
set_option maxRecDepth 65536 in
theorem codes_eq : words1.filter isCode = codes1 := rfl
theorem w_codes : ∀ c ∈ words1.filter isCode, c.before args0 about1 = true := by
  rw [codes_eq]
  intro c hc
  simp only [codes1, List.mem_cons, List.not_mem_nil, or_false] at hc
  rcases hc with rfl | rfl | rfl | rfl | rfl | rfl | rfl | rfl | rfl | rfl
  · exact w_c0
  · exact w_c1
  · exact w_c2
  · exact w_c3
  · exact w_c4
  · exact w_c5
  · exact w_c6
  · exact w_c7
  · exact w_c8
  · exact w_c9
set_option maxRecDepth 65536 in
theorem w_t1 : (words1.take 24).all (fun c => isCode c || c.before args0 about1) = true := by decide +kernel
set_option maxRecDepth 65536 in
theorem w_t2 : ((words1.drop 24).take 24).all (fun c => isCode c || c.before args0 about1) = true := by decide +kernel
set_option maxRecDepth 65536 in
theorem w_t3 : ((words1.drop 24).drop 24).all (fun c => isCode c || c.before args0 about1) = true := by decide +kernel
theorem w_tables : (allAtoms (Jvm.Cond.code x code maxLocals ret :: tables_1)).before args0 about1 = true := by
  rw [allAtoms_all]
  show words1.all (fun c => c.before args0 about1) = true
  refine all_split ?_ w_codes
  rw [← List.take_append_drop 24 words1, List.all_append, w_t1, ← List.take_append_drop 24 (words1.drop 24), List.all_append, w_t2, w_t3]
  rfl
set_option maxRecDepth 65536 in
theorem w_case : (Jvm.Cond.and given_1 narrow_1).before args0 about1 = true := by decide +kernel
theorem w_applies : (headSpec (Jvm.Cond.code x code maxLocals ret :: tables_1) room_1).applies x e0.platform about1 = true :=
  (Spec.applies_iff w_frames).mpr ⟨w_running, w_runnable, w_alone, w_named, w_hears, w_ripe, w_room, w_tables⟩
theorem atStart : AtStart classFile x code maxLocals ret World_1 tables_1 room_1 Calls_1 rest_1 Pre_1 launch0 p0 e0 about1 theMethod args0 below0 :=
  ⟨lists_1, trivial, launch0.admits_env _ _ _, launch0.least_env, fairChoices_fair.cas, fairChoices_fair.clock, w_frames, w_args, w_heap, w_applies, trivial, trivial, w_case⟩
end start1
theorem witness_1 : WitnessClaimed_1 := ⟨start1.p0, start1.e0, start1.about1, start1.theMethod, start1.args0, start1.below0, start1.atStart⟩
end Jvm.Pilot.@@N@@
