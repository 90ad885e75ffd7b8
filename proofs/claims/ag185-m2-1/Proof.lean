import JvmDerived
import JvmDerived.Pilot.@@N@@Statement
import JvmDerived.Pilot.@@N@@Code
set_option linter.unusedVariables false
set_option linter.unusedSimpArgs false
namespace Jvm.Pilot.@@N@@
open Jvm Jvm.ClassFile Sem Op Lib Jvm.Free Jvm.Stand Jvm.LawKit Jvm.RoadKit Bundle Jvm.Pilot.@@N@@.Jvm.D
/-- one invocation: program, environment, the state at the invocation, method, arguments, the frames below, the method's record, its code -/
abbrev OG := Program × Env × State × MethodId × Array Value × List Frame × Method × Code
/-- the whole run: the launch, the heap's size at the law's start, the law's arguments -/
abbrev OW := Launch × Nat × Array Value
/-- one method: its bytes, its number of locals, its class, its name, what it returns, the room it asks -/
abbrev OM := ByteArray × Nat × String × String × Option FieldType × Room
/-- where a walk stands -/
def oSt (Z : State) (ω : OW) (γ : OG) (κ : OM) (T : State) (h : Heap) (cs ss : Nat) : Prop :=
  γ.1.tables.exec = Jvm.exec ∧ γ.2.2.2.2.2.2.2.code = κ.1 ∧ γ.2.2.2.2.2.2.2.maxLocals = κ.2.1 ∧ γ.2.2.1.vm.findClass κ.2.2.1 = some γ.2.2.2.1.cls ∧ γ.2.2.2.2.2.2.1.name = κ.2.2.2.1 ∧
  γ.2.2.2.2.2.2.1.sig.returnType = κ.2.2.2.2.1 ∧ γ.2.2.2.2.2.2.1.locks = false ∧ Z.Warmed39 γ.2.2.1.vm ∧ (∀ d ∈ tables_1, d.before ω.2.2 Z = true) ∧ ω.2.1 ≤ γ.2.2.1.heap.size ∧ T.heap = h ∧
  ∃ locs, Stand γ.1 ω.1 γ.2.1 κ.2.2.2.2.2 γ.2.2.1 γ.2.2.2.1 γ.2.2.2.2.1 γ.2.2.2.2.2.1 γ.2.2.2.2.2.2.1 γ.2.2.2.2.2.2.2 T locs cs ss ∧ Fr ω.2.1 locs
/-- from here the method returns, and Q holds of what it returns and of the heap it leaves -/
def oWP (ω : OW) (γ : OG) (κ : OM) (Q : Option Value → Heap → Prop) (T : State) (pc : Nat) (L : Array Slot) (S : List Value) : Prop :=
  ∃ s₂ o, Steps γ.1.tables γ.2.1 γ.2.2.2.2.2.1 (T.setTop (mkF γ.2.2.2.1 pc L S)) s₂ ∧ s₂.status = .running ∧ Ended s₂ γ.2.2.2.2.2.1 o ∧
    ∃ v Lc, o = .returned v ∧ (Fr ω.2.1 Lc ∧ Q v s₂.heap) ∧ FrameEnd γ.2.2.1 o s₂ Lc κ.2.2.2.2.2.cells κ.2.2.2.2.2.slots
/-- a method's contract -/
def oC (Z : State) (ω : OW) (y : MethodName) (κ : OM) (ws : List Jvm.Cond) (as : Array Value) (h : Heap) (Q : Option Value → Heap → Prop) : Prop :=
  MetFree ω.1 y (head1 (Jvm.Cond.code y κ.1 κ.2.1 κ.2.2.2.2.1 :: ws) κ.2.2.2.2.2) (fun a U => a = as ∧ Z.Warmed39 U.vm ∧ U.heap = h) (fun _ _ _ _ _ => True)
    (fun _ U o U' => ∃ v Lc, o = .returned v ∧ (Fr ω.2.1 Lc ∧ Q v U'.heap) ∧ FrameEnd U o U' Lc κ.2.2.2.2.2.cells κ.2.2.2.2.2.slots)
theorem oC_of {Z : State} {ω : OW} {y : MethodName} {κ : OM} {ws : List Jvm.Cond} {as : Array Value} {h : Heap} {Q : Option Value → Heap → Prop} {L : Array Slot} (hw : ∀ d ∈ tables_1, d.before ω.2.2 Z = true) (hn0 : ω.2.1 ≤ h.size)
    (hpn : plainFor y = true) (hcl : κ.2.2.1 = y.cls) (hnm : κ.2.2.2.1 = y.name) (hef : ∀ m, entryFrame m as κ.2.1 = mkF m 0 L []) (body : ∀ γ T, oSt Z ω γ κ T h 0 0 → oWP ω γ κ Q T 0 L []) : oC Z ω y κ ws as h Q := by
  refine MetFree.of_bodySF hpn hisR ?_
  intro p e s m args below meth c s₁ Bd hml0 hP hK
  obtain ⟨rfl, hZ, hh⟩ := hP
  have hown : s.vm.findClass y.cls = some m.cls := findClass_of_methodNamed Bd.named
  have hnm' := (name_of_methodNamed Bd.named Bd.method).1
  have X0 := Stand.of_body Bd
  have e0 : s₁.heap = h := by rw [← hh, Bd.state]; rfl
  have hlk : meth.locks = false := BodyLoose.notSynchronized Bd
  obtain ⟨s₂, o, h1, h2, h3, h4⟩ := body (p, e, s, m, args, below, meth, c) s₁ ⟨Bd.exec, Bd.bytes, hml0, by rw [hcl]; exact hown, by rw [hnm]; exact hnm', Bd.returns, hlk, hZ, hw, by rw [hh]; exact hn0, e0, [], X0, Fr.nil _⟩
  exact ⟨s₂, o, castTop (hef m) h1, h2, h3, h4⟩
section Walk
variable {Z : State} {ω : OW} {γ : OG} {κ : OM} {Q : Option Value → Heap → Prop} {T : State} {h : Heap} {cs ss : Nat} {pc : Nat} {L : Array Slot} {S : List Value}
theorem oSt_n0 (X : oSt Z ω γ κ T h cs ss) : ω.2.1 ≤ h.size := by
  obtain ⟨-, -, -, -, -, -, -, -, -, hn0, hT, locs, Y, -⟩ := X
  have q : γ.2.2.1.heap.size ≤ T.heap.size := Y.same.2.1
  rw [hT] at q
  exact Nat.le_trans hn0 q
theorem oSt_w (X : oSt Z ω γ κ T h cs ss) : ∀ d ∈ tables_1, d.before ω.2.2 Z = true := by
  obtain ⟨-, -, -, -, -, -, -, -, hw, -⟩ := X; exact hw
theorem oSt_at (X : oSt Z ω γ κ T h cs ss) (i : Nat) {d : Jvm.Cond} (hi : tables_1[i]? = some d) : d.before ω.2.2 Z = true := oSt_w X _ (List.mem_of_getElem? hi)
theorem ow_iload (X : oSt Z ω γ κ T h cs ss) (pc' : Nat) {k : Nat} {v : Int32} (hd : decode κ.1 pc = .ok (.iload k, 2)) (hp : pc + 2 = pc') (hl : L[k]? = some (.val (.int v)))
    (K : oWP ω γ κ Q T pc' L (.int v :: S)) : oWP ω γ κ Q T pc L (S) := by
  obtain ⟨hx, hby, -, -, -, -, -, -, -, -, -, locs, Y, -⟩ := X
  subst hp
  obtain ⟨s₂, o, hs, r⟩ := K
  exact ⟨s₂, o, XS.iload Y.here hx rfl (hb hby hd) hl hs, r⟩
theorem ow_iloadN (X : oSt Z ω γ κ T h cs ss) (pc' : Nat) {k : Fin 4} {v : Int32} (hd : decode κ.1 pc = .ok (.iload_n k, 1)) (hp : pc + 1 = pc') (hl : L[k.val]? = some (.val (.int v)))
    (K : oWP ω γ κ Q T pc' L (.int v :: S)) : oWP ω γ κ Q T pc L (S) := by
  obtain ⟨hx, hby, -, -, -, -, -, -, -, -, -, locs, Y, -⟩ := X
  subst hp
  obtain ⟨s₂, o, hs, r⟩ := K
  exact ⟨s₂, o, XS.iloadN Y.here hx rfl (hb hby hd) hl hs, r⟩
theorem ow_istore (X : oSt Z ω γ κ T h cs ss) (pc' : Nat) {k : Nat} {v : Int32} {L' : Array Slot} (hd : decode κ.1 pc = .ok (.istore k, 2)) (hp : pc + 2 = pc') (hl : storeLocals L k (.int v) = some L')
    (K : oWP ω γ κ Q T pc' L' (S)) : oWP ω γ κ Q T pc L (.int v :: S) := by
  obtain ⟨hx, hby, -, -, -, -, -, -, -, -, -, locs, Y, -⟩ := X
  subst hp
  obtain ⟨s₂, o, hs, r⟩ := K
  exact ⟨s₂, o, XS.istore Y.here hx rfl (hb hby hd) rfl hl hs, r⟩
theorem ow_istoreN (X : oSt Z ω γ κ T h cs ss) (pc' : Nat) {k : Fin 4} {v : Int32} {L' : Array Slot} (hd : decode κ.1 pc = .ok (.istore_n k, 1)) (hp : pc + 1 = pc') (hl : storeLocals L k.val (.int v) = some L')
    (K : oWP ω γ κ Q T pc' L' (S)) : oWP ω γ κ Q T pc L (.int v :: S) := by
  obtain ⟨hx, hby, -, -, -, -, -, -, -, -, -, locs, Y, -⟩ := X
  subst hp
  obtain ⟨s₂, o, hs, r⟩ := K
  exact ⟨s₂, o, XS.istoreN Y.here hx rfl (hb hby hd) rfl hl hs, r⟩
theorem ow_lload (X : oSt Z ω γ κ T h cs ss) (pc' : Nat) {k : Nat} {v : Int64} (hd : decode κ.1 pc = .ok (.lload k, 2)) (hp : pc + 2 = pc') (hl : L[k]? = some (.val (.long v)))
    (K : oWP ω γ κ Q T pc' L (.long v :: S)) : oWP ω γ κ Q T pc L (S) := by
  obtain ⟨hx, hby, -, -, -, -, -, -, -, -, -, locs, Y, -⟩ := X
  subst hp
  obtain ⟨s₂, o, hs, r⟩ := K
  exact ⟨s₂, o, XS.lload Y.here hx rfl (hb hby hd) hl hs, r⟩
theorem ow_lloadN (X : oSt Z ω γ κ T h cs ss) (pc' : Nat) {k : Fin 4} {v : Int64} (hd : decode κ.1 pc = .ok (.lload_n k, 1)) (hp : pc + 1 = pc') (hl : L[k.val]? = some (.val (.long v)))
    (K : oWP ω γ κ Q T pc' L (.long v :: S)) : oWP ω γ κ Q T pc L (S) := by
  obtain ⟨hx, hby, -, -, -, -, -, -, -, -, -, locs, Y, -⟩ := X
  subst hp
  obtain ⟨s₂, o, hs, r⟩ := K
  exact ⟨s₂, o, XS.lloadN Y.here hx rfl (hb hby hd) hl hs, r⟩
theorem ow_lstore (X : oSt Z ω γ κ T h cs ss) (pc' : Nat) {k : Nat} {v : Int64} {L' : Array Slot} (hd : decode κ.1 pc = .ok (.lstore k, 2)) (hp : pc + 2 = pc') (hl : storeLocals L k (.long v) = some L')
    (K : oWP ω γ κ Q T pc' L' (S)) : oWP ω γ κ Q T pc L (.long v :: S) := by
  obtain ⟨hx, hby, -, -, -, -, -, -, -, -, -, locs, Y, -⟩ := X
  subst hp
  obtain ⟨s₂, o, hs, r⟩ := K
  exact ⟨s₂, o, XS.lstore Y.here hx rfl (hb hby hd) rfl hl hs, r⟩
theorem ow_lstoreN (X : oSt Z ω γ κ T h cs ss) (pc' : Nat) {k : Fin 4} {v : Int64} {L' : Array Slot} (hd : decode κ.1 pc = .ok (.lstore_n k, 1)) (hp : pc + 1 = pc') (hl : storeLocals L k.val (.long v) = some L')
    (K : oWP ω γ κ Q T pc' L' (S)) : oWP ω γ κ Q T pc L (.long v :: S) := by
  obtain ⟨hx, hby, -, -, -, -, -, -, -, -, -, locs, Y, -⟩ := X
  subst hp
  obtain ⟨s₂, o, hs, r⟩ := K
  exact ⟨s₂, o, XS.lstoreN Y.here hx rfl (hb hby hd) rfl hl hs, r⟩
theorem ow_aload (X : oSt Z ω γ κ T h cs ss) (pc' : Nat) {k : Nat} {v : Value} (hd : decode κ.1 pc = .ok (.aload k, 2)) (hp : pc + 2 = pc') (hl : L[k]? = some (.val v)) (hv : v.isRef = true)
    (K : oWP ω γ κ Q T pc' L (v :: S)) : oWP ω γ κ Q T pc L (S) := by
  obtain ⟨hx, hby, -, -, -, -, -, -, -, -, -, locs, Y, -⟩ := X
  subst hp
  obtain ⟨s₂, o, hs, r⟩ := K
  exact ⟨s₂, o, XS.aload Y.here hx rfl (hb hby hd) hl hv hs, r⟩
theorem ow_aloadN (X : oSt Z ω γ κ T h cs ss) (pc' : Nat) {k : Fin 4} {v : Value} (hd : decode κ.1 pc = .ok (.aload_n k, 1)) (hp : pc + 1 = pc') (hl : L[k.val]? = some (.val v)) (hv : v.isRef = true)
    (K : oWP ω γ κ Q T pc' L (v :: S)) : oWP ω γ κ Q T pc L (S) := by
  obtain ⟨hx, hby, -, -, -, -, -, -, -, -, -, locs, Y, -⟩ := X
  subst hp
  obtain ⟨s₂, o, hs, r⟩ := K
  exact ⟨s₂, o, XS.aloadN Y.here hx rfl (hb hby hd) hl hv hs, r⟩
theorem ow_astore (X : oSt Z ω γ κ T h cs ss) (pc' : Nat) {k : Nat} {v : Value} {L' : Array Slot} (hd : decode κ.1 pc = .ok (.astore k, 2)) (hp : pc + 2 = pc') (hv : v.isRef = true) (hl : storeLocals L k v = some L')
    (K : oWP ω γ κ Q T pc' L' (S)) : oWP ω γ κ Q T pc L (v :: S) := by
  obtain ⟨hx, hby, -, -, -, -, -, -, -, -, -, locs, Y, -⟩ := X
  subst hp
  obtain ⟨s₂, o, hs, r⟩ := K
  exact ⟨s₂, o, XS.astore Y.here hx rfl (hb hby hd) rfl hv hl hs, r⟩
theorem ow_astoreN (X : oSt Z ω γ κ T h cs ss) (pc' : Nat) {k : Fin 4} {v : Value} {L' : Array Slot} (hd : decode κ.1 pc = .ok (.astore_n k, 1)) (hp : pc + 1 = pc') (hv : v.isRef = true) (hl : storeLocals L k.val v = some L')
    (K : oWP ω γ κ Q T pc' L' (S)) : oWP ω γ κ Q T pc L (v :: S) := by
  obtain ⟨hx, hby, -, -, -, -, -, -, -, -, -, locs, Y, -⟩ := X
  subst hp
  obtain ⟨s₂, o, hs, r⟩ := K
  exact ⟨s₂, o, XS.astoreN Y.here hx rfl (hb hby hd) rfl hv hl hs, r⟩
theorem ow_iconst (X : oSt Z ω γ κ T h cs ss) (pc' : Nat) {i : Int} (v : Int32) (hd : decode κ.1 pc = .ok (.iconst i, 1)) (hp : pc + 1 = pc') (hv : Int32.ofInt i = v)
    (K : oWP ω γ κ Q T pc' L (.int v :: S)) : oWP ω γ κ Q T pc L (S) := by
  obtain ⟨hx, hby, -, -, -, -, -, -, -, -, -, locs, Y, -⟩ := X
  subst hp
  obtain ⟨s₂, o, hs, r⟩ := K
  subst hv; exact ⟨s₂, o, XS.iconst Y.here hx rfl (hb hby hd) hs, r⟩
theorem ow_bipush (X : oSt Z ω γ κ T h cs ss) (pc' : Nat) {i : Int} (v : Int32) (hd : decode κ.1 pc = .ok (.bipush i, 2)) (hp : pc + 2 = pc') (hv : (Int8.ofInt i).toInt32 = v)
    (K : oWP ω γ κ Q T pc' L (.int v :: S)) : oWP ω γ κ Q T pc L (S) := by
  obtain ⟨hx, hby, -, -, -, -, -, -, -, -, -, locs, Y, -⟩ := X
  subst hp
  obtain ⟨s₂, o, hs, r⟩ := K
  subst hv; exact ⟨s₂, o, XS.bipush Y.here hx rfl (hb hby hd) hs, r⟩
theorem ow_sipush (X : oSt Z ω γ κ T h cs ss) (pc' : Nat) {i : Int} (v : Int32) (hd : decode κ.1 pc = .ok (.sipush i, 3)) (hp : pc + 3 = pc') (hv : (Int16.ofInt i).toInt32 = v)
    (K : oWP ω γ κ Q T pc' L (.int v :: S)) : oWP ω γ κ Q T pc L (S) := by
  obtain ⟨hx, hby, -, -, -, -, -, -, -, -, -, locs, Y, -⟩ := X
  subst hp
  obtain ⟨s₂, o, hs, r⟩ := K
  subst hv; exact ⟨s₂, o, XS.sipush Y.here hx rfl (hb hby hd) hs, r⟩
theorem ow_lconst (X : oSt Z ω γ κ T h cs ss) (pc' : Nat) {k : Fin 2} (v : Int64) (hd : decode κ.1 pc = .ok (.lconst k, 1)) (hp : pc + 1 = pc') (hv : Int64.ofNat k = v)
    (K : oWP ω γ κ Q T pc' L (.long v :: S)) : oWP ω γ κ Q T pc L (S) := by
  obtain ⟨hx, hby, -, -, -, -, -, -, -, -, -, locs, Y, -⟩ := X
  subst hp
  obtain ⟨s₂, o, hs, r⟩ := K
  subst hv; exact ⟨s₂, o, XS.lconst Y.here hx rfl (hb hby hd) hs, r⟩
theorem ow_anull (X : oSt Z ω γ κ T h cs ss) (pc' : Nat)  (hd : decode κ.1 pc = .ok (.aconst_null, 1)) (hp : pc + 1 = pc') 
    (K : oWP ω γ κ Q T pc' L (.null :: S)) : oWP ω γ κ Q T pc L (S) := by
  obtain ⟨hx, hby, -, -, -, -, -, -, -, -, -, locs, Y, -⟩ := X
  subst hp
  obtain ⟨s₂, o, hs, r⟩ := K
  exact ⟨s₂, o, XS.aconstNull Y.here hx rfl (hb hby hd) hs, r⟩
theorem ow_iinc (X : oSt Z ω γ κ T h cs ss) (pc' : Nat) {k : Nat} {i : Int} {x : Int32} {L' : Array Slot} (v : Int32) (hd : decode κ.1 pc = .ok (.iinc k i, 3)) (hp : pc + 3 = pc') (hv : Int32.ofInt i = v) (hl : L[k]? = some (.val (.int x))) (hl' : storeLocals L k (.int (x + v)) = some L')
    (K : oWP ω γ κ Q T pc' L' (S)) : oWP ω γ κ Q T pc L (S) := by
  obtain ⟨hx, hby, -, -, -, -, -, -, -, -, -, locs, Y, -⟩ := X
  subst hp
  obtain ⟨s₂, o, hs, r⟩ := K
  subst hv; exact ⟨s₂, o, XS.iinc Y.here hx rfl (hb hby hd) hl hl' hs, r⟩
theorem ow_iadd (X : oSt Z ω γ κ T h cs ss) (pc' : Nat) {x y : Int32} (hd : decode κ.1 pc = .ok (.iadd, 1)) (hp : pc + 1 = pc') 
    (K : oWP ω γ κ Q T pc' L (.int (x + y) :: S)) : oWP ω γ κ Q T pc L (.int y :: .int x :: S) := by
  obtain ⟨hx, hby, -, -, -, -, -, -, -, -, -, locs, Y, -⟩ := X
  subst hp
  obtain ⟨s₂, o, hs, r⟩ := K
  exact ⟨s₂, o, XS.iadd Y.here hx rfl (hb hby hd) rfl hs, r⟩
theorem ow_isub (X : oSt Z ω γ κ T h cs ss) (pc' : Nat) {x y : Int32} (hd : decode κ.1 pc = .ok (.isub, 1)) (hp : pc + 1 = pc') 
    (K : oWP ω γ κ Q T pc' L (.int (x - y) :: S)) : oWP ω γ κ Q T pc L (.int y :: .int x :: S) := by
  obtain ⟨hx, hby, -, -, -, -, -, -, -, -, -, locs, Y, -⟩ := X
  subst hp
  obtain ⟨s₂, o, hs, r⟩ := K
  exact ⟨s₂, o, XS.isub Y.here hx rfl (hb hby hd) rfl hs, r⟩
theorem ow_imul (X : oSt Z ω γ κ T h cs ss) (pc' : Nat) {x y : Int32} (hd : decode κ.1 pc = .ok (.imul, 1)) (hp : pc + 1 = pc') 
    (K : oWP ω γ κ Q T pc' L (.int (x * y) :: S)) : oWP ω γ κ Q T pc L (.int y :: .int x :: S) := by
  obtain ⟨hx, hby, -, -, -, -, -, -, -, -, -, locs, Y, -⟩ := X
  subst hp
  obtain ⟨s₂, o, hs, r⟩ := K
  exact ⟨s₂, o, XS.imul Y.here hx rfl (hb hby hd) rfl hs, r⟩
theorem ow_iand (X : oSt Z ω γ κ T h cs ss) (pc' : Nat) {x y : Int32} (hd : decode κ.1 pc = .ok (.iand, 1)) (hp : pc + 1 = pc') 
    (K : oWP ω γ κ Q T pc' L (.int (x &&& y) :: S)) : oWP ω γ κ Q T pc L (.int y :: .int x :: S) := by
  obtain ⟨hx, hby, -, -, -, -, -, -, -, -, -, locs, Y, -⟩ := X
  subst hp
  obtain ⟨s₂, o, hs, r⟩ := K
  exact ⟨s₂, o, XS.iand Y.here hx rfl (hb hby hd) rfl hs, r⟩
theorem ow_ior (X : oSt Z ω γ κ T h cs ss) (pc' : Nat) {x y : Int32} (hd : decode κ.1 pc = .ok (.ior, 1)) (hp : pc + 1 = pc') 
    (K : oWP ω γ κ Q T pc' L (.int (x ||| y) :: S)) : oWP ω γ κ Q T pc L (.int y :: .int x :: S) := by
  obtain ⟨hx, hby, -, -, -, -, -, -, -, -, -, locs, Y, -⟩ := X
  subst hp
  obtain ⟨s₂, o, hs, r⟩ := K
  exact ⟨s₂, o, XS.ior Y.here hx rfl (hb hby hd) rfl hs, r⟩
theorem ow_ixor (X : oSt Z ω γ κ T h cs ss) (pc' : Nat) {x y : Int32} (hd : decode κ.1 pc = .ok (.ixor, 1)) (hp : pc + 1 = pc') 
    (K : oWP ω γ κ Q T pc' L (.int (x ^^^ y) :: S)) : oWP ω γ κ Q T pc L (.int y :: .int x :: S) := by
  obtain ⟨hx, hby, -, -, -, -, -, -, -, -, -, locs, Y, -⟩ := X
  subst hp
  obtain ⟨s₂, o, hs, r⟩ := K
  exact ⟨s₂, o, XS.ixor Y.here hx rfl (hb hby hd) rfl hs, r⟩
theorem ow_ishl (X : oSt Z ω γ κ T h cs ss) (pc' : Nat) {x y : Int32} (hd : decode κ.1 pc = .ok (.ishl, 1)) (hp : pc + 1 = pc') 
    (K : oWP ω γ κ Q T pc' L (.int (x <<< (y &&& 31)) :: S)) : oWP ω γ κ Q T pc L (.int y :: .int x :: S) := by
  obtain ⟨hx, hby, -, -, -, -, -, -, -, -, -, locs, Y, -⟩ := X
  subst hp
  obtain ⟨s₂, o, hs, r⟩ := K
  exact ⟨s₂, o, XS.ishl Y.here hx rfl (hb hby hd) rfl hs, r⟩
theorem ow_ishr (X : oSt Z ω γ κ T h cs ss) (pc' : Nat) {x y : Int32} (hd : decode κ.1 pc = .ok (.ishr, 1)) (hp : pc + 1 = pc') 
    (K : oWP ω γ κ Q T pc' L (.int (x >>> (y &&& 31)) :: S)) : oWP ω γ κ Q T pc L (.int y :: .int x :: S) := by
  obtain ⟨hx, hby, -, -, -, -, -, -, -, -, -, locs, Y, -⟩ := X
  subst hp
  obtain ⟨s₂, o, hs, r⟩ := K
  exact ⟨s₂, o, XS.ishr Y.here hx rfl (hb hby hd) rfl hs, r⟩
theorem ow_iushr (X : oSt Z ω γ κ T h cs ss) (pc' : Nat) {x y : Int32} (hd : decode κ.1 pc = .ok (.iushr, 1)) (hp : pc + 1 = pc') 
    (K : oWP ω γ κ Q T pc' L (.int ((x.toUInt32 >>> (y &&& 31).toUInt32).toInt32) :: S)) : oWP ω γ κ Q T pc L (.int y :: .int x :: S) := by
  obtain ⟨hx, hby, -, -, -, -, -, -, -, -, -, locs, Y, -⟩ := X
  subst hp
  obtain ⟨s₂, o, hs, r⟩ := K
  exact ⟨s₂, o, XS.iushr Y.here hx rfl (hb hby hd) rfl hs, r⟩
theorem ow_ineg (X : oSt Z ω γ κ T h cs ss) (pc' : Nat) {x : Int32} (hd : decode κ.1 pc = .ok (.ineg, 1)) (hp : pc + 1 = pc') 
    (K : oWP ω γ κ Q T pc' L (.int (-x) :: S)) : oWP ω γ κ Q T pc L (.int x :: S) := by
  obtain ⟨hx, hby, -, -, -, -, -, -, -, -, -, locs, Y, -⟩ := X
  subst hp
  obtain ⟨s₂, o, hs, r⟩ := K
  exact ⟨s₂, o, XS.ineg Y.here hx rfl (hb hby hd) rfl hs, r⟩
theorem ow_idiv (X : oSt Z ω γ κ T h cs ss) (pc' : Nat) {x y : Int32} (hd : decode κ.1 pc = .ok (.idiv, 1)) (hp : pc + 1 = pc') (hy : y ≠ 0)
    (K : oWP ω γ κ Q T pc' L (.int (x / y) :: S)) : oWP ω γ κ Q T pc L (.int y :: .int x :: S) := by
  obtain ⟨hx, hby, -, -, -, -, -, -, -, -, -, locs, Y, -⟩ := X
  subst hp
  obtain ⟨s₂, o, hs, r⟩ := K
  exact ⟨s₂, o, XS.idiv Y.here hx rfl (hb hby hd) rfl hy hs, r⟩
theorem ow_irem (X : oSt Z ω γ κ T h cs ss) (pc' : Nat) {x y : Int32} (hd : decode κ.1 pc = .ok (.irem, 1)) (hp : pc + 1 = pc') (hy : y ≠ 0)
    (K : oWP ω γ κ Q T pc' L (.int (x % y) :: S)) : oWP ω γ κ Q T pc L (.int y :: .int x :: S) := by
  obtain ⟨hx, hby, -, -, -, -, -, -, -, -, -, locs, Y, -⟩ := X
  subst hp
  obtain ⟨s₂, o, hs, r⟩ := K
  exact ⟨s₂, o, iremM Y hx rfl (hb hby hd) rfl hy hs, r⟩
theorem ow_ladd (X : oSt Z ω γ κ T h cs ss) (pc' : Nat) {x y : Int64} (hd : decode κ.1 pc = .ok (.ladd, 1)) (hp : pc + 1 = pc') 
    (K : oWP ω γ κ Q T pc' L (.long (x + y) :: S)) : oWP ω γ κ Q T pc L (.long y :: .long x :: S) := by
  obtain ⟨hx, hby, -, -, -, -, -, -, -, -, -, locs, Y, -⟩ := X
  subst hp
  obtain ⟨s₂, o, hs, r⟩ := K
  exact ⟨s₂, o, XS.ladd Y.here hx rfl (hb hby hd) rfl hs, r⟩
theorem ow_lsub (X : oSt Z ω γ κ T h cs ss) (pc' : Nat) {x y : Int64} (hd : decode κ.1 pc = .ok (.lsub, 1)) (hp : pc + 1 = pc') 
    (K : oWP ω γ κ Q T pc' L (.long (x - y) :: S)) : oWP ω γ κ Q T pc L (.long y :: .long x :: S) := by
  obtain ⟨hx, hby, -, -, -, -, -, -, -, -, -, locs, Y, -⟩ := X
  subst hp
  obtain ⟨s₂, o, hs, r⟩ := K
  exact ⟨s₂, o, XS.lsub Y.here hx rfl (hb hby hd) rfl hs, r⟩
theorem ow_lmul (X : oSt Z ω γ κ T h cs ss) (pc' : Nat) {x y : Int64} (hd : decode κ.1 pc = .ok (.lmul, 1)) (hp : pc + 1 = pc') 
    (K : oWP ω γ κ Q T pc' L (.long (x * y) :: S)) : oWP ω γ κ Q T pc L (.long y :: .long x :: S) := by
  obtain ⟨hx, hby, -, -, -, -, -, -, -, -, -, locs, Y, -⟩ := X
  subst hp
  obtain ⟨s₂, o, hs, r⟩ := K
  exact ⟨s₂, o, XS.lmul Y.here hx rfl (hb hby hd) rfl hs, r⟩
theorem ow_land (X : oSt Z ω γ κ T h cs ss) (pc' : Nat) {x y : Int64} (hd : decode κ.1 pc = .ok (.land, 1)) (hp : pc + 1 = pc') 
    (K : oWP ω γ κ Q T pc' L (.long (x &&& y) :: S)) : oWP ω γ κ Q T pc L (.long y :: .long x :: S) := by
  obtain ⟨hx, hby, -, -, -, -, -, -, -, -, -, locs, Y, -⟩ := X
  subst hp
  obtain ⟨s₂, o, hs, r⟩ := K
  exact ⟨s₂, o, XS.land Y.here hx rfl (hb hby hd) rfl hs, r⟩
theorem ow_lor (X : oSt Z ω γ κ T h cs ss) (pc' : Nat) {x y : Int64} (hd : decode κ.1 pc = .ok (.lor, 1)) (hp : pc + 1 = pc') 
    (K : oWP ω γ κ Q T pc' L (.long (x ||| y) :: S)) : oWP ω γ κ Q T pc L (.long y :: .long x :: S) := by
  obtain ⟨hx, hby, -, -, -, -, -, -, -, -, -, locs, Y, -⟩ := X
  subst hp
  obtain ⟨s₂, o, hs, r⟩ := K
  exact ⟨s₂, o, XS.lor Y.here hx rfl (hb hby hd) rfl hs, r⟩
theorem ow_lxor (X : oSt Z ω γ κ T h cs ss) (pc' : Nat) {x y : Int64} (hd : decode κ.1 pc = .ok (.lxor, 1)) (hp : pc + 1 = pc') 
    (K : oWP ω γ κ Q T pc' L (.long (x ^^^ y) :: S)) : oWP ω γ κ Q T pc L (.long y :: .long x :: S) := by
  obtain ⟨hx, hby, -, -, -, -, -, -, -, -, -, locs, Y, -⟩ := X
  subst hp
  obtain ⟨s₂, o, hs, r⟩ := K
  exact ⟨s₂, o, XS.lxor Y.here hx rfl (hb hby hd) rfl hs, r⟩
theorem ow_lshl (X : oSt Z ω γ κ T h cs ss) (pc' : Nat) {x : Int64} {y : Int32} (hd : decode κ.1 pc = .ok (.lshl, 1)) (hp : pc + 1 = pc') 
    (K : oWP ω γ κ Q T pc' L (.long (x <<< (y &&& 0x3f).toInt64) :: S)) : oWP ω γ κ Q T pc L (.int y :: .long x :: S) := by
  obtain ⟨hx, hby, -, -, -, -, -, -, -, -, -, locs, Y, -⟩ := X
  subst hp
  obtain ⟨s₂, o, hs, r⟩ := K
  exact ⟨s₂, o, XS.lshl Y.here hx rfl (hb hby hd) rfl hs, r⟩
theorem ow_lshr (X : oSt Z ω γ κ T h cs ss) (pc' : Nat) {x : Int64} {y : Int32} (hd : decode κ.1 pc = .ok (.lshr, 1)) (hp : pc + 1 = pc') 
    (K : oWP ω γ κ Q T pc' L (.long (x >>> (y &&& 0x3f).toInt64) :: S)) : oWP ω γ κ Q T pc L (.int y :: .long x :: S) := by
  obtain ⟨hx, hby, -, -, -, -, -, -, -, -, -, locs, Y, -⟩ := X
  subst hp
  obtain ⟨s₂, o, hs, r⟩ := K
  exact ⟨s₂, o, XS.lshr Y.here hx rfl (hb hby hd) rfl hs, r⟩
theorem ow_lushr (X : oSt Z ω γ κ T h cs ss) (pc' : Nat) {x : Int64} {y : Int32} (hd : decode κ.1 pc = .ok (.lushr, 1)) (hp : pc + 1 = pc') 
    (K : oWP ω γ κ Q T pc' L (.long ((x.toUInt64 >>> (y &&& 0x3f).toInt64.toUInt64).toInt64) :: S)) : oWP ω γ κ Q T pc L (.int y :: .long x :: S) := by
  obtain ⟨hx, hby, -, -, -, -, -, -, -, -, -, locs, Y, -⟩ := X
  subst hp
  obtain ⟨s₂, o, hs, r⟩ := K
  exact ⟨s₂, o, XS.lushr Y.here hx rfl (hb hby hd) rfl hs, r⟩
theorem ow_ldiv (X : oSt Z ω γ κ T h cs ss) (pc' : Nat) {x y : Int64} (hd : decode κ.1 pc = .ok (.ldiv, 1)) (hp : pc + 1 = pc') (hy : y ≠ 0)
    (K : oWP ω γ κ Q T pc' L (.long (x / y) :: S)) : oWP ω γ κ Q T pc L (.long y :: .long x :: S) := by
  obtain ⟨hx, hby, -, -, -, -, -, -, -, -, -, locs, Y, -⟩ := X
  subst hp
  obtain ⟨s₂, o, hs, r⟩ := K
  exact ⟨s₂, o, XS.ldiv Y.here hx rfl (hb hby hd) rfl hy hs, r⟩
theorem ow_lrem (X : oSt Z ω γ κ T h cs ss) (pc' : Nat) {x y : Int64} (hd : decode κ.1 pc = .ok (.lrem, 1)) (hp : pc + 1 = pc') (hy : y ≠ 0)
    (K : oWP ω γ κ Q T pc' L (.long (x % y) :: S)) : oWP ω γ κ Q T pc L (.long y :: .long x :: S) := by
  obtain ⟨hx, hby, -, -, -, -, -, -, -, -, -, locs, Y, -⟩ := X
  subst hp
  obtain ⟨s₂, o, hs, r⟩ := K
  rw [← lrem_mod] at hs; exact ⟨s₂, o, XS.lrem Y.here hx rfl (hb hby hd) rfl hy hs, r⟩
theorem ow_i2l (X : oSt Z ω γ κ T h cs ss) (pc' : Nat) {x : Int32} (hd : decode κ.1 pc = .ok (.i2l, 1)) (hp : pc + 1 = pc') 
    (K : oWP ω γ κ Q T pc' L (.long x.toInt64 :: S)) : oWP ω γ κ Q T pc L (.int x :: S) := by
  obtain ⟨hx, hby, -, -, -, -, -, -, -, -, -, locs, Y, -⟩ := X
  subst hp
  obtain ⟨s₂, o, hs, r⟩ := K
  exact ⟨s₂, o, XS.i2l Y.here hx rfl (hb hby hd) rfl hs, r⟩
theorem ow_l2i (X : oSt Z ω γ κ T h cs ss) (pc' : Nat) {x : Int64} (hd : decode κ.1 pc = .ok (.l2i, 1)) (hp : pc + 1 = pc') 
    (K : oWP ω γ κ Q T pc' L (.int x.toInt32 :: S)) : oWP ω γ κ Q T pc L (.long x :: S) := by
  obtain ⟨hx, hby, -, -, -, -, -, -, -, -, -, locs, Y, -⟩ := X
  subst hp
  obtain ⟨s₂, o, hs, r⟩ := K
  exact ⟨s₂, o, XS.l2i Y.here hx rfl (hb hby hd) rfl hs, r⟩
theorem ow_i2b (X : oSt Z ω γ κ T h cs ss) (pc' : Nat) {x : Int32} (hd : decode κ.1 pc = .ok (.i2b, 1)) (hp : pc + 1 = pc') 
    (K : oWP ω γ κ Q T pc' L (.int x.toInt8.toInt32 :: S)) : oWP ω γ κ Q T pc L (.int x :: S) := by
  obtain ⟨hx, hby, -, -, -, -, -, -, -, -, -, locs, Y, -⟩ := X
  subst hp
  obtain ⟨s₂, o, hs, r⟩ := K
  exact ⟨s₂, o, XS.i2b Y.here hx rfl (hb hby hd) rfl hs, r⟩
theorem ow_i2c (X : oSt Z ω γ κ T h cs ss) (pc' : Nat) {x : Int32} (hd : decode κ.1 pc = .ok (.i2c, 1)) (hp : pc + 1 = pc') 
    (K : oWP ω γ κ Q T pc' L (.int x.toUInt32.toUInt16.toUInt32.toInt32 :: S)) : oWP ω γ κ Q T pc L (.int x :: S) := by
  obtain ⟨hx, hby, -, -, -, -, -, -, -, -, -, locs, Y, -⟩ := X
  subst hp
  obtain ⟨s₂, o, hs, r⟩ := K
  exact ⟨s₂, o, XS.i2c Y.here hx rfl (hb hby hd) rfl hs, r⟩
theorem ow_i2s (X : oSt Z ω γ κ T h cs ss) (pc' : Nat) {x : Int32} (hd : decode κ.1 pc = .ok (.i2s, 1)) (hp : pc + 1 = pc') 
    (K : oWP ω γ κ Q T pc' L (.int x.toInt16.toInt32 :: S)) : oWP ω γ κ Q T pc L (.int x :: S) := by
  obtain ⟨hx, hby, -, -, -, -, -, -, -, -, -, locs, Y, -⟩ := X
  subst hp
  obtain ⟨s₂, o, hs, r⟩ := K
  exact ⟨s₂, o, XS.i2s Y.here hx rfl (hb hby hd) rfl hs, r⟩
theorem ow_dup (X : oSt Z ω γ κ T h cs ss) (pc' : Nat) {x : Value} (hd : decode κ.1 pc = .ok (.dup, 1)) (hp : pc + 1 = pc') (hc : x.category = 1)
    (K : oWP ω γ κ Q T pc' L (x :: x :: S)) : oWP ω γ κ Q T pc L (x :: S) := by
  obtain ⟨hx, hby, -, -, -, -, -, -, -, -, -, locs, Y, -⟩ := X
  subst hp
  obtain ⟨s₂, o, hs, r⟩ := K
  exact ⟨s₂, o, XS.dup Y.here hx rfl (hb hby hd) rfl hc hs, r⟩
theorem ow_pop (X : oSt Z ω γ κ T h cs ss) (pc' : Nat) {x : Value} (hd : decode κ.1 pc = .ok (.pop, 1)) (hp : pc + 1 = pc') (hc : x.category = 1)
    (K : oWP ω γ κ Q T pc' L (S)) : oWP ω γ κ Q T pc L (x :: S) := by
  obtain ⟨hx, hby, -, -, -, -, -, -, -, -, -, locs, Y, -⟩ := X
  subst hp
  obtain ⟨s₂, o, hs, r⟩ := K
  exact ⟨s₂, o, XS.pop Y.here hx rfl (hb hby hd) rfl hc hs, r⟩
theorem ow_dupX1 (X : oSt Z ω γ κ T h cs ss) (pc' : Nat) {x y : Value} (hd : decode κ.1 pc = .ok (.dup_x1, 1)) (hp : pc + 1 = pc') (hc : x.category = 1) (hc' : y.category = 1)
    (K : oWP ω γ κ Q T pc' L (x :: y :: x :: S)) : oWP ω γ κ Q T pc L (x :: y :: S) := by
  obtain ⟨hx, hby, -, -, -, -, -, -, -, -, -, locs, Y, -⟩ := X
  subst hp
  obtain ⟨s₂, o, hs, r⟩ := K
  exact ⟨s₂, o, XS.dupX1 Y.here hx rfl (hb hby hd) rfl hc hc' hs, r⟩
theorem ow_dup2 (X : oSt Z ω γ κ T h cs ss) (pc' : Nat) {x y : Value} (hd : decode κ.1 pc = .ok (.dup2, 1)) (hp : pc + 1 = pc') (hc : x.category = 1) (hc' : y.category = 1)
    (K : oWP ω γ κ Q T pc' L (x :: y :: x :: y :: S)) : oWP ω γ κ Q T pc L (x :: y :: S) := by
  obtain ⟨hx, hby, -, -, -, -, -, -, -, -, -, locs, Y, -⟩ := X
  subst hp
  obtain ⟨s₂, o, hs, r⟩ := K
  exact ⟨s₂, o, XT.dup2 Y.here hx rfl (hb hby hd) rfl hc hc' hs, r⟩
theorem oXpop2L {tb : Tables} [Ours tb] {e : Env} {below : List Frame} {T target : State} {m : MethodId} {c : Code} {g : JFrame} (h : At T m c below) (hx : tb.exec = Jvm.exec) (hg : g.method = m) {x : Int64} {rest : List Value} (hd : decode c.code g.pc = .ok (.pop2, 1)) (hs : g.stack = .long x :: rest)
    (hr : Steps tb e below (T.setTop { g with pc := g.pc + 1, stack := rest }) target) : Steps tb e below (T.setTop g) target := by
  subst hg
  jvm_step h [h.top, hx, hd, hs, Value.category]
  exact hr
theorem ow_pop2L (X : oSt Z ω γ κ T h cs ss) (pc' : Nat) {x : Int64} (hd : decode κ.1 pc = .ok (.pop2, 1)) (hp : pc + 1 = pc') 
    (K : oWP ω γ κ Q T pc' L (S)) : oWP ω γ κ Q T pc L (.long x :: S) := by
  obtain ⟨hx, hby, -, -, -, -, -, -, -, -, -, locs, Y, -⟩ := X
  subst hp
  obtain ⟨s₂, o, hs, r⟩ := K
  exact ⟨s₂, o, oXpop2L Y.here hx rfl (hb hby hd) rfl hs, r⟩
theorem ow_ldcI (X : oSt Z ω γ κ T h cs ss) (pc' i : Nat) {own : String} {idx : Nat} {v : Int32} (hw : tables_1[i]? = some (.constant own idx v)) (ho : κ.2.2.1 = own) (hd : decode κ.1 pc = .ok (.ldc idx, 2)) (hp : pc + 2 = pc')
    (K : oWP ω γ κ Q T pc' L (.int v :: S)) : oWP ω γ κ Q T pc L S := by
  have hw' := oSt_at X i hw
  obtain ⟨hx, hby, -, hown, -, -, -, hZ, -, -, -, locs, Y, -⟩ := X
  subst hp ho
  obtain ⟨s₂, o, hs, r⟩ := K
  exact ⟨s₂, o, Stand.ldcI Y hx hown (mv hZ hw') rfl (hb hby hd) hs, r⟩
theorem ow_ldcWI (X : oSt Z ω γ κ T h cs ss) (pc' i : Nat) {own : String} {idx : Nat} {v : Int32} (hw : tables_1[i]? = some (.constant own idx v)) (ho : κ.2.2.1 = own) (hd : decode κ.1 pc = .ok (.ldc_w idx, 3)) (hp : pc + 3 = pc')
    (K : oWP ω γ κ Q T pc' L (.int v :: S)) : oWP ω γ κ Q T pc L S := by
  have hw' := oSt_at X i hw
  obtain ⟨hx, hby, -, hown, -, -, -, hZ, -, -, -, locs, Y, -⟩ := X
  subst hp ho
  obtain ⟨s₂, o, hs, r⟩ := K
  exact ⟨s₂, o, Stand.ldcWI Y hx hown (mv hZ hw') rfl (hb hby hd) hs, r⟩
theorem ow_ldc2J (X : oSt Z ω γ κ T h cs ss) (pc' i : Nat) {own : String} {idx : Nat} {v : Int64} (hw : tables_1[i]? = some (.constantLong own idx v)) (ho : κ.2.2.1 = own) (hd : decode κ.1 pc = .ok (.ldc2_w idx, 3)) (hp : pc + 3 = pc')
    (K : oWP ω γ κ Q T pc' L (.long v :: S)) : oWP ω γ κ Q T pc L S := by
  have hw' := oSt_at X i hw
  obtain ⟨hx, hby, -, hown, -, -, -, hZ, -, -, -, locs, Y, -⟩ := X
  subst hp ho
  obtain ⟨s₂, o, hs, r⟩ := K
  exact ⟨s₂, o, Stand.ldc2J Y hx hown (mv hZ hw') rfl (hb hby hd) hs, r⟩
theorem ow_goto (X : oSt Z ω γ κ T h cs ss) (pc' : Nat) {o : Int} (hd : decode κ.1 pc = .ok (.goto o, 3)) (hp : (pc : Int) + o = (pc' : Int))
    (K : oWP ω γ κ Q T pc' L S) : oWP ω γ κ Q T pc L S := by
  obtain ⟨hx, hby, -, -, -, -, -, -, -, -, -, locs, Y, -⟩ := X
  obtain ⟨s₂, o, hs, r⟩ := K
  exact ⟨s₂, o, XS.goto Y.here hx rfl (pc0 := pc) rfl (hb hby hd) (by omega) (by omega) hs, r⟩
theorem ow_if (X : oSt Z ω γ κ T h cs ss) (pc' pq : Nat) {cd : ClassFile.Cond} {x : Int32} {o : Int} (hd : decode κ.1 pc = .ok (.ifCond cd o, 3)) (hp : pc + 3 = pc') (hq : (pc : Int) + o = (pq : Int))
    (Ky : ifCond.holds cd x = true → oWP ω γ κ Q T pq L S) (Kn : ifCond.holds cd x = false → oWP ω γ κ Q T pc' L S) : oWP ω γ κ Q T pc L (.int x :: S) := by
  obtain ⟨hx, hby, -, -, -, -, -, -, -, -, -, locs, Y, -⟩ := X
  subst hp
  cases hc : ifCond.holds cd x
  · obtain ⟨s₂, o, hs, r⟩ := Kn hc
    exact ⟨s₂, o, XS.ifNo Y.here hx rfl (hb hby hd) rfl hc hs, r⟩
  · obtain ⟨s₂, o, hs, r⟩ := Ky hc
    exact ⟨s₂, o, XS.ifYes Y.here hx rfl (pc0 := pc) rfl (hb hby hd) rfl hc (by omega) (by omega) hs, r⟩
theorem ow_icmp (X : oSt Z ω γ κ T h cs ss) (pc' pq : Nat) {cd : ClassFile.Cond} {x y : Int32} {o : Int} (hd : decode κ.1 pc = .ok (.if_icmp cd o, 3)) (hp : pc + 3 = pc') (hq : (pc : Int) + o = (pq : Int))
    (Ky : if_icmp.holds cd x y = true → oWP ω γ κ Q T pq L S) (Kn : if_icmp.holds cd x y = false → oWP ω γ κ Q T pc' L S) : oWP ω γ κ Q T pc L (.int y :: .int x :: S) := by
  obtain ⟨hx, hby, -, -, -, -, -, -, -, -, -, locs, Y, -⟩ := X
  subst hp
  cases hc : if_icmp.holds cd x y
  · obtain ⟨s₂, o, hs, r⟩ := Kn hc
    exact ⟨s₂, o, XS.icmpNo Y.here hx rfl (hb hby hd) rfl hc hs, r⟩
  · obtain ⟨s₂, o, hs, r⟩ := Ky hc
    exact ⟨s₂, o, XS.icmpYes Y.here hx rfl (pc0 := pc) rfl (hb hby hd) rfl hc (by omega) (by omega) hs, r⟩
theorem o0 : (0 : Int32).toInt = 0 := rfl
theorem ow_if_eq (X : oSt Z ω γ κ T h cs ss) (pc' pq : Nat) {x : Int32} {o : Int} (hd : decode κ.1 pc = .ok (.ifCond .eq o, 3)) (hp : pc + 3 = pc') (hq : (pc : Int) + o = (pq : Int))
    (Ky : x.toInt = 0 → oWP ω γ κ Q T pq L S) (Kn : x.toInt ≠ 0 → oWP ω γ κ Q T pc' L S) : oWP ω γ κ Q T pc L (.int x :: S) :=
  ow_if X pc' pq hd hp hq (fun q => Ky (by simp only [ifCond.holds, decide_eq_true_eq, decide_eq_false_iff_not, beq_iff_eq, bne_iff_ne, ne_eq, Int32.lt_iff_toInt_lt, Int32.le_iff_toInt_le, ← Int32.toInt_inj, o0, GT.gt, GE.ge, beq_eq_false_iff_ne, bne_eq_false_iff_eq, Decidable.not_not] at q; omega)) (fun q => Kn (by simp only [ifCond.holds, decide_eq_true_eq, decide_eq_false_iff_not, beq_iff_eq, bne_iff_ne, ne_eq, Int32.lt_iff_toInt_lt, Int32.le_iff_toInt_le, ← Int32.toInt_inj, o0, GT.gt, GE.ge, beq_eq_false_iff_ne, bne_eq_false_iff_eq, Decidable.not_not] at q; omega))
theorem ow_icmp_eq (X : oSt Z ω γ κ T h cs ss) (pc' pq : Nat) {x y : Int32} {o : Int} (hd : decode κ.1 pc = .ok (.if_icmp .eq o, 3)) (hp : pc + 3 = pc') (hq : (pc : Int) + o = (pq : Int))
    (Ky : x.toInt = y.toInt → oWP ω γ κ Q T pq L S) (Kn : x.toInt ≠ y.toInt → oWP ω γ κ Q T pc' L S) : oWP ω γ κ Q T pc L (.int y :: .int x :: S) :=
  ow_icmp X pc' pq hd hp hq (fun q => Ky (by simp only [if_icmp.holds, decide_eq_true_eq, decide_eq_false_iff_not, beq_iff_eq, bne_iff_ne, ne_eq, Int32.lt_iff_toInt_lt, Int32.le_iff_toInt_le, ← Int32.toInt_inj, o0, GT.gt, GE.ge, beq_eq_false_iff_ne, bne_eq_false_iff_eq, Decidable.not_not] at q; omega)) (fun q => Kn (by simp only [if_icmp.holds, decide_eq_true_eq, decide_eq_false_iff_not, beq_iff_eq, bne_iff_ne, ne_eq, Int32.lt_iff_toInt_lt, Int32.le_iff_toInt_le, ← Int32.toInt_inj, o0, GT.gt, GE.ge, beq_eq_false_iff_ne, bne_eq_false_iff_eq, Decidable.not_not] at q; omega))
theorem ow_if_ne (X : oSt Z ω γ κ T h cs ss) (pc' pq : Nat) {x : Int32} {o : Int} (hd : decode κ.1 pc = .ok (.ifCond .ne o, 3)) (hp : pc + 3 = pc') (hq : (pc : Int) + o = (pq : Int))
    (Ky : x.toInt ≠ 0 → oWP ω γ κ Q T pq L S) (Kn : x.toInt = 0 → oWP ω γ κ Q T pc' L S) : oWP ω γ κ Q T pc L (.int x :: S) :=
  ow_if X pc' pq hd hp hq (fun q => Ky (by simp only [ifCond.holds, decide_eq_true_eq, decide_eq_false_iff_not, beq_iff_eq, bne_iff_ne, ne_eq, Int32.lt_iff_toInt_lt, Int32.le_iff_toInt_le, ← Int32.toInt_inj, o0, GT.gt, GE.ge, beq_eq_false_iff_ne, bne_eq_false_iff_eq, Decidable.not_not] at q; omega)) (fun q => Kn (by simp only [ifCond.holds, decide_eq_true_eq, decide_eq_false_iff_not, beq_iff_eq, bne_iff_ne, ne_eq, Int32.lt_iff_toInt_lt, Int32.le_iff_toInt_le, ← Int32.toInt_inj, o0, GT.gt, GE.ge, beq_eq_false_iff_ne, bne_eq_false_iff_eq, Decidable.not_not] at q; omega))
theorem ow_icmp_ne (X : oSt Z ω γ κ T h cs ss) (pc' pq : Nat) {x y : Int32} {o : Int} (hd : decode κ.1 pc = .ok (.if_icmp .ne o, 3)) (hp : pc + 3 = pc') (hq : (pc : Int) + o = (pq : Int))
    (Ky : x.toInt ≠ y.toInt → oWP ω γ κ Q T pq L S) (Kn : x.toInt = y.toInt → oWP ω γ κ Q T pc' L S) : oWP ω γ κ Q T pc L (.int y :: .int x :: S) :=
  ow_icmp X pc' pq hd hp hq (fun q => Ky (by simp only [if_icmp.holds, decide_eq_true_eq, decide_eq_false_iff_not, beq_iff_eq, bne_iff_ne, ne_eq, Int32.lt_iff_toInt_lt, Int32.le_iff_toInt_le, ← Int32.toInt_inj, o0, GT.gt, GE.ge, beq_eq_false_iff_ne, bne_eq_false_iff_eq, Decidable.not_not] at q; omega)) (fun q => Kn (by simp only [if_icmp.holds, decide_eq_true_eq, decide_eq_false_iff_not, beq_iff_eq, bne_iff_ne, ne_eq, Int32.lt_iff_toInt_lt, Int32.le_iff_toInt_le, ← Int32.toInt_inj, o0, GT.gt, GE.ge, beq_eq_false_iff_ne, bne_eq_false_iff_eq, Decidable.not_not] at q; omega))
theorem ow_if_lt (X : oSt Z ω γ κ T h cs ss) (pc' pq : Nat) {x : Int32} {o : Int} (hd : decode κ.1 pc = .ok (.ifCond .lt o, 3)) (hp : pc + 3 = pc') (hq : (pc : Int) + o = (pq : Int))
    (Ky : x.toInt < 0 → oWP ω γ κ Q T pq L S) (Kn : 0 ≤ x.toInt → oWP ω γ κ Q T pc' L S) : oWP ω γ κ Q T pc L (.int x :: S) :=
  ow_if X pc' pq hd hp hq (fun q => Ky (by simp only [ifCond.holds, decide_eq_true_eq, decide_eq_false_iff_not, beq_iff_eq, bne_iff_ne, ne_eq, Int32.lt_iff_toInt_lt, Int32.le_iff_toInt_le, ← Int32.toInt_inj, o0, GT.gt, GE.ge, beq_eq_false_iff_ne, bne_eq_false_iff_eq, Decidable.not_not] at q; omega)) (fun q => Kn (by simp only [ifCond.holds, decide_eq_true_eq, decide_eq_false_iff_not, beq_iff_eq, bne_iff_ne, ne_eq, Int32.lt_iff_toInt_lt, Int32.le_iff_toInt_le, ← Int32.toInt_inj, o0, GT.gt, GE.ge, beq_eq_false_iff_ne, bne_eq_false_iff_eq, Decidable.not_not] at q; omega))
theorem ow_icmp_lt (X : oSt Z ω γ κ T h cs ss) (pc' pq : Nat) {x y : Int32} {o : Int} (hd : decode κ.1 pc = .ok (.if_icmp .lt o, 3)) (hp : pc + 3 = pc') (hq : (pc : Int) + o = (pq : Int))
    (Ky : x.toInt < y.toInt → oWP ω γ κ Q T pq L S) (Kn : y.toInt ≤ x.toInt → oWP ω γ κ Q T pc' L S) : oWP ω γ κ Q T pc L (.int y :: .int x :: S) :=
  ow_icmp X pc' pq hd hp hq (fun q => Ky (by simp only [if_icmp.holds, decide_eq_true_eq, decide_eq_false_iff_not, beq_iff_eq, bne_iff_ne, ne_eq, Int32.lt_iff_toInt_lt, Int32.le_iff_toInt_le, ← Int32.toInt_inj, o0, GT.gt, GE.ge, beq_eq_false_iff_ne, bne_eq_false_iff_eq, Decidable.not_not] at q; omega)) (fun q => Kn (by simp only [if_icmp.holds, decide_eq_true_eq, decide_eq_false_iff_not, beq_iff_eq, bne_iff_ne, ne_eq, Int32.lt_iff_toInt_lt, Int32.le_iff_toInt_le, ← Int32.toInt_inj, o0, GT.gt, GE.ge, beq_eq_false_iff_ne, bne_eq_false_iff_eq, Decidable.not_not] at q; omega))
theorem ow_if_ge (X : oSt Z ω γ κ T h cs ss) (pc' pq : Nat) {x : Int32} {o : Int} (hd : decode κ.1 pc = .ok (.ifCond .ge o, 3)) (hp : pc + 3 = pc') (hq : (pc : Int) + o = (pq : Int))
    (Ky : 0 ≤ x.toInt → oWP ω γ κ Q T pq L S) (Kn : x.toInt < 0 → oWP ω γ κ Q T pc' L S) : oWP ω γ κ Q T pc L (.int x :: S) :=
  ow_if X pc' pq hd hp hq (fun q => Ky (by simp only [ifCond.holds, decide_eq_true_eq, decide_eq_false_iff_not, beq_iff_eq, bne_iff_ne, ne_eq, Int32.lt_iff_toInt_lt, Int32.le_iff_toInt_le, ← Int32.toInt_inj, o0, GT.gt, GE.ge, beq_eq_false_iff_ne, bne_eq_false_iff_eq, Decidable.not_not] at q; omega)) (fun q => Kn (by simp only [ifCond.holds, decide_eq_true_eq, decide_eq_false_iff_not, beq_iff_eq, bne_iff_ne, ne_eq, Int32.lt_iff_toInt_lt, Int32.le_iff_toInt_le, ← Int32.toInt_inj, o0, GT.gt, GE.ge, beq_eq_false_iff_ne, bne_eq_false_iff_eq, Decidable.not_not] at q; omega))
theorem ow_icmp_ge (X : oSt Z ω γ κ T h cs ss) (pc' pq : Nat) {x y : Int32} {o : Int} (hd : decode κ.1 pc = .ok (.if_icmp .ge o, 3)) (hp : pc + 3 = pc') (hq : (pc : Int) + o = (pq : Int))
    (Ky : y.toInt ≤ x.toInt → oWP ω γ κ Q T pq L S) (Kn : x.toInt < y.toInt → oWP ω γ κ Q T pc' L S) : oWP ω γ κ Q T pc L (.int y :: .int x :: S) :=
  ow_icmp X pc' pq hd hp hq (fun q => Ky (by simp only [if_icmp.holds, decide_eq_true_eq, decide_eq_false_iff_not, beq_iff_eq, bne_iff_ne, ne_eq, Int32.lt_iff_toInt_lt, Int32.le_iff_toInt_le, ← Int32.toInt_inj, o0, GT.gt, GE.ge, beq_eq_false_iff_ne, bne_eq_false_iff_eq, Decidable.not_not] at q; omega)) (fun q => Kn (by simp only [if_icmp.holds, decide_eq_true_eq, decide_eq_false_iff_not, beq_iff_eq, bne_iff_ne, ne_eq, Int32.lt_iff_toInt_lt, Int32.le_iff_toInt_le, ← Int32.toInt_inj, o0, GT.gt, GE.ge, beq_eq_false_iff_ne, bne_eq_false_iff_eq, Decidable.not_not] at q; omega))
theorem ow_if_gt (X : oSt Z ω γ κ T h cs ss) (pc' pq : Nat) {x : Int32} {o : Int} (hd : decode κ.1 pc = .ok (.ifCond .gt o, 3)) (hp : pc + 3 = pc') (hq : (pc : Int) + o = (pq : Int))
    (Ky : 0 < x.toInt → oWP ω γ κ Q T pq L S) (Kn : x.toInt ≤ 0 → oWP ω γ κ Q T pc' L S) : oWP ω γ κ Q T pc L (.int x :: S) :=
  ow_if X pc' pq hd hp hq (fun q => Ky (by simp only [ifCond.holds, decide_eq_true_eq, decide_eq_false_iff_not, beq_iff_eq, bne_iff_ne, ne_eq, Int32.lt_iff_toInt_lt, Int32.le_iff_toInt_le, ← Int32.toInt_inj, o0, GT.gt, GE.ge, beq_eq_false_iff_ne, bne_eq_false_iff_eq, Decidable.not_not] at q; omega)) (fun q => Kn (by simp only [ifCond.holds, decide_eq_true_eq, decide_eq_false_iff_not, beq_iff_eq, bne_iff_ne, ne_eq, Int32.lt_iff_toInt_lt, Int32.le_iff_toInt_le, ← Int32.toInt_inj, o0, GT.gt, GE.ge, beq_eq_false_iff_ne, bne_eq_false_iff_eq, Decidable.not_not] at q; omega))
theorem ow_icmp_gt (X : oSt Z ω γ κ T h cs ss) (pc' pq : Nat) {x y : Int32} {o : Int} (hd : decode κ.1 pc = .ok (.if_icmp .gt o, 3)) (hp : pc + 3 = pc') (hq : (pc : Int) + o = (pq : Int))
    (Ky : y.toInt < x.toInt → oWP ω γ κ Q T pq L S) (Kn : x.toInt ≤ y.toInt → oWP ω γ κ Q T pc' L S) : oWP ω γ κ Q T pc L (.int y :: .int x :: S) :=
  ow_icmp X pc' pq hd hp hq (fun q => Ky (by simp only [if_icmp.holds, decide_eq_true_eq, decide_eq_false_iff_not, beq_iff_eq, bne_iff_ne, ne_eq, Int32.lt_iff_toInt_lt, Int32.le_iff_toInt_le, ← Int32.toInt_inj, o0, GT.gt, GE.ge, beq_eq_false_iff_ne, bne_eq_false_iff_eq, Decidable.not_not] at q; omega)) (fun q => Kn (by simp only [if_icmp.holds, decide_eq_true_eq, decide_eq_false_iff_not, beq_iff_eq, bne_iff_ne, ne_eq, Int32.lt_iff_toInt_lt, Int32.le_iff_toInt_le, ← Int32.toInt_inj, o0, GT.gt, GE.ge, beq_eq_false_iff_ne, bne_eq_false_iff_eq, Decidable.not_not] at q; omega))
theorem ow_if_le (X : oSt Z ω γ κ T h cs ss) (pc' pq : Nat) {x : Int32} {o : Int} (hd : decode κ.1 pc = .ok (.ifCond .le o, 3)) (hp : pc + 3 = pc') (hq : (pc : Int) + o = (pq : Int))
    (Ky : x.toInt ≤ 0 → oWP ω γ κ Q T pq L S) (Kn : 0 < x.toInt → oWP ω γ κ Q T pc' L S) : oWP ω γ κ Q T pc L (.int x :: S) :=
  ow_if X pc' pq hd hp hq (fun q => Ky (by simp only [ifCond.holds, decide_eq_true_eq, decide_eq_false_iff_not, beq_iff_eq, bne_iff_ne, ne_eq, Int32.lt_iff_toInt_lt, Int32.le_iff_toInt_le, ← Int32.toInt_inj, o0, GT.gt, GE.ge, beq_eq_false_iff_ne, bne_eq_false_iff_eq, Decidable.not_not] at q; omega)) (fun q => Kn (by simp only [ifCond.holds, decide_eq_true_eq, decide_eq_false_iff_not, beq_iff_eq, bne_iff_ne, ne_eq, Int32.lt_iff_toInt_lt, Int32.le_iff_toInt_le, ← Int32.toInt_inj, o0, GT.gt, GE.ge, beq_eq_false_iff_ne, bne_eq_false_iff_eq, Decidable.not_not] at q; omega))
theorem ow_icmp_le (X : oSt Z ω γ κ T h cs ss) (pc' pq : Nat) {x y : Int32} {o : Int} (hd : decode κ.1 pc = .ok (.if_icmp .le o, 3)) (hp : pc + 3 = pc') (hq : (pc : Int) + o = (pq : Int))
    (Ky : x.toInt ≤ y.toInt → oWP ω γ κ Q T pq L S) (Kn : y.toInt < x.toInt → oWP ω γ κ Q T pc' L S) : oWP ω γ κ Q T pc L (.int y :: .int x :: S) :=
  ow_icmp X pc' pq hd hp hq (fun q => Ky (by simp only [if_icmp.holds, decide_eq_true_eq, decide_eq_false_iff_not, beq_iff_eq, bne_iff_ne, ne_eq, Int32.lt_iff_toInt_lt, Int32.le_iff_toInt_le, ← Int32.toInt_inj, o0, GT.gt, GE.ge, beq_eq_false_iff_ne, bne_eq_false_iff_eq, Decidable.not_not] at q; omega)) (fun q => Kn (by simp only [if_icmp.holds, decide_eq_true_eq, decide_eq_false_iff_not, beq_iff_eq, bne_iff_ne, ne_eq, Int32.lt_iff_toInt_lt, Int32.le_iff_toInt_le, ← Int32.toInt_inj, o0, GT.gt, GE.ge, beq_eq_false_iff_ne, bne_eq_false_iff_eq, Decidable.not_not] at q; omega))
theorem ow_lcmp (X : oSt Z ω γ κ T h cs ss) (pc' : Nat) {x y : Int64} (hd : decode κ.1 pc = .ok (.lcmp, 1)) (hp : pc + 1 = pc')
    (K : oWP ω γ κ Q T pc' L (.int (lcmpW x y) :: S)) : oWP ω γ κ Q T pc L (.long y :: .long x :: S) := by
  obtain ⟨hx, hby, -, -, -, -, -, -, -, -, -, locs, Y, -⟩ := X
  subst hp
  obtain ⟨s₂, o, hs, r⟩ := K
  exact ⟨s₂, o, XS.lcmp Y.here hx rfl (hb hby hd) rfl hs, r⟩
theorem ow_lcmp_eq (X : oSt Z ω γ κ T h cs ss) (pc1 pc' pq : Nat) {x y : Int64} {o : Int} (hd : decode κ.1 pc = .ok (.lcmp, 1)) (hp1 : pc + 1 = pc1) (hd' : decode κ.1 pc1 = .ok (.ifCond .eq o, 3)) (hp : pc1 + 3 = pc') (hq : (pc1 : Int) + o = (pq : Int))
    (Ky : x.toInt = y.toInt → oWP ω γ κ Q T pq L S) (Kn : x.toInt ≠ y.toInt → oWP ω γ κ Q T pc' L S) : oWP ω γ κ Q T pc L (.long y :: .long x :: S) := by
  refine ow_lcmp X pc1 hd hp1 (ow_if_eq X pc' pq hd' hp hq (fun q => Ky ?_) (fun q => Kn ?_))
  · obtain ⟨c1, c2, c3⟩ := c_lcmp x y
    rcases Int.lt_trichotomy x.toInt y.toInt with a | a | a
    · have := c1 a; omega
    · have := c2 a; omega
    · have := c3 a; omega
  · obtain ⟨c1, c2, c3⟩ := c_lcmp x y
    rcases Int.lt_trichotomy x.toInt y.toInt with a | a | a
    · have := c1 a; omega
    · have := c2 a; omega
    · have := c3 a; omega
theorem ow_lcmp_ne (X : oSt Z ω γ κ T h cs ss) (pc1 pc' pq : Nat) {x y : Int64} {o : Int} (hd : decode κ.1 pc = .ok (.lcmp, 1)) (hp1 : pc + 1 = pc1) (hd' : decode κ.1 pc1 = .ok (.ifCond .ne o, 3)) (hp : pc1 + 3 = pc') (hq : (pc1 : Int) + o = (pq : Int))
    (Ky : x.toInt ≠ y.toInt → oWP ω γ κ Q T pq L S) (Kn : x.toInt = y.toInt → oWP ω γ κ Q T pc' L S) : oWP ω γ κ Q T pc L (.long y :: .long x :: S) := by
  refine ow_lcmp X pc1 hd hp1 (ow_if_ne X pc' pq hd' hp hq (fun q => Ky ?_) (fun q => Kn ?_))
  · obtain ⟨c1, c2, c3⟩ := c_lcmp x y
    rcases Int.lt_trichotomy x.toInt y.toInt with a | a | a
    · have := c1 a; omega
    · have := c2 a; omega
    · have := c3 a; omega
  · obtain ⟨c1, c2, c3⟩ := c_lcmp x y
    rcases Int.lt_trichotomy x.toInt y.toInt with a | a | a
    · have := c1 a; omega
    · have := c2 a; omega
    · have := c3 a; omega
theorem ow_lcmp_lt (X : oSt Z ω γ κ T h cs ss) (pc1 pc' pq : Nat) {x y : Int64} {o : Int} (hd : decode κ.1 pc = .ok (.lcmp, 1)) (hp1 : pc + 1 = pc1) (hd' : decode κ.1 pc1 = .ok (.ifCond .lt o, 3)) (hp : pc1 + 3 = pc') (hq : (pc1 : Int) + o = (pq : Int))
    (Ky : x.toInt < y.toInt → oWP ω γ κ Q T pq L S) (Kn : y.toInt ≤ x.toInt → oWP ω γ κ Q T pc' L S) : oWP ω γ κ Q T pc L (.long y :: .long x :: S) := by
  refine ow_lcmp X pc1 hd hp1 (ow_if_lt X pc' pq hd' hp hq (fun q => Ky ?_) (fun q => Kn ?_))
  · obtain ⟨c1, c2, c3⟩ := c_lcmp x y
    rcases Int.lt_trichotomy x.toInt y.toInt with a | a | a
    · have := c1 a; omega
    · have := c2 a; omega
    · have := c3 a; omega
  · obtain ⟨c1, c2, c3⟩ := c_lcmp x y
    rcases Int.lt_trichotomy x.toInt y.toInt with a | a | a
    · have := c1 a; omega
    · have := c2 a; omega
    · have := c3 a; omega
theorem ow_lcmp_ge (X : oSt Z ω γ κ T h cs ss) (pc1 pc' pq : Nat) {x y : Int64} {o : Int} (hd : decode κ.1 pc = .ok (.lcmp, 1)) (hp1 : pc + 1 = pc1) (hd' : decode κ.1 pc1 = .ok (.ifCond .ge o, 3)) (hp : pc1 + 3 = pc') (hq : (pc1 : Int) + o = (pq : Int))
    (Ky : y.toInt ≤ x.toInt → oWP ω γ κ Q T pq L S) (Kn : x.toInt < y.toInt → oWP ω γ κ Q T pc' L S) : oWP ω γ κ Q T pc L (.long y :: .long x :: S) := by
  refine ow_lcmp X pc1 hd hp1 (ow_if_ge X pc' pq hd' hp hq (fun q => Ky ?_) (fun q => Kn ?_))
  · obtain ⟨c1, c2, c3⟩ := c_lcmp x y
    rcases Int.lt_trichotomy x.toInt y.toInt with a | a | a
    · have := c1 a; omega
    · have := c2 a; omega
    · have := c3 a; omega
  · obtain ⟨c1, c2, c3⟩ := c_lcmp x y
    rcases Int.lt_trichotomy x.toInt y.toInt with a | a | a
    · have := c1 a; omega
    · have := c2 a; omega
    · have := c3 a; omega
theorem ow_lcmp_gt (X : oSt Z ω γ κ T h cs ss) (pc1 pc' pq : Nat) {x y : Int64} {o : Int} (hd : decode κ.1 pc = .ok (.lcmp, 1)) (hp1 : pc + 1 = pc1) (hd' : decode κ.1 pc1 = .ok (.ifCond .gt o, 3)) (hp : pc1 + 3 = pc') (hq : (pc1 : Int) + o = (pq : Int))
    (Ky : y.toInt < x.toInt → oWP ω γ κ Q T pq L S) (Kn : x.toInt ≤ y.toInt → oWP ω γ κ Q T pc' L S) : oWP ω γ κ Q T pc L (.long y :: .long x :: S) := by
  refine ow_lcmp X pc1 hd hp1 (ow_if_gt X pc' pq hd' hp hq (fun q => Ky ?_) (fun q => Kn ?_))
  · obtain ⟨c1, c2, c3⟩ := c_lcmp x y
    rcases Int.lt_trichotomy x.toInt y.toInt with a | a | a
    · have := c1 a; omega
    · have := c2 a; omega
    · have := c3 a; omega
  · obtain ⟨c1, c2, c3⟩ := c_lcmp x y
    rcases Int.lt_trichotomy x.toInt y.toInt with a | a | a
    · have := c1 a; omega
    · have := c2 a; omega
    · have := c3 a; omega
theorem ow_lcmp_le (X : oSt Z ω γ κ T h cs ss) (pc1 pc' pq : Nat) {x y : Int64} {o : Int} (hd : decode κ.1 pc = .ok (.lcmp, 1)) (hp1 : pc + 1 = pc1) (hd' : decode κ.1 pc1 = .ok (.ifCond .le o, 3)) (hp : pc1 + 3 = pc') (hq : (pc1 : Int) + o = (pq : Int))
    (Ky : x.toInt ≤ y.toInt → oWP ω γ κ Q T pq L S) (Kn : y.toInt < x.toInt → oWP ω γ κ Q T pc' L S) : oWP ω γ κ Q T pc L (.long y :: .long x :: S) := by
  refine ow_lcmp X pc1 hd hp1 (ow_if_le X pc' pq hd' hp hq (fun q => Ky ?_) (fun q => Kn ?_))
  · obtain ⟨c1, c2, c3⟩ := c_lcmp x y
    rcases Int.lt_trichotomy x.toInt y.toInt with a | a | a
    · have := c1 a; omega
    · have := c2 a; omega
    · have := c3 a; omega
  · obtain ⟨c1, c2, c3⟩ := c_lcmp x y
    rcases Int.lt_trichotomy x.toInt y.toInt with a | a | a
    · have := c1 a; omega
    · have := c2 a; omega
    · have := c3 a; omega
theorem ow_ifnull (X : oSt Z ω γ κ T h cs ss) (pc' pq : Nat) {v : Value} {o : Int} (hv : v.isRef = true) (hd : decode κ.1 pc = .ok (.ifnull o, 3)) (hp : pc + 3 = pc') (hq : (pc : Int) + o = (pq : Int))
    (Ky : v = .null → oWP ω γ κ Q T pq L S) (Kn : v ≠ .null → oWP ω γ κ Q T pc' L S) : oWP ω γ κ Q T pc L (v :: S) := by
  obtain ⟨hx, hby, -, -, -, -, -, -, -, -, -, locs, Y, -⟩ := X
  subst hp
  rcases ref_cases hv with rfl | ⟨a, rfl⟩
  · obtain ⟨s₂, o, hs, r⟩ := Ky rfl
    exact ⟨s₂, o, XS.ifnullYes Y.here hx rfl (pc0 := pc) rfl (hb hby hd) rfl (by omega) (by omega) hs, r⟩
  · obtain ⟨s₂, o, hs, r⟩ := Kn (by simp)
    exact ⟨s₂, o, XS.ifnullNo Y.here hx rfl (hb hby hd) rfl hs, r⟩
theorem ow_ifnonnull (X : oSt Z ω γ κ T h cs ss) (pc' pq : Nat) {v : Value} {o : Int} (hv : v.isRef = true) (hd : decode κ.1 pc = .ok (.ifnonnull o, 3)) (hp : pc + 3 = pc') (hq : (pc : Int) + o = (pq : Int))
    (Ky : v ≠ .null → oWP ω γ κ Q T pq L S) (Kn : v = .null → oWP ω γ κ Q T pc' L S) : oWP ω γ κ Q T pc L (v :: S) := by
  obtain ⟨hx, hby, -, -, -, -, -, -, -, -, -, locs, Y, -⟩ := X
  subst hp
  rcases ref_cases hv with rfl | ⟨a, rfl⟩
  · obtain ⟨s₂, o, hs, r⟩ := Kn rfl
    exact ⟨s₂, o, XS.ifnonnullNo Y.here hx rfl (hb hby hd) rfl hs, r⟩
  · obtain ⟨s₂, o, hs, r⟩ := Ky (by simp)
    exact ⟨s₂, o, XS.ifnonnullYes Y.here hx rfl (pc0 := pc) rfl (hb hby hd) rfl (by omega) (by omega) hs, r⟩
theorem ow_acmp_eq (X : oSt Z ω γ κ T h cs ss) (pc' pq : Nat) {v w : Value} {o : Int} (hv : v.isRef = true) (hw : w.isRef = true) (hd : decode κ.1 pc = .ok (.if_acmp .eq o, 3)) (hp : pc + 3 = pc') (hq : (pc : Int) + o = (pq : Int))
    (Ky : v = w → oWP ω γ κ Q T pq L S) (Kn : v ≠ w → oWP ω γ κ Q T pc' L S) : oWP ω γ κ Q T pc L (w :: v :: S) := by
  obtain ⟨hx, hby, -, -, -, -, -, -, -, -, -, locs, Y, -⟩ := X
  subst hp
  by_cases e : v = w
  · obtain ⟨s₂, o, hs, r⟩ := Ky e
    exact ⟨s₂, o, RoadKit.acmp Y hx rfl hv hw (pc0 := pc) rfl (hb hby hd) rfl (same := true) (by simp [e]) (by omega) (by simp [acV]; omega) hs, r⟩
  · obtain ⟨s₂, o, hs, r⟩ := Kn e
    exact ⟨s₂, o, RoadKit.acmp Y hx rfl hv hw (pc0 := pc) rfl (hb hby hd) rfl (same := false) (by simp [e]) (by omega) (by simp [acV]) hs, r⟩
theorem ow_acmp_ne (X : oSt Z ω γ κ T h cs ss) (pc' pq : Nat) {v w : Value} {o : Int} (hv : v.isRef = true) (hw : w.isRef = true) (hd : decode κ.1 pc = .ok (.if_acmp .ne o, 3)) (hp : pc + 3 = pc') (hq : (pc : Int) + o = (pq : Int))
    (Ky : v ≠ w → oWP ω γ κ Q T pq L S) (Kn : v = w → oWP ω γ κ Q T pc' L S) : oWP ω γ κ Q T pc L (w :: v :: S) := by
  obtain ⟨hx, hby, -, -, -, -, -, -, -, -, -, locs, Y, -⟩ := X
  subst hp
  by_cases e : v = w
  · obtain ⟨s₂, o, hs, r⟩ := Kn e
    exact ⟨s₂, o, RoadKit.acmp Y hx rfl hv hw (pc0 := pc) rfl (hb hby hd) rfl (same := true) (by simp [e]) (by omega) (by simp [acV]) hs, r⟩
  · obtain ⟨s₂, o, hs, r⟩ := Ky e
    exact ⟨s₂, o, RoadKit.acmp Y hx rfl hv hw (pc0 := pc) rfl (hb hby hd) rfl (same := false) (by simp [e]) (by omega) (by simp [acV]; omega) hs, r⟩
theorem ow_ret (X : oSt Z ω γ κ T h cs ss) {w : Value} {t : FieldType} {i : Instr} (hret : κ.2.2.2.2.1 = some t) (hn : narrow t w = w)
    (hi : (i = .ireturn ∧ (t = .int ∨ t = .boolean ∨ t = .byte ∨ t = .char ∨ t = .short) ∧ ∃ z, w = .int z) ∨ (i = .lreturn ∧ t = .long ∧ ∃ z, w = .long z) ∨ (i = .dreturn ∧ t = .double ∧ ∃ z, w = .double z) ∨ (i = .freturn ∧ t = .float ∧ ∃ z, w = .float z) ∨ (i = .areturn ∧ t.isReference = true ∧ w.isRef = true))
    (hd : decode κ.1 pc = .ok (i, 1)) (hc : cs ≤ κ.2.2.2.2.2.cells) (hsl : ss ≤ κ.2.2.2.2.2.slots) (hQ : Q (some w) h) : oWP ω γ κ Q T pc L (w :: S) := by
  obtain ⟨hx, hby, -, -, -, hr, hlk, -, -, -, hT, locs, Y, N⟩ := X
  obtain ⟨fs, hl, hrun, hended, hW, hsame⟩ := Y.leave (v := some w) (fun q => by rw [hr, hret] at q; cases q) hlk
  refine ⟨_, _, retOut Y hx (hr.trans hret) hn hi (hb hby hd) hl, hrun, hended, _, locs, rfl, ⟨N, ?_⟩, ⟨_, rfl⟩, hW, hsame.mono hc hsl⟩
  show Q (some w) T.heap
  rw [hT]; exact hQ
theorem ow_retI (X : oSt Z ω γ κ T h cs ss) {z : Int32} (hret : κ.2.2.2.2.1 = some .int) (hd : decode κ.1 pc = .ok (.ireturn, 1)) (hc : cs ≤ κ.2.2.2.2.2.cells) (hsl : ss ≤ κ.2.2.2.2.2.slots) (hQ : Q (some (.int z)) h) : oWP ω γ κ Q T pc L (.int z :: S) :=
  ow_ret X hret rfl (Or.inl ⟨rfl, Or.inl rfl, z, rfl⟩) hd hc hsl hQ
theorem ow_retZ (X : oSt Z ω γ κ T h cs ss) {z : Int32} (hret : κ.2.2.2.2.1 = some .boolean) (hd : decode κ.1 pc = .ok (.ireturn, 1)) (hc : cs ≤ κ.2.2.2.2.2.cells) (hsl : ss ≤ κ.2.2.2.2.2.slots) (hz : z = 0 ∨ z = 1) (hQ : Q (some (.int z)) h) : oWP ω γ κ Q T pc L (.int z :: S) :=
  ow_ret X hret (by rcases hz with rfl | rfl <;> rfl) (Or.inl ⟨rfl, Or.inr (Or.inl rfl), z, rfl⟩) hd hc hsl hQ
theorem ow_retC (X : oSt Z ω γ κ T h cs ss) {z : Int32} (hret : κ.2.2.2.2.1 = some .char) (hd : decode κ.1 pc = .ok (.ireturn, 1)) (hc : cs ≤ κ.2.2.2.2.2.cells) (hsl : ss ≤ κ.2.2.2.2.2.slots) (hz : z.toUInt32.toUInt16.toUInt32.toInt32 = z) (hQ : Q (some (.int z)) h) : oWP ω γ κ Q T pc L (.int z :: S) :=
  ow_ret X hret (by show Value.int z.toUInt32.toUInt16.toUInt32.toInt32 = _; rw [hz]) (Or.inl ⟨rfl, Or.inr (Or.inr (Or.inr (Or.inl rfl))), z, rfl⟩) hd hc hsl hQ
theorem ow_retJ (X : oSt Z ω γ κ T h cs ss) {z : Int64} (hret : κ.2.2.2.2.1 = some .long) (hd : decode κ.1 pc = .ok (.lreturn, 1)) (hc : cs ≤ κ.2.2.2.2.2.cells) (hsl : ss ≤ κ.2.2.2.2.2.slots) (hQ : Q (some (.long z)) h) : oWP ω γ κ Q T pc L (.long z :: S) :=
  ow_ret X hret rfl (Or.inr (Or.inl ⟨rfl, rfl, z, rfl⟩)) hd hc hsl hQ
theorem ow_retA (X : oSt Z ω γ κ T h cs ss) {v : Value} {t : FieldType} (hret : κ.2.2.2.2.1 = some t) (ht : t.isReference = true) (hv : v.isRef = true) (hd : decode κ.1 pc = .ok (.areturn, 1)) (hc : cs ≤ κ.2.2.2.2.2.cells) (hsl : ss ≤ κ.2.2.2.2.2.slots) (hQ : Q (some v) h) : oWP ω γ κ Q T pc L (v :: S) :=
  ow_ret X hret (by cases t <;> first | rfl | cases ht) (Or.inr (Or.inr (Or.inr (Or.inr ⟨rfl, ht, hv⟩)))) hd hc hsl hQ
theorem ow_retV (X : oSt Z ω γ κ T h cs ss) (hret : κ.2.2.2.2.1 = none) (hd : decode κ.1 pc = .ok (.return_, 1)) (hc : cs ≤ κ.2.2.2.2.2.cells) (hsl : ss ≤ κ.2.2.2.2.2.slots) (hQ : Q none h) : oWP ω γ κ Q T pc L [] := by
  obtain ⟨hx, hby, -, -, -, hr, hlk, -, -, -, hT, locs, Y, N⟩ := X
  obtain ⟨fs, hl, hrun, hended, hW, hsame⟩ := Y.leave (v := none) (fun _ => rfl) hlk
  refine ⟨_, _, Y.returnOut hx (hr.trans hret) (hb hby hd) hl, hrun, hended, _, locs, rfl, ⟨N, ?_⟩, ⟨_, rfl⟩, hW, hsame.mono hc hsl⟩
  show Q none T.heap
  rw [hT]; exact hQ
theorem ow_getF (X : oSt Z ω γ κ T h cs ss) (pc' i : Nat) {own O n d : String} {idx : Nat} {a : Addr} {v : Value} (hw : tables_1[i]? = some (.fieldLink own idx O n d)) (ho : κ.2.2.1 = own) (F : Fld Z h a O n d v) (hd : decode κ.1 pc = .ok (.getfield idx, 3)) (hp : pc + 3 = pc')
    (K : ∀ T', oSt Z ω γ κ T' h cs ss → oWP ω γ κ Q T' pc' L (v :: S)) : oWP ω γ κ Q T pc L (.ref a :: S) := by
  have hw' := oSt_at X i hw
  obtain ⟨hx, hby, hml, hown, hnm, hr, hlk, hZ, hT1, hn0, hT, locs, Y, N⟩ := X
  subst hp ho
  obtain ⟨T', Y', e', st⟩ := getF Y hx hZ hown (host := "") (Or.inl hw') Via.refl hT F (g := mkF γ.2.2.2.1 pc L (.ref a :: S)) rfl rfl (hb hby hd)
  obtain ⟨s₂, o, hs, r⟩ := K T' ⟨hx, hby, hml, hown, hnm, hr, hlk, hZ, hT1, hn0, e', locs, Y', N⟩
  exact ⟨s₂, o, st _ hs, r⟩
theorem ow_getS (X : oSt Z ω γ κ T h cs ss) (pc' i : Nat) {own O n d : String} {idx : Nat} {v : Value} (hw : tables_1[i]? = some (.fieldLink own idx O n d)) (ho : κ.2.2.1 = own) (F : Sta Z h O n d v) (hd : decode κ.1 pc = .ok (.getstatic idx, 3)) (hp : pc + 3 = pc')
    (K : ∀ T', oSt Z ω γ κ T' h cs ss → oWP ω γ κ Q T' pc' L (v :: S)) : oWP ω γ κ Q T pc L S := by
  have hw' := oSt_at X i hw
  obtain ⟨hx, hby, hml, hown, hnm, hr, hlk, hZ, hT1, hn0, hT, locs, Y, N⟩ := X
  subst hp ho
  obtain ⟨T', Y', e', st⟩ := getS Y hx hZ hown hw' Via.refl hT F (g := mkF γ.2.2.2.1 pc L S) rfl (hb hby hd) (host := "")
  obtain ⟨s₂, o, hs, r⟩ := K T' ⟨hx, hby, hml, hown, hnm, hr, hlk, hZ, hT1, hn0, e', locs, Y', N⟩
  exact ⟨s₂, o, st _ hs, r⟩
theorem ow_cast (X : oSt Z ω γ κ T h cs ss) (pc' i : Nat) {own K : String} {idx : Nat} {a : Addr} (hw : tables_1[i]? = some (.classLink own idx K)) (ho : κ.2.2.1 = own) (F : Ins Z h a K true) (hd : decode κ.1 pc = .ok (.checkcast idx, 3)) (hp : pc + 3 = pc')
    (K' : ∀ T', oSt Z ω γ κ T' h cs ss → oWP ω γ κ Q T' pc' L (.ref a :: S)) : oWP ω γ κ Q T pc L (.ref a :: S) := by
  have hw' := oSt_at X i hw
  obtain ⟨hx, hby, hml, hown, hnm, hr, hlk, hZ, hT1, hn0, hT, locs, Y, N⟩ := X
  subst hp ho
  obtain ⟨T', Y', e', st⟩ := castY Y hx hZ hown hw' hT F (g := mkF γ.2.2.2.1 pc L (.ref a :: S)) rfl rfl (hb hby hd)
  obtain ⟨s₂, o, hs, r⟩ := K' T' ⟨hx, hby, hml, hown, hnm, hr, hlk, hZ, hT1, hn0, e', locs, Y', N⟩
  exact ⟨s₂, o, st _ hs, r⟩
theorem ow_putF (X : oSt Z ω γ κ T h cs ss) (pc' i k : Nat) {own O n d C : String} {idx kk : Nat} {a : Addr} {v old : Value} {ty : FieldType} (hw : tables_1[i]? = some (.fieldLink own idx O n d)) (ho : κ.2.2.1 = own) (F : Fld Z h a O n d old) (E : Exa Z h a C)
    (hl : (Jvm.Cond.lays C O n d).before ω.2.2 Z = true ∨ ((Jvm.Cond.laysFinal C O n d).before ω.2.2 Z = true ∧ κ.2.2.1 = O ∧ κ.2.2.2.1 = "<init>")) (hi : tables_1[k]? = some (.instantiable C kk)) (hty : parseFieldDescriptor d = some ty) (hn : narrow ty v = v) (hf : fits ty v = true) (ha : ω.2.1 ≤ a)
    (hd : decode κ.1 pc = .ok (.putfield idx, 3)) (hp : pc + 3 = pc')
    (K : ∀ T' h', oSt Z ω γ κ T' h' cs ss → Wr h h' a (RoadKit.slotOf Z O n d) v → oWP ω γ κ Q T' pc' L S) : oWP ω γ κ Q T pc L (v :: .ref a :: S) := by
  have hw' := oSt_at X i hw
  have hi' := oSt_at X k hi
  obtain ⟨hx, hby, hml, hown, hnm, hr, hlk, hZ, hT1, hn0, hT, locs, Y, N⟩ := X
  subst hp ho
  obtain ⟨T', h', Y', e', W, st⟩ := putF Y hx hZ hown (host := "") (Or.inl hw') Via.refl hT F E (hl.imp id fun q => ⟨q.1, q.2.1, hnm.trans q.2.2⟩) hi' hty hn hf (g := mkF γ.2.2.2.1 pc L (v :: .ref a :: S)) rfl rfl (hb hby hd)
  obtain ⟨s₂, o, hs, r⟩ := K T' h' ⟨hx, hby, hml, hown, hnm, hr, hlk, hZ, hT1, hn0, e', _, Y', Fr.snoc Y' N ha⟩ W
  exact ⟨s₂, o, st _ hs, r⟩
theorem ow_new (X : oSt Z ω γ κ T h cs ss) (pc' i1 i2 i3 : Nat) {own C : String} {idx n : Nat} (w1 : tables_1[i1]? = some (.classLink own idx C)) (ho : κ.2.2.1 = own) (w2 : tables_1[i2]? = some (.instantiable C n)) (w3 : tables_1[i3]? = some (.initialized C))
    (hd : decode κ.1 pc = .ok (.new idx, 3)) (hp : pc + 3 = pc') (hc : cs + 1 ≤ κ.2.2.2.2.2.cells) (hsl : ss + n ≤ κ.2.2.2.2.2.slots)
    (K : ∀ T' h' a, a = h.size → oSt Z ω γ κ T' h' (cs + 1) (ss + n) → Ext h h' → Exa Z h' a C → (∀ {O nm d : String} {ty : FieldType}, Laid Z ω.2.2 C O nm d → parseFieldDescriptor d = some ty → Fld Z h' a O nm d (defaultValue ty)) → ω.2.1 ≤ a → oWP ω γ κ Q T' pc' L (.ref a :: S)) : oWP ω γ κ Q T pc L S := by
  have w1' := oSt_at X i1 w1
  have w2' := oSt_at X i2 w2
  have w3' := oSt_at X i3 w3
  have hN := oSt_n0 X
  obtain ⟨hx, hby, hml, hown, hnm, hr, hlk, hZ, hT1, hn0, hT, locs, Y, N⟩ := X
  subst hp ho
  obtain ⟨T', h', Y', e', E, A, D, -, st⟩ := newO Y hx hZ hown w1' w2' w3' hT (g := mkF γ.2.2.2.1 pc L S) rfl (hb hby hd) hc hsl
  obtain ⟨s₂, o, hs, r⟩ := K T' h' h.size rfl ⟨hx, hby, hml, hown, hnm, hr, hlk, hZ, hT1, hn0, e', _, Y', N⟩ E A D hN
  exact ⟨s₂, o, st _ hs, r⟩
theorem ow_initO (X : oSt Z ω γ κ T h cs ss) (pc' i1 i2 i3 : Nat) {own : String} {idx : Nat} {a : Addr} (w1 : tables_1[i1]? = some (.methodLink own idx Lib.objectInit)) (ho : κ.2.2.1 = own) (w2 : tables_1[i2]? = some (.instanceMethod Lib.objectInit)) (w3 : tables_1[i3]? = some (.code Lib.objectInit ⟨#[0xb1]⟩ 1 none))
    (hd : decode κ.1 pc = .ok (.invokespecial idx, 3)) (hp : pc + 3 = pc') (hL : L.size = κ.2.1) (hf : 1 ≤ κ.2.2.2.2.2.frames) {W : Nat} (hW : (S.map fun v => v.category).sum ≤ W) (hl : W + 12 ≤ κ.2.2.2.2.2.locals)
    (K : ∀ T', oSt Z ω γ κ T' h cs ss → oWP ω γ κ Q T' pc' L S) : oWP ω γ κ Q T pc L (.ref a :: S) := by
  have w1' := oSt_at X i1 w1
  have w2' := oSt_at X i2 w2
  have w3' := oSt_at X i3 w3
  obtain ⟨hx, hby, hml, hown, hnm, hr, hlk, hZ, hT1, hn0, hT, locs, Y, N⟩ := X
  subst hp ho
  obtain ⟨T', Y', e', st⟩ := initO Y hx hZ hown w1' w2' w3' hT (g := mkF γ.2.2.2.1 pc L (.ref a :: S)) rfl (by rw [hml]; exact hL) rfl (hb hby hd) hf (W := W) (by show 2 * 0 + _ ≤ _; omega) hl
  obtain ⟨s₂, o, hs, r⟩ := K T' ⟨hx, hby, hml, hown, hnm, hr, hlk, hZ, hT1, hn0, e', _, Y', N⟩
  exact ⟨s₂, o, st _ hs, r⟩
theorem ow_callS (X : oSt Z ω γ κ T h cs ss) (pc' i1 i2 i3 i4 : Nat) {own : String} {idx : Nat} {y : MethodName} {κ' : OM} {Q' : Option Value → Heap → Prop} {as : List Value} {ps : List FieldType} {rt : Option FieldType} {W : Nat} {S0 : List Value}
    (w1 : tables_1[i1]? = some (.methodLink own idx y)) (ho : κ.2.2.1 = own) (w2 : tables_1[i2]? = some (.static y)) (w3 : tables_1[i3]? = some (.initialized y.cls)) (w4 : tables_1[i4]? = some (.code y κ'.1 κ'.2.1 κ'.2.2.2.2.1)) (hy : y.cls ≠ "java/lang/invoke/MethodHandle" ∧ y.cls ≠ "java/lang/invoke/VarHandle")
    (C : oC Z ω y κ' [] as.toArray h Q') (hf : κ'.2.2.2.2.2.frames + 1 ≤ κ.2.2.2.2.2.frames) (hl : W + (κ'.2.1 + 11) + κ'.2.2.2.2.2.locals ≤ κ.2.2.2.2.2.locals) (hW : (S.map fun v => v.category).sum ≤ W) (hc : cs + κ'.2.2.2.2.2.cells ≤ κ.2.2.2.2.2.cells) (hs : ss + κ'.2.2.2.2.2.slots ≤ κ.2.2.2.2.2.slots)
    (hpd : parseMethodDescriptor y.desc = some ⟨ps, rt⟩) (hlen : as.length = ps.length) (hS : S0 = as.reverse ++ S) (hL : L.size = κ.2.1) (hd : decode κ.1 pc = .ok (.invokestatic idx, 3)) (hp : pc + 3 = pc')
    (K : ∀ v T' h', oSt Z ω γ κ T' h' (cs + κ'.2.2.2.2.2.cells) (ss + κ'.2.2.2.2.2.slots) → Q' v h' → oWP ω γ κ Q T' pc' L (v.toList ++ S)) : oWP ω γ κ Q T pc L S0 := by
  have w1' := oSt_at X i1 w1
  have w2' := oSt_at X i2 w2
  have w3' := oSt_at X i3 w3
  have w4' := oSt_at X i4 w4
  obtain ⟨hx, hby, hml, hown, hnm, hr, hlk, hZ, hT1, hn0, hT, locs, Y, N⟩ := X
  subst hp ho hS
  obtain ⟨v, vm₁, ⟨T', L', k', n'⟩, -, Y', ⟨Lc, ⟨hF, hQ⟩, q1, q2, q3⟩, st⟩ := Jvm.LawKit.callS Y hx (y := y) hown (mvT hZ w1') (mvT hZ w2') (mvT hZ w3') (mvT hZ w4') hy (backOf (W := W) (Q := fun v hh Lc => Fr ω.2.1 Lc ∧ Q' v hh) (bytes := κ'.1) (maxL := κ'.2.1) (ret := κ'.2.2.2.2.1) (rm := κ'.2.2.2.2.2) C hZ w4' w3' hf hl) (g := mkF γ.2.2.2.1 pc L (as.reverse ++ S)) rfl (by rw [hml]; exact hL) (argsL := as) (rest := S) (lenOf hpd hlen) rfl (by show 2 * 0 + _ ≤ _; omega) (hb hby hd) (fun _ _ => ⟨rfl, hT, hc, hs⟩)
  dsimp only [Pt.U, Pt.locs, Pt.cells, Pt.slots] at Y' q1 q2 q3 st hQ
  subst q1 q2 q3
  obtain ⟨s₂, o, hs, r⟩ := K v T' T'.heap ⟨hx, hby, hml, hown, hnm, hr, hlk, hZ, hT1, hn0, rfl, _, Y', N.app hF⟩ hQ
  exact ⟨s₂, o, st _ hs, r⟩
theorem ow_callC (X : oSt Z ω γ κ T h cs ss) (pc' i1 i2 i3 i4 : Nat) {own : String} {idx : Nat} {y : MethodName} {κ' : OM} {Q' : Option Value → Heap → Prop} {a : Addr} {as : List Value} {ps : List FieldType} {rt : Option FieldType} {W : Nat} {S0 : List Value}
    (hy1 : y.name = "<init>") (w1 : tables_1[i1]? = some (.methodLink own idx y)) (ho : κ.2.2.1 = own) (w2 : tables_1[i2]? = some (.instanceMethod y)) (w3 : tables_1[i3]? = some (.initialized y.cls)) (w4 : tables_1[i4]? = some (.code y κ'.1 κ'.2.1 κ'.2.2.2.2.1)) (hr0 : κ'.2.2.2.2.1 = none) (hy : y.cls ≠ "java/lang/invoke/MethodHandle" ∧ y.cls ≠ "java/lang/invoke/VarHandle")
    (C : oC Z ω y κ' [] (.ref a :: as).toArray h Q') (hf : κ'.2.2.2.2.2.frames + 1 ≤ κ.2.2.2.2.2.frames) (hl : W + (κ'.2.1 + 11) + κ'.2.2.2.2.2.locals ≤ κ.2.2.2.2.2.locals) (hW : (S.map fun v => v.category).sum ≤ W) (hc : cs + κ'.2.2.2.2.2.cells ≤ κ.2.2.2.2.2.cells) (hs : ss + κ'.2.2.2.2.2.slots ≤ κ.2.2.2.2.2.slots)
    (hpd : parseMethodDescriptor y.desc = some ⟨ps, rt⟩) (hlen : as.length = ps.length) (hS : S0 = as.reverse ++ .ref a :: S) (hL : L.size = κ.2.1) (hd : decode κ.1 pc = .ok (.invokespecial idx, 3)) (hp : pc + 3 = pc')
    (K : ∀ v T' h', oSt Z ω γ κ T' h' (cs + κ'.2.2.2.2.2.cells) (ss + κ'.2.2.2.2.2.slots) → Q' v h' → oWP ω γ κ Q T' pc' L (v.toList ++ S)) : oWP ω γ κ Q T pc L S0 := by
  have w1' := oSt_at X i1 w1
  have w2' := oSt_at X i2 w2
  have w3' := oSt_at X i3 w3
  have w4' := oSt_at X i4 w4
  obtain ⟨hx, hby, hml, hown, hnm, hr, hlk, hZ, hT1, hn0, hT, locs, Y, N⟩ := X
  subst hp ho hS
  obtain ⟨v, vm₁, ⟨T', L', k', n'⟩, -, Y', ⟨Lc, ⟨hF, hQ⟩, q1, q2, q3⟩, st⟩ := Y.specialBack hx (y := y) hy1 hown (mvT hZ w1') (mvT hZ w2') (mvT hZ (hr0 ▸ w4')) hy (backOf (W := W) (Q := fun v hh Lc => Fr ω.2.1 Lc ∧ Q' v hh) (bytes := κ'.1) (maxL := κ'.2.1) (ret := κ'.2.2.2.2.1) (rm := κ'.2.2.2.2.2) C hZ w4' w3' hf hl) (g := mkF γ.2.2.2.1 pc L (as.reverse ++ .ref a :: S)) rfl (by rw [hml]; exact hL) (Steps.refl _) (a := a) (argsL := as) (rest := S) (lenOf hpd hlen) rfl (by show 2 * 0 + _ ≤ _; omega) (hb hby hd) (fun _ _ => ⟨rfl, hT, hc, hs⟩)
  dsimp only [Pt.U, Pt.locs, Pt.cells, Pt.slots] at Y' q1 q2 q3 st hQ
  subst q1 q2 q3
  obtain ⟨s₂, o, hs, r⟩ := K v T' T'.heap ⟨hx, hby, hml, hown, hnm, hr, hlk, hZ, hT1, hn0, rfl, _, Y', N.app hF⟩ hQ
  exact ⟨s₂, o, st.trans hs, r⟩
theorem ow_callV (X : oSt Z ω γ κ T h cs ss) (pc' i1 i2 i3 i4 i5 i6 : Nat) {own C0 : String} {idx : Nat} {y : MethodName} {κ' : OM} {Q' : Option Value → Heap → Prop} {a : Addr} {as : List Value} {ps : List FieldType} {rt : Option FieldType} {W : Nat} {S0 : List Value}
    (w1 : tables_1[i1]? = some (.methodLink own idx y)) (ho : κ.2.2.1 = own) (w2 : tables_1[i2]? = some (.declares y)) (w3 : tables_1[i3]? = some (.selects C0 y y)) (w4 : tables_1[i4]? = some (.instanceMethod y)) (w5 : tables_1[i5]? = some (.code y κ'.1 κ'.2.1 κ'.2.2.2.2.1)) (w6 : tables_1[i6]? = some (.initialized y.cls)) (hy : y.cls ≠ "java/lang/invoke/MethodHandle" ∧ y.cls ≠ "java/lang/invoke/VarHandle")
    (E : Exa Z h a C0) (C : oC Z ω y κ' [] (.ref a :: as).toArray h Q') (hf : κ'.2.2.2.2.2.frames + 1 ≤ κ.2.2.2.2.2.frames) (hl : W + (κ'.2.1 + 11) + κ'.2.2.2.2.2.locals ≤ κ.2.2.2.2.2.locals) (hW : (S.map fun v => v.category).sum ≤ W) (hc : cs + κ'.2.2.2.2.2.cells ≤ κ.2.2.2.2.2.cells) (hs : ss + κ'.2.2.2.2.2.slots ≤ κ.2.2.2.2.2.slots)
    (hpd : parseMethodDescriptor y.desc = some ⟨ps, rt⟩) (hlen : as.length = ps.length) (hS : S0 = as.reverse ++ .ref a :: S) (hL : L.size = κ.2.1) (hd : decode κ.1 pc = .ok (.invokevirtual idx, 3)) (hp : pc + 3 = pc')
    (K : ∀ v T' h', oSt Z ω γ κ T' h' (cs + κ'.2.2.2.2.2.cells) (ss + κ'.2.2.2.2.2.slots) → Q' v h' → oWP ω γ κ Q T' pc' L (v.toList ++ S)) : oWP ω γ κ Q T pc L S0 := by
  have w1' := oSt_at X i1 w1
  have w2' := oSt_at X i2 w2
  have w3' := oSt_at X i3 w3
  have w4' := oSt_at X i4 w4
  have w5' := oSt_at X i5 w5
  have w6' := oSt_at X i6 w6
  obtain ⟨hx, hby, hml, hown, hnm, hr, hlk, hZ, hT1, hn0, hT, locs, Y, N⟩ := X
  subst hp ho hS
  obtain ⟨cq, kq, qa, qb, qc⟩ := isOf hZ hT E
  obtain ⟨v, vm₁, ⟨T', L', k', n'⟩, -, Y', ⟨Lc, ⟨hF, hQ⟩, q1, q2, q3⟩, st⟩ := Y.virtualBack hx (y := y) (z := y) hown (mvT hZ w1') (mvT hZ w2') (notFace_of_selects (args := #[]) (mvT hZ w3')) (mvT hZ w3') (mvT hZ w4') hy (backOf (W := W) (Q := fun v hh Lc => Fr ω.2.1 Lc ∧ Q' v hh) (bytes := κ'.1) (maxL := κ'.2.1) (ret := κ'.2.2.2.2.1) (rm := κ'.2.2.2.2.2) C hZ w5' w6' hf hl) qa qc (g := mkF γ.2.2.2.1 pc L (as.reverse ++ .ref a :: S)) rfl (by rw [hml]; exact hL) (Steps.refl _) (argsL := as) (rest := S) (lenOf hpd hlen) rfl (by show 2 * 0 + _ ≤ _; omega) (hb hby hd) (fun _ _ => ⟨rfl, hT, hc, hs⟩)
  dsimp only [Pt.U, Pt.locs, Pt.cells, Pt.slots] at Y' q1 q2 q3 st hQ
  subst q1 q2 q3
  obtain ⟨s₂, o, hs, r⟩ := K v T' T'.heap ⟨hx, hby, hml, hown, hnm, hr, hlk, hZ, hT1, hn0, rfl, _, Y', N.app hF⟩ hQ
  exact ⟨s₂, o, st.trans hs, r⟩
theorem ow_callP (X : oSt Z ω γ κ T h cs ss) (pc' i1 i2 i3 i4 i5 i6 : Nat) {own C0 : String} {idx nn : Nat} {y : MethodName} {κ' : OM} {Q' : Option Value → Heap → Prop} {a : Addr} {as : List Value} {ps : List FieldType} {rt : Option FieldType} {W : Nat} {S0 : List Value}
    (w1 : tables_1[i1]? = some (.methodLink own idx y)) (ho : κ.2.2.1 = own) (w2 : tables_1[i2]? = some (.instanceMethod y)) (w3 : tables_1[i3]? = some (.privateMethod y)) (w4 : tables_1[i4]? = some (.initialized y.cls)) (w5 : tables_1[i5]? = some (.code y κ'.1 κ'.2.1 κ'.2.2.2.2.1)) (w6 : tables_1[i6]? = some (.instantiable y.cls nn)) (hy : y.cls ≠ "java/lang/invoke/MethodHandle" ∧ y.cls ≠ "java/lang/invoke/VarHandle")
    (E : Exa Z h a C0) (C : oC Z ω y κ' [] (.ref a :: as).toArray h Q') (hf : κ'.2.2.2.2.2.frames + 1 ≤ κ.2.2.2.2.2.frames) (hl : W + (κ'.2.1 + 11) + κ'.2.2.2.2.2.locals ≤ κ.2.2.2.2.2.locals) (hW : (S.map fun v => v.category).sum ≤ W) (hc : cs + κ'.2.2.2.2.2.cells ≤ κ.2.2.2.2.2.cells) (hs : ss + κ'.2.2.2.2.2.slots ≤ κ.2.2.2.2.2.slots)
    (hpd : parseMethodDescriptor y.desc = some ⟨ps, rt⟩) (hlen : as.length = ps.length) (hS : S0 = as.reverse ++ .ref a :: S) (hL : L.size = κ.2.1) (hd : decode κ.1 pc = .ok (.invokevirtual idx, 3)) (hp : pc + 3 = pc')
    (K : ∀ v T' h', oSt Z ω γ κ T' h' (cs + κ'.2.2.2.2.2.cells) (ss + κ'.2.2.2.2.2.slots) → Q' v h' → oWP ω γ κ Q T' pc' L (v.toList ++ S)) : oWP ω γ κ Q T pc L S0 := by
  have w1' := oSt_at X i1 w1
  have w2' := oSt_at X i2 w2
  have w3' := oSt_at X i3 w3
  have w4' := oSt_at X i4 w4
  have w5' := oSt_at X i5 w5
  have w6' := oSt_at X i6 w6
  obtain ⟨hx, hby, hml, hown, hnm, hr, hlk, hZ, hT1, hn0, hT, locs, Y, N⟩ := X
  subst hp ho hS
  obtain ⟨cq, q1, q2⟩ := E.cell
  obtain ⟨ck, kk, i1, i2, -, i4, -⟩ := Cond.instantiable_spec (mvT (args := #[]) hZ w6')
  have hni : kk.isInterface = false := (Bool.or_eq_false_iff.mp i4).1
  have hpr := Cond.privateMethod_at (mvP (args := #[]) hZ w3')
  obtain ⟨v, vm₁, ⟨T', L', k', n'⟩, -, Y', ⟨Lc, ⟨hF, hQ⟩, q1, q2, q3⟩, st⟩ := Y.privateBack hx (y := y) hown (mvT hZ w1') (mvT hZ w2') (selects_self_of_private i1 i2 hni hpr (mvT hZ w2') hy) hpr (mvT hZ w5') hy (backOf (W := W) (Q := fun v hh Lc => Fr ω.2.1 Lc ∧ Q' v hh) (bytes := κ'.1) (maxL := κ'.2.1) (ret := κ'.2.2.2.2.1) (rm := κ'.2.2.2.2.2) C hZ w5' w4' hf hl) (g := mkF γ.2.2.2.1 pc L (as.reverse ++ .ref a :: S)) rfl (by rw [hml]; exact hL) (Steps.refl _) (a := a) (by rw [hT]; exact q1) q2 (argsL := as) (rest := S) (lenOf hpd hlen) rfl (by show 2 * 0 + _ ≤ _; omega) (hb hby hd) (fun _ _ => ⟨rfl, hT, hc, hs⟩)
  dsimp only [Pt.U, Pt.locs, Pt.cells, Pt.slots] at Y' q1 q2 q3 st hQ
  subst q1 q2 q3
  obtain ⟨s₂, o, hs, r⟩ := K v T' T'.heap ⟨hx, hby, hml, hown, hnm, hr, hlk, hZ, hT1, hn0, rfl, _, Y', N.app hF⟩ hQ
  exact ⟨s₂, o, st.trans hs, r⟩
end Walk
/-- an array: its component type, its length, what it holds -/
def oA (Z : State) (h : Heap) (a : Addr) (ty : FieldType) (n : Nat) (f : Nat → Value) : Prop := ∃ c : Cell, Arr Z h a c ty ∧ c.slots.size = n ∧ n < 2147483648 ∧ ∀ i, i < n → c.slots[i]? = some (f i)
section Arrays
variable {Z : State} {h h' : Heap} {a b : Addr} {ty : FieldType} {n sl : Nat} {f g : Nat → Value} {v : Value} {ws : List Addr}
theorem oA.lt (A : oA Z h a ty n f) : a < h.size := by obtain ⟨c, A, -⟩ := A; exact A.lt
theorem oA.small (A : oA Z h a ty n f) : n < 2147483648 := by obtain ⟨c, -, -, q, -⟩ := A; exact q
theorem oA.ext (A : oA Z h a ty n f) (E : Ext h h') : oA Z h' a ty n f := by obtain ⟨c, A, r⟩ := A; exact ⟨c, A.ext E, r⟩
theorem oA.other (A : oA Z h b ty n f) (W : Wr h h' a sl v) (q : b ≠ a) : oA Z h' b ty n f := by obtain ⟨c, A, r⟩ := A; exact ⟨c, A.other W q, r⟩
theorem oA.keep (A : oA Z h a ty n f) (K : Keep h h' ws) (q : a ∉ ws) : oA Z h' a ty n f := by obtain ⟨c, A, r⟩ := A; exact ⟨c, ⟨K.2.1 a c A.1 q, A.2⟩, r⟩
theorem oA.congr (A : oA Z h a ty n f) (q : ∀ i, i < n → f i = g i) : oA Z h a ty n g := by obtain ⟨c, A, r1, r2, r3⟩ := A; exact ⟨c, A, r1, r2, fun i hi => by rw [← q i hi]; exact r3 i hi⟩
theorem oA.set (A : oA Z h a ty n f) (W : Wr h h' a sl v) : oA Z h' a ty n (fun i => if i = sl then v else f i) := by
  obtain ⟨c, A, r1, r2, r3⟩ := A
  have hlt : sl < n := by
    obtain ⟨c', h1, -, h3, -⟩ := W
    cases A.1.symm.trans h1
    omega
  refine ⟨c.setSlot sl v, A.same W, (sz_set _ _ _).trans r1, r2, fun i hi => ?_⟩
  by_cases e : i = sl
  · subst e; simp [Cell.setSlot, r1, hlt]
  · simp only [e, if_false]
    rw [← r3 i hi]
    exact Array.getElem?_setIfInBounds_ne (Ne.symm e)
/-- one place changed -/
def oUpd {α : Type} (g : Nat → α) (k : Nat) (v : α) : Nat → α := fun i => if i = k then v else g i
theorem oUpd_hit {α : Type} (g : Nat → α) (k : Nat) (v : α) : oUpd g k v k = v := if_pos rfl
theorem oUpd_miss {α : Type} (g : Nat → α) {k i : Nat} (v : α) (q : i ≠ k) : oUpd g k v i = g i := if_neg q
def oZI : Nat → Int32 := fun _ => 0
def oZJ : Nat → Int64 := fun _ => 0
theorem oA.setI {g : Nat → Int32} {x : Int32} (A : oA Z h a ty n (fun i => .int (g i))) (W : Wr h h' a sl (.int x)) : oA Z h' a ty n (fun i => .int (oUpd g sl x i)) :=
  (A.set W).congr fun i _ => by unfold oUpd; split <;> rfl
theorem oA.setJ {g : Nat → Int64} {x : Int64} (A : oA Z h a ty n (fun i => .long (g i))) (W : Wr h h' a sl (.long x)) : oA Z h' a ty n (fun i => .long (oUpd g sl x i)) :=
  (A.set W).congr fun i _ => by unfold oUpd; split <;> rfl
theorem oNd {l : List Addr} (h : l.Nodup) (i j : Nat) (hij : i ≠ j) {a b : Addr} (ha : l[i]? = some a) (hb : l[j]? = some b) : a ≠ b := by
  intro e; subst e
  obtain ⟨h1, h2⟩ := List.getElem?_eq_some_iff.mp ha
  obtain ⟨h3, h4⟩ := List.getElem?_eq_some_iff.mp hb
  have q := List.pairwise_iff_getElem.mp h
  rcases Nat.lt_or_gt_of_ne hij with r | r
  · exact q i j h1 h3 r (h2.trans h4.symm)
  · exact q j i h3 h1 r (h4.trans h2.symm)
theorem oA.new {cA : ClassId} {k : Int32} (A : Arr Z h a (newA cA ty k) ty) (q : 0 ≤ k.toInt) : oA Z h a ty k.toInt.toNat (fun _ => defaultValue ty) := by
  have e : k.toNatClampNeg = k.toInt.toNat := rfl
  have := k.toInt_lt
  refine ⟨_, A, (sz_new _ _ _).trans e, by omega, fun i hi => ?_⟩
  have : i < k.toNatClampNeg := by rw [e]; exact hi
  simp [newA, this]
theorem oInb {j : Int32} {c : Cell} (r1 : c.slots.size = n) (q : 0 ≤ j.toInt) (q' : j.toInt < n) : ¬ (j < 0 ∨ c.slots.size ≤ j.toNatClampNeg) := by
  have e : j.toNatClampNeg = j.toInt.toNat := rfl
  rw [Int32.lt_iff_toInt_lt, r1, e, o0]; omega
end Arrays
section Walk2
variable {Z : State} {ω : OW} {γ : OG} {κ : OM} {Q : Option Value → Heap → Prop} {T : State} {h : Heap} {cs ss : Nat} {pc : Nat} {L : Array Slot} {S : List Value}
theorem ow_alen (X : oSt Z ω γ κ T h cs ss) (pc' : Nat) {a : Addr} {ty : FieldType} {n : Nat} {f : Nat → Value} {v : Int32} (A : oA Z h a ty n f) (hd : decode κ.1 pc = .ok (.arraylength, 1)) (hp : pc + 1 = pc') (hv : v.toInt = n)
    (K : oWP ω γ κ Q T pc' L (.int v :: S)) : oWP ω γ κ Q T pc L (.ref a :: S) := by
  obtain ⟨hx, hby, -, -, -, -, -, hZ, -, -, hT, locs, Y, -⟩ := X
  obtain ⟨c, A, r1, r2, -⟩ := A
  subst hp
  obtain ⟨s₂, o, hs, r⟩ := K
  have e : c.slots.size.toInt32 = v := Int32.toInt_inj.mp (by rw [hv, len_toInt (by omega), r1])
  exact ⟨s₂, o, Y.arraylength hx (by rw [hT]; exact A.1) (State.isArrayOf_alike hZ.alike A.2.1) (g := mkF γ.2.2.2.1 pc L (.ref a :: S)) rfl rfl (hb hby hd) _ (by rw [e]; exact hs), r⟩
theorem ow_iaload (X : oSt Z ω γ κ T h cs ss) (pc' : Nat) {a : Addr} {n : Nat} {f : Nat → Value} {j : Int32} {v : Value} (A : oA Z h a .int n f) (hd : decode κ.1 pc = .ok (.iaload, 1)) (hp : pc + 1 = pc') (h0 : 0 ≤ j.toInt) (h1 : j.toInt < n) (hv : f j.toInt.toNat = v)
    (K : oWP ω γ κ Q T pc' L (v :: S)) : oWP ω γ κ Q T pc L (.int j :: .ref a :: S) := by
  obtain ⟨hx, hby, -, -, -, -, -, hZ, -, -, hT, locs, Y, -⟩ := X
  obtain ⟨c, A, r1, r2, r3⟩ := A
  subst hp hv
  obtain ⟨s₂, o, hs, r⟩ := K
  exact ⟨s₂, o, Y.iaload hx (by rw [hT]; exact A.1) (State.isArrayOf_alike hZ.alike A.2.1) A.2.2 (oInb r1 h0 h1) (r3 _ (by show j.toInt.toNat < _; omega)) (g := mkF γ.2.2.2.1 pc L (.int j :: .ref a :: S)) rfl rfl (hb hby hd) _ hs, r⟩
theorem ow_laload (X : oSt Z ω γ κ T h cs ss) (pc' : Nat) {a : Addr} {n : Nat} {f : Nat → Value} {j : Int32} {v : Value} (A : oA Z h a .long n f) (hd : decode κ.1 pc = .ok (.laload, 1)) (hp : pc + 1 = pc') (h0 : 0 ≤ j.toInt) (h1 : j.toInt < n) (hv : f j.toInt.toNat = v)
    (K : oWP ω γ κ Q T pc' L (v :: S)) : oWP ω γ κ Q T pc L (.int j :: .ref a :: S) := by
  obtain ⟨hx, hby, -, -, -, -, -, hZ, -, -, hT, locs, Y, -⟩ := X
  obtain ⟨c, A, r1, r2, r3⟩ := A
  subst hp hv
  obtain ⟨s₂, o, hs, r⟩ := K
  exact ⟨s₂, o, Y.laload hx (by rw [hT]; exact A.1) (State.isArrayOf_alike hZ.alike A.2.1) A.2.2 (oInb r1 h0 h1) (r3 _ (by show j.toInt.toNat < _; omega)) (g := mkF γ.2.2.2.1 pc L (.int j :: .ref a :: S)) rfl rfl (hb hby hd) _ hs, r⟩
theorem ow_caload (X : oSt Z ω γ κ T h cs ss) (pc' : Nat) {a : Addr} {n : Nat} {f : Nat → Value} {j : Int32} {v : Value} (A : oA Z h a .char n f) (hd : decode κ.1 pc = .ok (.caload, 1)) (hp : pc + 1 = pc') (h0 : 0 ≤ j.toInt) (h1 : j.toInt < n) (hv : f j.toInt.toNat = v)
    (K : oWP ω γ κ Q T pc' L (v :: S)) : oWP ω γ κ Q T pc L (.int j :: .ref a :: S) := by
  obtain ⟨hx, hby, -, -, -, -, -, hZ, -, -, hT, locs, Y, -⟩ := X
  obtain ⟨c, A, r1, r2, r3⟩ := A
  subst hp hv
  obtain ⟨s₂, o, hs, r⟩ := K
  exact ⟨s₂, o, Y.caload hx (by rw [hT]; exact A.1) (State.isArrayOf_alike hZ.alike A.2.1) A.2.2 (oInb r1 h0 h1) (r3 _ (by show j.toInt.toNat < _; omega)) (g := mkF γ.2.2.2.1 pc L (.int j :: .ref a :: S)) rfl rfl (hb hby hd) _ hs, r⟩
theorem ow_baload (X : oSt Z ω γ κ T h cs ss) (pc' : Nat) {a : Addr} {n : Nat} {f : Nat → Value} {j : Int32} {v : Value} (A : oA Z h a .byte n f) (hd : decode κ.1 pc = .ok (.baload, 1)) (hp : pc + 1 = pc') (h0 : 0 ≤ j.toInt) (h1 : j.toInt < n) (hv : f j.toInt.toNat = v)
    (K : oWP ω γ κ Q T pc' L (v :: S)) : oWP ω γ κ Q T pc L (.int j :: .ref a :: S) := by
  obtain ⟨hx, hby, -, -, -, -, -, hZ, -, -, hT, locs, Y, -⟩ := X
  obtain ⟨c, A, r1, r2, r3⟩ := A
  subst hp hv
  obtain ⟨s₂, o, hs, r⟩ := K
  exact ⟨s₂, o, Y.baloadBytes hx (by rw [hT]; exact A.1) (State.isArrayOf_alike hZ.alike A.2.1) A.2.2 (oInb r1 h0 h1) (r3 _ (by show j.toInt.toNat < _; omega)) (g := mkF γ.2.2.2.1 pc L (.int j :: .ref a :: S)) rfl rfl (hb hby hd) _ hs, r⟩
theorem ow_baloadZ (X : oSt Z ω γ κ T h cs ss) (pc' : Nat) {a : Addr} {n : Nat} {f : Nat → Value} {j : Int32} {v : Value} (A : oA Z h a .boolean n f) (hd : decode κ.1 pc = .ok (.baload, 1)) (hp : pc + 1 = pc') (h0 : 0 ≤ j.toInt) (h1 : j.toInt < n) (hv : f j.toInt.toNat = v)
    (K : oWP ω γ κ Q T pc' L (v :: S)) : oWP ω γ κ Q T pc L (.int j :: .ref a :: S) := by
  obtain ⟨hx, hby, -, -, -, -, -, hZ, -, -, hT, locs, Y, -⟩ := X
  obtain ⟨c, A, r1, r2, r3⟩ := A
  subst hp hv
  obtain ⟨s₂, o, hs, r⟩ := K
  exact ⟨s₂, o, Y.baloadBooleans hx (by rw [hT]; exact A.1) (State.isArrayOf_alike hZ.alike A.2.1) A.2.2 (oInb r1 h0 h1) (r3 _ (by show j.toInt.toNat < _; omega)) (g := mkF γ.2.2.2.1 pc L (.int j :: .ref a :: S)) rfl rfl (hb hby hd) _ hs, r⟩
theorem ow_aaload (X : oSt Z ω γ κ T h cs ss) (pc' : Nat) {a : Addr} {ty : FieldType} {n : Nat} {f : Nat → Value} {j : Int32} {v : Value} (A : oA Z h a ty n f) (ht : ty.isReference = true) (hd : decode κ.1 pc = .ok (.aaload, 1)) (hp : pc + 1 = pc') (h0 : 0 ≤ j.toInt) (h1 : j.toInt < n) (hv : f j.toInt.toNat = v)
    (K : oWP ω γ κ Q T pc' L (v :: S)) : oWP ω γ κ Q T pc L (.int j :: .ref a :: S) := by
  obtain ⟨hx, hby, -, -, -, -, -, hZ, -, -, hT, locs, Y, -⟩ := X
  obtain ⟨c, A, r1, r2, r3⟩ := A
  subst hp hv
  obtain ⟨s₂, o, hs, r⟩ := K
  exact ⟨s₂, o, Y.aaload hx (by rw [hT]; exact A.1) (State.isArrayOf_alike hZ.alike A.2.1) ht A.2.2 (oInb r1 h0 h1) (r3 _ (by show j.toInt.toNat < _; omega)) (g := mkF γ.2.2.2.1 pc L (.int j :: .ref a :: S)) rfl rfl (hb hby hd) _ hs, r⟩
theorem ow_iastore (X : oSt Z ω γ κ T h cs ss) (pc' : Nat) {a : Addr} {n : Nat} {f : Nat → Value} {j : Int32} {x : Int32} (A : oA Z h a .int n f) (ha : ω.2.1 ≤ a) (hd : decode κ.1 pc = .ok (.iastore, 1)) (hp : pc + 1 = pc') (h0 : 0 ≤ j.toInt) (h1 : j.toInt < n)
    (K : ∀ T' h', oSt Z ω γ κ T' h' cs ss → Wr h h' a j.toInt.toNat (.int x) → oWP ω γ κ Q T' pc' L S) : oWP ω γ κ Q T pc L (.int x :: .int j :: .ref a :: S) := by
  obtain ⟨hx, hby, hml, hown, hnm, hr, hlk, hZ, hT1, hn0, hT, locs, Y, N⟩ := X
  obtain ⟨c, A, r1, r2, r3⟩ := A
  subst hp
  obtain ⟨T', h', Y', e', W, st⟩ := stI Y hx hZ hT A (oInb r1 h0 h1) (g := mkF γ.2.2.2.1 pc L (.int x :: .int j :: .ref a :: S)) rfl rfl (hb hby hd)
  obtain ⟨s₂, o, hs, r⟩ := K T' h' ⟨hx, hby, hml, hown, hnm, hr, hlk, hZ, hT1, hn0, e', _, Y', Fr.snoc Y' N ha⟩ W
  exact ⟨s₂, o, st _ hs, r⟩
theorem ow_lastore (X : oSt Z ω γ κ T h cs ss) (pc' : Nat) {a : Addr} {n : Nat} {f : Nat → Value} {j : Int32} {x : Int64} (A : oA Z h a .long n f) (ha : ω.2.1 ≤ a) (hd : decode κ.1 pc = .ok (.lastore, 1)) (hp : pc + 1 = pc') (h0 : 0 ≤ j.toInt) (h1 : j.toInt < n)
    (K : ∀ T' h', oSt Z ω γ κ T' h' cs ss → Wr h h' a j.toInt.toNat (.long x) → oWP ω γ κ Q T' pc' L S) : oWP ω γ κ Q T pc L (.long x :: .int j :: .ref a :: S) := by
  obtain ⟨hx, hby, hml, hown, hnm, hr, hlk, hZ, hT1, hn0, hT, locs, Y, N⟩ := X
  obtain ⟨c, A, r1, r2, r3⟩ := A
  subst hp
  obtain ⟨T', h', Y', e', W, st⟩ := stJ Y hx hZ hT A (oInb r1 h0 h1) (g := mkF γ.2.2.2.1 pc L (.long x :: .int j :: .ref a :: S)) rfl rfl (hb hby hd)
  obtain ⟨s₂, o, hs, r⟩ := K T' h' ⟨hx, hby, hml, hown, hnm, hr, hlk, hZ, hT1, hn0, e', _, Y', Fr.snoc Y' N ha⟩ W
  exact ⟨s₂, o, st _ hs, r⟩
theorem ow_castore (X : oSt Z ω γ κ T h cs ss) (pc' : Nat) {a : Addr} {n : Nat} {f : Nat → Value} {j : Int32} {x : Int32} (A : oA Z h a .char n f) (ha : ω.2.1 ≤ a) (hd : decode κ.1 pc = .ok (.castore, 1)) (hp : pc + 1 = pc') (h0 : 0 ≤ j.toInt) (h1 : j.toInt < n)
    (K : ∀ T' h', oSt Z ω γ κ T' h' cs ss → Wr h h' a j.toInt.toNat (.int (nar .char x)) → oWP ω γ κ Q T' pc' L S) : oWP ω γ κ Q T pc L (.int x :: .int j :: .ref a :: S) := by
  obtain ⟨hx, hby, hml, hown, hnm, hr, hlk, hZ, hT1, hn0, hT, locs, Y, N⟩ := X
  obtain ⟨c, A, r1, r2, r3⟩ := A
  subst hp
  obtain ⟨T', h', Y', e', W, st⟩ := stC Y hx hZ hT A (oInb r1 h0 h1) (g := mkF γ.2.2.2.1 pc L (.int x :: .int j :: .ref a :: S)) rfl rfl (hb hby hd)
  obtain ⟨s₂, o, hs, r⟩ := K T' h' ⟨hx, hby, hml, hown, hnm, hr, hlk, hZ, hT1, hn0, e', _, Y', Fr.snoc Y' N ha⟩ W
  exact ⟨s₂, o, st _ hs, r⟩
theorem ow_bastore (X : oSt Z ω γ κ T h cs ss) (pc' : Nat) {a : Addr} {n : Nat} {f : Nat → Value} {j : Int32} {x : Int32} (A : oA Z h a .byte n f) (ha : ω.2.1 ≤ a) (hd : decode κ.1 pc = .ok (.bastore, 1)) (hp : pc + 1 = pc') (h0 : 0 ≤ j.toInt) (h1 : j.toInt < n)
    (K : ∀ T' h', oSt Z ω γ κ T' h' cs ss → Wr h h' a j.toInt.toNat (.int x.toInt8.toInt32) → oWP ω γ κ Q T' pc' L S) : oWP ω γ κ Q T pc L (.int x :: .int j :: .ref a :: S) := by
  obtain ⟨hx, hby, hml, hown, hnm, hr, hlk, hZ, hT1, hn0, hT, locs, Y, N⟩ := X
  obtain ⟨c, A, r1, r2, r3⟩ := A
  subst hp
  obtain ⟨T', h', Y', e', W, st⟩ := stB Y hx hZ hT A (oInb r1 h0 h1) (g := mkF γ.2.2.2.1 pc L (.int x :: .int j :: .ref a :: S)) rfl rfl (hb hby hd)
  obtain ⟨s₂, o, hs, r⟩ := K T' h' ⟨hx, hby, hml, hown, hnm, hr, hlk, hZ, hT1, hn0, e', _, Y', Fr.snoc Y' N ha⟩ W
  exact ⟨s₂, o, st _ hs, r⟩
theorem ow_bastoreZ (X : oSt Z ω γ κ T h cs ss) (pc' : Nat) {a : Addr} {n : Nat} {f : Nat → Value} {j : Int32} {x : Int32} (A : oA Z h a .boolean n f) (ha : ω.2.1 ≤ a) (hd : decode κ.1 pc = .ok (.bastore, 1)) (hp : pc + 1 = pc') (h0 : 0 ≤ j.toInt) (h1 : j.toInt < n)
    (K : ∀ T' h', oSt Z ω γ κ T' h' cs ss → Wr h h' a j.toInt.toNat (.int (nar .boolean x)) → oWP ω γ κ Q T' pc' L S) : oWP ω γ κ Q T pc L (.int x :: .int j :: .ref a :: S) := by
  obtain ⟨hx, hby, hml, hown, hnm, hr, hlk, hZ, hT1, hn0, hT, locs, Y, N⟩ := X
  obtain ⟨c, A, r1, r2, r3⟩ := A
  subst hp
  obtain ⟨T', h', Y', e', W, st⟩ := stZ Y hx hZ hT A (oInb r1 h0 h1) (g := mkF γ.2.2.2.1 pc L (.int x :: .int j :: .ref a :: S)) rfl rfl (hb hby hd)
  obtain ⟨s₂, o, hs, r⟩ := K T' h' ⟨hx, hby, hml, hown, hnm, hr, hlk, hZ, hT1, hn0, e', _, Y', Fr.snoc Y' N ha⟩ W
  exact ⟨s₂, o, st _ hs, r⟩
theorem ow_aastore (X : oSt Z ω γ κ T h cs ss) (pc' : Nat) {a : Addr} {ty : FieldType} {n : Nat} {f : Nat → Value} {j : Int32} {v : Value} (A : oA Z h a ty n f) (ht : ty.isReference = true) (F : Sto Z h a v) (ha : ω.2.1 ≤ a) (hd : decode κ.1 pc = .ok (.aastore, 1)) (hp : pc + 1 = pc') (h0 : 0 ≤ j.toInt) (h1 : j.toInt < n)
    (K : ∀ T' h', oSt Z ω γ κ T' h' cs ss → Wr h h' a j.toInt.toNat v → oWP ω γ κ Q T' pc' L S) : oWP ω γ κ Q T pc L (v :: .int j :: .ref a :: S) := by
  obtain ⟨hx, hby, hml, hown, hnm, hr, hlk, hZ, hT1, hn0, hT, locs, Y, N⟩ := X
  obtain ⟨c, A, r1, r2, r3⟩ := A
  subst hp
  obtain ⟨T', h', Y', e', W, st⟩ := stR Y hx hZ hT A (oInb r1 h0 h1) ht F (g := mkF γ.2.2.2.1 pc L (v :: .int j :: .ref a :: S)) rfl rfl (hb hby hd)
  obtain ⟨s₂, o, hs, r⟩ := K T' h' ⟨hx, hby, hml, hown, hnm, hr, hlk, hZ, hT1, hn0, e', _, Y', Fr.snoc Y' N ha⟩ W
  exact ⟨s₂, o, st _ hs, r⟩
theorem ow_newP (X : oSt Z ω γ κ T h cs ss) (pc' i : Nat) {aty : ArrayType} {k : Int32} {cap : Nat} (hw : tables_1[i]? = some (.arrayClass (newarray.typeOf aty))) (hd : decode κ.1 pc = .ok (.newarray aty, 2)) (hp : pc + 2 = pc') (h0 : 0 ≤ k.toInt) (h1 : k.toInt ≤ cap) (hb1 : cap * 8 ≤ 536870912) (hc : cs + 1 ≤ κ.2.2.2.2.2.cells) (hsl : ss + cap ≤ κ.2.2.2.2.2.slots)
    (K : ∀ T' h' a, a = h.size → oSt Z ω γ κ T' h' (cs + 1) (ss + cap) → Ext h h' → oA Z h' a (newarray.typeOf aty) k.toInt.toNat (fun _ => defaultValue (newarray.typeOf aty)) → ω.2.1 ≤ a → oWP ω γ κ Q T' pc' L (.ref a :: S)) : oWP ω γ κ Q T pc L (.int k :: S) := by
  have hw' := oSt_at X i hw
  have hN := oSt_n0 X
  obtain ⟨hx, hby, hml, hown, hnm, hr, hlk, hZ, hT1, hn0, hT, locs, Y, N⟩ := X
  subst hp
  have hk : ¬ k < 0 := by rw [Int32.lt_iff_toInt_lt, o0]; omega
  have hk' : k.toNatClampNeg ≤ cap := by show k.toInt.toNat ≤ cap; omega
  obtain ⟨T', h', cA, Y', e', E, A, st⟩ := newP Y hx hZ hw' hT (g := mkF γ.2.2.2.1 pc L (.int k :: S)) rfl (hb hby hd) rfl hk hk' hb1 hc hsl
  obtain ⟨s₂, o, hs, r⟩ := K T' h' h.size rfl ⟨hx, hby, hml, hown, hnm, hr, hlk, hZ, hT1, hn0, e', _, Y', N⟩ E (oA.new A h0) hN
  exact ⟨s₂, o, st _ hs, r⟩
/-- a new array's class takes objects of C -/
def oOv (Z : State) (h : Heap) (a : Addr) (C : String) : Prop := ∃ (c : Cell) (ty : FieldType), Arr Z h a c ty ∧ Ovr Z c.cls C
theorem oOv.ext {h' : Heap} {a : Addr} {C : String} (O : oOv Z h a C) (E : Ext h h') : oOv Z h' a C := by obtain ⟨c, ty, A, O⟩ := O; exact ⟨c, ty, A.ext E, O⟩
theorem oOv.wr {h' : Heap} {a b : Addr} {C : String} {sl : Nat} {v : Value} (O : oOv Z h a C) (W : Wr h h' b sl v) : oOv Z h' a C := by
  obtain ⟨c, ty, A, O⟩ := O
  by_cases e : a = b
  · subst e; exact ⟨_, ty, A.same W, O⟩
  · exact ⟨c, ty, A.other W e, O⟩
theorem oOv.keep {h' : Heap} {a : Addr} {C : String} {ws : List Addr} (O : oOv Z h a C) (K : Keep h h' ws) (q : a ∉ ws) : oOv Z h' a C := by
  obtain ⟨c, ty, A, O⟩ := O; exact ⟨c, ty, ⟨K.2.1 a c A.1 q, A.2⟩, O⟩
theorem oOv.sto {a y : Addr} {C : String} (O : oOv Z h a C) (I : Ins Z h y C true) : Sto Z h a (.ref y) := by obtain ⟨c, ty, A, O⟩ := O; exact Sto.of A O I
theorem ow_newR (X : oSt Z ω γ κ T h cs ss) (pc' i1 i2 : Nat) {own C : String} {idx : Nat} {k : Int32} {cap : Nat} (w1 : tables_1[i1]? = some (.classLink own idx C)) (ho : κ.2.2.1 = own) (w2 : tables_1[i2]? = some (.arrayOver (.object C))) (hd : decode κ.1 pc = .ok (.anewarray idx, 3)) (hp : pc + 3 = pc') (h0 : 0 ≤ k.toInt) (h1 : k.toInt ≤ cap) (hb1 : cap * 8 ≤ 536870912) (hc : cs + 1 ≤ κ.2.2.2.2.2.cells) (hsl : ss + cap ≤ κ.2.2.2.2.2.slots)
    (K : ∀ T' h' a, a = h.size → oSt Z ω γ κ T' h' (cs + 1) (ss + cap) → Ext h h' → oA Z h' a (.object C) k.toInt.toNat (fun _ => .null) → oOv Z h' a C → ω.2.1 ≤ a → oWP ω γ κ Q T' pc' L (.ref a :: S)) : oWP ω γ κ Q T pc L (.int k :: S) := by
  have w1' := oSt_at X i1 w1
  have w2' := oSt_at X i2 w2
  have hN := oSt_n0 X
  obtain ⟨hx, hby, hml, hown, hnm, hr, hlk, hZ, hT1, hn0, hT, locs, Y, N⟩ := X
  subst hp ho
  have hk : ¬ k < 0 := by rw [Int32.lt_iff_toInt_lt, o0]; omega
  have hk' : k.toNatClampNeg ≤ cap := by show k.toInt.toNat ≤ cap; omega
  obtain ⟨T', h', cA, Y', e', E, A, O, st⟩ := newR Y hx hZ hown w1' w2' hT (g := mkF γ.2.2.2.1 pc L (.int k :: S)) rfl (hb hby hd) rfl hk hk' hb1 hc hsl
  obtain ⟨s₂, o, hs, r⟩ := K T' h' h.size rfl ⟨hx, hby, hml, hown, hnm, hr, hlk, hZ, hT1, hn0, e', _, Y', N⟩ E (oA.new A h0) ⟨_, _, A, O⟩ hN
  exact ⟨s₂, o, st _ hs, r⟩
end Walk2
section WalkC
variable {Z : State} {ω : OW} {γ : OG} {κ : OM} {Q : Option Value → Heap → Prop} {T : State} {h : Heap} {cs ss : Nat} {pc : Nat} {L : Array Slot} {S : List Value}
theorem ow_retB (X : oSt Z ω γ κ T h cs ss) {z : Int32} (hret : κ.2.2.2.2.1 = some .byte) (hd : decode κ.1 pc = .ok (.ireturn, 1)) (hc : cs ≤ κ.2.2.2.2.2.cells) (hsl : ss ≤ κ.2.2.2.2.2.slots) (hn : narrow .byte (.int z) = .int z) (hQ : Q (some (.int z)) h) : oWP ω γ κ Q T pc L (.int z :: S) :=
  ow_ret X hret hn (Or.inl ⟨rfl, Or.inr (Or.inr (Or.inl rfl)), z, rfl⟩) hd hc hsl hQ
theorem ow_newPE (X : oSt Z ω γ κ T h cs ss) (pc' i : Nat) {aty : ArrayType} {k : Int32} {cap : Nat} {ad : String} (hw : tables_1[i]? = some (.arrayClass (newarray.typeOf aty))) (had : "[" ++ (newarray.typeOf aty).toString = ad) (hd : decode κ.1 pc = .ok (.newarray aty, 2)) (hp : pc + 2 = pc') (h0 : 0 ≤ k.toInt) (h1 : k.toInt ≤ cap) (hb1 : cap * 8 ≤ 536870912) (hc : cs + 1 ≤ κ.2.2.2.2.2.cells) (hsl : ss + cap ≤ κ.2.2.2.2.2.slots)
    (K : ∀ T' h' a, a = h.size → oSt Z ω γ κ T' h' (cs + 1) (ss + cap) → Ext h h' → oA Z h' a (newarray.typeOf aty) k.toInt.toNat (fun _ => defaultValue (newarray.typeOf aty)) → ω.2.1 ≤ a → Exa Z h' a ad → oWP ω γ κ Q T' pc' L (.ref a :: S)) : oWP ω γ κ Q T pc L (.int k :: S) := by
  have hw' := oSt_at X i hw
  have hN := oSt_n0 X
  obtain ⟨hx, hby, hml, hown, hnm, hr, hlk, hZ, hT1, hn0, hT, locs, Y, N⟩ := X
  subst hp
  have hk : ¬ k < 0 := by rw [Int32.lt_iff_toInt_lt, o0]; omega
  have hk' : k.toNatClampNeg ≤ cap := by show k.toInt.toNat ≤ cap; omega
  obtain ⟨T', h', cA, Y', e', E, A, Ea, st⟩ := newPE Y hx hZ hw' hT (g := mkF γ.2.2.2.1 pc L (.int k :: S)) rfl (hb hby hd) rfl hk hk' hb1 hc hsl had
  obtain ⟨s₂, o, hs, r⟩ := K T' h' h.size rfl ⟨hx, hby, hml, hown, hnm, hr, hlk, hZ, hT1, hn0, e', _, Y', N⟩ E (oA.new A h0) hN Ea
  exact ⟨s₂, o, st _ hs, r⟩
theorem ow_clone (X : oSt Z ω γ κ T h cs ss) (pc' i1 i2 i3 i4 i5 i6 : Nat) {own ad : String} {idx : Nat} {a : Addr} {ty : FieldType} {n : Nat} {f : Nat → Value} {W cap : Nat}
    (w1 : tables_1[i1]? = some (.methodLink own idx ⟨ad, "clone", "()Ljava/lang/Object;"⟩)) (ho : κ.2.2.1 = own) (w2 : tables_1[i2]? = some (.sameMethod ad "java/lang/Object" "clone" "()Ljava/lang/Object;")) (w3 : tables_1[i3]? = some (.native ⟨"java/lang/Object", "clone", "()Ljava/lang/Object;"⟩)) (w4 : tables_1[i4]? = some (.instanceMethod ⟨"java/lang/Object", "clone", "()Ljava/lang/Object;"⟩))
    (w5 : tables_1[i5]? = some (.selects ad ⟨ad, "clone", "()Ljava/lang/Object;"⟩ ⟨"java/lang/Object", "clone", "()Ljava/lang/Object;"⟩)) (w6 : tables_1[i6]? = some (.castable ad "java/lang/Cloneable")) (A : oA Z h a ty n f) (Ea : Exa Z h a ad) (hfit : ∀ i, i < n → fits ty (f i) = true) (hn : n ≤ cap) (hf : 1 ≤ κ.2.2.2.2.2.frames) (hW : (S.map fun v => v.category).sum ≤ W) (hl : W + 14 ≤ κ.2.2.2.2.2.locals) (hc : cs + 1 ≤ κ.2.2.2.2.2.cells) (hsl : ss + cap ≤ κ.2.2.2.2.2.slots) (hL : L.size = κ.2.1)
    (hd : decode κ.1 pc = .ok (.invokevirtual idx, 3)) (hp : pc + 3 = pc') (K : ∀ T' h' b, b = h.size → oSt Z ω γ κ T' h' (cs + 1) (ss + cap) → Ext h h' → oA Z h' b ty n f → Exa Z h' b ad → ω.2.1 ≤ b → oWP ω γ κ Q T' pc' L (.ref b :: S)) : oWP ω γ κ Q T pc L (.ref a :: S) := by
  have w1' := oSt_at X i1 w1
  have w2' := oSt_at X i2 w2
  have w3' := oSt_at X i3 w3
  have w4' := oSt_at X i4 w4
  have w5' := oSt_at X i5 w5
  have w6' := oSt_at X i6 w6
  have hN := oSt_n0 X
  obtain ⟨hx, hby, hml, hown, hnm, hr, hlk, hZ, hT1, hn0, hT, locs, Y, N⟩ := X
  obtain ⟨c, A, r1, r2, r3⟩ := A
  subst hp ho
  have FC : FitC Z c := fitC_of A fun i hi v hv => by
    rw [r3 i (by omega)] at hv; cases hv; exact hfit i (by omega)
  obtain ⟨T', h', Y', e', E, A', E', st⟩ := cloneA Y hx hZ hown w1' w2' w3' w4' w5' w6' hT A Ea FC (g := mkF γ.2.2.2.1 pc L (.ref a :: S)) rfl (by rw [hml]; exact hL) rfl (hb hby hd) hf (W := W) (cap := cap) (by show 2 * 0 + _ ≤ _; omega) hl (by rw [r1]; exact hn) hc hsl
  obtain ⟨s₂, o, hs, r⟩ := K T' h' h.size rfl ⟨hx, hby, hml, hown, hnm, hr, hlk, hZ, hT1, hn0, e', _, Y', N⟩ E ⟨_, A', r1, r2, r3⟩ E' hN
  exact ⟨s₂, o, st _ hs, r⟩
end WalkC
theorem oSta_keep {Z : State} {h h' : Heap} {C n d : String} {v : Value} {ws : List Addr} (S : Sta Z h C n d v) (K : Keep h h' ws) (hs : ∀ x ∈ ws, ∃ c : Cell, h[x]? = some c ∧ c.vm.isStatics = false) : Sta Z h' C n d v := by
  obtain ⟨cf, i, k, f, st, cell, h1, h2, h3, h4, h5, h6, h7⟩ := S
  refine ⟨cf, i, k, f, st, cell, h1, h2, h3, h4, K.2.1 st cell h5 (fun hm => ?_), h6, h7⟩
  obtain ⟨c, e1, e2⟩ := hs st hm
  cases h5.symm.trans e1
  rw [h6] at e2; cases e2
theorem oExS {Z : State} {h : Heap} {a : Addr} {C : String} (E : Exa Z h a C) : ∃ c : Cell, h[a]? = some c ∧ c.vm.isStatics = false := by
  obtain ⟨cell, k, h1, -, -, h4, -⟩ := E; exact ⟨cell, h1, h4⟩
theorem oArS {Z : State} {h : Heap} {a : Addr} {ty : FieldType} {n : Nat} {f : Nat → Value} (A : oA Z h a ty n f) : ∃ c : Cell, h[a]? = some c ∧ c.vm.isStatics = false := by
  obtain ⟨c, A, -⟩ := A; exact ⟨c, A.1, Arr.plain A⟩
theorem own_fold {args : Array Value} {s : State} : ∀ (L : List Jvm.Cond) (r : Jvm.Cond), (L.foldr Jvm.Cond.and r).before args s = true → ∀ d ∈ L, d.before args s = true
  | [], _, _, d, hd => by cases hd
  | c :: L, r, h, d, hd => by
    have h' : (Jvm.Cond.and c (L.foldr Jvm.Cond.and r)).before args s = true := h
    rw [Cond.before_and, Bool.and_eq_true] at h'
    cases hd with
    | head => exact h'.1
    | tail _ q => exact own_fold L r h'.2 d q
def own_b1 (z : Int32) : Int32 := z.toInt8.toInt32.toInt8.toInt32
def own_by (g : Nat → Int32) (i : Nat) : Int32 := own_b1 (g i)
def own_nx (x y : Int32) : Int32 := (x <<< ((7 : Int32) &&& 31)) ||| (y &&& (127 : Int32))
def own_ac (B : Nat → Int32) : Nat → Int32
  | 0 => 0
  | k + 1 => own_nx (own_ac B k) (B k)
def own_g (z0 z1 z2 z3 z4 z5 : Int32) : Nat → Int32
  | 0 => z0
  | 1 => z1
  | 2 => z2
  | 3 => z3
  | 4 => z4
  | _ => z5
theorem own_fit (x : Int32) : fits .byte (.int (own_b1 x)) = true := by
  have h := c_i2b x.toInt8.toInt32
  show (decide ((-128 : Int32) ≤ x.toInt8.toInt32.toInt8.toInt32) && decide (x.toInt8.toInt32.toInt8.toInt32 ≤ 127)) = true
  rw [Bool.and_eq_true]
  refine ⟨decide_eq_true ?_, decide_eq_true ?_⟩
  · rw [Int32.le_iff_toInt_le]; have : (-128 : Int32).toInt = -128 := rfl; omega
  · rw [Int32.le_iff_toInt_le]; have : (127 : Int32).toInt = 127 := rfl; omega
theorem own_b1v (z : Int32) (h0 : 0 ≤ z.toInt) (h1 : z.toInt ≤ 255) : (z.toInt < 128 → (own_b1 z).toInt = z.toInt) ∧ (128 ≤ z.toInt → (own_b1 z).toInt = z.toInt - 256) := by
  have a := c_i2b z; have b := c_i2b z.toInt8.toInt32
  unfold own_b1
  constructor <;> intro q <;> omega
theorem own_lo (z : Int32) (h0 : 0 ≤ z.toInt) (h1 : z.toInt ≤ 255) : (own_b1 z &&& (127 : Int32)).toInt = z.toInt % 128 := by
  have v := own_b1v z h0 h1
  have e := c_mask (own_b1 z) 127 7 (by decide) (by decide)
  have p : ((2 ^ 7 : Nat) : Int) = 128 := by decide
  rw [p] at e
  rcases Int.lt_or_le z.toInt 128 with q | q
  · have := v.1 q; omega
  · have := v.2 q; omega
theorem own_i2c2 (x : Int32) : (x.toUInt32.toUInt16.toUInt32.toInt32).toUInt32.toUInt16.toUInt32.toInt32 = x.toUInt32.toUInt16.toUInt32.toInt32 := by
  apply Int32.toInt_inj.mp
  have a := c_i2c x; have b := c_i2c (x.toUInt32.toUInt16.toUInt32.toInt32)
  omega
theorem own_c (x : Int32) (h0 : 0 ≤ x.toInt) (h1 : x.toInt ≤ 255) : (x.toUInt32.toUInt16.toUInt32.toInt32).toInt = x.toInt := by
  have a := c_i2c x; omega
theorem own_nar (z : Int32) (h0 : 0 ≤ z.toInt) (h1 : z.toInt ≤ 255) : nar .char z = z := by
  apply Int32.toInt_inj.mp
  show (z.toUInt32.toUInt16.toUInt32.toInt32).toInt = _
  exact own_c z h0 h1
def own_chp (i n d e z : Int32) : Prop := 0 ≤ z.toInt ∧ z.toInt ≤ 255 ∧ (i.toInt < n.toInt - 1 → z.toInt = d.toInt + 128) ∧ (i.toInt = n.toInt - 1 → z.toInt = d.toInt) ∧ (i.toInt = n.toInt → z.toInt = e.toInt)
theorem own_n1 (n : Int32) (h : 1 ≤ n.toInt ∧ n.toInt ≤ 5) : (n - (1 : Int32)).toInt = n.toInt - 1 := by
  have := c_isub n 1; have := rng32 (n - 1); have e : (1 : Int32).toInt = 1 := rfl; omega
theorem own_or128 (d : Int32) (h : 0 ≤ d.toInt ∧ d.toInt ≤ 127) : (d ||| (128 : Int32)).toInt = d.toInt + 128 := by
  have q := c_or' d 128 7 (by decide) 128 rfl (by decide) h.1 (by omega)
  have r := rng32 (d ||| 128); have e : (128 : Int32).toInt = 128 := rfl
  have s := c_or0 d 128 h.1 (by decide)
  omega
theorem own_sp (x y : Int32) (D : Int) (hy : (y &&& (127 : Int32)).toInt = D) (h0 : 0 ≤ D) (h1 : D < 128) : ((own_nx x y).toInt - (x.toInt * 128 + D)) % 4294967296 = 0 := by
  have s := c_ishl x 7 7 (by decide)
  have p : ((2 ^ 7 : Nat) : Int) = 128 := by decide
  rw [p] at s
  have o := c_or (x <<< ((7 : Int32) &&& 31)) (y &&& 127) 7 (by decide) 128 rfl (by omega) (by omega) (by omega)
  unfold own_nx
  omega
theorem own_ex (x y : Int32) (D : Int) (hy : (y &&& (127 : Int32)).toInt = D) (h0 : 0 ≤ D) (h1 : D < 128) (hx0 : 0 ≤ x.toInt) (hx1 : x.toInt < 16777216) : (own_nx x y).toInt = x.toInt * 128 + D := by
  have := own_sp x y D hy h0 h1; have := rng32 (own_nx x y); omega
theorem own_la (x y : Int64) (h0 : 0 ≤ x.toInt) (h1 : x.toInt < 1099511627776) (h2 : 0 ≤ y.toInt) (h3 : y.toInt < 1099511627776) : (x + y).toInt = x.toInt + y.toInt := by
  have := c_ladd x y; have := rng64 (x + y); omega
theorem own_d (x : Int64) : 0 ≤ ((x &&& (127 : Int64)).toInt32).toInt ∧ ((x &&& (127 : Int64)).toInt32).toInt ≤ 127 := by
  have e := c_maskL x 127 7 (by decide) (by decide); have p : ((2 ^ 7 : Nat) : Int) = 128 := by decide
  rw [p] at e
  have l := c_l2i (x &&& 127); have r := rng32 ((x &&& (127 : Int64)).toInt32)
  omega
theorem own_n (k : Int32) : 1 ≤ (((k &&& (2147483647 : Int32)) % (5 : Int32)) + (1 : Int32)).toInt ∧ (((k &&& (2147483647 : Int32)) % (5 : Int32)) + (1 : Int32)).toInt ≤ 5 := by
  have h := (c_andS k 2147483647).2.2 (by decide)
  have m := (c_irem (k &&& 2147483647) 5 5 rfl).1 h
  have a := c_iadd ((k &&& 2147483647) % 5) 1; have r := rng32 (((k &&& (2147483647 : Int32)) % (5 : Int32)) + (1 : Int32)); have e : (1 : Int32).toInt = 1 := rfl
  omega
theorem own_five (n : Int32) (h : 1 ≤ n.toInt ∧ n.toInt ≤ 5) : n.toInt = 1 ∨ n.toInt = 2 ∨ n.toInt = 3 ∨ n.toInt = 4 ∨ n.toInt = 5 := by omega
theorem own_a255 (x : Int32) : 0 ≤ (x &&& (255 : Int32)).toInt ∧ (x &&& (255 : Int32)).toInt ≤ 255 := c_and x 255 (by decide)
theorem own_a127 (x : Int32) : 0 ≤ (x &&& (127 : Int32)).toInt ∧ (x &&& (127 : Int32)).toInt ≤ 127 := c_and x 127 (by decide)
theorem own_l128 (d : Int32) (h : 0 ≤ d.toInt ∧ d.toInt ≤ 127) : (d.toInt64 * (128 : Int64)).toInt = d.toInt * 128 := by
  have e := c_lmul d.toInt64 128; have f := c_i2l d; have k : (128 : Int64).toInt = 128 := rfl; have r := rng64 (d.toInt64 * 128)
  rw [f, k] at e; omega
theorem own_l16384 (d : Int32) (h : 0 ≤ d.toInt ∧ d.toInt ≤ 127) : (d.toInt64 * (16384 : Int64)).toInt = d.toInt * 16384 := by
  have e := c_lmul d.toInt64 16384; have f := c_i2l d; have k : (16384 : Int64).toInt = 16384 := rfl; have r := rng64 (d.toInt64 * 16384)
  rw [f, k] at e; omega
theorem own_l2097152 (d : Int32) (h : 0 ≤ d.toInt ∧ d.toInt ≤ 127) : (d.toInt64 * (2097152 : Int64)).toInt = d.toInt * 2097152 := by
  have e := c_lmul d.toInt64 2097152; have f := c_i2l d; have k : (2097152 : Int64).toInt = 2097152 := rfl; have r := rng64 (d.toInt64 * 2097152)
  rw [f, k] at e; omega
theorem own_l268435456 (d : Int32) (h : 0 ≤ d.toInt ∧ d.toInt ≤ 127) : (d.toInt64 * (268435456 : Int64)).toInt = d.toInt * 268435456 := by
  have e := c_lmul d.toInt64 268435456; have f := c_i2l d; have k : (268435456 : Int64).toInt = 268435456 := rfl; have r := rng64 (d.toInt64 * 268435456)
  rw [f, k] at e; omega
theorem own_eqm {a p E : Int} (h1 : (a - E) % 4294967296 = 0) (h2 : (p - E) % 4294967296 = 0) (ha : -2147483648 ≤ a ∧ a < 2147483648) (hp : -2147483648 ≤ p ∧ p < 2147483648) : a = p := by omega
theorem own_lb {x y : Int64} {X Y : Int} (hx : x.toInt = X) (hy : y.toInt = Y) (h0 : 0 ≤ X) (h1 : X < 1099511627776) (h2 : 0 ≤ Y) (h3 : Y < 1099511627776) : (x + y).toInt = X + Y := by
  subst hx hy; exact own_la x y h0 h1 h2 h3
theorem own_E1 (d0 : Int32) (h0 : 0 ≤ d0.toInt ∧ d0.toInt ≤ 127) : (d0.toInt64).toInt = d0.toInt := (c_i2l d0)
theorem own_p1 (x0 x1 y0 d0 : Int32) (h0 : 0 ≤ d0.toInt ∧ d0.toInt ≤ 127) (z : x0.toInt = 0) (e0 : x1 = own_nx x0 y0) (b0 : (y0 &&& (127 : Int32)).toInt = d0.toInt) : x1.toInt = ((d0.toInt64).toInt32).toInt := by
  have r1 : x1.toInt = x0.toInt * 128 + d0.toInt := by rw [e0]; exact own_ex x0 y0 _ b0 h0.1 (by omega) (by omega) (by omega)
  have hA : x1.toInt = d0.toInt := by omega
  have r5 : (x1.toInt - (d0.toInt)) % 4294967296 = 0 := by rw [hA, Int.sub_self]; rfl
  have l := c_l2i (d0.toInt64)
  rw [own_E1 d0 h0] at l
  exact own_eqm r5 l (rng32 _) (rng32 _)
theorem own_first1 (B : Nat → Int32) (d0 : Int32) (h0 : 0 ≤ d0.toInt ∧ d0.toInt ≤ 127) (b0 : (B 0 &&& (127 : Int32)).toInt = d0.toInt) : (own_ac B 1).toInt = ((d0.toInt64).toInt32).toInt := own_p1 (own_ac B 0) (own_ac B 1) (B 0) d0 h0 rfl rfl b0
theorem own_E2 (d0 d1 : Int32) (h0 : 0 ≤ d0.toInt ∧ d0.toInt ≤ 127) (h1 : 0 ≤ d1.toInt ∧ d1.toInt ≤ 127) : (d0.toInt64 * (128 : Int64) + d1.toInt64).toInt = d0.toInt * 128 + d1.toInt := (own_lb (own_l128 d0 h0) (c_i2l d1) (by omega) (by omega) (by omega) (by omega))
theorem own_p2 (x0 x1 x2 y0 y1 d0 d1 : Int32) (h0 : 0 ≤ d0.toInt ∧ d0.toInt ≤ 127) (h1 : 0 ≤ d1.toInt ∧ d1.toInt ≤ 127) (z : x0.toInt = 0) (e0 : x1 = own_nx x0 y0) (e1 : x2 = own_nx x1 y1) (b0 : (y0 &&& (127 : Int32)).toInt = d0.toInt) (b1 : (y1 &&& (127 : Int32)).toInt = d1.toInt) : x2.toInt = ((d0.toInt64 * (128 : Int64) + d1.toInt64).toInt32).toInt := by
  have r1 : x1.toInt = x0.toInt * 128 + d0.toInt := by rw [e0]; exact own_ex x0 y0 _ b0 h0.1 (by omega) (by omega) (by omega)
  have r2 : x2.toInt = x1.toInt * 128 + d1.toInt := by rw [e1]; exact own_ex x1 y1 _ b1 h1.1 (by omega) (by omega) (by omega)
  have hA : x2.toInt = d0.toInt * 128 + d1.toInt := by omega
  have r5 : (x2.toInt - (d0.toInt * 128 + d1.toInt)) % 4294967296 = 0 := by rw [hA, Int.sub_self]; rfl
  have l := c_l2i (d0.toInt64 * (128 : Int64) + d1.toInt64)
  rw [own_E2 d0 d1 h0 h1] at l
  exact own_eqm r5 l (rng32 _) (rng32 _)
theorem own_first2 (B : Nat → Int32) (d0 d1 : Int32) (h0 : 0 ≤ d0.toInt ∧ d0.toInt ≤ 127) (h1 : 0 ≤ d1.toInt ∧ d1.toInt ≤ 127) (b0 : (B 0 &&& (127 : Int32)).toInt = d0.toInt) (b1 : (B 1 &&& (127 : Int32)).toInt = d1.toInt) : (own_ac B 2).toInt = ((d0.toInt64 * (128 : Int64) + d1.toInt64).toInt32).toInt := own_p2 (own_ac B 0) (own_ac B 1) (own_ac B 2) (B 0) (B 1) d0 d1 h0 h1 rfl rfl rfl b0 b1
theorem own_E3 (d0 d1 d2 : Int32) (h0 : 0 ≤ d0.toInt ∧ d0.toInt ≤ 127) (h1 : 0 ≤ d1.toInt ∧ d1.toInt ≤ 127) (h2 : 0 ≤ d2.toInt ∧ d2.toInt ≤ 127) : (d0.toInt64 * (16384 : Int64) + d1.toInt64 * (128 : Int64) + d2.toInt64).toInt = d0.toInt * 16384 + d1.toInt * 128 + d2.toInt := (own_lb (own_lb (own_l16384 d0 h0) (own_l128 d1 h1) (by omega) (by omega) (by omega) (by omega)) (c_i2l d2) (by omega) (by omega) (by omega) (by omega))
theorem own_p3 (x0 x1 x2 x3 y0 y1 y2 d0 d1 d2 : Int32) (h0 : 0 ≤ d0.toInt ∧ d0.toInt ≤ 127) (h1 : 0 ≤ d1.toInt ∧ d1.toInt ≤ 127) (h2 : 0 ≤ d2.toInt ∧ d2.toInt ≤ 127) (z : x0.toInt = 0) (e0 : x1 = own_nx x0 y0) (e1 : x2 = own_nx x1 y1) (e2 : x3 = own_nx x2 y2) (b0 : (y0 &&& (127 : Int32)).toInt = d0.toInt) (b1 : (y1 &&& (127 : Int32)).toInt = d1.toInt) (b2 : (y2 &&& (127 : Int32)).toInt = d2.toInt) : x3.toInt = ((d0.toInt64 * (16384 : Int64) + d1.toInt64 * (128 : Int64) + d2.toInt64).toInt32).toInt := by
  have r1 : x1.toInt = x0.toInt * 128 + d0.toInt := by rw [e0]; exact own_ex x0 y0 _ b0 h0.1 (by omega) (by omega) (by omega)
  have r2 : x2.toInt = x1.toInt * 128 + d1.toInt := by rw [e1]; exact own_ex x1 y1 _ b1 h1.1 (by omega) (by omega) (by omega)
  have r3 : x3.toInt = x2.toInt * 128 + d2.toInt := by rw [e2]; exact own_ex x2 y2 _ b2 h2.1 (by omega) (by omega) (by omega)
  have hA : x3.toInt = d0.toInt * 16384 + d1.toInt * 128 + d2.toInt := by omega
  have r5 : (x3.toInt - (d0.toInt * 16384 + d1.toInt * 128 + d2.toInt)) % 4294967296 = 0 := by rw [hA, Int.sub_self]; rfl
  have l := c_l2i (d0.toInt64 * (16384 : Int64) + d1.toInt64 * (128 : Int64) + d2.toInt64)
  rw [own_E3 d0 d1 d2 h0 h1 h2] at l
  exact own_eqm r5 l (rng32 _) (rng32 _)
theorem own_first3 (B : Nat → Int32) (d0 d1 d2 : Int32) (h0 : 0 ≤ d0.toInt ∧ d0.toInt ≤ 127) (h1 : 0 ≤ d1.toInt ∧ d1.toInt ≤ 127) (h2 : 0 ≤ d2.toInt ∧ d2.toInt ≤ 127) (b0 : (B 0 &&& (127 : Int32)).toInt = d0.toInt) (b1 : (B 1 &&& (127 : Int32)).toInt = d1.toInt) (b2 : (B 2 &&& (127 : Int32)).toInt = d2.toInt) : (own_ac B 3).toInt = ((d0.toInt64 * (16384 : Int64) + d1.toInt64 * (128 : Int64) + d2.toInt64).toInt32).toInt := own_p3 (own_ac B 0) (own_ac B 1) (own_ac B 2) (own_ac B 3) (B 0) (B 1) (B 2) d0 d1 d2 h0 h1 h2 rfl rfl rfl rfl b0 b1 b2
theorem own_E4 (d0 d1 d2 d3 : Int32) (h0 : 0 ≤ d0.toInt ∧ d0.toInt ≤ 127) (h1 : 0 ≤ d1.toInt ∧ d1.toInt ≤ 127) (h2 : 0 ≤ d2.toInt ∧ d2.toInt ≤ 127) (h3 : 0 ≤ d3.toInt ∧ d3.toInt ≤ 127) : (d0.toInt64 * (2097152 : Int64) + d1.toInt64 * (16384 : Int64) + d2.toInt64 * (128 : Int64) + d3.toInt64).toInt = d0.toInt * 2097152 + d1.toInt * 16384 + d2.toInt * 128 + d3.toInt := (own_lb (own_lb (own_lb (own_l2097152 d0 h0) (own_l16384 d1 h1) (by omega) (by omega) (by omega) (by omega)) (own_l128 d2 h2) (by omega) (by omega) (by omega) (by omega)) (c_i2l d3) (by omega) (by omega) (by omega) (by omega))
theorem own_p4 (x0 x1 x2 x3 x4 y0 y1 y2 y3 d0 d1 d2 d3 : Int32) (h0 : 0 ≤ d0.toInt ∧ d0.toInt ≤ 127) (h1 : 0 ≤ d1.toInt ∧ d1.toInt ≤ 127) (h2 : 0 ≤ d2.toInt ∧ d2.toInt ≤ 127) (h3 : 0 ≤ d3.toInt ∧ d3.toInt ≤ 127) (z : x0.toInt = 0) (e0 : x1 = own_nx x0 y0) (e1 : x2 = own_nx x1 y1) (e2 : x3 = own_nx x2 y2) (e3 : x4 = own_nx x3 y3) (b0 : (y0 &&& (127 : Int32)).toInt = d0.toInt) (b1 : (y1 &&& (127 : Int32)).toInt = d1.toInt) (b2 : (y2 &&& (127 : Int32)).toInt = d2.toInt) (b3 : (y3 &&& (127 : Int32)).toInt = d3.toInt) : x4.toInt = ((d0.toInt64 * (2097152 : Int64) + d1.toInt64 * (16384 : Int64) + d2.toInt64 * (128 : Int64) + d3.toInt64).toInt32).toInt := by
  have r1 : x1.toInt = x0.toInt * 128 + d0.toInt := by rw [e0]; exact own_ex x0 y0 _ b0 h0.1 (by omega) (by omega) (by omega)
  have r2 : x2.toInt = x1.toInt * 128 + d1.toInt := by rw [e1]; exact own_ex x1 y1 _ b1 h1.1 (by omega) (by omega) (by omega)
  have r3 : x3.toInt = x2.toInt * 128 + d2.toInt := by rw [e2]; exact own_ex x2 y2 _ b2 h2.1 (by omega) (by omega) (by omega)
  have r4 : x4.toInt = x3.toInt * 128 + d3.toInt := by rw [e3]; exact own_ex x3 y3 _ b3 h3.1 (by omega) (by omega) (by omega)
  have hA : x4.toInt = d0.toInt * 2097152 + d1.toInt * 16384 + d2.toInt * 128 + d3.toInt := by omega
  have r5 : (x4.toInt - (d0.toInt * 2097152 + d1.toInt * 16384 + d2.toInt * 128 + d3.toInt)) % 4294967296 = 0 := by rw [hA, Int.sub_self]; rfl
  have l := c_l2i (d0.toInt64 * (2097152 : Int64) + d1.toInt64 * (16384 : Int64) + d2.toInt64 * (128 : Int64) + d3.toInt64)
  rw [own_E4 d0 d1 d2 d3 h0 h1 h2 h3] at l
  exact own_eqm r5 l (rng32 _) (rng32 _)
theorem own_first4 (B : Nat → Int32) (d0 d1 d2 d3 : Int32) (h0 : 0 ≤ d0.toInt ∧ d0.toInt ≤ 127) (h1 : 0 ≤ d1.toInt ∧ d1.toInt ≤ 127) (h2 : 0 ≤ d2.toInt ∧ d2.toInt ≤ 127) (h3 : 0 ≤ d3.toInt ∧ d3.toInt ≤ 127) (b0 : (B 0 &&& (127 : Int32)).toInt = d0.toInt) (b1 : (B 1 &&& (127 : Int32)).toInt = d1.toInt) (b2 : (B 2 &&& (127 : Int32)).toInt = d2.toInt) (b3 : (B 3 &&& (127 : Int32)).toInt = d3.toInt) : (own_ac B 4).toInt = ((d0.toInt64 * (2097152 : Int64) + d1.toInt64 * (16384 : Int64) + d2.toInt64 * (128 : Int64) + d3.toInt64).toInt32).toInt := own_p4 (own_ac B 0) (own_ac B 1) (own_ac B 2) (own_ac B 3) (own_ac B 4) (B 0) (B 1) (B 2) (B 3) d0 d1 d2 d3 h0 h1 h2 h3 rfl rfl rfl rfl rfl b0 b1 b2 b3
theorem own_E5 (d0 d1 d2 d3 d4 : Int32) (h0 : 0 ≤ d0.toInt ∧ d0.toInt ≤ 127) (h1 : 0 ≤ d1.toInt ∧ d1.toInt ≤ 127) (h2 : 0 ≤ d2.toInt ∧ d2.toInt ≤ 127) (h3 : 0 ≤ d3.toInt ∧ d3.toInt ≤ 127) (h4 : 0 ≤ d4.toInt ∧ d4.toInt ≤ 127) : (d0.toInt64 * (268435456 : Int64) + d1.toInt64 * (2097152 : Int64) + d2.toInt64 * (16384 : Int64) + d3.toInt64 * (128 : Int64) + d4.toInt64).toInt = d0.toInt * 268435456 + d1.toInt * 2097152 + d2.toInt * 16384 + d3.toInt * 128 + d4.toInt := (own_lb (own_lb (own_lb (own_lb (own_l268435456 d0 h0) (own_l2097152 d1 h1) (by omega) (by omega) (by omega) (by omega)) (own_l16384 d2 h2) (by omega) (by omega) (by omega) (by omega)) (own_l128 d3 h3) (by omega) (by omega) (by omega) (by omega)) (c_i2l d4) (by omega) (by omega) (by omega) (by omega))
theorem own_p5 (x0 x1 x2 x3 x4 x5 y0 y1 y2 y3 y4 d0 d1 d2 d3 d4 : Int32) (h0 : 0 ≤ d0.toInt ∧ d0.toInt ≤ 127) (h1 : 0 ≤ d1.toInt ∧ d1.toInt ≤ 127) (h2 : 0 ≤ d2.toInt ∧ d2.toInt ≤ 127) (h3 : 0 ≤ d3.toInt ∧ d3.toInt ≤ 127) (h4 : 0 ≤ d4.toInt ∧ d4.toInt ≤ 127) (z : x0.toInt = 0) (e0 : x1 = own_nx x0 y0) (e1 : x2 = own_nx x1 y1) (e2 : x3 = own_nx x2 y2) (e3 : x4 = own_nx x3 y3) (e4 : x5 = own_nx x4 y4) (b0 : (y0 &&& (127 : Int32)).toInt = d0.toInt) (b1 : (y1 &&& (127 : Int32)).toInt = d1.toInt) (b2 : (y2 &&& (127 : Int32)).toInt = d2.toInt) (b3 : (y3 &&& (127 : Int32)).toInt = d3.toInt) (b4 : (y4 &&& (127 : Int32)).toInt = d4.toInt) : x5.toInt = ((d0.toInt64 * (268435456 : Int64) + d1.toInt64 * (2097152 : Int64) + d2.toInt64 * (16384 : Int64) + d3.toInt64 * (128 : Int64) + d4.toInt64).toInt32).toInt := by
  have r1 : x1.toInt = x0.toInt * 128 + d0.toInt := by rw [e0]; exact own_ex x0 y0 _ b0 h0.1 (by omega) (by omega) (by omega)
  have r2 : x2.toInt = x1.toInt * 128 + d1.toInt := by rw [e1]; exact own_ex x1 y1 _ b1 h1.1 (by omega) (by omega) (by omega)
  have r3 : x3.toInt = x2.toInt * 128 + d2.toInt := by rw [e2]; exact own_ex x2 y2 _ b2 h2.1 (by omega) (by omega) (by omega)
  have r4 : x4.toInt = x3.toInt * 128 + d3.toInt := by rw [e3]; exact own_ex x3 y3 _ b3 h3.1 (by omega) (by omega) (by omega)
  have hA : x4.toInt = d0.toInt * 2097152 + d1.toInt * 16384 + d2.toInt * 128 + d3.toInt := by omega
  have r5 : (x5.toInt - (x4.toInt * 128 + d4.toInt)) % 4294967296 = 0 := by rw [e4]; exact own_sp x4 y4 _ b4 h4.1 (by omega)
  have hS : x4.toInt * 128 + d4.toInt = d0.toInt * 268435456 + d1.toInt * 2097152 + d2.toInt * 16384 + d3.toInt * 128 + d4.toInt := by clear r5; omega
  rw [hS] at r5
  have l := c_l2i (d0.toInt64 * (268435456 : Int64) + d1.toInt64 * (2097152 : Int64) + d2.toInt64 * (16384 : Int64) + d3.toInt64 * (128 : Int64) + d4.toInt64)
  rw [own_E5 d0 d1 d2 d3 d4 h0 h1 h2 h3 h4] at l
  exact own_eqm r5 l (rng32 _) (rng32 _)
theorem own_first5 (B : Nat → Int32) (d0 d1 d2 d3 d4 : Int32) (h0 : 0 ≤ d0.toInt ∧ d0.toInt ≤ 127) (h1 : 0 ≤ d1.toInt ∧ d1.toInt ≤ 127) (h2 : 0 ≤ d2.toInt ∧ d2.toInt ≤ 127) (h3 : 0 ≤ d3.toInt ∧ d3.toInt ≤ 127) (h4 : 0 ≤ d4.toInt ∧ d4.toInt ≤ 127) (b0 : (B 0 &&& (127 : Int32)).toInt = d0.toInt) (b1 : (B 1 &&& (127 : Int32)).toInt = d1.toInt) (b2 : (B 2 &&& (127 : Int32)).toInt = d2.toInt) (b3 : (B 3 &&& (127 : Int32)).toInt = d3.toInt) (b4 : (B 4 &&& (127 : Int32)).toInt = d4.toInt) : (own_ac B 5).toInt = ((d0.toInt64 * (268435456 : Int64) + d1.toInt64 * (2097152 : Int64) + d2.toInt64 * (16384 : Int64) + d3.toInt64 * (128 : Int64) + d4.toInt64).toInt32).toInt := own_p5 (own_ac B 0) (own_ac B 1) (own_ac B 2) (own_ac B 3) (own_ac B 4) (own_ac B 5) (B 0) (B 1) (B 2) (B 3) (B 4) d0 d1 d2 d3 d4 h0 h1 h2 h3 h4 rfl rfl rfl rfl rfl rfl b0 b1 b2 b3 b4
def STR (Z : State) (h : Heap) (a : Addr) (v0 v1 : Value) : Prop := Exa Z h a "java/lang/String" ∧ Fld Z h a "java/lang/String" "value" "[B" v0 ∧ Fld Z h a "java/lang/String" "coder" "B" v1
theorem STR.lt {Z : State} {h : Heap} {a : Addr} {v0 v1 : Value} (R : STR Z h a v0 v1) : a < h.size := R.1.lt
theorem STR.ext {Z : State} {h h' : Heap} {a : Addr} {v0 v1 : Value} (R : STR Z h a v0 v1) (W : Ext h h') : STR Z h' a v0 v1 := by
  obtain ⟨E, F0, F1⟩ := R
  exact ⟨E.ext W, F0.ext W, F1.ext W⟩
theorem STR.other {Z : State} {h h' : Heap} {a b : Addr} {sl : Nat} {w : Value} {v0 v1 : Value} (R : STR Z h a v0 v1) (W : Wr h h' b sl w) (q : a ≠ b) : STR Z h' a v0 v1 := by
  obtain ⟨E, F0, F1⟩ := R
  exact ⟨E.wr W, F0.other W (Or.inl q), F1.other W (Or.inl q)⟩
theorem STR.keep {Z : State} {h h' : Heap} {a : Addr} {ws : List Addr} {v0 v1 : Value} (R : STR Z h a v0 v1) (K : Keep h h' ws) (q : a ∉ ws) : STR Z h' a v0 v1 := by
  obtain ⟨E, F0, F1⟩ := R
  exact ⟨E.keep K, F0.keep K q, F1.keep K q⟩
theorem STR.set_value {Z : State} {h h' : Heap} {a : Addr} {a0 : Array Value} {w : Value} {v0 v1 : Value} (hw : ∀ d ∈ tables_1, d.before a0 Z = true) (R : STR Z h a v0 v1) (W : Wr h h' a (RoadKit.slotOf Z "java/lang/String" "value" "[B") w) : STR Z h' a w v1 := by
  obtain ⟨E, F0, F1⟩ := R
  exact ⟨E.wr W, F0.same W, F1.other W (Or.inr (slot_ne (C := "java/lang/String") (Or.inr (hw _ (List.mem_of_getElem? (i := 36) rfl))) (Or.inr (hw _ (List.mem_of_getElem? (i := 38) rfl))) (by decide) (t := .byte) (t' := (.array .byte)) (by decide) (by decide)))⟩
theorem STR.set_coder {Z : State} {h h' : Heap} {a : Addr} {a0 : Array Value} {w : Value} {v0 v1 : Value} (hw : ∀ d ∈ tables_1, d.before a0 Z = true) (R : STR Z h a v0 v1) (W : Wr h h' a (RoadKit.slotOf Z "java/lang/String" "coder" "B") w) : STR Z h' a v0 w := by
  obtain ⟨E, F0, F1⟩ := R
  exact ⟨E.wr W, F0.other W (Or.inr (slot_ne (C := "java/lang/String") (Or.inr (hw _ (List.mem_of_getElem? (i := 38) rfl))) (Or.inr (hw _ (List.mem_of_getElem? (i := 36) rfl))) (by decide) (t := (.array .byte)) (t' := .byte) (by decide) (by decide))), F1.same W⟩
def TRR (Z : State) (h : Heap) (a : Addr) (v0 v1 : Value) : Prop := Exa Z h a "com/example/rexquill/rexquill/TableReader" ∧ Fld Z h a "com/example/rexquill/rexquill/TableReader" "table" "[B" v0 ∧ Fld Z h a "com/example/rexquill/rexquill/TableReader" "at" "I" v1
theorem TRR.lt {Z : State} {h : Heap} {a : Addr} {v0 v1 : Value} (R : TRR Z h a v0 v1) : a < h.size := R.1.lt
theorem TRR.ext {Z : State} {h h' : Heap} {a : Addr} {v0 v1 : Value} (R : TRR Z h a v0 v1) (W : Ext h h') : TRR Z h' a v0 v1 := by
  obtain ⟨E, F0, F1⟩ := R
  exact ⟨E.ext W, F0.ext W, F1.ext W⟩
theorem TRR.other {Z : State} {h h' : Heap} {a b : Addr} {sl : Nat} {w : Value} {v0 v1 : Value} (R : TRR Z h a v0 v1) (W : Wr h h' b sl w) (q : a ≠ b) : TRR Z h' a v0 v1 := by
  obtain ⟨E, F0, F1⟩ := R
  exact ⟨E.wr W, F0.other W (Or.inl q), F1.other W (Or.inl q)⟩
theorem TRR.keep {Z : State} {h h' : Heap} {a : Addr} {ws : List Addr} {v0 v1 : Value} (R : TRR Z h a v0 v1) (K : Keep h h' ws) (q : a ∉ ws) : TRR Z h' a v0 v1 := by
  obtain ⟨E, F0, F1⟩ := R
  exact ⟨E.keep K, F0.keep K q, F1.keep K q⟩
theorem TRR.set_table {Z : State} {h h' : Heap} {a : Addr} {a0 : Array Value} {w : Value} {v0 v1 : Value} (hw : ∀ d ∈ tables_1, d.before a0 Z = true) (R : TRR Z h a v0 v1) (W : Wr h h' a (RoadKit.slotOf Z "com/example/rexquill/rexquill/TableReader" "table" "[B") w) : TRR Z h' a w v1 := by
  obtain ⟨E, F0, F1⟩ := R
  exact ⟨E.wr W, F0.same W, F1.other W (Or.inr (slot_ne (C := "com/example/rexquill/rexquill/TableReader") (Or.inl (hw _ (List.mem_of_getElem? (i := 85) rfl))) (Or.inr (hw _ (List.mem_of_getElem? (i := 78) rfl))) (by decide) (t := .int) (t' := (.array .byte)) (by decide) (by decide)))⟩
theorem TRR.set_at {Z : State} {h h' : Heap} {a : Addr} {a0 : Array Value} {w : Value} {v0 v1 : Value} (hw : ∀ d ∈ tables_1, d.before a0 Z = true) (R : TRR Z h a v0 v1) (W : Wr h h' a (RoadKit.slotOf Z "com/example/rexquill/rexquill/TableReader" "at" "I") w) : TRR Z h' a v0 w := by
  obtain ⟨E, F0, F1⟩ := R
  exact ⟨E.wr W, F0.other W (Or.inr (slot_ne (C := "com/example/rexquill/rexquill/TableReader") (Or.inr (hw _ (List.mem_of_getElem? (i := 78) rfl))) (Or.inl (hw _ (List.mem_of_getElem? (i := 85) rfl))) (by decide) (t := (.array .byte)) (t' := .int) (by decide) (by decide))), F1.same W⟩
theorem d1_0 : decode method_3_code 0 = .ok (.iload_n 0, 1) := by decide +kernel
theorem d1_1 : decode method_3_code 1 = .ok (.iload_n 1, 1) := by decide +kernel
theorem d1_2 : decode method_3_code 2 = .ok (.iconst 1, 1) := by decide +kernel
theorem d1_3 : decode method_3_code 3 = .ok (.isub, 1) := by decide +kernel
theorem d1_4 : decode method_3_code 4 = .ok (.if_icmp .ge 10, 3) := by decide +kernel
theorem d1_7 : decode method_3_code 7 = .ok (.iload_n 2, 1) := by decide +kernel
theorem d1_8 : decode method_3_code 8 = .ok (.sipush 128, 3) := by decide +kernel
theorem d1_11 : decode method_3_code 11 = .ok (.ior, 1) := by decide +kernel
theorem d1_12 : decode method_3_code 12 = .ok (.i2c, 1) := by decide +kernel
theorem d1_13 : decode method_3_code 13 = .ok (.ireturn, 1) := by decide +kernel
theorem d1_14 : decode method_3_code 14 = .ok (.iload_n 0, 1) := by decide +kernel
theorem d1_15 : decode method_3_code 15 = .ok (.iload_n 1, 1) := by decide +kernel
theorem d1_16 : decode method_3_code 16 = .ok (.iconst 1, 1) := by decide +kernel
theorem d1_17 : decode method_3_code 17 = .ok (.isub, 1) := by decide +kernel
theorem d1_18 : decode method_3_code 18 = .ok (.if_icmp .ne 6, 3) := by decide +kernel
theorem d1_21 : decode method_3_code 21 = .ok (.iload_n 2, 1) := by decide +kernel
theorem d1_22 : decode method_3_code 22 = .ok (.i2c, 1) := by decide +kernel
theorem d1_23 : decode method_3_code 23 = .ok (.ireturn, 1) := by decide +kernel
theorem d1_24 : decode method_3_code 24 = .ok (.iload_n 0, 1) := by decide +kernel
theorem d1_25 : decode method_3_code 25 = .ok (.iload_n 1, 1) := by decide +kernel
theorem d1_26 : decode method_3_code 26 = .ok (.if_icmp .ne 6, 3) := by decide +kernel
theorem d1_29 : decode method_3_code 29 = .ok (.iload_n 3, 1) := by decide +kernel
theorem d1_30 : decode method_3_code 30 = .ok (.i2c, 1) := by decide +kernel
theorem d1_31 : decode method_3_code 31 = .ok (.ireturn, 1) := by decide +kernel
theorem d1_32 : decode method_3_code 32 = .ok (.iload 4, 2) := by decide +kernel
theorem d1_34 : decode method_3_code 34 = .ok (.i2c, 1) := by decide +kernel
theorem d1_35 : decode method_3_code 35 = .ok (.ireturn, 1) := by decide +kernel
def k1 : OM := (method_3_code, 5, "com/example/rexquill/rexquill/TableReaderNumberPinLaw", "ch", (some .char), { frames := 0, cells := 0, slots := 0, locals := 0 })
theorem pn1 : plainFor (⟨"com/example/rexquill/rexquill/TableReaderNumberPinLaw", "ch", "(IIIII)C"⟩ : MethodName) = true := plainFor_of_name (by first | (simp [plainName, overriddenIn]; done) | decide +kernel)
theorem pd1 : parseMethodDescriptor "(IIIII)C" = some ⟨[.int, .int, .int, .int, .int], (some .char)⟩ := by decide +kernel
set_option maxRecDepth 65536 in
set_option maxHeartbeats 4000000 in
theorem C_ch {Z : State} {ω : OW} {h : Heap} (hw_ : ∀ d ∈ tables_1, d.before ω.2.2 Z = true) (hn_ : ω.2.1 ≤ h.size) (i n d e f : Int32) (hn : 1 ≤ n.toInt ∧ n.toInt ≤ 5) (hd : 0 ≤ d.toInt ∧ d.toInt ≤ 127) (he : 0 ≤ e.toInt ∧ e.toInt ≤ 127) (hf : 0 ≤ f.toInt ∧ f.toInt ≤ 255) :
    oC Z ω (⟨"com/example/rexquill/rexquill/TableReaderNumberPinLaw", "ch", "(IIIII)C"⟩ : MethodName) k1 [] #[.int i, .int n, .int d, .int e, .int f] h (fun v h' => ∃ z : Int32, v = some (.int z) ∧ h = h' ∧ own_chp i n d e z) := by
  refine oC_of hw_ hn_ pn1 rfl rfl (L := #[.val (.int i), .val (.int n), .val (.int d), .val (.int e), .val (.int f)]) (fun m => by first | (simp [entryFrame, mkF, argsToLocals, Value.category, k1]; done) | rfl) ?_
  intro γ T X
  refine ow_iloadN X 1 d1_0 rfl rfl ?_
  refine ow_iloadN X 2 d1_1 rfl rfl ?_
  refine ow_iconst X 3 (1 : Int32) d1_2 rfl rfl ?_
  refine ow_isub X 4 d1_3 rfl ?_
  refine ow_icmp_ge X 7 14 d1_4 rfl rfl (fun (c4 : (n - (1 : Int32)).toInt ≤ i.toInt) => ?_) (fun (c4 : i.toInt < (n - (1 : Int32)).toInt) => ?_)
  · refine ow_iloadN X 15 d1_14 rfl rfl ?_
    refine ow_iloadN X 16 d1_15 rfl rfl ?_
    refine ow_iconst X 17 (1 : Int32) d1_16 rfl rfl ?_
    refine ow_isub X 18 d1_17 rfl ?_
    refine ow_icmp_ne X 21 24 d1_18 rfl rfl (fun (c18 : i.toInt ≠ (n - (1 : Int32)).toInt) => ?_) (fun (c18 : i.toInt = (n - (1 : Int32)).toInt) => ?_)
    · refine ow_iloadN X 25 d1_24 rfl rfl ?_
      refine ow_iloadN X 26 d1_25 rfl rfl ?_
      refine ow_icmp_ne X 29 32 d1_26 rfl rfl (fun (c26 : i.toInt ≠ n.toInt) => ?_) (fun (c26 : i.toInt = n.toInt) => ?_)
      · refine ow_iload X 34 d1_32 rfl rfl ?_
        refine ow_i2c X 35 d1_34 rfl ?_
        refine ow_retC X rfl d1_35 (by decide) (by decide) (own_i2c2 _) ?_
        have en := own_n1 n hn
        have ec := own_c f (by omega) (by omega)
        exact ⟨_, rfl, rfl, by omega, by omega, fun q => by omega, fun q => by omega, fun q => by omega⟩
      · refine ow_iloadN X 30 d1_29 rfl rfl ?_
        refine ow_i2c X 31 d1_30 rfl ?_
        refine ow_retC X rfl d1_31 (by decide) (by decide) (own_i2c2 _) ?_
        have en := own_n1 n hn
        have ec := own_c e (by omega) (by omega)
        exact ⟨_, rfl, rfl, by omega, by omega, fun q => by omega, fun q => by omega, fun q => by omega⟩
    · refine ow_iloadN X 22 d1_21 rfl rfl ?_
      refine ow_i2c X 23 d1_22 rfl ?_
      refine ow_retC X rfl d1_23 (by decide) (by decide) (own_i2c2 _) ?_
      have en := own_n1 n hn
      have ec := own_c d (by omega) (by omega)
      exact ⟨_, rfl, rfl, by omega, by omega, fun q => by omega, fun q => by omega, fun q => by omega⟩
  · refine ow_iloadN X 8 d1_7 rfl rfl ?_
    refine ow_sipush X 11 (128 : Int32) d1_8 rfl rfl ?_
    refine ow_ior X 12 d1_11 rfl ?_
    refine ow_i2c X 13 d1_12 rfl ?_
    refine ow_retC X rfl d1_13 (by decide) (by decide) (own_i2c2 _) ?_
    have en := own_n1 n hn
    have eo := own_or128 d hd
    have ec := own_c (d ||| (128 : Int32)) (by omega) (by omega)
    exact ⟨_, rfl, rfl, by omega, by omega, fun q => by omega, fun q => by omega, fun q => by omega⟩
theorem d6_0 : decode jdk_52_method_21_code 0 = .ok (.iconst 0, 1) := by decide +kernel
theorem d6_1 : decode jdk_52_method_21_code 1 = .ok (.istore 5, 2) := by decide +kernel
theorem d6_3 : decode jdk_52_method_21_code 3 = .ok (.iload 5, 2) := by decide +kernel
theorem d6_5 : decode jdk_52_method_21_code 5 = .ok (.iload 4, 2) := by decide +kernel
theorem d6_7 : decode jdk_52_method_21_code 7 = .ok (.if_icmp .ge 37, 3) := by decide +kernel
theorem d6_10 : decode jdk_52_method_21_code 10 = .ok (.aload_n 0, 1) := by decide +kernel
theorem d6_11 : decode jdk_52_method_21_code 11 = .ok (.iload_n 1, 1) := by decide +kernel
theorem d6_12 : decode jdk_52_method_21_code 12 = .ok (.caload, 1) := by decide +kernel
theorem d6_13 : decode jdk_52_method_21_code 13 = .ok (.istore 6, 2) := by decide +kernel
theorem d6_15 : decode jdk_52_method_21_code 15 = .ok (.iload 6, 2) := by decide +kernel
theorem d6_17 : decode jdk_52_method_21_code 17 = .ok (.sipush 255, 3) := by decide +kernel
theorem d6_20 : decode jdk_52_method_21_code 20 = .ok (.if_icmp .le 6, 3) := by decide +kernel
theorem d6_23 : decode jdk_52_method_21_code 23 = .ok (.iload 5, 2) := by decide +kernel
theorem d6_25 : decode jdk_52_method_21_code 25 = .ok (.ireturn, 1) := by decide +kernel
theorem d6_26 : decode jdk_52_method_21_code 26 = .ok (.aload_n 2, 1) := by decide +kernel
theorem d6_27 : decode jdk_52_method_21_code 27 = .ok (.iload_n 3, 1) := by decide +kernel
theorem d6_28 : decode jdk_52_method_21_code 28 = .ok (.iload 6, 2) := by decide +kernel
theorem d6_30 : decode jdk_52_method_21_code 30 = .ok (.i2b, 1) := by decide +kernel
theorem d6_31 : decode jdk_52_method_21_code 31 = .ok (.bastore, 1) := by decide +kernel
theorem d6_32 : decode jdk_52_method_21_code 32 = .ok (.iinc 1 1, 3) := by decide +kernel
theorem d6_35 : decode jdk_52_method_21_code 35 = .ok (.iinc 3 1, 3) := by decide +kernel
theorem d6_38 : decode jdk_52_method_21_code 38 = .ok (.iinc 5 1, 3) := by decide +kernel
theorem d6_41 : decode jdk_52_method_21_code 41 = .ok (.goto (-38), 3) := by decide +kernel
theorem d6_44 : decode jdk_52_method_21_code 44 = .ok (.iload 4, 2) := by decide +kernel
theorem d6_46 : decode jdk_52_method_21_code 46 = .ok (.ireturn, 1) := by decide +kernel
def k6 : OM := (jdk_52_method_21_code, 7, "java/lang/StringUTF16", "compress", (some .int), { frames := 0, cells := 0, slots := 0, locals := 0 })
theorem pn6 : plainFor (⟨"java/lang/StringUTF16", "compress", "([CI[BII)I"⟩ : MethodName) = true := plainFor_of_name (by first | (simp [plainName, overriddenIn]; done) | decide +kernel)
theorem pd6 : parseMethodDescriptor "([CI[BII)I" = some ⟨[(.array .char), .int, (.array .byte), .int, .int], (some .int)⟩ := by decide +kernel
set_option maxRecDepth 65536 in
set_option maxHeartbeats 4000000 in
theorem C_cmp2 {Z : State} {ω : OW} {h : Heap} (hw_ : ∀ d ∈ tables_1, d.before ω.2.2 Z = true) (hn_ : ω.2.1 ≤ h.size) (ac ab : Addr) (g : Nat → Int32) (Ac : oA Z h ac .char 6 (fun i_ => .int (g i_))) (Ab : oA Z h ab .byte 6 (fun i_ => .int (oZI i_))) (gb : ω.2.1 ≤ ab) (ne : ac ≠ ab) (hg : ∀ i, i < 6 → 0 ≤ (g i).toInt ∧ (g i).toInt ≤ 255) :
    oC Z ω (⟨"java/lang/StringUTF16", "compress", "([CI[BII)I"⟩ : MethodName) k6 [] #[.ref ac, .int (0 : Int32), .ref ab, .int (0 : Int32), .int (6 : Int32)] h (fun v h' => v = some (.int 6) ∧ Keep h h' [ab] ∧ oA Z h' ab .byte 6 (fun i_ => .int ((own_by g) i_))) := by
  refine oC_of hw_ hn_ pn6 rfl rfl (L := #[.val (.ref ac), .val (.int (0 : Int32)), .val (.ref ab), .val (.int (0 : Int32)), .val (.int (6 : Int32)), .unset, .unset]) (fun m => by first | (simp [entryFrame, mkF, argsToLocals, Value.category, k6]; done) | rfl) ?_
  intro γ T X
  refine ow_iconst X 1 (0 : Int32) d6_0 rfl rfl ?_
  refine ow_istore X 3 (L' := #[.val (.ref ac), .val (.int (0 : Int32)), .val (.ref ab), .val (.int (0 : Int32)), .val (.int (6 : Int32)), .val (.int (0 : Int32)), .unset]) d6_1 rfl rfl ?_
  refine ow_iload X 5 d6_3 rfl rfl ?_
  refine ow_iload X 7 d6_5 rfl rfl ?_
  refine ow_icmp_ge X 10 44 d6_7 rfl rfl (fun (c7 : 6 ≤ 0) => absurd c7 (by decide)) (fun (c7 : 0 < 6) => ?_)
  refine ow_aloadN X 11 d6_10 rfl rfl rfl ?_
  refine ow_iloadN X 12 d6_11 rfl rfl ?_
  refine ow_caload X 13 Ac d6_12 rfl (by decide) (by decide) rfl ?_
  refine ow_istore X 15 (L' := #[.val (.ref ac), .val (.int (0 : Int32)), .val (.ref ab), .val (.int (0 : Int32)), .val (.int (6 : Int32)), .val (.int (0 : Int32)), .val (.int (g (0 : Int32).toInt.toNat))]) d6_13 rfl rfl ?_
  refine ow_iload X 17 d6_15 rfl rfl ?_
  refine ow_sipush X 20 (255 : Int32) d6_17 rfl rfl ?_
  refine ow_icmp_le X 23 26 d6_20 rfl rfl (fun (c20 : (g (0 : Int32).toInt.toNat).toInt ≤ 255) => ?_) (fun (c20 : 255 < (g (0 : Int32).toInt.toNat).toInt) => absurd c20 (Int.not_lt.mpr (hg 0 (by decide)).2))
  refine ow_aloadN X 27 d6_26 rfl rfl rfl ?_
  refine ow_iloadN X 28 d6_27 rfl rfl ?_
  refine ow_iload X 30 d6_28 rfl rfl ?_
  refine ow_i2b X 31 d6_30 rfl ?_
  refine ow_bastore X 32 Ab gb d6_31 rfl (by decide) (by decide) ?_
  intro T_1 h_1 X_1 W_1
  have f2_0 : oA Z h_1 ac .char 6 (fun i_ => .int (g i_)) := Ac.other W_1 ne
  have f2_1 : oA Z h_1 ab .byte 6 (fun i_ => .int ((oUpd oZI ((0 : Int32).toInt.toNat) (((g (0 : Int32).toInt.toNat).toInt8.toInt32).toInt8.toInt32)) i_)) := Ab.setI W_1
  have f2_2 : Keep h h_1 [ab] := (Keep.refl h [ab]).wr W_1 (Or.inl (List.mem_of_getElem? (i := 0) rfl))
  refine ow_iinc X_1 35 (L' := #[.val (.ref ac), .val (.int ((0 : Int32) + (1 : Int32))), .val (.ref ab), .val (.int (0 : Int32)), .val (.int (6 : Int32)), .val (.int (0 : Int32)), .val (.int (g (0 : Int32).toInt.toNat))]) (1 : Int32) d6_32 rfl rfl rfl rfl ?_
  refine ow_iinc X_1 38 (L' := #[.val (.ref ac), .val (.int ((0 : Int32) + (1 : Int32))), .val (.ref ab), .val (.int ((0 : Int32) + (1 : Int32))), .val (.int (6 : Int32)), .val (.int (0 : Int32)), .val (.int (g (0 : Int32).toInt.toNat))]) (1 : Int32) d6_35 rfl rfl rfl rfl ?_
  refine ow_iinc X_1 41 (L' := #[.val (.ref ac), .val (.int ((0 : Int32) + (1 : Int32))), .val (.ref ab), .val (.int ((0 : Int32) + (1 : Int32))), .val (.int (6 : Int32)), .val (.int ((0 : Int32) + (1 : Int32))), .val (.int (g (0 : Int32).toInt.toNat))]) (1 : Int32) d6_38 rfl rfl rfl rfl ?_
  refine ow_goto X_1 3 d6_41 rfl ?_
  refine ow_iload X_1 5 d6_3 rfl rfl ?_
  refine ow_iload X_1 7 d6_5 rfl rfl ?_
  refine ow_icmp_ge X_1 10 44 d6_7 rfl rfl (fun (c7 : 6 ≤ ((0 : Int32) + (1 : Int32)).toInt) => absurd c7 (by decide)) (fun (c7 : ((0 : Int32) + (1 : Int32)).toInt < 6) => ?_)
  refine ow_aloadN X_1 11 d6_10 rfl rfl rfl ?_
  refine ow_iloadN X_1 12 d6_11 rfl rfl ?_
  refine ow_caload X_1 13 f2_0 d6_12 rfl (by decide) (by decide) rfl ?_
  refine ow_istore X_1 15 (L' := #[.val (.ref ac), .val (.int ((0 : Int32) + (1 : Int32))), .val (.ref ab), .val (.int ((0 : Int32) + (1 : Int32))), .val (.int (6 : Int32)), .val (.int ((0 : Int32) + (1 : Int32))), .val (.int (g ((0 : Int32) + (1 : Int32)).toInt.toNat))]) d6_13 rfl rfl ?_
  refine ow_iload X_1 17 d6_15 rfl rfl ?_
  refine ow_sipush X_1 20 (255 : Int32) d6_17 rfl rfl ?_
  refine ow_icmp_le X_1 23 26 d6_20 rfl rfl (fun (c20 : (g ((0 : Int32) + (1 : Int32)).toInt.toNat).toInt ≤ 255) => ?_) (fun (c20 : 255 < (g ((0 : Int32) + (1 : Int32)).toInt.toNat).toInt) => absurd c20 (Int.not_lt.mpr (hg 1 (by decide)).2))
  refine ow_aloadN X_1 27 d6_26 rfl rfl rfl ?_
  refine ow_iloadN X_1 28 d6_27 rfl rfl ?_
  refine ow_iload X_1 30 d6_28 rfl rfl ?_
  refine ow_i2b X_1 31 d6_30 rfl ?_
  refine ow_bastore X_1 32 f2_1 gb d6_31 rfl (by decide) (by decide) ?_
  intro T_3 h_3 X_3 W_3
  have f4_0 : oA Z h_3 ac .char 6 (fun i_ => .int (g i_)) := f2_0.other W_3 ne
  have f4_1 : oA Z h_3 ab .byte 6 (fun i_ => .int ((oUpd (oUpd oZI ((0 : Int32).toInt.toNat) (((g (0 : Int32).toInt.toNat).toInt8.toInt32).toInt8.toInt32)) (((0 : Int32) + (1 : Int32)).toInt.toNat) (((g ((0 : Int32) + (1 : Int32)).toInt.toNat).toInt8.toInt32).toInt8.toInt32)) i_)) := f2_1.setI W_3
  have f4_2 : Keep h h_3 [ab] := f2_2.wr W_3 (Or.inl (List.mem_of_getElem? (i := 0) rfl))
  refine ow_iinc X_3 35 (L' := #[.val (.ref ac), .val (.int (((0 : Int32) + (1 : Int32)) + (1 : Int32))), .val (.ref ab), .val (.int ((0 : Int32) + (1 : Int32))), .val (.int (6 : Int32)), .val (.int ((0 : Int32) + (1 : Int32))), .val (.int (g ((0 : Int32) + (1 : Int32)).toInt.toNat))]) (1 : Int32) d6_32 rfl rfl rfl rfl ?_
  refine ow_iinc X_3 38 (L' := #[.val (.ref ac), .val (.int (((0 : Int32) + (1 : Int32)) + (1 : Int32))), .val (.ref ab), .val (.int (((0 : Int32) + (1 : Int32)) + (1 : Int32))), .val (.int (6 : Int32)), .val (.int ((0 : Int32) + (1 : Int32))), .val (.int (g ((0 : Int32) + (1 : Int32)).toInt.toNat))]) (1 : Int32) d6_35 rfl rfl rfl rfl ?_
  refine ow_iinc X_3 41 (L' := #[.val (.ref ac), .val (.int (((0 : Int32) + (1 : Int32)) + (1 : Int32))), .val (.ref ab), .val (.int (((0 : Int32) + (1 : Int32)) + (1 : Int32))), .val (.int (6 : Int32)), .val (.int (((0 : Int32) + (1 : Int32)) + (1 : Int32))), .val (.int (g ((0 : Int32) + (1 : Int32)).toInt.toNat))]) (1 : Int32) d6_38 rfl rfl rfl rfl ?_
  refine ow_goto X_3 3 d6_41 rfl ?_
  refine ow_iload X_3 5 d6_3 rfl rfl ?_
  refine ow_iload X_3 7 d6_5 rfl rfl ?_
  refine ow_icmp_ge X_3 10 44 d6_7 rfl rfl (fun (c7 : 6 ≤ (((0 : Int32) + (1 : Int32)) + (1 : Int32)).toInt) => absurd c7 (by decide)) (fun (c7 : (((0 : Int32) + (1 : Int32)) + (1 : Int32)).toInt < 6) => ?_)
  refine ow_aloadN X_3 11 d6_10 rfl rfl rfl ?_
  refine ow_iloadN X_3 12 d6_11 rfl rfl ?_
  refine ow_caload X_3 13 f4_0 d6_12 rfl (by decide) (by decide) rfl ?_
  refine ow_istore X_3 15 (L' := #[.val (.ref ac), .val (.int (((0 : Int32) + (1 : Int32)) + (1 : Int32))), .val (.ref ab), .val (.int (((0 : Int32) + (1 : Int32)) + (1 : Int32))), .val (.int (6 : Int32)), .val (.int (((0 : Int32) + (1 : Int32)) + (1 : Int32))), .val (.int (g (((0 : Int32) + (1 : Int32)) + (1 : Int32)).toInt.toNat))]) d6_13 rfl rfl ?_
  refine ow_iload X_3 17 d6_15 rfl rfl ?_
  refine ow_sipush X_3 20 (255 : Int32) d6_17 rfl rfl ?_
  refine ow_icmp_le X_3 23 26 d6_20 rfl rfl (fun (c20 : (g (((0 : Int32) + (1 : Int32)) + (1 : Int32)).toInt.toNat).toInt ≤ 255) => ?_) (fun (c20 : 255 < (g (((0 : Int32) + (1 : Int32)) + (1 : Int32)).toInt.toNat).toInt) => absurd c20 (Int.not_lt.mpr (hg 2 (by decide)).2))
  refine ow_aloadN X_3 27 d6_26 rfl rfl rfl ?_
  refine ow_iloadN X_3 28 d6_27 rfl rfl ?_
  refine ow_iload X_3 30 d6_28 rfl rfl ?_
  refine ow_i2b X_3 31 d6_30 rfl ?_
  refine ow_bastore X_3 32 f4_1 gb d6_31 rfl (by decide) (by decide) ?_
  intro T_5 h_5 X_5 W_5
  have f6_0 : oA Z h_5 ac .char 6 (fun i_ => .int (g i_)) := f4_0.other W_5 ne
  have f6_1 : oA Z h_5 ab .byte 6 (fun i_ => .int ((oUpd (oUpd (oUpd oZI ((0 : Int32).toInt.toNat) (((g (0 : Int32).toInt.toNat).toInt8.toInt32).toInt8.toInt32)) (((0 : Int32) + (1 : Int32)).toInt.toNat) (((g ((0 : Int32) + (1 : Int32)).toInt.toNat).toInt8.toInt32).toInt8.toInt32)) ((((0 : Int32) + (1 : Int32)) + (1 : Int32)).toInt.toNat) (((g (((0 : Int32) + (1 : Int32)) + (1 : Int32)).toInt.toNat).toInt8.toInt32).toInt8.toInt32)) i_)) := f4_1.setI W_5
  have f6_2 : Keep h h_5 [ab] := f4_2.wr W_5 (Or.inl (List.mem_of_getElem? (i := 0) rfl))
  refine ow_iinc X_5 35 (L' := #[.val (.ref ac), .val (.int ((((0 : Int32) + (1 : Int32)) + (1 : Int32)) + (1 : Int32))), .val (.ref ab), .val (.int (((0 : Int32) + (1 : Int32)) + (1 : Int32))), .val (.int (6 : Int32)), .val (.int (((0 : Int32) + (1 : Int32)) + (1 : Int32))), .val (.int (g (((0 : Int32) + (1 : Int32)) + (1 : Int32)).toInt.toNat))]) (1 : Int32) d6_32 rfl rfl rfl rfl ?_
  refine ow_iinc X_5 38 (L' := #[.val (.ref ac), .val (.int ((((0 : Int32) + (1 : Int32)) + (1 : Int32)) + (1 : Int32))), .val (.ref ab), .val (.int ((((0 : Int32) + (1 : Int32)) + (1 : Int32)) + (1 : Int32))), .val (.int (6 : Int32)), .val (.int (((0 : Int32) + (1 : Int32)) + (1 : Int32))), .val (.int (g (((0 : Int32) + (1 : Int32)) + (1 : Int32)).toInt.toNat))]) (1 : Int32) d6_35 rfl rfl rfl rfl ?_
  refine ow_iinc X_5 41 (L' := #[.val (.ref ac), .val (.int ((((0 : Int32) + (1 : Int32)) + (1 : Int32)) + (1 : Int32))), .val (.ref ab), .val (.int ((((0 : Int32) + (1 : Int32)) + (1 : Int32)) + (1 : Int32))), .val (.int (6 : Int32)), .val (.int ((((0 : Int32) + (1 : Int32)) + (1 : Int32)) + (1 : Int32))), .val (.int (g (((0 : Int32) + (1 : Int32)) + (1 : Int32)).toInt.toNat))]) (1 : Int32) d6_38 rfl rfl rfl rfl ?_
  refine ow_goto X_5 3 d6_41 rfl ?_
  refine ow_iload X_5 5 d6_3 rfl rfl ?_
  refine ow_iload X_5 7 d6_5 rfl rfl ?_
  refine ow_icmp_ge X_5 10 44 d6_7 rfl rfl (fun (c7 : 6 ≤ ((((0 : Int32) + (1 : Int32)) + (1 : Int32)) + (1 : Int32)).toInt) => absurd c7 (by decide)) (fun (c7 : ((((0 : Int32) + (1 : Int32)) + (1 : Int32)) + (1 : Int32)).toInt < 6) => ?_)
  refine ow_aloadN X_5 11 d6_10 rfl rfl rfl ?_
  refine ow_iloadN X_5 12 d6_11 rfl rfl ?_
  refine ow_caload X_5 13 f6_0 d6_12 rfl (by decide) (by decide) rfl ?_
  refine ow_istore X_5 15 (L' := #[.val (.ref ac), .val (.int ((((0 : Int32) + (1 : Int32)) + (1 : Int32)) + (1 : Int32))), .val (.ref ab), .val (.int ((((0 : Int32) + (1 : Int32)) + (1 : Int32)) + (1 : Int32))), .val (.int (6 : Int32)), .val (.int ((((0 : Int32) + (1 : Int32)) + (1 : Int32)) + (1 : Int32))), .val (.int (g ((((0 : Int32) + (1 : Int32)) + (1 : Int32)) + (1 : Int32)).toInt.toNat))]) d6_13 rfl rfl ?_
  refine ow_iload X_5 17 d6_15 rfl rfl ?_
  refine ow_sipush X_5 20 (255 : Int32) d6_17 rfl rfl ?_
  refine ow_icmp_le X_5 23 26 d6_20 rfl rfl (fun (c20 : (g ((((0 : Int32) + (1 : Int32)) + (1 : Int32)) + (1 : Int32)).toInt.toNat).toInt ≤ 255) => ?_) (fun (c20 : 255 < (g ((((0 : Int32) + (1 : Int32)) + (1 : Int32)) + (1 : Int32)).toInt.toNat).toInt) => absurd c20 (Int.not_lt.mpr (hg 3 (by decide)).2))
  refine ow_aloadN X_5 27 d6_26 rfl rfl rfl ?_
  refine ow_iloadN X_5 28 d6_27 rfl rfl ?_
  refine ow_iload X_5 30 d6_28 rfl rfl ?_
  refine ow_i2b X_5 31 d6_30 rfl ?_
  refine ow_bastore X_5 32 f6_1 gb d6_31 rfl (by decide) (by decide) ?_
  intro T_7 h_7 X_7 W_7
  have f8_0 : oA Z h_7 ac .char 6 (fun i_ => .int (g i_)) := f6_0.other W_7 ne
  have f8_1 : oA Z h_7 ab .byte 6 (fun i_ => .int ((oUpd (oUpd (oUpd (oUpd oZI ((0 : Int32).toInt.toNat) (((g (0 : Int32).toInt.toNat).toInt8.toInt32).toInt8.toInt32)) (((0 : Int32) + (1 : Int32)).toInt.toNat) (((g ((0 : Int32) + (1 : Int32)).toInt.toNat).toInt8.toInt32).toInt8.toInt32)) ((((0 : Int32) + (1 : Int32)) + (1 : Int32)).toInt.toNat) (((g (((0 : Int32) + (1 : Int32)) + (1 : Int32)).toInt.toNat).toInt8.toInt32).toInt8.toInt32)) (((((0 : Int32) + (1 : Int32)) + (1 : Int32)) + (1 : Int32)).toInt.toNat) (((g ((((0 : Int32) + (1 : Int32)) + (1 : Int32)) + (1 : Int32)).toInt.toNat).toInt8.toInt32).toInt8.toInt32)) i_)) := f6_1.setI W_7
  have f8_2 : Keep h h_7 [ab] := f6_2.wr W_7 (Or.inl (List.mem_of_getElem? (i := 0) rfl))
  refine ow_iinc X_7 35 (L' := #[.val (.ref ac), .val (.int (((((0 : Int32) + (1 : Int32)) + (1 : Int32)) + (1 : Int32)) + (1 : Int32))), .val (.ref ab), .val (.int ((((0 : Int32) + (1 : Int32)) + (1 : Int32)) + (1 : Int32))), .val (.int (6 : Int32)), .val (.int ((((0 : Int32) + (1 : Int32)) + (1 : Int32)) + (1 : Int32))), .val (.int (g ((((0 : Int32) + (1 : Int32)) + (1 : Int32)) + (1 : Int32)).toInt.toNat))]) (1 : Int32) d6_32 rfl rfl rfl rfl ?_
  refine ow_iinc X_7 38 (L' := #[.val (.ref ac), .val (.int (((((0 : Int32) + (1 : Int32)) + (1 : Int32)) + (1 : Int32)) + (1 : Int32))), .val (.ref ab), .val (.int (((((0 : Int32) + (1 : Int32)) + (1 : Int32)) + (1 : Int32)) + (1 : Int32))), .val (.int (6 : Int32)), .val (.int ((((0 : Int32) + (1 : Int32)) + (1 : Int32)) + (1 : Int32))), .val (.int (g ((((0 : Int32) + (1 : Int32)) + (1 : Int32)) + (1 : Int32)).toInt.toNat))]) (1 : Int32) d6_35 rfl rfl rfl rfl ?_
  refine ow_iinc X_7 41 (L' := #[.val (.ref ac), .val (.int (((((0 : Int32) + (1 : Int32)) + (1 : Int32)) + (1 : Int32)) + (1 : Int32))), .val (.ref ab), .val (.int (((((0 : Int32) + (1 : Int32)) + (1 : Int32)) + (1 : Int32)) + (1 : Int32))), .val (.int (6 : Int32)), .val (.int (((((0 : Int32) + (1 : Int32)) + (1 : Int32)) + (1 : Int32)) + (1 : Int32))), .val (.int (g ((((0 : Int32) + (1 : Int32)) + (1 : Int32)) + (1 : Int32)).toInt.toNat))]) (1 : Int32) d6_38 rfl rfl rfl rfl ?_
  refine ow_goto X_7 3 d6_41 rfl ?_
  refine ow_iload X_7 5 d6_3 rfl rfl ?_
  refine ow_iload X_7 7 d6_5 rfl rfl ?_
  refine ow_icmp_ge X_7 10 44 d6_7 rfl rfl (fun (c7 : 6 ≤ (((((0 : Int32) + (1 : Int32)) + (1 : Int32)) + (1 : Int32)) + (1 : Int32)).toInt) => absurd c7 (by decide)) (fun (c7 : (((((0 : Int32) + (1 : Int32)) + (1 : Int32)) + (1 : Int32)) + (1 : Int32)).toInt < 6) => ?_)
  refine ow_aloadN X_7 11 d6_10 rfl rfl rfl ?_
  refine ow_iloadN X_7 12 d6_11 rfl rfl ?_
  refine ow_caload X_7 13 f8_0 d6_12 rfl (by decide) (by decide) rfl ?_
  refine ow_istore X_7 15 (L' := #[.val (.ref ac), .val (.int (((((0 : Int32) + (1 : Int32)) + (1 : Int32)) + (1 : Int32)) + (1 : Int32))), .val (.ref ab), .val (.int (((((0 : Int32) + (1 : Int32)) + (1 : Int32)) + (1 : Int32)) + (1 : Int32))), .val (.int (6 : Int32)), .val (.int (((((0 : Int32) + (1 : Int32)) + (1 : Int32)) + (1 : Int32)) + (1 : Int32))), .val (.int (g (((((0 : Int32) + (1 : Int32)) + (1 : Int32)) + (1 : Int32)) + (1 : Int32)).toInt.toNat))]) d6_13 rfl rfl ?_
  refine ow_iload X_7 17 d6_15 rfl rfl ?_
  refine ow_sipush X_7 20 (255 : Int32) d6_17 rfl rfl ?_
  refine ow_icmp_le X_7 23 26 d6_20 rfl rfl (fun (c20 : (g (((((0 : Int32) + (1 : Int32)) + (1 : Int32)) + (1 : Int32)) + (1 : Int32)).toInt.toNat).toInt ≤ 255) => ?_) (fun (c20 : 255 < (g (((((0 : Int32) + (1 : Int32)) + (1 : Int32)) + (1 : Int32)) + (1 : Int32)).toInt.toNat).toInt) => absurd c20 (Int.not_lt.mpr (hg 4 (by decide)).2))
  refine ow_aloadN X_7 27 d6_26 rfl rfl rfl ?_
  refine ow_iloadN X_7 28 d6_27 rfl rfl ?_
  refine ow_iload X_7 30 d6_28 rfl rfl ?_
  refine ow_i2b X_7 31 d6_30 rfl ?_
  refine ow_bastore X_7 32 f8_1 gb d6_31 rfl (by decide) (by decide) ?_
  intro T_9 h_9 X_9 W_9
  have f10_0 : oA Z h_9 ac .char 6 (fun i_ => .int (g i_)) := f8_0.other W_9 ne
  have f10_1 : oA Z h_9 ab .byte 6 (fun i_ => .int ((oUpd (oUpd (oUpd (oUpd (oUpd oZI ((0 : Int32).toInt.toNat) (((g (0 : Int32).toInt.toNat).toInt8.toInt32).toInt8.toInt32)) (((0 : Int32) + (1 : Int32)).toInt.toNat) (((g ((0 : Int32) + (1 : Int32)).toInt.toNat).toInt8.toInt32).toInt8.toInt32)) ((((0 : Int32) + (1 : Int32)) + (1 : Int32)).toInt.toNat) (((g (((0 : Int32) + (1 : Int32)) + (1 : Int32)).toInt.toNat).toInt8.toInt32).toInt8.toInt32)) (((((0 : Int32) + (1 : Int32)) + (1 : Int32)) + (1 : Int32)).toInt.toNat) (((g ((((0 : Int32) + (1 : Int32)) + (1 : Int32)) + (1 : Int32)).toInt.toNat).toInt8.toInt32).toInt8.toInt32)) ((((((0 : Int32) + (1 : Int32)) + (1 : Int32)) + (1 : Int32)) + (1 : Int32)).toInt.toNat) (((g (((((0 : Int32) + (1 : Int32)) + (1 : Int32)) + (1 : Int32)) + (1 : Int32)).toInt.toNat).toInt8.toInt32).toInt8.toInt32)) i_)) := f8_1.setI W_9
  have f10_2 : Keep h h_9 [ab] := f8_2.wr W_9 (Or.inl (List.mem_of_getElem? (i := 0) rfl))
  refine ow_iinc X_9 35 (L' := #[.val (.ref ac), .val (.int ((((((0 : Int32) + (1 : Int32)) + (1 : Int32)) + (1 : Int32)) + (1 : Int32)) + (1 : Int32))), .val (.ref ab), .val (.int (((((0 : Int32) + (1 : Int32)) + (1 : Int32)) + (1 : Int32)) + (1 : Int32))), .val (.int (6 : Int32)), .val (.int (((((0 : Int32) + (1 : Int32)) + (1 : Int32)) + (1 : Int32)) + (1 : Int32))), .val (.int (g (((((0 : Int32) + (1 : Int32)) + (1 : Int32)) + (1 : Int32)) + (1 : Int32)).toInt.toNat))]) (1 : Int32) d6_32 rfl rfl rfl rfl ?_
  refine ow_iinc X_9 38 (L' := #[.val (.ref ac), .val (.int ((((((0 : Int32) + (1 : Int32)) + (1 : Int32)) + (1 : Int32)) + (1 : Int32)) + (1 : Int32))), .val (.ref ab), .val (.int ((((((0 : Int32) + (1 : Int32)) + (1 : Int32)) + (1 : Int32)) + (1 : Int32)) + (1 : Int32))), .val (.int (6 : Int32)), .val (.int (((((0 : Int32) + (1 : Int32)) + (1 : Int32)) + (1 : Int32)) + (1 : Int32))), .val (.int (g (((((0 : Int32) + (1 : Int32)) + (1 : Int32)) + (1 : Int32)) + (1 : Int32)).toInt.toNat))]) (1 : Int32) d6_35 rfl rfl rfl rfl ?_
  refine ow_iinc X_9 41 (L' := #[.val (.ref ac), .val (.int ((((((0 : Int32) + (1 : Int32)) + (1 : Int32)) + (1 : Int32)) + (1 : Int32)) + (1 : Int32))), .val (.ref ab), .val (.int ((((((0 : Int32) + (1 : Int32)) + (1 : Int32)) + (1 : Int32)) + (1 : Int32)) + (1 : Int32))), .val (.int (6 : Int32)), .val (.int ((((((0 : Int32) + (1 : Int32)) + (1 : Int32)) + (1 : Int32)) + (1 : Int32)) + (1 : Int32))), .val (.int (g (((((0 : Int32) + (1 : Int32)) + (1 : Int32)) + (1 : Int32)) + (1 : Int32)).toInt.toNat))]) (1 : Int32) d6_38 rfl rfl rfl rfl ?_
  refine ow_goto X_9 3 d6_41 rfl ?_
  refine ow_iload X_9 5 d6_3 rfl rfl ?_
  refine ow_iload X_9 7 d6_5 rfl rfl ?_
  refine ow_icmp_ge X_9 10 44 d6_7 rfl rfl (fun (c7 : 6 ≤ ((((((0 : Int32) + (1 : Int32)) + (1 : Int32)) + (1 : Int32)) + (1 : Int32)) + (1 : Int32)).toInt) => absurd c7 (by decide)) (fun (c7 : ((((((0 : Int32) + (1 : Int32)) + (1 : Int32)) + (1 : Int32)) + (1 : Int32)) + (1 : Int32)).toInt < 6) => ?_)
  refine ow_aloadN X_9 11 d6_10 rfl rfl rfl ?_
  refine ow_iloadN X_9 12 d6_11 rfl rfl ?_
  refine ow_caload X_9 13 f10_0 d6_12 rfl (by decide) (by decide) rfl ?_
  refine ow_istore X_9 15 (L' := #[.val (.ref ac), .val (.int ((((((0 : Int32) + (1 : Int32)) + (1 : Int32)) + (1 : Int32)) + (1 : Int32)) + (1 : Int32))), .val (.ref ab), .val (.int ((((((0 : Int32) + (1 : Int32)) + (1 : Int32)) + (1 : Int32)) + (1 : Int32)) + (1 : Int32))), .val (.int (6 : Int32)), .val (.int ((((((0 : Int32) + (1 : Int32)) + (1 : Int32)) + (1 : Int32)) + (1 : Int32)) + (1 : Int32))), .val (.int (g ((((((0 : Int32) + (1 : Int32)) + (1 : Int32)) + (1 : Int32)) + (1 : Int32)) + (1 : Int32)).toInt.toNat))]) d6_13 rfl rfl ?_
  refine ow_iload X_9 17 d6_15 rfl rfl ?_
  refine ow_sipush X_9 20 (255 : Int32) d6_17 rfl rfl ?_
  refine ow_icmp_le X_9 23 26 d6_20 rfl rfl (fun (c20 : (g ((((((0 : Int32) + (1 : Int32)) + (1 : Int32)) + (1 : Int32)) + (1 : Int32)) + (1 : Int32)).toInt.toNat).toInt ≤ 255) => ?_) (fun (c20 : 255 < (g ((((((0 : Int32) + (1 : Int32)) + (1 : Int32)) + (1 : Int32)) + (1 : Int32)) + (1 : Int32)).toInt.toNat).toInt) => absurd c20 (Int.not_lt.mpr (hg 5 (by decide)).2))
  refine ow_aloadN X_9 27 d6_26 rfl rfl rfl ?_
  refine ow_iloadN X_9 28 d6_27 rfl rfl ?_
  refine ow_iload X_9 30 d6_28 rfl rfl ?_
  refine ow_i2b X_9 31 d6_30 rfl ?_
  refine ow_bastore X_9 32 f10_1 gb d6_31 rfl (by decide) (by decide) ?_
  intro T_11 h_11 X_11 W_11
  have f12_0 : oA Z h_11 ac .char 6 (fun i_ => .int (g i_)) := f10_0.other W_11 ne
  have f12_1 : oA Z h_11 ab .byte 6 (fun i_ => .int ((oUpd (oUpd (oUpd (oUpd (oUpd (oUpd oZI ((0 : Int32).toInt.toNat) (((g (0 : Int32).toInt.toNat).toInt8.toInt32).toInt8.toInt32)) (((0 : Int32) + (1 : Int32)).toInt.toNat) (((g ((0 : Int32) + (1 : Int32)).toInt.toNat).toInt8.toInt32).toInt8.toInt32)) ((((0 : Int32) + (1 : Int32)) + (1 : Int32)).toInt.toNat) (((g (((0 : Int32) + (1 : Int32)) + (1 : Int32)).toInt.toNat).toInt8.toInt32).toInt8.toInt32)) (((((0 : Int32) + (1 : Int32)) + (1 : Int32)) + (1 : Int32)).toInt.toNat) (((g ((((0 : Int32) + (1 : Int32)) + (1 : Int32)) + (1 : Int32)).toInt.toNat).toInt8.toInt32).toInt8.toInt32)) ((((((0 : Int32) + (1 : Int32)) + (1 : Int32)) + (1 : Int32)) + (1 : Int32)).toInt.toNat) (((g (((((0 : Int32) + (1 : Int32)) + (1 : Int32)) + (1 : Int32)) + (1 : Int32)).toInt.toNat).toInt8.toInt32).toInt8.toInt32)) (((((((0 : Int32) + (1 : Int32)) + (1 : Int32)) + (1 : Int32)) + (1 : Int32)) + (1 : Int32)).toInt.toNat) (((g ((((((0 : Int32) + (1 : Int32)) + (1 : Int32)) + (1 : Int32)) + (1 : Int32)) + (1 : Int32)).toInt.toNat).toInt8.toInt32).toInt8.toInt32)) i_)) := f10_1.setI W_11
  have f12_2 : Keep h h_11 [ab] := f10_2.wr W_11 (Or.inl (List.mem_of_getElem? (i := 0) rfl))
  refine ow_iinc X_11 35 (L' := #[.val (.ref ac), .val (.int (((((((0 : Int32) + (1 : Int32)) + (1 : Int32)) + (1 : Int32)) + (1 : Int32)) + (1 : Int32)) + (1 : Int32))), .val (.ref ab), .val (.int ((((((0 : Int32) + (1 : Int32)) + (1 : Int32)) + (1 : Int32)) + (1 : Int32)) + (1 : Int32))), .val (.int (6 : Int32)), .val (.int ((((((0 : Int32) + (1 : Int32)) + (1 : Int32)) + (1 : Int32)) + (1 : Int32)) + (1 : Int32))), .val (.int (g ((((((0 : Int32) + (1 : Int32)) + (1 : Int32)) + (1 : Int32)) + (1 : Int32)) + (1 : Int32)).toInt.toNat))]) (1 : Int32) d6_32 rfl rfl rfl rfl ?_
  refine ow_iinc X_11 38 (L' := #[.val (.ref ac), .val (.int (((((((0 : Int32) + (1 : Int32)) + (1 : Int32)) + (1 : Int32)) + (1 : Int32)) + (1 : Int32)) + (1 : Int32))), .val (.ref ab), .val (.int (((((((0 : Int32) + (1 : Int32)) + (1 : Int32)) + (1 : Int32)) + (1 : Int32)) + (1 : Int32)) + (1 : Int32))), .val (.int (6 : Int32)), .val (.int ((((((0 : Int32) + (1 : Int32)) + (1 : Int32)) + (1 : Int32)) + (1 : Int32)) + (1 : Int32))), .val (.int (g ((((((0 : Int32) + (1 : Int32)) + (1 : Int32)) + (1 : Int32)) + (1 : Int32)) + (1 : Int32)).toInt.toNat))]) (1 : Int32) d6_35 rfl rfl rfl rfl ?_
  refine ow_iinc X_11 41 (L' := #[.val (.ref ac), .val (.int (((((((0 : Int32) + (1 : Int32)) + (1 : Int32)) + (1 : Int32)) + (1 : Int32)) + (1 : Int32)) + (1 : Int32))), .val (.ref ab), .val (.int (((((((0 : Int32) + (1 : Int32)) + (1 : Int32)) + (1 : Int32)) + (1 : Int32)) + (1 : Int32)) + (1 : Int32))), .val (.int (6 : Int32)), .val (.int (((((((0 : Int32) + (1 : Int32)) + (1 : Int32)) + (1 : Int32)) + (1 : Int32)) + (1 : Int32)) + (1 : Int32))), .val (.int (g ((((((0 : Int32) + (1 : Int32)) + (1 : Int32)) + (1 : Int32)) + (1 : Int32)) + (1 : Int32)).toInt.toNat))]) (1 : Int32) d6_38 rfl rfl rfl rfl ?_
  refine ow_goto X_11 3 d6_41 rfl ?_
  refine ow_iload X_11 5 d6_3 rfl rfl ?_
  refine ow_iload X_11 7 d6_5 rfl rfl ?_
  refine ow_icmp_ge X_11 10 44 d6_7 rfl rfl (fun (c7 : 6 ≤ (((((((0 : Int32) + (1 : Int32)) + (1 : Int32)) + (1 : Int32)) + (1 : Int32)) + (1 : Int32)) + (1 : Int32)).toInt) => ?_) (fun (c7 : (((((((0 : Int32) + (1 : Int32)) + (1 : Int32)) + (1 : Int32)) + (1 : Int32)) + (1 : Int32)) + (1 : Int32)).toInt < 6) => absurd c7 (by decide))
  refine ow_iload X_11 46 d6_44 rfl rfl ?_
  refine ow_retI X_11 rfl d6_46 (by decide) (by decide) ?_
  have A9 : oA Z h_11 ab .byte 6 (fun i_ => .int ((own_by g) i_)) := f12_1.congr (fun i hi => by
    have : i = 0 ∨ i = 1 ∨ i = 2 ∨ i = 3 ∨ i = 4 ∨ i = 5 := by omega
    rcases this with rfl | rfl | rfl | rfl | rfl | rfl <;> rfl)
  exact ⟨rfl, f12_2, A9⟩
theorem d5_0 : decode jdk_52_method_16_code 0 = .ok (.iload_n 2, 1) := by decide +kernel
theorem d5_1 : decode jdk_52_method_16_code 1 = .ok (.newarray .byte, 2) := by decide +kernel
theorem d5_3 : decode jdk_52_method_16_code 3 = .ok (.astore_n 3, 1) := by decide +kernel
theorem d5_4 : decode jdk_52_method_16_code 4 = .ok (.aload_n 0, 1) := by decide +kernel
theorem d5_5 : decode jdk_52_method_16_code 5 = .ok (.iload_n 1, 1) := by decide +kernel
theorem d5_6 : decode jdk_52_method_16_code 6 = .ok (.aload_n 3, 1) := by decide +kernel
theorem d5_7 : decode jdk_52_method_16_code 7 = .ok (.iconst 0, 1) := by decide +kernel
theorem d5_8 : decode jdk_52_method_16_code 8 = .ok (.iload_n 2, 1) := by decide +kernel
theorem d5_9 : decode jdk_52_method_16_code 9 = .ok (.invokestatic 115, 3) := by decide +kernel
theorem d5_12 : decode jdk_52_method_16_code 12 = .ok (.istore 4, 2) := by decide +kernel
theorem d5_14 : decode jdk_52_method_16_code 14 = .ok (.iload 4, 2) := by decide +kernel
theorem d5_16 : decode jdk_52_method_16_code 16 = .ok (.iload_n 2, 1) := by decide +kernel
theorem d5_17 : decode jdk_52_method_16_code 17 = .ok (.if_icmp .eq 40, 3) := by decide +kernel
theorem d5_20 : decode jdk_52_method_16_code 20 = .ok (.aload_n 0, 1) := by decide +kernel
theorem d5_21 : decode jdk_52_method_16_code 21 = .ok (.iload_n 1, 1) := by decide +kernel
theorem d5_22 : decode jdk_52_method_16_code 22 = .ok (.iload_n 2, 1) := by decide +kernel
theorem d5_23 : decode jdk_52_method_16_code 23 = .ok (.invokestatic 119, 3) := by decide +kernel
theorem d5_26 : decode jdk_52_method_16_code 26 = .ok (.astore 5, 2) := by decide +kernel
theorem d5_28 : decode jdk_52_method_16_code 28 = .ok (.aload 5, 2) := by decide +kernel
theorem d5_30 : decode jdk_52_method_16_code 30 = .ok (.iload 4, 2) := by decide +kernel
theorem d5_32 : decode jdk_52_method_16_code 32 = .ok (.invokestatic 71, 3) := by decide +kernel
theorem d5_35 : decode jdk_52_method_16_code 35 = .ok (.sipush 255, 3) := by decide +kernel
theorem d5_38 : decode jdk_52_method_16_code 38 = .ok (.if_icmp .gt 16, 3) := by decide +kernel
theorem d5_41 : decode jdk_52_method_16_code 41 = .ok (.aload 5, 2) := by decide +kernel
theorem d5_43 : decode jdk_52_method_16_code 43 = .ok (.iconst 0, 1) := by decide +kernel
theorem d5_44 : decode jdk_52_method_16_code 44 = .ok (.aload_n 3, 1) := by decide +kernel
theorem d5_45 : decode jdk_52_method_16_code 45 = .ok (.iconst 0, 1) := by decide +kernel
theorem d5_46 : decode jdk_52_method_16_code 46 = .ok (.iload_n 2, 1) := by decide +kernel
theorem d5_47 : decode jdk_52_method_16_code 47 = .ok (.invokestatic 123, 3) := by decide +kernel
theorem d5_50 : decode jdk_52_method_16_code 50 = .ok (.iload_n 2, 1) := by decide +kernel
theorem d5_51 : decode jdk_52_method_16_code 51 = .ok (.if_icmp .eq 6, 3) := by decide +kernel
theorem d5_54 : decode jdk_52_method_16_code 54 = .ok (.aload 5, 2) := by decide +kernel
theorem d5_56 : decode jdk_52_method_16_code 56 = .ok (.areturn, 1) := by decide +kernel
theorem d5_57 : decode jdk_52_method_16_code 57 = .ok (.aload_n 3, 1) := by decide +kernel
theorem d5_58 : decode jdk_52_method_16_code 58 = .ok (.areturn, 1) := by decide +kernel
def k5 : OM := (jdk_52_method_16_code, 6, "java/lang/StringUTF16", "compress", (some (.array .byte)), { frames := 1, cells := 1, slots := 6, locals := 18 })
theorem pn5 : plainFor (⟨"java/lang/StringUTF16", "compress", "([CII)[B"⟩ : MethodName) = true := plainFor_of_name (by first | (simp [plainName, overriddenIn]; done) | decide +kernel)
theorem pd5 : parseMethodDescriptor "([CII)[B" = some ⟨[(.array .char), .int, .int], (some (.array .byte))⟩ := by decide +kernel
set_option maxRecDepth 65536 in
set_option maxHeartbeats 4000000 in
theorem C_cmp1 {Z : State} {ω : OW} {h : Heap} (hw_ : ∀ d ∈ tables_1, d.before ω.2.2 Z = true) (hn_ : ω.2.1 ≤ h.size) (ac : Addr) (g : Nat → Int32) (Ac : oA Z h ac .char 6 (fun i_ => .int (g i_))) (hg : ∀ i, i < 6 → 0 ≤ (g i).toInt ∧ (g i).toInt ≤ 255) :
    oC Z ω (⟨"java/lang/StringUTF16", "compress", "([CII)[B"⟩ : MethodName) k5 [] #[.ref ac, .int (0 : Int32), .int (6 : Int32)] h (fun v h' => ∃ ab : Addr, v = some (.ref ab) ∧ Keep h h' [] ∧ ω.2.1 ≤ ab ∧ h.size ≤ ab ∧ oA Z h' ab .byte 6 (fun i_ => .int ((own_by g) i_)) ∧ Exa Z h' ab "[B") := by
  refine oC_of hw_ hn_ pn5 rfl rfl (L := #[.val (.ref ac), .val (.int (0 : Int32)), .val (.int (6 : Int32)), .unset, .unset, .unset]) (fun m => by first | (simp [entryFrame, mkF, argsToLocals, Value.category, k5]; done) | rfl) ?_
  intro γ T X
  refine ow_iloadN X 1 d5_0 rfl rfl ?_
  refine ow_newPE X 3 28 (cap := 6) rfl rfl d5_1 rfl (by decide) (by decide) (by decide) (by decide) (by decide) ?_
  intro T_13 h_13 a_13 q_13 X_13 E_13 A_13 g_13 Ea_13
  have ne_ac_a_13 : ac ≠ a_13 := by rw [q_13]; exact Nat.ne_of_lt Ac.lt
  have ge_h_a_13 : h.size ≤ a_13 := by rw [q_13]; exact (Keep.refl h []).1
  have f14_0 : oA Z h_13 ac .char 6 (fun i_ => .int (g i_)) := Ac.ext E_13
  have f14_1 : Keep h h_13 [] := (Keep.refl h []).ext E_13
  have A_13 : oA Z h_13 a_13 .byte ((6 : Int32).toInt.toNat) (fun i_ => .int (oZI i_)) := A_13
  refine ow_astoreN X_13 4 (L' := #[.val (.ref ac), .val (.int (0 : Int32)), .val (.int (6 : Int32)), .val (.ref a_13), .unset, .unset]) d5_3 rfl rfl rfl ?_
  refine ow_aloadN X_13 5 d5_4 rfl rfl rfl ?_
  refine ow_iloadN X_13 6 d5_5 rfl rfl ?_
  refine ow_aloadN X_13 7 d5_6 rfl rfl rfl ?_
  refine ow_iconst X_13 8 (0 : Int32) d5_7 rfl rfl ?_
  refine ow_iloadN X_13 9 d5_8 rfl rfl ?_
  have Ab0 : oA Z h_13 a_13 .byte 6 (fun i_ => .int (oZI i_)) := A_13
  refine ow_callS X_13 12 29 30 26 31 (κ' := k6) (as := [.ref ac, .int (0 : Int32), .ref a_13, .int (0 : Int32), .int (6 : Int32)]) (S := []) (W := 0) rfl rfl rfl rfl rfl (by decide) (C_cmp2 (oSt_w X_13) (oSt_n0 X_13) ac a_13 g f14_0 Ab0 g_13 ne_ac_a_13 hg) (by decide) (by decide) (Nat.le_of_eq rfl) (by decide) (by decide) pd6 rfl rfl rfl d5_9 rfl ?_
  intro v_15 T_15 h_15 X_15 q_15
  obtain ⟨rfl, K15, B15⟩ := q_15
  have f16_0 : oA Z h_15 ac .char 6 (fun i_ => .int (g i_)) := f14_0.keep K15 (ninS ne_ac_a_13 nin0)
  have f16_1 : Keep h h_15 [] := f14_1.trans K15 (allS (Or.inr ge_h_a_13) all0)
  have f16_3 : Exa Z h_15 a_13 "[B" := Ea_13.keep K15
  show oWP ω γ k5 _ T_15 12 #[.val (.ref ac), .val (.int (0 : Int32)), .val (.int (6 : Int32)), .val (.ref a_13), .unset, .unset] [.int (6 : Int32)]
  refine ow_istore X_15 14 (L' := #[.val (.ref ac), .val (.int (0 : Int32)), .val (.int (6 : Int32)), .val (.ref a_13), .val (.int (6 : Int32)), .unset]) d5_12 rfl rfl ?_
  refine ow_iload X_15 16 d5_14 rfl rfl ?_
  refine ow_iloadN X_15 17 d5_16 rfl rfl ?_
  refine ow_icmp_eq X_15 20 57 d5_17 rfl rfl (fun (c17 : 6 = 6) => ?_) (fun (c17 : 6 ≠ 6) => absurd rfl c17)
  refine ow_aloadN X_15 58 d5_57 rfl rfl rfl ?_
  refine ow_retA X_15 rfl rfl rfl d5_58 (by decide) (by decide) ?_
  exact ⟨a_13, rfl, f16_1, g_13, ge_h_a_13, B15, f16_3⟩
theorem d7_0 : decode jdk_52_method_15_code 0 = .ok (.iload_n 1, 1) := by decide +kernel
theorem d7_1 : decode jdk_52_method_15_code 1 = .ok (.aload_n 0, 1) := by decide +kernel
theorem d7_2 : decode jdk_52_method_15_code 2 = .ok (.arraylength, 1) := by decide +kernel
theorem d7_3 : decode jdk_52_method_15_code 3 = .ok (.isub, 1) := by decide +kernel
theorem d7_4 : decode jdk_52_method_15_code 4 = .ok (.bipush 31, 2) := by decide +kernel
theorem d7_6 : decode jdk_52_method_15_code 6 = .ok (.iushr, 1) := by decide +kernel
theorem d7_7 : decode jdk_52_method_15_code 7 = .ok (.i2b, 1) := by decide +kernel
theorem d7_8 : decode jdk_52_method_15_code 8 = .ok (.ireturn, 1) := by decide +kernel
def k7 : OM := (jdk_52_method_15_code, 2, "java/lang/StringUTF16", "coderFromArrayLen", (some .byte), { frames := 0, cells := 0, slots := 0, locals := 0 })
theorem pn7 : plainFor (⟨"java/lang/StringUTF16", "coderFromArrayLen", "([BI)B"⟩ : MethodName) = true := plainFor_of_name (by first | (simp [plainName, overriddenIn]; done) | decide +kernel)
theorem pd7 : parseMethodDescriptor "([BI)B" = some ⟨[(.array .byte), .int], (some .byte)⟩ := by decide +kernel
set_option maxRecDepth 65536 in
set_option maxHeartbeats 4000000 in
theorem C_cfa {Z : State} {ω : OW} {h : Heap} (hw_ : ∀ d ∈ tables_1, d.before ω.2.2 Z = true) (hn_ : ω.2.1 ≤ h.size) (ab : Addr) (g : Nat → Int32) (Ab : oA Z h ab .byte 6 (fun i_ => .int ((own_by g) i_))) :
    oC Z ω (⟨"java/lang/StringUTF16", "coderFromArrayLen", "([BI)B"⟩ : MethodName) k7 [] #[.ref ab, .int (6 : Int32)] h (fun v h' => v = some (.int 0) ∧ h = h') := by
  refine oC_of hw_ hn_ pn7 rfl rfl (L := #[.val (.ref ab), .val (.int (6 : Int32))]) (fun m => by first | (simp [entryFrame, mkF, argsToLocals, Value.category, k7]; done) | rfl) ?_
  intro γ T X
  refine ow_iloadN X 1 d7_0 rfl rfl ?_
  refine ow_aloadN X 2 d7_1 rfl rfl rfl ?_
  refine ow_alen X 3 (v := (6 : Int32)) Ab d7_2 rfl rfl ?_
  refine ow_isub X 4 d7_3 rfl ?_
  refine ow_bipush X 6 (31 : Int32) d7_4 rfl rfl ?_
  refine ow_iushr X 7 d7_6 rfl ?_
  refine ow_i2b X 8 d7_7 rfl ?_
  refine ow_retB X rfl d7_8 (by decide) (by decide) rfl ?_
  exact ⟨rfl, rfl⟩
theorem d3_0 : decode jdk_42_method_149_code 0 = .ok (.aload_n 0, 1) := by decide +kernel
theorem d3_1 : decode jdk_42_method_149_code 1 = .ok (.invokespecial 1, 3) := by decide +kernel
theorem d3_4 : decode jdk_42_method_149_code 4 = .ok (.iload_n 3, 1) := by decide +kernel
theorem d3_5 : decode jdk_42_method_149_code 5 = .ok (.ifCond .ne 22, 3) := by decide +kernel
theorem d3_8 : decode jdk_42_method_149_code 8 = .ok (.aload_n 0, 1) := by decide +kernel
theorem d3_9 : decode jdk_42_method_149_code 9 = .ok (.ldc 7, 2) := by decide +kernel
theorem d3_11 : decode jdk_42_method_149_code 11 = .ok (.getfield 9, 3) := by decide +kernel
theorem d3_14 : decode jdk_42_method_149_code 14 = .ok (.putfield 9, 3) := by decide +kernel
theorem d3_17 : decode jdk_42_method_149_code 17 = .ok (.aload_n 0, 1) := by decide +kernel
theorem d3_18 : decode jdk_42_method_149_code 18 = .ok (.ldc 7, 2) := by decide +kernel
theorem d3_20 : decode jdk_42_method_149_code 20 = .ok (.getfield 15, 3) := by decide +kernel
theorem d3_23 : decode jdk_42_method_149_code 23 = .ok (.putfield 15, 3) := by decide +kernel
theorem d3_26 : decode jdk_42_method_149_code 26 = .ok (.return_, 1) := by decide +kernel
theorem d3_27 : decode jdk_42_method_149_code 27 = .ok (.getstatic 38, 3) := by decide +kernel
theorem d3_30 : decode jdk_42_method_149_code 30 = .ok (.ifCond .eq 28, 3) := by decide +kernel
theorem d3_33 : decode jdk_42_method_149_code 33 = .ok (.aload_n 1, 1) := by decide +kernel
theorem d3_34 : decode jdk_42_method_149_code 34 = .ok (.iload_n 2, 1) := by decide +kernel
theorem d3_35 : decode jdk_42_method_149_code 35 = .ok (.iload_n 3, 1) := by decide +kernel
theorem d3_36 : decode jdk_42_method_149_code 36 = .ok (.invokestatic 177, 3) := by decide +kernel
theorem d3_39 : decode jdk_42_method_149_code 39 = .ok (.astore 5, 2) := by decide +kernel
theorem d3_41 : decode jdk_42_method_149_code 41 = .ok (.aload_n 0, 1) := by decide +kernel
theorem d3_42 : decode jdk_42_method_149_code 42 = .ok (.aload 5, 2) := by decide +kernel
theorem d3_44 : decode jdk_42_method_149_code 44 = .ok (.iload_n 3, 1) := by decide +kernel
theorem d3_45 : decode jdk_42_method_149_code 45 = .ok (.invokestatic 47, 3) := by decide +kernel
theorem d3_48 : decode jdk_42_method_149_code 48 = .ok (.putfield 15, 3) := by decide +kernel
theorem d3_51 : decode jdk_42_method_149_code 51 = .ok (.aload_n 0, 1) := by decide +kernel
theorem d3_52 : decode jdk_42_method_149_code 52 = .ok (.aload 5, 2) := by decide +kernel
theorem d3_54 : decode jdk_42_method_149_code 54 = .ok (.putfield 9, 3) := by decide +kernel
theorem d3_57 : decode jdk_42_method_149_code 57 = .ok (.return_, 1) := by decide +kernel
theorem d3_58 : decode jdk_42_method_149_code 58 = .ok (.aload_n 0, 1) := by decide +kernel
theorem d3_59 : decode jdk_42_method_149_code 59 = .ok (.iconst 1, 1) := by decide +kernel
theorem d3_60 : decode jdk_42_method_149_code 60 = .ok (.putfield 15, 3) := by decide +kernel
theorem d3_63 : decode jdk_42_method_149_code 63 = .ok (.aload_n 0, 1) := by decide +kernel
theorem d3_64 : decode jdk_42_method_149_code 64 = .ok (.aload_n 1, 1) := by decide +kernel
theorem d3_65 : decode jdk_42_method_149_code 65 = .ok (.iload_n 2, 1) := by decide +kernel
theorem d3_66 : decode jdk_42_method_149_code 66 = .ok (.iload_n 3, 1) := by decide +kernel
theorem d3_67 : decode jdk_42_method_149_code 67 = .ok (.invokestatic 180, 3) := by decide +kernel
theorem d3_70 : decode jdk_42_method_149_code 70 = .ok (.putfield 9, 3) := by decide +kernel
theorem d3_73 : decode jdk_42_method_149_code 73 = .ok (.return_, 1) := by decide +kernel
def k3 : OM := (jdk_42_method_149_code, 6, "java/lang/String", "<init>", none, { frames := 2, cells := 1, slots := 6, locals := 35 })
theorem pn3 : plainFor (⟨"java/lang/String", "<init>", "([CIILjava/lang/Void;)V"⟩ : MethodName) = true := plainFor_of_name (by first | (simp [plainName, overriddenIn]; done) | decide +kernel)
theorem pd3 : parseMethodDescriptor "([CIILjava/lang/Void;)V" = some ⟨[(.array .char), .int, .int, (.object "java/lang/Void")], none⟩ := by decide +kernel
set_option maxRecDepth 65536 in
set_option maxHeartbeats 4000000 in
theorem C_si4 {Z : State} {ω : OW} {h : Heap} (hw_ : ∀ d ∈ tables_1, d.before ω.2.2 Z = true) (hn_ : ω.2.1 ≤ h.size) (a ac : Addr) (g : Nat → Int32) (zc : Int32) (R0 : STR Z h a .null (.int (0 : Int32))) (Ac : oA Z h ac .char 6 (fun i_ => .int (g i_))) (SC : Sta Z h "java/lang/String" "COMPACT_STRINGS" "Z" (.int zc)) (ga : ω.2.1 ≤ a) (nac : a ≠ ac) (hg : ∀ i, i < 6 → 0 ≤ (g i).toInt ∧ (g i).toInt ≤ 255) (hz : zc.toInt ≠ 0) :
    oC Z ω (⟨"java/lang/String", "<init>", "([CIILjava/lang/Void;)V"⟩ : MethodName) k3 [] #[.ref a, .ref ac, .int (0 : Int32), .int (6 : Int32), .null] h (fun v h' => v = none ∧ ∃ ab : Addr, Keep h h' [a] ∧ a ≠ ab ∧ ac ≠ ab ∧ ω.2.1 ≤ ab ∧ h.size ≤ ab ∧ STR Z h' a (.ref ab) (.int (0 : Int32)) ∧ oA Z h' ab .byte 6 (fun i_ => .int ((own_by g) i_)) ∧ Exa Z h' ab "[B") := by
  refine oC_of hw_ hn_ pn3 rfl rfl (L := #[.val (.ref a), .val (.ref ac), .val (.int (0 : Int32)), .val (.int (6 : Int32)), .val .null, .unset]) (fun m => by first | (simp [entryFrame, mkF, argsToLocals, Value.category, k3]; done) | rfl) ?_
  intro γ T X
  refine ow_aloadN X 1 d3_0 rfl rfl rfl ?_
  refine ow_initO X 4 20 21 22 rfl rfl rfl rfl d3_1 rfl rfl (by decide) (W := 0) (Nat.le_of_eq rfl) (by decide) ?_
  intro T_17 X_17
  refine ow_iloadN X_17 5 d3_4 rfl rfl ?_
  refine ow_if_ne X_17 8 27 d3_5 rfl rfl (fun (c5 : 6 ≠ 0) => ?_) (fun (c5 : 6 = 0) => absurd c5 (by decide))
  refine ow_getS X_17 30 23 rfl rfl SC d3_27 rfl ?_
  intro T_18 X_18
  refine ow_if_eq X_18 33 58 d3_30 rfl rfl (fun (c30 : zc.toInt = 0) => absurd c30 hz) (fun (c30 : zc.toInt ≠ 0) => ?_)
  refine ow_aloadN X_18 34 d3_33 rfl rfl rfl ?_
  refine ow_iloadN X_18 35 d3_34 rfl rfl ?_
  refine ow_iloadN X_18 36 d3_35 rfl rfl ?_
  refine ow_callS X_18 39 24 25 26 27 (κ' := k5) (as := [.ref ac, .int (0 : Int32), .int (6 : Int32)]) (S := []) (W := 0) rfl rfl rfl rfl rfl (by decide) (C_cmp1 (oSt_w X_18) (oSt_n0 X_18) ac g Ac hg) (by decide) (by decide) (Nat.le_of_eq rfl) (by decide) (by decide) pd5 rfl rfl rfl d3_36 rfl ?_
  intro v_19 T_19 h_19 X_19 q_19
  obtain ⟨ab19, rfl, K19, gn19, gh19, B19, E19⟩ := q_19
  have ne_a_ab19 : a ≠ ab19 := Nat.ne_of_lt (Nat.lt_of_lt_of_le R0.lt gh19)
  have ne_ac_ab19 : ac ≠ ab19 := Nat.ne_of_lt (Nat.lt_of_lt_of_le Ac.lt gh19)
  have f20_0 : STR Z h_19 a .null (.int (0 : Int32)) := R0.keep K19 nin0
  have f20_1 : oA Z h_19 ac .char 6 (fun i_ => .int (g i_)) := Ac.keep K19 nin0
  have f20_2 : Sta Z h_19 "java/lang/String" "COMPACT_STRINGS" "Z" (.int zc) := oSta_keep SC K19 all0
  have f20_3 : Keep h h_19 [a] := (Keep.refl h [a]).trans K19 all0
  show oWP ω γ k3 _ T_19 39 #[.val (.ref a), .val (.ref ac), .val (.int (0 : Int32)), .val (.int (6 : Int32)), .val .null, .unset] [.ref ab19]
  refine ow_astore X_19 41 (L' := #[.val (.ref a), .val (.ref ac), .val (.int (0 : Int32)), .val (.int (6 : Int32)), .val .null, .val (.ref ab19)]) d3_39 rfl rfl rfl ?_
  refine ow_aloadN X_19 42 d3_41 rfl rfl rfl ?_
  refine ow_aload X_19 44 d3_42 rfl rfl rfl ?_
  refine ow_iloadN X_19 45 d3_44 rfl rfl ?_
  refine ow_callS X_19 48 32 33 26 34 (κ' := k7) (as := [.ref ab19, .int (6 : Int32)]) (S := [.ref a]) (W := 1) rfl rfl rfl rfl rfl (by decide) (C_cfa (oSt_w X_19) (oSt_n0 X_19) ab19 g B19) (by decide) (by decide) (Nat.le_of_eq rfl) (by decide) (by decide) pd7 rfl rfl rfl d3_45 rfl ?_
  intro v_21 T_21 h_21 X_21 q_21
  obtain ⟨rfl, rfl⟩ := q_21
  show oWP ω γ k3 _ T_21 48 #[.val (.ref a), .val (.ref ac), .val (.int (0 : Int32)), .val (.int (6 : Int32)), .val .null, .val (.ref ab19)] [.int (0 : Int32), .ref a]
  refine ow_putF X_21 51 35 11 rfl rfl f20_0.2.2 f20_0.1 (Or.inr ⟨oSt_at X_21 36 rfl, rfl, rfl⟩) rfl (ty := .byte) (by decide) rfl rfl ga d3_48 rfl ?_
  intro T_22 h_22 X_22 W_22
  have f23_0 : STR Z h_22 a .null (.int (0 : Int32)) := STR.set_coder (oSt_w X_22) f20_0 W_22
  have f23_1 : oA Z h_22 ac .char 6 (fun i_ => .int (g i_)) := f20_1.other W_22 (Ne.symm nac)
  have f23_2 : Sta Z h_22 "java/lang/String" "COMPACT_STRINGS" "Z" (.int zc) := f20_2.wr W_22
  have f23_3 : Keep h h_22 [a] := f20_3.wr W_22 (Or.inl (List.mem_of_getElem? (i := 0) rfl))
  have f23_4 : oA Z h_22 ab19 .byte 6 (fun i_ => .int ((own_by g) i_)) := B19.other W_22 (Ne.symm ne_a_ab19)
  have f23_5 : Exa Z h_22 ab19 "[B" := E19.wr W_22
  refine ow_aloadN X_22 52 d3_51 rfl rfl rfl ?_
  refine ow_aload X_22 54 d3_52 rfl rfl rfl ?_
  refine ow_putF X_22 57 37 11 rfl rfl f23_0.2.1 f23_0.1 (Or.inr ⟨oSt_at X_22 38 rfl, rfl, rfl⟩) rfl (ty := (.array .byte)) (by decide) rfl rfl ga d3_54 rfl ?_
  intro T_24 h_24 X_24 W_24
  have f25_0 : STR Z h_24 a (.ref ab19) (.int (0 : Int32)) := STR.set_value (oSt_w X_24) f23_0 W_24
  have f25_1 : oA Z h_24 ac .char 6 (fun i_ => .int (g i_)) := f23_1.other W_24 (Ne.symm nac)
  have f25_2 : Sta Z h_24 "java/lang/String" "COMPACT_STRINGS" "Z" (.int zc) := f23_2.wr W_24
  have f25_3 : Keep h h_24 [a] := f23_3.wr W_24 (Or.inl (List.mem_of_getElem? (i := 0) rfl))
  have f25_4 : oA Z h_24 ab19 .byte 6 (fun i_ => .int ((own_by g) i_)) := f23_4.other W_24 (Ne.symm ne_a_ab19)
  have f25_5 : Exa Z h_24 ab19 "[B" := f23_5.wr W_24
  refine ow_retV X_24 rfl d3_57 (by decide) (by decide) ?_
  exact ⟨rfl, ab19, f25_3, ne_a_ab19, ne_ac_ab19, gn19, (Nat.le_trans (Keep.refl h [a]).1 gh19), f25_0, f25_4, f25_5⟩
theorem d2_0 : decode jdk_42_method_3_code 0 = .ok (.aload_n 0, 1) := by decide +kernel
theorem d2_1 : decode jdk_42_method_3_code 1 = .ok (.aload_n 1, 1) := by decide +kernel
theorem d2_2 : decode jdk_42_method_3_code 2 = .ok (.iconst 0, 1) := by decide +kernel
theorem d2_3 : decode jdk_42_method_3_code 3 = .ok (.aload_n 1, 1) := by decide +kernel
theorem d2_4 : decode jdk_42_method_3_code 4 = .ok (.arraylength, 1) := by decide +kernel
theorem d2_5 : decode jdk_42_method_3_code 5 = .ok (.aconst_null, 1) := by decide +kernel
theorem d2_6 : decode jdk_42_method_3_code 6 = .ok (.invokespecial 27, 3) := by decide +kernel
theorem d2_9 : decode jdk_42_method_3_code 9 = .ok (.return_, 1) := by decide +kernel
def k2 : OM := (jdk_42_method_3_code, 2, "java/lang/String", "<init>", none, { frames := 3, cells := 1, slots := 6, locals := 52 })
theorem pn2 : plainFor (⟨"java/lang/String", "<init>", "([C)V"⟩ : MethodName) = true := plainFor_of_name (by first | (simp [plainName, overriddenIn]; done) | decide +kernel)
theorem pd2 : parseMethodDescriptor "([C)V" = some ⟨[(.array .char)], none⟩ := by decide +kernel
set_option maxRecDepth 65536 in
set_option maxHeartbeats 4000000 in
theorem C_si1 {Z : State} {ω : OW} {h : Heap} (hw_ : ∀ d ∈ tables_1, d.before ω.2.2 Z = true) (hn_ : ω.2.1 ≤ h.size) (a ac : Addr) (g : Nat → Int32) (zc : Int32) (R0 : STR Z h a .null (.int (0 : Int32))) (Ac : oA Z h ac .char 6 (fun i_ => .int (g i_))) (SC : Sta Z h "java/lang/String" "COMPACT_STRINGS" "Z" (.int zc)) (ga : ω.2.1 ≤ a) (nac : a ≠ ac) (hg : ∀ i, i < 6 → 0 ≤ (g i).toInt ∧ (g i).toInt ≤ 255) (hz : zc.toInt ≠ 0) :
    oC Z ω (⟨"java/lang/String", "<init>", "([C)V"⟩ : MethodName) k2 [] #[.ref a, .ref ac] h (fun v h' => v = none ∧ ∃ ab : Addr, Keep h h' [a] ∧ a ≠ ab ∧ ac ≠ ab ∧ ω.2.1 ≤ ab ∧ h.size ≤ ab ∧ STR Z h' a (.ref ab) (.int (0 : Int32)) ∧ oA Z h' ab .byte 6 (fun i_ => .int ((own_by g) i_)) ∧ Exa Z h' ab "[B") := by
  refine oC_of hw_ hn_ pn2 rfl rfl (L := #[.val (.ref a), .val (.ref ac)]) (fun m => by first | (simp [entryFrame, mkF, argsToLocals, Value.category, k2]; done) | rfl) ?_
  intro γ T X
  refine ow_aloadN X 1 d2_0 rfl rfl rfl ?_
  refine ow_aloadN X 2 d2_1 rfl rfl rfl ?_
  refine ow_iconst X 3 (0 : Int32) d2_2 rfl rfl ?_
  refine ow_aloadN X 4 d2_3 rfl rfl rfl ?_
  refine ow_alen X 5 (v := (6 : Int32)) Ac d2_4 rfl rfl ?_
  refine ow_anull X 6 d2_5 rfl ?_
  refine ow_callC X 9 16 17 12 19 (κ' := k3) (as := [.ref ac, .int (0 : Int32), .int (6 : Int32), .null]) (S := []) (W := 0) rfl rfl rfl rfl rfl rfl rfl (by decide) (C_si4 (oSt_w X) (oSt_n0 X) a ac g zc R0 Ac SC ga nac hg hz) (by decide) (by decide) (Nat.le_of_eq rfl) (by decide) (by decide) pd3 rfl rfl rfl d2_6 rfl ?_
  intro v_26 T_26 h_26 X_26 q_26
  obtain ⟨rfl, ab26, K26, n1_26, n2_26, gn26, gh26, R26, B26, E26⟩ := q_26
  have f27_1 : oA Z h_26 ac .char 6 (fun i_ => .int (g i_)) := Ac.keep K26 (ninS (Ne.symm nac) nin0)
  have f27_2 : Sta Z h_26 "java/lang/String" "COMPACT_STRINGS" "Z" (.int zc) := oSta_keep SC K26 (allS (oExS R0.1) all0)
  have f27_3 : Keep h h_26 [a] := (Keep.refl h [a]).trans K26 (allS (Or.inl (List.mem_of_getElem? (i := 0) rfl)) all0)
  show oWP ω γ k2 _ T_26 9 #[.val (.ref a), .val (.ref ac)] []
  refine ow_retV X_26 rfl d2_9 (by decide) (by decide) ?_
  exact ⟨rfl, ab26, f27_3, n1_26, n2_26, gn26, (Nat.le_trans (Keep.refl h [a]).1 gh26), R26, B26, E26⟩
theorem d10_0 : decode jdk_42_method_152_code 0 = .ok (.getstatic 38, 3) := by decide +kernel
theorem d10_3 : decode jdk_42_method_152_code 3 = .ok (.ifCond .eq 10, 3) := by decide +kernel
theorem d10_6 : decode jdk_42_method_152_code 6 = .ok (.aload_n 0, 1) := by decide +kernel
theorem d10_7 : decode jdk_42_method_152_code 7 = .ok (.getfield 15, 3) := by decide +kernel
theorem d10_10 : decode jdk_42_method_152_code 10 = .ok (.goto 4, 3) := by decide +kernel
theorem d10_13 : decode jdk_42_method_152_code 13 = .ok (.iconst 1, 1) := by decide +kernel
theorem d10_14 : decode jdk_42_method_152_code 14 = .ok (.ireturn, 1) := by decide +kernel
def k10 : OM := (jdk_42_method_152_code, 1, "java/lang/String", "coder", (some .byte), { frames := 0, cells := 0, slots := 0, locals := 0 })
theorem pn10 : plainFor (⟨"java/lang/String", "coder", "()B"⟩ : MethodName) = true := plainFor_of_name (by first | (simp [plainName, overriddenIn]; done) | decide +kernel)
theorem pd10 : parseMethodDescriptor "()B" = some ⟨[], (some .byte)⟩ := by decide +kernel
set_option maxRecDepth 65536 in
set_option maxHeartbeats 4000000 in
theorem C_coder {Z : State} {ω : OW} {h : Heap} (hw_ : ∀ d ∈ tables_1, d.before ω.2.2 Z = true) (hn_ : ω.2.1 ≤ h.size) (a ab : Addr) (zc : Int32) (R0 : STR Z h a (.ref ab) (.int (0 : Int32))) (SC : Sta Z h "java/lang/String" "COMPACT_STRINGS" "Z" (.int zc)) (hz : zc.toInt ≠ 0) :
    oC Z ω (⟨"java/lang/String", "coder", "()B"⟩ : MethodName) k10 [] #[.ref a] h (fun v h' => v = some (.int 0) ∧ h = h') := by
  refine oC_of hw_ hn_ pn10 rfl rfl (L := #[.val (.ref a)]) (fun m => by first | (simp [entryFrame, mkF, argsToLocals, Value.category, k10]; done) | rfl) ?_
  intro γ T X
  refine ow_getS X 3 23 rfl rfl SC d10_0 rfl ?_
  intro T_28 X_28
  refine ow_if_eq X_28 6 13 d10_3 rfl rfl (fun (c3 : zc.toInt = 0) => absurd c3 hz) (fun (c3 : zc.toInt ≠ 0) => ?_)
  refine ow_aloadN X_28 7 d10_6 rfl rfl rfl ?_
  refine ow_getF X_28 10 35 rfl rfl R0.2.2 d10_7 rfl ?_
  intro T_29 X_29
  refine ow_goto X_29 14 d10_10 rfl ?_
  refine ow_retB X_29 rfl d10_14 (by decide) (by decide) rfl ?_
  exact ⟨rfl, rfl⟩
theorem d13_0 : decode jdk_42_method_27_code 0 = .ok (.iload_n 0, 1) := by decide +kernel
theorem d13_1 : decode jdk_42_method_27_code 1 = .ok (.ifCond .ne 11, 3) := by decide +kernel
theorem d13_4 : decode jdk_42_method_27_code 4 = .ok (.aload_n 1, 1) := by decide +kernel
theorem d13_5 : decode jdk_42_method_27_code 5 = .ok (.invokevirtual 279, 3) := by decide +kernel
theorem d13_8 : decode jdk_42_method_27_code 8 = .ok (.checkcast 280, 3) := by decide +kernel
theorem d13_11 : decode jdk_42_method_27_code 11 = .ok (.areturn, 1) := by decide +kernel
theorem d13_12 : decode jdk_42_method_27_code 12 = .ok (.aload_n 1, 1) := by decide +kernel
theorem d13_13 : decode jdk_42_method_27_code 13 = .ok (.arraylength, 1) := by decide +kernel
theorem d13_14 : decode jdk_42_method_27_code 14 = .ok (.iconst 1, 1) := by decide +kernel
theorem d13_15 : decode jdk_42_method_27_code 15 = .ok (.ishr, 1) := by decide +kernel
theorem d13_16 : decode jdk_42_method_27_code 16 = .ok (.istore_n 3, 1) := by decide +kernel
theorem d13_17 : decode jdk_42_method_27_code 17 = .ok (.iload_n 3, 1) := by decide +kernel
theorem d13_18 : decode jdk_42_method_27_code 18 = .ok (.newarray .byte, 2) := by decide +kernel
theorem d13_20 : decode jdk_42_method_27_code 20 = .ok (.astore 4, 2) := by decide +kernel
theorem d13_22 : decode jdk_42_method_27_code 22 = .ok (.iconst 0, 1) := by decide +kernel
theorem d13_23 : decode jdk_42_method_27_code 23 = .ok (.istore 5, 2) := by decide +kernel
theorem d13_25 : decode jdk_42_method_27_code 25 = .ok (.iconst 0, 1) := by decide +kernel
theorem d13_26 : decode jdk_42_method_27_code 26 = .ok (.istore 6, 2) := by decide +kernel
theorem d13_28 : decode jdk_42_method_27_code 28 = .ok (.iload_n 3, 1) := by decide +kernel
theorem d13_29 : decode jdk_42_method_27_code 29 = .ok (.istore 7, 2) := by decide +kernel
theorem d13_31 : decode jdk_42_method_27_code 31 = .ok (.iload 6, 2) := by decide +kernel
theorem d13_33 : decode jdk_42_method_27_code 33 = .ok (.iload 7, 2) := by decide +kernel
theorem d13_35 : decode jdk_42_method_27_code 35 = .ok (.if_icmp .ge 105, 3) := by decide +kernel
theorem d13_38 : decode jdk_42_method_27_code 38 = .ok (.aload_n 1, 1) := by decide +kernel
theorem d13_39 : decode jdk_42_method_27_code 39 = .ok (.iload 6, 2) := by decide +kernel
theorem d13_41 : decode jdk_42_method_27_code 41 = .ok (.aload 4, 2) := by decide +kernel
theorem d13_43 : decode jdk_42_method_27_code 43 = .ok (.iload 5, 2) := by decide +kernel
theorem d13_45 : decode jdk_42_method_27_code 45 = .ok (.iload_n 3, 1) := by decide +kernel
theorem d13_46 : decode jdk_42_method_27_code 46 = .ok (.invokestatic 373, 3) := by decide +kernel
theorem d13_49 : decode jdk_42_method_27_code 49 = .ok (.istore 8, 2) := by decide +kernel
theorem d13_51 : decode jdk_42_method_27_code 51 = .ok (.iload 6, 2) := by decide +kernel
theorem d13_53 : decode jdk_42_method_27_code 53 = .ok (.iload 8, 2) := by decide +kernel
theorem d13_55 : decode jdk_42_method_27_code 55 = .ok (.iadd, 1) := by decide +kernel
theorem d13_56 : decode jdk_42_method_27_code 56 = .ok (.istore 6, 2) := by decide +kernel
theorem d13_58 : decode jdk_42_method_27_code 58 = .ok (.iload 5, 2) := by decide +kernel
theorem d13_60 : decode jdk_42_method_27_code 60 = .ok (.iload 8, 2) := by decide +kernel
theorem d13_62 : decode jdk_42_method_27_code 62 = .ok (.iadd, 1) := by decide +kernel
theorem d13_63 : decode jdk_42_method_27_code 63 = .ok (.istore 5, 2) := by decide +kernel
theorem d13_65 : decode jdk_42_method_27_code 65 = .ok (.iload 8, 2) := by decide +kernel
theorem d13_67 : decode jdk_42_method_27_code 67 = .ok (.iload_n 3, 1) := by decide +kernel
theorem d13_68 : decode jdk_42_method_27_code 68 = .ok (.if_icmp .eq 69, 3) := by decide +kernel
theorem d13_71 : decode jdk_42_method_27_code 71 = .ok (.iload_n 2, 1) := by decide +kernel
theorem d13_72 : decode jdk_42_method_27_code 72 = .ok (.ifCond .ne 8, 3) := by decide +kernel
theorem d13_75 : decode jdk_42_method_27_code 75 = .ok (.iload 6, 2) := by decide +kernel
theorem d13_77 : decode jdk_42_method_27_code 77 = .ok (.invokestatic 377, 3) := by decide +kernel
theorem d13_80 : decode jdk_42_method_27_code 80 = .ok (.aload_n 1, 1) := by decide +kernel
theorem d13_81 : decode jdk_42_method_27_code 81 = .ok (.iload 6, 2) := by decide +kernel
theorem d13_83 : decode jdk_42_method_27_code 83 = .ok (.iinc 6 1, 3) := by decide +kernel
theorem d13_86 : decode jdk_42_method_27_code 86 = .ok (.invokestatic 360, 3) := by decide +kernel
theorem d13_89 : decode jdk_42_method_27_code 89 = .ok (.istore 9, 2) := by decide +kernel
theorem d13_91 : decode jdk_42_method_27_code 91 = .ok (.iload 9, 2) := by decide +kernel
theorem d13_93 : decode jdk_42_method_27_code 93 = .ok (.invokestatic 364, 3) := by decide +kernel
theorem d13_96 : decode jdk_42_method_27_code 96 = .ok (.ifCond .eq 25, 3) := by decide +kernel
theorem d13_99 : decode jdk_42_method_27_code 99 = .ok (.iload 6, 2) := by decide +kernel
theorem d13_101 : decode jdk_42_method_27_code 101 = .ok (.iload 7, 2) := by decide +kernel
theorem d13_103 : decode jdk_42_method_27_code 103 = .ok (.if_icmp .ge 18, 3) := by decide +kernel
theorem d13_106 : decode jdk_42_method_27_code 106 = .ok (.aload_n 1, 1) := by decide +kernel
theorem d13_107 : decode jdk_42_method_27_code 107 = .ok (.iload 6, 2) := by decide +kernel
theorem d13_109 : decode jdk_42_method_27_code 109 = .ok (.invokestatic 360, 3) := by decide +kernel
theorem d13_112 : decode jdk_42_method_27_code 112 = .ok (.invokestatic 370, 3) := by decide +kernel
theorem d13_115 : decode jdk_42_method_27_code 115 = .ok (.ifCond .eq 6, 3) := by decide +kernel
theorem d13_118 : decode jdk_42_method_27_code 118 = .ok (.iinc 6 1, 3) := by decide +kernel
theorem d13_121 : decode jdk_42_method_27_code 121 = .ok (.aload 4, 2) := by decide +kernel
theorem d13_123 : decode jdk_42_method_27_code 123 = .ok (.iload 5, 2) := by decide +kernel
theorem d13_125 : decode jdk_42_method_27_code 125 = .ok (.iinc 5 1, 3) := by decide +kernel
theorem d13_128 : decode jdk_42_method_27_code 128 = .ok (.bipush 63, 2) := by decide +kernel
theorem d13_130 : decode jdk_42_method_27_code 130 = .ok (.bastore, 1) := by decide +kernel
theorem d13_131 : decode jdk_42_method_27_code 131 = .ok (.iload 7, 2) := by decide +kernel
theorem d13_133 : decode jdk_42_method_27_code 133 = .ok (.iload 6, 2) := by decide +kernel
theorem d13_135 : decode jdk_42_method_27_code 135 = .ok (.isub, 1) := by decide +kernel
theorem d13_136 : decode jdk_42_method_27_code 136 = .ok (.istore_n 3, 1) := by decide +kernel
theorem d13_137 : decode jdk_42_method_27_code 137 = .ok (.goto (-106), 3) := by decide +kernel
theorem d13_140 : decode jdk_42_method_27_code 140 = .ok (.iload 5, 2) := by decide +kernel
theorem d13_142 : decode jdk_42_method_27_code 142 = .ok (.aload 4, 2) := by decide +kernel
theorem d13_144 : decode jdk_42_method_27_code 144 = .ok (.arraylength, 1) := by decide +kernel
theorem d13_145 : decode jdk_42_method_27_code 145 = .ok (.if_icmp .ne 6, 3) := by decide +kernel
theorem d13_148 : decode jdk_42_method_27_code 148 = .ok (.aload 4, 2) := by decide +kernel
theorem d13_150 : decode jdk_42_method_27_code 150 = .ok (.areturn, 1) := by decide +kernel
theorem d13_151 : decode jdk_42_method_27_code 151 = .ok (.aload 4, 2) := by decide +kernel
theorem d13_153 : decode jdk_42_method_27_code 153 = .ok (.iload 5, 2) := by decide +kernel
theorem d13_155 : decode jdk_42_method_27_code 155 = .ok (.invokestatic 102, 3) := by decide +kernel
theorem d13_158 : decode jdk_42_method_27_code 158 = .ok (.areturn, 1) := by decide +kernel
def k13 : OM := (jdk_42_method_27_code, 10, "java/lang/String", "encode8859_1", (some (.array .byte)), { frames := 1, cells := 1, slots := 6, locals := 14 })
theorem pn13 : plainFor (⟨"java/lang/String", "encode8859_1", "(B[BZ)[B"⟩ : MethodName) = true := plainFor_of_name (by first | (simp [plainName, overriddenIn]; done) | decide +kernel)
theorem pd13 : parseMethodDescriptor "(B[BZ)[B" = some ⟨[.byte, (.array .byte), .boolean], (some (.array .byte))⟩ := by decide +kernel
set_option maxRecDepth 65536 in
set_option maxHeartbeats 4000000 in
theorem C_en3 {Z : State} {ω : OW} {h : Heap} (hw_ : ∀ d ∈ tables_1, d.before ω.2.2 Z = true) (hn_ : ω.2.1 ≤ h.size) (ab : Addr) (g : Nat → Int32) (Ab : oA Z h ab .byte 6 (fun i_ => .int ((own_by g) i_))) (Eb : Exa Z h ab "[B") :
    oC Z ω (⟨"java/lang/String", "encode8859_1", "(B[BZ)[B"⟩ : MethodName) k13 [] #[.int (0 : Int32), .ref ab, .int (1 : Int32)] h (fun v h' => ∃ tb : Addr, v = some (.ref tb) ∧ Keep h h' [] ∧ ω.2.1 ≤ tb ∧ h.size ≤ tb ∧ oA Z h' tb .byte 6 (fun i_ => .int ((own_by g) i_))) := by
  refine oC_of hw_ hn_ pn13 rfl rfl (L := #[.val (.int (0 : Int32)), .val (.ref ab), .val (.int (1 : Int32)), .unset, .unset, .unset, .unset, .unset, .unset, .unset]) (fun m => by first | (simp [entryFrame, mkF, argsToLocals, Value.category, k13]; done) | rfl) ?_
  intro γ T X
  refine ow_iloadN X 1 d13_0 rfl rfl ?_
  refine ow_if_ne X 4 12 d13_1 rfl rfl (fun (c1 : 0 ≠ 0) => absurd rfl c1) (fun (c1 : 0 = 0) => ?_)
  refine ow_aloadN X 5 d13_4 rfl rfl rfl ?_
  refine ow_clone X 8 68 69 73 71 72 74 (W := 0) (cap := 6) rfl rfl rfl rfl rfl rfl rfl Ab Eb (fun i _ => own_fit _) (Nat.le_refl _) (by decide) (Nat.le_of_eq rfl) (by decide) (by decide) (by decide) rfl d13_5 rfl ?_
  intro T_30 h_30 a_30 q_30 X_30 E_30 A_30 Ea_30 g_30
  have ne_ab_a_30 : ab ≠ a_30 := by rw [q_30]; exact Nat.ne_of_lt Ab.lt
  have ge_h_a_30 : h.size ≤ a_30 := by rw [q_30]; exact (Keep.refl h []).1
  have f31_0 : oA Z h_30 ab .byte 6 (fun i_ => .int ((own_by g) i_)) := Ab.ext E_30
  have f31_1 : Exa Z h_30 ab "[B" := Exa.ext E_30 Eb
  have f31_2 : Keep h h_30 [] := (Keep.refl h []).ext E_30
  refine ow_cast X_30 11 75 rfl rfl (Ins.self Ea_30) d13_8 rfl ?_
  intro T_32 X_32
  refine ow_retA X_32 rfl rfl rfl d13_11 (by decide) (by decide) ?_
  exact ⟨a_30, rfl, f31_2, g_30, ge_h_a_30, A_30⟩
theorem d12_0 : decode jdk_42_method_26_code 0 = .ok (.iload_n 0, 1) := by decide +kernel
theorem d12_1 : decode jdk_42_method_26_code 1 = .ok (.aload_n 1, 1) := by decide +kernel
theorem d12_2 : decode jdk_42_method_26_code 2 = .ok (.iconst 1, 1) := by decide +kernel
theorem d12_3 : decode jdk_42_method_26_code 3 = .ok (.invokestatic 351, 3) := by decide +kernel
theorem d12_6 : decode jdk_42_method_26_code 6 = .ok (.areturn, 1) := by decide +kernel
def k12 : OM := (jdk_42_method_26_code, 2, "java/lang/String", "encode8859_1", (some (.array .byte)), { frames := 2, cells := 1, slots := 6, locals := 35 })
theorem pn12 : plainFor (⟨"java/lang/String", "encode8859_1", "(B[B)[B"⟩ : MethodName) = true := plainFor_of_name (by first | (simp [plainName, overriddenIn]; done) | decide +kernel)
theorem pd12 : parseMethodDescriptor "(B[B)[B" = some ⟨[.byte, (.array .byte)], (some (.array .byte))⟩ := by decide +kernel
set_option maxRecDepth 65536 in
set_option maxHeartbeats 4000000 in
theorem C_en2 {Z : State} {ω : OW} {h : Heap} (hw_ : ∀ d ∈ tables_1, d.before ω.2.2 Z = true) (hn_ : ω.2.1 ≤ h.size) (ab : Addr) (g : Nat → Int32) (Ab : oA Z h ab .byte 6 (fun i_ => .int ((own_by g) i_))) (Eb : Exa Z h ab "[B") :
    oC Z ω (⟨"java/lang/String", "encode8859_1", "(B[B)[B"⟩ : MethodName) k12 [] #[.int (0 : Int32), .ref ab] h (fun v h' => ∃ tb : Addr, v = some (.ref tb) ∧ Keep h h' [] ∧ ω.2.1 ≤ tb ∧ h.size ≤ tb ∧ oA Z h' tb .byte 6 (fun i_ => .int ((own_by g) i_))) := by
  refine oC_of hw_ hn_ pn12 rfl rfl (L := #[.val (.int (0 : Int32)), .val (.ref ab)]) (fun m => by first | (simp [entryFrame, mkF, argsToLocals, Value.category, k12]; done) | rfl) ?_
  intro γ T X
  refine ow_iloadN X 1 d12_0 rfl rfl ?_
  refine ow_aloadN X 2 d12_1 rfl rfl rfl ?_
  refine ow_iconst X 3 (1 : Int32) d12_2 rfl rfl ?_
  refine ow_callS X 6 65 66 12 67 (κ' := k13) (as := [.int (0 : Int32), .ref ab, .int (1 : Int32)]) (S := []) (W := 0) rfl rfl rfl rfl rfl (by decide) (C_en3 (oSt_w X) (oSt_n0 X) ab g Ab Eb) (by decide) (by decide) (Nat.le_of_eq rfl) (by decide) (by decide) pd13 rfl rfl rfl d12_3 rfl ?_
  intro v_33 T_33 h_33 X_33 q_33
  obtain ⟨tb33, rfl, K33, gn33, gh33, B33⟩ := q_33
  have ne_ab_tb33 : ab ≠ tb33 := Nat.ne_of_lt (Nat.lt_of_lt_of_le Ab.lt gh33)
  have f34_0 : oA Z h_33 ab .byte 6 (fun i_ => .int ((own_by g) i_)) := Ab.keep K33 nin0
  have f34_1 : Exa Z h_33 ab "[B" := Eb.keep K33
  have f34_2 : Keep h h_33 [] := (Keep.refl h []).trans K33 all0
  show oWP ω γ k12 _ T_33 6 #[.val (.int (0 : Int32)), .val (.ref ab)] [.ref tb33]
  refine ow_retA X_33 rfl rfl rfl d12_6 (by decide) (by decide) ?_
  exact ⟨tb33, rfl, f34_2, gn33, (Nat.le_trans (Keep.refl h []).1 gh33), B33⟩
theorem d11_0 : decode jdk_42_method_18_code 0 = .ok (.aload_n 0, 1) := by decide +kernel
theorem d11_1 : decode jdk_42_method_18_code 1 = .ok (.getstatic 86, 3) := by decide +kernel
theorem d11_4 : decode jdk_42_method_18_code 4 = .ok (.if_acmp .ne 10, 3) := by decide +kernel
theorem d11_7 : decode jdk_42_method_18_code 7 = .ok (.iload_n 1, 1) := by decide +kernel
theorem d11_8 : decode jdk_42_method_18_code 8 = .ok (.aload_n 2, 1) := by decide +kernel
theorem d11_9 : decode jdk_42_method_18_code 9 = .ok (.iconst 1, 1) := by decide +kernel
theorem d11_10 : decode jdk_42_method_18_code 10 = .ok (.invokestatic 252, 3) := by decide +kernel
theorem d11_13 : decode jdk_42_method_18_code 13 = .ok (.areturn, 1) := by decide +kernel
theorem d11_14 : decode jdk_42_method_18_code 14 = .ok (.aload_n 0, 1) := by decide +kernel
theorem d11_15 : decode jdk_42_method_18_code 15 = .ok (.getstatic 116, 3) := by decide +kernel
theorem d11_18 : decode jdk_42_method_18_code 18 = .ok (.if_acmp .ne 9, 3) := by decide +kernel
theorem d11_21 : decode jdk_42_method_18_code 21 = .ok (.iload_n 1, 1) := by decide +kernel
theorem d11_22 : decode jdk_42_method_18_code 22 = .ok (.aload_n 2, 1) := by decide +kernel
theorem d11_23 : decode jdk_42_method_18_code 23 = .ok (.invokestatic 256, 3) := by decide +kernel
theorem d11_26 : decode jdk_42_method_18_code 26 = .ok (.areturn, 1) := by decide +kernel
theorem d11_27 : decode jdk_42_method_18_code 27 = .ok (.aload_n 0, 1) := by decide +kernel
theorem d11_28 : decode jdk_42_method_18_code 28 = .ok (.getstatic 123, 3) := by decide +kernel
theorem d11_31 : decode jdk_42_method_18_code 31 = .ok (.if_acmp .ne 9, 3) := by decide +kernel
theorem d11_34 : decode jdk_42_method_18_code 34 = .ok (.iload_n 1, 1) := by decide +kernel
theorem d11_35 : decode jdk_42_method_18_code 35 = .ok (.aload_n 2, 1) := by decide +kernel
theorem d11_36 : decode jdk_42_method_18_code 36 = .ok (.invokestatic 260, 3) := by decide +kernel
theorem d11_39 : decode jdk_42_method_18_code 39 = .ok (.areturn, 1) := by decide +kernel
theorem d11_40 : decode jdk_42_method_18_code 40 = .ok (.aload_n 0, 1) := by decide +kernel
theorem d11_41 : decode jdk_42_method_18_code 41 = .ok (.iload_n 1, 1) := by decide +kernel
theorem d11_42 : decode jdk_42_method_18_code 42 = .ok (.aload_n 2, 1) := by decide +kernel
theorem d11_43 : decode jdk_42_method_18_code 43 = .ok (.iconst 1, 1) := by decide +kernel
theorem d11_44 : decode jdk_42_method_18_code 44 = .ok (.invokestatic 263, 3) := by decide +kernel
theorem d11_47 : decode jdk_42_method_18_code 47 = .ok (.areturn, 1) := by decide +kernel
def k11 : OM := (jdk_42_method_18_code, 3, "java/lang/String", "encode", (some (.array .byte)), { frames := 3, cells := 1, slots := 6, locals := 48 })
theorem pn11 : plainFor (⟨"java/lang/String", "encode", "(Ljava/nio/charset/Charset;B[B)[B"⟩ : MethodName) = true := plainFor_of_name (by first | (simp [plainName, overriddenIn]; done) | decide +kernel)
theorem pd11 : parseMethodDescriptor "(Ljava/nio/charset/Charset;B[B)[B" = some ⟨[(.object "java/nio/charset/Charset"), .byte, (.array .byte)], (some (.array .byte))⟩ := by decide +kernel
set_option maxRecDepth 65536 in
set_option maxHeartbeats 4000000 in
theorem C_enc {Z : State} {ω : OW} {h : Heap} (hw_ : ∀ d ∈ tables_1, d.before ω.2.2 Z = true) (hn_ : ω.2.1 ≤ h.size) (ab xI xV : Addr) (g : Nat → Int32) (Ab : oA Z h ab .byte 6 (fun i_ => .int ((own_by g) i_))) (Eb : Exa Z h ab "[B") (SJ : Sta Z h "sun/nio/cs/ISO_8859_1" "INSTANCE" "Lsun/nio/cs/ISO_8859_1;" (.ref xI)) (SV : Sta Z h "sun/nio/cs/UTF_8" "INSTANCE" "Lsun/nio/cs/UTF_8;" (.ref xV)) (hx : xI ≠ xV) :
    oC Z ω (⟨"java/lang/String", "encode", "(Ljava/nio/charset/Charset;B[B)[B"⟩ : MethodName) k11 [] #[.ref xI, .int (0 : Int32), .ref ab] h (fun v h' => ∃ tb : Addr, v = some (.ref tb) ∧ Keep h h' [] ∧ ω.2.1 ≤ tb ∧ h.size ≤ tb ∧ oA Z h' tb .byte 6 (fun i_ => .int ((own_by g) i_))) := by
  refine oC_of hw_ hn_ pn11 rfl rfl (L := #[.val (.ref xI), .val (.int (0 : Int32)), .val (.ref ab)]) (fun m => by first | (simp [entryFrame, mkF, argsToLocals, Value.category, k11]; done) | rfl) ?_
  intro γ T X
  refine ow_aloadN X 1 d11_0 rfl rfl rfl ?_
  refine ow_getS X 4 58 rfl rfl SV d11_1 rfl ?_
  intro T_35 X_35
  refine ow_acmp_ne X_35 7 14 rfl rfl d11_4 rfl rfl (fun c4 => ?_) (fun c4 => by exfalso; injection c4 with e; exact hx e)
  refine ow_aloadN X_35 15 d11_14 rfl rfl rfl ?_
  refine ow_getS X_35 18 60 rfl rfl SJ d11_15 rfl ?_
  intro T_36 X_36
  refine ow_acmp_ne X_36 21 27 rfl rfl d11_18 rfl rfl (fun c18 => absurd rfl c18) (fun c18 => ?_)
  refine ow_iloadN X_36 22 d11_21 rfl rfl ?_
  refine ow_aloadN X_36 23 d11_22 rfl rfl rfl ?_
  refine ow_callS X_36 26 62 63 12 64 (κ' := k12) (as := [.int (0 : Int32), .ref ab]) (S := []) (W := 0) rfl rfl rfl rfl rfl (by decide) (C_en2 (oSt_w X_36) (oSt_n0 X_36) ab g Ab Eb) (by decide) (by decide) (Nat.le_of_eq rfl) (by decide) (by decide) pd12 rfl rfl rfl d11_23 rfl ?_
  intro v_37 T_37 h_37 X_37 q_37
  obtain ⟨tb37, rfl, K37, gn37, gh37, B37⟩ := q_37
  have ne_ab_tb37 : ab ≠ tb37 := Nat.ne_of_lt (Nat.lt_of_lt_of_le Ab.lt gh37)
  have f38_0 : oA Z h_37 ab .byte 6 (fun i_ => .int ((own_by g) i_)) := Ab.keep K37 nin0
  have f38_1 : Exa Z h_37 ab "[B" := Eb.keep K37
  have f38_2 : Sta Z h_37 "sun/nio/cs/ISO_8859_1" "INSTANCE" "Lsun/nio/cs/ISO_8859_1;" (.ref xI) := oSta_keep SJ K37 all0
  have f38_3 : Sta Z h_37 "sun/nio/cs/UTF_8" "INSTANCE" "Lsun/nio/cs/UTF_8;" (.ref xV) := oSta_keep SV K37 all0
  have f38_4 : Keep h h_37 [] := (Keep.refl h []).trans K37 all0
  show oWP ω γ k11 _ T_37 26 #[.val (.ref xI), .val (.int (0 : Int32)), .val (.ref ab)] [.ref tb37]
  refine ow_retA X_37 rfl rfl rfl d11_26 (by decide) (by decide) ?_
  exact ⟨tb37, rfl, f38_4, gn37, (Nat.le_trans (Keep.refl h []).1 gh37), B37⟩
theorem d9_0 : decode jdk_42_method_64_code 0 = .ok (.aload_n 1, 1) := by decide +kernel
theorem d9_1 : decode jdk_42_method_64_code 1 = .ok (.ifnonnull 11, 3) := by decide +kernel
theorem d9_4 : decode jdk_42_method_64_code 4 = .ok (.new 538, 3) := by decide +kernel
theorem d9_7 : decode jdk_42_method_64_code 7 = .ok (.dup, 1) := by decide +kernel
theorem d9_8 : decode jdk_42_method_64_code 8 = .ok (.invokespecial 540, 3) := by decide +kernel
theorem d9_11 : decode jdk_42_method_64_code 11 = .ok (.athrow, 1) := by decide +kernel
theorem d9_12 : decode jdk_42_method_64_code 12 = .ok (.aload_n 1, 1) := by decide +kernel
theorem d9_13 : decode jdk_42_method_64_code 13 = .ok (.aload_n 0, 1) := by decide +kernel
theorem d9_14 : decode jdk_42_method_64_code 14 = .ok (.invokevirtual 335, 3) := by decide +kernel
theorem d9_17 : decode jdk_42_method_64_code 17 = .ok (.aload_n 0, 1) := by decide +kernel
theorem d9_18 : decode jdk_42_method_64_code 18 = .ok (.getfield 9, 3) := by decide +kernel
theorem d9_21 : decode jdk_42_method_64_code 21 = .ok (.invokestatic 535, 3) := by decide +kernel
theorem d9_24 : decode jdk_42_method_64_code 24 = .ok (.areturn, 1) := by decide +kernel
def k9 : OM := (jdk_42_method_64_code, 2, "java/lang/String", "getBytes", (some (.array .byte)), { frames := 4, cells := 1, slots := 6, locals := 62 })
theorem pn9 : plainFor (⟨"java/lang/String", "getBytes", "(Ljava/nio/charset/Charset;)[B"⟩ : MethodName) = true := plainFor_of_name (by first | (simp [plainName, overriddenIn]; done) | decide +kernel)
theorem pd9 : parseMethodDescriptor "(Ljava/nio/charset/Charset;)[B" = some ⟨[(.object "java/nio/charset/Charset")], (some (.array .byte))⟩ := by decide +kernel
set_option maxRecDepth 65536 in
set_option maxHeartbeats 4000000 in
theorem C_gb {Z : State} {ω : OW} {h : Heap} (hw_ : ∀ d ∈ tables_1, d.before ω.2.2 Z = true) (hn_ : ω.2.1 ≤ h.size) (a ab xI xV : Addr) (g : Nat → Int32) (zc : Int32) (R0 : STR Z h a (.ref ab) (.int (0 : Int32))) (Ab : oA Z h ab .byte 6 (fun i_ => .int ((own_by g) i_))) (Eb : Exa Z h ab "[B") (SC : Sta Z h "java/lang/String" "COMPACT_STRINGS" "Z" (.int zc)) (SJ : Sta Z h "sun/nio/cs/ISO_8859_1" "INSTANCE" "Lsun/nio/cs/ISO_8859_1;" (.ref xI)) (SV : Sta Z h "sun/nio/cs/UTF_8" "INSTANCE" "Lsun/nio/cs/UTF_8;" (.ref xV)) (hx : xI ≠ xV) (hz : zc.toInt ≠ 0) :
    oC Z ω (⟨"java/lang/String", "getBytes", "(Ljava/nio/charset/Charset;)[B"⟩ : MethodName) k9 [] #[.ref a, .ref xI] h (fun v h' => ∃ tb : Addr, v = some (.ref tb) ∧ Keep h h' [] ∧ ω.2.1 ≤ tb ∧ h.size ≤ tb ∧ oA Z h' tb .byte 6 (fun i_ => .int ((own_by g) i_))) := by
  refine oC_of hw_ hn_ pn9 rfl rfl (L := #[.val (.ref a), .val (.ref xI)]) (fun m => by first | (simp [entryFrame, mkF, argsToLocals, Value.category, k9]; done) | rfl) ?_
  intro γ T X
  refine ow_aloadN X 1 d9_0 rfl rfl rfl ?_
  refine ow_ifnonnull X 4 12 rfl d9_1 rfl rfl (fun c1 => ?_) (fun c1 => by cases c1)
  refine ow_aloadN X 13 d9_12 rfl rfl rfl ?_
  refine ow_aloadN X 14 d9_13 rfl rfl rfl ?_
  refine ow_callV X 17 50 51 53 52 54 12 (κ' := k10) (as := []) (S := [.ref xI]) (W := 1) rfl rfl rfl rfl rfl rfl rfl (by decide) R0.1 (C_coder (oSt_w X) (oSt_n0 X) a ab zc R0 SC hz) (by decide) (by decide) (Nat.le_of_eq rfl) (by decide) (by decide) pd10 rfl rfl rfl d9_14 rfl ?_
  intro v_39 T_39 h_39 X_39 q_39
  obtain ⟨rfl, rfl⟩ := q_39
  show oWP ω γ k9 _ T_39 17 #[.val (.ref a), .val (.ref xI)] [.int (0 : Int32), .ref xI]
  refine ow_aloadN X_39 18 d9_17 rfl rfl rfl ?_
  refine ow_getF X_39 21 37 rfl rfl R0.2.1 d9_18 rfl ?_
  intro T_40 X_40
  refine ow_callS X_40 24 55 56 12 57 (κ' := k11) (as := [.ref xI, .int (0 : Int32), .ref ab]) (S := []) (W := 0) rfl rfl rfl rfl rfl (by decide) (C_enc (oSt_w X_40) (oSt_n0 X_40) ab xI xV g Ab Eb SJ SV hx) (by decide) (by decide) (Nat.le_of_eq rfl) (by decide) (by decide) pd11 rfl rfl rfl d9_21 rfl ?_
  intro v_41 T_41 h_41 X_41 q_41
  obtain ⟨tb41, rfl, K41, gn41, gh41, B41⟩ := q_41
  have ne_a_tb41 : a ≠ tb41 := Nat.ne_of_lt (Nat.lt_of_lt_of_le R0.lt gh41)
  have ne_ab_tb41 : ab ≠ tb41 := Nat.ne_of_lt (Nat.lt_of_lt_of_le Ab.lt gh41)
  have f42_0 : STR Z h_41 a (.ref ab) (.int (0 : Int32)) := R0.keep K41 nin0
  have f42_1 : oA Z h_41 ab .byte 6 (fun i_ => .int ((own_by g) i_)) := Ab.keep K41 nin0
  have f42_2 : Exa Z h_41 ab "[B" := Eb.keep K41
  have f42_3 : Sta Z h_41 "java/lang/String" "COMPACT_STRINGS" "Z" (.int zc) := oSta_keep SC K41 all0
  have f42_4 : Sta Z h_41 "sun/nio/cs/ISO_8859_1" "INSTANCE" "Lsun/nio/cs/ISO_8859_1;" (.ref xI) := oSta_keep SJ K41 all0
  have f42_5 : Sta Z h_41 "sun/nio/cs/UTF_8" "INSTANCE" "Lsun/nio/cs/UTF_8;" (.ref xV) := oSta_keep SV K41 all0
  have f42_6 : Keep h h_41 [] := (Keep.refl h []).trans K41 all0
  show oWP ω γ k9 _ T_41 24 #[.val (.ref a), .val (.ref xI)] [.ref tb41]
  refine ow_retA X_41 rfl rfl rfl d9_24 (by decide) (by decide) ?_
  exact ⟨tb41, rfl, f42_6, gn41, (Nat.le_trans (Keep.refl h []).1 gh41), B41⟩
theorem d8_0 : decode prog_68_method_1_code 0 = .ok (.aload_n 0, 1) := by decide +kernel
theorem d8_1 : decode prog_68_method_1_code 1 = .ok (.invokespecial 1, 3) := by decide +kernel
theorem d8_4 : decode prog_68_method_1_code 4 = .ok (.aload_n 0, 1) := by decide +kernel
theorem d8_5 : decode prog_68_method_1_code 5 = .ok (.aload_n 1, 1) := by decide +kernel
theorem d8_6 : decode prog_68_method_1_code 6 = .ok (.getstatic 7, 3) := by decide +kernel
theorem d8_9 : decode prog_68_method_1_code 9 = .ok (.invokevirtual 13, 3) := by decide +kernel
theorem d8_12 : decode prog_68_method_1_code 12 = .ok (.putfield 19, 3) := by decide +kernel
theorem d8_15 : decode prog_68_method_1_code 15 = .ok (.return_, 1) := by decide +kernel
def k8 : OM := (prog_68_method_1_code, 2, "com/example/rexquill/rexquill/TableReader", "<init>", none, { frames := 5, cells := 1, slots := 6, locals := 76 })
theorem pn8 : plainFor (⟨"com/example/rexquill/rexquill/TableReader", "<init>", "(Ljava/lang/String;)V"⟩ : MethodName) = true := plainFor_of_name (by first | (simp [plainName, overriddenIn]; done) | decide +kernel)
theorem pd8 : parseMethodDescriptor "(Ljava/lang/String;)V" = some ⟨[(.object "java/lang/String")], none⟩ := by decide +kernel
set_option maxRecDepth 65536 in
set_option maxHeartbeats 4000000 in
theorem C_tri {Z : State} {ω : OW} {h : Heap} (hw_ : ∀ d ∈ tables_1, d.before ω.2.2 Z = true) (hn_ : ω.2.1 ≤ h.size) (r a ab xI xV : Addr) (g : Nat → Int32) (zc : Int32) (T0 : TRR Z h r .null (.int (0 : Int32))) (R0 : STR Z h a (.ref ab) (.int (0 : Int32))) (Ab : oA Z h ab .byte 6 (fun i_ => .int ((own_by g) i_))) (Eb : Exa Z h ab "[B") (SC : Sta Z h "java/lang/String" "COMPACT_STRINGS" "Z" (.int zc)) (SJ : Sta Z h "sun/nio/cs/ISO_8859_1" "INSTANCE" "Lsun/nio/cs/ISO_8859_1;" (.ref xI)) (SV : Sta Z h "sun/nio/cs/UTF_8" "INSTANCE" "Lsun/nio/cs/UTF_8;" (.ref xV)) (SI : Sta Z h "java/nio/charset/StandardCharsets" "ISO_8859_1" "Ljava/nio/charset/Charset;" (.ref xI)) (gr : ω.2.1 ≤ r) (nra : r ≠ a) (nrb : r ≠ ab) (hx : xI ≠ xV) (hz : zc.toInt ≠ 0) :
    oC Z ω (⟨"com/example/rexquill/rexquill/TableReader", "<init>", "(Ljava/lang/String;)V"⟩ : MethodName) k8 [] #[.ref r, .ref a] h (fun v h' => v = none ∧ ∃ tb : Addr, Keep h h' [r] ∧ r ≠ tb ∧ TRR Z h' r (.ref tb) (.int (0 : Int32)) ∧ oA Z h' tb .byte 6 (fun i_ => .int ((own_by g) i_))) := by
  refine oC_of hw_ hn_ pn8 rfl rfl (L := #[.val (.ref r), .val (.ref a)]) (fun m => by first | (simp [entryFrame, mkF, argsToLocals, Value.category, k8]; done) | rfl) ?_
  intro γ T X
  refine ow_aloadN X 1 d8_0 rfl rfl rfl ?_
  refine ow_initO X 4 42 21 22 rfl rfl rfl rfl d8_1 rfl rfl (by decide) (W := 0) (Nat.le_of_eq rfl) (by decide) ?_
  intro T_43 X_43
  refine ow_aloadN X_43 5 d8_4 rfl rfl rfl ?_
  refine ow_aloadN X_43 6 d8_5 rfl rfl rfl ?_
  refine ow_getS X_43 9 43 rfl rfl SI d8_6 rfl ?_
  intro T_44 X_44
  refine ow_callV X_44 12 45 46 48 47 49 12 (κ' := k9) (as := [.ref xI]) (S := [.ref r]) (W := 1) rfl rfl rfl rfl rfl rfl rfl (by decide) R0.1 (C_gb (oSt_w X_44) (oSt_n0 X_44) a ab xI xV g zc R0 Ab Eb SC SJ SV hx hz) (by decide) (by decide) (Nat.le_of_eq rfl) (by decide) (by decide) pd9 rfl rfl rfl d8_9 rfl ?_
  intro v_45 T_45 h_45 X_45 q_45
  obtain ⟨tb45, rfl, K45, gn45, gh45, B45⟩ := q_45
  have ne_r_tb45 : r ≠ tb45 := Nat.ne_of_lt (Nat.lt_of_lt_of_le T0.lt gh45)
  have ne_a_tb45 : a ≠ tb45 := Nat.ne_of_lt (Nat.lt_of_lt_of_le R0.lt gh45)
  have ne_ab_tb45 : ab ≠ tb45 := Nat.ne_of_lt (Nat.lt_of_lt_of_le Ab.lt gh45)
  have f46_0 : TRR Z h_45 r .null (.int (0 : Int32)) := T0.keep K45 nin0
  have f46_1 : STR Z h_45 a (.ref ab) (.int (0 : Int32)) := R0.keep K45 nin0
  have f46_2 : oA Z h_45 ab .byte 6 (fun i_ => .int ((own_by g) i_)) := Ab.keep K45 nin0
  have f46_3 : Exa Z h_45 ab "[B" := Eb.keep K45
  have f46_4 : Sta Z h_45 "java/lang/String" "COMPACT_STRINGS" "Z" (.int zc) := oSta_keep SC K45 all0
  have f46_5 : Sta Z h_45 "sun/nio/cs/ISO_8859_1" "INSTANCE" "Lsun/nio/cs/ISO_8859_1;" (.ref xI) := oSta_keep SJ K45 all0
  have f46_6 : Sta Z h_45 "sun/nio/cs/UTF_8" "INSTANCE" "Lsun/nio/cs/UTF_8;" (.ref xV) := oSta_keep SV K45 all0
  have f46_7 : Sta Z h_45 "java/nio/charset/StandardCharsets" "ISO_8859_1" "Ljava/nio/charset/Charset;" (.ref xI) := oSta_keep SI K45 all0
  have f46_8 : Keep h h_45 [r] := (Keep.refl h [r]).trans K45 all0
  show oWP ω γ k8 _ T_45 12 #[.val (.ref r), .val (.ref a)] [.ref tb45, .ref r]
  refine ow_putF X_45 15 77 8 rfl rfl f46_0.2.1 f46_0.1 (Or.inr ⟨oSt_at X_45 78 rfl, rfl, rfl⟩) rfl (ty := (.array .byte)) (by decide) rfl rfl gr d8_12 rfl ?_
  intro T_47 h_47 X_47 W_47
  have f48_0 : TRR Z h_47 r (.ref tb45) (.int (0 : Int32)) := TRR.set_table (oSt_w X_47) f46_0 W_47
  have f48_1 : STR Z h_47 a (.ref ab) (.int (0 : Int32)) := f46_1.other W_47 (Ne.symm nra)
  have f48_2 : oA Z h_47 ab .byte 6 (fun i_ => .int ((own_by g) i_)) := f46_2.other W_47 (Ne.symm nrb)
  have f48_3 : Exa Z h_47 ab "[B" := f46_3.wr W_47
  have f48_4 : Sta Z h_47 "java/lang/String" "COMPACT_STRINGS" "Z" (.int zc) := f46_4.wr W_47
  have f48_5 : Sta Z h_47 "sun/nio/cs/ISO_8859_1" "INSTANCE" "Lsun/nio/cs/ISO_8859_1;" (.ref xI) := f46_5.wr W_47
  have f48_6 : Sta Z h_47 "sun/nio/cs/UTF_8" "INSTANCE" "Lsun/nio/cs/UTF_8;" (.ref xV) := f46_6.wr W_47
  have f48_7 : Sta Z h_47 "java/nio/charset/StandardCharsets" "ISO_8859_1" "Ljava/nio/charset/Charset;" (.ref xI) := f46_7.wr W_47
  have f48_8 : Keep h h_47 [r] := f46_8.wr W_47 (Or.inl (List.mem_of_getElem? (i := 0) rfl))
  have f48_9 : oA Z h_47 tb45 .byte 6 (fun i_ => .int ((own_by g) i_)) := B45.other W_47 (Ne.symm ne_r_tb45)
  refine ow_retV X_47 rfl d8_15 (by decide) (by decide) ?_
  exact ⟨rfl, tb45, f48_8, ne_r_tb45, f48_0, f48_9⟩
theorem d14_0 : decode prog_68_method_2_code 0 = .ok (.iconst 0, 1) := by decide +kernel
theorem d14_1 : decode prog_68_method_2_code 1 = .ok (.istore_n 1, 1) := by decide +kernel
theorem d14_2 : decode prog_68_method_2_code 2 = .ok (.aload_n 0, 1) := by decide +kernel
theorem d14_3 : decode prog_68_method_2_code 3 = .ok (.getfield 19, 3) := by decide +kernel
theorem d14_6 : decode prog_68_method_2_code 6 = .ok (.aload_n 0, 1) := by decide +kernel
theorem d14_7 : decode prog_68_method_2_code 7 = .ok (.dup, 1) := by decide +kernel
theorem d14_8 : decode prog_68_method_2_code 8 = .ok (.getfield 25, 3) := by decide +kernel
theorem d14_11 : decode prog_68_method_2_code 11 = .ok (.dup_x1, 1) := by decide +kernel
theorem d14_12 : decode prog_68_method_2_code 12 = .ok (.iconst 1, 1) := by decide +kernel
theorem d14_13 : decode prog_68_method_2_code 13 = .ok (.iadd, 1) := by decide +kernel
theorem d14_14 : decode prog_68_method_2_code 14 = .ok (.putfield 25, 3) := by decide +kernel
theorem d14_17 : decode prog_68_method_2_code 17 = .ok (.baload, 1) := by decide +kernel
theorem d14_18 : decode prog_68_method_2_code 18 = .ok (.istore_n 2, 1) := by decide +kernel
theorem d14_19 : decode prog_68_method_2_code 19 = .ok (.iload_n 1, 1) := by decide +kernel
theorem d14_20 : decode prog_68_method_2_code 20 = .ok (.bipush 7, 2) := by decide +kernel
theorem d14_22 : decode prog_68_method_2_code 22 = .ok (.ishl, 1) := by decide +kernel
theorem d14_23 : decode prog_68_method_2_code 23 = .ok (.iload_n 2, 1) := by decide +kernel
theorem d14_24 : decode prog_68_method_2_code 24 = .ok (.bipush 127, 2) := by decide +kernel
theorem d14_26 : decode prog_68_method_2_code 26 = .ok (.iand, 1) := by decide +kernel
theorem d14_27 : decode prog_68_method_2_code 27 = .ok (.ior, 1) := by decide +kernel
theorem d14_28 : decode prog_68_method_2_code 28 = .ok (.istore_n 1, 1) := by decide +kernel
theorem d14_29 : decode prog_68_method_2_code 29 = .ok (.iload_n 2, 1) := by decide +kernel
theorem d14_30 : decode prog_68_method_2_code 30 = .ok (.ifCond .lt (-28), 3) := by decide +kernel
theorem d14_33 : decode prog_68_method_2_code 33 = .ok (.iload_n 1, 1) := by decide +kernel
theorem d14_34 : decode prog_68_method_2_code 34 = .ok (.ireturn, 1) := by decide +kernel
def k14 : OM := (prog_68_method_2_code, 3, "com/example/rexquill/rexquill/TableReader", "number", (some .int), { frames := 0, cells := 0, slots := 0, locals := 0 })
theorem pn14 : plainFor (⟨"com/example/rexquill/rexquill/TableReader", "number", "()I"⟩ : MethodName) = true := plainFor_of_name (by first | (simp [plainName, overriddenIn]; done) | decide +kernel)
theorem pd14 : parseMethodDescriptor "()I" = some ⟨[], (some .int)⟩ := by decide +kernel
set_option maxRecDepth 65536 in
set_option maxHeartbeats 4000000 in
theorem C_f1 {Z : State} {ω : OW} {h : Heap} (hw_ : ∀ d ∈ tables_1, d.before ω.2.2 Z = true) (hn_ : ω.2.1 ≤ h.size) (a tb : Addr) (B : Nat → Int32) (T0 : TRR Z h a (.ref tb) (.int (0 : Int32))) (Ab : oA Z h tb .byte 6 (fun i_ => .int (B i_))) (ga : ω.2.1 ≤ a) (ne : a ≠ tb) (hb0 : 0 ≤ (B 0).toInt) :
    oC Z ω (⟨"com/example/rexquill/rexquill/TableReader", "number", "()I"⟩ : MethodName) k14 [] #[.ref a] h (fun v h' => v = some (.int (own_ac B 1)) ∧ Keep h h' [a] ∧ TRR Z h' a (.ref tb) (.int ((0 : Int32) + (1 : Int32)))) := by
  refine oC_of hw_ hn_ pn14 rfl rfl (L := #[.val (.ref a), .unset, .unset]) (fun m => by first | (simp [entryFrame, mkF, argsToLocals, Value.category, k14]; done) | rfl) ?_
  intro γ T X
  refine ow_iconst X 1 (0 : Int32) d14_0 rfl rfl ?_
  refine ow_istoreN X 2 (L' := #[.val (.ref a), .val (.int (0 : Int32)), .unset]) d14_1 rfl rfl ?_
  refine ow_aloadN X 3 d14_2 rfl rfl rfl ?_
  refine ow_getF X 6 77 rfl rfl T0.2.1 d14_3 rfl ?_
  intro T_49 X_49
  refine ow_aloadN X_49 7 d14_6 rfl rfl rfl ?_
  refine ow_dup X_49 8 d14_7 rfl rfl ?_
  refine ow_getF X_49 11 84 rfl rfl T0.2.2 d14_8 rfl ?_
  intro T_50 X_50
  refine ow_dupX1 X_50 12 d14_11 rfl rfl rfl ?_
  refine ow_iconst X_50 13 (1 : Int32) d14_12 rfl rfl ?_
  refine ow_iadd X_50 14 d14_13 rfl ?_
  refine ow_putF X_50 17 84 8 rfl rfl T0.2.2 T0.1 (Or.inl (oSt_at X_50 85 rfl)) rfl (ty := .int) (by decide) rfl rfl ga d14_14 rfl ?_
  intro T_51 h_51 X_51 W_51
  have f52_0 : TRR Z h_51 a (.ref tb) (.int ((0 : Int32) + (1 : Int32))) := TRR.set_at (oSt_w X_51) T0 W_51
  have f52_1 : oA Z h_51 tb .byte 6 (fun i_ => .int (B i_)) := Ab.other W_51 (Ne.symm ne)
  have f52_2 : Keep h h_51 [a] := (Keep.refl h [a]).wr W_51 (Or.inl (List.mem_of_getElem? (i := 0) rfl))
  refine ow_baload X_51 18 f52_1 d14_17 rfl (by decide) (by decide) rfl ?_
  refine ow_istoreN X_51 19 (L' := #[.val (.ref a), .val (.int (0 : Int32)), .val (.int (B (0 : Int32).toInt.toNat))]) d14_18 rfl rfl ?_
  refine ow_iloadN X_51 20 d14_19 rfl rfl ?_
  refine ow_bipush X_51 22 (7 : Int32) d14_20 rfl rfl ?_
  refine ow_ishl X_51 23 d14_22 rfl ?_
  refine ow_iloadN X_51 24 d14_23 rfl rfl ?_
  refine ow_bipush X_51 26 (127 : Int32) d14_24 rfl rfl ?_
  refine ow_iand X_51 27 d14_26 rfl ?_
  refine ow_ior X_51 28 d14_27 rfl ?_
  refine ow_istoreN X_51 29 (L' := #[.val (.ref a), .val (.int (((0 : Int32) <<< ((7 : Int32) &&& 31)) ||| ((B (0 : Int32).toInt.toNat) &&& (127 : Int32)))), .val (.int (B (0 : Int32).toInt.toNat))]) d14_28 rfl rfl ?_
  refine ow_iloadN X_51 30 d14_29 rfl rfl ?_
  refine ow_if_lt X_51 33 2 d14_30 rfl rfl (fun (c30 : (B (0 : Int32).toInt.toNat).toInt < 0) => absurd c30 (Int.not_lt.mpr hb0)) (fun (c30 : 0 ≤ (B (0 : Int32).toInt.toNat).toInt) => ?_)
  refine ow_iloadN X_51 34 d14_33 rfl rfl ?_
  refine ow_retI X_51 rfl d14_34 (by decide) (by decide) ?_
  exact ⟨rfl, f52_2, f52_0⟩
set_option maxRecDepth 65536 in
set_option maxHeartbeats 4000000 in
theorem C_s1 {Z : State} {ω : OW} {h : Heap} (hw_ : ∀ d ∈ tables_1, d.before ω.2.2 Z = true) (hn_ : ω.2.1 ≤ h.size) (a tb : Addr) (B : Nat → Int32) (T0 : TRR Z h a (.ref tb) (.int ((0 : Int32) + (1 : Int32)))) (Ab : oA Z h tb .byte 6 (fun i_ => .int (B i_))) (ga : ω.2.1 ≤ a) (ne : a ≠ tb) (hb0 : 0 ≤ (B 1).toInt) :
    oC Z ω (⟨"com/example/rexquill/rexquill/TableReader", "number", "()I"⟩ : MethodName) k14 [] #[.ref a] h (fun v h' => v = some (.int (own_nx 0 (B 1))) ∧ Keep h h' [a] ∧ TRR Z h' a (.ref tb) (.int (((0 : Int32) + (1 : Int32)) + (1 : Int32)))) := by
  refine oC_of hw_ hn_ pn14 rfl rfl (L := #[.val (.ref a), .unset, .unset]) (fun m => by first | (simp [entryFrame, mkF, argsToLocals, Value.category, k14]; done) | rfl) ?_
  intro γ T X
  refine ow_iconst X 1 (0 : Int32) d14_0 rfl rfl ?_
  refine ow_istoreN X 2 (L' := #[.val (.ref a), .val (.int (0 : Int32)), .unset]) d14_1 rfl rfl ?_
  refine ow_aloadN X 3 d14_2 rfl rfl rfl ?_
  refine ow_getF X 6 77 rfl rfl T0.2.1 d14_3 rfl ?_
  intro T_53 X_53
  refine ow_aloadN X_53 7 d14_6 rfl rfl rfl ?_
  refine ow_dup X_53 8 d14_7 rfl rfl ?_
  refine ow_getF X_53 11 84 rfl rfl T0.2.2 d14_8 rfl ?_
  intro T_54 X_54
  refine ow_dupX1 X_54 12 d14_11 rfl rfl rfl ?_
  refine ow_iconst X_54 13 (1 : Int32) d14_12 rfl rfl ?_
  refine ow_iadd X_54 14 d14_13 rfl ?_
  refine ow_putF X_54 17 84 8 rfl rfl T0.2.2 T0.1 (Or.inl (oSt_at X_54 85 rfl)) rfl (ty := .int) (by decide) rfl rfl ga d14_14 rfl ?_
  intro T_55 h_55 X_55 W_55
  have f56_0 : TRR Z h_55 a (.ref tb) (.int (((0 : Int32) + (1 : Int32)) + (1 : Int32))) := TRR.set_at (oSt_w X_55) T0 W_55
  have f56_1 : oA Z h_55 tb .byte 6 (fun i_ => .int (B i_)) := Ab.other W_55 (Ne.symm ne)
  have f56_2 : Keep h h_55 [a] := (Keep.refl h [a]).wr W_55 (Or.inl (List.mem_of_getElem? (i := 0) rfl))
  refine ow_baload X_55 18 f56_1 d14_17 rfl (by decide) (by decide) rfl ?_
  refine ow_istoreN X_55 19 (L' := #[.val (.ref a), .val (.int (0 : Int32)), .val (.int (B ((0 : Int32) + (1 : Int32)).toInt.toNat))]) d14_18 rfl rfl ?_
  refine ow_iloadN X_55 20 d14_19 rfl rfl ?_
  refine ow_bipush X_55 22 (7 : Int32) d14_20 rfl rfl ?_
  refine ow_ishl X_55 23 d14_22 rfl ?_
  refine ow_iloadN X_55 24 d14_23 rfl rfl ?_
  refine ow_bipush X_55 26 (127 : Int32) d14_24 rfl rfl ?_
  refine ow_iand X_55 27 d14_26 rfl ?_
  refine ow_ior X_55 28 d14_27 rfl ?_
  refine ow_istoreN X_55 29 (L' := #[.val (.ref a), .val (.int (((0 : Int32) <<< ((7 : Int32) &&& 31)) ||| ((B ((0 : Int32) + (1 : Int32)).toInt.toNat) &&& (127 : Int32)))), .val (.int (B ((0 : Int32) + (1 : Int32)).toInt.toNat))]) d14_28 rfl rfl ?_
  refine ow_iloadN X_55 30 d14_29 rfl rfl ?_
  refine ow_if_lt X_55 33 2 d14_30 rfl rfl (fun (c30 : (B ((0 : Int32) + (1 : Int32)).toInt.toNat).toInt < 0) => absurd c30 (Int.not_lt.mpr hb0)) (fun (c30 : 0 ≤ (B ((0 : Int32) + (1 : Int32)).toInt.toNat).toInt) => ?_)
  refine ow_iloadN X_55 34 d14_33 rfl rfl ?_
  refine ow_retI X_55 rfl d14_34 (by decide) (by decide) ?_
  exact ⟨rfl, f56_2, f56_0⟩
set_option maxRecDepth 65536 in
set_option maxHeartbeats 4000000 in
theorem C_f2 {Z : State} {ω : OW} {h : Heap} (hw_ : ∀ d ∈ tables_1, d.before ω.2.2 Z = true) (hn_ : ω.2.1 ≤ h.size) (a tb : Addr) (B : Nat → Int32) (T0 : TRR Z h a (.ref tb) (.int (0 : Int32))) (Ab : oA Z h tb .byte 6 (fun i_ => .int (B i_))) (ga : ω.2.1 ≤ a) (ne : a ≠ tb) (hb0 : (B 0).toInt < 0) (hb1 : 0 ≤ (B 1).toInt) :
    oC Z ω (⟨"com/example/rexquill/rexquill/TableReader", "number", "()I"⟩ : MethodName) k14 [] #[.ref a] h (fun v h' => v = some (.int (own_ac B 2)) ∧ Keep h h' [a] ∧ TRR Z h' a (.ref tb) (.int (((0 : Int32) + (1 : Int32)) + (1 : Int32)))) := by
  refine oC_of hw_ hn_ pn14 rfl rfl (L := #[.val (.ref a), .unset, .unset]) (fun m => by first | (simp [entryFrame, mkF, argsToLocals, Value.category, k14]; done) | rfl) ?_
  intro γ T X
  refine ow_iconst X 1 (0 : Int32) d14_0 rfl rfl ?_
  refine ow_istoreN X 2 (L' := #[.val (.ref a), .val (.int (0 : Int32)), .unset]) d14_1 rfl rfl ?_
  refine ow_aloadN X 3 d14_2 rfl rfl rfl ?_
  refine ow_getF X 6 77 rfl rfl T0.2.1 d14_3 rfl ?_
  intro T_57 X_57
  refine ow_aloadN X_57 7 d14_6 rfl rfl rfl ?_
  refine ow_dup X_57 8 d14_7 rfl rfl ?_
  refine ow_getF X_57 11 84 rfl rfl T0.2.2 d14_8 rfl ?_
  intro T_58 X_58
  refine ow_dupX1 X_58 12 d14_11 rfl rfl rfl ?_
  refine ow_iconst X_58 13 (1 : Int32) d14_12 rfl rfl ?_
  refine ow_iadd X_58 14 d14_13 rfl ?_
  refine ow_putF X_58 17 84 8 rfl rfl T0.2.2 T0.1 (Or.inl (oSt_at X_58 85 rfl)) rfl (ty := .int) (by decide) rfl rfl ga d14_14 rfl ?_
  intro T_59 h_59 X_59 W_59
  have f60_0 : TRR Z h_59 a (.ref tb) (.int ((0 : Int32) + (1 : Int32))) := TRR.set_at (oSt_w X_59) T0 W_59
  have f60_1 : oA Z h_59 tb .byte 6 (fun i_ => .int (B i_)) := Ab.other W_59 (Ne.symm ne)
  have f60_2 : Keep h h_59 [a] := (Keep.refl h [a]).wr W_59 (Or.inl (List.mem_of_getElem? (i := 0) rfl))
  refine ow_baload X_59 18 f60_1 d14_17 rfl (by decide) (by decide) rfl ?_
  refine ow_istoreN X_59 19 (L' := #[.val (.ref a), .val (.int (0 : Int32)), .val (.int (B (0 : Int32).toInt.toNat))]) d14_18 rfl rfl ?_
  refine ow_iloadN X_59 20 d14_19 rfl rfl ?_
  refine ow_bipush X_59 22 (7 : Int32) d14_20 rfl rfl ?_
  refine ow_ishl X_59 23 d14_22 rfl ?_
  refine ow_iloadN X_59 24 d14_23 rfl rfl ?_
  refine ow_bipush X_59 26 (127 : Int32) d14_24 rfl rfl ?_
  refine ow_iand X_59 27 d14_26 rfl ?_
  refine ow_ior X_59 28 d14_27 rfl ?_
  refine ow_istoreN X_59 29 (L' := #[.val (.ref a), .val (.int (((0 : Int32) <<< ((7 : Int32) &&& 31)) ||| ((B (0 : Int32).toInt.toNat) &&& (127 : Int32)))), .val (.int (B (0 : Int32).toInt.toNat))]) d14_28 rfl rfl ?_
  refine ow_iloadN X_59 30 d14_29 rfl rfl ?_
  refine ow_if_lt X_59 33 2 d14_30 rfl rfl (fun (c30 : (B (0 : Int32).toInt.toNat).toInt < 0) => ?_) (fun (c30 : 0 ≤ (B (0 : Int32).toInt.toNat).toInt) => absurd c30 (Int.not_le.mpr hb0))
  refine ow_aloadN X_59 3 d14_2 rfl rfl rfl ?_
  refine ow_getF X_59 6 77 rfl rfl f60_0.2.1 d14_3 rfl ?_
  intro T_61 X_61
  refine ow_aloadN X_61 7 d14_6 rfl rfl rfl ?_
  refine ow_dup X_61 8 d14_7 rfl rfl ?_
  refine ow_getF X_61 11 84 rfl rfl f60_0.2.2 d14_8 rfl ?_
  intro T_62 X_62
  refine ow_dupX1 X_62 12 d14_11 rfl rfl rfl ?_
  refine ow_iconst X_62 13 (1 : Int32) d14_12 rfl rfl ?_
  refine ow_iadd X_62 14 d14_13 rfl ?_
  refine ow_putF X_62 17 84 8 rfl rfl f60_0.2.2 f60_0.1 (Or.inl (oSt_at X_62 85 rfl)) rfl (ty := .int) (by decide) rfl rfl ga d14_14 rfl ?_
  intro T_63 h_63 X_63 W_63
  have f64_0 : TRR Z h_63 a (.ref tb) (.int (((0 : Int32) + (1 : Int32)) + (1 : Int32))) := TRR.set_at (oSt_w X_63) f60_0 W_63
  have f64_1 : oA Z h_63 tb .byte 6 (fun i_ => .int (B i_)) := f60_1.other W_63 (Ne.symm ne)
  have f64_2 : Keep h h_63 [a] := f60_2.wr W_63 (Or.inl (List.mem_of_getElem? (i := 0) rfl))
  refine ow_baload X_63 18 f64_1 d14_17 rfl (by decide) (by decide) rfl ?_
  refine ow_istoreN X_63 19 (L' := #[.val (.ref a), .val (.int (((0 : Int32) <<< ((7 : Int32) &&& 31)) ||| ((B (0 : Int32).toInt.toNat) &&& (127 : Int32)))), .val (.int (B ((0 : Int32) + (1 : Int32)).toInt.toNat))]) d14_18 rfl rfl ?_
  refine ow_iloadN X_63 20 d14_19 rfl rfl ?_
  refine ow_bipush X_63 22 (7 : Int32) d14_20 rfl rfl ?_
  refine ow_ishl X_63 23 d14_22 rfl ?_
  refine ow_iloadN X_63 24 d14_23 rfl rfl ?_
  refine ow_bipush X_63 26 (127 : Int32) d14_24 rfl rfl ?_
  refine ow_iand X_63 27 d14_26 rfl ?_
  refine ow_ior X_63 28 d14_27 rfl ?_
  refine ow_istoreN X_63 29 (L' := #[.val (.ref a), .val (.int (((((0 : Int32) <<< ((7 : Int32) &&& 31)) ||| ((B (0 : Int32).toInt.toNat) &&& (127 : Int32))) <<< ((7 : Int32) &&& 31)) ||| ((B ((0 : Int32) + (1 : Int32)).toInt.toNat) &&& (127 : Int32)))), .val (.int (B ((0 : Int32) + (1 : Int32)).toInt.toNat))]) d14_28 rfl rfl ?_
  refine ow_iloadN X_63 30 d14_29 rfl rfl ?_
  refine ow_if_lt X_63 33 2 d14_30 rfl rfl (fun (c30 : (B ((0 : Int32) + (1 : Int32)).toInt.toNat).toInt < 0) => absurd c30 (Int.not_lt.mpr hb1)) (fun (c30 : 0 ≤ (B ((0 : Int32) + (1 : Int32)).toInt.toNat).toInt) => ?_)
  refine ow_iloadN X_63 34 d14_33 rfl rfl ?_
  refine ow_retI X_63 rfl d14_34 (by decide) (by decide) ?_
  exact ⟨rfl, f64_2, f64_0⟩
set_option maxRecDepth 65536 in
set_option maxHeartbeats 4000000 in
theorem C_s2 {Z : State} {ω : OW} {h : Heap} (hw_ : ∀ d ∈ tables_1, d.before ω.2.2 Z = true) (hn_ : ω.2.1 ≤ h.size) (a tb : Addr) (B : Nat → Int32) (T0 : TRR Z h a (.ref tb) (.int (((0 : Int32) + (1 : Int32)) + (1 : Int32)))) (Ab : oA Z h tb .byte 6 (fun i_ => .int (B i_))) (ga : ω.2.1 ≤ a) (ne : a ≠ tb) (hb0 : 0 ≤ (B 2).toInt) :
    oC Z ω (⟨"com/example/rexquill/rexquill/TableReader", "number", "()I"⟩ : MethodName) k14 [] #[.ref a] h (fun v h' => v = some (.int (own_nx 0 (B 2))) ∧ Keep h h' [a] ∧ TRR Z h' a (.ref tb) (.int ((((0 : Int32) + (1 : Int32)) + (1 : Int32)) + (1 : Int32)))) := by
  refine oC_of hw_ hn_ pn14 rfl rfl (L := #[.val (.ref a), .unset, .unset]) (fun m => by first | (simp [entryFrame, mkF, argsToLocals, Value.category, k14]; done) | rfl) ?_
  intro γ T X
  refine ow_iconst X 1 (0 : Int32) d14_0 rfl rfl ?_
  refine ow_istoreN X 2 (L' := #[.val (.ref a), .val (.int (0 : Int32)), .unset]) d14_1 rfl rfl ?_
  refine ow_aloadN X 3 d14_2 rfl rfl rfl ?_
  refine ow_getF X 6 77 rfl rfl T0.2.1 d14_3 rfl ?_
  intro T_65 X_65
  refine ow_aloadN X_65 7 d14_6 rfl rfl rfl ?_
  refine ow_dup X_65 8 d14_7 rfl rfl ?_
  refine ow_getF X_65 11 84 rfl rfl T0.2.2 d14_8 rfl ?_
  intro T_66 X_66
  refine ow_dupX1 X_66 12 d14_11 rfl rfl rfl ?_
  refine ow_iconst X_66 13 (1 : Int32) d14_12 rfl rfl ?_
  refine ow_iadd X_66 14 d14_13 rfl ?_
  refine ow_putF X_66 17 84 8 rfl rfl T0.2.2 T0.1 (Or.inl (oSt_at X_66 85 rfl)) rfl (ty := .int) (by decide) rfl rfl ga d14_14 rfl ?_
  intro T_67 h_67 X_67 W_67
  have f68_0 : TRR Z h_67 a (.ref tb) (.int ((((0 : Int32) + (1 : Int32)) + (1 : Int32)) + (1 : Int32))) := TRR.set_at (oSt_w X_67) T0 W_67
  have f68_1 : oA Z h_67 tb .byte 6 (fun i_ => .int (B i_)) := Ab.other W_67 (Ne.symm ne)
  have f68_2 : Keep h h_67 [a] := (Keep.refl h [a]).wr W_67 (Or.inl (List.mem_of_getElem? (i := 0) rfl))
  refine ow_baload X_67 18 f68_1 d14_17 rfl (by decide) (by decide) rfl ?_
  refine ow_istoreN X_67 19 (L' := #[.val (.ref a), .val (.int (0 : Int32)), .val (.int (B (((0 : Int32) + (1 : Int32)) + (1 : Int32)).toInt.toNat))]) d14_18 rfl rfl ?_
  refine ow_iloadN X_67 20 d14_19 rfl rfl ?_
  refine ow_bipush X_67 22 (7 : Int32) d14_20 rfl rfl ?_
  refine ow_ishl X_67 23 d14_22 rfl ?_
  refine ow_iloadN X_67 24 d14_23 rfl rfl ?_
  refine ow_bipush X_67 26 (127 : Int32) d14_24 rfl rfl ?_
  refine ow_iand X_67 27 d14_26 rfl ?_
  refine ow_ior X_67 28 d14_27 rfl ?_
  refine ow_istoreN X_67 29 (L' := #[.val (.ref a), .val (.int (((0 : Int32) <<< ((7 : Int32) &&& 31)) ||| ((B (((0 : Int32) + (1 : Int32)) + (1 : Int32)).toInt.toNat) &&& (127 : Int32)))), .val (.int (B (((0 : Int32) + (1 : Int32)) + (1 : Int32)).toInt.toNat))]) d14_28 rfl rfl ?_
  refine ow_iloadN X_67 30 d14_29 rfl rfl ?_
  refine ow_if_lt X_67 33 2 d14_30 rfl rfl (fun (c30 : (B (((0 : Int32) + (1 : Int32)) + (1 : Int32)).toInt.toNat).toInt < 0) => absurd c30 (Int.not_lt.mpr hb0)) (fun (c30 : 0 ≤ (B (((0 : Int32) + (1 : Int32)) + (1 : Int32)).toInt.toNat).toInt) => ?_)
  refine ow_iloadN X_67 34 d14_33 rfl rfl ?_
  refine ow_retI X_67 rfl d14_34 (by decide) (by decide) ?_
  exact ⟨rfl, f68_2, f68_0⟩
set_option maxRecDepth 65536 in
set_option maxHeartbeats 4000000 in
theorem C_f3 {Z : State} {ω : OW} {h : Heap} (hw_ : ∀ d ∈ tables_1, d.before ω.2.2 Z = true) (hn_ : ω.2.1 ≤ h.size) (a tb : Addr) (B : Nat → Int32) (T0 : TRR Z h a (.ref tb) (.int (0 : Int32))) (Ab : oA Z h tb .byte 6 (fun i_ => .int (B i_))) (ga : ω.2.1 ≤ a) (ne : a ≠ tb) (hb0 : (B 0).toInt < 0) (hb1 : (B 1).toInt < 0) (hb2 : 0 ≤ (B 2).toInt) :
    oC Z ω (⟨"com/example/rexquill/rexquill/TableReader", "number", "()I"⟩ : MethodName) k14 [] #[.ref a] h (fun v h' => v = some (.int (own_ac B 3)) ∧ Keep h h' [a] ∧ TRR Z h' a (.ref tb) (.int ((((0 : Int32) + (1 : Int32)) + (1 : Int32)) + (1 : Int32)))) := by
  refine oC_of hw_ hn_ pn14 rfl rfl (L := #[.val (.ref a), .unset, .unset]) (fun m => by first | (simp [entryFrame, mkF, argsToLocals, Value.category, k14]; done) | rfl) ?_
  intro γ T X
  refine ow_iconst X 1 (0 : Int32) d14_0 rfl rfl ?_
  refine ow_istoreN X 2 (L' := #[.val (.ref a), .val (.int (0 : Int32)), .unset]) d14_1 rfl rfl ?_
  refine ow_aloadN X 3 d14_2 rfl rfl rfl ?_
  refine ow_getF X 6 77 rfl rfl T0.2.1 d14_3 rfl ?_
  intro T_69 X_69
  refine ow_aloadN X_69 7 d14_6 rfl rfl rfl ?_
  refine ow_dup X_69 8 d14_7 rfl rfl ?_
  refine ow_getF X_69 11 84 rfl rfl T0.2.2 d14_8 rfl ?_
  intro T_70 X_70
  refine ow_dupX1 X_70 12 d14_11 rfl rfl rfl ?_
  refine ow_iconst X_70 13 (1 : Int32) d14_12 rfl rfl ?_
  refine ow_iadd X_70 14 d14_13 rfl ?_
  refine ow_putF X_70 17 84 8 rfl rfl T0.2.2 T0.1 (Or.inl (oSt_at X_70 85 rfl)) rfl (ty := .int) (by decide) rfl rfl ga d14_14 rfl ?_
  intro T_71 h_71 X_71 W_71
  have f72_0 : TRR Z h_71 a (.ref tb) (.int ((0 : Int32) + (1 : Int32))) := TRR.set_at (oSt_w X_71) T0 W_71
  have f72_1 : oA Z h_71 tb .byte 6 (fun i_ => .int (B i_)) := Ab.other W_71 (Ne.symm ne)
  have f72_2 : Keep h h_71 [a] := (Keep.refl h [a]).wr W_71 (Or.inl (List.mem_of_getElem? (i := 0) rfl))
  refine ow_baload X_71 18 f72_1 d14_17 rfl (by decide) (by decide) rfl ?_
  refine ow_istoreN X_71 19 (L' := #[.val (.ref a), .val (.int (0 : Int32)), .val (.int (B (0 : Int32).toInt.toNat))]) d14_18 rfl rfl ?_
  refine ow_iloadN X_71 20 d14_19 rfl rfl ?_
  refine ow_bipush X_71 22 (7 : Int32) d14_20 rfl rfl ?_
  refine ow_ishl X_71 23 d14_22 rfl ?_
  refine ow_iloadN X_71 24 d14_23 rfl rfl ?_
  refine ow_bipush X_71 26 (127 : Int32) d14_24 rfl rfl ?_
  refine ow_iand X_71 27 d14_26 rfl ?_
  refine ow_ior X_71 28 d14_27 rfl ?_
  refine ow_istoreN X_71 29 (L' := #[.val (.ref a), .val (.int (((0 : Int32) <<< ((7 : Int32) &&& 31)) ||| ((B (0 : Int32).toInt.toNat) &&& (127 : Int32)))), .val (.int (B (0 : Int32).toInt.toNat))]) d14_28 rfl rfl ?_
  refine ow_iloadN X_71 30 d14_29 rfl rfl ?_
  refine ow_if_lt X_71 33 2 d14_30 rfl rfl (fun (c30 : (B (0 : Int32).toInt.toNat).toInt < 0) => ?_) (fun (c30 : 0 ≤ (B (0 : Int32).toInt.toNat).toInt) => absurd c30 (Int.not_le.mpr hb0))
  refine ow_aloadN X_71 3 d14_2 rfl rfl rfl ?_
  refine ow_getF X_71 6 77 rfl rfl f72_0.2.1 d14_3 rfl ?_
  intro T_73 X_73
  refine ow_aloadN X_73 7 d14_6 rfl rfl rfl ?_
  refine ow_dup X_73 8 d14_7 rfl rfl ?_
  refine ow_getF X_73 11 84 rfl rfl f72_0.2.2 d14_8 rfl ?_
  intro T_74 X_74
  refine ow_dupX1 X_74 12 d14_11 rfl rfl rfl ?_
  refine ow_iconst X_74 13 (1 : Int32) d14_12 rfl rfl ?_
  refine ow_iadd X_74 14 d14_13 rfl ?_
  refine ow_putF X_74 17 84 8 rfl rfl f72_0.2.2 f72_0.1 (Or.inl (oSt_at X_74 85 rfl)) rfl (ty := .int) (by decide) rfl rfl ga d14_14 rfl ?_
  intro T_75 h_75 X_75 W_75
  have f76_0 : TRR Z h_75 a (.ref tb) (.int (((0 : Int32) + (1 : Int32)) + (1 : Int32))) := TRR.set_at (oSt_w X_75) f72_0 W_75
  have f76_1 : oA Z h_75 tb .byte 6 (fun i_ => .int (B i_)) := f72_1.other W_75 (Ne.symm ne)
  have f76_2 : Keep h h_75 [a] := f72_2.wr W_75 (Or.inl (List.mem_of_getElem? (i := 0) rfl))
  refine ow_baload X_75 18 f76_1 d14_17 rfl (by decide) (by decide) rfl ?_
  refine ow_istoreN X_75 19 (L' := #[.val (.ref a), .val (.int (((0 : Int32) <<< ((7 : Int32) &&& 31)) ||| ((B (0 : Int32).toInt.toNat) &&& (127 : Int32)))), .val (.int (B ((0 : Int32) + (1 : Int32)).toInt.toNat))]) d14_18 rfl rfl ?_
  refine ow_iloadN X_75 20 d14_19 rfl rfl ?_
  refine ow_bipush X_75 22 (7 : Int32) d14_20 rfl rfl ?_
  refine ow_ishl X_75 23 d14_22 rfl ?_
  refine ow_iloadN X_75 24 d14_23 rfl rfl ?_
  refine ow_bipush X_75 26 (127 : Int32) d14_24 rfl rfl ?_
  refine ow_iand X_75 27 d14_26 rfl ?_
  refine ow_ior X_75 28 d14_27 rfl ?_
  refine ow_istoreN X_75 29 (L' := #[.val (.ref a), .val (.int (((((0 : Int32) <<< ((7 : Int32) &&& 31)) ||| ((B (0 : Int32).toInt.toNat) &&& (127 : Int32))) <<< ((7 : Int32) &&& 31)) ||| ((B ((0 : Int32) + (1 : Int32)).toInt.toNat) &&& (127 : Int32)))), .val (.int (B ((0 : Int32) + (1 : Int32)).toInt.toNat))]) d14_28 rfl rfl ?_
  refine ow_iloadN X_75 30 d14_29 rfl rfl ?_
  refine ow_if_lt X_75 33 2 d14_30 rfl rfl (fun (c30 : (B ((0 : Int32) + (1 : Int32)).toInt.toNat).toInt < 0) => ?_) (fun (c30 : 0 ≤ (B ((0 : Int32) + (1 : Int32)).toInt.toNat).toInt) => absurd c30 (Int.not_le.mpr hb1))
  refine ow_aloadN X_75 3 d14_2 rfl rfl rfl ?_
  refine ow_getF X_75 6 77 rfl rfl f76_0.2.1 d14_3 rfl ?_
  intro T_77 X_77
  refine ow_aloadN X_77 7 d14_6 rfl rfl rfl ?_
  refine ow_dup X_77 8 d14_7 rfl rfl ?_
  refine ow_getF X_77 11 84 rfl rfl f76_0.2.2 d14_8 rfl ?_
  intro T_78 X_78
  refine ow_dupX1 X_78 12 d14_11 rfl rfl rfl ?_
  refine ow_iconst X_78 13 (1 : Int32) d14_12 rfl rfl ?_
  refine ow_iadd X_78 14 d14_13 rfl ?_
  refine ow_putF X_78 17 84 8 rfl rfl f76_0.2.2 f76_0.1 (Or.inl (oSt_at X_78 85 rfl)) rfl (ty := .int) (by decide) rfl rfl ga d14_14 rfl ?_
  intro T_79 h_79 X_79 W_79
  have f80_0 : TRR Z h_79 a (.ref tb) (.int ((((0 : Int32) + (1 : Int32)) + (1 : Int32)) + (1 : Int32))) := TRR.set_at (oSt_w X_79) f76_0 W_79
  have f80_1 : oA Z h_79 tb .byte 6 (fun i_ => .int (B i_)) := f76_1.other W_79 (Ne.symm ne)
  have f80_2 : Keep h h_79 [a] := f76_2.wr W_79 (Or.inl (List.mem_of_getElem? (i := 0) rfl))
  refine ow_baload X_79 18 f80_1 d14_17 rfl (by decide) (by decide) rfl ?_
  refine ow_istoreN X_79 19 (L' := #[.val (.ref a), .val (.int (((((0 : Int32) <<< ((7 : Int32) &&& 31)) ||| ((B (0 : Int32).toInt.toNat) &&& (127 : Int32))) <<< ((7 : Int32) &&& 31)) ||| ((B ((0 : Int32) + (1 : Int32)).toInt.toNat) &&& (127 : Int32)))), .val (.int (B (((0 : Int32) + (1 : Int32)) + (1 : Int32)).toInt.toNat))]) d14_18 rfl rfl ?_
  refine ow_iloadN X_79 20 d14_19 rfl rfl ?_
  refine ow_bipush X_79 22 (7 : Int32) d14_20 rfl rfl ?_
  refine ow_ishl X_79 23 d14_22 rfl ?_
  refine ow_iloadN X_79 24 d14_23 rfl rfl ?_
  refine ow_bipush X_79 26 (127 : Int32) d14_24 rfl rfl ?_
  refine ow_iand X_79 27 d14_26 rfl ?_
  refine ow_ior X_79 28 d14_27 rfl ?_
  refine ow_istoreN X_79 29 (L' := #[.val (.ref a), .val (.int (((((((0 : Int32) <<< ((7 : Int32) &&& 31)) ||| ((B (0 : Int32).toInt.toNat) &&& (127 : Int32))) <<< ((7 : Int32) &&& 31)) ||| ((B ((0 : Int32) + (1 : Int32)).toInt.toNat) &&& (127 : Int32))) <<< ((7 : Int32) &&& 31)) ||| ((B (((0 : Int32) + (1 : Int32)) + (1 : Int32)).toInt.toNat) &&& (127 : Int32)))), .val (.int (B (((0 : Int32) + (1 : Int32)) + (1 : Int32)).toInt.toNat))]) d14_28 rfl rfl ?_
  refine ow_iloadN X_79 30 d14_29 rfl rfl ?_
  refine ow_if_lt X_79 33 2 d14_30 rfl rfl (fun (c30 : (B (((0 : Int32) + (1 : Int32)) + (1 : Int32)).toInt.toNat).toInt < 0) => absurd c30 (Int.not_lt.mpr hb2)) (fun (c30 : 0 ≤ (B (((0 : Int32) + (1 : Int32)) + (1 : Int32)).toInt.toNat).toInt) => ?_)
  refine ow_iloadN X_79 34 d14_33 rfl rfl ?_
  refine ow_retI X_79 rfl d14_34 (by decide) (by decide) ?_
  exact ⟨rfl, f80_2, f80_0⟩
set_option maxRecDepth 65536 in
set_option maxHeartbeats 4000000 in
theorem C_s3 {Z : State} {ω : OW} {h : Heap} (hw_ : ∀ d ∈ tables_1, d.before ω.2.2 Z = true) (hn_ : ω.2.1 ≤ h.size) (a tb : Addr) (B : Nat → Int32) (T0 : TRR Z h a (.ref tb) (.int ((((0 : Int32) + (1 : Int32)) + (1 : Int32)) + (1 : Int32)))) (Ab : oA Z h tb .byte 6 (fun i_ => .int (B i_))) (ga : ω.2.1 ≤ a) (ne : a ≠ tb) (hb0 : 0 ≤ (B 3).toInt) :
    oC Z ω (⟨"com/example/rexquill/rexquill/TableReader", "number", "()I"⟩ : MethodName) k14 [] #[.ref a] h (fun v h' => v = some (.int (own_nx 0 (B 3))) ∧ Keep h h' [a] ∧ TRR Z h' a (.ref tb) (.int (((((0 : Int32) + (1 : Int32)) + (1 : Int32)) + (1 : Int32)) + (1 : Int32)))) := by
  refine oC_of hw_ hn_ pn14 rfl rfl (L := #[.val (.ref a), .unset, .unset]) (fun m => by first | (simp [entryFrame, mkF, argsToLocals, Value.category, k14]; done) | rfl) ?_
  intro γ T X
  refine ow_iconst X 1 (0 : Int32) d14_0 rfl rfl ?_
  refine ow_istoreN X 2 (L' := #[.val (.ref a), .val (.int (0 : Int32)), .unset]) d14_1 rfl rfl ?_
  refine ow_aloadN X 3 d14_2 rfl rfl rfl ?_
  refine ow_getF X 6 77 rfl rfl T0.2.1 d14_3 rfl ?_
  intro T_81 X_81
  refine ow_aloadN X_81 7 d14_6 rfl rfl rfl ?_
  refine ow_dup X_81 8 d14_7 rfl rfl ?_
  refine ow_getF X_81 11 84 rfl rfl T0.2.2 d14_8 rfl ?_
  intro T_82 X_82
  refine ow_dupX1 X_82 12 d14_11 rfl rfl rfl ?_
  refine ow_iconst X_82 13 (1 : Int32) d14_12 rfl rfl ?_
  refine ow_iadd X_82 14 d14_13 rfl ?_
  refine ow_putF X_82 17 84 8 rfl rfl T0.2.2 T0.1 (Or.inl (oSt_at X_82 85 rfl)) rfl (ty := .int) (by decide) rfl rfl ga d14_14 rfl ?_
  intro T_83 h_83 X_83 W_83
  have f84_0 : TRR Z h_83 a (.ref tb) (.int (((((0 : Int32) + (1 : Int32)) + (1 : Int32)) + (1 : Int32)) + (1 : Int32))) := TRR.set_at (oSt_w X_83) T0 W_83
  have f84_1 : oA Z h_83 tb .byte 6 (fun i_ => .int (B i_)) := Ab.other W_83 (Ne.symm ne)
  have f84_2 : Keep h h_83 [a] := (Keep.refl h [a]).wr W_83 (Or.inl (List.mem_of_getElem? (i := 0) rfl))
  refine ow_baload X_83 18 f84_1 d14_17 rfl (by decide) (by decide) rfl ?_
  refine ow_istoreN X_83 19 (L' := #[.val (.ref a), .val (.int (0 : Int32)), .val (.int (B ((((0 : Int32) + (1 : Int32)) + (1 : Int32)) + (1 : Int32)).toInt.toNat))]) d14_18 rfl rfl ?_
  refine ow_iloadN X_83 20 d14_19 rfl rfl ?_
  refine ow_bipush X_83 22 (7 : Int32) d14_20 rfl rfl ?_
  refine ow_ishl X_83 23 d14_22 rfl ?_
  refine ow_iloadN X_83 24 d14_23 rfl rfl ?_
  refine ow_bipush X_83 26 (127 : Int32) d14_24 rfl rfl ?_
  refine ow_iand X_83 27 d14_26 rfl ?_
  refine ow_ior X_83 28 d14_27 rfl ?_
  refine ow_istoreN X_83 29 (L' := #[.val (.ref a), .val (.int (((0 : Int32) <<< ((7 : Int32) &&& 31)) ||| ((B ((((0 : Int32) + (1 : Int32)) + (1 : Int32)) + (1 : Int32)).toInt.toNat) &&& (127 : Int32)))), .val (.int (B ((((0 : Int32) + (1 : Int32)) + (1 : Int32)) + (1 : Int32)).toInt.toNat))]) d14_28 rfl rfl ?_
  refine ow_iloadN X_83 30 d14_29 rfl rfl ?_
  refine ow_if_lt X_83 33 2 d14_30 rfl rfl (fun (c30 : (B ((((0 : Int32) + (1 : Int32)) + (1 : Int32)) + (1 : Int32)).toInt.toNat).toInt < 0) => absurd c30 (Int.not_lt.mpr hb0)) (fun (c30 : 0 ≤ (B ((((0 : Int32) + (1 : Int32)) + (1 : Int32)) + (1 : Int32)).toInt.toNat).toInt) => ?_)
  refine ow_iloadN X_83 34 d14_33 rfl rfl ?_
  refine ow_retI X_83 rfl d14_34 (by decide) (by decide) ?_
  exact ⟨rfl, f84_2, f84_0⟩
set_option maxRecDepth 65536 in
set_option maxHeartbeats 4000000 in
theorem C_f4 {Z : State} {ω : OW} {h : Heap} (hw_ : ∀ d ∈ tables_1, d.before ω.2.2 Z = true) (hn_ : ω.2.1 ≤ h.size) (a tb : Addr) (B : Nat → Int32) (T0 : TRR Z h a (.ref tb) (.int (0 : Int32))) (Ab : oA Z h tb .byte 6 (fun i_ => .int (B i_))) (ga : ω.2.1 ≤ a) (ne : a ≠ tb) (hb0 : (B 0).toInt < 0) (hb1 : (B 1).toInt < 0) (hb2 : (B 2).toInt < 0) (hb3 : 0 ≤ (B 3).toInt) :
    oC Z ω (⟨"com/example/rexquill/rexquill/TableReader", "number", "()I"⟩ : MethodName) k14 [] #[.ref a] h (fun v h' => v = some (.int (own_ac B 4)) ∧ Keep h h' [a] ∧ TRR Z h' a (.ref tb) (.int (((((0 : Int32) + (1 : Int32)) + (1 : Int32)) + (1 : Int32)) + (1 : Int32)))) := by
  refine oC_of hw_ hn_ pn14 rfl rfl (L := #[.val (.ref a), .unset, .unset]) (fun m => by first | (simp [entryFrame, mkF, argsToLocals, Value.category, k14]; done) | rfl) ?_
  intro γ T X
  refine ow_iconst X 1 (0 : Int32) d14_0 rfl rfl ?_
  refine ow_istoreN X 2 (L' := #[.val (.ref a), .val (.int (0 : Int32)), .unset]) d14_1 rfl rfl ?_
  refine ow_aloadN X 3 d14_2 rfl rfl rfl ?_
  refine ow_getF X 6 77 rfl rfl T0.2.1 d14_3 rfl ?_
  intro T_85 X_85
  refine ow_aloadN X_85 7 d14_6 rfl rfl rfl ?_
  refine ow_dup X_85 8 d14_7 rfl rfl ?_
  refine ow_getF X_85 11 84 rfl rfl T0.2.2 d14_8 rfl ?_
  intro T_86 X_86
  refine ow_dupX1 X_86 12 d14_11 rfl rfl rfl ?_
  refine ow_iconst X_86 13 (1 : Int32) d14_12 rfl rfl ?_
  refine ow_iadd X_86 14 d14_13 rfl ?_
  refine ow_putF X_86 17 84 8 rfl rfl T0.2.2 T0.1 (Or.inl (oSt_at X_86 85 rfl)) rfl (ty := .int) (by decide) rfl rfl ga d14_14 rfl ?_
  intro T_87 h_87 X_87 W_87
  have f88_0 : TRR Z h_87 a (.ref tb) (.int ((0 : Int32) + (1 : Int32))) := TRR.set_at (oSt_w X_87) T0 W_87
  have f88_1 : oA Z h_87 tb .byte 6 (fun i_ => .int (B i_)) := Ab.other W_87 (Ne.symm ne)
  have f88_2 : Keep h h_87 [a] := (Keep.refl h [a]).wr W_87 (Or.inl (List.mem_of_getElem? (i := 0) rfl))
  refine ow_baload X_87 18 f88_1 d14_17 rfl (by decide) (by decide) rfl ?_
  refine ow_istoreN X_87 19 (L' := #[.val (.ref a), .val (.int (0 : Int32)), .val (.int (B (0 : Int32).toInt.toNat))]) d14_18 rfl rfl ?_
  refine ow_iloadN X_87 20 d14_19 rfl rfl ?_
  refine ow_bipush X_87 22 (7 : Int32) d14_20 rfl rfl ?_
  refine ow_ishl X_87 23 d14_22 rfl ?_
  refine ow_iloadN X_87 24 d14_23 rfl rfl ?_
  refine ow_bipush X_87 26 (127 : Int32) d14_24 rfl rfl ?_
  refine ow_iand X_87 27 d14_26 rfl ?_
  refine ow_ior X_87 28 d14_27 rfl ?_
  refine ow_istoreN X_87 29 (L' := #[.val (.ref a), .val (.int (((0 : Int32) <<< ((7 : Int32) &&& 31)) ||| ((B (0 : Int32).toInt.toNat) &&& (127 : Int32)))), .val (.int (B (0 : Int32).toInt.toNat))]) d14_28 rfl rfl ?_
  refine ow_iloadN X_87 30 d14_29 rfl rfl ?_
  refine ow_if_lt X_87 33 2 d14_30 rfl rfl (fun (c30 : (B (0 : Int32).toInt.toNat).toInt < 0) => ?_) (fun (c30 : 0 ≤ (B (0 : Int32).toInt.toNat).toInt) => absurd c30 (Int.not_le.mpr hb0))
  refine ow_aloadN X_87 3 d14_2 rfl rfl rfl ?_
  refine ow_getF X_87 6 77 rfl rfl f88_0.2.1 d14_3 rfl ?_
  intro T_89 X_89
  refine ow_aloadN X_89 7 d14_6 rfl rfl rfl ?_
  refine ow_dup X_89 8 d14_7 rfl rfl ?_
  refine ow_getF X_89 11 84 rfl rfl f88_0.2.2 d14_8 rfl ?_
  intro T_90 X_90
  refine ow_dupX1 X_90 12 d14_11 rfl rfl rfl ?_
  refine ow_iconst X_90 13 (1 : Int32) d14_12 rfl rfl ?_
  refine ow_iadd X_90 14 d14_13 rfl ?_
  refine ow_putF X_90 17 84 8 rfl rfl f88_0.2.2 f88_0.1 (Or.inl (oSt_at X_90 85 rfl)) rfl (ty := .int) (by decide) rfl rfl ga d14_14 rfl ?_
  intro T_91 h_91 X_91 W_91
  have f92_0 : TRR Z h_91 a (.ref tb) (.int (((0 : Int32) + (1 : Int32)) + (1 : Int32))) := TRR.set_at (oSt_w X_91) f88_0 W_91
  have f92_1 : oA Z h_91 tb .byte 6 (fun i_ => .int (B i_)) := f88_1.other W_91 (Ne.symm ne)
  have f92_2 : Keep h h_91 [a] := f88_2.wr W_91 (Or.inl (List.mem_of_getElem? (i := 0) rfl))
  refine ow_baload X_91 18 f92_1 d14_17 rfl (by decide) (by decide) rfl ?_
  refine ow_istoreN X_91 19 (L' := #[.val (.ref a), .val (.int (((0 : Int32) <<< ((7 : Int32) &&& 31)) ||| ((B (0 : Int32).toInt.toNat) &&& (127 : Int32)))), .val (.int (B ((0 : Int32) + (1 : Int32)).toInt.toNat))]) d14_18 rfl rfl ?_
  refine ow_iloadN X_91 20 d14_19 rfl rfl ?_
  refine ow_bipush X_91 22 (7 : Int32) d14_20 rfl rfl ?_
  refine ow_ishl X_91 23 d14_22 rfl ?_
  refine ow_iloadN X_91 24 d14_23 rfl rfl ?_
  refine ow_bipush X_91 26 (127 : Int32) d14_24 rfl rfl ?_
  refine ow_iand X_91 27 d14_26 rfl ?_
  refine ow_ior X_91 28 d14_27 rfl ?_
  refine ow_istoreN X_91 29 (L' := #[.val (.ref a), .val (.int (((((0 : Int32) <<< ((7 : Int32) &&& 31)) ||| ((B (0 : Int32).toInt.toNat) &&& (127 : Int32))) <<< ((7 : Int32) &&& 31)) ||| ((B ((0 : Int32) + (1 : Int32)).toInt.toNat) &&& (127 : Int32)))), .val (.int (B ((0 : Int32) + (1 : Int32)).toInt.toNat))]) d14_28 rfl rfl ?_
  refine ow_iloadN X_91 30 d14_29 rfl rfl ?_
  refine ow_if_lt X_91 33 2 d14_30 rfl rfl (fun (c30 : (B ((0 : Int32) + (1 : Int32)).toInt.toNat).toInt < 0) => ?_) (fun (c30 : 0 ≤ (B ((0 : Int32) + (1 : Int32)).toInt.toNat).toInt) => absurd c30 (Int.not_le.mpr hb1))
  refine ow_aloadN X_91 3 d14_2 rfl rfl rfl ?_
  refine ow_getF X_91 6 77 rfl rfl f92_0.2.1 d14_3 rfl ?_
  intro T_93 X_93
  refine ow_aloadN X_93 7 d14_6 rfl rfl rfl ?_
  refine ow_dup X_93 8 d14_7 rfl rfl ?_
  refine ow_getF X_93 11 84 rfl rfl f92_0.2.2 d14_8 rfl ?_
  intro T_94 X_94
  refine ow_dupX1 X_94 12 d14_11 rfl rfl rfl ?_
  refine ow_iconst X_94 13 (1 : Int32) d14_12 rfl rfl ?_
  refine ow_iadd X_94 14 d14_13 rfl ?_
  refine ow_putF X_94 17 84 8 rfl rfl f92_0.2.2 f92_0.1 (Or.inl (oSt_at X_94 85 rfl)) rfl (ty := .int) (by decide) rfl rfl ga d14_14 rfl ?_
  intro T_95 h_95 X_95 W_95
  have f96_0 : TRR Z h_95 a (.ref tb) (.int ((((0 : Int32) + (1 : Int32)) + (1 : Int32)) + (1 : Int32))) := TRR.set_at (oSt_w X_95) f92_0 W_95
  have f96_1 : oA Z h_95 tb .byte 6 (fun i_ => .int (B i_)) := f92_1.other W_95 (Ne.symm ne)
  have f96_2 : Keep h h_95 [a] := f92_2.wr W_95 (Or.inl (List.mem_of_getElem? (i := 0) rfl))
  refine ow_baload X_95 18 f96_1 d14_17 rfl (by decide) (by decide) rfl ?_
  refine ow_istoreN X_95 19 (L' := #[.val (.ref a), .val (.int (((((0 : Int32) <<< ((7 : Int32) &&& 31)) ||| ((B (0 : Int32).toInt.toNat) &&& (127 : Int32))) <<< ((7 : Int32) &&& 31)) ||| ((B ((0 : Int32) + (1 : Int32)).toInt.toNat) &&& (127 : Int32)))), .val (.int (B (((0 : Int32) + (1 : Int32)) + (1 : Int32)).toInt.toNat))]) d14_18 rfl rfl ?_
  refine ow_iloadN X_95 20 d14_19 rfl rfl ?_
  refine ow_bipush X_95 22 (7 : Int32) d14_20 rfl rfl ?_
  refine ow_ishl X_95 23 d14_22 rfl ?_
  refine ow_iloadN X_95 24 d14_23 rfl rfl ?_
  refine ow_bipush X_95 26 (127 : Int32) d14_24 rfl rfl ?_
  refine ow_iand X_95 27 d14_26 rfl ?_
  refine ow_ior X_95 28 d14_27 rfl ?_
  refine ow_istoreN X_95 29 (L' := #[.val (.ref a), .val (.int (((((((0 : Int32) <<< ((7 : Int32) &&& 31)) ||| ((B (0 : Int32).toInt.toNat) &&& (127 : Int32))) <<< ((7 : Int32) &&& 31)) ||| ((B ((0 : Int32) + (1 : Int32)).toInt.toNat) &&& (127 : Int32))) <<< ((7 : Int32) &&& 31)) ||| ((B (((0 : Int32) + (1 : Int32)) + (1 : Int32)).toInt.toNat) &&& (127 : Int32)))), .val (.int (B (((0 : Int32) + (1 : Int32)) + (1 : Int32)).toInt.toNat))]) d14_28 rfl rfl ?_
  refine ow_iloadN X_95 30 d14_29 rfl rfl ?_
  refine ow_if_lt X_95 33 2 d14_30 rfl rfl (fun (c30 : (B (((0 : Int32) + (1 : Int32)) + (1 : Int32)).toInt.toNat).toInt < 0) => ?_) (fun (c30 : 0 ≤ (B (((0 : Int32) + (1 : Int32)) + (1 : Int32)).toInt.toNat).toInt) => absurd c30 (Int.not_le.mpr hb2))
  refine ow_aloadN X_95 3 d14_2 rfl rfl rfl ?_
  refine ow_getF X_95 6 77 rfl rfl f96_0.2.1 d14_3 rfl ?_
  intro T_97 X_97
  refine ow_aloadN X_97 7 d14_6 rfl rfl rfl ?_
  refine ow_dup X_97 8 d14_7 rfl rfl ?_
  refine ow_getF X_97 11 84 rfl rfl f96_0.2.2 d14_8 rfl ?_
  intro T_98 X_98
  refine ow_dupX1 X_98 12 d14_11 rfl rfl rfl ?_
  refine ow_iconst X_98 13 (1 : Int32) d14_12 rfl rfl ?_
  refine ow_iadd X_98 14 d14_13 rfl ?_
  refine ow_putF X_98 17 84 8 rfl rfl f96_0.2.2 f96_0.1 (Or.inl (oSt_at X_98 85 rfl)) rfl (ty := .int) (by decide) rfl rfl ga d14_14 rfl ?_
  intro T_99 h_99 X_99 W_99
  have f100_0 : TRR Z h_99 a (.ref tb) (.int (((((0 : Int32) + (1 : Int32)) + (1 : Int32)) + (1 : Int32)) + (1 : Int32))) := TRR.set_at (oSt_w X_99) f96_0 W_99
  have f100_1 : oA Z h_99 tb .byte 6 (fun i_ => .int (B i_)) := f96_1.other W_99 (Ne.symm ne)
  have f100_2 : Keep h h_99 [a] := f96_2.wr W_99 (Or.inl (List.mem_of_getElem? (i := 0) rfl))
  refine ow_baload X_99 18 f100_1 d14_17 rfl (by decide) (by decide) rfl ?_
  refine ow_istoreN X_99 19 (L' := #[.val (.ref a), .val (.int (((((((0 : Int32) <<< ((7 : Int32) &&& 31)) ||| ((B (0 : Int32).toInt.toNat) &&& (127 : Int32))) <<< ((7 : Int32) &&& 31)) ||| ((B ((0 : Int32) + (1 : Int32)).toInt.toNat) &&& (127 : Int32))) <<< ((7 : Int32) &&& 31)) ||| ((B (((0 : Int32) + (1 : Int32)) + (1 : Int32)).toInt.toNat) &&& (127 : Int32)))), .val (.int (B ((((0 : Int32) + (1 : Int32)) + (1 : Int32)) + (1 : Int32)).toInt.toNat))]) d14_18 rfl rfl ?_
  refine ow_iloadN X_99 20 d14_19 rfl rfl ?_
  refine ow_bipush X_99 22 (7 : Int32) d14_20 rfl rfl ?_
  refine ow_ishl X_99 23 d14_22 rfl ?_
  refine ow_iloadN X_99 24 d14_23 rfl rfl ?_
  refine ow_bipush X_99 26 (127 : Int32) d14_24 rfl rfl ?_
  refine ow_iand X_99 27 d14_26 rfl ?_
  refine ow_ior X_99 28 d14_27 rfl ?_
  refine ow_istoreN X_99 29 (L' := #[.val (.ref a), .val (.int (((((((((0 : Int32) <<< ((7 : Int32) &&& 31)) ||| ((B (0 : Int32).toInt.toNat) &&& (127 : Int32))) <<< ((7 : Int32) &&& 31)) ||| ((B ((0 : Int32) + (1 : Int32)).toInt.toNat) &&& (127 : Int32))) <<< ((7 : Int32) &&& 31)) ||| ((B (((0 : Int32) + (1 : Int32)) + (1 : Int32)).toInt.toNat) &&& (127 : Int32))) <<< ((7 : Int32) &&& 31)) ||| ((B ((((0 : Int32) + (1 : Int32)) + (1 : Int32)) + (1 : Int32)).toInt.toNat) &&& (127 : Int32)))), .val (.int (B ((((0 : Int32) + (1 : Int32)) + (1 : Int32)) + (1 : Int32)).toInt.toNat))]) d14_28 rfl rfl ?_
  refine ow_iloadN X_99 30 d14_29 rfl rfl ?_
  refine ow_if_lt X_99 33 2 d14_30 rfl rfl (fun (c30 : (B ((((0 : Int32) + (1 : Int32)) + (1 : Int32)) + (1 : Int32)).toInt.toNat).toInt < 0) => absurd c30 (Int.not_lt.mpr hb3)) (fun (c30 : 0 ≤ (B ((((0 : Int32) + (1 : Int32)) + (1 : Int32)) + (1 : Int32)).toInt.toNat).toInt) => ?_)
  refine ow_iloadN X_99 34 d14_33 rfl rfl ?_
  refine ow_retI X_99 rfl d14_34 (by decide) (by decide) ?_
  exact ⟨rfl, f100_2, f100_0⟩
set_option maxRecDepth 65536 in
set_option maxHeartbeats 4000000 in
theorem C_s4 {Z : State} {ω : OW} {h : Heap} (hw_ : ∀ d ∈ tables_1, d.before ω.2.2 Z = true) (hn_ : ω.2.1 ≤ h.size) (a tb : Addr) (B : Nat → Int32) (T0 : TRR Z h a (.ref tb) (.int (((((0 : Int32) + (1 : Int32)) + (1 : Int32)) + (1 : Int32)) + (1 : Int32)))) (Ab : oA Z h tb .byte 6 (fun i_ => .int (B i_))) (ga : ω.2.1 ≤ a) (ne : a ≠ tb) (hb0 : 0 ≤ (B 4).toInt) :
    oC Z ω (⟨"com/example/rexquill/rexquill/TableReader", "number", "()I"⟩ : MethodName) k14 [] #[.ref a] h (fun v h' => v = some (.int (own_nx 0 (B 4))) ∧ Keep h h' [a] ∧ TRR Z h' a (.ref tb) (.int ((((((0 : Int32) + (1 : Int32)) + (1 : Int32)) + (1 : Int32)) + (1 : Int32)) + (1 : Int32)))) := by
  refine oC_of hw_ hn_ pn14 rfl rfl (L := #[.val (.ref a), .unset, .unset]) (fun m => by first | (simp [entryFrame, mkF, argsToLocals, Value.category, k14]; done) | rfl) ?_
  intro γ T X
  refine ow_iconst X 1 (0 : Int32) d14_0 rfl rfl ?_
  refine ow_istoreN X 2 (L' := #[.val (.ref a), .val (.int (0 : Int32)), .unset]) d14_1 rfl rfl ?_
  refine ow_aloadN X 3 d14_2 rfl rfl rfl ?_
  refine ow_getF X 6 77 rfl rfl T0.2.1 d14_3 rfl ?_
  intro T_101 X_101
  refine ow_aloadN X_101 7 d14_6 rfl rfl rfl ?_
  refine ow_dup X_101 8 d14_7 rfl rfl ?_
  refine ow_getF X_101 11 84 rfl rfl T0.2.2 d14_8 rfl ?_
  intro T_102 X_102
  refine ow_dupX1 X_102 12 d14_11 rfl rfl rfl ?_
  refine ow_iconst X_102 13 (1 : Int32) d14_12 rfl rfl ?_
  refine ow_iadd X_102 14 d14_13 rfl ?_
  refine ow_putF X_102 17 84 8 rfl rfl T0.2.2 T0.1 (Or.inl (oSt_at X_102 85 rfl)) rfl (ty := .int) (by decide) rfl rfl ga d14_14 rfl ?_
  intro T_103 h_103 X_103 W_103
  have f104_0 : TRR Z h_103 a (.ref tb) (.int ((((((0 : Int32) + (1 : Int32)) + (1 : Int32)) + (1 : Int32)) + (1 : Int32)) + (1 : Int32))) := TRR.set_at (oSt_w X_103) T0 W_103
  have f104_1 : oA Z h_103 tb .byte 6 (fun i_ => .int (B i_)) := Ab.other W_103 (Ne.symm ne)
  have f104_2 : Keep h h_103 [a] := (Keep.refl h [a]).wr W_103 (Or.inl (List.mem_of_getElem? (i := 0) rfl))
  refine ow_baload X_103 18 f104_1 d14_17 rfl (by decide) (by decide) rfl ?_
  refine ow_istoreN X_103 19 (L' := #[.val (.ref a), .val (.int (0 : Int32)), .val (.int (B (((((0 : Int32) + (1 : Int32)) + (1 : Int32)) + (1 : Int32)) + (1 : Int32)).toInt.toNat))]) d14_18 rfl rfl ?_
  refine ow_iloadN X_103 20 d14_19 rfl rfl ?_
  refine ow_bipush X_103 22 (7 : Int32) d14_20 rfl rfl ?_
  refine ow_ishl X_103 23 d14_22 rfl ?_
  refine ow_iloadN X_103 24 d14_23 rfl rfl ?_
  refine ow_bipush X_103 26 (127 : Int32) d14_24 rfl rfl ?_
  refine ow_iand X_103 27 d14_26 rfl ?_
  refine ow_ior X_103 28 d14_27 rfl ?_
  refine ow_istoreN X_103 29 (L' := #[.val (.ref a), .val (.int (((0 : Int32) <<< ((7 : Int32) &&& 31)) ||| ((B (((((0 : Int32) + (1 : Int32)) + (1 : Int32)) + (1 : Int32)) + (1 : Int32)).toInt.toNat) &&& (127 : Int32)))), .val (.int (B (((((0 : Int32) + (1 : Int32)) + (1 : Int32)) + (1 : Int32)) + (1 : Int32)).toInt.toNat))]) d14_28 rfl rfl ?_
  refine ow_iloadN X_103 30 d14_29 rfl rfl ?_
  refine ow_if_lt X_103 33 2 d14_30 rfl rfl (fun (c30 : (B (((((0 : Int32) + (1 : Int32)) + (1 : Int32)) + (1 : Int32)) + (1 : Int32)).toInt.toNat).toInt < 0) => absurd c30 (Int.not_lt.mpr hb0)) (fun (c30 : 0 ≤ (B (((((0 : Int32) + (1 : Int32)) + (1 : Int32)) + (1 : Int32)) + (1 : Int32)).toInt.toNat).toInt) => ?_)
  refine ow_iloadN X_103 34 d14_33 rfl rfl ?_
  refine ow_retI X_103 rfl d14_34 (by decide) (by decide) ?_
  exact ⟨rfl, f104_2, f104_0⟩
set_option maxRecDepth 65536 in
set_option maxHeartbeats 4000000 in
theorem C_f5 {Z : State} {ω : OW} {h : Heap} (hw_ : ∀ d ∈ tables_1, d.before ω.2.2 Z = true) (hn_ : ω.2.1 ≤ h.size) (a tb : Addr) (B : Nat → Int32) (T0 : TRR Z h a (.ref tb) (.int (0 : Int32))) (Ab : oA Z h tb .byte 6 (fun i_ => .int (B i_))) (ga : ω.2.1 ≤ a) (ne : a ≠ tb) (hb0 : (B 0).toInt < 0) (hb1 : (B 1).toInt < 0) (hb2 : (B 2).toInt < 0) (hb3 : (B 3).toInt < 0) (hb4 : 0 ≤ (B 4).toInt) :
    oC Z ω (⟨"com/example/rexquill/rexquill/TableReader", "number", "()I"⟩ : MethodName) k14 [] #[.ref a] h (fun v h' => v = some (.int (own_ac B 5)) ∧ Keep h h' [a] ∧ TRR Z h' a (.ref tb) (.int ((((((0 : Int32) + (1 : Int32)) + (1 : Int32)) + (1 : Int32)) + (1 : Int32)) + (1 : Int32)))) := by
  refine oC_of hw_ hn_ pn14 rfl rfl (L := #[.val (.ref a), .unset, .unset]) (fun m => by first | (simp [entryFrame, mkF, argsToLocals, Value.category, k14]; done) | rfl) ?_
  intro γ T X
  refine ow_iconst X 1 (0 : Int32) d14_0 rfl rfl ?_
  refine ow_istoreN X 2 (L' := #[.val (.ref a), .val (.int (0 : Int32)), .unset]) d14_1 rfl rfl ?_
  refine ow_aloadN X 3 d14_2 rfl rfl rfl ?_
  refine ow_getF X 6 77 rfl rfl T0.2.1 d14_3 rfl ?_
  intro T_105 X_105
  refine ow_aloadN X_105 7 d14_6 rfl rfl rfl ?_
  refine ow_dup X_105 8 d14_7 rfl rfl ?_
  refine ow_getF X_105 11 84 rfl rfl T0.2.2 d14_8 rfl ?_
  intro T_106 X_106
  refine ow_dupX1 X_106 12 d14_11 rfl rfl rfl ?_
  refine ow_iconst X_106 13 (1 : Int32) d14_12 rfl rfl ?_
  refine ow_iadd X_106 14 d14_13 rfl ?_
  refine ow_putF X_106 17 84 8 rfl rfl T0.2.2 T0.1 (Or.inl (oSt_at X_106 85 rfl)) rfl (ty := .int) (by decide) rfl rfl ga d14_14 rfl ?_
  intro T_107 h_107 X_107 W_107
  have f108_0 : TRR Z h_107 a (.ref tb) (.int ((0 : Int32) + (1 : Int32))) := TRR.set_at (oSt_w X_107) T0 W_107
  have f108_1 : oA Z h_107 tb .byte 6 (fun i_ => .int (B i_)) := Ab.other W_107 (Ne.symm ne)
  have f108_2 : Keep h h_107 [a] := (Keep.refl h [a]).wr W_107 (Or.inl (List.mem_of_getElem? (i := 0) rfl))
  refine ow_baload X_107 18 f108_1 d14_17 rfl (by decide) (by decide) rfl ?_
  refine ow_istoreN X_107 19 (L' := #[.val (.ref a), .val (.int (0 : Int32)), .val (.int (B (0 : Int32).toInt.toNat))]) d14_18 rfl rfl ?_
  refine ow_iloadN X_107 20 d14_19 rfl rfl ?_
  refine ow_bipush X_107 22 (7 : Int32) d14_20 rfl rfl ?_
  refine ow_ishl X_107 23 d14_22 rfl ?_
  refine ow_iloadN X_107 24 d14_23 rfl rfl ?_
  refine ow_bipush X_107 26 (127 : Int32) d14_24 rfl rfl ?_
  refine ow_iand X_107 27 d14_26 rfl ?_
  refine ow_ior X_107 28 d14_27 rfl ?_
  refine ow_istoreN X_107 29 (L' := #[.val (.ref a), .val (.int (((0 : Int32) <<< ((7 : Int32) &&& 31)) ||| ((B (0 : Int32).toInt.toNat) &&& (127 : Int32)))), .val (.int (B (0 : Int32).toInt.toNat))]) d14_28 rfl rfl ?_
  refine ow_iloadN X_107 30 d14_29 rfl rfl ?_
  refine ow_if_lt X_107 33 2 d14_30 rfl rfl (fun (c30 : (B (0 : Int32).toInt.toNat).toInt < 0) => ?_) (fun (c30 : 0 ≤ (B (0 : Int32).toInt.toNat).toInt) => absurd c30 (Int.not_le.mpr hb0))
  refine ow_aloadN X_107 3 d14_2 rfl rfl rfl ?_
  refine ow_getF X_107 6 77 rfl rfl f108_0.2.1 d14_3 rfl ?_
  intro T_109 X_109
  refine ow_aloadN X_109 7 d14_6 rfl rfl rfl ?_
  refine ow_dup X_109 8 d14_7 rfl rfl ?_
  refine ow_getF X_109 11 84 rfl rfl f108_0.2.2 d14_8 rfl ?_
  intro T_110 X_110
  refine ow_dupX1 X_110 12 d14_11 rfl rfl rfl ?_
  refine ow_iconst X_110 13 (1 : Int32) d14_12 rfl rfl ?_
  refine ow_iadd X_110 14 d14_13 rfl ?_
  refine ow_putF X_110 17 84 8 rfl rfl f108_0.2.2 f108_0.1 (Or.inl (oSt_at X_110 85 rfl)) rfl (ty := .int) (by decide) rfl rfl ga d14_14 rfl ?_
  intro T_111 h_111 X_111 W_111
  have f112_0 : TRR Z h_111 a (.ref tb) (.int (((0 : Int32) + (1 : Int32)) + (1 : Int32))) := TRR.set_at (oSt_w X_111) f108_0 W_111
  have f112_1 : oA Z h_111 tb .byte 6 (fun i_ => .int (B i_)) := f108_1.other W_111 (Ne.symm ne)
  have f112_2 : Keep h h_111 [a] := f108_2.wr W_111 (Or.inl (List.mem_of_getElem? (i := 0) rfl))
  refine ow_baload X_111 18 f112_1 d14_17 rfl (by decide) (by decide) rfl ?_
  refine ow_istoreN X_111 19 (L' := #[.val (.ref a), .val (.int (((0 : Int32) <<< ((7 : Int32) &&& 31)) ||| ((B (0 : Int32).toInt.toNat) &&& (127 : Int32)))), .val (.int (B ((0 : Int32) + (1 : Int32)).toInt.toNat))]) d14_18 rfl rfl ?_
  refine ow_iloadN X_111 20 d14_19 rfl rfl ?_
  refine ow_bipush X_111 22 (7 : Int32) d14_20 rfl rfl ?_
  refine ow_ishl X_111 23 d14_22 rfl ?_
  refine ow_iloadN X_111 24 d14_23 rfl rfl ?_
  refine ow_bipush X_111 26 (127 : Int32) d14_24 rfl rfl ?_
  refine ow_iand X_111 27 d14_26 rfl ?_
  refine ow_ior X_111 28 d14_27 rfl ?_
  refine ow_istoreN X_111 29 (L' := #[.val (.ref a), .val (.int (((((0 : Int32) <<< ((7 : Int32) &&& 31)) ||| ((B (0 : Int32).toInt.toNat) &&& (127 : Int32))) <<< ((7 : Int32) &&& 31)) ||| ((B ((0 : Int32) + (1 : Int32)).toInt.toNat) &&& (127 : Int32)))), .val (.int (B ((0 : Int32) + (1 : Int32)).toInt.toNat))]) d14_28 rfl rfl ?_
  refine ow_iloadN X_111 30 d14_29 rfl rfl ?_
  refine ow_if_lt X_111 33 2 d14_30 rfl rfl (fun (c30 : (B ((0 : Int32) + (1 : Int32)).toInt.toNat).toInt < 0) => ?_) (fun (c30 : 0 ≤ (B ((0 : Int32) + (1 : Int32)).toInt.toNat).toInt) => absurd c30 (Int.not_le.mpr hb1))
  refine ow_aloadN X_111 3 d14_2 rfl rfl rfl ?_
  refine ow_getF X_111 6 77 rfl rfl f112_0.2.1 d14_3 rfl ?_
  intro T_113 X_113
  refine ow_aloadN X_113 7 d14_6 rfl rfl rfl ?_
  refine ow_dup X_113 8 d14_7 rfl rfl ?_
  refine ow_getF X_113 11 84 rfl rfl f112_0.2.2 d14_8 rfl ?_
  intro T_114 X_114
  refine ow_dupX1 X_114 12 d14_11 rfl rfl rfl ?_
  refine ow_iconst X_114 13 (1 : Int32) d14_12 rfl rfl ?_
  refine ow_iadd X_114 14 d14_13 rfl ?_
  refine ow_putF X_114 17 84 8 rfl rfl f112_0.2.2 f112_0.1 (Or.inl (oSt_at X_114 85 rfl)) rfl (ty := .int) (by decide) rfl rfl ga d14_14 rfl ?_
  intro T_115 h_115 X_115 W_115
  have f116_0 : TRR Z h_115 a (.ref tb) (.int ((((0 : Int32) + (1 : Int32)) + (1 : Int32)) + (1 : Int32))) := TRR.set_at (oSt_w X_115) f112_0 W_115
  have f116_1 : oA Z h_115 tb .byte 6 (fun i_ => .int (B i_)) := f112_1.other W_115 (Ne.symm ne)
  have f116_2 : Keep h h_115 [a] := f112_2.wr W_115 (Or.inl (List.mem_of_getElem? (i := 0) rfl))
  refine ow_baload X_115 18 f116_1 d14_17 rfl (by decide) (by decide) rfl ?_
  refine ow_istoreN X_115 19 (L' := #[.val (.ref a), .val (.int (((((0 : Int32) <<< ((7 : Int32) &&& 31)) ||| ((B (0 : Int32).toInt.toNat) &&& (127 : Int32))) <<< ((7 : Int32) &&& 31)) ||| ((B ((0 : Int32) + (1 : Int32)).toInt.toNat) &&& (127 : Int32)))), .val (.int (B (((0 : Int32) + (1 : Int32)) + (1 : Int32)).toInt.toNat))]) d14_18 rfl rfl ?_
  refine ow_iloadN X_115 20 d14_19 rfl rfl ?_
  refine ow_bipush X_115 22 (7 : Int32) d14_20 rfl rfl ?_
  refine ow_ishl X_115 23 d14_22 rfl ?_
  refine ow_iloadN X_115 24 d14_23 rfl rfl ?_
  refine ow_bipush X_115 26 (127 : Int32) d14_24 rfl rfl ?_
  refine ow_iand X_115 27 d14_26 rfl ?_
  refine ow_ior X_115 28 d14_27 rfl ?_
  refine ow_istoreN X_115 29 (L' := #[.val (.ref a), .val (.int (((((((0 : Int32) <<< ((7 : Int32) &&& 31)) ||| ((B (0 : Int32).toInt.toNat) &&& (127 : Int32))) <<< ((7 : Int32) &&& 31)) ||| ((B ((0 : Int32) + (1 : Int32)).toInt.toNat) &&& (127 : Int32))) <<< ((7 : Int32) &&& 31)) ||| ((B (((0 : Int32) + (1 : Int32)) + (1 : Int32)).toInt.toNat) &&& (127 : Int32)))), .val (.int (B (((0 : Int32) + (1 : Int32)) + (1 : Int32)).toInt.toNat))]) d14_28 rfl rfl ?_
  refine ow_iloadN X_115 30 d14_29 rfl rfl ?_
  refine ow_if_lt X_115 33 2 d14_30 rfl rfl (fun (c30 : (B (((0 : Int32) + (1 : Int32)) + (1 : Int32)).toInt.toNat).toInt < 0) => ?_) (fun (c30 : 0 ≤ (B (((0 : Int32) + (1 : Int32)) + (1 : Int32)).toInt.toNat).toInt) => absurd c30 (Int.not_le.mpr hb2))
  refine ow_aloadN X_115 3 d14_2 rfl rfl rfl ?_
  refine ow_getF X_115 6 77 rfl rfl f116_0.2.1 d14_3 rfl ?_
  intro T_117 X_117
  refine ow_aloadN X_117 7 d14_6 rfl rfl rfl ?_
  refine ow_dup X_117 8 d14_7 rfl rfl ?_
  refine ow_getF X_117 11 84 rfl rfl f116_0.2.2 d14_8 rfl ?_
  intro T_118 X_118
  refine ow_dupX1 X_118 12 d14_11 rfl rfl rfl ?_
  refine ow_iconst X_118 13 (1 : Int32) d14_12 rfl rfl ?_
  refine ow_iadd X_118 14 d14_13 rfl ?_
  refine ow_putF X_118 17 84 8 rfl rfl f116_0.2.2 f116_0.1 (Or.inl (oSt_at X_118 85 rfl)) rfl (ty := .int) (by decide) rfl rfl ga d14_14 rfl ?_
  intro T_119 h_119 X_119 W_119
  have f120_0 : TRR Z h_119 a (.ref tb) (.int (((((0 : Int32) + (1 : Int32)) + (1 : Int32)) + (1 : Int32)) + (1 : Int32))) := TRR.set_at (oSt_w X_119) f116_0 W_119
  have f120_1 : oA Z h_119 tb .byte 6 (fun i_ => .int (B i_)) := f116_1.other W_119 (Ne.symm ne)
  have f120_2 : Keep h h_119 [a] := f116_2.wr W_119 (Or.inl (List.mem_of_getElem? (i := 0) rfl))
  refine ow_baload X_119 18 f120_1 d14_17 rfl (by decide) (by decide) rfl ?_
  refine ow_istoreN X_119 19 (L' := #[.val (.ref a), .val (.int (((((((0 : Int32) <<< ((7 : Int32) &&& 31)) ||| ((B (0 : Int32).toInt.toNat) &&& (127 : Int32))) <<< ((7 : Int32) &&& 31)) ||| ((B ((0 : Int32) + (1 : Int32)).toInt.toNat) &&& (127 : Int32))) <<< ((7 : Int32) &&& 31)) ||| ((B (((0 : Int32) + (1 : Int32)) + (1 : Int32)).toInt.toNat) &&& (127 : Int32)))), .val (.int (B ((((0 : Int32) + (1 : Int32)) + (1 : Int32)) + (1 : Int32)).toInt.toNat))]) d14_18 rfl rfl ?_
  refine ow_iloadN X_119 20 d14_19 rfl rfl ?_
  refine ow_bipush X_119 22 (7 : Int32) d14_20 rfl rfl ?_
  refine ow_ishl X_119 23 d14_22 rfl ?_
  refine ow_iloadN X_119 24 d14_23 rfl rfl ?_
  refine ow_bipush X_119 26 (127 : Int32) d14_24 rfl rfl ?_
  refine ow_iand X_119 27 d14_26 rfl ?_
  refine ow_ior X_119 28 d14_27 rfl ?_
  refine ow_istoreN X_119 29 (L' := #[.val (.ref a), .val (.int (((((((((0 : Int32) <<< ((7 : Int32) &&& 31)) ||| ((B (0 : Int32).toInt.toNat) &&& (127 : Int32))) <<< ((7 : Int32) &&& 31)) ||| ((B ((0 : Int32) + (1 : Int32)).toInt.toNat) &&& (127 : Int32))) <<< ((7 : Int32) &&& 31)) ||| ((B (((0 : Int32) + (1 : Int32)) + (1 : Int32)).toInt.toNat) &&& (127 : Int32))) <<< ((7 : Int32) &&& 31)) ||| ((B ((((0 : Int32) + (1 : Int32)) + (1 : Int32)) + (1 : Int32)).toInt.toNat) &&& (127 : Int32)))), .val (.int (B ((((0 : Int32) + (1 : Int32)) + (1 : Int32)) + (1 : Int32)).toInt.toNat))]) d14_28 rfl rfl ?_
  refine ow_iloadN X_119 30 d14_29 rfl rfl ?_
  refine ow_if_lt X_119 33 2 d14_30 rfl rfl (fun (c30 : (B ((((0 : Int32) + (1 : Int32)) + (1 : Int32)) + (1 : Int32)).toInt.toNat).toInt < 0) => ?_) (fun (c30 : 0 ≤ (B ((((0 : Int32) + (1 : Int32)) + (1 : Int32)) + (1 : Int32)).toInt.toNat).toInt) => absurd c30 (Int.not_le.mpr hb3))
  refine ow_aloadN X_119 3 d14_2 rfl rfl rfl ?_
  refine ow_getF X_119 6 77 rfl rfl f120_0.2.1 d14_3 rfl ?_
  intro T_121 X_121
  refine ow_aloadN X_121 7 d14_6 rfl rfl rfl ?_
  refine ow_dup X_121 8 d14_7 rfl rfl ?_
  refine ow_getF X_121 11 84 rfl rfl f120_0.2.2 d14_8 rfl ?_
  intro T_122 X_122
  refine ow_dupX1 X_122 12 d14_11 rfl rfl rfl ?_
  refine ow_iconst X_122 13 (1 : Int32) d14_12 rfl rfl ?_
  refine ow_iadd X_122 14 d14_13 rfl ?_
  refine ow_putF X_122 17 84 8 rfl rfl f120_0.2.2 f120_0.1 (Or.inl (oSt_at X_122 85 rfl)) rfl (ty := .int) (by decide) rfl rfl ga d14_14 rfl ?_
  intro T_123 h_123 X_123 W_123
  have f124_0 : TRR Z h_123 a (.ref tb) (.int ((((((0 : Int32) + (1 : Int32)) + (1 : Int32)) + (1 : Int32)) + (1 : Int32)) + (1 : Int32))) := TRR.set_at (oSt_w X_123) f120_0 W_123
  have f124_1 : oA Z h_123 tb .byte 6 (fun i_ => .int (B i_)) := f120_1.other W_123 (Ne.symm ne)
  have f124_2 : Keep h h_123 [a] := f120_2.wr W_123 (Or.inl (List.mem_of_getElem? (i := 0) rfl))
  refine ow_baload X_123 18 f124_1 d14_17 rfl (by decide) (by decide) rfl ?_
  refine ow_istoreN X_123 19 (L' := #[.val (.ref a), .val (.int (((((((((0 : Int32) <<< ((7 : Int32) &&& 31)) ||| ((B (0 : Int32).toInt.toNat) &&& (127 : Int32))) <<< ((7 : Int32) &&& 31)) ||| ((B ((0 : Int32) + (1 : Int32)).toInt.toNat) &&& (127 : Int32))) <<< ((7 : Int32) &&& 31)) ||| ((B (((0 : Int32) + (1 : Int32)) + (1 : Int32)).toInt.toNat) &&& (127 : Int32))) <<< ((7 : Int32) &&& 31)) ||| ((B ((((0 : Int32) + (1 : Int32)) + (1 : Int32)) + (1 : Int32)).toInt.toNat) &&& (127 : Int32)))), .val (.int (B (((((0 : Int32) + (1 : Int32)) + (1 : Int32)) + (1 : Int32)) + (1 : Int32)).toInt.toNat))]) d14_18 rfl rfl ?_
  refine ow_iloadN X_123 20 d14_19 rfl rfl ?_
  refine ow_bipush X_123 22 (7 : Int32) d14_20 rfl rfl ?_
  refine ow_ishl X_123 23 d14_22 rfl ?_
  refine ow_iloadN X_123 24 d14_23 rfl rfl ?_
  refine ow_bipush X_123 26 (127 : Int32) d14_24 rfl rfl ?_
  refine ow_iand X_123 27 d14_26 rfl ?_
  refine ow_ior X_123 28 d14_27 rfl ?_
  refine ow_istoreN X_123 29 (L' := #[.val (.ref a), .val (.int (((((((((((0 : Int32) <<< ((7 : Int32) &&& 31)) ||| ((B (0 : Int32).toInt.toNat) &&& (127 : Int32))) <<< ((7 : Int32) &&& 31)) ||| ((B ((0 : Int32) + (1 : Int32)).toInt.toNat) &&& (127 : Int32))) <<< ((7 : Int32) &&& 31)) ||| ((B (((0 : Int32) + (1 : Int32)) + (1 : Int32)).toInt.toNat) &&& (127 : Int32))) <<< ((7 : Int32) &&& 31)) ||| ((B ((((0 : Int32) + (1 : Int32)) + (1 : Int32)) + (1 : Int32)).toInt.toNat) &&& (127 : Int32))) <<< ((7 : Int32) &&& 31)) ||| ((B (((((0 : Int32) + (1 : Int32)) + (1 : Int32)) + (1 : Int32)) + (1 : Int32)).toInt.toNat) &&& (127 : Int32)))), .val (.int (B (((((0 : Int32) + (1 : Int32)) + (1 : Int32)) + (1 : Int32)) + (1 : Int32)).toInt.toNat))]) d14_28 rfl rfl ?_
  refine ow_iloadN X_123 30 d14_29 rfl rfl ?_
  refine ow_if_lt X_123 33 2 d14_30 rfl rfl (fun (c30 : (B (((((0 : Int32) + (1 : Int32)) + (1 : Int32)) + (1 : Int32)) + (1 : Int32)).toInt.toNat).toInt < 0) => absurd c30 (Int.not_lt.mpr hb4)) (fun (c30 : 0 ≤ (B (((((0 : Int32) + (1 : Int32)) + (1 : Int32)) + (1 : Int32)) + (1 : Int32)).toInt.toNat).toInt) => ?_)
  refine ow_iloadN X_123 34 d14_33 rfl rfl ?_
  refine ow_retI X_123 rfl d14_34 (by decide) (by decide) ?_
  exact ⟨rfl, f124_2, f124_0⟩
set_option maxRecDepth 65536 in
set_option maxHeartbeats 4000000 in
theorem C_s5 {Z : State} {ω : OW} {h : Heap} (hw_ : ∀ d ∈ tables_1, d.before ω.2.2 Z = true) (hn_ : ω.2.1 ≤ h.size) (a tb : Addr) (B : Nat → Int32) (T0 : TRR Z h a (.ref tb) (.int ((((((0 : Int32) + (1 : Int32)) + (1 : Int32)) + (1 : Int32)) + (1 : Int32)) + (1 : Int32)))) (Ab : oA Z h tb .byte 6 (fun i_ => .int (B i_))) (ga : ω.2.1 ≤ a) (ne : a ≠ tb) (hb0 : 0 ≤ (B 5).toInt) :
    oC Z ω (⟨"com/example/rexquill/rexquill/TableReader", "number", "()I"⟩ : MethodName) k14 [] #[.ref a] h (fun v h' => v = some (.int (own_nx 0 (B 5))) ∧ Keep h h' [a] ∧ TRR Z h' a (.ref tb) (.int (((((((0 : Int32) + (1 : Int32)) + (1 : Int32)) + (1 : Int32)) + (1 : Int32)) + (1 : Int32)) + (1 : Int32)))) := by
  refine oC_of hw_ hn_ pn14 rfl rfl (L := #[.val (.ref a), .unset, .unset]) (fun m => by first | (simp [entryFrame, mkF, argsToLocals, Value.category, k14]; done) | rfl) ?_
  intro γ T X
  refine ow_iconst X 1 (0 : Int32) d14_0 rfl rfl ?_
  refine ow_istoreN X 2 (L' := #[.val (.ref a), .val (.int (0 : Int32)), .unset]) d14_1 rfl rfl ?_
  refine ow_aloadN X 3 d14_2 rfl rfl rfl ?_
  refine ow_getF X 6 77 rfl rfl T0.2.1 d14_3 rfl ?_
  intro T_125 X_125
  refine ow_aloadN X_125 7 d14_6 rfl rfl rfl ?_
  refine ow_dup X_125 8 d14_7 rfl rfl ?_
  refine ow_getF X_125 11 84 rfl rfl T0.2.2 d14_8 rfl ?_
  intro T_126 X_126
  refine ow_dupX1 X_126 12 d14_11 rfl rfl rfl ?_
  refine ow_iconst X_126 13 (1 : Int32) d14_12 rfl rfl ?_
  refine ow_iadd X_126 14 d14_13 rfl ?_
  refine ow_putF X_126 17 84 8 rfl rfl T0.2.2 T0.1 (Or.inl (oSt_at X_126 85 rfl)) rfl (ty := .int) (by decide) rfl rfl ga d14_14 rfl ?_
  intro T_127 h_127 X_127 W_127
  have f128_0 : TRR Z h_127 a (.ref tb) (.int (((((((0 : Int32) + (1 : Int32)) + (1 : Int32)) + (1 : Int32)) + (1 : Int32)) + (1 : Int32)) + (1 : Int32))) := TRR.set_at (oSt_w X_127) T0 W_127
  have f128_1 : oA Z h_127 tb .byte 6 (fun i_ => .int (B i_)) := Ab.other W_127 (Ne.symm ne)
  have f128_2 : Keep h h_127 [a] := (Keep.refl h [a]).wr W_127 (Or.inl (List.mem_of_getElem? (i := 0) rfl))
  refine ow_baload X_127 18 f128_1 d14_17 rfl (by decide) (by decide) rfl ?_
  refine ow_istoreN X_127 19 (L' := #[.val (.ref a), .val (.int (0 : Int32)), .val (.int (B ((((((0 : Int32) + (1 : Int32)) + (1 : Int32)) + (1 : Int32)) + (1 : Int32)) + (1 : Int32)).toInt.toNat))]) d14_18 rfl rfl ?_
  refine ow_iloadN X_127 20 d14_19 rfl rfl ?_
  refine ow_bipush X_127 22 (7 : Int32) d14_20 rfl rfl ?_
  refine ow_ishl X_127 23 d14_22 rfl ?_
  refine ow_iloadN X_127 24 d14_23 rfl rfl ?_
  refine ow_bipush X_127 26 (127 : Int32) d14_24 rfl rfl ?_
  refine ow_iand X_127 27 d14_26 rfl ?_
  refine ow_ior X_127 28 d14_27 rfl ?_
  refine ow_istoreN X_127 29 (L' := #[.val (.ref a), .val (.int (((0 : Int32) <<< ((7 : Int32) &&& 31)) ||| ((B ((((((0 : Int32) + (1 : Int32)) + (1 : Int32)) + (1 : Int32)) + (1 : Int32)) + (1 : Int32)).toInt.toNat) &&& (127 : Int32)))), .val (.int (B ((((((0 : Int32) + (1 : Int32)) + (1 : Int32)) + (1 : Int32)) + (1 : Int32)) + (1 : Int32)).toInt.toNat))]) d14_28 rfl rfl ?_
  refine ow_iloadN X_127 30 d14_29 rfl rfl ?_
  refine ow_if_lt X_127 33 2 d14_30 rfl rfl (fun (c30 : (B ((((((0 : Int32) + (1 : Int32)) + (1 : Int32)) + (1 : Int32)) + (1 : Int32)) + (1 : Int32)).toInt.toNat).toInt < 0) => absurd c30 (Int.not_lt.mpr hb0)) (fun (c30 : 0 ≤ (B ((((((0 : Int32) + (1 : Int32)) + (1 : Int32)) + (1 : Int32)) + (1 : Int32)) + (1 : Int32)).toInt.toNat).toInt) => ?_)
  refine ow_iloadN X_127 34 d14_33 rfl rfl ?_
  refine ow_retI X_127 rfl d14_34 (by decide) (by decide) ?_
  exact ⟨rfl, f128_2, f128_0⟩
def k0 : OM := (code, maxLocals, "com/example/rexquill/rexquill/TableReaderNumberPinLaw", "law", ret, room_1)
theorem pn0 : plainFor Jvm.Pilot.@@N@@.x = true := plainFor_of_name (by first | (simp [plainName, overriddenIn]; done) | decide +kernel)
theorem pd0 : parseMethodDescriptor "(JII)Z" = some ⟨[.long, .int, .int], (some .boolean)⟩ := by decide +kernel
set_option maxRecDepth 65536 in
set_option maxHeartbeats 4000000 in
theorem C_law {Z : State} {ω : OW} {h : Heap} (hw_ : ∀ d ∈ tables_1, d.before ω.2.2 Z = true) (hn_ : ω.2.1 ≤ h.size) (p0 : Int64) (p1 p2 : Int32) (xI xV : Addr) (zc : Int32) (SC : Sta Z h "java/lang/String" "COMPACT_STRINGS" "Z" (.int zc)) (SI : Sta Z h "java/nio/charset/StandardCharsets" "ISO_8859_1" "Ljava/nio/charset/Charset;" (.ref xI)) (SJ : Sta Z h "sun/nio/cs/ISO_8859_1" "INSTANCE" "Lsun/nio/cs/ISO_8859_1;" (.ref xI)) (SV : Sta Z h "sun/nio/cs/UTF_8" "INSTANCE" "Lsun/nio/cs/UTF_8;" (.ref xV)) (hx : xI ≠ xV) (hz : zc.toInt ≠ 0) :
    oC Z ω Jvm.Pilot.@@N@@.x k0 tables_1 #[.long p0, .int p1, .int p2] h (fun v _ => v = some (.int 1)) := by
  refine oC_of hw_ hn_ pn0 rfl rfl (L := #[.val (.long p0), .second, .val (.int p1), .val (.int p2), .unset, .unset, .unset, .unset, .unset, .unset, .unset, .unset, .unset, .unset, .unset, .unset, .unset, .unset]) (fun m => by first | (simp [entryFrame, mkF, argsToLocals, Value.category, k0, maxLocals]; done) | rfl) ?_
  intro γ T X
  refine ow_iloadN X 1 at_0 rfl rfl ?_
  refine ow_ldcI X 3 0 rfl rfl at_1 rfl ?_
  refine ow_iand X 4 at_3 rfl ?_
  refine ow_iconst X 5 (5 : Int32) at_4 rfl rfl ?_
  refine ow_irem X 6 at_5 rfl (by decide) ?_
  refine ow_iconst X 7 (1 : Int32) at_6 rfl rfl ?_
  refine ow_iadd X 8 at_7 rfl ?_
  refine ow_istore X 10 (L' := #[.val (.long p0), .second, .val (.int p1), .val (.int p2), .val (.int (((p2 &&& (2147483647 : Int32)) % (5 : Int32)) + (1 : Int32))), .unset, .unset, .unset, .unset, .unset, .unset, .unset, .unset, .unset, .unset, .unset, .unset, .unset]) at_8 rfl rfl ?_
  have hn : 1 ≤ (((p2 &&& (2147483647 : Int32)) % (5 : Int32)) + (1 : Int32)).toInt ∧ (((p2 &&& (2147483647 : Int32)) % (5 : Int32)) + (1 : Int32)).toInt ≤ 5 := own_n p2
  generalize ((p2 &&& (2147483647 : Int32)) % (5 : Int32)) + (1 : Int32) = n at hn ⊢
  refine ow_lloadN X 11 at_10 rfl rfl ?_
  refine ow_ldc2J X 14 1 rfl rfl at_11 rfl ?_
  refine ow_land X 15 at_14 rfl ?_
  refine ow_l2i X 16 at_15 rfl ?_
  refine ow_istore X 18 (L' := #[.val (.long p0), .second, .val (.int p1), .val (.int p2), .val (.int n), .val (.int ((p0 &&& (127 : Int64)).toInt32)), .unset, .unset, .unset, .unset, .unset, .unset, .unset, .unset, .unset, .unset, .unset, .unset]) at_16 rfl rfl ?_
  have hd0 : 0 ≤ ((p0 &&& (127 : Int64)).toInt32).toInt ∧ ((p0 &&& (127 : Int64)).toInt32).toInt ≤ 127 := own_d _
  generalize (p0 &&& (127 : Int64)).toInt32 = d0 at hd0 ⊢
  refine ow_lloadN X 19 at_18 rfl rfl ?_
  refine ow_bipush X 21 (7 : Int32) at_19 rfl rfl ?_
  refine ow_lushr X 22 at_21 rfl ?_
  refine ow_ldc2J X 25 1 rfl rfl at_22 rfl ?_
  refine ow_land X 26 at_25 rfl ?_
  refine ow_l2i X 27 at_26 rfl ?_
  refine ow_istore X 29 (L' := #[.val (.long p0), .second, .val (.int p1), .val (.int p2), .val (.int n), .val (.int d0), .val (.int ((((p0.toUInt64 >>> ((7 : Int32) &&& 0x3f).toInt64.toUInt64).toInt64) &&& (127 : Int64)).toInt32)), .unset, .unset, .unset, .unset, .unset, .unset, .unset, .unset, .unset, .unset, .unset]) at_27 rfl rfl ?_
  have hd1 : 0 ≤ ((((p0.toUInt64 >>> ((7 : Int32) &&& 0x3f).toInt64.toUInt64).toInt64) &&& (127 : Int64)).toInt32).toInt ∧ ((((p0.toUInt64 >>> ((7 : Int32) &&& 0x3f).toInt64.toUInt64).toInt64) &&& (127 : Int64)).toInt32).toInt ≤ 127 := own_d _
  generalize (((p0.toUInt64 >>> ((7 : Int32) &&& 0x3f).toInt64.toUInt64).toInt64) &&& (127 : Int64)).toInt32 = d1 at hd1 ⊢
  refine ow_lloadN X 30 at_29 rfl rfl ?_
  refine ow_bipush X 32 (14 : Int32) at_30 rfl rfl ?_
  refine ow_lushr X 33 at_32 rfl ?_
  refine ow_ldc2J X 36 1 rfl rfl at_33 rfl ?_
  refine ow_land X 37 at_36 rfl ?_
  refine ow_l2i X 38 at_37 rfl ?_
  refine ow_istore X 40 (L' := #[.val (.long p0), .second, .val (.int p1), .val (.int p2), .val (.int n), .val (.int d0), .val (.int d1), .val (.int ((((p0.toUInt64 >>> ((14 : Int32) &&& 0x3f).toInt64.toUInt64).toInt64) &&& (127 : Int64)).toInt32)), .unset, .unset, .unset, .unset, .unset, .unset, .unset, .unset, .unset, .unset]) at_38 rfl rfl ?_
  have hd2 : 0 ≤ ((((p0.toUInt64 >>> ((14 : Int32) &&& 0x3f).toInt64.toUInt64).toInt64) &&& (127 : Int64)).toInt32).toInt ∧ ((((p0.toUInt64 >>> ((14 : Int32) &&& 0x3f).toInt64.toUInt64).toInt64) &&& (127 : Int64)).toInt32).toInt ≤ 127 := own_d _
  generalize (((p0.toUInt64 >>> ((14 : Int32) &&& 0x3f).toInt64.toUInt64).toInt64) &&& (127 : Int64)).toInt32 = d2 at hd2 ⊢
  refine ow_lloadN X 41 at_40 rfl rfl ?_
  refine ow_bipush X 43 (21 : Int32) at_41 rfl rfl ?_
  refine ow_lushr X 44 at_43 rfl ?_
  refine ow_ldc2J X 47 1 rfl rfl at_44 rfl ?_
  refine ow_land X 48 at_47 rfl ?_
  refine ow_l2i X 49 at_48 rfl ?_
  refine ow_istore X 51 (L' := #[.val (.long p0), .second, .val (.int p1), .val (.int p2), .val (.int n), .val (.int d0), .val (.int d1), .val (.int d2), .val (.int ((((p0.toUInt64 >>> ((21 : Int32) &&& 0x3f).toInt64.toUInt64).toInt64) &&& (127 : Int64)).toInt32)), .unset, .unset, .unset, .unset, .unset, .unset, .unset, .unset, .unset]) at_49 rfl rfl ?_
  have hd3 : 0 ≤ ((((p0.toUInt64 >>> ((21 : Int32) &&& 0x3f).toInt64.toUInt64).toInt64) &&& (127 : Int64)).toInt32).toInt ∧ ((((p0.toUInt64 >>> ((21 : Int32) &&& 0x3f).toInt64.toUInt64).toInt64) &&& (127 : Int64)).toInt32).toInt ≤ 127 := own_d _
  generalize (((p0.toUInt64 >>> ((21 : Int32) &&& 0x3f).toInt64.toUInt64).toInt64) &&& (127 : Int64)).toInt32 = d3 at hd3 ⊢
  refine ow_lloadN X 52 at_51 rfl rfl ?_
  refine ow_bipush X 54 (28 : Int32) at_52 rfl rfl ?_
  refine ow_lushr X 55 at_54 rfl ?_
  refine ow_ldc2J X 58 1 rfl rfl at_55 rfl ?_
  refine ow_land X 59 at_58 rfl ?_
  refine ow_l2i X 60 at_59 rfl ?_
  refine ow_istore X 62 (L' := #[.val (.long p0), .second, .val (.int p1), .val (.int p2), .val (.int n), .val (.int d0), .val (.int d1), .val (.int d2), .val (.int d3), .val (.int ((((p0.toUInt64 >>> ((28 : Int32) &&& 0x3f).toInt64.toUInt64).toInt64) &&& (127 : Int64)).toInt32)), .unset, .unset, .unset, .unset, .unset, .unset, .unset, .unset]) at_60 rfl rfl ?_
  have hd4 : 0 ≤ ((((p0.toUInt64 >>> ((28 : Int32) &&& 0x3f).toInt64.toUInt64).toInt64) &&& (127 : Int64)).toInt32).toInt ∧ ((((p0.toUInt64 >>> ((28 : Int32) &&& 0x3f).toInt64.toUInt64).toInt64) &&& (127 : Int64)).toInt32).toInt ≤ 127 := own_d _
  generalize (((p0.toUInt64 >>> ((28 : Int32) &&& 0x3f).toInt64.toUInt64).toInt64) &&& (127 : Int64)).toInt32 = d4 at hd4 ⊢
  refine ow_iloadN X 63 at_62 rfl rfl ?_
  refine ow_bipush X 65 (127 : Int32) at_63 rfl rfl ?_
  refine ow_iand X 66 at_65 rfl ?_
  refine ow_istore X 68 (L' := #[.val (.long p0), .second, .val (.int p1), .val (.int p2), .val (.int n), .val (.int d0), .val (.int d1), .val (.int d2), .val (.int d3), .val (.int d4), .val (.int (p1 &&& (127 : Int32))), .unset, .unset, .unset, .unset, .unset, .unset, .unset]) at_66 rfl rfl ?_
  have he : 0 ≤ (p1 &&& (127 : Int32)).toInt ∧ (p1 &&& (127 : Int32)).toInt ≤ 127 := own_a127 _
  generalize p1 &&& (127 : Int32) = e at he ⊢
  refine ow_iloadN X 69 at_68 rfl rfl ?_
  refine ow_bipush X 71 (8 : Int32) at_69 rfl rfl ?_
  refine ow_iushr X 72 at_71 rfl ?_
  refine ow_sipush X 75 (255 : Int32) at_72 rfl rfl ?_
  refine ow_iand X 76 at_75 rfl ?_
  refine ow_istore X 78 (L' := #[.val (.long p0), .second, .val (.int p1), .val (.int p2), .val (.int n), .val (.int d0), .val (.int d1), .val (.int d2), .val (.int d3), .val (.int d4), .val (.int e), .val (.int (((p1.toUInt32 >>> ((8 : Int32) &&& 31).toUInt32).toInt32) &&& (255 : Int32))), .unset, .unset, .unset, .unset, .unset, .unset]) at_76 rfl rfl ?_
  have hf : 0 ≤ (((p1.toUInt32 >>> ((8 : Int32) &&& 31).toUInt32).toInt32) &&& (255 : Int32)).toInt ∧ (((p1.toUInt32 >>> ((8 : Int32) &&& 31).toUInt32).toInt32) &&& (255 : Int32)).toInt ≤ 255 := own_a255 _
  generalize ((p1.toUInt32 >>> ((8 : Int32) &&& 31).toUInt32).toInt32) &&& (255 : Int32) = f at hf ⊢
  refine ow_bipush X 80 (6 : Int32) at_78 rfl rfl ?_
  refine ow_newP X 82 2 (cap := 6) rfl at_80 rfl (by decide) (by decide) (by decide) (by decide) (by decide) ?_
  intro T_129 h_129 a_129 q_129 X_129 E_129 A_129 g_129
  have f130_0 : Sta Z h_129 "java/lang/String" "COMPACT_STRINGS" "Z" (.int zc) := Sta.ext E_129 SC
  have f130_1 : Sta Z h_129 "java/nio/charset/StandardCharsets" "ISO_8859_1" "Ljava/nio/charset/Charset;" (.ref xI) := Sta.ext E_129 SI
  have f130_2 : Sta Z h_129 "sun/nio/cs/ISO_8859_1" "INSTANCE" "Lsun/nio/cs/ISO_8859_1;" (.ref xI) := Sta.ext E_129 SJ
  have f130_3 : Sta Z h_129 "sun/nio/cs/UTF_8" "INSTANCE" "Lsun/nio/cs/UTF_8;" (.ref xV) := Sta.ext E_129 SV
  have A_129 : oA Z h_129 a_129 .char ((6 : Int32).toInt.toNat) (fun i_ => .int (oZI i_)) := A_129
  refine ow_astore X_129 84 (L' := #[.val (.long p0), .second, .val (.int p1), .val (.int p2), .val (.int n), .val (.int d0), .val (.int d1), .val (.int d2), .val (.int d3), .val (.int d4), .val (.int e), .val (.int f), .val (.ref a_129), .unset, .unset, .unset, .unset, .unset]) at_82 rfl rfl rfl ?_
  refine ow_aload X_129 86 at_84 rfl rfl rfl ?_
  refine ow_iconst X_129 87 (0 : Int32) at_86 rfl rfl ?_
  refine ow_iconst X_129 88 (0 : Int32) at_87 rfl rfl ?_
  refine ow_iload X_129 90 at_88 rfl rfl ?_
  refine ow_iload X_129 92 at_90 rfl rfl ?_
  refine ow_iload X_129 94 at_92 rfl rfl ?_
  refine ow_iload X_129 96 at_94 rfl rfl ?_
  refine ow_callS X_129 99 3 4 5 6 (κ' := k1) (as := [.int (0 : Int32), .int n, .int d0, .int e, .int f]) (S := [.int (0 : Int32), .ref a_129]) (W := 2) rfl rfl rfl rfl rfl (by decide) (C_ch (oSt_w X_129) (oSt_n0 X_129) (0 : Int32) n d0 e f hn hd0 he hf) (by decide) (by decide) (Nat.le_of_eq rfl) (by decide) (by decide) pd1 rfl rfl rfl at_96 rfl ?_
  intro v_131 T_131 h_131 X_131 q_131
  obtain ⟨z0, rfl, rfl, hz0⟩ := q_131
  show oWP ω γ k0 _ T_131 99 #[.val (.long p0), .second, .val (.int p1), .val (.int p2), .val (.int n), .val (.int d0), .val (.int d1), .val (.int d2), .val (.int d3), .val (.int d4), .val (.int e), .val (.int f), .val (.ref a_129), .unset, .unset, .unset, .unset, .unset] [.int z0, .int (0 : Int32), .ref a_129]
  refine ow_castore X_131 100 A_129 g_129 at_99 rfl (by decide) (by decide) ?_
  intro T_132 h_132 X_132 W_132
  have f133_0 : Sta Z h_132 "java/lang/String" "COMPACT_STRINGS" "Z" (.int zc) := f130_0.wr W_132
  have f133_1 : Sta Z h_132 "java/nio/charset/StandardCharsets" "ISO_8859_1" "Ljava/nio/charset/Charset;" (.ref xI) := f130_1.wr W_132
  have f133_2 : Sta Z h_132 "sun/nio/cs/ISO_8859_1" "INSTANCE" "Lsun/nio/cs/ISO_8859_1;" (.ref xI) := f130_2.wr W_132
  have f133_3 : Sta Z h_132 "sun/nio/cs/UTF_8" "INSTANCE" "Lsun/nio/cs/UTF_8;" (.ref xV) := f130_3.wr W_132
  have f133_4 : oA Z h_132 a_129 .char ((6 : Int32).toInt.toNat) (fun i_ => .int ((oUpd oZI ((0 : Int32).toInt.toNat) (nar .char z0)) i_)) := A_129.setI W_132
  rw [own_nar z0 hz0.1 hz0.2.1] at f133_4
  refine ow_aload X_132 102 at_100 rfl rfl rfl ?_
  refine ow_iconst X_132 103 (1 : Int32) at_102 rfl rfl ?_
  refine ow_iconst X_132 104 (1 : Int32) at_103 rfl rfl ?_
  refine ow_iload X_132 106 at_104 rfl rfl ?_
  refine ow_iload X_132 108 at_106 rfl rfl ?_
  refine ow_iload X_132 110 at_108 rfl rfl ?_
  refine ow_iload X_132 112 at_110 rfl rfl ?_
  refine ow_callS X_132 115 3 4 5 6 (κ' := k1) (as := [.int (1 : Int32), .int n, .int d1, .int e, .int f]) (S := [.int (1 : Int32), .ref a_129]) (W := 2) rfl rfl rfl rfl rfl (by decide) (C_ch (oSt_w X_132) (oSt_n0 X_132) (1 : Int32) n d1 e f hn hd1 he hf) (by decide) (by decide) (Nat.le_of_eq rfl) (by decide) (by decide) pd1 rfl rfl rfl at_112 rfl ?_
  intro v_134 T_134 h_134 X_134 q_134
  obtain ⟨z1, rfl, rfl, hz1⟩ := q_134
  show oWP ω γ k0 _ T_134 115 #[.val (.long p0), .second, .val (.int p1), .val (.int p2), .val (.int n), .val (.int d0), .val (.int d1), .val (.int d2), .val (.int d3), .val (.int d4), .val (.int e), .val (.int f), .val (.ref a_129), .unset, .unset, .unset, .unset, .unset] [.int z1, .int (1 : Int32), .ref a_129]
  refine ow_castore X_134 116 f133_4 g_129 at_115 rfl (by decide) (by decide) ?_
  intro T_135 h_135 X_135 W_135
  have f136_0 : Sta Z h_135 "java/lang/String" "COMPACT_STRINGS" "Z" (.int zc) := f133_0.wr W_135
  have f136_1 : Sta Z h_135 "java/nio/charset/StandardCharsets" "ISO_8859_1" "Ljava/nio/charset/Charset;" (.ref xI) := f133_1.wr W_135
  have f136_2 : Sta Z h_135 "sun/nio/cs/ISO_8859_1" "INSTANCE" "Lsun/nio/cs/ISO_8859_1;" (.ref xI) := f133_2.wr W_135
  have f136_3 : Sta Z h_135 "sun/nio/cs/UTF_8" "INSTANCE" "Lsun/nio/cs/UTF_8;" (.ref xV) := f133_3.wr W_135
  have f136_4 : oA Z h_135 a_129 .char ((6 : Int32).toInt.toNat) (fun i_ => .int ((oUpd (oUpd oZI ((0 : Int32).toInt.toNat) z0) ((1 : Int32).toInt.toNat) (nar .char z1)) i_)) := f133_4.setI W_135
  rw [own_nar z1 hz1.1 hz1.2.1] at f136_4
  refine ow_aload X_135 118 at_116 rfl rfl rfl ?_
  refine ow_iconst X_135 119 (2 : Int32) at_118 rfl rfl ?_
  refine ow_iconst X_135 120 (2 : Int32) at_119 rfl rfl ?_
  refine ow_iload X_135 122 at_120 rfl rfl ?_
  refine ow_iload X_135 124 at_122 rfl rfl ?_
  refine ow_iload X_135 126 at_124 rfl rfl ?_
  refine ow_iload X_135 128 at_126 rfl rfl ?_
  refine ow_callS X_135 131 3 4 5 6 (κ' := k1) (as := [.int (2 : Int32), .int n, .int d2, .int e, .int f]) (S := [.int (2 : Int32), .ref a_129]) (W := 2) rfl rfl rfl rfl rfl (by decide) (C_ch (oSt_w X_135) (oSt_n0 X_135) (2 : Int32) n d2 e f hn hd2 he hf) (by decide) (by decide) (Nat.le_of_eq rfl) (by decide) (by decide) pd1 rfl rfl rfl at_128 rfl ?_
  intro v_137 T_137 h_137 X_137 q_137
  obtain ⟨z2, rfl, rfl, hz2⟩ := q_137
  show oWP ω γ k0 _ T_137 131 #[.val (.long p0), .second, .val (.int p1), .val (.int p2), .val (.int n), .val (.int d0), .val (.int d1), .val (.int d2), .val (.int d3), .val (.int d4), .val (.int e), .val (.int f), .val (.ref a_129), .unset, .unset, .unset, .unset, .unset] [.int z2, .int (2 : Int32), .ref a_129]
  refine ow_castore X_137 132 f136_4 g_129 at_131 rfl (by decide) (by decide) ?_
  intro T_138 h_138 X_138 W_138
  have f139_0 : Sta Z h_138 "java/lang/String" "COMPACT_STRINGS" "Z" (.int zc) := f136_0.wr W_138
  have f139_1 : Sta Z h_138 "java/nio/charset/StandardCharsets" "ISO_8859_1" "Ljava/nio/charset/Charset;" (.ref xI) := f136_1.wr W_138
  have f139_2 : Sta Z h_138 "sun/nio/cs/ISO_8859_1" "INSTANCE" "Lsun/nio/cs/ISO_8859_1;" (.ref xI) := f136_2.wr W_138
  have f139_3 : Sta Z h_138 "sun/nio/cs/UTF_8" "INSTANCE" "Lsun/nio/cs/UTF_8;" (.ref xV) := f136_3.wr W_138
  have f139_4 : oA Z h_138 a_129 .char ((6 : Int32).toInt.toNat) (fun i_ => .int ((oUpd (oUpd (oUpd oZI ((0 : Int32).toInt.toNat) z0) ((1 : Int32).toInt.toNat) z1) ((2 : Int32).toInt.toNat) (nar .char z2)) i_)) := f136_4.setI W_138
  rw [own_nar z2 hz2.1 hz2.2.1] at f139_4
  refine ow_aload X_138 134 at_132 rfl rfl rfl ?_
  refine ow_iconst X_138 135 (3 : Int32) at_134 rfl rfl ?_
  refine ow_iconst X_138 136 (3 : Int32) at_135 rfl rfl ?_
  refine ow_iload X_138 138 at_136 rfl rfl ?_
  refine ow_iload X_138 140 at_138 rfl rfl ?_
  refine ow_iload X_138 142 at_140 rfl rfl ?_
  refine ow_iload X_138 144 at_142 rfl rfl ?_
  refine ow_callS X_138 147 3 4 5 6 (κ' := k1) (as := [.int (3 : Int32), .int n, .int d3, .int e, .int f]) (S := [.int (3 : Int32), .ref a_129]) (W := 2) rfl rfl rfl rfl rfl (by decide) (C_ch (oSt_w X_138) (oSt_n0 X_138) (3 : Int32) n d3 e f hn hd3 he hf) (by decide) (by decide) (Nat.le_of_eq rfl) (by decide) (by decide) pd1 rfl rfl rfl at_144 rfl ?_
  intro v_140 T_140 h_140 X_140 q_140
  obtain ⟨z3, rfl, rfl, hz3⟩ := q_140
  show oWP ω γ k0 _ T_140 147 #[.val (.long p0), .second, .val (.int p1), .val (.int p2), .val (.int n), .val (.int d0), .val (.int d1), .val (.int d2), .val (.int d3), .val (.int d4), .val (.int e), .val (.int f), .val (.ref a_129), .unset, .unset, .unset, .unset, .unset] [.int z3, .int (3 : Int32), .ref a_129]
  refine ow_castore X_140 148 f139_4 g_129 at_147 rfl (by decide) (by decide) ?_
  intro T_141 h_141 X_141 W_141
  have f142_0 : Sta Z h_141 "java/lang/String" "COMPACT_STRINGS" "Z" (.int zc) := f139_0.wr W_141
  have f142_1 : Sta Z h_141 "java/nio/charset/StandardCharsets" "ISO_8859_1" "Ljava/nio/charset/Charset;" (.ref xI) := f139_1.wr W_141
  have f142_2 : Sta Z h_141 "sun/nio/cs/ISO_8859_1" "INSTANCE" "Lsun/nio/cs/ISO_8859_1;" (.ref xI) := f139_2.wr W_141
  have f142_3 : Sta Z h_141 "sun/nio/cs/UTF_8" "INSTANCE" "Lsun/nio/cs/UTF_8;" (.ref xV) := f139_3.wr W_141
  have f142_4 : oA Z h_141 a_129 .char ((6 : Int32).toInt.toNat) (fun i_ => .int ((oUpd (oUpd (oUpd (oUpd oZI ((0 : Int32).toInt.toNat) z0) ((1 : Int32).toInt.toNat) z1) ((2 : Int32).toInt.toNat) z2) ((3 : Int32).toInt.toNat) (nar .char z3)) i_)) := f139_4.setI W_141
  rw [own_nar z3 hz3.1 hz3.2.1] at f142_4
  refine ow_aload X_141 150 at_148 rfl rfl rfl ?_
  refine ow_iconst X_141 151 (4 : Int32) at_150 rfl rfl ?_
  refine ow_iconst X_141 152 (4 : Int32) at_151 rfl rfl ?_
  refine ow_iload X_141 154 at_152 rfl rfl ?_
  refine ow_iload X_141 156 at_154 rfl rfl ?_
  refine ow_iload X_141 158 at_156 rfl rfl ?_
  refine ow_iload X_141 160 at_158 rfl rfl ?_
  refine ow_callS X_141 163 3 4 5 6 (κ' := k1) (as := [.int (4 : Int32), .int n, .int d4, .int e, .int f]) (S := [.int (4 : Int32), .ref a_129]) (W := 2) rfl rfl rfl rfl rfl (by decide) (C_ch (oSt_w X_141) (oSt_n0 X_141) (4 : Int32) n d4 e f hn hd4 he hf) (by decide) (by decide) (Nat.le_of_eq rfl) (by decide) (by decide) pd1 rfl rfl rfl at_160 rfl ?_
  intro v_143 T_143 h_143 X_143 q_143
  obtain ⟨z4, rfl, rfl, hz4⟩ := q_143
  show oWP ω γ k0 _ T_143 163 #[.val (.long p0), .second, .val (.int p1), .val (.int p2), .val (.int n), .val (.int d0), .val (.int d1), .val (.int d2), .val (.int d3), .val (.int d4), .val (.int e), .val (.int f), .val (.ref a_129), .unset, .unset, .unset, .unset, .unset] [.int z4, .int (4 : Int32), .ref a_129]
  refine ow_castore X_143 164 f142_4 g_129 at_163 rfl (by decide) (by decide) ?_
  intro T_144 h_144 X_144 W_144
  have f145_0 : Sta Z h_144 "java/lang/String" "COMPACT_STRINGS" "Z" (.int zc) := f142_0.wr W_144
  have f145_1 : Sta Z h_144 "java/nio/charset/StandardCharsets" "ISO_8859_1" "Ljava/nio/charset/Charset;" (.ref xI) := f142_1.wr W_144
  have f145_2 : Sta Z h_144 "sun/nio/cs/ISO_8859_1" "INSTANCE" "Lsun/nio/cs/ISO_8859_1;" (.ref xI) := f142_2.wr W_144
  have f145_3 : Sta Z h_144 "sun/nio/cs/UTF_8" "INSTANCE" "Lsun/nio/cs/UTF_8;" (.ref xV) := f142_3.wr W_144
  have f145_4 : oA Z h_144 a_129 .char ((6 : Int32).toInt.toNat) (fun i_ => .int ((oUpd (oUpd (oUpd (oUpd (oUpd oZI ((0 : Int32).toInt.toNat) z0) ((1 : Int32).toInt.toNat) z1) ((2 : Int32).toInt.toNat) z2) ((3 : Int32).toInt.toNat) z3) ((4 : Int32).toInt.toNat) (nar .char z4)) i_)) := f142_4.setI W_144
  rw [own_nar z4 hz4.1 hz4.2.1] at f145_4
  refine ow_aload X_144 166 at_164 rfl rfl rfl ?_
  refine ow_iconst X_144 167 (5 : Int32) at_166 rfl rfl ?_
  refine ow_iconst X_144 168 (5 : Int32) at_167 rfl rfl ?_
  refine ow_iload X_144 170 at_168 rfl rfl ?_
  refine ow_iconst X_144 171 (0 : Int32) at_170 rfl rfl ?_
  refine ow_iload X_144 173 at_171 rfl rfl ?_
  refine ow_iload X_144 175 at_173 rfl rfl ?_
  refine ow_callS X_144 178 3 4 5 6 (κ' := k1) (as := [.int (5 : Int32), .int n, .int (0 : Int32), .int e, .int f]) (S := [.int (5 : Int32), .ref a_129]) (W := 2) rfl rfl rfl rfl rfl (by decide) (C_ch (oSt_w X_144) (oSt_n0 X_144) (5 : Int32) n (0 : Int32) e f hn (by decide) he hf) (by decide) (by decide) (Nat.le_of_eq rfl) (by decide) (by decide) pd1 rfl rfl rfl at_175 rfl ?_
  intro v_146 T_146 h_146 X_146 q_146
  obtain ⟨z5, rfl, rfl, hz5⟩ := q_146
  show oWP ω γ k0 _ T_146 178 #[.val (.long p0), .second, .val (.int p1), .val (.int p2), .val (.int n), .val (.int d0), .val (.int d1), .val (.int d2), .val (.int d3), .val (.int d4), .val (.int e), .val (.int f), .val (.ref a_129), .unset, .unset, .unset, .unset, .unset] [.int z5, .int (5 : Int32), .ref a_129]
  refine ow_castore X_146 179 f145_4 g_129 at_178 rfl (by decide) (by decide) ?_
  intro T_147 h_147 X_147 W_147
  have f148_0 : Sta Z h_147 "java/lang/String" "COMPACT_STRINGS" "Z" (.int zc) := f145_0.wr W_147
  have f148_1 : Sta Z h_147 "java/nio/charset/StandardCharsets" "ISO_8859_1" "Ljava/nio/charset/Charset;" (.ref xI) := f145_1.wr W_147
  have f148_2 : Sta Z h_147 "sun/nio/cs/ISO_8859_1" "INSTANCE" "Lsun/nio/cs/ISO_8859_1;" (.ref xI) := f145_2.wr W_147
  have f148_3 : Sta Z h_147 "sun/nio/cs/UTF_8" "INSTANCE" "Lsun/nio/cs/UTF_8;" (.ref xV) := f145_3.wr W_147
  have f148_4 : oA Z h_147 a_129 .char ((6 : Int32).toInt.toNat) (fun i_ => .int ((oUpd (oUpd (oUpd (oUpd (oUpd (oUpd oZI ((0 : Int32).toInt.toNat) z0) ((1 : Int32).toInt.toNat) z1) ((2 : Int32).toInt.toNat) z2) ((3 : Int32).toInt.toNat) z3) ((4 : Int32).toInt.toNat) z4) ((5 : Int32).toInt.toNat) (nar .char z5)) i_)) := f145_4.setI W_147
  rw [own_nar z5 hz5.1 hz5.2.1] at f148_4
  have Acs : oA Z h_147 a_129 .char 6 (fun i_ => .int ((own_g z0 z1 z2 z3 z4 z5) i_)) := f148_4.congr (fun i hi => by
    have : i = 0 ∨ i = 1 ∨ i = 2 ∨ i = 3 ∨ i = 4 ∨ i = 5 := by have e : (6 : Int32).toInt.toNat = 6 := rfl; omega
    rcases this with rfl | rfl | rfl | rfl | rfl | rfl <;> rfl)
  have hg : ∀ i, i < 6 → 0 ≤ (own_g z0 z1 z2 z3 z4 z5 i).toInt ∧ (own_g z0 z1 z2 z3 z4 z5 i).toInt ≤ 255 := by
    intro i hi
    have : i = 0 ∨ i = 1 ∨ i = 2 ∨ i = 3 ∨ i = 4 ∨ i = 5 := by omega
    rcases this with rfl | rfl | rfl | rfl | rfl | rfl
    · exact ⟨hz0.1, hz0.2.1⟩
    · exact ⟨hz1.1, hz1.2.1⟩
    · exact ⟨hz2.1, hz2.2.1⟩
    · exact ⟨hz3.1, hz3.2.1⟩
    · exact ⟨hz4.1, hz4.2.1⟩
    · exact ⟨hz5.1, hz5.2.1⟩
  refine ow_new X_147 182 7 8 9 rfl rfl rfl rfl at_179 rfl (by decide) (by decide) ?_
  intro T_149 h_149 a_149 q_149 X_149 E_149 A_149 D_149 g_149
  have ne_a_129_a_149 : a_129 ≠ a_149 := by rw [q_149]; exact Nat.ne_of_lt Acs.lt
  have f150_0 : Sta Z h_149 "java/lang/String" "COMPACT_STRINGS" "Z" (.int zc) := Sta.ext E_149 f148_0
  have f150_1 : Sta Z h_149 "java/nio/charset/StandardCharsets" "ISO_8859_1" "Ljava/nio/charset/Charset;" (.ref xI) := Sta.ext E_149 f148_1
  have f150_2 : Sta Z h_149 "sun/nio/cs/ISO_8859_1" "INSTANCE" "Lsun/nio/cs/ISO_8859_1;" (.ref xI) := Sta.ext E_149 f148_2
  have f150_3 : Sta Z h_149 "sun/nio/cs/UTF_8" "INSTANCE" "Lsun/nio/cs/UTF_8;" (.ref xV) := Sta.ext E_149 f148_3
  have f150_4 : oA Z h_149 a_129 .char 6 (fun i_ => .int ((own_g z0 z1 z2 z3 z4 z5) i_)) := Acs.ext E_149
  have R_149 : TRR Z h_149 a_149 .null (.int (0 : Int32)) := ⟨A_149, D_149 (Or.inr (oSt_at X_149 78 rfl)) (ty := (.array .byte)) (by decide), D_149 (Or.inl (oSt_at X_149 85 rfl)) (ty := .int) (by decide)⟩
  refine ow_dup X_149 183 at_182 rfl rfl ?_
  refine ow_new X_149 186 10 11 12 rfl rfl rfl rfl at_183 rfl (by decide) (by decide) ?_
  intro T_151 h_151 a_151 q_151 X_151 E_151 A_151 D_151 g_151
  have ne_a_129_a_151 : a_129 ≠ a_151 := by rw [q_151]; exact Nat.ne_of_lt f150_4.lt
  have ne_a_149_a_151 : a_149 ≠ a_151 := by rw [q_151]; exact Nat.ne_of_lt R_149.lt
  have f152_0 : Sta Z h_151 "java/lang/String" "COMPACT_STRINGS" "Z" (.int zc) := Sta.ext E_151 f150_0
  have f152_1 : Sta Z h_151 "java/nio/charset/StandardCharsets" "ISO_8859_1" "Ljava/nio/charset/Charset;" (.ref xI) := Sta.ext E_151 f150_1
  have f152_2 : Sta Z h_151 "sun/nio/cs/ISO_8859_1" "INSTANCE" "Lsun/nio/cs/ISO_8859_1;" (.ref xI) := Sta.ext E_151 f150_2
  have f152_3 : Sta Z h_151 "sun/nio/cs/UTF_8" "INSTANCE" "Lsun/nio/cs/UTF_8;" (.ref xV) := Sta.ext E_151 f150_3
  have f152_4 : oA Z h_151 a_129 .char 6 (fun i_ => .int ((own_g z0 z1 z2 z3 z4 z5) i_)) := f150_4.ext E_151
  have f152_5 : TRR Z h_151 a_149 .null (.int (0 : Int32)) := R_149.ext E_151
  have R_151 : STR Z h_151 a_151 .null (.int (0 : Int32)) := ⟨A_151, D_151 (Or.inr (oSt_at X_151 38 rfl)) (ty := (.array .byte)) (by decide), D_151 (Or.inr (oSt_at X_151 36 rfl)) (ty := .byte) (by decide)⟩
  refine ow_dup X_151 187 at_186 rfl rfl ?_
  refine ow_aload X_151 189 at_187 rfl rfl rfl ?_
  refine ow_callC X_151 192 13 14 12 15 (κ' := k2) (as := [.ref a_129]) (S := [.ref a_151, .ref a_149, .ref a_149]) (W := 3) rfl rfl rfl rfl rfl rfl rfl (by decide) (C_si1 (oSt_w X_151) (oSt_n0 X_151) a_151 a_129 (own_g z0 z1 z2 z3 z4 z5) zc R_151 f152_4 f152_0 g_151 (Ne.symm ne_a_129_a_151) hg hz) (by decide) (by decide) (Nat.le_of_eq rfl) (by decide) (by decide) pd2 rfl rfl rfl at_189 rfl ?_
  intro v_153 T_153 h_153 X_153 q_153
  obtain ⟨rfl, ab153, K153, n1_153, n2_153, gn153, gh153, R153, B153, E153⟩ := q_153
  have ne_a_149_ab153 : a_149 ≠ ab153 := Nat.ne_of_lt (Nat.lt_of_lt_of_le f152_5.lt gh153)
  have f154_0 : Sta Z h_153 "java/lang/String" "COMPACT_STRINGS" "Z" (.int zc) := oSta_keep f152_0 K153 (allS (oExS R_151.1) all0)
  have f154_1 : Sta Z h_153 "java/nio/charset/StandardCharsets" "ISO_8859_1" "Ljava/nio/charset/Charset;" (.ref xI) := oSta_keep f152_1 K153 (allS (oExS R_151.1) all0)
  have f154_2 : Sta Z h_153 "sun/nio/cs/ISO_8859_1" "INSTANCE" "Lsun/nio/cs/ISO_8859_1;" (.ref xI) := oSta_keep f152_2 K153 (allS (oExS R_151.1) all0)
  have f154_3 : Sta Z h_153 "sun/nio/cs/UTF_8" "INSTANCE" "Lsun/nio/cs/UTF_8;" (.ref xV) := oSta_keep f152_3 K153 (allS (oExS R_151.1) all0)
  have f154_4 : oA Z h_153 a_129 .char 6 (fun i_ => .int ((own_g z0 z1 z2 z3 z4 z5) i_)) := f152_4.keep K153 (ninS ne_a_129_a_151 nin0)
  have f154_5 : TRR Z h_153 a_149 .null (.int (0 : Int32)) := f152_5.keep K153 (ninS ne_a_149_a_151 nin0)
  show oWP ω γ k0 _ T_153 192 #[.val (.long p0), .second, .val (.int p1), .val (.int p2), .val (.int n), .val (.int d0), .val (.int d1), .val (.int d2), .val (.int d3), .val (.int d4), .val (.int e), .val (.int f), .val (.ref a_129), .unset, .unset, .unset, .unset, .unset] [.ref a_151, .ref a_149, .ref a_149]
  refine ow_callC X_153 195 39 40 9 41 (κ' := k8) (as := [.ref a_151]) (S := [.ref a_149]) (W := 1) rfl rfl rfl rfl rfl rfl rfl (by decide) (C_tri (oSt_w X_153) (oSt_n0 X_153) a_149 a_151 ab153 xI xV (own_g z0 z1 z2 z3 z4 z5) zc f154_5 R153 B153 E153 f154_0 f154_2 f154_3 f154_1 g_149 ne_a_149_a_151 ne_a_149_ab153 hx hz) (by decide) (by decide) (Nat.le_of_eq rfl) (by decide) (by decide) pd8 rfl rfl rfl at_192 rfl ?_
  intro v_155 T_155 h_155 X_155 q_155
  obtain ⟨rfl, tb, K155, ntb, R155, B155⟩ := q_155
  show oWP ω γ k0 _ T_155 195 #[.val (.long p0), .second, .val (.int p1), .val (.int p2), .val (.int n), .val (.int d0), .val (.int d1), .val (.int d2), .val (.int d3), .val (.int d4), .val (.int e), .val (.int f), .val (.ref a_129), .unset, .unset, .unset, .unset, .unset] [.ref a_149]
  refine ow_astore X_155 197 (L' := #[.val (.long p0), .second, .val (.int p1), .val (.int p2), .val (.int n), .val (.int d0), .val (.int d1), .val (.int d2), .val (.int d3), .val (.int d4), .val (.int e), .val (.int f), .val (.ref a_129), .val (.ref a_149), .unset, .unset, .unset, .unset]) at_195 rfl rfl rfl ?_
  refine ow_aload X_155 199 at_197 rfl rfl rfl ?_
  have v0 := own_b1v z0 hz0.1 hz0.2.1; have w0 := own_lo z0 hz0.1 hz0.2.1; have y0 := hz0.2.2
  have v1 := own_b1v z1 hz1.1 hz1.2.1; have w1 := own_lo z1 hz1.1 hz1.2.1; have y1 := hz1.2.2
  have v2 := own_b1v z2 hz2.1 hz2.2.1; have w2 := own_lo z2 hz2.1 hz2.2.1; have y2 := hz2.2.2
  have v3 := own_b1v z3 hz3.1 hz3.2.1; have w3 := own_lo z3 hz3.1 hz3.2.1; have y3 := hz3.2.2
  have v4 := own_b1v z4 hz4.1 hz4.2.1; have w4 := own_lo z4 hz4.1 hz4.2.1; have y4 := hz4.2.2
  have v5 := own_b1v z5 hz5.1 hz5.2.1; have w5 := own_lo z5 hz5.1 hz5.2.1; have y5 := hz5.2.2
  have kk0 : ((0 : Int32)).toInt = 0 := rfl
  have kk1 : ((1 : Int32)).toInt = 1 := rfl
  have kk2 : ((2 : Int32)).toInt = 2 := rfl
  have kk3 : ((3 : Int32)).toInt = 3 := rfl
  have kk4 : ((4 : Int32)).toInt = 4 := rfl
  have kk5 : ((5 : Int32)).toInt = 5 := rfl
  rcases own_five n hn with hk | hk | hk | hk | hk
  · have u0 : z0.toInt = d0.toInt := y0.2.1 (by omega)
    have ue : z1.toInt = e.toInt := y1.2.2 (by omega)
    refine ow_callV X_155 202 79 80 82 81 83 9 (κ' := k14) (as := []) (S := []) (W := 0) rfl rfl rfl rfl rfl rfl rfl (by decide) R155.1 (C_f1 (oSt_w X_155) (oSt_n0 X_155) a_149 tb (own_by (own_g z0 z1 z2 z3 z4 z5)) R155 B155 g_149 ntb  (show 0 ≤ (own_b1 z0).toInt by have := v0.1 (by omega); omega)) (by decide) (by decide) (Nat.le_of_eq rfl) (by decide) (by decide) pd14 rfl rfl rfl at_199 rfl ?_
    intro v_157 T_157 h_157 X_157 q_157
    obtain ⟨rfl, K157, R157⟩ := q_157
    have f158_1 : oA Z h_157 tb .byte 6 (fun i_ => .int ((own_by (own_g z0 z1 z2 z3 z4 z5)) i_)) := B155.keep K157 (ninS (Ne.symm ntb) nin0)
    show oWP ω γ k0 _ T_157 202 #[.val (.long p0), .second, .val (.int p1), .val (.int p2), .val (.int n), .val (.int d0), .val (.int d1), .val (.int d2), .val (.int d3), .val (.int d4), .val (.int e), .val (.int f), .val (.ref a_129), .val (.ref a_149), .unset, .unset, .unset, .unset] [.int (own_ac (own_by (own_g z0 z1 z2 z3 z4 z5)) 1)]
    refine ow_istore X_157 204 (L' := #[.val (.long p0), .second, .val (.int p1), .val (.int p2), .val (.int n), .val (.int d0), .val (.int d1), .val (.int d2), .val (.int d3), .val (.int d4), .val (.int e), .val (.int f), .val (.ref a_129), .val (.ref a_149), .val (.int (own_ac (own_by (own_g z0 z1 z2 z3 z4 z5)) 1)), .unset, .unset, .unset]) at_202 rfl rfl ?_
    refine ow_aload X_157 206 at_204 rfl rfl rfl ?_
    refine ow_callV X_157 209 79 80 82 81 83 9 (κ' := k14) (as := []) (S := []) (W := 0) rfl rfl rfl rfl rfl rfl rfl (by decide) R157.1 (C_s1 (oSt_w X_157) (oSt_n0 X_157) a_149 tb (own_by (own_g z0 z1 z2 z3 z4 z5)) R157 f158_1 g_149 ntb (show 0 ≤ (own_b1 z1).toInt by have := v1.1 (by omega); omega)) (by decide) (by decide) (Nat.le_of_eq rfl) (by decide) (by decide) pd14 rfl rfl rfl at_206 rfl ?_
    intro v_159 T_159 h_159 X_159 q_159
    obtain ⟨rfl, K159, R159⟩ := q_159
    have f160_0 : oA Z h_159 tb .byte 6 (fun i_ => .int ((own_by (own_g z0 z1 z2 z3 z4 z5)) i_)) := f158_1.keep K159 (ninS (Ne.symm ntb) nin0)
    show oWP ω γ k0 _ T_159 209 #[.val (.long p0), .second, .val (.int p1), .val (.int p2), .val (.int n), .val (.int d0), .val (.int d1), .val (.int d2), .val (.int d3), .val (.int d4), .val (.int e), .val (.int f), .val (.ref a_129), .val (.ref a_149), .val (.int (own_ac (own_by (own_g z0 z1 z2 z3 z4 z5)) 1)), .unset, .unset, .unset] [.int (own_nx 0 ((own_by (own_g z0 z1 z2 z3 z4 z5)) 1))]
    refine ow_istore X_159 211 (L' := #[.val (.long p0), .second, .val (.int p1), .val (.int p2), .val (.int n), .val (.int d0), .val (.int d1), .val (.int d2), .val (.int d3), .val (.int d4), .val (.int e), .val (.int f), .val (.ref a_129), .val (.ref a_149), .val (.int (own_ac (own_by (own_g z0 z1 z2 z3 z4 z5)) 1)), .val (.int (own_nx 0 ((own_by (own_g z0 z1 z2 z3 z4 z5)) 1))), .unset, .unset]) at_209 rfl rfl ?_
    refine ow_iload X_159 213 at_211 rfl rfl ?_
    refine ow_iconst X_159 214 (1 : Int32) at_213 rfl rfl ?_
    refine ow_icmp_ne X_159 217 225 at_214 rfl rfl (fun (c214 : n.toInt ≠ 1) => absurd hk c214) (fun (c214 : n.toInt = 1) => ?_)
    refine ow_iload X_159 219 at_217 rfl rfl ?_
    refine ow_i2l X_159 220 at_219 rfl ?_
    refine ow_lstore X_159 222 (L' := #[.val (.long p0), .second, .val (.int p1), .val (.int p2), .val (.int n), .val (.int d0), .val (.int d1), .val (.int d2), .val (.int d3), .val (.int d4), .val (.int e), .val (.int f), .val (.ref a_129), .val (.ref a_149), .val (.int (own_ac (own_by (own_g z0 z1 z2 z3 z4 z5)) 1)), .val (.int (own_nx 0 ((own_by (own_g z0 z1 z2 z3 z4 z5)) 1))), .val (.long d0.toInt64), .second]) at_220 rfl rfl ?_
    refine ow_goto X_159 352 at_222 rfl ?_
    refine ow_iload X_159 354 at_352 rfl rfl ?_
    refine ow_lload X_159 356 at_354 rfl rfl ?_
    refine ow_l2i X_159 357 at_356 rfl ?_
    refine ow_icmp_ne X_159 360 371 at_357 rfl rfl (fun (c357 : (own_ac (own_by (own_g z0 z1 z2 z3 z4 z5)) 1).toInt ≠ d0.toInt64.toInt32.toInt) => absurd (own_first1 (own_by (own_g z0 z1 z2 z3 z4 z5)) d0 hd0 (show (own_b1 z0 &&& (127 : Int32)).toInt = d0.toInt by omega)) c357) (fun (c357 : (own_ac (own_by (own_g z0 z1 z2 z3 z4 z5)) 1).toInt = d0.toInt64.toInt32.toInt) => ?_)
    refine ow_iload X_159 362 at_360 rfl rfl ?_
    refine ow_iload X_159 364 at_362 rfl rfl ?_
    refine ow_icmp_ne X_159 367 371 at_364 rfl rfl (fun (c364 : (own_nx 0 ((own_by (own_g z0 z1 z2 z3 z4 z5)) 1)).toInt ≠ e.toInt) => absurd ((own_ex 0 (own_b1 z1) e.toInt (by omega) (by omega) (by omega) (by decide) (by decide)).trans (show (0 : Int32).toInt * 128 + e.toInt = e.toInt by rw [show (0 : Int32).toInt = 0 from rfl]; omega)) c364) (fun (c364 : (own_nx 0 ((own_by (own_g z0 z1 z2 z3 z4 z5)) 1)).toInt = e.toInt) => ?_)
    refine ow_iconst X_159 368 (1 : Int32) at_367 rfl rfl ?_
    refine ow_goto X_159 372 at_368 rfl ?_
    refine ow_retZ X_159 rfl at_372 (by decide) (by decide) (by decide) ?_
    rfl
  · have u0 : z0.toInt = d0.toInt + 128 := y0.1 (by omega)
    have u1 : z1.toInt = d1.toInt := y1.2.1 (by omega)
    have ue : z2.toInt = e.toInt := y2.2.2 (by omega)
    refine ow_callV X_155 202 79 80 82 81 83 9 (κ' := k14) (as := []) (S := []) (W := 0) rfl rfl rfl rfl rfl rfl rfl (by decide) R155.1 (C_f2 (oSt_w X_155) (oSt_n0 X_155) a_149 tb (own_by (own_g z0 z1 z2 z3 z4 z5)) R155 B155 g_149 ntb (show (own_b1 z0).toInt < 0 by have := v0.2 (by omega); omega) (show 0 ≤ (own_b1 z1).toInt by have := v1.1 (by omega); omega)) (by decide) (by decide) (Nat.le_of_eq rfl) (by decide) (by decide) pd14 rfl rfl rfl at_199 rfl ?_
    intro v_161 T_161 h_161 X_161 q_161
    obtain ⟨rfl, K161, R161⟩ := q_161
    have f162_1 : oA Z h_161 tb .byte 6 (fun i_ => .int ((own_by (own_g z0 z1 z2 z3 z4 z5)) i_)) := B155.keep K161 (ninS (Ne.symm ntb) nin0)
    show oWP ω γ k0 _ T_161 202 #[.val (.long p0), .second, .val (.int p1), .val (.int p2), .val (.int n), .val (.int d0), .val (.int d1), .val (.int d2), .val (.int d3), .val (.int d4), .val (.int e), .val (.int f), .val (.ref a_129), .val (.ref a_149), .unset, .unset, .unset, .unset] [.int (own_ac (own_by (own_g z0 z1 z2 z3 z4 z5)) 2)]
    refine ow_istore X_161 204 (L' := #[.val (.long p0), .second, .val (.int p1), .val (.int p2), .val (.int n), .val (.int d0), .val (.int d1), .val (.int d2), .val (.int d3), .val (.int d4), .val (.int e), .val (.int f), .val (.ref a_129), .val (.ref a_149), .val (.int (own_ac (own_by (own_g z0 z1 z2 z3 z4 z5)) 2)), .unset, .unset, .unset]) at_202 rfl rfl ?_
    refine ow_aload X_161 206 at_204 rfl rfl rfl ?_
    refine ow_callV X_161 209 79 80 82 81 83 9 (κ' := k14) (as := []) (S := []) (W := 0) rfl rfl rfl rfl rfl rfl rfl (by decide) R161.1 (C_s2 (oSt_w X_161) (oSt_n0 X_161) a_149 tb (own_by (own_g z0 z1 z2 z3 z4 z5)) R161 f162_1 g_149 ntb (show 0 ≤ (own_b1 z2).toInt by have := v2.1 (by omega); omega)) (by decide) (by decide) (Nat.le_of_eq rfl) (by decide) (by decide) pd14 rfl rfl rfl at_206 rfl ?_
    intro v_163 T_163 h_163 X_163 q_163
    obtain ⟨rfl, K163, R163⟩ := q_163
    have f164_0 : oA Z h_163 tb .byte 6 (fun i_ => .int ((own_by (own_g z0 z1 z2 z3 z4 z5)) i_)) := f162_1.keep K163 (ninS (Ne.symm ntb) nin0)
    show oWP ω γ k0 _ T_163 209 #[.val (.long p0), .second, .val (.int p1), .val (.int p2), .val (.int n), .val (.int d0), .val (.int d1), .val (.int d2), .val (.int d3), .val (.int d4), .val (.int e), .val (.int f), .val (.ref a_129), .val (.ref a_149), .val (.int (own_ac (own_by (own_g z0 z1 z2 z3 z4 z5)) 2)), .unset, .unset, .unset] [.int (own_nx 0 ((own_by (own_g z0 z1 z2 z3 z4 z5)) 2))]
    refine ow_istore X_163 211 (L' := #[.val (.long p0), .second, .val (.int p1), .val (.int p2), .val (.int n), .val (.int d0), .val (.int d1), .val (.int d2), .val (.int d3), .val (.int d4), .val (.int e), .val (.int f), .val (.ref a_129), .val (.ref a_149), .val (.int (own_ac (own_by (own_g z0 z1 z2 z3 z4 z5)) 2)), .val (.int (own_nx 0 ((own_by (own_g z0 z1 z2 z3 z4 z5)) 2))), .unset, .unset]) at_209 rfl rfl ?_
    refine ow_iload X_163 213 at_211 rfl rfl ?_
    refine ow_iconst X_163 214 (1 : Int32) at_213 rfl rfl ?_
    refine ow_icmp_ne X_163 217 225 at_214 rfl rfl (fun (c214 : n.toInt ≠ 1) => ?_) (fun (c214 : n.toInt = 1) => by exfalso; omega)
    refine ow_iload X_163 227 at_225 rfl rfl ?_
    refine ow_iconst X_163 228 (2 : Int32) at_227 rfl rfl ?_
    refine ow_icmp_ne X_163 231 247 at_228 rfl rfl (fun (c228 : n.toInt ≠ 2) => absurd hk c228) (fun (c228 : n.toInt = 2) => ?_)
    refine ow_iload X_163 233 at_231 rfl rfl ?_
    refine ow_i2l X_163 234 at_233 rfl ?_
    refine ow_ldc2J X_163 237 86 rfl rfl at_234 rfl ?_
    refine ow_lmul X_163 238 at_237 rfl ?_
    refine ow_iload X_163 240 at_238 rfl rfl ?_
    refine ow_i2l X_163 241 at_240 rfl ?_
    refine ow_ladd X_163 242 at_241 rfl ?_
    refine ow_lstore X_163 244 (L' := #[.val (.long p0), .second, .val (.int p1), .val (.int p2), .val (.int n), .val (.int d0), .val (.int d1), .val (.int d2), .val (.int d3), .val (.int d4), .val (.int e), .val (.int f), .val (.ref a_129), .val (.ref a_149), .val (.int (own_ac (own_by (own_g z0 z1 z2 z3 z4 z5)) 2)), .val (.int (own_nx 0 ((own_by (own_g z0 z1 z2 z3 z4 z5)) 2))), .val (.long ((d0.toInt64 * (128 : Int64)) + d1.toInt64)), .second]) at_242 rfl rfl ?_
    refine ow_goto X_163 352 at_244 rfl ?_
    refine ow_iload X_163 354 at_352 rfl rfl ?_
    refine ow_lload X_163 356 at_354 rfl rfl ?_
    refine ow_l2i X_163 357 at_356 rfl ?_
    refine ow_icmp_ne X_163 360 371 at_357 rfl rfl (fun (c357 : (own_ac (own_by (own_g z0 z1 z2 z3 z4 z5)) 2).toInt ≠ (((d0.toInt64 * (128 : Int64)) + d1.toInt64).toInt32).toInt) => absurd (own_first2 (own_by (own_g z0 z1 z2 z3 z4 z5)) d0 d1 hd0 hd1 (show (own_b1 z0 &&& (127 : Int32)).toInt = d0.toInt by omega) (show (own_b1 z1 &&& (127 : Int32)).toInt = d1.toInt by omega)) c357) (fun (c357 : (own_ac (own_by (own_g z0 z1 z2 z3 z4 z5)) 2).toInt = (((d0.toInt64 * (128 : Int64)) + d1.toInt64).toInt32).toInt) => ?_)
    refine ow_iload X_163 362 at_360 rfl rfl ?_
    refine ow_iload X_163 364 at_362 rfl rfl ?_
    refine ow_icmp_ne X_163 367 371 at_364 rfl rfl (fun (c364 : (own_nx 0 ((own_by (own_g z0 z1 z2 z3 z4 z5)) 2)).toInt ≠ e.toInt) => absurd ((own_ex 0 (own_b1 z2) e.toInt (by omega) (by omega) (by omega) (by decide) (by decide)).trans (show (0 : Int32).toInt * 128 + e.toInt = e.toInt by rw [show (0 : Int32).toInt = 0 from rfl]; omega)) c364) (fun (c364 : (own_nx 0 ((own_by (own_g z0 z1 z2 z3 z4 z5)) 2)).toInt = e.toInt) => ?_)
    refine ow_iconst X_163 368 (1 : Int32) at_367 rfl rfl ?_
    refine ow_goto X_163 372 at_368 rfl ?_
    refine ow_retZ X_163 rfl at_372 (by decide) (by decide) (by decide) ?_
    rfl
  · have u0 : z0.toInt = d0.toInt + 128 := y0.1 (by omega)
    have u1 : z1.toInt = d1.toInt + 128 := y1.1 (by omega)
    have u2 : z2.toInt = d2.toInt := y2.2.1 (by omega)
    have ue : z3.toInt = e.toInt := y3.2.2 (by omega)
    refine ow_callV X_155 202 79 80 82 81 83 9 (κ' := k14) (as := []) (S := []) (W := 0) rfl rfl rfl rfl rfl rfl rfl (by decide) R155.1 (C_f3 (oSt_w X_155) (oSt_n0 X_155) a_149 tb (own_by (own_g z0 z1 z2 z3 z4 z5)) R155 B155 g_149 ntb (show (own_b1 z0).toInt < 0 by have := v0.2 (by omega); omega) (show (own_b1 z1).toInt < 0 by have := v1.2 (by omega); omega) (show 0 ≤ (own_b1 z2).toInt by have := v2.1 (by omega); omega)) (by decide) (by decide) (Nat.le_of_eq rfl) (by decide) (by decide) pd14 rfl rfl rfl at_199 rfl ?_
    intro v_165 T_165 h_165 X_165 q_165
    obtain ⟨rfl, K165, R165⟩ := q_165
    have f166_1 : oA Z h_165 tb .byte 6 (fun i_ => .int ((own_by (own_g z0 z1 z2 z3 z4 z5)) i_)) := B155.keep K165 (ninS (Ne.symm ntb) nin0)
    show oWP ω γ k0 _ T_165 202 #[.val (.long p0), .second, .val (.int p1), .val (.int p2), .val (.int n), .val (.int d0), .val (.int d1), .val (.int d2), .val (.int d3), .val (.int d4), .val (.int e), .val (.int f), .val (.ref a_129), .val (.ref a_149), .unset, .unset, .unset, .unset] [.int (own_ac (own_by (own_g z0 z1 z2 z3 z4 z5)) 3)]
    refine ow_istore X_165 204 (L' := #[.val (.long p0), .second, .val (.int p1), .val (.int p2), .val (.int n), .val (.int d0), .val (.int d1), .val (.int d2), .val (.int d3), .val (.int d4), .val (.int e), .val (.int f), .val (.ref a_129), .val (.ref a_149), .val (.int (own_ac (own_by (own_g z0 z1 z2 z3 z4 z5)) 3)), .unset, .unset, .unset]) at_202 rfl rfl ?_
    refine ow_aload X_165 206 at_204 rfl rfl rfl ?_
    refine ow_callV X_165 209 79 80 82 81 83 9 (κ' := k14) (as := []) (S := []) (W := 0) rfl rfl rfl rfl rfl rfl rfl (by decide) R165.1 (C_s3 (oSt_w X_165) (oSt_n0 X_165) a_149 tb (own_by (own_g z0 z1 z2 z3 z4 z5)) R165 f166_1 g_149 ntb (show 0 ≤ (own_b1 z3).toInt by have := v3.1 (by omega); omega)) (by decide) (by decide) (Nat.le_of_eq rfl) (by decide) (by decide) pd14 rfl rfl rfl at_206 rfl ?_
    intro v_167 T_167 h_167 X_167 q_167
    obtain ⟨rfl, K167, R167⟩ := q_167
    have f168_0 : oA Z h_167 tb .byte 6 (fun i_ => .int ((own_by (own_g z0 z1 z2 z3 z4 z5)) i_)) := f166_1.keep K167 (ninS (Ne.symm ntb) nin0)
    show oWP ω γ k0 _ T_167 209 #[.val (.long p0), .second, .val (.int p1), .val (.int p2), .val (.int n), .val (.int d0), .val (.int d1), .val (.int d2), .val (.int d3), .val (.int d4), .val (.int e), .val (.int f), .val (.ref a_129), .val (.ref a_149), .val (.int (own_ac (own_by (own_g z0 z1 z2 z3 z4 z5)) 3)), .unset, .unset, .unset] [.int (own_nx 0 ((own_by (own_g z0 z1 z2 z3 z4 z5)) 3))]
    refine ow_istore X_167 211 (L' := #[.val (.long p0), .second, .val (.int p1), .val (.int p2), .val (.int n), .val (.int d0), .val (.int d1), .val (.int d2), .val (.int d3), .val (.int d4), .val (.int e), .val (.int f), .val (.ref a_129), .val (.ref a_149), .val (.int (own_ac (own_by (own_g z0 z1 z2 z3 z4 z5)) 3)), .val (.int (own_nx 0 ((own_by (own_g z0 z1 z2 z3 z4 z5)) 3))), .unset, .unset]) at_209 rfl rfl ?_
    refine ow_iload X_167 213 at_211 rfl rfl ?_
    refine ow_iconst X_167 214 (1 : Int32) at_213 rfl rfl ?_
    refine ow_icmp_ne X_167 217 225 at_214 rfl rfl (fun (c214 : n.toInt ≠ 1) => ?_) (fun (c214 : n.toInt = 1) => by exfalso; omega)
    refine ow_iload X_167 227 at_225 rfl rfl ?_
    refine ow_iconst X_167 228 (2 : Int32) at_227 rfl rfl ?_
    refine ow_icmp_ne X_167 231 247 at_228 rfl rfl (fun (c228 : n.toInt ≠ 2) => ?_) (fun (c228 : n.toInt = 2) => by exfalso; omega)
    refine ow_iload X_167 249 at_247 rfl rfl ?_
    refine ow_iconst X_167 250 (3 : Int32) at_249 rfl rfl ?_
    refine ow_icmp_ne X_167 253 277 at_250 rfl rfl (fun (c250 : n.toInt ≠ 3) => absurd hk c250) (fun (c250 : n.toInt = 3) => ?_)
    refine ow_iload X_167 255 at_253 rfl rfl ?_
    refine ow_i2l X_167 256 at_255 rfl ?_
    refine ow_ldc2J X_167 259 88 rfl rfl at_256 rfl ?_
    refine ow_lmul X_167 260 at_259 rfl ?_
    refine ow_iload X_167 262 at_260 rfl rfl ?_
    refine ow_i2l X_167 263 at_262 rfl ?_
    refine ow_ldc2J X_167 266 86 rfl rfl at_263 rfl ?_
    refine ow_lmul X_167 267 at_266 rfl ?_
    refine ow_ladd X_167 268 at_267 rfl ?_
    refine ow_iload X_167 270 at_268 rfl rfl ?_
    refine ow_i2l X_167 271 at_270 rfl ?_
    refine ow_ladd X_167 272 at_271 rfl ?_
    refine ow_lstore X_167 274 (L' := #[.val (.long p0), .second, .val (.int p1), .val (.int p2), .val (.int n), .val (.int d0), .val (.int d1), .val (.int d2), .val (.int d3), .val (.int d4), .val (.int e), .val (.int f), .val (.ref a_129), .val (.ref a_149), .val (.int (own_ac (own_by (own_g z0 z1 z2 z3 z4 z5)) 3)), .val (.int (own_nx 0 ((own_by (own_g z0 z1 z2 z3 z4 z5)) 3))), .val (.long (((d0.toInt64 * (16384 : Int64)) + (d1.toInt64 * (128 : Int64))) + d2.toInt64)), .second]) at_272 rfl rfl ?_
    refine ow_goto X_167 352 at_274 rfl ?_
    refine ow_iload X_167 354 at_352 rfl rfl ?_
    refine ow_lload X_167 356 at_354 rfl rfl ?_
    refine ow_l2i X_167 357 at_356 rfl ?_
    refine ow_icmp_ne X_167 360 371 at_357 rfl rfl (fun (c357 : (own_ac (own_by (own_g z0 z1 z2 z3 z4 z5)) 3).toInt ≠ ((((d0.toInt64 * (16384 : Int64)) + (d1.toInt64 * (128 : Int64))) + d2.toInt64).toInt32).toInt) => absurd (own_first3 (own_by (own_g z0 z1 z2 z3 z4 z5)) d0 d1 d2 hd0 hd1 hd2 (show (own_b1 z0 &&& (127 : Int32)).toInt = d0.toInt by omega) (show (own_b1 z1 &&& (127 : Int32)).toInt = d1.toInt by omega) (show (own_b1 z2 &&& (127 : Int32)).toInt = d2.toInt by omega)) c357) (fun (c357 : (own_ac (own_by (own_g z0 z1 z2 z3 z4 z5)) 3).toInt = ((((d0.toInt64 * (16384 : Int64)) + (d1.toInt64 * (128 : Int64))) + d2.toInt64).toInt32).toInt) => ?_)
    refine ow_iload X_167 362 at_360 rfl rfl ?_
    refine ow_iload X_167 364 at_362 rfl rfl ?_
    refine ow_icmp_ne X_167 367 371 at_364 rfl rfl (fun (c364 : (own_nx 0 ((own_by (own_g z0 z1 z2 z3 z4 z5)) 3)).toInt ≠ e.toInt) => absurd ((own_ex 0 (own_b1 z3) e.toInt (by omega) (by omega) (by omega) (by decide) (by decide)).trans (show (0 : Int32).toInt * 128 + e.toInt = e.toInt by rw [show (0 : Int32).toInt = 0 from rfl]; omega)) c364) (fun (c364 : (own_nx 0 ((own_by (own_g z0 z1 z2 z3 z4 z5)) 3)).toInt = e.toInt) => ?_)
    refine ow_iconst X_167 368 (1 : Int32) at_367 rfl rfl ?_
    refine ow_goto X_167 372 at_368 rfl ?_
    refine ow_retZ X_167 rfl at_372 (by decide) (by decide) (by decide) ?_
    rfl
  · have u0 : z0.toInt = d0.toInt + 128 := y0.1 (by omega)
    have u1 : z1.toInt = d1.toInt + 128 := y1.1 (by omega)
    have u2 : z2.toInt = d2.toInt + 128 := y2.1 (by omega)
    have u3 : z3.toInt = d3.toInt := y3.2.1 (by omega)
    have ue : z4.toInt = e.toInt := y4.2.2 (by omega)
    refine ow_callV X_155 202 79 80 82 81 83 9 (κ' := k14) (as := []) (S := []) (W := 0) rfl rfl rfl rfl rfl rfl rfl (by decide) R155.1 (C_f4 (oSt_w X_155) (oSt_n0 X_155) a_149 tb (own_by (own_g z0 z1 z2 z3 z4 z5)) R155 B155 g_149 ntb (show (own_b1 z0).toInt < 0 by have := v0.2 (by omega); omega) (show (own_b1 z1).toInt < 0 by have := v1.2 (by omega); omega) (show (own_b1 z2).toInt < 0 by have := v2.2 (by omega); omega) (show 0 ≤ (own_b1 z3).toInt by have := v3.1 (by omega); omega)) (by decide) (by decide) (Nat.le_of_eq rfl) (by decide) (by decide) pd14 rfl rfl rfl at_199 rfl ?_
    intro v_169 T_169 h_169 X_169 q_169
    obtain ⟨rfl, K169, R169⟩ := q_169
    have f170_1 : oA Z h_169 tb .byte 6 (fun i_ => .int ((own_by (own_g z0 z1 z2 z3 z4 z5)) i_)) := B155.keep K169 (ninS (Ne.symm ntb) nin0)
    show oWP ω γ k0 _ T_169 202 #[.val (.long p0), .second, .val (.int p1), .val (.int p2), .val (.int n), .val (.int d0), .val (.int d1), .val (.int d2), .val (.int d3), .val (.int d4), .val (.int e), .val (.int f), .val (.ref a_129), .val (.ref a_149), .unset, .unset, .unset, .unset] [.int (own_ac (own_by (own_g z0 z1 z2 z3 z4 z5)) 4)]
    refine ow_istore X_169 204 (L' := #[.val (.long p0), .second, .val (.int p1), .val (.int p2), .val (.int n), .val (.int d0), .val (.int d1), .val (.int d2), .val (.int d3), .val (.int d4), .val (.int e), .val (.int f), .val (.ref a_129), .val (.ref a_149), .val (.int (own_ac (own_by (own_g z0 z1 z2 z3 z4 z5)) 4)), .unset, .unset, .unset]) at_202 rfl rfl ?_
    refine ow_aload X_169 206 at_204 rfl rfl rfl ?_
    refine ow_callV X_169 209 79 80 82 81 83 9 (κ' := k14) (as := []) (S := []) (W := 0) rfl rfl rfl rfl rfl rfl rfl (by decide) R169.1 (C_s4 (oSt_w X_169) (oSt_n0 X_169) a_149 tb (own_by (own_g z0 z1 z2 z3 z4 z5)) R169 f170_1 g_149 ntb (show 0 ≤ (own_b1 z4).toInt by have := v4.1 (by omega); omega)) (by decide) (by decide) (Nat.le_of_eq rfl) (by decide) (by decide) pd14 rfl rfl rfl at_206 rfl ?_
    intro v_171 T_171 h_171 X_171 q_171
    obtain ⟨rfl, K171, R171⟩ := q_171
    have f172_0 : oA Z h_171 tb .byte 6 (fun i_ => .int ((own_by (own_g z0 z1 z2 z3 z4 z5)) i_)) := f170_1.keep K171 (ninS (Ne.symm ntb) nin0)
    show oWP ω γ k0 _ T_171 209 #[.val (.long p0), .second, .val (.int p1), .val (.int p2), .val (.int n), .val (.int d0), .val (.int d1), .val (.int d2), .val (.int d3), .val (.int d4), .val (.int e), .val (.int f), .val (.ref a_129), .val (.ref a_149), .val (.int (own_ac (own_by (own_g z0 z1 z2 z3 z4 z5)) 4)), .unset, .unset, .unset] [.int (own_nx 0 ((own_by (own_g z0 z1 z2 z3 z4 z5)) 4))]
    refine ow_istore X_171 211 (L' := #[.val (.long p0), .second, .val (.int p1), .val (.int p2), .val (.int n), .val (.int d0), .val (.int d1), .val (.int d2), .val (.int d3), .val (.int d4), .val (.int e), .val (.int f), .val (.ref a_129), .val (.ref a_149), .val (.int (own_ac (own_by (own_g z0 z1 z2 z3 z4 z5)) 4)), .val (.int (own_nx 0 ((own_by (own_g z0 z1 z2 z3 z4 z5)) 4))), .unset, .unset]) at_209 rfl rfl ?_
    refine ow_iload X_171 213 at_211 rfl rfl ?_
    refine ow_iconst X_171 214 (1 : Int32) at_213 rfl rfl ?_
    refine ow_icmp_ne X_171 217 225 at_214 rfl rfl (fun (c214 : n.toInt ≠ 1) => ?_) (fun (c214 : n.toInt = 1) => by exfalso; omega)
    refine ow_iload X_171 227 at_225 rfl rfl ?_
    refine ow_iconst X_171 228 (2 : Int32) at_227 rfl rfl ?_
    refine ow_icmp_ne X_171 231 247 at_228 rfl rfl (fun (c228 : n.toInt ≠ 2) => ?_) (fun (c228 : n.toInt = 2) => by exfalso; omega)
    refine ow_iload X_171 249 at_247 rfl rfl ?_
    refine ow_iconst X_171 250 (3 : Int32) at_249 rfl rfl ?_
    refine ow_icmp_ne X_171 253 277 at_250 rfl rfl (fun (c250 : n.toInt ≠ 3) => ?_) (fun (c250 : n.toInt = 3) => by exfalso; omega)
    refine ow_iload X_171 279 at_277 rfl rfl ?_
    refine ow_iconst X_171 280 (4 : Int32) at_279 rfl rfl ?_
    refine ow_icmp_ne X_171 283 315 at_280 rfl rfl (fun (c280 : n.toInt ≠ 4) => absurd hk c280) (fun (c280 : n.toInt = 4) => ?_)
    refine ow_iload X_171 285 at_283 rfl rfl ?_
    refine ow_i2l X_171 286 at_285 rfl ?_
    refine ow_ldc2J X_171 289 87 rfl rfl at_286 rfl ?_
    refine ow_lmul X_171 290 at_289 rfl ?_
    refine ow_iload X_171 292 at_290 rfl rfl ?_
    refine ow_i2l X_171 293 at_292 rfl ?_
    refine ow_ldc2J X_171 296 88 rfl rfl at_293 rfl ?_
    refine ow_lmul X_171 297 at_296 rfl ?_
    refine ow_ladd X_171 298 at_297 rfl ?_
    refine ow_iload X_171 300 at_298 rfl rfl ?_
    refine ow_i2l X_171 301 at_300 rfl ?_
    refine ow_ldc2J X_171 304 86 rfl rfl at_301 rfl ?_
    refine ow_lmul X_171 305 at_304 rfl ?_
    refine ow_ladd X_171 306 at_305 rfl ?_
    refine ow_iload X_171 308 at_306 rfl rfl ?_
    refine ow_i2l X_171 309 at_308 rfl ?_
    refine ow_ladd X_171 310 at_309 rfl ?_
    refine ow_lstore X_171 312 (L' := #[.val (.long p0), .second, .val (.int p1), .val (.int p2), .val (.int n), .val (.int d0), .val (.int d1), .val (.int d2), .val (.int d3), .val (.int d4), .val (.int e), .val (.int f), .val (.ref a_129), .val (.ref a_149), .val (.int (own_ac (own_by (own_g z0 z1 z2 z3 z4 z5)) 4)), .val (.int (own_nx 0 ((own_by (own_g z0 z1 z2 z3 z4 z5)) 4))), .val (.long ((((d0.toInt64 * (2097152 : Int64)) + (d1.toInt64 * (16384 : Int64))) + (d2.toInt64 * (128 : Int64))) + d3.toInt64)), .second]) at_310 rfl rfl ?_
    refine ow_goto X_171 352 at_312 rfl ?_
    refine ow_iload X_171 354 at_352 rfl rfl ?_
    refine ow_lload X_171 356 at_354 rfl rfl ?_
    refine ow_l2i X_171 357 at_356 rfl ?_
    refine ow_icmp_ne X_171 360 371 at_357 rfl rfl (fun (c357 : (own_ac (own_by (own_g z0 z1 z2 z3 z4 z5)) 4).toInt ≠ (((((d0.toInt64 * (2097152 : Int64)) + (d1.toInt64 * (16384 : Int64))) + (d2.toInt64 * (128 : Int64))) + d3.toInt64).toInt32).toInt) => absurd (own_first4 (own_by (own_g z0 z1 z2 z3 z4 z5)) d0 d1 d2 d3 hd0 hd1 hd2 hd3 (show (own_b1 z0 &&& (127 : Int32)).toInt = d0.toInt by omega) (show (own_b1 z1 &&& (127 : Int32)).toInt = d1.toInt by omega) (show (own_b1 z2 &&& (127 : Int32)).toInt = d2.toInt by omega) (show (own_b1 z3 &&& (127 : Int32)).toInt = d3.toInt by omega)) c357) (fun (c357 : (own_ac (own_by (own_g z0 z1 z2 z3 z4 z5)) 4).toInt = (((((d0.toInt64 * (2097152 : Int64)) + (d1.toInt64 * (16384 : Int64))) + (d2.toInt64 * (128 : Int64))) + d3.toInt64).toInt32).toInt) => ?_)
    refine ow_iload X_171 362 at_360 rfl rfl ?_
    refine ow_iload X_171 364 at_362 rfl rfl ?_
    refine ow_icmp_ne X_171 367 371 at_364 rfl rfl (fun (c364 : (own_nx 0 ((own_by (own_g z0 z1 z2 z3 z4 z5)) 4)).toInt ≠ e.toInt) => absurd ((own_ex 0 (own_b1 z4) e.toInt (by omega) (by omega) (by omega) (by decide) (by decide)).trans (show (0 : Int32).toInt * 128 + e.toInt = e.toInt by rw [show (0 : Int32).toInt = 0 from rfl]; omega)) c364) (fun (c364 : (own_nx 0 ((own_by (own_g z0 z1 z2 z3 z4 z5)) 4)).toInt = e.toInt) => ?_)
    refine ow_iconst X_171 368 (1 : Int32) at_367 rfl rfl ?_
    refine ow_goto X_171 372 at_368 rfl ?_
    refine ow_retZ X_171 rfl at_372 (by decide) (by decide) (by decide) ?_
    rfl
  · have u0 : z0.toInt = d0.toInt + 128 := y0.1 (by omega)
    have u1 : z1.toInt = d1.toInt + 128 := y1.1 (by omega)
    have u2 : z2.toInt = d2.toInt + 128 := y2.1 (by omega)
    have u3 : z3.toInt = d3.toInt + 128 := y3.1 (by omega)
    have u4 : z4.toInt = d4.toInt := y4.2.1 (by omega)
    have ue : z5.toInt = e.toInt := y5.2.2 (by omega)
    refine ow_callV X_155 202 79 80 82 81 83 9 (κ' := k14) (as := []) (S := []) (W := 0) rfl rfl rfl rfl rfl rfl rfl (by decide) R155.1 (C_f5 (oSt_w X_155) (oSt_n0 X_155) a_149 tb (own_by (own_g z0 z1 z2 z3 z4 z5)) R155 B155 g_149 ntb (show (own_b1 z0).toInt < 0 by have := v0.2 (by omega); omega) (show (own_b1 z1).toInt < 0 by have := v1.2 (by omega); omega) (show (own_b1 z2).toInt < 0 by have := v2.2 (by omega); omega) (show (own_b1 z3).toInt < 0 by have := v3.2 (by omega); omega) (show 0 ≤ (own_b1 z4).toInt by have := v4.1 (by omega); omega)) (by decide) (by decide) (Nat.le_of_eq rfl) (by decide) (by decide) pd14 rfl rfl rfl at_199 rfl ?_
    intro v_173 T_173 h_173 X_173 q_173
    obtain ⟨rfl, K173, R173⟩ := q_173
    have f174_1 : oA Z h_173 tb .byte 6 (fun i_ => .int ((own_by (own_g z0 z1 z2 z3 z4 z5)) i_)) := B155.keep K173 (ninS (Ne.symm ntb) nin0)
    show oWP ω γ k0 _ T_173 202 #[.val (.long p0), .second, .val (.int p1), .val (.int p2), .val (.int n), .val (.int d0), .val (.int d1), .val (.int d2), .val (.int d3), .val (.int d4), .val (.int e), .val (.int f), .val (.ref a_129), .val (.ref a_149), .unset, .unset, .unset, .unset] [.int (own_ac (own_by (own_g z0 z1 z2 z3 z4 z5)) 5)]
    refine ow_istore X_173 204 (L' := #[.val (.long p0), .second, .val (.int p1), .val (.int p2), .val (.int n), .val (.int d0), .val (.int d1), .val (.int d2), .val (.int d3), .val (.int d4), .val (.int e), .val (.int f), .val (.ref a_129), .val (.ref a_149), .val (.int (own_ac (own_by (own_g z0 z1 z2 z3 z4 z5)) 5)), .unset, .unset, .unset]) at_202 rfl rfl ?_
    refine ow_aload X_173 206 at_204 rfl rfl rfl ?_
    refine ow_callV X_173 209 79 80 82 81 83 9 (κ' := k14) (as := []) (S := []) (W := 0) rfl rfl rfl rfl rfl rfl rfl (by decide) R173.1 (C_s5 (oSt_w X_173) (oSt_n0 X_173) a_149 tb (own_by (own_g z0 z1 z2 z3 z4 z5)) R173 f174_1 g_149 ntb (show 0 ≤ (own_b1 z5).toInt by have := v5.1 (by omega); omega)) (by decide) (by decide) (Nat.le_of_eq rfl) (by decide) (by decide) pd14 rfl rfl rfl at_206 rfl ?_
    intro v_175 T_175 h_175 X_175 q_175
    obtain ⟨rfl, K175, R175⟩ := q_175
    have f176_0 : oA Z h_175 tb .byte 6 (fun i_ => .int ((own_by (own_g z0 z1 z2 z3 z4 z5)) i_)) := f174_1.keep K175 (ninS (Ne.symm ntb) nin0)
    show oWP ω γ k0 _ T_175 209 #[.val (.long p0), .second, .val (.int p1), .val (.int p2), .val (.int n), .val (.int d0), .val (.int d1), .val (.int d2), .val (.int d3), .val (.int d4), .val (.int e), .val (.int f), .val (.ref a_129), .val (.ref a_149), .val (.int (own_ac (own_by (own_g z0 z1 z2 z3 z4 z5)) 5)), .unset, .unset, .unset] [.int (own_nx 0 ((own_by (own_g z0 z1 z2 z3 z4 z5)) 5))]
    refine ow_istore X_175 211 (L' := #[.val (.long p0), .second, .val (.int p1), .val (.int p2), .val (.int n), .val (.int d0), .val (.int d1), .val (.int d2), .val (.int d3), .val (.int d4), .val (.int e), .val (.int f), .val (.ref a_129), .val (.ref a_149), .val (.int (own_ac (own_by (own_g z0 z1 z2 z3 z4 z5)) 5)), .val (.int (own_nx 0 ((own_by (own_g z0 z1 z2 z3 z4 z5)) 5))), .unset, .unset]) at_209 rfl rfl ?_
    refine ow_iload X_175 213 at_211 rfl rfl ?_
    refine ow_iconst X_175 214 (1 : Int32) at_213 rfl rfl ?_
    refine ow_icmp_ne X_175 217 225 at_214 rfl rfl (fun (c214 : n.toInt ≠ 1) => ?_) (fun (c214 : n.toInt = 1) => by exfalso; omega)
    refine ow_iload X_175 227 at_225 rfl rfl ?_
    refine ow_iconst X_175 228 (2 : Int32) at_227 rfl rfl ?_
    refine ow_icmp_ne X_175 231 247 at_228 rfl rfl (fun (c228 : n.toInt ≠ 2) => ?_) (fun (c228 : n.toInt = 2) => by exfalso; omega)
    refine ow_iload X_175 249 at_247 rfl rfl ?_
    refine ow_iconst X_175 250 (3 : Int32) at_249 rfl rfl ?_
    refine ow_icmp_ne X_175 253 277 at_250 rfl rfl (fun (c250 : n.toInt ≠ 3) => ?_) (fun (c250 : n.toInt = 3) => by exfalso; omega)
    refine ow_iload X_175 279 at_277 rfl rfl ?_
    refine ow_iconst X_175 280 (4 : Int32) at_279 rfl rfl ?_
    refine ow_icmp_ne X_175 283 315 at_280 rfl rfl (fun (c280 : n.toInt ≠ 4) => ?_) (fun (c280 : n.toInt = 4) => by exfalso; omega)
    refine ow_iload X_175 317 at_315 rfl rfl ?_
    refine ow_i2l X_175 318 at_317 rfl ?_
    refine ow_ldc2J X_175 321 89 rfl rfl at_318 rfl ?_
    refine ow_lmul X_175 322 at_321 rfl ?_
    refine ow_iload X_175 324 at_322 rfl rfl ?_
    refine ow_i2l X_175 325 at_324 rfl ?_
    refine ow_ldc2J X_175 328 87 rfl rfl at_325 rfl ?_
    refine ow_lmul X_175 329 at_328 rfl ?_
    refine ow_ladd X_175 330 at_329 rfl ?_
    refine ow_iload X_175 332 at_330 rfl rfl ?_
    refine ow_i2l X_175 333 at_332 rfl ?_
    refine ow_ldc2J X_175 336 88 rfl rfl at_333 rfl ?_
    refine ow_lmul X_175 337 at_336 rfl ?_
    refine ow_ladd X_175 338 at_337 rfl ?_
    refine ow_iload X_175 340 at_338 rfl rfl ?_
    refine ow_i2l X_175 341 at_340 rfl ?_
    refine ow_ldc2J X_175 344 86 rfl rfl at_341 rfl ?_
    refine ow_lmul X_175 345 at_344 rfl ?_
    refine ow_ladd X_175 346 at_345 rfl ?_
    refine ow_iload X_175 348 at_346 rfl rfl ?_
    refine ow_i2l X_175 349 at_348 rfl ?_
    refine ow_ladd X_175 350 at_349 rfl ?_
    refine ow_lstore X_175 352 (L' := #[.val (.long p0), .second, .val (.int p1), .val (.int p2), .val (.int n), .val (.int d0), .val (.int d1), .val (.int d2), .val (.int d3), .val (.int d4), .val (.int e), .val (.int f), .val (.ref a_129), .val (.ref a_149), .val (.int (own_ac (own_by (own_g z0 z1 z2 z3 z4 z5)) 5)), .val (.int (own_nx 0 ((own_by (own_g z0 z1 z2 z3 z4 z5)) 5))), .val (.long (((((d0.toInt64 * (268435456 : Int64)) + (d1.toInt64 * (2097152 : Int64))) + (d2.toInt64 * (16384 : Int64))) + (d3.toInt64 * (128 : Int64))) + d4.toInt64)), .second]) at_350 rfl rfl ?_
    refine ow_iload X_175 354 at_352 rfl rfl ?_
    refine ow_lload X_175 356 at_354 rfl rfl ?_
    refine ow_l2i X_175 357 at_356 rfl ?_
    refine ow_icmp_ne X_175 360 371 at_357 rfl rfl (fun (c357 : (own_ac (own_by (own_g z0 z1 z2 z3 z4 z5)) 5).toInt ≠ ((((((d0.toInt64 * (268435456 : Int64)) + (d1.toInt64 * (2097152 : Int64))) + (d2.toInt64 * (16384 : Int64))) + (d3.toInt64 * (128 : Int64))) + d4.toInt64).toInt32).toInt) => absurd (own_first5 (own_by (own_g z0 z1 z2 z3 z4 z5)) d0 d1 d2 d3 d4 hd0 hd1 hd2 hd3 hd4 (show (own_b1 z0 &&& (127 : Int32)).toInt = d0.toInt by omega) (show (own_b1 z1 &&& (127 : Int32)).toInt = d1.toInt by omega) (show (own_b1 z2 &&& (127 : Int32)).toInt = d2.toInt by omega) (show (own_b1 z3 &&& (127 : Int32)).toInt = d3.toInt by omega) (show (own_b1 z4 &&& (127 : Int32)).toInt = d4.toInt by omega)) c357) (fun (c357 : (own_ac (own_by (own_g z0 z1 z2 z3 z4 z5)) 5).toInt = ((((((d0.toInt64 * (268435456 : Int64)) + (d1.toInt64 * (2097152 : Int64))) + (d2.toInt64 * (16384 : Int64))) + (d3.toInt64 * (128 : Int64))) + d4.toInt64).toInt32).toInt) => ?_)
    refine ow_iload X_175 362 at_360 rfl rfl ?_
    refine ow_iload X_175 364 at_362 rfl rfl ?_
    refine ow_icmp_ne X_175 367 371 at_364 rfl rfl (fun (c364 : (own_nx 0 ((own_by (own_g z0 z1 z2 z3 z4 z5)) 5)).toInt ≠ e.toInt) => absurd ((own_ex 0 (own_b1 z5) e.toInt (by omega) (by omega) (by omega) (by decide) (by decide)).trans (show (0 : Int32).toInt * 128 + e.toInt = e.toInt by rw [show (0 : Int32).toInt = 0 from rfl]; omega)) c364) (fun (c364 : (own_nx 0 ((own_by (own_g z0 z1 z2 z3 z4 z5)) 5)).toInt = e.toInt) => ?_)
    refine ow_iconst X_175 368 (1 : Int32) at_367 rfl rfl ?_
    refine ow_goto X_175 372 at_368 rfl ?_
    refine ow_retZ X_175 rfl at_372 (by decide) (by decide) (by decide) ?_
    rfl
theorem own_cs {s : State} {args : Array Value} {t : Term} {z : Int32} (ht : t.eval args s none [] s = some (.int z)) (h : (Jvm.Cond.not (Jvm.Cond.eq t (Jvm.Term.int (0 : Int32)))).before args s = true) : z.toInt ≠ 0 := by
  intro q
  have e : z = 0 := Int32.toInt_inj.mp q
  subst e
  have hv := Cond.before_iff.mp h
  have he : (Jvm.Cond.eq t (Jvm.Term.int (0 : Int32))).value args s none s [] = some true := say (Cond.eq_ints ht (Term.int_eval 0)) rfl
  simp [Cond.value] at hv he
  rw [he] at hv; cases hv
theorem own_same {s : State} {args : Array Value} {t u : Term} {x y : Addr} (ht : t.eval args s none [] s = some (.ref x)) (hu : u.eval args s none [] s = some (.ref y)) (h : (Jvm.Cond.eq t u).before args s = true) : x = y := by
  have hv := Cond.before_iff.mp h
  simp [Cond.value, ht, hu] at hv
  first | exact hv | (simp_all)
set_option maxRecDepth 65536 in
set_option maxHeartbeats 4000000 in
theorem comes_1 {Post : Tables → Env → Array Value → State → Outcome → State → Prop} (hpost : ∀ tb e args s v u, (limb_1_1.after args s (.returned v) u = true ∧ limb_1_2.after args s (.returned v) u = true ∧ True) → FrameEnd s (.returned v) u (Jvm.fieldLocs frame_1_writes args s ++ Jvm.arrayLocs frame_1_arrays args s ++ Jvm.staticLocs frame_1_statics s) 24 128 → Post tb e args s (.returned v) u) :
    ArmFor flags0 classFile x code maxLocals ret World_1 tables_1 room_1 Calls_1 rest_1 Pre_1 Post := by
  intro l hfl _ _ p e ha hc hk s m args below hf hA hF happ hP
  obtain ⟨hcalls, hrest, hpre⟩ := hP
  obtain ⟨-, -, -, hnamed, -, -, -, hat⟩ := (Spec.applies_iff hf).mp happ
  obtain ⟨hg, hn⟩ := and_e (Cond.before_iff.mp (show (Jvm.Cond.and given_1 narrow_1).before args s = true from hpre))
  obtain ⟨hcount, hg0⟩ := and_e hg
  obtain ⟨ha0, hg1⟩ := and_e hg0
  obtain ⟨ha1, hg2⟩ := and_e hg1
  have ha2 := hg2
  obtain ⟨w0, w1, w2, rfl⟩ : ∃ w0 w1 w2 : Value, args = #[w0, w1, w2] := by
    have hs : args.size = 3 := by simpa [Cond.value, given_1] using hcount
    obtain ⟨L⟩ := args
    match L, hs with
    | [w0, w1, w2], _ => exact ⟨w0, w1, w2, rfl⟩
  have hw := fun d (hd : d ∈ tables_1) => atoms_spec (ws := Jvm.Cond.code x code maxLocals ret :: tables_1) hat d (List.mem_cons_of_mem _ hd)
  have hfit : Fit s := fun {y c} hc i hi => by
    obtain ⟨ha, rfl⟩ := Array.getElem?_eq_some_iff.mp hc
    have q := List.all_eq_true.mp ((Array.all_eq_true_iff_forall_mem.mp hF) _ (Array.getElem_mem ha)) i (List.mem_range.mpr hi)
    simpa [Array.getElem?_eq_getElem hi] using q
  obtain ⟨i0, e0⟩ := isL_v ha0
  obtain rfl : w0 = (.long i0) := Option.some.inj e0
  obtain ⟨i1, e1⟩ := is_v ha1
  obtain rfl : w1 = (.int i1) := Option.some.inj e1
  obtain ⟨i2, e2⟩ := is_v ha2
  obtain rfl : w2 = (.int i2) := Option.some.inj e2
  have hJ := own_fold jdkStatics_1 restOwn_1 (by rw [← rest_1_c_eq]; exact hrest)
  obtain ⟨zc, vC⟩ := is_v (Cond.before_iff.mp (hJ _ (List.mem_of_getElem? (i := 1) rfl)))
  have SC : Sta s s.heap "java/lang/String" "COMPACT_STRINGS" "Z" (.int zc) := Sta.start vC (Or.inl (hJ _ (List.mem_of_getElem? (i := 0) rfl)))
  have hz : zc.toInt ≠ 0 := own_cs vC (hJ _ (List.mem_of_getElem? (i := 2) rfl))
  obtain ⟨xI, vI⟩ := exa_v (Cond.before_iff.mp (hJ _ (List.mem_of_getElem? (i := 14) rfl)))
  obtain ⟨xJ, vJ⟩ := exa_v (Cond.before_iff.mp (hJ _ (List.mem_of_getElem? (i := 20) rfl)))
  obtain ⟨xV, vV⟩ := exa_v (Cond.before_iff.mp (hJ _ (List.mem_of_getElem? (i := 17) rfl)))
  obtain rfl : xI = xJ := own_same vI vJ (hJ _ (List.mem_of_getElem? (i := 13) rfl))
  have SI : Sta s s.heap "java/nio/charset/StandardCharsets" "ISO_8859_1" "Ljava/nio/charset/Charset;" (.ref xI) := Sta.start vI (Or.inl (hJ _ (List.mem_of_getElem? (i := 10) rfl)))
  have SJ : Sta s s.heap "sun/nio/cs/ISO_8859_1" "INSTANCE" "Lsun/nio/cs/ISO_8859_1;" (.ref xI) := Sta.start vJ (Or.inl (hJ _ (List.mem_of_getElem? (i := 12) rfl)))
  have SV : Sta s s.heap "sun/nio/cs/UTF_8" "INSTANCE" "Lsun/nio/cs/UTF_8;" (.ref xV) := Sta.start vV (Or.inl (hJ _ (List.mem_of_getElem? (i := 16) rfl)))
  have hx : xI ≠ xV := Exa.ne (Exa.start vJ (Cond.before_iff.mp (hJ _ (List.mem_of_getElem? (i := 20) rfl)))) (Exa.start vV (Cond.before_iff.mp (hJ _ (List.mem_of_getElem? (i := 17) rfl)))) (by decide)
  obtain ⟨n, o, h1, h2, h3, _, L, rfl, ⟨N, rfl⟩, hq⟩ := C_law (Z := s) (ω := (l, s.heap.size, _)) hw (Nat.le_refl _) i0 i1 i2 xI xV zc SC SI SJ SV hx hz p e ha hc hk s m _ below hf ((Spec.applies_iff_loose hf).mp happ).1 ⟨rfl, State.Warmed39.refl s, rfl⟩ trivial
  refine ⟨n, _, h1, h2, h3, hpost _ _ _ _ _ _ ⟨Cond.after_iff.mpr rfl, Cond.after_iff.mpr (eq_i res_at (Term.int_eval (1)) rfl), trivial⟩ ⟨hq.1, hq.2.1, (hq.2.2.sift fun y hy => Or.inr (N y hy)).mono (by decide) (by decide)⟩⟩
theorem main_1_1 : Claimed_1_1 := comes_1 fun _ _ _ _ _ _ h hF => ⟨h.1, hF⟩
theorem main_1_2 : Claimed_1_2 := comes_1 fun _ _ _ _ _ _ h hF => ⟨h.2.1, hF⟩
end Jvm.Pilot.@@N@@
namespace Jvm.Pilot.@@N@@
open Jvm Jvm.ClassFile Sem Op Lib Jvm.Free Jvm.Stand Jvm.Pilot.@@N@@.Jvm.D
/-! MADE BY PROGRAM (witnessworld.py) out of the Statement's table words and the real class files: 26 classes; the members and pool entries that the words name. The judged class is class 1, her method 1. -/
namespace start1
open Jvm.ClassFile
def u (s : String) : CpInfo := .utf8 (stringToUtf16 s)
/-- a pool by its gaps: so many unusable entries, then the entry; so many at the end -/
def gap : Nat → List CpInfo → List CpInfo
  | 0, r => r
  | n + 1, r => .unusable :: gap n r
def poolList (es : List (Nat × CpInfo)) (last : Nat) : List CpInfo := es.foldr (fun e r => gap e.1 (e.2 :: r)) (gap last [])
def pool (es : List (Nat × CpInfo)) (last : Nat) : Array CpInfo := ⟨poolList es last⟩
def fileOf (pool : Array CpInfo) (this : Nat) (attrs : Array Attribute := #[]) (ms : Array MethodInfo := #[]) (fl : Nat := 33) (sup : Nat := 0) (ifs : Array Nat := #[]) (fds : Array FieldInfo := #[]) : ClassFile where
  minorVersion := 0
  majorVersion := 65
  constantPool := pool
  accessFlags := fl
  thisClass := this
  superClass := sup
  interfaces := ifs
  fields := fds
  methods := ms
  attributes := attrs
def plain (name : String) (sup : Option ClassId) : Class where
  name := name
  kind := .ordinary
  loader := none
  accessFlags := 33
  super := sup
  interfaces := #[]
  cf := none
  fields := #[]
  methods := #[]
  instanceTypes := #[]
  staticTypes := #[]
  resolved := #[]
  callSites := []
  init := .initialized
  statics := none
  mirror := none

def pool0 : Array CpInfo := pool [(5, u "<init>"), (0, u "()V"), (1, .class_ 10), (1, u "java/lang/Object"), (85, u "clone"), (0, u "()Ljava/lang/Object;")] 26

def k0c0 : Code := { maxStack := 0, maxLocals := 1, code := object_method_1_code, exceptionTable := #[], attributes := #[] }
def k0m0 : Method := { name := "<init>", desc := "()V", sig := { parameters := [], returnType := none }, accessFlags := 1, code := some k0c0 }
def k0m1 : Method := { name := "clone", desc := "()Ljava/lang/Object;", sig := { parameters := [], returnType := some (.object "java/lang/Object") }, accessFlags := 260, code := none }
/-- java/lang/Object -/
def k0 : Class := { plain "java/lang/Object" none with
  accessFlags := 33
  interfaces := #[]
  cf := some (fileOf pool0 8 #[] #[{ accessFlags := 1, nameIndex := 5, descriptorIndex := 6, attributes := #[] }, { accessFlags := 260, nameIndex := 96, descriptorIndex := 97, attributes := #[] }] 33 0 #[] #[])
  fields := #[]
  methods := #[k0m0, k0m1]
  instanceTypes := #[]
  staticTypes := #[]
  resolved := Array.replicate 124 none
  statics := none }

def pool1 : Array CpInfo := pool [(2, .class_ 4), (1, u "java/lang/Object"), (0, u "<init>"), (0, u "()V"), (0, .integer 2147483647), (0, .long 127), (1, .methodref 11 12), (0, .class_ 13), (0, .nameAndType 14 15), (0, u "com/example/rexquill/rexquill/TableReaderNumberPinLaw"), (0, u "ch"), (0, u "(IIIII)C"), (0, .class_ 17), (0, u "com/example/rexquill/rexquill/TableReader"), (0, .class_ 19), (0, u "java/lang/String"), (0, .methodref 18 21), (0, .nameAndType 5 22), (0, u "([C)V"), (0, .methodref 16 24), (0, .nameAndType 5 25), (0, u "(Ljava/lang/String;)V"), (0, .methodref 16 27), (0, .nameAndType 28 29), (0, u "number"), (0, u "()I"), (0, .long 128), (1, .long 16384), (1, .long 2097152), (1, .long 268435456), (3, u "law"), (0, u "(JII)Z")] 5

def k1m0 : Method := { name := "<init>", desc := "()V", sig := { parameters := [], returnType := none }, accessFlags := 1, code := none }
def k1c1 : Code := { maxStack := 7, maxLocals := 18, code := code, exceptionTable := #[], attributes := #[] }
def k1m1 : Method := { name := "law", desc := "(JII)Z", sig := { parameters := [.long, .int, .int], returnType := some .boolean }, accessFlags := 9, code := some k1c1 }
def k1c2 : Code := { maxStack := 3, maxLocals := 5, code := method_3_code, exceptionTable := #[], attributes := #[] }
def k1m2 : Method := { name := "ch", desc := "(IIIII)C", sig := { parameters := [.int, .int, .int, .int, .int], returnType := some .char }, accessFlags := 10, code := some k1c2 }
/-- com/example/rexquill/rexquill/TableReaderNumberPinLaw -/
def k1 : Class := { plain "com/example/rexquill/rexquill/TableReaderNumberPinLaw" (some 0) with
  accessFlags := 49
  interfaces := #[]
  cf := some (fileOf pool1 11 #[] #[{ accessFlags := 1, nameIndex := 5, descriptorIndex := 6, attributes := #[] }, { accessFlags := 9, nameIndex := 40, descriptorIndex := 41, attributes := #[] }, { accessFlags := 10, nameIndex := 14, descriptorIndex := 15, attributes := #[] }] 49 2 #[] #[])
  fields := #[]
  methods := #[k1m0, k1m1, k1m2]
  instanceTypes := #[]
  staticTypes := #[]
  resolved := Array.replicate 47 none
  statics := none }

def pool2 : Array CpInfo := pool [(1, .methodref 2 3), (0, .class_ 4), (0, .nameAndType 5 6), (0, u "java/lang/Object"), (0, u "<init>"), (0, u "()V"), (0, .fieldref 8 9), (0, .class_ 10), (0, .nameAndType 11 12), (0, u "java/nio/charset/StandardCharsets"), (0, u "ISO_8859_1"), (0, u "Ljava/nio/charset/Charset;"), (0, .methodref 14 15), (0, .class_ 16), (0, .nameAndType 17 18), (0, u "java/lang/String"), (0, u "getBytes"), (0, u "(Ljava/nio/charset/Charset;)[B"), (0, .fieldref 20 21), (0, .class_ 22), (0, .nameAndType 23 24), (0, u "com/example/rexquill/rexquill/TableReader"), (0, u "table"), (0, u "[B"), (0, .fieldref 20 26), (0, .nameAndType 27 28), (0, u "at"), (0, u "I"), (2, u "(Ljava/lang/String;)V"), (2, u "number"), (0, u "()I"), (6, u "DIGIT")] 11

def k2c0 : Code := { maxStack := 3, maxLocals := 2, code := prog_68_method_1_code, exceptionTable := #[], attributes := #[] }
def k2m0 : Method := { name := "<init>", desc := "(Ljava/lang/String;)V", sig := { parameters := [(.object "java/lang/String")], returnType := none }, accessFlags := 0, code := some k2c0 }
def k2c1 : Code := { maxStack := 5, maxLocals := 3, code := prog_68_method_2_code, exceptionTable := #[], attributes := #[] }
def k2m1 : Method := { name := "number", desc := "()I", sig := { parameters := [], returnType := some .int }, accessFlags := 0, code := some k2c1 }
/-- com/example/rexquill/rexquill/TableReader -/
def k2 : Class := { plain "com/example/rexquill/rexquill/TableReader" (some 0) with
  accessFlags := 48
  interfaces := #[]
  cf := some (fileOf pool2 20 #[] #[{ accessFlags := 0, nameIndex := 5, descriptorIndex := 31, attributes := #[] }, { accessFlags := 0, nameIndex := 34, descriptorIndex := 35, attributes := #[] }] 48 2 #[] #[{ accessFlags := 26, nameIndex := 42, descriptorIndex := 28, attributes := #[] }, { accessFlags := 18, nameIndex := 23, descriptorIndex := 24, attributes := #[] }, { accessFlags := 2, nameIndex := 27, descriptorIndex := 28, attributes := #[] }])
  fields := #[{ name := "DIGIT", type := .int, accessFlags := 26, slot := 0, constantValue := 0 }, { name := "table", type := (.array .byte), accessFlags := 18, slot := 0, constantValue := 0 }, { name := "at", type := .int, accessFlags := 2, slot := 1, constantValue := 0 }]
  methods := #[k2m0, k2m1]
  instanceTypes := #[(.array .byte), .int]
  staticTypes := #[.int]
  resolved := Array.replicate 54 none
  statics := none }

def pool3 : Array CpInfo := pool [(1, .class_ 2), (0, u "java/io/Serializable"), (0, .class_ 4), (0, u "java/lang/Object")] 2

/-- java/io/Serializable -/
def k3 : Class := { plain "java/io/Serializable" (some 0) with
  accessFlags := 1537
  interfaces := #[]
  cf := some (fileOf pool3 1 #[] #[] 1537 3 #[] #[])
  fields := #[]
  methods := #[]
  instanceTypes := #[]
  staticTypes := #[]
  resolved := Array.replicate 7 none
  statics := none }

def pool4 : Array CpInfo := pool [(1, .class_ 2), (0, u "java/lang/Comparable"), (0, .class_ 4), (0, u "java/lang/Object")] 7

/-- java/lang/Comparable -/
def k4 : Class := { plain "java/lang/Comparable" (some 0) with
  accessFlags := 1537
  interfaces := #[]
  cf := some (fileOf pool4 1 #[] #[] 1537 3 #[] #[])
  fields := #[]
  methods := #[]
  instanceTypes := #[]
  staticTypes := #[]
  resolved := Array.replicate 12 none
  statics := none }

def pool5 : Array CpInfo := pool [(2, .class_ 4), (1, u "java/lang/CharSequence"), (42, .class_ 48), (0, u "java/lang/CharSequence$1CodePointIterator"), (10, .class_ 60), (0, u "java/lang/CharSequence$1CharIterator"), (5, .class_ 67), (0, u "java/lang/Object")] 63

/-- java/lang/CharSequence -/
def k5 : Class := { plain "java/lang/CharSequence" (some 0) with
  accessFlags := 1537
  interfaces := #[]
  cf := some (fileOf pool5 2 #[.nestMembers #[47, 59]] #[] 1537 66 #[] #[])
  fields := #[]
  methods := #[]
  instanceTypes := #[]
  staticTypes := #[]
  resolved := Array.replicate 131 none
  statics := none }

def pool6 : Array CpInfo := pool [(1, .class_ 2), (0, u "java/lang/constant/Constable"), (0, .class_ 4), (0, u "java/lang/Object")] 6

/-- java/lang/constant/Constable -/
def k6 : Class := { plain "java/lang/constant/Constable" (some 0) with
  accessFlags := 1537
  interfaces := #[]
  cf := some (fileOf pool6 1 #[] #[] 1537 3 #[] #[])
  fields := #[]
  methods := #[]
  instanceTypes := #[]
  staticTypes := #[]
  resolved := Array.replicate 11 none
  statics := none }

def pool7 : Array CpInfo := pool [(1, .class_ 2), (0, u "java/lang/constant/ConstantDesc"), (0, .class_ 4), (0, u "java/lang/Object")] 32

/-- java/lang/constant/ConstantDesc -/
def k7 : Class := { plain "java/lang/constant/ConstantDesc" (some 0) with
  accessFlags := 1537
  interfaces := #[]
  cf := some (fileOf pool7 1 #[] #[] 1537 3 #[] #[])
  fields := #[]
  methods := #[]
  instanceTypes := #[]
  staticTypes := #[]
  resolved := Array.replicate 37 none
  statics := none }

def pool8 : Array CpInfo := pool [(1, .methodref 2 3), (0, .class_ 4), (0, .nameAndType 5 6), (0, u "java/lang/Object"), (0, u "<init>"), (0, u "()V"), (2, .fieldref 10 11), (0, .class_ 12), (0, .nameAndType 13 14), (0, u "java/lang/String"), (0, u "value"), (0, u "[B"), (0, .fieldref 10 16), (0, .nameAndType 17 18), (0, u "coder"), (0, u "B"), (2, u "hash"), (0, u "I"), (2, u "hashIsZero"), (0, u "Z"), (0, .methodref 10 28), (0, .nameAndType 5 29), (0, u "([CIILjava/lang/Void;)V"), (8, .fieldref 10 39), (0, .nameAndType 40 26), (0, u "COMPACT_STRINGS"), (1, .class_ 44), (1, u "java/lang/StringUTF16"), (0, u "compress"), (1, .methodref 42 48), (0, .nameAndType 49 50), (0, u "coderFromArrayLen"), (0, u "([BI)B"), (35, .fieldref 87 88), (0, .class_ 89), (0, .nameAndType 90 91), (0, u "sun/nio/cs/UTF_8"), (0, u "INSTANCE"), (0, u "Lsun/nio/cs/UTF_8;"), (24, .fieldref 117 118), (0, .class_ 119), (0, .nameAndType 90 120), (0, u "sun/nio/cs/ISO_8859_1"), (0, u "Lsun/nio/cs/ISO_8859_1;"), (56, .methodref 42 178), (0, .nameAndType 45 179), (0, u "([CII)[B"), (75, u "(B[BZ)[B"), (0, .methodref 10 257), (0, .nameAndType 258 259), (0, u "encode8859_1"), (0, u "(B[B)[B"), (19, .methodref 280 281), (0, .class_ 14), (0, .nameAndType 282 283), (0, u "clone"), (0, u "()Ljava/lang/Object;"), (33, u "encode"), (17, .methodref 10 336), (0, .nameAndType 17 337), (0, u "()B"), (13, .methodref 10 352), (0, .nameAndType 258 255), (179, u "getBytes"), (2, .methodref 10 536), (0, .nameAndType 317 537), (0, u "(Ljava/nio/charset/Charset;B[B)[B"), (37, .class_ 576), (0, u "java/lang/CharSequence"), (22, u "CASE_INSENSITIVE_ORDER"), (0, u "Ljava/util/Comparator;"), (409, u "([C)V"), (90, u "serialPersistentFields"), (0, u "[Ljava/io/ObjectStreamField;"), (0, .class_ 1104), (0, u "java/lang/String$CaseInsensitiveComparator"), (1, .class_ 1107), (0, u "java/io/Serializable"), (0, .class_ 1109), (0, u "java/lang/Comparable"), (0, .class_ 1111), (0, u "java/lang/constant/Constable"), (0, .class_ 1113), (0, u "java/lang/constant/ConstantDesc"), (2, u "serialVersionUID"), (0, u "J"), (3, u "REPL"), (0, u "C"), (2, u "LATIN1"), (1, u "UTF16"), (117, u "(Ljava/nio/charset/Charset;)[B")] 205

def k8m0 : Method := { name := "<init>", desc := "()V", sig := { parameters := [], returnType := none }, accessFlags := 1, code := none }
def k8c1 : Code := { maxStack := 5, maxLocals := 2, code := jdk_42_method_3_code, exceptionTable := #[], attributes := #[] }
def k8m1 : Method := { name := "<init>", desc := "([C)V", sig := { parameters := [(.array .char)], returnType := none }, accessFlags := 1, code := some k8c1 }
def k8c2 : Code := { maxStack := 4, maxLocals := 3, code := jdk_42_method_18_code, exceptionTable := #[], attributes := #[] }
def k8m2 : Method := { name := "encode", desc := "(Ljava/nio/charset/Charset;B[B)[B", sig := { parameters := [(.object "java/nio/charset/Charset"), .byte, (.array .byte)], returnType := some (.array .byte) }, accessFlags := 10, code := some k8c2 }
def k8c3 : Code := { maxStack := 3, maxLocals := 2, code := jdk_42_method_26_code, exceptionTable := #[], attributes := #[] }
def k8m3 : Method := { name := "encode8859_1", desc := "(B[B)[B", sig := { parameters := [.byte, (.array .byte)], returnType := some (.array .byte) }, accessFlags := 10, code := some k8c3 }
def k8c4 : Code := { maxStack := 5, maxLocals := 10, code := jdk_42_method_27_code, exceptionTable := #[], attributes := #[] }
def k8m4 : Method := { name := "encode8859_1", desc := "(B[BZ)[B", sig := { parameters := [.byte, (.array .byte), .boolean], returnType := some (.array .byte) }, accessFlags := 10, code := some k8c4 }
def k8c5 : Code := { maxStack := 3, maxLocals := 2, code := jdk_42_method_64_code, exceptionTable := #[], attributes := #[] }
def k8m5 : Method := { name := "getBytes", desc := "(Ljava/nio/charset/Charset;)[B", sig := { parameters := [(.object "java/nio/charset/Charset")], returnType := some (.array .byte) }, accessFlags := 1, code := some k8c5 }
def k8c6 : Code := { maxStack := 4, maxLocals := 6, code := jdk_42_method_149_code, exceptionTable := #[], attributes := #[] }
def k8m6 : Method := { name := "<init>", desc := "([CIILjava/lang/Void;)V", sig := { parameters := [(.array .char), .int, .int, (.object "java/lang/Void")], returnType := none }, accessFlags := 2, code := some k8c6 }
def k8c7 : Code := { maxStack := 1, maxLocals := 1, code := jdk_42_method_152_code, exceptionTable := #[], attributes := #[] }
def k8m7 : Method := { name := "coder", desc := "()B", sig := { parameters := [], returnType := some .byte }, accessFlags := 0, code := some k8c7 }
/-- java/lang/String -/
def k8 : Class := { plain "java/lang/String" (some 0) with
  accessFlags := 49
  interfaces := #[3, 4, 5, 6, 7]
  cf := some (fileOf pool8 10 #[.nestMembers #[1103]] #[{ accessFlags := 1, nameIndex := 5, descriptorIndex := 6, attributes := #[] }, { accessFlags := 1, nameIndex := 5, descriptorIndex := 1010, attributes := #[] }, { accessFlags := 10, nameIndex := 317, descriptorIndex := 537, attributes := #[] }, { accessFlags := 10, nameIndex := 258, descriptorIndex := 259, attributes := #[] }, { accessFlags := 10, nameIndex := 258, descriptorIndex := 255, attributes := #[] }, { accessFlags := 1, nameIndex := 532, descriptorIndex := 1245, attributes := #[] }, { accessFlags := 2, nameIndex := 5, descriptorIndex := 29, attributes := #[] }, { accessFlags := 0, nameIndex := 17, descriptorIndex := 337, attributes := #[] }] 49 2 #[1106, 1108, 575, 1110, 1112] #[{ accessFlags := 18, nameIndex := 13, descriptorIndex := 14, attributes := #[] }, { accessFlags := 18, nameIndex := 17, descriptorIndex := 18, attributes := #[] }, { accessFlags := 2, nameIndex := 21, descriptorIndex := 22, attributes := #[] }, { accessFlags := 2, nameIndex := 25, descriptorIndex := 26, attributes := #[] }, { accessFlags := 26, nameIndex := 1116, descriptorIndex := 1117, attributes := #[] }, { accessFlags := 24, nameIndex := 40, descriptorIndex := 26, attributes := #[] }, { accessFlags := 26, nameIndex := 1101, descriptorIndex := 1102, attributes := #[] }, { accessFlags := 26, nameIndex := 1121, descriptorIndex := 1122, attributes := #[] }, { accessFlags := 25, nameIndex := 599, descriptorIndex := 600, attributes := #[] }, { accessFlags := 24, nameIndex := 1125, descriptorIndex := 18, attributes := #[] }, { accessFlags := 24, nameIndex := 1127, descriptorIndex := 18, attributes := #[] }])
  fields := #[{ name := "value", type := (.array .byte), accessFlags := 18, slot := 0, constantValue := 0 }, { name := "coder", type := .byte, accessFlags := 18, slot := 1, constantValue := 0 }, { name := "hash", type := .int, accessFlags := 2, slot := 2, constantValue := 0 }, { name := "hashIsZero", type := .boolean, accessFlags := 2, slot := 3, constantValue := 0 }, { name := "serialVersionUID", type := .long, accessFlags := 26, slot := 0, constantValue := 0 }, { name := "COMPACT_STRINGS", type := .boolean, accessFlags := 24, slot := 1, constantValue := 0 }, { name := "serialPersistentFields", type := (.array (.object "java/io/ObjectStreamField")), accessFlags := 26, slot := 2, constantValue := 0 }, { name := "REPL", type := .char, accessFlags := 26, slot := 3, constantValue := 0 }, { name := "CASE_INSENSITIVE_ORDER", type := (.object "java/util/Comparator"), accessFlags := 25, slot := 4, constantValue := 0 }, { name := "LATIN1", type := .byte, accessFlags := 24, slot := 5, constantValue := 0 }, { name := "UTF16", type := .byte, accessFlags := 24, slot := 6, constantValue := 0 }]
  methods := #[k8m0, k8m1, k8m2, k8m3, k8m4, k8m5, k8m6, k8m7]
  instanceTypes := #[(.array .byte), .byte, .int, .boolean]
  staticTypes := #[.long, .boolean, (.array (.object "java/io/ObjectStreamField")), .char, (.object "java/util/Comparator"), .byte, .byte]
  resolved := Array.replicate 1451 none
  statics := some 0 }

def pool9 : Array CpInfo := pool [(6, .class_ 8), (1, u "java/lang/Object"), (0, u "<init>"), (0, u "()V"), (1, .class_ 14), (1, u "java/lang/StringUTF16"), (31, u "$assertionsDisabled"), (0, u "Z"), (13, u "HI_BYTE_SHIFT"), (0, u "I"), (2, u "LO_BYTE_SHIFT"), (49, .methodref 12 116), (0, .nameAndType 117 118), (0, u "compress"), (0, u "([CI[BII)I"), (3, u "([CII)[B"), (138, u "coderFromArrayLen"), (0, u "([BI)B"), (106, .class_ 371), (1, u "java/lang/StringUTF16$LinesSpliterator"), (58, u "MAX_LENGTH"), (196, .class_ 628), (0, u "java/lang/StringUTF16$CodePointsSpliterator"), (0, .class_ 630), (0, u "java/lang/StringUTF16$CharsSpliterator")] 4

def k9m0 : Method := { name := "<init>", desc := "()V", sig := { parameters := [], returnType := none }, accessFlags := 0, code := none }
def k9c1 : Code := { maxStack := 2, maxLocals := 2, code := jdk_52_method_15_code, exceptionTable := #[], attributes := #[] }
def k9m1 : Method := { name := "coderFromArrayLen", desc := "([BI)B", sig := { parameters := [(.array .byte), .int], returnType := some .byte }, accessFlags := 8, code := some k9c1 }
def k9c2 : Code := { maxStack := 5, maxLocals := 6, code := jdk_52_method_16_code, exceptionTable := #[], attributes := #[] }
def k9m2 : Method := { name := "compress", desc := "([CII)[B", sig := { parameters := [(.array .char), .int, .int], returnType := some (.array .byte) }, accessFlags := 9, code := some k9c2 }
def k9c3 : Code := { maxStack := 3, maxLocals := 7, code := jdk_52_method_21_code, exceptionTable := #[], attributes := #[] }
def k9m3 : Method := { name := "compress", desc := "([CI[BII)I", sig := { parameters := [(.array .char), .int, (.array .byte), .int, .int], returnType := some .int }, accessFlags := 9, code := some k9c3 }
/-- java/lang/StringUTF16 -/
def k9 : Class := { plain "java/lang/StringUTF16" (some 0) with
  accessFlags := 48
  interfaces := #[]
  cf := some (fileOf pool9 12 #[.nestMembers #[627, 629, 369]] #[{ accessFlags := 0, nameIndex := 9, descriptorIndex := 10, attributes := #[] }, { accessFlags := 8, nameIndex := 261, descriptorIndex := 262, attributes := #[] }, { accessFlags := 9, nameIndex := 117, descriptorIndex := 122, attributes := #[] }, { accessFlags := 9, nameIndex := 117, descriptorIndex := 118, attributes := #[] }] 48 6 #[] #[{ accessFlags := 26, nameIndex := 61, descriptorIndex := 62, attributes := #[] }, { accessFlags := 26, nameIndex := 65, descriptorIndex := 62, attributes := #[] }, { accessFlags := 24, nameIndex := 430, descriptorIndex := 62, attributes := #[] }, { accessFlags := 4120, nameIndex := 46, descriptorIndex := 47, attributes := #[] }])
  fields := #[{ name := "HI_BYTE_SHIFT", type := .int, accessFlags := 26, slot := 0, constantValue := 0 }, { name := "LO_BYTE_SHIFT", type := .int, accessFlags := 26, slot := 1, constantValue := 0 }, { name := "MAX_LENGTH", type := .int, accessFlags := 24, slot := 2, constantValue := 0 }, { name := "$assertionsDisabled", type := .boolean, accessFlags := 4120, slot := 3, constantValue := 0 }]
  methods := #[k9m0, k9m1, k9m2, k9m3]
  instanceTypes := #[]
  staticTypes := #[.int, .int, .int, .boolean]
  resolved := Array.replicate 635 none
  statics := none }

def pool10 : Array CpInfo := pool [(2, .class_ 4), (1, u "java/lang/Object"), (0, u "<init>"), (0, u "()V"), (14, .class_ 23), (1, u "java/nio/charset/StandardCharsets"), (0, u "US_ASCII"), (0, u "Ljava/nio/charset/Charset;"), (7, u "ISO_8859_1"), (7, u "UTF_8"), (5, u "UTF_16BE"), (5, u "UTF_16LE"), (5, u "UTF_16")] 8

def k10m0 : Method := { name := "<init>", desc := "()V", sig := { parameters := [], returnType := none }, accessFlags := 2, code := none }
/-- java/nio/charset/StandardCharsets -/
def k10 : Class := { plain "java/nio/charset/StandardCharsets" (some 0) with
  accessFlags := 49
  interfaces := #[]
  cf := some (fileOf pool10 21 #[] #[{ accessFlags := 2, nameIndex := 5, descriptorIndex := 6, attributes := #[] }] 49 2 #[] #[{ accessFlags := 25, nameIndex := 24, descriptorIndex := 25, attributes := #[] }, { accessFlags := 25, nameIndex := 33, descriptorIndex := 25, attributes := #[] }, { accessFlags := 25, nameIndex := 41, descriptorIndex := 25, attributes := #[] }, { accessFlags := 25, nameIndex := 47, descriptorIndex := 25, attributes := #[] }, { accessFlags := 25, nameIndex := 53, descriptorIndex := 25, attributes := #[] }, { accessFlags := 25, nameIndex := 59, descriptorIndex := 25, attributes := #[] }])
  fields := #[{ name := "US_ASCII", type := (.object "java/nio/charset/Charset"), accessFlags := 25, slot := 0, constantValue := 0 }, { name := "ISO_8859_1", type := (.object "java/nio/charset/Charset"), accessFlags := 25, slot := 1, constantValue := 0 }, { name := "UTF_8", type := (.object "java/nio/charset/Charset"), accessFlags := 25, slot := 2, constantValue := 0 }, { name := "UTF_16BE", type := (.object "java/nio/charset/Charset"), accessFlags := 25, slot := 3, constantValue := 0 }, { name := "UTF_16LE", type := (.object "java/nio/charset/Charset"), accessFlags := 25, slot := 4, constantValue := 0 }, { name := "UTF_16", type := (.object "java/nio/charset/Charset"), accessFlags := 25, slot := 5, constantValue := 0 }]
  methods := #[k10m0]
  instanceTypes := #[]
  staticTypes := #[(.object "java/nio/charset/Charset"), (.object "java/nio/charset/Charset"), (.object "java/nio/charset/Charset"), (.object "java/nio/charset/Charset"), (.object "java/nio/charset/Charset"), (.object "java/nio/charset/Charset")]
  resolved := Array.replicate 68 none
  statics := some 1 }

def pool11 : Array CpInfo := pool [(18, .class_ 20), (1, u "java/nio/charset/Charset"), (0, u "cache1"), (0, u "[Ljava/lang/Object;"), (2, u "cache2"), (0, .class_ 27), (0, u "java/lang/Object"), (0, .class_ 29), (0, u "java/nio/charset/Charset$1"), (4, .class_ 36), (1, u "java/nio/charset/Charset$ThreadTrackHolder"), (21, .class_ 59), (0, u "java/nio/charset/Charset$2"), (11, .class_ 73), (1, u "java/nio/charset/Charset$ExtendedProviderHolder"), (22, u "standardProvider"), (0, u "Ljava/nio/charset/spi/CharsetProvider;"), (29, u "name"), (7, .class_ 136), (0, u "java/nio/charset/Charset$3"), (5, u "defaultCharset"), (0, u "Ljava/nio/charset/Charset;"), (14, u "zeroAliases"), (0, u "[Ljava/lang/String;"), (29, u "Ljava/lang/String;"), (2, u "aliases"), (2, u "aliasSet"), (0, u "Ljava/util/Set;"), (82, .class_ 280), (0, u "java/lang/Comparable"), (84, .class_ 366), (0, u "java/nio/charset/Charset$ExtendedProviderHolder$1")] 3

/-- java/nio/charset/Charset -/
def k11 : Class := { plain "java/nio/charset/Charset" (some 0) with
  accessFlags := 1057
  interfaces := #[4]
  cf := some (fileOf pool11 18 #[.nestMembers #[71, 365, 34, 135, 58, 28]] #[] 1057 26 #[279] #[{ accessFlags := 26, nameIndex := 96, descriptorIndex := 97, attributes := #[] }, { accessFlags := 26, nameIndex := 158, descriptorIndex := 159, attributes := #[] }, { accessFlags := 74, nameIndex := 21, descriptorIndex := 22, attributes := #[] }, { accessFlags := 74, nameIndex := 25, descriptorIndex := 22, attributes := #[] }, { accessFlags := 10, nameIndex := 142, descriptorIndex := 143, attributes := #[] }, { accessFlags := 18, nameIndex := 127, descriptorIndex := 189, attributes := #[] }, { accessFlags := 18, nameIndex := 192, descriptorIndex := 159, attributes := #[] }, { accessFlags := 2, nameIndex := 195, descriptorIndex := 196, attributes := #[] }])
  fields := #[{ name := "standardProvider", type := (.object "java/nio/charset/spi/CharsetProvider"), accessFlags := 26, slot := 0, constantValue := 0 }, { name := "zeroAliases", type := (.array (.object "java/lang/String")), accessFlags := 26, slot := 1, constantValue := 0 }, { name := "cache1", type := (.array (.object "java/lang/Object")), accessFlags := 74, slot := 2, constantValue := 0 }, { name := "cache2", type := (.array (.object "java/lang/Object")), accessFlags := 74, slot := 3, constantValue := 0 }, { name := "defaultCharset", type := (.object "java/nio/charset/Charset"), accessFlags := 10, slot := 4, constantValue := 0 }, { name := "name", type := (.object "java/lang/String"), accessFlags := 18, slot := 0, constantValue := 0 }, { name := "aliases", type := (.array (.object "java/lang/String")), accessFlags := 18, slot := 1, constantValue := 0 }, { name := "aliasSet", type := (.object "java/util/Set"), accessFlags := 2, slot := 2, constantValue := 0 }]
  methods := #[]
  instanceTypes := #[(.object "java/lang/String"), (.array (.object "java/lang/String")), (.object "java/util/Set")]
  staticTypes := #[(.object "java/nio/charset/spi/CharsetProvider"), (.array (.object "java/lang/String")), (.array (.object "java/lang/Object")), (.array (.object "java/lang/Object")), (.object "java/nio/charset/Charset")]
  resolved := Array.replicate 370 none
  statics := none }

def pool12 : Array CpInfo := pool [(1, .class_ 2), (0, u "sun/nio/cs/HistoricallyNamedCharset"), (0, .class_ 4), (0, u "java/lang/Object")] 4

/-- sun/nio/cs/HistoricallyNamedCharset -/
def k12 : Class := { plain "sun/nio/cs/HistoricallyNamedCharset" (some 0) with
  accessFlags := 1537
  interfaces := #[]
  cf := some (fileOf pool12 1 #[] #[] 1537 3 #[] #[])
  fields := #[]
  methods := #[]
  instanceTypes := #[]
  staticTypes := #[]
  resolved := Array.replicate 9 none
  statics := none }

def pool13 : Array CpInfo := pool [(2, .class_ 4), (1, u "java/nio/charset/Charset"), (130, .class_ 136), (0, u "sun/nio/cs/Unicode"), (0, .class_ 138), (0, u "sun/nio/cs/HistoricallyNamedCharset")] 15

/-- sun/nio/cs/Unicode -/
def k13 : Class := { plain "sun/nio/cs/Unicode" (some 11) with
  accessFlags := 1056
  interfaces := #[12]
  cf := some (fileOf pool13 135 #[] #[] 1056 2 #[137] #[])
  fields := #[]
  methods := #[]
  instanceTypes := #[(.object "java/lang/String"), (.array (.object "java/lang/String")), (.object "java/util/Set")]
  staticTypes := #[]
  resolved := Array.replicate 154 none
  statics := none }

def pool14 : Array CpInfo := pool [(10, .class_ 12), (1, u "sun/nio/cs/Unicode"), (0, u "<init>"), (3, .class_ 18), (0, u "sun/nio/cs/UTF_8$Decoder"), (3, .class_ 23), (0, u "sun/nio/cs/UTF_8$Encoder"), (15, .class_ 40), (0, u "sun/nio/cs/UTF_8"), (2, u "()V"), (2, u "INSTANCE"), (0, u "Lsun/nio/cs/UTF_8;"), (8, u "JLA"), (0, u "Ljdk/internal/access/JavaLangAccess;")] 26

def k14m0 : Method := { name := "<init>", desc := "()V", sig := { parameters := [], returnType := none }, accessFlags := 1, code := none }
/-- sun/nio/cs/UTF_8 -/
def k14 : Class := { plain "sun/nio/cs/UTF_8" (some 13) with
  accessFlags := 49
  interfaces := #[]
  cf := some (fileOf pool14 39 #[.nestMembers #[22, 17]] #[{ accessFlags := 1, nameIndex := 13, descriptorIndex := 43, attributes := #[] }] 49 10 #[] #[{ accessFlags := 25, nameIndex := 46, descriptorIndex := 47, attributes := #[] }, { accessFlags := 26, nameIndex := 56, descriptorIndex := 57, attributes := #[] }])
  fields := #[{ name := "INSTANCE", type := (.object "sun/nio/cs/UTF_8"), accessFlags := 25, slot := 0, constantValue := 0 }, { name := "JLA", type := (.object "jdk/internal/access/JavaLangAccess"), accessFlags := 26, slot := 1, constantValue := 0 }]
  methods := #[k14m0]
  instanceTypes := #[(.object "java/lang/String"), (.array (.object "java/lang/String")), (.object "java/util/Set")]
  staticTypes := #[(.object "sun/nio/cs/UTF_8"), (.object "jdk/internal/access/JavaLangAccess")]
  resolved := Array.replicate 84 none
  statics := some 2 }

def pool15 : Array CpInfo := pool [(10, .class_ 12), (1, u "java/nio/charset/Charset"), (0, u "<init>"), (5, .class_ 20), (0, u "sun/nio/cs/ISO_8859_1"), (0, .class_ 22), (0, u "sun/nio/cs/ISO_8859_1$Decoder"), (3, .class_ 27), (0, u "sun/nio/cs/ISO_8859_1$Encoder"), (3, u "()V"), (2, u "INSTANCE"), (0, u "Lsun/nio/cs/ISO_8859_1;"), (0, .class_ 37), (0, u "sun/nio/cs/HistoricallyNamedCharset")] 22

def k15m0 : Method := { name := "<init>", desc := "()V", sig := { parameters := [], returnType := none }, accessFlags := 1, code := none }
/-- sun/nio/cs/ISO_8859_1 -/
def k15 : Class := { plain "sun/nio/cs/ISO_8859_1" (some 11) with
  accessFlags := 33
  interfaces := #[12]
  cf := some (fileOf pool15 19 #[.nestMembers #[26, 21]] #[{ accessFlags := 1, nameIndex := 13, descriptorIndex := 31, attributes := #[] }] 33 10 #[36] #[{ accessFlags := 25, nameIndex := 34, descriptorIndex := 35, attributes := #[] }])
  fields := #[{ name := "INSTANCE", type := (.object "sun/nio/cs/ISO_8859_1"), accessFlags := 25, slot := 0, constantValue := 0 }]
  methods := #[k15m0]
  instanceTypes := #[(.object "java/lang/String"), (.array (.object "java/lang/String")), (.object "java/util/Set")]
  staticTypes := #[(.object "sun/nio/cs/ISO_8859_1")]
  resolved := Array.replicate 60 none
  statics := some 3 }

def pool16 : Array CpInfo := pool [(1, .class_ 2), (0, u "java/lang/Cloneable"), (0, .class_ 4), (0, u "java/lang/Object")] 2

/-- java/lang/Cloneable -/
def k16 : Class := { plain "java/lang/Cloneable" (some 0) with
  accessFlags := 1537
  interfaces := #[]
  cf := some (fileOf pool16 1 #[] #[] 1537 3 #[] #[])
  fields := #[]
  methods := #[]
  instanceTypes := #[]
  staticTypes := #[]
  resolved := Array.replicate 7 none
  statics := none }

def pool17 : Array CpInfo := pool [(4, .class_ 6), (1, u "java/lang/Object"), (0, u "<init>"), (0, u "()V"), (5, .class_ 16), (1, u "java/lang/StringLatin1"), (104, u "$assertionsDisabled"), (0, u "Z"), (98, .class_ 223), (1, u "java/lang/StringLatin1$LinesSpliterator"), (166, .class_ 391), (0, u "java/lang/StringLatin1$CharsSpliterator")] 3

def k17m0 : Method := { name := "<init>", desc := "()V", sig := { parameters := [], returnType := none }, accessFlags := 0, code := none }
/-- java/lang/StringLatin1 -/
def k17 : Class := { plain "java/lang/StringLatin1" (some 0) with
  accessFlags := 48
  interfaces := #[]
  cf := some (fileOf pool17 14 #[.nestMembers #[390, 221]] #[{ accessFlags := 0, nameIndex := 7, descriptorIndex := 8, attributes := #[] }] 48 4 #[] #[{ accessFlags := 4120, nameIndex := 121, descriptorIndex := 122, attributes := #[] }])
  fields := #[{ name := "$assertionsDisabled", type := .boolean, accessFlags := 4120, slot := 0, constantValue := 0 }]
  methods := #[k17m0]
  instanceTypes := #[]
  staticTypes := #[.boolean]
  resolved := Array.replicate 395 none
  statics := none }

def pool18 : Array CpInfo := pool [(2, .class_ 4), (1, u "java/lang/Object"), (0, u "<init>"), (0, u "()V"), (17, .class_ 26), (1, u "jdk/internal/util/Preconditions"), (28, .class_ 56), (0, u "jdk/internal/util/Preconditions$4"), (57, .class_ 115), (0, u "jdk/internal/util/Preconditions$1"), (7, u "SIOOBE_FORMATTER"), (0, u "Ljava/util/function/BiFunction;"), (0, .class_ 126), (0, u "jdk/internal/util/Preconditions$2"), (3, u "AIOOBE_FORMATTER"), (0, .class_ 132), (0, u "jdk/internal/util/Preconditions$3"), (3, u "IOOBE_FORMATTER")] 57

def k18m0 : Method := { name := "<init>", desc := "()V", sig := { parameters := [], returnType := none }, accessFlags := 1, code := none }
/-- jdk/internal/util/Preconditions -/
def k18 : Class := { plain "jdk/internal/util/Preconditions" (some 0) with
  accessFlags := 33
  interfaces := #[]
  cf := some (fileOf pool18 24 #[.nestMembers #[55, 131, 125, 114]] #[{ accessFlags := 1, nameIndex := 5, descriptorIndex := 6, attributes := #[] }] 33 2 #[] #[{ accessFlags := 25, nameIndex := 123, descriptorIndex := 124, attributes := #[] }, { accessFlags := 25, nameIndex := 130, descriptorIndex := 124, attributes := #[] }, { accessFlags := 25, nameIndex := 136, descriptorIndex := 124, attributes := #[] }])
  fields := #[{ name := "SIOOBE_FORMATTER", type := (.object "java/util/function/BiFunction"), accessFlags := 25, slot := 0, constantValue := 0 }, { name := "AIOOBE_FORMATTER", type := (.object "java/util/function/BiFunction"), accessFlags := 25, slot := 1, constantValue := 0 }, { name := "IOOBE_FORMATTER", type := (.object "java/util/function/BiFunction"), accessFlags := 25, slot := 2, constantValue := 0 }]
  methods := #[k18m0]
  instanceTypes := #[]
  staticTypes := #[(.object "java/util/function/BiFunction"), (.object "java/util/function/BiFunction"), (.object "java/util/function/BiFunction")]
  resolved := Array.replicate 194 none
  statics := some 4 }

def pool19 : Array CpInfo := pool [(9, u "<init>"), (6, .class_ 18), (1, u "java/lang/Object"), (0, u "()V"), (1, .class_ 23), (1, u "jdk/internal/util/ArraysSupport"), (0, u "LOG2_ARRAY_LONG_INDEX_SCALE"), (0, u "I"), (2, u "U"), (0, u "Ljdk/internal/misc/Unsafe;"), (8, u "BIG_ENDIAN"), (0, u "Z"), (8, u "LOG2_BYTE_BIT_SIZE"), (4, u "LOG2_ARRAY_INT_INDEX_SCALE"), (54, u "JLA"), (0, u "Ljdk/internal/access/JavaLangAccess;"), (11, u "LOG2_ARRAY_BOOLEAN_INDEX_SCALE"), (9, u "LOG2_ARRAY_BYTE_INDEX_SCALE"), (5, u "LOG2_ARRAY_CHAR_INDEX_SCALE"), (5, u "LOG2_ARRAY_SHORT_INDEX_SCALE"), (18, u "LOG2_ARRAY_FLOAT_INDEX_SCALE"), (24, u "LOG2_ARRAY_DOUBLE_INDEX_SCALE"), (89, u "T_BOOLEAN"), (2, u "T_CHAR"), (1, u "T_FLOAT"), (1, u "T_DOUBLE"), (1, u "T_BYTE"), (1, u "T_SHORT"), (1, u "T_INT"), (1, u "T_LONG"), (1, u "SOFT_MAX_ARRAY_LENGTH")] 83

def k19m0 : Method := { name := "<init>", desc := "()V", sig := { parameters := [], returnType := none }, accessFlags := 2, code := none }
/-- jdk/internal/util/ArraysSupport -/
def k19 : Class := { plain "jdk/internal/util/ArraysSupport" (some 0) with
  accessFlags := 33
  interfaces := #[]
  cf := some (fileOf pool19 21 #[] #[{ accessFlags := 2, nameIndex := 9, descriptorIndex := 19, attributes := #[] }] 33 16 #[] #[{ accessFlags := 24, nameIndex := 28, descriptorIndex := 29, attributes := #[] }, { accessFlags := 26, nameIndex := 38, descriptorIndex := 39, attributes := #[] }, { accessFlags := 25, nameIndex := 121, descriptorIndex := 25, attributes := #[] }, { accessFlags := 25, nameIndex := 131, descriptorIndex := 25, attributes := #[] }, { accessFlags := 25, nameIndex := 137, descriptorIndex := 25, attributes := #[] }, { accessFlags := 25, nameIndex := 143, descriptorIndex := 25, attributes := #[] }, { accessFlags := 25, nameIndex := 53, descriptorIndex := 25, attributes := #[] }, { accessFlags := 25, nameIndex := 24, descriptorIndex := 25, attributes := #[] }, { accessFlags := 25, nameIndex := 162, descriptorIndex := 25, attributes := #[] }, { accessFlags := 25, nameIndex := 187, descriptorIndex := 25, attributes := #[] }, { accessFlags := 26, nameIndex := 48, descriptorIndex := 25, attributes := #[] }, { accessFlags := 25, nameIndex := 277, descriptorIndex := 25, attributes := #[] }, { accessFlags := 25, nameIndex := 280, descriptorIndex := 25, attributes := #[] }, { accessFlags := 25, nameIndex := 282, descriptorIndex := 25, attributes := #[] }, { accessFlags := 25, nameIndex := 284, descriptorIndex := 25, attributes := #[] }, { accessFlags := 25, nameIndex := 286, descriptorIndex := 25, attributes := #[] }, { accessFlags := 25, nameIndex := 288, descriptorIndex := 25, attributes := #[] }, { accessFlags := 25, nameIndex := 290, descriptorIndex := 25, attributes := #[] }, { accessFlags := 25, nameIndex := 292, descriptorIndex := 25, attributes := #[] }, { accessFlags := 26, nameIndex := 108, descriptorIndex := 109, attributes := #[] }, { accessFlags := 25, nameIndex := 294, descriptorIndex := 25, attributes := #[] }])
  fields := #[{ name := "U", type := (.object "jdk/internal/misc/Unsafe"), accessFlags := 24, slot := 0, constantValue := 0 }, { name := "BIG_ENDIAN", type := .boolean, accessFlags := 26, slot := 1, constantValue := 0 }, { name := "LOG2_ARRAY_BOOLEAN_INDEX_SCALE", type := .int, accessFlags := 25, slot := 2, constantValue := 0 }, { name := "LOG2_ARRAY_BYTE_INDEX_SCALE", type := .int, accessFlags := 25, slot := 3, constantValue := 0 }, { name := "LOG2_ARRAY_CHAR_INDEX_SCALE", type := .int, accessFlags := 25, slot := 4, constantValue := 0 }, { name := "LOG2_ARRAY_SHORT_INDEX_SCALE", type := .int, accessFlags := 25, slot := 5, constantValue := 0 }, { name := "LOG2_ARRAY_INT_INDEX_SCALE", type := .int, accessFlags := 25, slot := 6, constantValue := 0 }, { name := "LOG2_ARRAY_LONG_INDEX_SCALE", type := .int, accessFlags := 25, slot := 7, constantValue := 0 }, { name := "LOG2_ARRAY_FLOAT_INDEX_SCALE", type := .int, accessFlags := 25, slot := 8, constantValue := 0 }, { name := "LOG2_ARRAY_DOUBLE_INDEX_SCALE", type := .int, accessFlags := 25, slot := 9, constantValue := 0 }, { name := "LOG2_BYTE_BIT_SIZE", type := .int, accessFlags := 26, slot := 10, constantValue := 0 }, { name := "T_BOOLEAN", type := .int, accessFlags := 25, slot := 11, constantValue := 0 }, { name := "T_CHAR", type := .int, accessFlags := 25, slot := 12, constantValue := 0 }, { name := "T_FLOAT", type := .int, accessFlags := 25, slot := 13, constantValue := 0 }, { name := "T_DOUBLE", type := .int, accessFlags := 25, slot := 14, constantValue := 0 }, { name := "T_BYTE", type := .int, accessFlags := 25, slot := 15, constantValue := 0 }, { name := "T_SHORT", type := .int, accessFlags := 25, slot := 16, constantValue := 0 }, { name := "T_INT", type := .int, accessFlags := 25, slot := 17, constantValue := 0 }, { name := "T_LONG", type := .int, accessFlags := 25, slot := 18, constantValue := 0 }, { name := "JLA", type := (.object "jdk/internal/access/JavaLangAccess"), accessFlags := 26, slot := 19, constantValue := 0 }, { name := "SOFT_MAX_ARRAY_LENGTH", type := .int, accessFlags := 25, slot := 20, constantValue := 0 }]
  methods := #[k19m0]
  instanceTypes := #[]
  staticTypes := #[(.object "jdk/internal/misc/Unsafe"), .boolean, .int, .int, .int, .int, .int, .int, .int, .int, .int, .int, .int, .int, .int, .int, .int, .int, .int, (.object "jdk/internal/access/JavaLangAccess"), .int]
  resolved := Array.replicate 378 none
  statics := none }

/-- the primitive byte -/
def k20 : Class := { plain "byte" none with kind := .primitive 'B', accessFlags := 0x411 }
/-- [B -/
def k21 : Class := { plain "[B" (some 0) with kind := .array 20 .byte, interfaces := #[16, 3], accessFlags := 1041 }

/-- the primitive char -/
def k22 : Class := { plain "char" none with kind := .primitive 'C', accessFlags := 0x411 }
/-- [C -/
def k23 : Class := { plain "[C" (some 0) with kind := .array 22 .char, interfaces := #[16, 3], accessFlags := 1041 }

/-- the primitive int -/
def k24 : Class := { plain "int" none with kind := .primitive 'I', accessFlags := 0x411 }
/-- [I -/
def k25 : Class := { plain "[I" (some 0) with kind := .array 24 .int, interfaces := #[16, 3], accessFlags := 1041 }

def heap : Heap := #[{ cls := 8, slots := #[.long 0, .int 1, .null, .int 0, .null, .int 0, .int 0], vm := .statics 8 },
  { cls := 10, slots := #[.null, .ref 5, .null, .null, .null, .null], vm := .statics 10 },
  { cls := 14, slots := #[.ref 6, .null], vm := .statics 14 },
  { cls := 15, slots := #[.ref 5], vm := .statics 15 },
  { cls := 18, slots := #[.null, .null, .null], vm := .statics 18 },
  { cls := 15, slots := #[.null, .null, .null], vm := .none },
  { cls := 14, slots := #[.null, .null, .null], vm := .none }]
def classes : Array Class := #[k0, k1, k2, k3, k4, k5, k6, k7, k8, k9, k10, k11, k12, k13, k14, k15, k16, k17, k18, k19, k20, k21, k22, k23, k24, k25]
def interned : List (Array UInt16 × Addr) := []
def slotsUsed : Nat := 25
def theMethod : MethodId := ⟨1, 1⟩
def args0 : Array Value := #[.long 3, .int 1, .int 2]
def aboutOver (below : List Frame) : State where
  vm := { classes := classes, interned := interned.toArray }
  heap := heap
  slotsUsed := slotsUsed
  threads := #[{ frames := .invoking theMethod args0 :: below }]
def below0 : List Frame := [.native { method := ⟨0, 0⟩, args := #[] }]
def about1 : State := aboutOver below0
def p0 : Program := .bare "" "" ""
def e0 : Env := launch0.env 0 0 0
theorem w_frames : about1.frames = Frame.invoking theMethod args0 :: below0 := rfl
set_option maxRecDepth 65536 in
theorem w_args : argsFit about1.vm theMethod args0 = true := by decide +kernel
set_option maxRecDepth 65536 in
theorem w_heap : heapFits about1 = true := by decide +kernel
set_option maxRecDepth 65536 in
theorem w_runnable : about1.curStatus? = some .runnable := by decide +kernel
set_option maxRecDepth 65536 in
theorem w_alone : about1.alone = true := by decide +kernel
set_option maxRecDepth 65536 in
theorem w_named : about1.methodNamed? x = some theMethod := by decide +kernel
set_option maxRecDepth 65536 in
theorem w_hears : about1.hears theMethod below0 = true := by decide +kernel
set_option maxRecDepth 65536 in
theorem w_ripe : about1.ripe theMethod args0 below0 = true := by decide +kernel
theorem w_running : about1.status = .running := rfl
set_option maxRecDepth 65536 in
theorem w_room : about1.hasRoom e0.platform room_1 = true :=
  launch0.hasRoom_least _ room_1 (by decide +kernel) (by decide +kernel) (by decide +kernel) (by decide +kernel) (by decide +kernel) (by decide +kernel)
theorem allAtoms_all (ts : List Jvm.Cond) (a : Array Jvm.Value) (st : Jvm.State) : (allAtoms ts).before a st = ts.all (fun c => c.before a st) := by
  induction ts with
  | nil => rfl
  | cons c t ih =>
    show (Jvm.Cond.and c (allAtoms t)).before a st = _
    rw [Jvm.Cond.before_and, ih, List.all_cons]
def words1 : List Jvm.Cond := Jvm.Cond.code x code maxLocals ret :: tables_1
/-- a 'code' word, met by the world's own term for the bytes: nothing is compared byte by byte -/
theorem code_word {y : MethodName} {bytes : ByteArray} {mx : Nat} {rt : Option FieldType} {a : Array Value} {s : State} {m : MethodId} {meth : Method} {c : Code} (h1 : s.methodNamed? y = some m) (h2 : s.vm.method? m = some meth) (h3 : meth.code = some c) (h4 : c.code = bytes)
    (h5 : (c.maxLocals == mx && c.exceptionTable.isEmpty && decide (c.maxStack ≤ mostOperands) && decide (meth.sig.returnType = rt) && !meth.locks && decide (parseMethodDescriptor y.desc = some meth.sig)) = true) : (Jvm.Cond.code y bytes mx rt).before a s = true := by
  simp only [Bool.and_eq_true, beq_iff_eq, Bool.not_eq_true', decide_eq_true_eq] at h5
  obtain ⟨⟨⟨⟨⟨g1, g2⟩, g3⟩, g4⟩, g5⟩, g6⟩ := h5
  simp [Cond.before, Cond.holds, Cond.value, h1, h2, h3, h4, g1, g2, g3, g4, g5, g6]
def isCode : Jvm.Cond → Bool
  | .code _ _ _ _ => true
  | _ => false
theorem all_split {L : List Jvm.Cond} {P : Jvm.Cond → Bool} (h1 : L.all (fun c => isCode c || P c) = true) (h2 : ∀ c ∈ L.filter isCode, P c = true) : L.all P = true := by
  refine List.all_eq_true.mpr fun c hc => ?_
  have h := List.all_eq_true.mp h1 c hc
  rcases Bool.eq_false_or_eq_true (isCode c) with hi | hi
  · exact h2 c (List.mem_filter.mpr ⟨hc, hi⟩)
  · simpa [hi] using h
set_option maxRecDepth 65536 in
theorem w_c0 : (Jvm.Cond.code x code maxLocals ret).before args0 about1 = true := code_word (m := ⟨1, 1⟩) (meth := k1m1) (c := k1c1) (by decide +kernel) rfl rfl rfl (by decide +kernel)
set_option maxRecDepth 65536 in
theorem w_c1 : (Jvm.Cond.code ({ cls := "com/example/rexquill/rexquill/TableReaderNumberPinLaw", name := "ch", desc := "(IIIII)C" } : Jvm.MethodName) method_3_code (5 : Nat) (Option.some Jvm.ClassFile.FieldType.char)).before args0 about1 = true := code_word (m := ⟨1, 2⟩) (meth := k1m2) (c := k1c2) (by decide +kernel) rfl rfl rfl (by decide +kernel)
set_option maxRecDepth 65536 in
theorem w_c2 : (Jvm.Cond.code ({ cls := "java/lang/String", name := "<init>", desc := "([C)V" } : Jvm.MethodName) jdk_42_method_3_code (2 : Nat) (Option.none : Option Jvm.ClassFile.FieldType)).before args0 about1 = true := code_word (m := ⟨8, 1⟩) (meth := k8m1) (c := k8c1) (by decide +kernel) rfl rfl rfl (by decide +kernel)
set_option maxRecDepth 65536 in
theorem w_c3 : (Jvm.Cond.code ({ cls := "java/lang/String", name := "<init>", desc := "([CIILjava/lang/Void;)V" } : Jvm.MethodName) jdk_42_method_149_code (6 : Nat) (Option.none : Option Jvm.ClassFile.FieldType)).before args0 about1 = true := code_word (m := ⟨8, 6⟩) (meth := k8m6) (c := k8c6) (by decide +kernel) rfl rfl rfl (by decide +kernel)
set_option maxRecDepth 65536 in
theorem w_c4 : (Jvm.Cond.code ({ cls := "java/lang/Object", name := "<init>", desc := "()V" } : Jvm.MethodName) object_method_1_code (1 : Nat) (Option.none : Option Jvm.ClassFile.FieldType)).before args0 about1 = true := code_word (m := ⟨0, 0⟩) (meth := k0m0) (c := k0c0) (by decide +kernel) rfl rfl rfl (by decide +kernel)
set_option maxRecDepth 65536 in
theorem w_c5 : (Jvm.Cond.code ({ cls := "java/lang/StringUTF16", name := "compress", desc := "([CII)[B" } : Jvm.MethodName) jdk_52_method_16_code (6 : Nat) (Option.some (Jvm.ClassFile.FieldType.array Jvm.ClassFile.FieldType.byte))).before args0 about1 = true := code_word (m := ⟨9, 2⟩) (meth := k9m2) (c := k9c2) (by decide +kernel) rfl rfl rfl (by decide +kernel)
set_option maxRecDepth 65536 in
theorem w_c6 : (Jvm.Cond.code ({ cls := "java/lang/StringUTF16", name := "compress", desc := "([CI[BII)I" } : Jvm.MethodName) jdk_52_method_21_code (7 : Nat) (Option.some Jvm.ClassFile.FieldType.int)).before args0 about1 = true := code_word (m := ⟨9, 3⟩) (meth := k9m3) (c := k9c3) (by decide +kernel) rfl rfl rfl (by decide +kernel)
set_option maxRecDepth 65536 in
theorem w_c7 : (Jvm.Cond.code ({ cls := "java/lang/StringUTF16", name := "coderFromArrayLen", desc := "([BI)B" } : Jvm.MethodName) jdk_52_method_15_code (2 : Nat) (Option.some Jvm.ClassFile.FieldType.byte)).before args0 about1 = true := code_word (m := ⟨9, 1⟩) (meth := k9m1) (c := k9c1) (by decide +kernel) rfl rfl rfl (by decide +kernel)
set_option maxRecDepth 65536 in
theorem w_c8 : (Jvm.Cond.code ({ cls := "com/example/rexquill/rexquill/TableReader", name := "<init>", desc := "(Ljava/lang/String;)V" } : Jvm.MethodName) prog_68_method_1_code (2 : Nat) (Option.none : Option Jvm.ClassFile.FieldType)).before args0 about1 = true := code_word (m := ⟨2, 0⟩) (meth := k2m0) (c := k2c0) (by decide +kernel) rfl rfl rfl (by decide +kernel)
set_option maxRecDepth 65536 in
theorem w_c9 : (Jvm.Cond.code ({ cls := "java/lang/String", name := "getBytes", desc := "(Ljava/nio/charset/Charset;)[B" } : Jvm.MethodName) jdk_42_method_64_code (2 : Nat) (Option.some (Jvm.ClassFile.FieldType.array Jvm.ClassFile.FieldType.byte))).before args0 about1 = true := code_word (m := ⟨8, 5⟩) (meth := k8m5) (c := k8c5) (by decide +kernel) rfl rfl rfl (by decide +kernel)
set_option maxRecDepth 65536 in
theorem w_c10 : (Jvm.Cond.code ({ cls := "java/lang/String", name := "coder", desc := "()B" } : Jvm.MethodName) jdk_42_method_152_code (1 : Nat) (Option.some Jvm.ClassFile.FieldType.byte)).before args0 about1 = true := code_word (m := ⟨8, 7⟩) (meth := k8m7) (c := k8c7) (by decide +kernel) rfl rfl rfl (by decide +kernel)
set_option maxRecDepth 65536 in
theorem w_c11 : (Jvm.Cond.code ({ cls := "java/lang/String", name := "encode", desc := "(Ljava/nio/charset/Charset;B[B)[B" } : Jvm.MethodName) jdk_42_method_18_code (3 : Nat) (Option.some (Jvm.ClassFile.FieldType.array Jvm.ClassFile.FieldType.byte))).before args0 about1 = true := code_word (m := ⟨8, 2⟩) (meth := k8m2) (c := k8c2) (by decide +kernel) rfl rfl rfl (by decide +kernel)
set_option maxRecDepth 65536 in
theorem w_c12 : (Jvm.Cond.code ({ cls := "java/lang/String", name := "encode8859_1", desc := "(B[B)[B" } : Jvm.MethodName) jdk_42_method_26_code (2 : Nat) (Option.some (Jvm.ClassFile.FieldType.array Jvm.ClassFile.FieldType.byte))).before args0 about1 = true := code_word (m := ⟨8, 3⟩) (meth := k8m3) (c := k8c3) (by decide +kernel) rfl rfl rfl (by decide +kernel)
set_option maxRecDepth 65536 in
theorem w_c13 : (Jvm.Cond.code ({ cls := "java/lang/String", name := "encode8859_1", desc := "(B[BZ)[B" } : Jvm.MethodName) jdk_42_method_27_code (10 : Nat) (Option.some (Jvm.ClassFile.FieldType.array Jvm.ClassFile.FieldType.byte))).before args0 about1 = true := code_word (m := ⟨8, 4⟩) (meth := k8m4) (c := k8c4) (by decide +kernel) rfl rfl rfl (by decide +kernel)
set_option maxRecDepth 65536 in
theorem w_c14 : (Jvm.Cond.code ({ cls := "com/example/rexquill/rexquill/TableReader", name := "number", desc := "()I" } : Jvm.MethodName) prog_68_method_2_code (3 : Nat) (Option.some Jvm.ClassFile.FieldType.int)).before args0 about1 = true := code_word (m := ⟨2, 1⟩) (meth := k2m1) (c := k2c1) (by decide +kernel) rfl rfl rfl (by decide +kernel)
def codes1 : List Jvm.Cond := [Jvm.Cond.code x code maxLocals ret, Jvm.Cond.code ({ cls := "com/example/rexquill/rexquill/TableReaderNumberPinLaw", name := "ch", desc := "(IIIII)C" } : Jvm.MethodName) method_3_code (5 : Nat) (Option.some Jvm.ClassFile.FieldType.char), Jvm.Cond.code ({ cls := "java/lang/String", name := "<init>", desc := "([C)V" } : Jvm.MethodName) jdk_42_method_3_code (2 : Nat) (Option.none : Option Jvm.ClassFile.FieldType), Jvm.Cond.code ({ cls := "java/lang/String", name := "<init>", desc := "([CIILjava/lang/Void;)V" } : Jvm.MethodName) jdk_42_method_149_code (6 : Nat) (Option.none : Option Jvm.ClassFile.FieldType), Jvm.Cond.code ({ cls := "java/lang/Object", name := "<init>", desc := "()V" } : Jvm.MethodName) object_method_1_code (1 : Nat) (Option.none : Option Jvm.ClassFile.FieldType), Jvm.Cond.code ({ cls := "java/lang/StringUTF16", name := "compress", desc := "([CII)[B" } : Jvm.MethodName) jdk_52_method_16_code (6 : Nat) (Option.some (Jvm.ClassFile.FieldType.array Jvm.ClassFile.FieldType.byte)), Jvm.Cond.code ({ cls := "java/lang/StringUTF16", name := "compress", desc := "([CI[BII)I" } : Jvm.MethodName) jdk_52_method_21_code (7 : Nat) (Option.some Jvm.ClassFile.FieldType.int), Jvm.Cond.code ({ cls := "java/lang/StringUTF16", name := "coderFromArrayLen", desc := "([BI)B" } : Jvm.MethodName) jdk_52_method_15_code (2 : Nat) (Option.some Jvm.ClassFile.FieldType.byte), Jvm.Cond.code ({ cls := "com/example/rexquill/rexquill/TableReader", name := "<init>", desc := "(Ljava/lang/String;)V" } : Jvm.MethodName) prog_68_method_1_code (2 : Nat) (Option.none : Option Jvm.ClassFile.FieldType), Jvm.Cond.code ({ cls := "java/lang/String", name := "getBytes", desc := "(Ljava/nio/charset/Charset;)[B" } : Jvm.MethodName) jdk_42_method_64_code (2 : Nat) (Option.some (Jvm.ClassFile.FieldType.array Jvm.ClassFile.FieldType.byte)), Jvm.Cond.code ({ cls := "java/lang/String", name := "coder", desc := "()B" } : Jvm.MethodName) jdk_42_method_152_code (1 : Nat) (Option.some Jvm.ClassFile.FieldType.byte), Jvm.Cond.code ({ cls := "java/lang/String", name := "encode", desc := "(Ljava/nio/charset/Charset;B[B)[B" } : Jvm.MethodName) jdk_42_method_18_code (3 : Nat) (Option.some (Jvm.ClassFile.FieldType.array Jvm.ClassFile.FieldType.byte)), Jvm.Cond.code ({ cls := "java/lang/String", name := "encode8859_1", desc := "(B[B)[B" } : Jvm.MethodName) jdk_42_method_26_code (2 : Nat) (Option.some (Jvm.ClassFile.FieldType.array Jvm.ClassFile.FieldType.byte)), Jvm.Cond.code ({ cls := "java/lang/String", name := "encode8859_1", desc := "(B[BZ)[B" } : Jvm.MethodName) jdk_42_method_27_code (10 : Nat) (Option.some (Jvm.ClassFile.FieldType.array Jvm.ClassFile.FieldType.byte)), Jvm.Cond.code ({ cls := "com/example/rexquill/rexquill/TableReader", name := "number", desc := "()I" } : Jvm.MethodName) prog_68_method_2_code (3 : Nat) (Option.some Jvm.ClassFile.FieldType.int)]
set_option maxRecDepth 65536 in
theorem codes_eq : words1.filter isCode = codes1 := rfl
theorem w_codes : ∀ c ∈ words1.filter isCode, c.before args0 about1 = true := by
  rw [codes_eq]
  intro c hc
  simp only [codes1, List.mem_cons, List.not_mem_nil, or_false] at hc
  rcases hc with rfl | rfl | rfl | rfl | rfl | rfl | rfl | rfl | rfl | rfl | rfl | rfl | rfl | rfl | rfl
  · exact w_c0
  · exact w_c1
  · exact w_c2
  · exact w_c3
  · exact w_c4
  · exact w_c5
  · exact w_c6
  · exact w_c7
  · exact w_c8
  · exact w_c9
  · exact w_c10
  · exact w_c11
  · exact w_c12
  · exact w_c13
  · exact w_c14
set_option maxRecDepth 65536 in
theorem w_t1 : (words1.take 24).all (fun c => isCode c || c.before args0 about1) = true := by decide +kernel
set_option maxRecDepth 65536 in
theorem w_t2 : ((words1.drop 24).take 24).all (fun c => isCode c || c.before args0 about1) = true := by decide +kernel
set_option maxRecDepth 65536 in
theorem w_t3 : (((words1.drop 24).drop 24).take 24).all (fun c => isCode c || c.before args0 about1) = true := by decide +kernel
set_option maxRecDepth 65536 in
theorem w_t4 : (((words1.drop 24).drop 24).drop 24).all (fun c => isCode c || c.before args0 about1) = true := by decide +kernel
theorem w_tables : (allAtoms (Jvm.Cond.code x code maxLocals ret :: tables_1)).before args0 about1 = true := by
  rw [allAtoms_all]
  show words1.all (fun c => c.before args0 about1) = true
  refine all_split ?_ w_codes
  rw [← List.take_append_drop 24 words1, List.all_append, w_t1, ← List.take_append_drop 24 (words1.drop 24), List.all_append, w_t2, ← List.take_append_drop 24 ((words1.drop 24).drop 24), List.all_append, w_t3, w_t4]
  rfl
set_option maxRecDepth 65536 in
theorem w_rest : rest_1_c.before args0 about1 = true := by decide +kernel
set_option maxRecDepth 65536 in
theorem w_case : (Jvm.Cond.and given_1 narrow_1).before args0 about1 = true := by decide +kernel
theorem w_applies : (headSpec (Jvm.Cond.code x code maxLocals ret :: tables_1) room_1).applies x e0.platform about1 = true :=
  (Spec.applies_iff w_frames).mpr ⟨w_running, w_runnable, w_alone, w_named, w_hears, w_ripe, w_room, w_tables⟩
theorem atStart : AtStart classFile x code maxLocals ret World_1 tables_1 room_1 Calls_1 rest_1 Pre_1 launch0 p0 e0 about1 theMethod args0 below0 :=
  ⟨lists_1, trivial, launch0.admits_env _ _ _, launch0.least_env, fairChoices_fair.cas, fairChoices_fair.clock, w_frames, w_args, w_heap, w_applies, trivial, w_rest, w_case⟩
end start1
theorem witness_1 : WitnessClaimed_1 := ⟨start1.p0, start1.e0, start1.about1, start1.theMethod, start1.args0, start1.below0, start1.atStart⟩
end Jvm.Pilot.@@N@@
