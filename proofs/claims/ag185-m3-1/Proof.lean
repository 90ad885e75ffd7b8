import JvmDerived
import JvmDerived.Pilot.@@N@@Statement
import JvmDerived.Pilot.@@N@@Code
set_option linter.unusedVariables false
set_option linter.unusedSimpArgs false
namespace Jvm.Pilot.@@N@@
open Jvm Jvm.ClassFile Sem Op Lib Jvm.Free Jvm.Stand Jvm.LawKit Jvm.RoadKit Bundle Jvm.Pilot.@@N@@.Jvm.D
/-- one invocation: program, environment, the state at the invocation, method, arguments, the frames below, the method's record, its code -/
abbrev OG := Program × Env × State × MethodId × Array Value × List Frame × Method × Code
/-- the whole run: the launch, the heap's size at the law's start, the law's arguments -/
abbrev OW := Launch × Nat × Array Value
/-- one method: its bytes, its number of locals, its class, its name, what it returns, the room it asks -/
abbrev OM := ByteArray × Nat × String × String × Option FieldType × Room
/-- where a walk stands -/
def oSt (Z : State) (ω : OW) (γ : OG) (κ : OM) (T : State) (h : Heap) (cs ss : Nat) : Prop :=
  γ.1.tables.exec = Jvm.exec ∧ γ.2.2.2.2.2.2.2.code = κ.1 ∧ γ.2.2.2.2.2.2.2.maxLocals = κ.2.1 ∧ γ.2.2.1.vm.findClass κ.2.2.1 = some γ.2.2.2.1.cls ∧ γ.2.2.2.2.2.2.1.name = κ.2.2.2.1 ∧
  γ.2.2.2.2.2.2.1.sig.returnType = κ.2.2.2.2.1 ∧ γ.2.2.2.2.2.2.1.locks = false ∧ Z.Warmed39 γ.2.2.1.vm ∧ (∀ d ∈ tables_1, d.before ω.2.2 Z = true) ∧ ω.2.1 ≤ γ.2.2.1.heap.size ∧ T.heap = h ∧
  ∃ locs, Stand γ.1 ω.1 γ.2.1 κ.2.2.2.2.2 γ.2.2.1 γ.2.2.2.1 γ.2.2.2.2.1 γ.2.2.2.2.2.1 γ.2.2.2.2.2.2.1 γ.2.2.2.2.2.2.2 T locs cs ss ∧ Fr ω.2.1 locs
/-- from here the method returns, and Q holds of what it returns and of the heap it leaves -/
def oWP (ω : OW) (γ : OG) (κ : OM) (Q : Option Value → Heap → Prop) (T : State) (pc : Nat) (L : Array Slot) (S : List Value) : Prop :=
  ∃ s₂ o, Steps γ.1.tables γ.2.1 γ.2.2.2.2.2.1 (T.setTop (mkF γ.2.2.2.1 pc L S)) s₂ ∧ s₂.status = .running ∧ Ended s₂ γ.2.2.2.2.2.1 o ∧
    ∃ v Lc, o = .returned v ∧ (Fr ω.2.1 Lc ∧ Q v s₂.heap) ∧ FrameEnd γ.2.2.1 o s₂ Lc κ.2.2.2.2.2.cells κ.2.2.2.2.2.slots
/-- a method's contract -/
def oC (Z : State) (ω : OW) (y : MethodName) (κ : OM) (ws : List Jvm.Cond) (as : Array Value) (h : Heap) (Q : Option Value → Heap → Prop) : Prop :=
  MetFree ω.1 y (head1 (Jvm.Cond.code y κ.1 κ.2.1 κ.2.2.2.2.1 :: ws) κ.2.2.2.2.2) (fun a U => a = as ∧ Z.Warmed39 U.vm ∧ U.heap = h) (fun _ _ _ _ _ => True)
    (fun _ U o U' => ∃ v Lc, o = .returned v ∧ (Fr ω.2.1 Lc ∧ Q v U'.heap) ∧ FrameEnd U o U' Lc κ.2.2.2.2.2.cells κ.2.2.2.2.2.slots)
theorem oC_of {Z : State} {ω : OW} {y : MethodName} {κ : OM} {ws : List Jvm.Cond} {as : Array Value} {h : Heap} {Q : Option Value → Heap → Prop} {L : Array Slot} (hw : ∀ d ∈ tables_1, d.before ω.2.2 Z = true) (hn0 : ω.2.1 ≤ h.size)
    (hpn : plainFor y = true) (hcl : κ.2.2.1 = y.cls) (hnm : κ.2.2.2.1 = y.name) (hef : ∀ m, entryFrame m as κ.2.1 = mkF m 0 L []) (body : ∀ γ T, oSt Z ω γ κ T h 0 0 → oWP ω γ κ Q T 0 L []) : oC Z ω y κ ws as h Q := by
  refine MetFree.of_bodySF hpn hisR ?_
  intro p e s m args below meth c s₁ Bd hml0 hP hK
  obtain ⟨rfl, hZ, hh⟩ := hP
  have hown : s.vm.findClass y.cls = some m.cls := findClass_of_methodNamed Bd.named
  have hnm' := (name_of_methodNamed Bd.named Bd.method).1
  have X0 := Stand.of_body Bd
  have e0 : s₁.heap = h := by rw [← hh, Bd.state]; rfl
  have hlk : meth.locks = false := BodyLoose.notSynchronized Bd
  obtain ⟨s₂, o, h1, h2, h3, h4⟩ := body (p, e, s, m, args, below, meth, c) s₁ ⟨Bd.exec, Bd.bytes, hml0, by rw [hcl]; exact hown, by rw [hnm]; exact hnm', Bd.returns, hlk, hZ, hw, by rw [hh]; exact hn0, e0, [], X0, Fr.nil _⟩
  exact ⟨s₂, o, castTop (hef m) h1, h2, h3, h4⟩
section Walk
variable {Z : State} {ω : OW} {γ : OG} {κ : OM} {Q : Option Value → Heap → Prop} {T : State} {h : Heap} {cs ss : Nat} {pc : Nat} {L : Array Slot} {S : List Value}
theorem oSt_n0 (X : oSt Z ω γ κ T h cs ss) : ω.2.1 ≤ h.size := by
  obtain ⟨-, -, -, -, -, -, -, -, -, hn0, hT, locs, Y, -⟩ := X
  have q : γ.2.2.1.heap.size ≤ T.heap.size := Y.same.2.1
  rw [hT] at q
  exact Nat.le_trans hn0 q
theorem oSt_w (X : oSt Z ω γ κ T h cs ss) : ∀ d ∈ tables_1, d.before ω.2.2 Z = true := by
  obtain ⟨-, -, -, -, -, -, -, -, hw, -⟩ := X; exact hw
theorem oSt_at (X : oSt Z ω γ κ T h cs ss) (i : Nat) {d : Jvm.Cond} (hi : tables_1[i]? = some d) : d.before ω.2.2 Z = true := oSt_w X _ (List.mem_of_getElem? hi)
theorem ow_iload (X : oSt Z ω γ κ T h cs ss) (pc' : Nat) {k : Nat} {v : Int32} (hd : decode κ.1 pc = .ok (.iload k, 2)) (hp : pc + 2 = pc') (hl : L[k]? = some (.val (.int v)))
    (K : oWP ω γ κ Q T pc' L (.int v :: S)) : oWP ω γ κ Q T pc L (S) := by
  obtain ⟨hx, hby, -, -, -, -, -, -, -, -, -, locs, Y, -⟩ := X
  subst hp
  obtain ⟨s₂, o, hs, r⟩ := K
  exact ⟨s₂, o, XS.iload Y.here hx rfl (hb hby hd) hl hs, r⟩
theorem ow_iloadN (X : oSt Z ω γ κ T h cs ss) (pc' : Nat) {k : Fin 4} {v : Int32} (hd : decode κ.1 pc = .ok (.iload_n k, 1)) (hp : pc + 1 = pc') (hl : L[k.val]? = some (.val (.int v)))
    (K : oWP ω γ κ Q T pc' L (.int v :: S)) : oWP ω γ κ Q T pc L (S) := by
  obtain ⟨hx, hby, -, -, -, -, -, -, -, -, -, locs, Y, -⟩ := X
  subst hp
  obtain ⟨s₂, o, hs, r⟩ := K
  exact ⟨s₂, o, XS.iloadN Y.here hx rfl (hb hby hd) hl hs, r⟩
theorem ow_istore (X : oSt Z ω γ κ T h cs ss) (pc' : Nat) {k : Nat} {v : Int32} {L' : Array Slot} (hd : decode κ.1 pc = .ok (.istore k, 2)) (hp : pc + 2 = pc') (hl : storeLocals L k (.int v) = some L')
    (K : oWP ω γ κ Q T pc' L' (S)) : oWP ω γ κ Q T pc L (.int v :: S) := by
  obtain ⟨hx, hby, -, -, -, -, -, -, -, -, -, locs, Y, -⟩ := X
  subst hp
  obtain ⟨s₂, o, hs, r⟩ := K
  exact ⟨s₂, o, XS.istore Y.here hx rfl (hb hby hd) rfl hl hs, r⟩
theorem ow_istoreN (X : oSt Z ω γ κ T h cs ss) (pc' : Nat) {k : Fin 4} {v : Int32} {L' : Array Slot} (hd : decode κ.1 pc = .ok (.istore_n k, 1)) (hp : pc + 1 = pc') (hl : storeLocals L k.val (.int v) = some L')
    (K : oWP ω γ κ Q T pc' L' (S)) : oWP ω γ κ Q T pc L (.int v :: S) := by
  obtain ⟨hx, hby, -, -, -, -, -, -, -, -, -, locs, Y, -⟩ := X
  subst hp
  obtain ⟨s₂, o, hs, r⟩ := K
  exact ⟨s₂, o, XS.istoreN Y.here hx rfl (hb hby hd) rfl hl hs, r⟩
theorem ow_lload (X : oSt Z ω γ κ T h cs ss) (pc' : Nat) {k : Nat} {v : Int64} (hd : decode κ.1 pc = .ok (.lload k, 2)) (hp : pc + 2 = pc') (hl : L[k]? = some (.val (.long v)))
    (K : oWP ω γ κ Q T pc' L (.long v :: S)) : oWP ω γ κ Q T pc L (S) := by
  obtain ⟨hx, hby, -, -, -, -, -, -, -, -, -, locs, Y, -⟩ := X
  subst hp
  obtain ⟨s₂, o, hs, r⟩ := K
  exact ⟨s₂, o, XS.lload Y.here hx rfl (hb hby hd) hl hs, r⟩
theorem ow_lloadN (X : oSt Z ω γ κ T h cs ss) (pc' : Nat) {k : Fin 4} {v : Int64} (hd : decode κ.1 pc = .ok (.lload_n k, 1)) (hp : pc + 1 = pc') (hl : L[k.val]? = some (.val (.long v)))
    (K : oWP ω γ κ Q T pc' L (.long v :: S)) : oWP ω γ κ Q T pc L (S) := by
  obtain ⟨hx, hby, -, -, -, -, -, -, -, -, -, locs, Y, -⟩ := X
  subst hp
  obtain ⟨s₂, o, hs, r⟩ := K
  exact ⟨s₂, o, XS.lloadN Y.here hx rfl (hb hby hd) hl hs, r⟩
theorem ow_lstore (X : oSt Z ω γ κ T h cs ss) (pc' : Nat) {k : Nat} {v : Int64} {L' : Array Slot} (hd : decode κ.1 pc = .ok (.lstore k, 2)) (hp : pc + 2 = pc') (hl : storeLocals L k (.long v) = some L')
    (K : oWP ω γ κ Q T pc' L' (S)) : oWP ω γ κ Q T pc L (.long v :: S) := by
  obtain ⟨hx, hby, -, -, -, -, -, -, -, -, -, locs, Y, -⟩ := X
  subst hp
  obtain ⟨s₂, o, hs, r⟩ := K
  exact ⟨s₂, o, XS.lstore Y.here hx rfl (hb hby hd) rfl hl hs, r⟩
theorem ow_lstoreN (X : oSt Z ω γ κ T h cs ss) (pc' : Nat) {k : Fin 4} {v : Int64} {L' : Array Slot} (hd : decode κ.1 pc = .ok (.lstore_n k, 1)) (hp : pc + 1 = pc') (hl : storeLocals L k.val (.long v) = some L')
    (K : oWP ω γ κ Q T pc' L' (S)) : oWP ω γ κ Q T pc L (.long v :: S) := by
  obtain ⟨hx, hby, -, -, -, -, -, -, -, -, -, locs, Y, -⟩ := X
  subst hp
  obtain ⟨s₂, o, hs, r⟩ := K
  exact ⟨s₂, o, XS.lstoreN Y.here hx rfl (hb hby hd) rfl hl hs, r⟩
theorem ow_aload (X : oSt Z ω γ κ T h cs ss) (pc' : Nat) {k : Nat} {v : Value} (hd : decode κ.1 pc = .ok (.aload k, 2)) (hp : pc + 2 = pc') (hl : L[k]? = some (.val v)) (hv : v.isRef = true)
    (K : oWP ω γ κ Q T pc' L (v :: S)) : oWP ω γ κ Q T pc L (S) := by
  obtain ⟨hx, hby, -, -, -, -, -, -, -, -, -, locs, Y, -⟩ := X
  subst hp
  obtain ⟨s₂, o, hs, r⟩ := K
  exact ⟨s₂, o, XS.aload Y.here hx rfl (hb hby hd) hl hv hs, r⟩
theorem ow_aloadN (X : oSt Z ω γ κ T h cs ss) (pc' : Nat) {k : Fin 4} {v : Value} (hd : decode κ.1 pc = .ok (.aload_n k, 1)) (hp : pc + 1 = pc') (hl : L[k.val]? = some (.val v)) (hv : v.isRef = true)
    (K : oWP ω γ κ Q T pc' L (v :: S)) : oWP ω γ κ Q T pc L (S) := by
  obtain ⟨hx, hby, -, -, -, -, -, -, -, -, -, locs, Y, -⟩ := X
  subst hp
  obtain ⟨s₂, o, hs, r⟩ := K
  exact ⟨s₂, o, XS.aloadN Y.here hx rfl (hb hby hd) hl hv hs, r⟩
theorem ow_astore (X : oSt Z ω γ κ T h cs ss) (pc' : Nat) {k : Nat} {v : Value} {L' : Array Slot} (hd : decode κ.1 pc = .ok (.astore k, 2)) (hp : pc + 2 = pc') (hv : v.isRef = true) (hl : storeLocals L k v = some L')
    (K : oWP ω γ κ Q T pc' L' (S)) : oWP ω γ κ Q T pc L (v :: S) := by
  obtain ⟨hx, hby, -, -, -, -, -, -, -, -, -, locs, Y, -⟩ := X
  subst hp
  obtain ⟨s₂, o, hs, r⟩ := K
  exact ⟨s₂, o, XS.astore Y.here hx rfl (hb hby hd) rfl hv hl hs, r⟩
theorem ow_astoreN (X : oSt Z ω γ κ T h cs ss) (pc' : Nat) {k : Fin 4} {v : Value} {L' : Array Slot} (hd : decode κ.1 pc = .ok (.astore_n k, 1)) (hp : pc + 1 = pc') (hv : v.isRef = true) (hl : storeLocals L k.val v = some L')
    (K : oWP ω γ κ Q T pc' L' (S)) : oWP ω γ κ Q T pc L (v :: S) := by
  obtain ⟨hx, hby, -, -, -, -, -, -, -, -, -, locs, Y, -⟩ := X
  subst hp
  obtain ⟨s₂, o, hs, r⟩ := K
  exact ⟨s₂, o, XS.astoreN Y.here hx rfl (hb hby hd) rfl hv hl hs, r⟩
theorem ow_iconst (X : oSt Z ω γ κ T h cs ss) (pc' : Nat) {i : Int} (v : Int32) (hd : decode κ.1 pc = .ok (.iconst i, 1)) (hp : pc + 1 = pc') (hv : Int32.ofInt i = v)
    (K : oWP ω γ κ Q T pc' L (.int v :: S)) : oWP ω γ κ Q T pc L (S) := by
  obtain ⟨hx, hby, -, -, -, -, -, -, -, -, -, locs, Y, -⟩ := X
  subst hp
  obtain ⟨s₂, o, hs, r⟩ := K
  subst hv; exact ⟨s₂, o, XS.iconst Y.here hx rfl (hb hby hd) hs, r⟩
theorem ow_bipush (X : oSt Z ω γ κ T h cs ss) (pc' : Nat) {i : Int} (v : Int32) (hd : decode κ.1 pc = .ok (.bipush i, 2)) (hp : pc + 2 = pc') (hv : (Int8.ofInt i).toInt32 = v)
    (K : oWP ω γ κ Q T pc' L (.int v :: S)) : oWP ω γ κ Q T pc L (S) := by
  obtain ⟨hx, hby, -, -, -, -, -, -, -, -, -, locs, Y, -⟩ := X
  subst hp
  obtain ⟨s₂, o, hs, r⟩ := K
  subst hv; exact ⟨s₂, o, XS.bipush Y.here hx rfl (hb hby hd) hs, r⟩
theorem ow_sipush (X : oSt Z ω γ κ T h cs ss) (pc' : Nat) {i : Int} (v : Int32) (hd : decode κ.1 pc = .ok (.sipush i, 3)) (hp : pc + 3 = pc') (hv : (Int16.ofInt i).toInt32 = v)
    (K : oWP ω γ κ Q T pc' L (.int v :: S)) : oWP ω γ κ Q T pc L (S) := by
  obtain ⟨hx, hby, -, -, -, -, -, -, -, -, -, locs, Y, -⟩ := X
  subst hp
  obtain ⟨s₂, o, hs, r⟩ := K
  subst hv; exact ⟨s₂, o, XS.sipush Y.here hx rfl (hb hby hd) hs, r⟩
theorem ow_lconst (X : oSt Z ω γ κ T h cs ss) (pc' : Nat) {k : Fin 2} (v : Int64) (hd : decode κ.1 pc = .ok (.lconst k, 1)) (hp : pc + 1 = pc') (hv : Int64.ofNat k = v)
    (K : oWP ω γ κ Q T pc' L (.long v :: S)) : oWP ω γ κ Q T pc L (S) := by
  obtain ⟨hx, hby, -, -, -, -, -, -, -, -, -, locs, Y, -⟩ := X
  subst hp
  obtain ⟨s₂, o, hs, r⟩ := K
  subst hv; exact ⟨s₂, o, XS.lconst Y.here hx rfl (hb hby hd) hs, r⟩
theorem ow_anull (X : oSt Z ω γ κ T h cs ss) (pc' : Nat)  (hd : decode κ.1 pc = .ok (.aconst_null, 1)) (hp : pc + 1 = pc') 
    (K : oWP ω γ κ Q T pc' L (.null :: S)) : oWP ω γ κ Q T pc L (S) := by
  obtain ⟨hx, hby, -, -, -, -, -, -, -, -, -, locs, Y, -⟩ := X
  subst hp
  obtain ⟨s₂, o, hs, r⟩ := K
  exact ⟨s₂, o, XS.aconstNull Y.here hx rfl (hb hby hd) hs, r⟩
theorem ow_iinc (X : oSt Z ω γ κ T h cs ss) (pc' : Nat) {k : Nat} {i : Int} {x : Int32} {L' : Array Slot} (v : Int32) (hd : decode κ.1 pc = .ok (.iinc k i, 3)) (hp : pc + 3 = pc') (hv : Int32.ofInt i = v) (hl : L[k]? = some (.val (.int x))) (hl' : storeLocals L k (.int (x + v)) = some L')
    (K : oWP ω γ κ Q T pc' L' (S)) : oWP ω γ κ Q T pc L (S) := by
  obtain ⟨hx, hby, -, -, -, -, -, -, -, -, -, locs, Y, -⟩ := X
  subst hp
  obtain ⟨s₂, o, hs, r⟩ := K
  subst hv; exact ⟨s₂, o, XS.iinc Y.here hx rfl (hb hby hd) hl hl' hs, r⟩
theorem ow_iadd (X : oSt Z ω γ κ T h cs ss) (pc' : Nat) {x y : Int32} (hd : decode κ.1 pc = .ok (.iadd, 1)) (hp : pc + 1 = pc') 
    (K : oWP ω γ κ Q T pc' L (.int (x + y) :: S)) : oWP ω γ κ Q T pc L (.int y :: .int x :: S) := by
  obtain ⟨hx, hby, -, -, -, -, -, -, -, -, -, locs, Y, -⟩ := X
  subst hp
  obtain ⟨s₂, o, hs, r⟩ := K
  exact ⟨s₂, o, XS.iadd Y.here hx rfl (hb hby hd) rfl hs, r⟩
theorem ow_isub (X : oSt Z ω γ κ T h cs ss) (pc' : Nat) {x y : Int32} (hd : decode κ.1 pc = .ok (.isub, 1)) (hp : pc + 1 = pc') 
    (K : oWP ω γ κ Q T pc' L (.int (x - y) :: S)) : oWP ω γ κ Q T pc L (.int y :: .int x :: S) := by
  obtain ⟨hx, hby, -, -, -, -, -, -, -, -, -, locs, Y, -⟩ := X
  subst hp
  obtain ⟨s₂, o, hs, r⟩ := K
  exact ⟨s₂, o, XS.isub Y.here hx rfl (hb hby hd) rfl hs, r⟩
theorem ow_imul (X : oSt Z ω γ κ T h cs ss) (pc' : Nat) {x y : Int32} (hd : decode κ.1 pc = .ok (.imul, 1)) (hp : pc + 1 = pc') 
    (K : oWP ω γ κ Q T pc' L (.int (x * y) :: S)) : oWP ω γ κ Q T pc L (.int y :: .int x :: S) := by
  obtain ⟨hx, hby, -, -, -, -, -, -, -, -, -, locs, Y, -⟩ := X
  subst hp
  obtain ⟨s₂, o, hs, r⟩ := K
  exact ⟨s₂, o, XS.imul Y.here hx rfl (hb hby hd) rfl hs, r⟩
theorem ow_iand (X : oSt Z ω γ κ T h cs ss) (pc' : Nat) {x y : Int32} (hd : decode κ.1 pc = .ok (.iand, 1)) (hp : pc + 1 = pc') 
    (K : oWP ω γ κ Q T pc' L (.int (x &&& y) :: S)) : oWP ω γ κ Q T pc L (.int y :: .int x :: S) := by
  obtain ⟨hx, hby, -, -, -, -, -, -, -, -, -, locs, Y, -⟩ := X
  subst hp
  obtain ⟨s₂, o, hs, r⟩ := K
  exact ⟨s₂, o, XS.iand Y.here hx rfl (hb hby hd) rfl hs, r⟩
theorem ow_ior (X : oSt Z ω γ κ T h cs ss) (pc' : Nat) {x y : Int32} (hd : decode κ.1 pc = .ok (.ior, 1)) (hp : pc + 1 = pc') 
    (K : oWP ω γ κ Q T pc' L (.int (x ||| y) :: S)) : oWP ω γ κ Q T pc L (.int y :: .int x :: S) := by
  obtain ⟨hx, hby, -, -, -, -, -, -, -, -, -, locs, Y, -⟩ := X
  subst hp
  obtain ⟨s₂, o, hs, r⟩ := K
  exact ⟨s₂, o, XS.ior Y.here hx rfl (hb hby hd) rfl hs, r⟩
theorem ow_ixor (X : oSt Z ω γ κ T h cs ss) (pc' : Nat) {x y : Int32} (hd : decode κ.1 pc = .ok (.ixor, 1)) (hp : pc + 1 = pc') 
    (K : oWP ω γ κ Q T pc' L (.int (x ^^^ y) :: S)) : oWP ω γ κ Q T pc L (.int y :: .int x :: S) := by
  obtain ⟨hx, hby, -, -, -, -, -, -, -, -, -, locs, Y, -⟩ := X
  subst hp
  obtain ⟨s₂, o, hs, r⟩ := K
  exact ⟨s₂, o, XS.ixor Y.here hx rfl (hb hby hd) rfl hs, r⟩
theorem ow_ishl (X : oSt Z ω γ κ T h cs ss) (pc' : Nat) {x y : Int32} (hd : decode κ.1 pc = .ok (.ishl, 1)) (hp : pc + 1 = pc') 
    (K : oWP ω γ κ Q T pc' L (.int (x <<< (y &&& 31)) :: S)) : oWP ω γ κ Q T pc L (.int y :: .int x :: S) := by
  obtain ⟨hx, hby, -, -, -, -, -, -, -, -, -, locs, Y, -⟩ := X
  subst hp
  obtain ⟨s₂, o, hs, r⟩ := K
  exact ⟨s₂, o, XS.ishl Y.here hx rfl (hb hby hd) rfl hs, r⟩
theorem ow_ishr (X : oSt Z ω γ κ T h cs ss) (pc' : Nat) {x y : Int32} (hd : decode κ.1 pc = .ok (.ishr, 1)) (hp : pc + 1 = pc') 
    (K : oWP ω γ κ Q T pc' L (.int (x >>> (y &&& 31)) :: S)) : oWP ω γ κ Q T pc L (.int y :: .int x :: S) := by
  obtain ⟨hx, hby, -, -, -, -, -, -, -, -, -, locs, Y, -⟩ := X
  subst hp
  obtain ⟨s₂, o, hs, r⟩ := K
  exact ⟨s₂, o, XS.ishr Y.here hx rfl (hb hby hd) rfl hs, r⟩
theorem ow_iushr (X : oSt Z ω γ κ T h cs ss) (pc' : Nat) {x y : Int32} (hd : decode κ.1 pc = .ok (.iushr, 1)) (hp : pc + 1 = pc') 
    (K : oWP ω γ κ Q T pc' L (.int ((x.toUInt32 >>> (y &&& 31).toUInt32).toInt32) :: S)) : oWP ω γ κ Q T pc L (.int y :: .int x :: S) := by
  obtain ⟨hx, hby, -, -, -, -, -, -, -, -, -, locs, Y, -⟩ := X
  subst hp
  obtain ⟨s₂, o, hs, r⟩ := K
  exact ⟨s₂, o, XS.iushr Y.here hx rfl (hb hby hd) rfl hs, r⟩
theorem ow_ineg (X : oSt Z ω γ κ T h cs ss) (pc' : Nat) {x : Int32} (hd : decode κ.1 pc = .ok (.ineg, 1)) (hp : pc + 1 = pc') 
    (K : oWP ω γ κ Q T pc' L (.int (-x) :: S)) : oWP ω γ κ Q T pc L (.int x :: S) := by
  obtain ⟨hx, hby, -, -, -, -, -, -, -, -, -, locs, Y, -⟩ := X
  subst hp
  obtain ⟨s₂, o, hs, r⟩ := K
  exact ⟨s₂, o, XS.ineg Y.here hx rfl (hb hby hd) rfl hs, r⟩
theorem ow_idiv (X : oSt Z ω γ κ T h cs ss) (pc' : Nat) {x y : Int32} (hd : decode κ.1 pc = .ok (.idiv, 1)) (hp : pc + 1 = pc') (hy : y ≠ 0)
    (K : oWP ω γ κ Q T pc' L (.int (x / y) :: S)) : oWP ω γ κ Q T pc L (.int y :: .int x :: S) := by
  obtain ⟨hx, hby, -, -, -, -, -, -, -, -, -, locs, Y, -⟩ := X
  subst hp
  obtain ⟨s₂, o, hs, r⟩ := K
  exact ⟨s₂, o, XS.idiv Y.here hx rfl (hb hby hd) rfl hy hs, r⟩
theorem ow_irem (X : oSt Z ω γ κ T h cs ss) (pc' : Nat) {x y : Int32} (hd : decode κ.1 pc = .ok (.irem, 1)) (hp : pc + 1 = pc') (hy : y ≠ 0)
    (K : oWP ω γ κ Q T pc' L (.int (x % y) :: S)) : oWP ω γ κ Q T pc L (.int y :: .int x :: S) := by
  obtain ⟨hx, hby, -, -, -, -, -, -, -, -, -, locs, Y, -⟩ := X
  subst hp
  obtain ⟨s₂, o, hs, r⟩ := K
  exact ⟨s₂, o, iremM Y hx rfl (hb hby hd) rfl hy hs, r⟩
theorem ow_ladd (X : oSt Z ω γ κ T h cs ss) (pc' : Nat) {x y : Int64} (hd : decode κ.1 pc = .ok (.ladd, 1)) (hp : pc + 1 = pc') 
    (K : oWP ω γ κ Q T pc' L (.long (x + y) :: S)) : oWP ω γ κ Q T pc L (.long y :: .long x :: S) := by
  obtain ⟨hx, hby, -, -, -, -, -, -, -, -, -, locs, Y, -⟩ := X
  subst hp
  obtain ⟨s₂, o, hs, r⟩ := K
  exact ⟨s₂, o, XS.ladd Y.here hx rfl (hb hby hd) rfl hs, r⟩
theorem ow_lsub (X : oSt Z ω γ κ T h cs ss) (pc' : Nat) {x y : Int64} (hd : decode κ.1 pc = .ok (.lsub, 1)) (hp : pc + 1 = pc') 
    (K : oWP ω γ κ Q T pc' L (.long (x - y) :: S)) : oWP ω γ κ Q T pc L (.long y :: .long x :: S) := by
  obtain ⟨hx, hby, -, -, -, -, -, -, -, -, -, locs, Y, -⟩ := X
  subst hp
  obtain ⟨s₂, o, hs, r⟩ := K
  exact ⟨s₂, o, XS.lsub Y.here hx rfl (hb hby hd) rfl hs, r⟩
theorem ow_lmul (X : oSt Z ω γ κ T h cs ss) (pc' : Nat) {x y : Int64} (hd : decode κ.1 pc = .ok (.lmul, 1)) (hp : pc + 1 = pc') 
    (K : oWP ω γ κ Q T pc' L (.long (x * y) :: S)) : oWP ω γ κ Q T pc L (.long y :: .long x :: S) := by
  obtain ⟨hx, hby, -, -, -, -, -, -, -, -, -, locs, Y, -⟩ := X
  subst hp
  obtain ⟨s₂, o, hs, r⟩ := K
  exact ⟨s₂, o, XS.lmul Y.here hx rfl (hb hby hd) rfl hs, r⟩
theorem ow_land (X : oSt Z ω γ κ T h cs ss) (pc' : Nat) {x y : Int64} (hd : decode κ.1 pc = .ok (.land, 1)) (hp : pc + 1 = pc') 
    (K : oWP ω γ κ Q T pc' L (.long (x &&& y) :: S)) : oWP ω γ κ Q T pc L (.long y :: .long x :: S) := by
  obtain ⟨hx, hby, -, -, -, -, -, -, -, -, -, locs, Y, -⟩ := X
  subst hp
  obtain ⟨s₂, o, hs, r⟩ := K
  exact ⟨s₂, o, XS.land Y.here hx rfl (hb hby hd) rfl hs, r⟩
theorem ow_lor (X : oSt Z ω γ κ T h cs ss) (pc' : Nat) {x y : Int64} (hd : decode κ.1 pc = .ok (.lor, 1)) (hp : pc + 1 = pc') 
    (K : oWP ω γ κ Q T pc' L (.long (x ||| y) :: S)) : oWP ω γ κ Q T pc L (.long y :: .long x :: S) := by
  obtain ⟨hx, hby, -, -, -, -, -, -, -, -, -, locs, Y, -⟩ := X
  subst hp
  obtain ⟨s₂, o, hs, r⟩ := K
  exact ⟨s₂, o, XS.lor Y.here hx rfl (hb hby hd) rfl hs, r⟩
theorem ow_lxor (X : oSt Z ω γ κ T h cs ss) (pc' : Nat) {x y : Int64} (hd : decode κ.1 pc = .ok (.lxor, 1)) (hp : pc + 1 = pc') 
    (K : oWP ω γ κ Q T pc' L (.long (x ^^^ y) :: S)) : oWP ω γ κ Q T pc L (.long y :: .long x :: S) := by
  obtain ⟨hx, hby, -, -, -, -, -, -, -, -, -, locs, Y, -⟩ := X
  subst hp
  obtain ⟨s₂, o, hs, r⟩ := K
  exact ⟨s₂, o, XS.lxor Y.here hx rfl (hb hby hd) rfl hs, r⟩
theorem ow_lshl (X : oSt Z ω γ κ T h cs ss) (pc' : Nat) {x : Int64} {y : Int32} (hd : decode κ.1 pc = .ok (.lshl, 1)) (hp : pc + 1 = pc') 
    (K : oWP ω γ κ Q T pc' L (.long (x <<< (y &&& 0x3f).toInt64) :: S)) : oWP ω γ κ Q T pc L (.int y :: .long x :: S) := by
  obtain ⟨hx, hby, -, -, -, -, -, -, -, -, -, locs, Y, -⟩ := X
  subst hp
  obtain ⟨s₂, o, hs, r⟩ := K
  exact ⟨s₂, o, XS.lshl Y.here hx rfl (hb hby hd) rfl hs, r⟩
theorem ow_lshr (X : oSt Z ω γ κ T h cs ss) (pc' : Nat) {x : Int64} {y : Int32} (hd : decode κ.1 pc = .ok (.lshr, 1)) (hp : pc + 1 = pc') 
    (K : oWP ω γ κ Q T pc' L (.long (x >>> (y &&& 0x3f).toInt64) :: S)) : oWP ω γ κ Q T pc L (.int y :: .long x :: S) := by
  obtain ⟨hx, hby, -, -, -, -, -, -, -, -, -, locs, Y, -⟩ := X
  subst hp
  obtain ⟨s₂, o, hs, r⟩ := K
  exact ⟨s₂, o, XS.lshr Y.here hx rfl (hb hby hd) rfl hs, r⟩
theorem ow_lushr (X : oSt Z ω γ κ T h cs ss) (pc' : Nat) {x : Int64} {y : Int32} (hd : decode κ.1 pc = .ok (.lushr, 1)) (hp : pc + 1 = pc') 
    (K : oWP ω γ κ Q T pc' L (.long ((x.toUInt64 >>> (y &&& 0x3f).toInt64.toUInt64).toInt64) :: S)) : oWP ω γ κ Q T pc L (.int y :: .long x :: S) := by
  obtain ⟨hx, hby, -, -, -, -, -, -, -, -, -, locs, Y, -⟩ := X
  subst hp
  obtain ⟨s₂, o, hs, r⟩ := K
  exact ⟨s₂, o, XS.lushr Y.here hx rfl (hb hby hd) rfl hs, r⟩
theorem ow_ldiv (X : oSt Z ω γ κ T h cs ss) (pc' : Nat) {x y : Int64} (hd : decode κ.1 pc = .ok (.ldiv, 1)) (hp : pc + 1 = pc') (hy : y ≠ 0)
    (K : oWP ω γ κ Q T pc' L (.long (x / y) :: S)) : oWP ω γ κ Q T pc L (.long y :: .long x :: S) := by
  obtain ⟨hx, hby, -, -, -, -, -, -, -, -, -, locs, Y, -⟩ := X
  subst hp
  obtain ⟨s₂, o, hs, r⟩ := K
  exact ⟨s₂, o, XS.ldiv Y.here hx rfl (hb hby hd) rfl hy hs, r⟩
theorem ow_lrem (X : oSt Z ω γ κ T h cs ss) (pc' : Nat) {x y : Int64} (hd : decode κ.1 pc = .ok (.lrem, 1)) (hp : pc + 1 = pc') (hy : y ≠ 0)
    (K : oWP ω γ κ Q T pc' L (.long (x % y) :: S)) : oWP ω γ κ Q T pc L (.long y :: .long x :: S) := by
  obtain ⟨hx, hby, -, -, -, -, -, -, -, -, -, locs, Y, -⟩ := X
  subst hp
  obtain ⟨s₂, o, hs, r⟩ := K
  rw [← lrem_mod] at hs; exact ⟨s₂, o, XS.lrem Y.here hx rfl (hb hby hd) rfl hy hs, r⟩
theorem ow_i2l (X : oSt Z ω γ κ T h cs ss) (pc' : Nat) {x : Int32} (hd : decode κ.1 pc = .ok (.i2l, 1)) (hp : pc + 1 = pc') 
    (K : oWP ω γ κ Q T pc' L (.long x.toInt64 :: S)) : oWP ω γ κ Q T pc L (.int x :: S) := by
  obtain ⟨hx, hby, -, -, -, -, -, -, -, -, -, locs, Y, -⟩ := X
  subst hp
  obtain ⟨s₂, o, hs, r⟩ := K
  exact ⟨s₂, o, XS.i2l Y.here hx rfl (hb hby hd) rfl hs, r⟩
theorem ow_l2i (X : oSt Z ω γ κ T h cs ss) (pc' : Nat) {x : Int64} (hd : decode κ.1 pc = .ok (.l2i, 1)) (hp : pc + 1 = pc') 
    (K : oWP ω γ κ Q T pc' L (.int x.toInt32 :: S)) : oWP ω γ κ Q T pc L (.long x :: S) := by
  obtain ⟨hx, hby, -, -, -, -, -, -, -, -, -, locs, Y, -⟩ := X
  subst hp
  obtain ⟨s₂, o, hs, r⟩ := K
  exact ⟨s₂, o, XS.l2i Y.here hx rfl (hb hby hd) rfl hs, r⟩
theorem ow_i2b (X : oSt Z ω γ κ T h cs ss) (pc' : Nat) {x : Int32} (hd : decode κ.1 pc = .ok (.i2b, 1)) (hp : pc + 1 = pc') 
    (K : oWP ω γ κ Q T pc' L (.int x.toInt8.toInt32 :: S)) : oWP ω γ κ Q T pc L (.int x :: S) := by
  obtain ⟨hx, hby, -, -, -, -, -, -, -, -, -, locs, Y, -⟩ := X
  subst hp
  obtain ⟨s₂, o, hs, r⟩ := K
  exact ⟨s₂, o, XS.i2b Y.here hx rfl (hb hby hd) rfl hs, r⟩
theorem ow_i2c (X : oSt Z ω γ κ T h cs ss) (pc' : Nat) {x : Int32} (hd : decode κ.1 pc = .ok (.i2c, 1)) (hp : pc + 1 = pc') 
    (K : oWP ω γ κ Q T pc' L (.int x.toUInt32.toUInt16.toUInt32.toInt32 :: S)) : oWP ω γ κ Q T pc L (.int x :: S) := by
  obtain ⟨hx, hby, -, -, -, -, -, -, -, -, -, locs, Y, -⟩ := X
  subst hp
  obtain ⟨s₂, o, hs, r⟩ := K
  exact ⟨s₂, o, XS.i2c Y.here hx rfl (hb hby hd) rfl hs, r⟩
theorem ow_i2s (X : oSt Z ω γ κ T h cs ss) (pc' : Nat) {x : Int32} (hd : decode κ.1 pc = .ok (.i2s, 1)) (hp : pc + 1 = pc') 
    (K : oWP ω γ κ Q T pc' L (.int x.toInt16.toInt32 :: S)) : oWP ω γ κ Q T pc L (.int x :: S) := by
  obtain ⟨hx, hby, -, -, -, -, -, -, -, -, -, locs, Y, -⟩ := X
  subst hp
  obtain ⟨s₂, o, hs, r⟩ := K
  exact ⟨s₂, o, XS.i2s Y.here hx rfl (hb hby hd) rfl hs, r⟩
theorem ow_dup (X : oSt Z ω γ κ T h cs ss) (pc' : Nat) {x : Value} (hd : decode κ.1 pc = .ok (.dup, 1)) (hp : pc + 1 = pc') (hc : x.category = 1)
    (K : oWP ω γ κ Q T pc' L (x :: x :: S)) : oWP ω γ κ Q T pc L (x :: S) := by
  obtain ⟨hx, hby, -, -, -, -, -, -, -, -, -, locs, Y, -⟩ := X
  subst hp
  obtain ⟨s₂, o, hs, r⟩ := K
  exact ⟨s₂, o, XS.dup Y.here hx rfl (hb hby hd) rfl hc hs, r⟩
theorem ow_pop (X : oSt Z ω γ κ T h cs ss) (pc' : Nat) {x : Value} (hd : decode κ.1 pc = .ok (.pop, 1)) (hp : pc + 1 = pc') (hc : x.category = 1)
    (K : oWP ω γ κ Q T pc' L (S)) : oWP ω γ κ Q T pc L (x :: S) := by
  obtain ⟨hx, hby, -, -, -, -, -, -, -, -, -, locs, Y, -⟩ := X
  subst hp
  obtain ⟨s₂, o, hs, r⟩ := K
  exact ⟨s₂, o, XS.pop Y.here hx rfl (hb hby hd) rfl hc hs, r⟩
theorem ow_dupX1 (X : oSt Z ω γ κ T h cs ss) (pc' : Nat) {x y : Value} (hd : decode κ.1 pc = .ok (.dup_x1, 1)) (hp : pc + 1 = pc') (hc : x.category = 1) (hc' : y.category = 1)
    (K : oWP ω γ κ Q T pc' L (x :: y :: x :: S)) : oWP ω γ κ Q T pc L (x :: y :: S) := by
  obtain ⟨hx, hby, -, -, -, -, -, -, -, -, -, locs, Y, -⟩ := X
  subst hp
  obtain ⟨s₂, o, hs, r⟩ := K
  exact ⟨s₂, o, XS.dupX1 Y.here hx rfl (hb hby hd) rfl hc hc' hs, r⟩
theorem ow_dup2 (X : oSt Z ω γ κ T h cs ss) (pc' : Nat) {x y : Value} (hd : decode κ.1 pc = .ok (.dup2, 1)) (hp : pc + 1 = pc') (hc : x.category = 1) (hc' : y.category = 1)
    (K : oWP ω γ κ Q T pc' L (x :: y :: x :: y :: S)) : oWP ω γ κ Q T pc L (x :: y :: S) := by
  obtain ⟨hx, hby, -, -, -, -, -, -, -, -, -, locs, Y, -⟩ := X
  subst hp
  obtain ⟨s₂, o, hs, r⟩ := K
  exact ⟨s₂, o, XT.dup2 Y.here hx rfl (hb hby hd) rfl hc hc' hs, r⟩
theorem oXpop2L {tb : Tables} [Ours tb] {e : Env} {below : List Frame} {T target : State} {m : MethodId} {c : Code} {g : JFrame} (h : At T m c below) (hx : tb.exec = Jvm.exec) (hg : g.method = m) {x : Int64} {rest : List Value} (hd : decode c.code g.pc = .ok (.pop2, 1)) (hs : g.stack = .long x :: rest)
    (hr : Steps tb e below (T.setTop { g with pc := g.pc + 1, stack := rest }) target) : Steps tb e below (T.setTop g) target := by
  subst hg
  jvm_step h [h.top, hx, hd, hs, Value.category]
  exact hr
theorem ow_pop2L (X : oSt Z ω γ κ T h cs ss) (pc' : Nat) {x : Int64} (hd : decode κ.1 pc = .ok (.pop2, 1)) (hp : pc + 1 = pc') 
    (K : oWP ω γ κ Q T pc' L (S)) : oWP ω γ κ Q T pc L (.long x :: S) := by
  obtain ⟨hx, hby, -, -, -, -, -, -, -, -, -, locs, Y, -⟩ := X
  subst hp
  obtain ⟨s₂, o, hs, r⟩ := K
  exact ⟨s₂, o, oXpop2L Y.here hx rfl (hb hby hd) rfl hs, r⟩
theorem ow_ldcI (X : oSt Z ω γ κ T h cs ss) (pc' i : Nat) {own : String} {idx : Nat} {v : Int32} (hw : tables_1[i]? = some (.constant own idx v)) (ho : κ.2.2.1 = own) (hd : decode κ.1 pc = .ok (.ldc idx, 2)) (hp : pc + 2 = pc')
    (K : oWP ω γ κ Q T pc' L (.int v :: S)) : oWP ω γ κ Q T pc L S := by
  have hw' := oSt_at X i hw
  obtain ⟨hx, hby, -, hown, -, -, -, hZ, -, -, -, locs, Y, -⟩ := X
  subst hp ho
  obtain ⟨s₂, o, hs, r⟩ := K
  exact ⟨s₂, o, Stand.ldcI Y hx hown (mv hZ hw') rfl (hb hby hd) hs, r⟩
theorem ow_ldcWI (X : oSt Z ω γ κ T h cs ss) (pc' i : Nat) {own : String} {idx : Nat} {v : Int32} (hw : tables_1[i]? = some (.constant own idx v)) (ho : κ.2.2.1 = own) (hd : decode κ.1 pc = .ok (.ldc_w idx, 3)) (hp : pc + 3 = pc')
    (K : oWP ω γ κ Q T pc' L (.int v :: S)) : oWP ω γ κ Q T pc L S := by
  have hw' := oSt_at X i hw
  obtain ⟨hx, hby, -, hown, -, -, -, hZ, -, -, -, locs, Y, -⟩ := X
  subst hp ho
  obtain ⟨s₂, o, hs, r⟩ := K
  exact ⟨s₂, o, Stand.ldcWI Y hx hown (mv hZ hw') rfl (hb hby hd) hs, r⟩
theorem ow_ldc2J (X : oSt Z ω γ κ T h cs ss) (pc' i : Nat) {own : String} {idx : Nat} {v : Int64} (hw : tables_1[i]? = some (.constantLong own idx v)) (ho : κ.2.2.1 = own) (hd : decode κ.1 pc = .ok (.ldc2_w idx, 3)) (hp : pc + 3 = pc')
    (K : oWP ω γ κ Q T pc' L (.long v :: S)) : oWP ω γ κ Q T pc L S := by
  have hw' := oSt_at X i hw
  obtain ⟨hx, hby, -, hown, -, -, -, hZ, -, -, -, locs, Y, -⟩ := X
  subst hp ho
  obtain ⟨s₂, o, hs, r⟩ := K
  exact ⟨s₂, o, Stand.ldc2J Y hx hown (mv hZ hw') rfl (hb hby hd) hs, r⟩
theorem ow_goto (X : oSt Z ω γ κ T h cs ss) (pc' : Nat) {o : Int} (hd : decode κ.1 pc = .ok (.goto o, 3)) (hp : (pc : Int) + o = (pc' : Int))
    (K : oWP ω γ κ Q T pc' L S) : oWP ω γ κ Q T pc L S := by
  obtain ⟨hx, hby, -, -, -, -, -, -, -, -, -, locs, Y, -⟩ := X
  obtain ⟨s₂, o, hs, r⟩ := K
  exact ⟨s₂, o, XS.goto Y.here hx rfl (pc0 := pc) rfl (hb hby hd) (by omega) (by omega) hs, r⟩
theorem ow_if (X : oSt Z ω γ κ T h cs ss) (pc' pq : Nat) {cd : ClassFile.Cond} {x : Int32} {o : Int} (hd : decode κ.1 pc = .ok (.ifCond cd o, 3)) (hp : pc + 3 = pc') (hq : (pc : Int) + o = (pq : Int))
    (Ky : ifCond.holds cd x = true → oWP ω γ κ Q T pq L S) (Kn : ifCond.holds cd x = false → oWP ω γ κ Q T pc' L S) : oWP ω γ κ Q T pc L (.int x :: S) := by
  obtain ⟨hx, hby, -, -, -, -, -, -, -, -, -, locs, Y, -⟩ := X
  subst hp
  cases hc : ifCond.holds cd x
  · obtain ⟨s₂, o, hs, r⟩ := Kn hc
    exact ⟨s₂, o, XS.ifNo Y.here hx rfl (hb hby hd) rfl hc hs, r⟩
  · obtain ⟨s₂, o, hs, r⟩ := Ky hc
    exact ⟨s₂, o, XS.ifYes Y.here hx rfl (pc0 := pc) rfl (hb hby hd) rfl hc (by omega) (by omega) hs, r⟩
theorem ow_icmp (X : oSt Z ω γ κ T h cs ss) (pc' pq : Nat) {cd : ClassFile.Cond} {x y : Int32} {o : Int} (hd : decode κ.1 pc = .ok (.if_icmp cd o, 3)) (hp : pc + 3 = pc') (hq : (pc : Int) + o = (pq : Int))
    (Ky : if_icmp.holds cd x y = true → oWP ω γ κ Q T pq L S) (Kn : if_icmp.holds cd x y = false → oWP ω γ κ Q T pc' L S) : oWP ω γ κ Q T pc L (.int y :: .int x :: S) := by
  obtain ⟨hx, hby, -, -, -, -, -, -, -, -, -, locs, Y, -⟩ := X
  subst hp
  cases hc : if_icmp.holds cd x y
  · obtain ⟨s₂, o, hs, r⟩ := Kn hc
    exact ⟨s₂, o, XS.icmpNo Y.here hx rfl (hb hby hd) rfl hc hs, r⟩
  · obtain ⟨s₂, o, hs, r⟩ := Ky hc
    exact ⟨s₂, o, XS.icmpYes Y.here hx rfl (pc0 := pc) rfl (hb hby hd) rfl hc (by omega) (by omega) hs, r⟩
theorem o0 : (0 : Int32).toInt = 0 := rfl
theorem ow_if_eq (X : oSt Z ω γ κ T h cs ss) (pc' pq : Nat) {x : Int32} {o : Int} (hd : decode κ.1 pc = .ok (.ifCond .eq o, 3)) (hp : pc + 3 = pc') (hq : (pc : Int) + o = (pq : Int))
    (Ky : x.toInt = 0 → oWP ω γ κ Q T pq L S) (Kn : x.toInt ≠ 0 → oWP ω γ κ Q T pc' L S) : oWP ω γ κ Q T pc L (.int x :: S) :=
  ow_if X pc' pq hd hp hq (fun q => Ky (by simp only [ifCond.holds, decide_eq_true_eq, decide_eq_false_iff_not, beq_iff_eq, bne_iff_ne, ne_eq, Int32.lt_iff_toInt_lt, Int32.le_iff_toInt_le, ← Int32.toInt_inj, o0, GT.gt, GE.ge, beq_eq_false_iff_ne, bne_eq_false_iff_eq, Decidable.not_not] at q; omega)) (fun q => Kn (by simp only [ifCond.holds, decide_eq_true_eq, decide_eq_false_iff_not, beq_iff_eq, bne_iff_ne, ne_eq, Int32.lt_iff_toInt_lt, Int32.le_iff_toInt_le, ← Int32.toInt_inj, o0, GT.gt, GE.ge, beq_eq_false_iff_ne, bne_eq_false_iff_eq, Decidable.not_not] at q; omega))
theorem ow_icmp_eq (X : oSt Z ω γ κ T h cs ss) (pc' pq : Nat) {x y : Int32} {o : Int} (hd : decode κ.1 pc = .ok (.if_icmp .eq o, 3)) (hp : pc + 3 = pc') (hq : (pc : Int) + o = (pq : Int))
    (Ky : x.toInt = y.toInt → oWP ω γ κ Q T pq L S) (Kn : x.toInt ≠ y.toInt → oWP ω γ κ Q T pc' L S) : oWP ω γ κ Q T pc L (.int y :: .int x :: S) :=
  ow_icmp X pc' pq hd hp hq (fun q => Ky (by simp only [if_icmp.holds, decide_eq_true_eq, decide_eq_false_iff_not, beq_iff_eq, bne_iff_ne, ne_eq, Int32.lt_iff_toInt_lt, Int32.le_iff_toInt_le, ← Int32.toInt_inj, o0, GT.gt, GE.ge, beq_eq_false_iff_ne, bne_eq_false_iff_eq, Decidable.not_not] at q; omega)) (fun q => Kn (by simp only [if_icmp.holds, decide_eq_true_eq, decide_eq_false_iff_not, beq_iff_eq, bne_iff_ne, ne_eq, Int32.lt_iff_toInt_lt, Int32.le_iff_toInt_le, ← Int32.toInt_inj, o0, GT.gt, GE.ge, beq_eq_false_iff_ne, bne_eq_false_iff_eq, Decidable.not_not] at q; omega))
theorem ow_if_ne (X : oSt Z ω γ κ T h cs ss) (pc' pq : Nat) {x : Int32} {o : Int} (hd : decode κ.1 pc = .ok (.ifCond .ne o, 3)) (hp : pc + 3 = pc') (hq : (pc : Int) + o = (pq : Int))
    (Ky : x.toInt ≠ 0 → oWP ω γ κ Q T pq L S) (Kn : x.toInt = 0 → oWP ω γ κ Q T pc' L S) : oWP ω γ κ Q T pc L (.int x :: S) :=
  ow_if X pc' pq hd hp hq (fun q => Ky (by simp only [ifCond.holds, decide_eq_true_eq, decide_eq_false_iff_not, beq_iff_eq, bne_iff_ne, ne_eq, Int32.lt_iff_toInt_lt, Int32.le_iff_toInt_le, ← Int32.toInt_inj, o0, GT.gt, GE.ge, beq_eq_false_iff_ne, bne_eq_false_iff_eq, Decidable.not_not] at q; omega)) (fun q => Kn (by simp only [ifCond.holds, decide_eq_true_eq, decide_eq_false_iff_not, beq_iff_eq, bne_iff_ne, ne_eq, Int32.lt_iff_toInt_lt, Int32.le_iff_toInt_le, ← Int32.toInt_inj, o0, GT.gt, GE.ge, beq_eq_false_iff_ne, bne_eq_false_iff_eq, Decidable.not_not] at q; omega))
theorem ow_icmp_ne (X : oSt Z ω γ κ T h cs ss) (pc' pq : Nat) {x y : Int32} {o : Int} (hd : decode κ.1 pc = .ok (.if_icmp .ne o, 3)) (hp : pc + 3 = pc') (hq : (pc : Int) + o = (pq : Int))
    (Ky : x.toInt ≠ y.toInt → oWP ω γ κ Q T pq L S) (Kn : x.toInt = y.toInt → oWP ω γ κ Q T pc' L S) : oWP ω γ κ Q T pc L (.int y :: .int x :: S) :=
  ow_icmp X pc' pq hd hp hq (fun q => Ky (by simp only [if_icmp.holds, decide_eq_true_eq, decide_eq_false_iff_not, beq_iff_eq, bne_iff_ne, ne_eq, Int32.lt_iff_toInt_lt, Int32.le_iff_toInt_le, ← Int32.toInt_inj, o0, GT.gt, GE.ge, beq_eq_false_iff_ne, bne_eq_false_iff_eq, Decidable.not_not] at q; omega)) (fun q => Kn (by simp only [if_icmp.holds, decide_eq_true_eq, decide_eq_false_iff_not, beq_iff_eq, bne_iff_ne, ne_eq, Int32.lt_iff_toInt_lt, Int32.le_iff_toInt_le, ← Int32.toInt_inj, o0, GT.gt, GE.ge, beq_eq_false_iff_ne, bne_eq_false_iff_eq, Decidable.not_not] at q; omega))
theorem ow_if_lt (X : oSt Z ω γ κ T h cs ss) (pc' pq : Nat) {x : Int32} {o : Int} (hd : decode κ.1 pc = .ok (.ifCond .lt o, 3)) (hp : pc + 3 = pc') (hq : (pc : Int) + o = (pq : Int))
    (Ky : x.toInt < 0 → oWP ω γ κ Q T pq L S) (Kn : 0 ≤ x.toInt → oWP ω γ κ Q T pc' L S) : oWP ω γ κ Q T pc L (.int x :: S) :=
  ow_if X pc' pq hd hp hq (fun q => Ky (by simp only [ifCond.holds, decide_eq_true_eq, decide_eq_false_iff_not, beq_iff_eq, bne_iff_ne, ne_eq, Int32.lt_iff_toInt_lt, Int32.le_iff_toInt_le, ← Int32.toInt_inj, o0, GT.gt, GE.ge, beq_eq_false_iff_ne, bne_eq_false_iff_eq, Decidable.not_not] at q; omega)) (fun q => Kn (by simp only [ifCond.holds, decide_eq_true_eq, decide_eq_false_iff_not, beq_iff_eq, bne_iff_ne, ne_eq, Int32.lt_iff_toInt_lt, Int32.le_iff_toInt_le, ← Int32.toInt_inj, o0, GT.gt, GE.ge, beq_eq_false_iff_ne, bne_eq_false_iff_eq, Decidable.not_not] at q; omega))
theorem ow_icmp_lt (X : oSt Z ω γ κ T h cs ss) (pc' pq : Nat) {x y : Int32} {o : Int} (hd : decode κ.1 pc = .ok (.if_icmp .lt o, 3)) (hp : pc + 3 = pc') (hq : (pc : Int) + o = (pq : Int))
    (Ky : x.toInt < y.toInt → oWP ω γ κ Q T pq L S) (Kn : y.toInt ≤ x.toInt → oWP ω γ κ Q T pc' L S) : oWP ω γ κ Q T pc L (.int y :: .int x :: S) :=
  ow_icmp X pc' pq hd hp hq (fun q => Ky (by simp only [if_icmp.holds, decide_eq_true_eq, decide_eq_false_iff_not, beq_iff_eq, bne_iff_ne, ne_eq, Int32.lt_iff_toInt_lt, Int32.le_iff_toInt_le, ← Int32.toInt_inj, o0, GT.gt, GE.ge, beq_eq_false_iff_ne, bne_eq_false_iff_eq, Decidable.not_not] at q; omega)) (fun q => Kn (by simp only [if_icmp.holds, decide_eq_true_eq, decide_eq_false_iff_not, beq_iff_eq, bne_iff_ne, ne_eq, Int32.lt_iff_toInt_lt, Int32.le_iff_toInt_le, ← Int32.toInt_inj, o0, GT.gt, GE.ge, beq_eq_false_iff_ne, bne_eq_false_iff_eq, Decidable.not_not] at q; omega))
theorem ow_if_ge (X : oSt Z ω γ κ T h cs ss) (pc' pq : Nat) {x : Int32} {o : Int} (hd : decode κ.1 pc = .ok (.ifCond .ge o, 3)) (hp : pc + 3 = pc') (hq : (pc : Int) + o = (pq : Int))
    (Ky : 0 ≤ x.toInt → oWP ω γ κ Q T pq L S) (Kn : x.toInt < 0 → oWP ω γ κ Q T pc' L S) : oWP ω γ κ Q T pc L (.int x :: S) :=
  ow_if X pc' pq hd hp hq (fun q => Ky (by simp only [ifCond.holds, decide_eq_true_eq, decide_eq_false_iff_not, beq_iff_eq, bne_iff_ne, ne_eq, Int32.lt_iff_toInt_lt, Int32.le_iff_toInt_le, ← Int32.toInt_inj, o0, GT.gt, GE.ge, beq_eq_false_iff_ne, bne_eq_false_iff_eq, Decidable.not_not] at q; omega)) (fun q => Kn (by simp only [ifCond.holds, decide_eq_true_eq, decide_eq_false_iff_not, beq_iff_eq, bne_iff_ne, ne_eq, Int32.lt_iff_toInt_lt, Int32.le_iff_toInt_le, ← Int32.toInt_inj, o0, GT.gt, GE.ge, beq_eq_false_iff_ne, bne_eq_false_iff_eq, Decidable.not_not] at q; omega))
theorem ow_icmp_ge (X : oSt Z ω γ κ T h cs ss) (pc' pq : Nat) {x y : Int32} {o : Int} (hd : decode κ.1 pc = .ok (.if_icmp .ge o, 3)) (hp : pc + 3 = pc') (hq : (pc : Int) + o = (pq : Int))
    (Ky : y.toInt ≤ x.toInt → oWP ω γ κ Q T pq L S) (Kn : x.toInt < y.toInt → oWP ω γ κ Q T pc' L S) : oWP ω γ κ Q T pc L (.int y :: .int x :: S) :=
  ow_icmp X pc' pq hd hp hq (fun q => Ky (by simp only [if_icmp.holds, decide_eq_true_eq, decide_eq_false_iff_not, beq_iff_eq, bne_iff_ne, ne_eq, Int32.lt_iff_toInt_lt, Int32.le_iff_toInt_le, ← Int32.toInt_inj, o0, GT.gt, GE.ge, beq_eq_false_iff_ne, bne_eq_false_iff_eq, Decidable.not_not] at q; omega)) (fun q => Kn (by simp only [if_icmp.holds, decide_eq_true_eq, decide_eq_false_iff_not, beq_iff_eq, bne_iff_ne, ne_eq, Int32.lt_iff_toInt_lt, Int32.le_iff_toInt_le, ← Int32.toInt_inj, o0, GT.gt, GE.ge, beq_eq_false_iff_ne, bne_eq_false_iff_eq, Decidable.not_not] at q; omega))
theorem ow_if_gt (X : oSt Z ω γ κ T h cs ss) (pc' pq : Nat) {x : Int32} {o : Int} (hd : decode κ.1 pc = .ok (.ifCond .gt o, 3)) (hp : pc + 3 = pc') (hq : (pc : Int) + o = (pq : Int))
    (Ky : 0 < x.toInt → oWP ω γ κ Q T pq L S) (Kn : x.toInt ≤ 0 → oWP ω γ κ Q T pc' L S) : oWP ω γ κ Q T pc L (.int x :: S) :=
  ow_if X pc' pq hd hp hq (fun q => Ky (by simp only [ifCond.holds, decide_eq_true_eq, decide_eq_false_iff_not, beq_iff_eq, bne_iff_ne, ne_eq, Int32.lt_iff_toInt_lt, Int32.le_iff_toInt_le, ← Int32.toInt_inj, o0, GT.gt, GE.ge, beq_eq_false_iff_ne, bne_eq_false_iff_eq, Decidable.not_not] at q; omega)) (fun q => Kn (by simp only [ifCond.holds, decide_eq_true_eq, decide_eq_false_iff_not, beq_iff_eq, bne_iff_ne, ne_eq, Int32.lt_iff_toInt_lt, Int32.le_iff_toInt_le, ← Int32.toInt_inj, o0, GT.gt, GE.ge, beq_eq_false_iff_ne, bne_eq_false_iff_eq, Decidable.not_not] at q; omega))
theorem ow_icmp_gt (X : oSt Z ω γ κ T h cs ss) (pc' pq : Nat) {x y : Int32} {o : Int} (hd : decode κ.1 pc = .ok (.if_icmp .gt o, 3)) (hp : pc + 3 = pc') (hq : (pc : Int) + o = (pq : Int))
    (Ky : y.toInt < x.toInt → oWP ω γ κ Q T pq L S) (Kn : x.toInt ≤ y.toInt → oWP ω γ κ Q T pc' L S) : oWP ω γ κ Q T pc L (.int y :: .int x :: S) :=
  ow_icmp X pc' pq hd hp hq (fun q => Ky (by simp only [if_icmp.holds, decide_eq_true_eq, decide_eq_false_iff_not, beq_iff_eq, bne_iff_ne, ne_eq, Int32.lt_iff_toInt_lt, Int32.le_iff_toInt_le, ← Int32.toInt_inj, o0, GT.gt, GE.ge, beq_eq_false_iff_ne, bne_eq_false_iff_eq, Decidable.not_not] at q; omega)) (fun q => Kn (by simp only [if_icmp.holds, decide_eq_true_eq, decide_eq_false_iff_not, beq_iff_eq, bne_iff_ne, ne_eq, Int32.lt_iff_toInt_lt, Int32.le_iff_toInt_le, ← Int32.toInt_inj, o0, GT.gt, GE.ge, beq_eq_false_iff_ne, bne_eq_false_iff_eq, Decidable.not_not] at q; omega))
theorem ow_if_le (X : oSt Z ω γ κ T h cs ss) (pc' pq : Nat) {x : Int32} {o : Int} (hd : decode κ.1 pc = .ok (.ifCond .le o, 3)) (hp : pc + 3 = pc') (hq : (pc : Int) + o = (pq : Int))
    (Ky : x.toInt ≤ 0 → oWP ω γ κ Q T pq L S) (Kn : 0 < x.toInt → oWP ω γ κ Q T pc' L S) : oWP ω γ κ Q T pc L (.int x :: S) :=
  ow_if X pc' pq hd hp hq (fun q => Ky (by simp only [ifCond.holds, decide_eq_true_eq, decide_eq_false_iff_not, beq_iff_eq, bne_iff_ne, ne_eq, Int32.lt_iff_toInt_lt, Int32.le_iff_toInt_le, ← Int32.toInt_inj, o0, GT.gt, GE.ge, beq_eq_false_iff_ne, bne_eq_false_iff_eq, Decidable.not_not] at q; omega)) (fun q => Kn (by simp only [ifCond.holds, decide_eq_true_eq, decide_eq_false_iff_not, beq_iff_eq, bne_iff_ne, ne_eq, Int32.lt_iff_toInt_lt, Int32.le_iff_toInt_le, ← Int32.toInt_inj, o0, GT.gt, GE.ge, beq_eq_false_iff_ne, bne_eq_false_iff_eq, Decidable.not_not] at q; omega))
theorem ow_icmp_le (X : oSt Z ω γ κ T h cs ss) (pc' pq : Nat) {x y : Int32} {o : Int} (hd : decode κ.1 pc = .ok (.if_icmp .le o, 3)) (hp : pc + 3 = pc') (hq : (pc : Int) + o = (pq : Int))
    (Ky : x.toInt ≤ y.toInt → oWP ω γ κ Q T pq L S) (Kn : y.toInt < x.toInt → oWP ω γ κ Q T pc' L S) : oWP ω γ κ Q T pc L (.int y :: .int x :: S) :=
  ow_icmp X pc' pq hd hp hq (fun q => Ky (by simp only [if_icmp.holds, decide_eq_true_eq, decide_eq_false_iff_not, beq_iff_eq, bne_iff_ne, ne_eq, Int32.lt_iff_toInt_lt, Int32.le_iff_toInt_le, ← Int32.toInt_inj, o0, GT.gt, GE.ge, beq_eq_false_iff_ne, bne_eq_false_iff_eq, Decidable.not_not] at q; omega)) (fun q => Kn (by simp only [if_icmp.holds, decide_eq_true_eq, decide_eq_false_iff_not, beq_iff_eq, bne_iff_ne, ne_eq, Int32.lt_iff_toInt_lt, Int32.le_iff_toInt_le, ← Int32.toInt_inj, o0, GT.gt, GE.ge, beq_eq_false_iff_ne, bne_eq_false_iff_eq, Decidable.not_not] at q; omega))
theorem ow_lcmp (X : oSt Z ω γ κ T h cs ss) (pc' : Nat) {x y : Int64} (hd : decode κ.1 pc = .ok (.lcmp, 1)) (hp : pc + 1 = pc')
    (K : oWP ω γ κ Q T pc' L (.int (lcmpW x y) :: S)) : oWP ω γ κ Q T pc L (.long y :: .long x :: S) := by
  obtain ⟨hx, hby, -, -, -, -, -, -, -, -, -, locs, Y, -⟩ := X
  subst hp
  obtain ⟨s₂, o, hs, r⟩ := K
  exact ⟨s₂, o, XS.lcmp Y.here hx rfl (hb hby hd) rfl hs, r⟩
theorem ow_lcmp_eq (X : oSt Z ω γ κ T h cs ss) (pc1 pc' pq : Nat) {x y : Int64} {o : Int} (hd : decode κ.1 pc = .ok (.lcmp, 1)) (hp1 : pc + 1 = pc1) (hd' : decode κ.1 pc1 = .ok (.ifCond .eq o, 3)) (hp : pc1 + 3 = pc') (hq : (pc1 : Int) + o = (pq : Int))
    (Ky : x.toInt = y.toInt → oWP ω γ κ Q T pq L S) (Kn : x.toInt ≠ y.toInt → oWP ω γ κ Q T pc' L S) : oWP ω γ κ Q T pc L (.long y :: .long x :: S) := by
  refine ow_lcmp X pc1 hd hp1 (ow_if_eq X pc' pq hd' hp hq (fun q => Ky ?_) (fun q => Kn ?_))
  · obtain ⟨c1, c2, c3⟩ := c_lcmp x y
    rcases Int.lt_trichotomy x.toInt y.toInt with a | a | a
    · have := c1 a; omega
    · have := c2 a; omega
    · have := c3 a; omega
  · obtain ⟨c1, c2, c3⟩ := c_lcmp x y
    rcases Int.lt_trichotomy x.toInt y.toInt with a | a | a
    · have := c1 a; omega
    · have := c2 a; omega
    · have := c3 a; omega
theorem ow_lcmp_ne (X : oSt Z ω γ κ T h cs ss) (pc1 pc' pq : Nat) {x y : Int64} {o : Int} (hd : decode κ.1 pc = .ok (.lcmp, 1)) (hp1 : pc + 1 = pc1) (hd' : decode κ.1 pc1 = .ok (.ifCond .ne o, 3)) (hp : pc1 + 3 = pc') (hq : (pc1 : Int) + o = (pq : Int))
    (Ky : x.toInt ≠ y.toInt → oWP ω γ κ Q T pq L S) (Kn : x.toInt = y.toInt → oWP ω γ κ Q T pc' L S) : oWP ω γ κ Q T pc L (.long y :: .long x :: S) := by
  refine ow_lcmp X pc1 hd hp1 (ow_if_ne X pc' pq hd' hp hq (fun q => Ky ?_) (fun q => Kn ?_))
  · obtain ⟨c1, c2, c3⟩ := c_lcmp x y
    rcases Int.lt_trichotomy x.toInt y.toInt with a | a | a
    · have := c1 a; omega
    · have := c2 a; omega
    · have := c3 a; omega
  · obtain ⟨c1, c2, c3⟩ := c_lcmp x y
    rcases Int.lt_trichotomy x.toInt y.toInt with a | a | a
    · have := c1 a; omega
    · have := c2 a; omega
    · have := c3 a; omega
theorem ow_lcmp_lt (X : oSt Z ω γ κ T h cs ss) (pc1 pc' pq : Nat) {x y : Int64} {o : Int} (hd : decode κ.1 pc = .ok (.lcmp, 1)) (hp1 : pc + 1 = pc1) (hd' : decode κ.1 pc1 = .ok (.ifCond .lt o, 3)) (hp : pc1 + 3 = pc') (hq : (pc1 : Int) + o = (pq : Int))
    (Ky : x.toInt < y.toInt → oWP ω γ κ Q T pq L S) (Kn : y.toInt ≤ x.toInt → oWP ω γ κ Q T pc' L S) : oWP ω γ κ Q T pc L (.long y :: .long x :: S) := by
  refine ow_lcmp X pc1 hd hp1 (ow_if_lt X pc' pq hd' hp hq (fun q => Ky ?_) (fun q => Kn ?_))
  · obtain ⟨c1, c2, c3⟩ := c_lcmp x y
    rcases Int.lt_trichotomy x.toInt y.toInt with a | a | a
    · have := c1 a; omega
    · have := c2 a; omega
    · have := c3 a; omega
  · obtain ⟨c1, c2, c3⟩ := c_lcmp x y
    rcases Int.lt_trichotomy x.toInt y.toInt with a | a | a
    · have := c1 a; omega
    · have := c2 a; omega
    · have := c3 a; omega
theorem ow_lcmp_ge (X : oSt Z ω γ κ T h cs ss) (pc1 pc' pq : Nat) {x y : Int64} {o : Int} (hd : decode κ.1 pc = .ok (.lcmp, 1)) (hp1 : pc + 1 = pc1) (hd' : decode κ.1 pc1 = .ok (.ifCond .ge o, 3)) (hp : pc1 + 3 = pc') (hq : (pc1 : Int) + o = (pq : Int))
    (Ky : y.toInt ≤ x.toInt → oWP ω γ κ Q T pq L S) (Kn : x.toInt < y.toInt → oWP ω γ κ Q T pc' L S) : oWP ω γ κ Q T pc L (.long y :: .long x :: S) := by
  refine ow_lcmp X pc1 hd hp1 (ow_if_ge X pc' pq hd' hp hq (fun q => Ky ?_) (fun q => Kn ?_))
  · obtain ⟨c1, c2, c3⟩ := c_lcmp x y
    rcases Int.lt_trichotomy x.toInt y.toInt with a | a | a
    · have := c1 a; omega
    · have := c2 a; omega
    · have := c3 a; omega
  · obtain ⟨c1, c2, c3⟩ := c_lcmp x y
    rcases Int.lt_trichotomy x.toInt y.toInt with a | a | a
    · have := c1 a; omega
    · have := c2 a; omega
    · have := c3 a; omega
theorem ow_lcmp_gt (X : oSt Z ω γ κ T h cs ss) (pc1 pc' pq : Nat) {x y : Int64} {o : Int} (hd : decode κ.1 pc = .ok (.lcmp, 1)) (hp1 : pc + 1 = pc1) (hd' : decode κ.1 pc1 = .ok (.ifCond .gt o, 3)) (hp : pc1 + 3 = pc') (hq : (pc1 : Int) + o = (pq : Int))
    (Ky : y.toInt < x.toInt → oWP ω γ κ Q T pq L S) (Kn : x.toInt ≤ y.toInt → oWP ω γ κ Q T pc' L S) : oWP ω γ κ Q T pc L (.long y :: .long x :: S) := by
  refine ow_lcmp X pc1 hd hp1 (ow_if_gt X pc' pq hd' hp hq (fun q => Ky ?_) (fun q => Kn ?_))
  · obtain ⟨c1, c2, c3⟩ := c_lcmp x y
    rcases Int.lt_trichotomy x.toInt y.toInt with a | a | a
    · have := c1 a; omega
    · have := c2 a; omega
    · have := c3 a; omega
  · obtain ⟨c1, c2, c3⟩ := c_lcmp x y
    rcases Int.lt_trichotomy x.toInt y.toInt with a | a | a
    · have := c1 a; omega
    · have := c2 a; omega
    · have := c3 a; omega
theorem ow_lcmp_le (X : oSt Z ω γ κ T h cs ss) (pc1 pc' pq : Nat) {x y : Int64} {o : Int} (hd : decode κ.1 pc = .ok (.lcmp, 1)) (hp1 : pc + 1 = pc1) (hd' : decode κ.1 pc1 = .ok (.ifCond .le o, 3)) (hp : pc1 + 3 = pc') (hq : (pc1 : Int) + o = (pq : Int))
    (Ky : x.toInt ≤ y.toInt → oWP ω γ κ Q T pq L S) (Kn : y.toInt < x.toInt → oWP ω γ κ Q T pc' L S) : oWP ω γ κ Q T pc L (.long y :: .long x :: S) := by
  refine ow_lcmp X pc1 hd hp1 (ow_if_le X pc' pq hd' hp hq (fun q => Ky ?_) (fun q => Kn ?_))
  · obtain ⟨c1, c2, c3⟩ := c_lcmp x y
    rcases Int.lt_trichotomy x.toInt y.toInt with a | a | a
    · have := c1 a; omega
    · have := c2 a; omega
    · have := c3 a; omega
  · obtain ⟨c1, c2, c3⟩ := c_lcmp x y
    rcases Int.lt_trichotomy x.toInt y.toInt with a | a | a
    · have := c1 a; omega
    · have := c2 a; omega
    · have := c3 a; omega
theorem ow_ifnull (X : oSt Z ω γ κ T h cs ss) (pc' pq : Nat) {v : Value} {o : Int} (hv : v.isRef = true) (hd : decode κ.1 pc = .ok (.ifnull o, 3)) (hp : pc + 3 = pc') (hq : (pc : Int) + o = (pq : Int))
    (Ky : v = .null → oWP ω γ κ Q T pq L S) (Kn : v ≠ .null → oWP ω γ κ Q T pc' L S) : oWP ω γ κ Q T pc L (v :: S) := by
  obtain ⟨hx, hby, -, -, -, -, -, -, -, -, -, locs, Y, -⟩ := X
  subst hp
  rcases ref_cases hv with rfl | ⟨a, rfl⟩
  · obtain ⟨s₂, o, hs, r⟩ := Ky rfl
    exact ⟨s₂, o, XS.ifnullYes Y.here hx rfl (pc0 := pc) rfl (hb hby hd) rfl (by omega) (by omega) hs, r⟩
  · obtain ⟨s₂, o, hs, r⟩ := Kn (by simp)
    exact ⟨s₂, o, XS.ifnullNo Y.here hx rfl (hb hby hd) rfl hs, r⟩
theorem ow_ifnonnull (X : oSt Z ω γ κ T h cs ss) (pc' pq : Nat) {v : Value} {o : Int} (hv : v.isRef = true) (hd : decode κ.1 pc = .ok (.ifnonnull o, 3)) (hp : pc + 3 = pc') (hq : (pc : Int) + o = (pq : Int))
    (Ky : v ≠ .null → oWP ω γ κ Q T pq L S) (Kn : v = .null → oWP ω γ κ Q T pc' L S) : oWP ω γ κ Q T pc L (v :: S) := by
  obtain ⟨hx, hby, -, -, -, -, -, -, -, -, -, locs, Y, -⟩ := X
  subst hp
  rcases ref_cases hv with rfl | ⟨a, rfl⟩
  · obtain ⟨s₂, o, hs, r⟩ := Kn rfl
    exact ⟨s₂, o, XS.ifnonnullNo Y.here hx rfl (hb hby hd) rfl hs, r⟩
  · obtain ⟨s₂, o, hs, r⟩ := Ky (by simp)
    exact ⟨s₂, o, XS.ifnonnullYes Y.here hx rfl (pc0 := pc) rfl (hb hby hd) rfl (by omega) (by omega) hs, r⟩
theorem ow_acmp_eq (X : oSt Z ω γ κ T h cs ss) (pc' pq : Nat) {v w : Value} {o : Int} (hv : v.isRef = true) (hw : w.isRef = true) (hd : decode κ.1 pc = .ok (.if_acmp .eq o, 3)) (hp : pc + 3 = pc') (hq : (pc : Int) + o = (pq : Int))
    (Ky : v = w → oWP ω γ κ Q T pq L S) (Kn : v ≠ w → oWP ω γ κ Q T pc' L S) : oWP ω γ κ Q T pc L (w :: v :: S) := by
  obtain ⟨hx, hby, -, -, -, -, -, -, -, -, -, locs, Y, -⟩ := X
  subst hp
  by_cases e : v = w
  · obtain ⟨s₂, o, hs, r⟩ := Ky e
    exact ⟨s₂, o, RoadKit.acmp Y hx rfl hv hw (pc0 := pc) rfl (hb hby hd) rfl (same := true) (by simp [e]) (by omega) (by simp [acV]; omega) hs, r⟩
  · obtain ⟨s₂, o, hs, r⟩ := Kn e
    exact ⟨s₂, o, RoadKit.acmp Y hx rfl hv hw (pc0 := pc) rfl (hb hby hd) rfl (same := false) (by simp [e]) (by omega) (by simp [acV]) hs, r⟩
theorem ow_acmp_ne (X : oSt Z ω γ κ T h cs ss) (pc' pq : Nat) {v w : Value} {o : Int} (hv : v.isRef = true) (hw : w.isRef = true) (hd : decode κ.1 pc = .ok (.if_acmp .ne o, 3)) (hp : pc + 3 = pc') (hq : (pc : Int) + o = (pq : Int))
    (Ky : v ≠ w → oWP ω γ κ Q T pq L S) (Kn : v = w → oWP ω γ κ Q T pc' L S) : oWP ω γ κ Q T pc L (w :: v :: S) := by
  obtain ⟨hx, hby, -, -, -, -, -, -, -, -, -, locs, Y, -⟩ := X
  subst hp
  by_cases e : v = w
  · obtain ⟨s₂, o, hs, r⟩ := Kn e
    exact ⟨s₂, o, RoadKit.acmp Y hx rfl hv hw (pc0 := pc) rfl (hb hby hd) rfl (same := true) (by simp [e]) (by omega) (by simp [acV]) hs, r⟩
  · obtain ⟨s₂, o, hs, r⟩ := Ky e
    exact ⟨s₂, o, RoadKit.acmp Y hx rfl hv hw (pc0 := pc) rfl (hb hby hd) rfl (same := false) (by simp [e]) (by omega) (by simp [acV]; omega) hs, r⟩
theorem ow_ret (X : oSt Z ω γ κ T h cs ss) {w : Value} {t : FieldType} {i : Instr} (hret : κ.2.2.2.2.1 = some t) (hn : narrow t w = w)
    (hi : (i = .ireturn ∧ (t = .int ∨ t = .boolean ∨ t = .byte ∨ t = .char ∨ t = .short) ∧ ∃ z, w = .int z) ∨ (i = .lreturn ∧ t = .long ∧ ∃ z, w = .long z) ∨ (i = .dreturn ∧ t = .double ∧ ∃ z, w = .double z) ∨ (i = .freturn ∧ t = .float ∧ ∃ z, w = .float z) ∨ (i = .areturn ∧ t.isReference = true ∧ w.isRef = true))
    (hd : decode κ.1 pc = .ok (i, 1)) (hc : cs ≤ κ.2.2.2.2.2.cells) (hsl : ss ≤ κ.2.2.2.2.2.slots) (hQ : Q (some w) h) : oWP ω γ κ Q T pc L (w :: S) := by
  obtain ⟨hx, hby, -, -, -, hr, hlk, -, -, -, hT, locs, Y, N⟩ := X
  obtain ⟨fs, hl, hrun, hended, hW, hsame⟩ := Y.leave (v := some w) (fun q => by rw [hr, hret] at q; cases q) hlk
  refine ⟨_, _, retOut Y hx (hr.trans hret) hn hi (hb hby hd) hl, hrun, hended, _, locs, rfl, ⟨N, ?_⟩, ⟨_, rfl⟩, hW, hsame.mono hc hsl⟩
  show Q (some w) T.heap
  rw [hT]; exact hQ
theorem ow_retI (X : oSt Z ω γ κ T h cs ss) {z : Int32} (hret : κ.2.2.2.2.1 = some .int) (hd : decode κ.1 pc = .ok (.ireturn, 1)) (hc : cs ≤ κ.2.2.2.2.2.cells) (hsl : ss ≤ κ.2.2.2.2.2.slots) (hQ : Q (some (.int z)) h) : oWP ω γ κ Q T pc L (.int z :: S) :=
  ow_ret X hret rfl (Or.inl ⟨rfl, Or.inl rfl, z, rfl⟩) hd hc hsl hQ
theorem ow_retZ (X : oSt Z ω γ κ T h cs ss) {z : Int32} (hret : κ.2.2.2.2.1 = some .boolean) (hd : decode κ.1 pc = .ok (.ireturn, 1)) (hc : cs ≤ κ.2.2.2.2.2.cells) (hsl : ss ≤ κ.2.2.2.2.2.slots) (hz : z = 0 ∨ z = 1) (hQ : Q (some (.int z)) h) : oWP ω γ κ Q T pc L (.int z :: S) :=
  ow_ret X hret (by rcases hz with rfl | rfl <;> rfl) (Or.inl ⟨rfl, Or.inr (Or.inl rfl), z, rfl⟩) hd hc hsl hQ
theorem ow_retC (X : oSt Z ω γ κ T h cs ss) {z : Int32} (hret : κ.2.2.2.2.1 = some .char) (hd : decode κ.1 pc = .ok (.ireturn, 1)) (hc : cs ≤ κ.2.2.2.2.2.cells) (hsl : ss ≤ κ.2.2.2.2.2.slots) (hz : z.toUInt32.toUInt16.toUInt32.toInt32 = z) (hQ : Q (some (.int z)) h) : oWP ω γ κ Q T pc L (.int z :: S) :=
  ow_ret X hret (by show Value.int z.toUInt32.toUInt16.toUInt32.toInt32 = _; rw [hz]) (Or.inl ⟨rfl, Or.inr (Or.inr (Or.inr (Or.inl rfl))), z, rfl⟩) hd hc hsl hQ
theorem ow_retJ (X : oSt Z ω γ κ T h cs ss) {z : Int64} (hret : κ.2.2.2.2.1 = some .long) (hd : decode κ.1 pc = .ok (.lreturn, 1)) (hc : cs ≤ κ.2.2.2.2.2.cells) (hsl : ss ≤ κ.2.2.2.2.2.slots) (hQ : Q (some (.long z)) h) : oWP ω γ κ Q T pc L (.long z :: S) :=
  ow_ret X hret rfl (Or.inr (Or.inl ⟨rfl, rfl, z, rfl⟩)) hd hc hsl hQ
theorem ow_retA (X : oSt Z ω γ κ T h cs ss) {v : Value} {t : FieldType} (hret : κ.2.2.2.2.1 = some t) (ht : t.isReference = true) (hv : v.isRef = true) (hd : decode κ.1 pc = .ok (.areturn, 1)) (hc : cs ≤ κ.2.2.2.2.2.cells) (hsl : ss ≤ κ.2.2.2.2.2.slots) (hQ : Q (some v) h) : oWP ω γ κ Q T pc L (v :: S) :=
  ow_ret X hret (by cases t <;> first | rfl | cases ht) (Or.inr (Or.inr (Or.inr (Or.inr ⟨rfl, ht, hv⟩)))) hd hc hsl hQ
theorem ow_retV (X : oSt Z ω γ κ T h cs ss) (hret : κ.2.2.2.2.1 = none) (hd : decode κ.1 pc = .ok (.return_, 1)) (hc : cs ≤ κ.2.2.2.2.2.cells) (hsl : ss ≤ κ.2.2.2.2.2.slots) (hQ : Q none h) : oWP ω γ κ Q T pc L [] := by
  obtain ⟨hx, hby, -, -, -, hr, hlk, -, -, -, hT, locs, Y, N⟩ := X
  obtain ⟨fs, hl, hrun, hended, hW, hsame⟩ := Y.leave (v := none) (fun _ => rfl) hlk
  refine ⟨_, _, Y.returnOut hx (hr.trans hret) (hb hby hd) hl, hrun, hended, _, locs, rfl, ⟨N, ?_⟩, ⟨_, rfl⟩, hW, hsame.mono hc hsl⟩
  show Q none T.heap
  rw [hT]; exact hQ
theorem ow_getF (X : oSt Z ω γ κ T h cs ss) (pc' i : Nat) {own O n d : String} {idx : Nat} {a : Addr} {v : Value} (hw : tables_1[i]? = some (.fieldLink own idx O n d)) (ho : κ.2.2.1 = own) (F : Fld Z h a O n d v) (hd : decode κ.1 pc = .ok (.getfield idx, 3)) (hp : pc + 3 = pc')
    (K : ∀ T', oSt Z ω γ κ T' h cs ss → oWP ω γ κ Q T' pc' L (v :: S)) : oWP ω γ κ Q T pc L (.ref a :: S) := by
  have hw' := oSt_at X i hw
  obtain ⟨hx, hby, hml, hown, hnm, hr, hlk, hZ, hT1, hn0, hT, locs, Y, N⟩ := X
  subst hp ho
  obtain ⟨T', Y', e', st⟩ := getF Y hx hZ hown (host := "") (Or.inl hw') Via.refl hT F (g := mkF γ.2.2.2.1 pc L (.ref a :: S)) rfl rfl (hb hby hd)
  obtain ⟨s₂, o, hs, r⟩ := K T' ⟨hx, hby, hml, hown, hnm, hr, hlk, hZ, hT1, hn0, e', locs, Y', N⟩
  exact ⟨s₂, o, st _ hs, r⟩
theorem ow_getS (X : oSt Z ω γ κ T h cs ss) (pc' i : Nat) {own O n d : String} {idx : Nat} {v : Value} (hw : tables_1[i]? = some (.fieldLink own idx O n d)) (ho : κ.2.2.1 = own) (F : Sta Z h O n d v) (hd : decode κ.1 pc = .ok (.getstatic idx, 3)) (hp : pc + 3 = pc')
    (K : ∀ T', oSt Z ω γ κ T' h cs ss → oWP ω γ κ Q T' pc' L (v :: S)) : oWP ω γ κ Q T pc L S := by
  have hw' := oSt_at X i hw
  obtain ⟨hx, hby, hml, hown, hnm, hr, hlk, hZ, hT1, hn0, hT, locs, Y, N⟩ := X
  subst hp ho
  obtain ⟨T', Y', e', st⟩ := getS Y hx hZ hown hw' Via.refl hT F (g := mkF γ.2.2.2.1 pc L S) rfl (hb hby hd) (host := "")
  obtain ⟨s₂, o, hs, r⟩ := K T' ⟨hx, hby, hml, hown, hnm, hr, hlk, hZ, hT1, hn0, e', locs, Y', N⟩
  exact ⟨s₂, o, st _ hs, r⟩
theorem ow_putF (X : oSt Z ω γ κ T h cs ss) (pc' i k : Nat) {own O n d C : String} {idx kk : Nat} {a : Addr} {v old : Value} {ty : FieldType} (hw : tables_1[i]? = some (.fieldLink own idx O n d)) (ho : κ.2.2.1 = own) (F : Fld Z h a O n d old) (E : Exa Z h a C)
    (hl : (Jvm.Cond.lays C O n d).before ω.2.2 Z = true ∨ ((Jvm.Cond.laysFinal C O n d).before ω.2.2 Z = true ∧ κ.2.2.1 = O ∧ κ.2.2.2.1 = "<init>")) (hi : tables_1[k]? = some (.instantiable C kk)) (hty : parseFieldDescriptor d = some ty) (hn : narrow ty v = v) (hf : fits ty v = true) (ha : ω.2.1 ≤ a)
    (hd : decode κ.1 pc = .ok (.putfield idx, 3)) (hp : pc + 3 = pc')
    (K : ∀ T' h', oSt Z ω γ κ T' h' cs ss → Wr h h' a (RoadKit.slotOf Z O n d) v → oWP ω γ κ Q T' pc' L S) : oWP ω γ κ Q T pc L (v :: .ref a :: S) := by
  have hw' := oSt_at X i hw
  have hi' := oSt_at X k hi
  obtain ⟨hx, hby, hml, hown, hnm, hr, hlk, hZ, hT1, hn0, hT, locs, Y, N⟩ := X
  subst hp ho
  obtain ⟨T', h', Y', e', W, st⟩ := putF Y hx hZ hown (host := "") (Or.inl hw') Via.refl hT F E (hl.imp id fun q => ⟨q.1, q.2.1, hnm.trans q.2.2⟩) hi' hty hn hf (g := mkF γ.2.2.2.1 pc L (v :: .ref a :: S)) rfl rfl (hb hby hd)
  obtain ⟨s₂, o, hs, r⟩ := K T' h' ⟨hx, hby, hml, hown, hnm, hr, hlk, hZ, hT1, hn0, e', _, Y', Fr.snoc Y' N ha⟩ W
  exact ⟨s₂, o, st _ hs, r⟩
theorem ow_new (X : oSt Z ω γ κ T h cs ss) (pc' i1 i2 i3 : Nat) {own C : String} {idx n : Nat} (w1 : tables_1[i1]? = some (.classLink own idx C)) (ho : κ.2.2.1 = own) (w2 : tables_1[i2]? = some (.instantiable C n)) (w3 : tables_1[i3]? = some (.initialized C))
    (hd : decode κ.1 pc = .ok (.new idx, 3)) (hp : pc + 3 = pc') (hc : cs + 1 ≤ κ.2.2.2.2.2.cells) (hsl : ss + n ≤ κ.2.2.2.2.2.slots)
    (K : ∀ T' h' a, a = h.size → oSt Z ω γ κ T' h' (cs + 1) (ss + n) → Ext h h' → Exa Z h' a C → (∀ {O nm d : String} {ty : FieldType}, Laid Z ω.2.2 C O nm d → parseFieldDescriptor d = some ty → Fld Z h' a O nm d (defaultValue ty)) → ω.2.1 ≤ a → oWP ω γ κ Q T' pc' L (.ref a :: S)) : oWP ω γ κ Q T pc L S := by
  have w1' := oSt_at X i1 w1
  have w2' := oSt_at X i2 w2
  have w3' := oSt_at X i3 w3
  have hN := oSt_n0 X
  obtain ⟨hx, hby, hml, hown, hnm, hr, hlk, hZ, hT1, hn0, hT, locs, Y, N⟩ := X
  subst hp ho
  obtain ⟨T', h', Y', e', E, A, D, -, st⟩ := newO Y hx hZ hown w1' w2' w3' hT (g := mkF γ.2.2.2.1 pc L S) rfl (hb hby hd) hc hsl
  obtain ⟨s₂, o, hs, r⟩ := K T' h' h.size rfl ⟨hx, hby, hml, hown, hnm, hr, hlk, hZ, hT1, hn0, e', _, Y', N⟩ E A D hN
  exact ⟨s₂, o, st _ hs, r⟩
theorem ow_initO (X : oSt Z ω γ κ T h cs ss) (pc' i1 i2 i3 : Nat) {own : String} {idx : Nat} {a : Addr} (w1 : tables_1[i1]? = some (.methodLink own idx Lib.objectInit)) (ho : κ.2.2.1 = own) (w2 : tables_1[i2]? = some (.instanceMethod Lib.objectInit)) (w3 : tables_1[i3]? = some (.code Lib.objectInit ⟨#[0xb1]⟩ 1 none))
    (hd : decode κ.1 pc = .ok (.invokespecial idx, 3)) (hp : pc + 3 = pc') (hL : L.size = κ.2.1) (hf : 1 ≤ κ.2.2.2.2.2.frames) {W : Nat} (hW : (S.map fun v => v.category).sum ≤ W) (hl : W + 12 ≤ κ.2.2.2.2.2.locals)
    (K : ∀ T', oSt Z ω γ κ T' h cs ss → oWP ω γ κ Q T' pc' L S) : oWP ω γ κ Q T pc L (.ref a :: S) := by
  have w1' := oSt_at X i1 w1
  have w2' := oSt_at X i2 w2
  have w3' := oSt_at X i3 w3
  obtain ⟨hx, hby, hml, hown, hnm, hr, hlk, hZ, hT1, hn0, hT, locs, Y, N⟩ := X
  subst hp ho
  obtain ⟨T', Y', e', st⟩ := initO Y hx hZ hown w1' w2' w3' hT (g := mkF γ.2.2.2.1 pc L (.ref a :: S)) rfl (by rw [hml]; exact hL) rfl (hb hby hd) hf (W := W) (by show 2 * 0 + _ ≤ _; omega) hl
  obtain ⟨s₂, o, hs, r⟩ := K T' ⟨hx, hby, hml, hown, hnm, hr, hlk, hZ, hT1, hn0, e', _, Y', N⟩
  exact ⟨s₂, o, st _ hs, r⟩
theorem ow_callS (X : oSt Z ω γ κ T h cs ss) (pc' i1 i2 i3 i4 : Nat) {own : String} {idx : Nat} {y : MethodName} {κ' : OM} {Q' : Option Value → Heap → Prop} {as : List Value} {ps : List FieldType} {rt : Option FieldType} {W : Nat} {S0 : List Value}
    (w1 : tables_1[i1]? = some (.methodLink own idx y)) (ho : κ.2.2.1 = own) (w2 : tables_1[i2]? = some (.static y)) (w3 : tables_1[i3]? = some (.initialized y.cls)) (w4 : tables_1[i4]? = some (.code y κ'.1 κ'.2.1 κ'.2.2.2.2.1)) (hy : y.cls ≠ "java/lang/invoke/MethodHandle" ∧ y.cls ≠ "java/lang/invoke/VarHandle")
    (C : oC Z ω y κ' [] as.toArray h Q') (hf : κ'.2.2.2.2.2.frames + 1 ≤ κ.2.2.2.2.2.frames) (hl : W + (κ'.2.1 + 11) + κ'.2.2.2.2.2.locals ≤ κ.2.2.2.2.2.locals) (hW : (S.map fun v => v.category).sum ≤ W) (hc : cs + κ'.2.2.2.2.2.cells ≤ κ.2.2.2.2.2.cells) (hs : ss + κ'.2.2.2.2.2.slots ≤ κ.2.2.2.2.2.slots)
    (hpd : parseMethodDescriptor y.desc = some ⟨ps, rt⟩) (hlen : as.length = ps.length) (hS : S0 = as.reverse ++ S) (hL : L.size = κ.2.1) (hd : decode κ.1 pc = .ok (.invokestatic idx, 3)) (hp : pc + 3 = pc')
    (K : ∀ v T' h', oSt Z ω γ κ T' h' (cs + κ'.2.2.2.2.2.cells) (ss + κ'.2.2.2.2.2.slots) → Q' v h' → oWP ω γ κ Q T' pc' L (v.toList ++ S)) : oWP ω γ κ Q T pc L S0 := by
  have w1' := oSt_at X i1 w1
  have w2' := oSt_at X i2 w2
  have w3' := oSt_at X i3 w3
  have w4' := oSt_at X i4 w4
  obtain ⟨hx, hby, hml, hown, hnm, hr, hlk, hZ, hT1, hn0, hT, locs, Y, N⟩ := X
  subst hp ho hS
  obtain ⟨v, vm₁, ⟨T', L', k', n'⟩, -, Y', ⟨Lc, ⟨hF, hQ⟩, q1, q2, q3⟩, st⟩ := Jvm.LawKit.callS Y hx (y := y) hown (mvT hZ w1') (mvT hZ w2') (mvT hZ w3') (mvT hZ w4') hy (backOf (W := W) (Q := fun v hh Lc => Fr ω.2.1 Lc ∧ Q' v hh) (bytes := κ'.1) (maxL := κ'.2.1) (ret := κ'.2.2.2.2.1) (rm := κ'.2.2.2.2.2) C hZ w4' w3' hf hl) (g := mkF γ.2.2.2.1 pc L (as.reverse ++ S)) rfl (by rw [hml]; exact hL) (argsL := as) (rest := S) (lenOf hpd hlen) rfl (by show 2 * 0 + _ ≤ _; omega) (hb hby hd) (fun _ _ => ⟨rfl, hT, hc, hs⟩)
  dsimp only [Pt.U, Pt.locs, Pt.cells, Pt.slots] at Y' q1 q2 q3 st hQ
  subst q1 q2 q3
  obtain ⟨s₂, o, hs, r⟩ := K v T' T'.heap ⟨hx, hby, hml, hown, hnm, hr, hlk, hZ, hT1, hn0, rfl, _, Y', N.app hF⟩ hQ
  exact ⟨s₂, o, st _ hs, r⟩
theorem ow_callC (X : oSt Z ω γ κ T h cs ss) (pc' i1 i2 i3 i4 : Nat) {own : String} {idx : Nat} {y : MethodName} {κ' : OM} {Q' : Option Value → Heap → Prop} {a : Addr} {as : List Value} {ps : List FieldType} {rt : Option FieldType} {W : Nat} {S0 : List Value}
    (hy1 : y.name = "<init>") (w1 : tables_1[i1]? = some (.methodLink own idx y)) (ho : κ.2.2.1 = own) (w2 : tables_1[i2]? = some (.instanceMethod y)) (w3 : tables_1[i3]? = some (.initialized y.cls)) (w4 : tables_1[i4]? = some (.code y κ'.1 κ'.2.1 κ'.2.2.2.2.1)) (hr0 : κ'.2.2.2.2.1 = none) (hy : y.cls ≠ "java/lang/invoke/MethodHandle" ∧ y.cls ≠ "java/lang/invoke/VarHandle")
    (C : oC Z ω y κ' [] (.ref a :: as).toArray h Q') (hf : κ'.2.2.2.2.2.frames + 1 ≤ κ.2.2.2.2.2.frames) (hl : W + (κ'.2.1 + 11) + κ'.2.2.2.2.2.locals ≤ κ.2.2.2.2.2.locals) (hW : (S.map fun v => v.category).sum ≤ W) (hc : cs + κ'.2.2.2.2.2.cells ≤ κ.2.2.2.2.2.cells) (hs : ss + κ'.2.2.2.2.2.slots ≤ κ.2.2.2.2.2.slots)
    (hpd : parseMethodDescriptor y.desc = some ⟨ps, rt⟩) (hlen : as.length = ps.length) (hS : S0 = as.reverse ++ .ref a :: S) (hL : L.size = κ.2.1) (hd : decode κ.1 pc = .ok (.invokespecial idx, 3)) (hp : pc + 3 = pc')
    (K : ∀ v T' h', oSt Z ω γ κ T' h' (cs + κ'.2.2.2.2.2.cells) (ss + κ'.2.2.2.2.2.slots) → Q' v h' → oWP ω γ κ Q T' pc' L (v.toList ++ S)) : oWP ω γ κ Q T pc L S0 := by
  have w1' := oSt_at X i1 w1
  have w2' := oSt_at X i2 w2
  have w3' := oSt_at X i3 w3
  have w4' := oSt_at X i4 w4
  obtain ⟨hx, hby, hml, hown, hnm, hr, hlk, hZ, hT1, hn0, hT, locs, Y, N⟩ := X
  subst hp ho hS
  obtain ⟨v, vm₁, ⟨T', L', k', n'⟩, -, Y', ⟨Lc, ⟨hF, hQ⟩, q1, q2, q3⟩, st⟩ := Y.specialBack hx (y := y) hy1 hown (mvT hZ w1') (mvT hZ w2') (mvT hZ (hr0 ▸ w4')) hy (backOf (W := W) (Q := fun v hh Lc => Fr ω.2.1 Lc ∧ Q' v hh) (bytes := κ'.1) (maxL := κ'.2.1) (ret := κ'.2.2.2.2.1) (rm := κ'.2.2.2.2.2) C hZ w4' w3' hf hl) (g := mkF γ.2.2.2.1 pc L (as.reverse ++ .ref a :: S)) rfl (by rw [hml]; exact hL) (Steps.refl _) (a := a) (argsL := as) (rest := S) (lenOf hpd hlen) rfl (by show 2 * 0 + _ ≤ _; omega) (hb hby hd) (fun _ _ => ⟨rfl, hT, hc, hs⟩)
  dsimp only [Pt.U, Pt.locs, Pt.cells, Pt.slots] at Y' q1 q2 q3 st hQ
  subst q1 q2 q3
  obtain ⟨s₂, o, hs, r⟩ := K v T' T'.heap ⟨hx, hby, hml, hown, hnm, hr, hlk, hZ, hT1, hn0, rfl, _, Y', N.app hF⟩ hQ
  exact ⟨s₂, o, st.trans hs, r⟩
theorem ow_callV (X : oSt Z ω γ κ T h cs ss) (pc' i1 i2 i3 i4 i5 i6 : Nat) {own C0 : String} {idx : Nat} {y : MethodName} {κ' : OM} {Q' : Option Value → Heap → Prop} {a : Addr} {as : List Value} {ps : List FieldType} {rt : Option FieldType} {W : Nat} {S0 : List Value}
    (w1 : tables_1[i1]? = some (.methodLink own idx y)) (ho : κ.2.2.1 = own) (w2 : tables_1[i2]? = some (.declares y)) (w3 : tables_1[i3]? = some (.selects C0 y y)) (w4 : tables_1[i4]? = some (.instanceMethod y)) (w5 : tables_1[i5]? = some (.code y κ'.1 κ'.2.1 κ'.2.2.2.2.1)) (w6 : tables_1[i6]? = some (.initialized y.cls)) (hy : y.cls ≠ "java/lang/invoke/MethodHandle" ∧ y.cls ≠ "java/lang/invoke/VarHandle")
    (E : Exa Z h a C0) (C : oC Z ω y κ' [] (.ref a :: as).toArray h Q') (hf : κ'.2.2.2.2.2.frames + 1 ≤ κ.2.2.2.2.2.frames) (hl : W + (κ'.2.1 + 11) + κ'.2.2.2.2.2.locals ≤ κ.2.2.2.2.2.locals) (hW : (S.map fun v => v.category).sum ≤ W) (hc : cs + κ'.2.2.2.2.2.cells ≤ κ.2.2.2.2.2.cells) (hs : ss + κ'.2.2.2.2.2.slots ≤ κ.2.2.2.2.2.slots)
    (hpd : parseMethodDescriptor y.desc = some ⟨ps, rt⟩) (hlen : as.length = ps.length) (hS : S0 = as.reverse ++ .ref a :: S) (hL : L.size = κ.2.1) (hd : decode κ.1 pc = .ok (.invokevirtual idx, 3)) (hp : pc + 3 = pc')
    (K : ∀ v T' h', oSt Z ω γ κ T' h' (cs + κ'.2.2.2.2.2.cells) (ss + κ'.2.2.2.2.2.slots) → Q' v h' → oWP ω γ κ Q T' pc' L (v.toList ++ S)) : oWP ω γ κ Q T pc L S0 := by
  have w1' := oSt_at X i1 w1
  have w2' := oSt_at X i2 w2
  have w3' := oSt_at X i3 w3
  have w4' := oSt_at X i4 w4
  have w5' := oSt_at X i5 w5
  have w6' := oSt_at X i6 w6
  obtain ⟨hx, hby, hml, hown, hnm, hr, hlk, hZ, hT1, hn0, hT, locs, Y, N⟩ := X
  subst hp ho hS
  obtain ⟨cq, kq, qa, qb, qc⟩ := isOf hZ hT E
  obtain ⟨v, vm₁, ⟨T', L', k', n'⟩, -, Y', ⟨Lc, ⟨hF, hQ⟩, q1, q2, q3⟩, st⟩ := Y.virtualBack hx (y := y) (z := y) hown (mvT hZ w1') (mvT hZ w2') (notFace_of_selects (args := #[]) (mvT hZ w3')) (mvT hZ w3') (mvT hZ w4') hy (backOf (W := W) (Q := fun v hh Lc => Fr ω.2.1 Lc ∧ Q' v hh) (bytes := κ'.1) (maxL := κ'.2.1) (ret := κ'.2.2.2.2.1) (rm := κ'.2.2.2.2.2) C hZ w5' w6' hf hl) qa qc (g := mkF γ.2.2.2.1 pc L (as.reverse ++ .ref a :: S)) rfl (by rw [hml]; exact hL) (Steps.refl _) (argsL := as) (rest := S) (lenOf hpd hlen) rfl (by show 2 * 0 + _ ≤ _; omega) (hb hby hd) (fun _ _ => ⟨rfl, hT, hc, hs⟩)
  dsimp only [Pt.U, Pt.locs, Pt.cells, Pt.slots] at Y' q1 q2 q3 st hQ
  subst q1 q2 q3
  obtain ⟨s₂, o, hs, r⟩ := K v T' T'.heap ⟨hx, hby, hml, hown, hnm, hr, hlk, hZ, hT1, hn0, rfl, _, Y', N.app hF⟩ hQ
  exact ⟨s₂, o, st.trans hs, r⟩
theorem ow_callP (X : oSt Z ω γ κ T h cs ss) (pc' i1 i2 i3 i4 i5 i6 : Nat) {own C0 : String} {idx nn : Nat} {y : MethodName} {κ' : OM} {Q' : Option Value → Heap → Prop} {a : Addr} {as : List Value} {ps : List FieldType} {rt : Option FieldType} {W : Nat} {S0 : List Value}
    (w1 : tables_1[i1]? = some (.methodLink own idx y)) (ho : κ.2.2.1 = own) (w2 : tables_1[i2]? = some (.instanceMethod y)) (w3 : tables_1[i3]? = some (.privateMethod y)) (w4 : tables_1[i4]? = some (.initialized y.cls)) (w5 : tables_1[i5]? = some (.code y κ'.1 κ'.2.1 κ'.2.2.2.2.1)) (w6 : tables_1[i6]? = some (.instantiable y.cls nn)) (hy : y.cls ≠ "java/lang/invoke/MethodHandle" ∧ y.cls ≠ "java/lang/invoke/VarHandle")
    (E : Exa Z h a C0) (C : oC Z ω y κ' [] (.ref a :: as).toArray h Q') (hf : κ'.2.2.2.2.2.frames + 1 ≤ κ.2.2.2.2.2.frames) (hl : W + (κ'.2.1 + 11) + κ'.2.2.2.2.2.locals ≤ κ.2.2.2.2.2.locals) (hW : (S.map fun v => v.category).sum ≤ W) (hc : cs + κ'.2.2.2.2.2.cells ≤ κ.2.2.2.2.2.cells) (hs : ss + κ'.2.2.2.2.2.slots ≤ κ.2.2.2.2.2.slots)
    (hpd : parseMethodDescriptor y.desc = some ⟨ps, rt⟩) (hlen : as.length = ps.length) (hS : S0 = as.reverse ++ .ref a :: S) (hL : L.size = κ.2.1) (hd : decode κ.1 pc = .ok (.invokevirtual idx, 3)) (hp : pc + 3 = pc')
    (K : ∀ v T' h', oSt Z ω γ κ T' h' (cs + κ'.2.2.2.2.2.cells) (ss + κ'.2.2.2.2.2.slots) → Q' v h' → oWP ω γ κ Q T' pc' L (v.toList ++ S)) : oWP ω γ κ Q T pc L S0 := by
  have w1' := oSt_at X i1 w1
  have w2' := oSt_at X i2 w2
  have w3' := oSt_at X i3 w3
  have w4' := oSt_at X i4 w4
  have w5' := oSt_at X i5 w5
  have w6' := oSt_at X i6 w6
  obtain ⟨hx, hby, hml, hown, hnm, hr, hlk, hZ, hT1, hn0, hT, locs, Y, N⟩ := X
  subst hp ho hS
  obtain ⟨cq, q1, q2⟩ := E.cell
  obtain ⟨ck, kk, i1, i2, -, i4, -⟩ := Cond.instantiable_spec (mvT (args := #[]) hZ w6')
  have hni : kk.isInterface = false := (Bool.or_eq_false_iff.mp i4).1
  have hpr := Cond.privateMethod_at (mvP (args := #[]) hZ w3')
  obtain ⟨v, vm₁, ⟨T', L', k', n'⟩, -, Y', ⟨Lc, ⟨hF, hQ⟩, q1, q2, q3⟩, st⟩ := Y.privateBack hx (y := y) hown (mvT hZ w1') (mvT hZ w2') (selects_self_of_private i1 i2 hni hpr (mvT hZ w2') hy) hpr (mvT hZ w5') hy (backOf (W := W) (Q := fun v hh Lc => Fr ω.2.1 Lc ∧ Q' v hh) (bytes := κ'.1) (maxL := κ'.2.1) (ret := κ'.2.2.2.2.1) (rm := κ'.2.2.2.2.2) C hZ w5' w4' hf hl) (g := mkF γ.2.2.2.1 pc L (as.reverse ++ .ref a :: S)) rfl (by rw [hml]; exact hL) (Steps.refl _) (a := a) (by rw [hT]; exact q1) q2 (argsL := as) (rest := S) (lenOf hpd hlen) rfl (by show 2 * 0 + _ ≤ _; omega) (hb hby hd) (fun _ _ => ⟨rfl, hT, hc, hs⟩)
  dsimp only [Pt.U, Pt.locs, Pt.cells, Pt.slots] at Y' q1 q2 q3 st hQ
  subst q1 q2 q3
  obtain ⟨s₂, o, hs, r⟩ := K v T' T'.heap ⟨hx, hby, hml, hown, hnm, hr, hlk, hZ, hT1, hn0, rfl, _, Y', N.app hF⟩ hQ
  exact ⟨s₂, o, st.trans hs, r⟩
end Walk
/-- an array: its component type, its length, what it holds -/
def oA (Z : State) (h : Heap) (a : Addr) (ty : FieldType) (n : Nat) (f : Nat → Value) : Prop := ∃ c : Cell, Arr Z h a c ty ∧ c.slots.size = n ∧ n < 2147483648 ∧ ∀ i, i < n → c.slots[i]? = some (f i)
section Arrays
variable {Z : State} {h h' : Heap} {a b : Addr} {ty : FieldType} {n sl : Nat} {f g : Nat → Value} {v : Value} {ws : List Addr}
theorem oA.lt (A : oA Z h a ty n f) : a < h.size := by obtain ⟨c, A, -⟩ := A; exact A.lt
theorem oA.small (A : oA Z h a ty n f) : n < 2147483648 := by obtain ⟨c, -, -, q, -⟩ := A; exact q
theorem oA.ext (A : oA Z h a ty n f) (E : Ext h h') : oA Z h' a ty n f := by obtain ⟨c, A, r⟩ := A; exact ⟨c, A.ext E, r⟩
theorem oA.other (A : oA Z h b ty n f) (W : Wr h h' a sl v) (q : b ≠ a) : oA Z h' b ty n f := by obtain ⟨c, A, r⟩ := A; exact ⟨c, A.other W q, r⟩
theorem oA.keep (A : oA Z h a ty n f) (K : Keep h h' ws) (q : a ∉ ws) : oA Z h' a ty n f := by obtain ⟨c, A, r⟩ := A; exact ⟨c, ⟨K.2.1 a c A.1 q, A.2⟩, r⟩
theorem oA.congr (A : oA Z h a ty n f) (q : ∀ i, i < n → f i = g i) : oA Z h a ty n g := by obtain ⟨c, A, r1, r2, r3⟩ := A; exact ⟨c, A, r1, r2, fun i hi => by rw [← q i hi]; exact r3 i hi⟩
theorem oA.set (A : oA Z h a ty n f) (W : Wr h h' a sl v) : oA Z h' a ty n (fun i => if i = sl then v else f i) := by
  obtain ⟨c, A, r1, r2, r3⟩ := A
  have hlt : sl < n := by
    obtain ⟨c', h1, -, h3, -⟩ := W
    cases A.1.symm.trans h1
    omega
  refine ⟨c.setSlot sl v, A.same W, (sz_set _ _ _).trans r1, r2, fun i hi => ?_⟩
  by_cases e : i = sl
  · subst e; simp [Cell.setSlot, r1, hlt]
  · simp only [e, if_false]
    rw [← r3 i hi]
    exact Array.getElem?_setIfInBounds_ne (Ne.symm e)
/-- one place changed -/
def oUpd {α : Type} (g : Nat → α) (k : Nat) (v : α) : Nat → α := fun i => if i = k then v else g i
theorem oUpd_hit {α : Type} (g : Nat → α) (k : Nat) (v : α) : oUpd g k v k = v := if_pos rfl
theorem oUpd_miss {α : Type} (g : Nat → α) {k i : Nat} (v : α) (q : i ≠ k) : oUpd g k v i = g i := if_neg q
def oZI : Nat → Int32 := fun _ => 0
def oZJ : Nat → Int64 := fun _ => 0
theorem oA.setI {g : Nat → Int32} {x : Int32} (A : oA Z h a ty n (fun i => .int (g i))) (W : Wr h h' a sl (.int x)) : oA Z h' a ty n (fun i => .int (oUpd g sl x i)) :=
  (A.set W).congr fun i _ => by unfold oUpd; split <;> rfl
theorem oA.setJ {g : Nat → Int64} {x : Int64} (A : oA Z h a ty n (fun i => .long (g i))) (W : Wr h h' a sl (.long x)) : oA Z h' a ty n (fun i => .long (oUpd g sl x i)) :=
  (A.set W).congr fun i _ => by unfold oUpd; split <;> rfl
theorem oNd {l : List Addr} (h : l.Nodup) (i j : Nat) (hij : i ≠ j) {a b : Addr} (ha : l[i]? = some a) (hb : l[j]? = some b) : a ≠ b := by
  intro e; subst e
  obtain ⟨h1, h2⟩ := List.getElem?_eq_some_iff.mp ha
  obtain ⟨h3, h4⟩ := List.getElem?_eq_some_iff.mp hb
  have q := List.pairwise_iff_getElem.mp h
  rcases Nat.lt_or_gt_of_ne hij with r | r
  · exact q i j h1 h3 r (h2.trans h4.symm)
  · exact q j i h3 h1 r (h4.trans h2.symm)
theorem oA.new {cA : ClassId} {k : Int32} (A : Arr Z h a (newA cA ty k) ty) (q : 0 ≤ k.toInt) : oA Z h a ty k.toInt.toNat (fun _ => defaultValue ty) := by
  have e : k.toNatClampNeg = k.toInt.toNat := rfl
  have := k.toInt_lt
  refine ⟨_, A, (sz_new _ _ _).trans e, by omega, fun i hi => ?_⟩
  have : i < k.toNatClampNeg := by rw [e]; exact hi
  simp [newA, this]
theorem oInb {j : Int32} {c : Cell} (r1 : c.slots.size = n) (q : 0 ≤ j.toInt) (q' : j.toInt < n) : ¬ (j < 0 ∨ c.slots.size ≤ j.toNatClampNeg) := by
  have e : j.toNatClampNeg = j.toInt.toNat := rfl
  rw [Int32.lt_iff_toInt_lt, r1, e, o0]; omega
end Arrays
section Walk2
variable {Z : State} {ω : OW} {γ : OG} {κ : OM} {Q : Option Value → Heap → Prop} {T : State} {h : Heap} {cs ss : Nat} {pc : Nat} {L : Array Slot} {S : List Value}
theorem ow_alen (X : oSt Z ω γ κ T h cs ss) (pc' : Nat) {a : Addr} {ty : FieldType} {n : Nat} {f : Nat → Value} {v : Int32} (A : oA Z h a ty n f) (hd : decode κ.1 pc = .ok (.arraylength, 1)) (hp : pc + 1 = pc') (hv : v.toInt = n)
    (K : oWP ω γ κ Q T pc' L (.int v :: S)) : oWP ω γ κ Q T pc L (.ref a :: S) := by
  obtain ⟨hx, hby, -, -, -, -, -, hZ, -, -, hT, locs, Y, -⟩ := X
  obtain ⟨c, A, r1, r2, -⟩ := A
  subst hp
  obtain ⟨s₂, o, hs, r⟩ := K
  have e : c.slots.size.toInt32 = v := Int32.toInt_inj.mp (by rw [hv, len_toInt (by omega), r1])
  exact ⟨s₂, o, Y.arraylength hx (by rw [hT]; exact A.1) (State.isArrayOf_alike hZ.alike A.2.1) (g := mkF γ.2.2.2.1 pc L (.ref a :: S)) rfl rfl (hb hby hd) _ (by rw [e]; exact hs), r⟩
theorem ow_iaload (X : oSt Z ω γ κ T h cs ss) (pc' : Nat) {a : Addr} {n : Nat} {f : Nat → Value} {j : Int32} {v : Value} (A : oA Z h a .int n f) (hd : decode κ.1 pc = .ok (.iaload, 1)) (hp : pc + 1 = pc') (h0 : 0 ≤ j.toInt) (h1 : j.toInt < n) (hv : f j.toInt.toNat = v)
    (K : oWP ω γ κ Q T pc' L (v :: S)) : oWP ω γ κ Q T pc L (.int j :: .ref a :: S) := by
  obtain ⟨hx, hby, -, -, -, -, -, hZ, -, -, hT, locs, Y, -⟩ := X
  obtain ⟨c, A, r1, r2, r3⟩ := A
  subst hp hv
  obtain ⟨s₂, o, hs, r⟩ := K
  exact ⟨s₂, o, Y.iaload hx (by rw [hT]; exact A.1) (State.isArrayOf_alike hZ.alike A.2.1) A.2.2 (oInb r1 h0 h1) (r3 _ (by show j.toInt.toNat < _; omega)) (g := mkF γ.2.2.2.1 pc L (.int j :: .ref a :: S)) rfl rfl (hb hby hd) _ hs, r⟩
theorem ow_laload (X : oSt Z ω γ κ T h cs ss) (pc' : Nat) {a : Addr} {n : Nat} {f : Nat → Value} {j : Int32} {v : Value} (A : oA Z h a .long n f) (hd : decode κ.1 pc = .ok (.laload, 1)) (hp : pc + 1 = pc') (h0 : 0 ≤ j.toInt) (h1 : j.toInt < n) (hv : f j.toInt.toNat = v)
    (K : oWP ω γ κ Q T pc' L (v :: S)) : oWP ω γ κ Q T pc L (.int j :: .ref a :: S) := by
  obtain ⟨hx, hby, -, -, -, -, -, hZ, -, -, hT, locs, Y, -⟩ := X
  obtain ⟨c, A, r1, r2, r3⟩ := A
  subst hp hv
  obtain ⟨s₂, o, hs, r⟩ := K
  exact ⟨s₂, o, Y.laload hx (by rw [hT]; exact A.1) (State.isArrayOf_alike hZ.alike A.2.1) A.2.2 (oInb r1 h0 h1) (r3 _ (by show j.toInt.toNat < _; omega)) (g := mkF γ.2.2.2.1 pc L (.int j :: .ref a :: S)) rfl rfl (hb hby hd) _ hs, r⟩
theorem ow_caload (X : oSt Z ω γ κ T h cs ss) (pc' : Nat) {a : Addr} {n : Nat} {f : Nat → Value} {j : Int32} {v : Value} (A : oA Z h a .char n f) (hd : decode κ.1 pc = .ok (.caload, 1)) (hp : pc + 1 = pc') (h0 : 0 ≤ j.toInt) (h1 : j.toInt < n) (hv : f j.toInt.toNat = v)
    (K : oWP ω γ κ Q T pc' L (v :: S)) : oWP ω γ κ Q T pc L (.int j :: .ref a :: S) := by
  obtain ⟨hx, hby, -, -, -, -, -, hZ, -, -, hT, locs, Y, -⟩ := X
  obtain ⟨c, A, r1, r2, r3⟩ := A
  subst hp hv
  obtain ⟨s₂, o, hs, r⟩ := K
  exact ⟨s₂, o, Y.caload hx (by rw [hT]; exact A.1) (State.isArrayOf_alike hZ.alike A.2.1) A.2.2 (oInb r1 h0 h1) (r3 _ (by show j.toInt.toNat < _; omega)) (g := mkF γ.2.2.2.1 pc L (.int j :: .ref a :: S)) rfl rfl (hb hby hd) _ hs, r⟩
theorem ow_baload (X : oSt Z ω γ κ T h cs ss) (pc' : Nat) {a : Addr} {n : Nat} {f : Nat → Value} {j : Int32} {v : Value} (A : oA Z h a .byte n f) (hd : decode κ.1 pc = .ok (.baload, 1)) (hp : pc + 1 = pc') (h0 : 0 ≤ j.toInt) (h1 : j.toInt < n) (hv : f j.toInt.toNat = v)
    (K : oWP ω γ κ Q T pc' L (v :: S)) : oWP ω γ κ Q T pc L (.int j :: .ref a :: S) := by
  obtain ⟨hx, hby, -, -, -, -, -, hZ, -, -, hT, locs, Y, -⟩ := X
  obtain ⟨c, A, r1, r2, r3⟩ := A
  subst hp hv
  obtain ⟨s₂, o, hs, r⟩ := K
  exact ⟨s₂, o, Y.baloadBytes hx (by rw [hT]; exact A.1) (State.isArrayOf_alike hZ.alike A.2.1) A.2.2 (oInb r1 h0 h1) (r3 _ (by show j.toInt.toNat < _; omega)) (g := mkF γ.2.2.2.1 pc L (.int j :: .ref a :: S)) rfl rfl (hb hby hd) _ hs, r⟩
theorem ow_baloadZ (X : oSt Z ω γ κ T h cs ss) (pc' : Nat) {a : Addr} {n : Nat} {f : Nat → Value} {j : Int32} {v : Value} (A : oA Z h a .boolean n f) (hd : decode κ.1 pc = .ok (.baload, 1)) (hp : pc + 1 = pc') (h0 : 0 ≤ j.toInt) (h1 : j.toInt < n) (hv : f j.toInt.toNat = v)
    (K : oWP ω γ κ Q T pc' L (v :: S)) : oWP ω γ κ Q T pc L (.int j :: .ref a :: S) := by
  obtain ⟨hx, hby, -, -, -, -, -, hZ, -, -, hT, locs, Y, -⟩ := X
  obtain ⟨c, A, r1, r2, r3⟩ := A
  subst hp hv
  obtain ⟨s₂, o, hs, r⟩ := K
  exact ⟨s₂, o, Y.baloadBooleans hx (by rw [hT]; exact A.1) (State.isArrayOf_alike hZ.alike A.2.1) A.2.2 (oInb r1 h0 h1) (r3 _ (by show j.toInt.toNat < _; omega)) (g := mkF γ.2.2.2.1 pc L (.int j :: .ref a :: S)) rfl rfl (hb hby hd) _ hs, r⟩
theorem ow_aaload (X : oSt Z ω γ κ T h cs ss) (pc' : Nat) {a : Addr} {ty : FieldType} {n : Nat} {f : Nat → Value} {j : Int32} {v : Value} (A : oA Z h a ty n f) (ht : ty.isReference = true) (hd : decode κ.1 pc = .ok (.aaload, 1)) (hp : pc + 1 = pc') (h0 : 0 ≤ j.toInt) (h1 : j.toInt < n) (hv : f j.toInt.toNat = v)
    (K : oWP ω γ κ Q T pc' L (v :: S)) : oWP ω γ κ Q T pc L (.int j :: .ref a :: S) := by
  obtain ⟨hx, hby, -, -, -, -, -, hZ, -, -, hT, locs, Y, -⟩ := X
  obtain ⟨c, A, r1, r2, r3⟩ := A
  subst hp hv
  obtain ⟨s₂, o, hs, r⟩ := K
  exact ⟨s₂, o, Y.aaload hx (by rw [hT]; exact A.1) (State.isArrayOf_alike hZ.alike A.2.1) ht A.2.2 (oInb r1 h0 h1) (r3 _ (by show j.toInt.toNat < _; omega)) (g := mkF γ.2.2.2.1 pc L (.int j :: .ref a :: S)) rfl rfl (hb hby hd) _ hs, r⟩
theorem ow_iastore (X : oSt Z ω γ κ T h cs ss) (pc' : Nat) {a : Addr} {n : Nat} {f : Nat → Value} {j : Int32} {x : Int32} (A : oA Z h a .int n f) (ha : ω.2.1 ≤ a) (hd : decode κ.1 pc = .ok (.iastore, 1)) (hp : pc + 1 = pc') (h0 : 0 ≤ j.toInt) (h1 : j.toInt < n)
    (K : ∀ T' h', oSt Z ω γ κ T' h' cs ss → Wr h h' a j.toInt.toNat (.int x) → oWP ω γ κ Q T' pc' L S) : oWP ω γ κ Q T pc L (.int x :: .int j :: .ref a :: S) := by
  obtain ⟨hx, hby, hml, hown, hnm, hr, hlk, hZ, hT1, hn0, hT, locs, Y, N⟩ := X
  obtain ⟨c, A, r1, r2, r3⟩ := A
  subst hp
  obtain ⟨T', h', Y', e', W, st⟩ := stI Y hx hZ hT A (oInb r1 h0 h1) (g := mkF γ.2.2.2.1 pc L (.int x :: .int j :: .ref a :: S)) rfl rfl (hb hby hd)
  obtain ⟨s₂, o, hs, r⟩ := K T' h' ⟨hx, hby, hml, hown, hnm, hr, hlk, hZ, hT1, hn0, e', _, Y', Fr.snoc Y' N ha⟩ W
  exact ⟨s₂, o, st _ hs, r⟩
theorem ow_lastore (X : oSt Z ω γ κ T h cs ss) (pc' : Nat) {a : Addr} {n : Nat} {f : Nat → Value} {j : Int32} {x : Int64} (A : oA Z h a .long n f) (ha : ω.2.1 ≤ a) (hd : decode κ.1 pc = .ok (.lastore, 1)) (hp : pc + 1 = pc') (h0 : 0 ≤ j.toInt) (h1 : j.toInt < n)
    (K : ∀ T' h', oSt Z ω γ κ T' h' cs ss → Wr h h' a j.toInt.toNat (.long x) → oWP ω γ κ Q T' pc' L S) : oWP ω γ κ Q T pc L (.long x :: .int j :: .ref a :: S) := by
  obtain ⟨hx, hby, hml, hown, hnm, hr, hlk, hZ, hT1, hn0, hT, locs, Y, N⟩ := X
  obtain ⟨c, A, r1, r2, r3⟩ := A
  subst hp
  obtain ⟨T', h', Y', e', W, st⟩ := stJ Y hx hZ hT A (oInb r1 h0 h1) (g := mkF γ.2.2.2.1 pc L (.long x :: .int j :: .ref a :: S)) rfl rfl (hb hby hd)
  obtain ⟨s₂, o, hs, r⟩ := K T' h' ⟨hx, hby, hml, hown, hnm, hr, hlk, hZ, hT1, hn0, e', _, Y', Fr.snoc Y' N ha⟩ W
  exact ⟨s₂, o, st _ hs, r⟩
theorem ow_castore (X : oSt Z ω γ κ T h cs ss) (pc' : Nat) {a : Addr} {n : Nat} {f : Nat → Value} {j : Int32} {x : Int32} (A : oA Z h a .char n f) (ha : ω.2.1 ≤ a) (hd : decode κ.1 pc = .ok (.castore, 1)) (hp : pc + 1 = pc') (h0 : 0 ≤ j.toInt) (h1 : j.toInt < n)
    (K : ∀ T' h', oSt Z ω γ κ T' h' cs ss → Wr h h' a j.toInt.toNat (.int (nar .char x)) → oWP ω γ κ Q T' pc' L S) : oWP ω γ κ Q T pc L (.int x :: .int j :: .ref a :: S) := by
  obtain ⟨hx, hby, hml, hown, hnm, hr, hlk, hZ, hT1, hn0, hT, locs, Y, N⟩ := X
  obtain ⟨c, A, r1, r2, r3⟩ := A
  subst hp
  obtain ⟨T', h', Y', e', W, st⟩ := stC Y hx hZ hT A (oInb r1 h0 h1) (g := mkF γ.2.2.2.1 pc L (.int x :: .int j :: .ref a :: S)) rfl rfl (hb hby hd)
  obtain ⟨s₂, o, hs, r⟩ := K T' h' ⟨hx, hby, hml, hown, hnm, hr, hlk, hZ, hT1, hn0, e', _, Y', Fr.snoc Y' N ha⟩ W
  exact ⟨s₂, o, st _ hs, r⟩
theorem ow_bastore (X : oSt Z ω γ κ T h cs ss) (pc' : Nat) {a : Addr} {n : Nat} {f : Nat → Value} {j : Int32} {x : Int32} (A : oA Z h a .byte n f) (ha : ω.2.1 ≤ a) (hd : decode κ.1 pc = .ok (.bastore, 1)) (hp : pc + 1 = pc') (h0 : 0 ≤ j.toInt) (h1 : j.toInt < n)
    (K : ∀ T' h', oSt Z ω γ κ T' h' cs ss → Wr h h' a j.toInt.toNat (.int x.toInt8.toInt32) → oWP ω γ κ Q T' pc' L S) : oWP ω γ κ Q T pc L (.int x :: .int j :: .ref a :: S) := by
  obtain ⟨hx, hby, hml, hown, hnm, hr, hlk, hZ, hT1, hn0, hT, locs, Y, N⟩ := X
  obtain ⟨c, A, r1, r2, r3⟩ := A
  subst hp
  obtain ⟨T', h', Y', e', W, st⟩ := stB Y hx hZ hT A (oInb r1 h0 h1) (g := mkF γ.2.2.2.1 pc L (.int x :: .int j :: .ref a :: S)) rfl rfl (hb hby hd)
  obtain ⟨s₂, o, hs, r⟩ := K T' h' ⟨hx, hby, hml, hown, hnm, hr, hlk, hZ, hT1, hn0, e', _, Y', Fr.snoc Y' N ha⟩ W
  exact ⟨s₂, o, st _ hs, r⟩
theorem ow_bastoreZ (X : oSt Z ω γ κ T h cs ss) (pc' : Nat) {a : Addr} {n : Nat} {f : Nat → Value} {j : Int32} {x : Int32} (A : oA Z h a .boolean n f) (ha : ω.2.1 ≤ a) (hd : decode κ.1 pc = .ok (.bastore, 1)) (hp : pc + 1 = pc') (h0 : 0 ≤ j.toInt) (h1 : j.toInt < n)
    (K : ∀ T' h', oSt Z ω γ κ T' h' cs ss → Wr h h' a j.toInt.toNat (.int (nar .boolean x)) → oWP ω γ κ Q T' pc' L S) : oWP ω γ κ Q T pc L (.int x :: .int j :: .ref a :: S) := by
  obtain ⟨hx, hby, hml, hown, hnm, hr, hlk, hZ, hT1, hn0, hT, locs, Y, N⟩ := X
  obtain ⟨c, A, r1, r2, r3⟩ := A
  subst hp
  obtain ⟨T', h', Y', e', W, st⟩ := stZ Y hx hZ hT A (oInb r1 h0 h1) (g := mkF γ.2.2.2.1 pc L (.int x :: .int j :: .ref a :: S)) rfl rfl (hb hby hd)
  obtain ⟨s₂, o, hs, r⟩ := K T' h' ⟨hx, hby, hml, hown, hnm, hr, hlk, hZ, hT1, hn0, e', _, Y', Fr.snoc Y' N ha⟩ W
  exact ⟨s₂, o, st _ hs, r⟩
theorem ow_aastore (X : oSt Z ω γ κ T h cs ss) (pc' : Nat) {a : Addr} {ty : FieldType} {n : Nat} {f : Nat → Value} {j : Int32} {v : Value} (A : oA Z h a ty n f) (ht : ty.isReference = true) (F : Sto Z h a v) (ha : ω.2.1 ≤ a) (hd : decode κ.1 pc = .ok (.aastore, 1)) (hp : pc + 1 = pc') (h0 : 0 ≤ j.toInt) (h1 : j.toInt < n)
    (K : ∀ T' h', oSt Z ω γ κ T' h' cs ss → Wr h h' a j.toInt.toNat v → oWP ω γ κ Q T' pc' L S) : oWP ω γ κ Q T pc L (v :: .int j :: .ref a :: S) := by
  obtain ⟨hx, hby, hml, hown, hnm, hr, hlk, hZ, hT1, hn0, hT, locs, Y, N⟩ := X
  obtain ⟨c, A, r1, r2, r3⟩ := A
  subst hp
  obtain ⟨T', h', Y', e', W, st⟩ := stR Y hx hZ hT A (oInb r1 h0 h1) ht F (g := mkF γ.2.2.2.1 pc L (v :: .int j :: .ref a :: S)) rfl rfl (hb hby hd)
  obtain ⟨s₂, o, hs, r⟩ := K T' h' ⟨hx, hby, hml, hown, hnm, hr, hlk, hZ, hT1, hn0, e', _, Y', Fr.snoc Y' N ha⟩ W
  exact ⟨s₂, o, st _ hs, r⟩
theorem ow_newP (X : oSt Z ω γ κ T h cs ss) (pc' i : Nat) {aty : ArrayType} {k : Int32} {cap : Nat} (hw : tables_1[i]? = some (.arrayClass (newarray.typeOf aty))) (hd : decode κ.1 pc = .ok (.newarray aty, 2)) (hp : pc + 2 = pc') (h0 : 0 ≤ k.toInt) (h1 : k.toInt ≤ cap) (hb1 : cap * 8 ≤ 536870912) (hc : cs + 1 ≤ κ.2.2.2.2.2.cells) (hsl : ss + cap ≤ κ.2.2.2.2.2.slots)
    (K : ∀ T' h' a, a = h.size → oSt Z ω γ κ T' h' (cs + 1) (ss + cap) → Ext h h' → oA Z h' a (newarray.typeOf aty) k.toInt.toNat (fun _ => defaultValue (newarray.typeOf aty)) → ω.2.1 ≤ a → oWP ω γ κ Q T' pc' L (.ref a :: S)) : oWP ω γ κ Q T pc L (.int k :: S) := by
  have hw' := oSt_at X i hw
  have hN := oSt_n0 X
  obtain ⟨hx, hby, hml, hown, hnm, hr, hlk, hZ, hT1, hn0, hT, locs, Y, N⟩ := X
  subst hp
  have hk : ¬ k < 0 := by rw [Int32.lt_iff_toInt_lt, o0]; omega
  have hk' : k.toNatClampNeg ≤ cap := by show k.toInt.toNat ≤ cap; omega
  obtain ⟨T', h', cA, Y', e', E, A, st⟩ := newP Y hx hZ hw' hT (g := mkF γ.2.2.2.1 pc L (.int k :: S)) rfl (hb hby hd) rfl hk hk' hb1 hc hsl
  obtain ⟨s₂, o, hs, r⟩ := K T' h' h.size rfl ⟨hx, hby, hml, hown, hnm, hr, hlk, hZ, hT1, hn0, e', _, Y', N⟩ E (oA.new A h0) hN
  exact ⟨s₂, o, st _ hs, r⟩
/-- a new array's class takes objects of C -/
def oOv (Z : State) (h : Heap) (a : Addr) (C : String) : Prop := ∃ (c : Cell) (ty : FieldType), Arr Z h a c ty ∧ Ovr Z c.cls C
theorem oOv.ext {h' : Heap} {a : Addr} {C : String} (O : oOv Z h a C) (E : Ext h h') : oOv Z h' a C := by obtain ⟨c, ty, A, O⟩ := O; exact ⟨c, ty, A.ext E, O⟩
theorem oOv.wr {h' : Heap} {a b : Addr} {C : String} {sl : Nat} {v : Value} (O : oOv Z h a C) (W : Wr h h' b sl v) : oOv Z h' a C := by
  obtain ⟨c, ty, A, O⟩ := O
  by_cases e : a = b
  · subst e; exact ⟨_, ty, A.same W, O⟩
  · exact ⟨c, ty, A.other W e, O⟩
theorem oOv.keep {h' : Heap} {a : Addr} {C : String} {ws : List Addr} (O : oOv Z h a C) (K : Keep h h' ws) (q : a ∉ ws) : oOv Z h' a C := by
  obtain ⟨c, ty, A, O⟩ := O; exact ⟨c, ty, ⟨K.2.1 a c A.1 q, A.2⟩, O⟩
theorem oOv.sto {a y : Addr} {C : String} (O : oOv Z h a C) (I : Ins Z h y C true) : Sto Z h a (.ref y) := by obtain ⟨c, ty, A, O⟩ := O; exact Sto.of A O I
theorem ow_newR (X : oSt Z ω γ κ T h cs ss) (pc' i1 i2 : Nat) {own C : String} {idx : Nat} {k : Int32} {cap : Nat} (w1 : tables_1[i1]? = some (.classLink own idx C)) (ho : κ.2.2.1 = own) (w2 : tables_1[i2]? = some (.arrayOver (.object C))) (hd : decode κ.1 pc = .ok (.anewarray idx, 3)) (hp : pc + 3 = pc') (h0 : 0 ≤ k.toInt) (h1 : k.toInt ≤ cap) (hb1 : cap * 8 ≤ 536870912) (hc : cs + 1 ≤ κ.2.2.2.2.2.cells) (hsl : ss + cap ≤ κ.2.2.2.2.2.slots)
    (K : ∀ T' h' a, a = h.size → oSt Z ω γ κ T' h' (cs + 1) (ss + cap) → Ext h h' → oA Z h' a (.object C) k.toInt.toNat (fun _ => .null) → oOv Z h' a C → ω.2.1 ≤ a → oWP ω γ κ Q T' pc' L (.ref a :: S)) : oWP ω γ κ Q T pc L (.int k :: S) := by
  have w1' := oSt_at X i1 w1
  have w2' := oSt_at X i2 w2
  have hN := oSt_n0 X
  obtain ⟨hx, hby, hml, hown, hnm, hr, hlk, hZ, hT1, hn0, hT, locs, Y, N⟩ := X
  subst hp ho
  have hk : ¬ k < 0 := by rw [Int32.lt_iff_toInt_lt, o0]; omega
  have hk' : k.toNatClampNeg ≤ cap := by show k.toInt.toNat ≤ cap; omega
  obtain ⟨T', h', cA, Y', e', E, A, O, st⟩ := newR Y hx hZ hown w1' w2' hT (g := mkF γ.2.2.2.1 pc L (.int k :: S)) rfl (hb hby hd) rfl hk hk' hb1 hc hsl
  obtain ⟨s₂, o, hs, r⟩ := K T' h' h.size rfl ⟨hx, hby, hml, hown, hnm, hr, hlk, hZ, hT1, hn0, e', _, Y', N⟩ E (oA.new A h0) ⟨_, _, A, O⟩ hN
  exact ⟨s₂, o, st _ hs, r⟩
end Walk2
def CP (Z : State) (h : Heap) (a : Addr) (v0 v1 v2 v3 v4 v5 v6 : Value) : Prop := Exa Z h a "com/example/rexquill/rexquill/Copies" ∧ Fld Z h a "com/example/rexquill/rexquill/Copies" "records" "[I" v0 ∧ Fld Z h a "com/example/rexquill/rexquill/Copies" "recordLists" "[I" v1 ∧ Fld Z h a "com/example/rexquill/rexquill/Copies" "innerRecords" "[I" v2 ∧ Fld Z h a "com/example/rexquill/rexquill/Copies" "innerRecordCount" "[I" v3 ∧ Fld Z h a "com/example/rexquill/rexquill/Copies" "topRecords" "I" v4 ∧ Fld Z h a "com/example/rexquill/rexquill/Copies" "topRecordCount" "I" v5 ∧ Fld Z h a "com/example/rexquill/rexquill/Copies" "copyRoom" "I" v6
theorem CP.lt {Z : State} {h : Heap} {a : Addr} {v0 v1 v2 v3 v4 v5 v6 : Value} (R : CP Z h a v0 v1 v2 v3 v4 v5 v6) : a < h.size := R.1.lt
theorem CP.ext {Z : State} {h h' : Heap} {a : Addr} {v0 v1 v2 v3 v4 v5 v6 : Value} (R : CP Z h a v0 v1 v2 v3 v4 v5 v6) (W : Ext h h') : CP Z h' a v0 v1 v2 v3 v4 v5 v6 := by
  obtain ⟨E, F0, F1, F2, F3, F4, F5, F6⟩ := R
  exact ⟨E.ext W, F0.ext W, F1.ext W, F2.ext W, F3.ext W, F4.ext W, F5.ext W, F6.ext W⟩
theorem CP.other {Z : State} {h h' : Heap} {a b : Addr} {sl : Nat} {w : Value} {v0 v1 v2 v3 v4 v5 v6 : Value} (R : CP Z h a v0 v1 v2 v3 v4 v5 v6) (W : Wr h h' b sl w) (q : a ≠ b) : CP Z h' a v0 v1 v2 v3 v4 v5 v6 := by
  obtain ⟨E, F0, F1, F2, F3, F4, F5, F6⟩ := R
  exact ⟨E.wr W, F0.other W (Or.inl q), F1.other W (Or.inl q), F2.other W (Or.inl q), F3.other W (Or.inl q), F4.other W (Or.inl q), F5.other W (Or.inl q), F6.other W (Or.inl q)⟩
theorem CP.keep {Z : State} {h h' : Heap} {a : Addr} {ws : List Addr} {v0 v1 v2 v3 v4 v5 v6 : Value} (R : CP Z h a v0 v1 v2 v3 v4 v5 v6) (K : Keep h h' ws) (q : a ∉ ws) : CP Z h' a v0 v1 v2 v3 v4 v5 v6 := by
  obtain ⟨E, F0, F1, F2, F3, F4, F5, F6⟩ := R
  exact ⟨E.keep K, F0.keep K q, F1.keep K q, F2.keep K q, F3.keep K q, F4.keep K q, F5.keep K q, F6.keep K q⟩
theorem CP.set_records {Z : State} {h h' : Heap} {a : Addr} {a0 : Array Value} {w : Value} {v0 v1 v2 v3 v4 v5 v6 : Value} (hw : ∀ d ∈ tables_1, d.before a0 Z = true) (R : CP Z h a v0 v1 v2 v3 v4 v5 v6) (W : Wr h h' a (RoadKit.slotOf Z "com/example/rexquill/rexquill/Copies" "records" "[I") w) : CP Z h' a w v1 v2 v3 v4 v5 v6 := by
  obtain ⟨E, F0, F1, F2, F3, F4, F5, F6⟩ := R
  exact ⟨E.wr W, F0.same W, F1.other W (Or.inr (slot_ne (C := "com/example/rexquill/rexquill/Copies") (Or.inr (hw _ (List.mem_of_getElem? (i := 24) rfl))) (Or.inr (hw _ (List.mem_of_getElem? (i := 22) rfl))) (by decide) (t := (.array .int)) (t' := (.array .int)) (by decide) (by decide))), F2.other W (Or.inr (slot_ne (C := "com/example/rexquill/rexquill/Copies") (Or.inr (hw _ (List.mem_of_getElem? (i := 26) rfl))) (Or.inr (hw _ (List.mem_of_getElem? (i := 22) rfl))) (by decide) (t := (.array .int)) (t' := (.array .int)) (by decide) (by decide))), F3.other W (Or.inr (slot_ne (C := "com/example/rexquill/rexquill/Copies") (Or.inr (hw _ (List.mem_of_getElem? (i := 28) rfl))) (Or.inr (hw _ (List.mem_of_getElem? (i := 22) rfl))) (by decide) (t := (.array .int)) (t' := (.array .int)) (by decide) (by decide))), F4.other W (Or.inr (slot_ne (C := "com/example/rexquill/rexquill/Copies") (Or.inr (hw _ (List.mem_of_getElem? (i := 43) rfl))) (Or.inr (hw _ (List.mem_of_getElem? (i := 22) rfl))) (by decide) (t := .int) (t' := (.array .int)) (by decide) (by decide))), F5.other W (Or.inr (slot_ne (C := "com/example/rexquill/rexquill/Copies") (Or.inr (hw _ (List.mem_of_getElem? (i := 45) rfl))) (Or.inr (hw _ (List.mem_of_getElem? (i := 22) rfl))) (by decide) (t := .int) (t' := (.array .int)) (by decide) (by decide))), F6.other W (Or.inr (slot_ne (C := "com/example/rexquill/rexquill/Copies") (Or.inr (hw _ (List.mem_of_getElem? (i := 51) rfl))) (Or.inr (hw _ (List.mem_of_getElem? (i := 22) rfl))) (by decide) (t := .int) (t' := (.array .int)) (by decide) (by decide)))⟩
theorem CP.set_recordLists {Z : State} {h h' : Heap} {a : Addr} {a0 : Array Value} {w : Value} {v0 v1 v2 v3 v4 v5 v6 : Value} (hw : ∀ d ∈ tables_1, d.before a0 Z = true) (R : CP Z h a v0 v1 v2 v3 v4 v5 v6) (W : Wr h h' a (RoadKit.slotOf Z "com/example/rexquill/rexquill/Copies" "recordLists" "[I") w) : CP Z h' a v0 w v2 v3 v4 v5 v6 := by
  obtain ⟨E, F0, F1, F2, F3, F4, F5, F6⟩ := R
  exact ⟨E.wr W, F0.other W (Or.inr (slot_ne (C := "com/example/rexquill/rexquill/Copies") (Or.inr (hw _ (List.mem_of_getElem? (i := 22) rfl))) (Or.inr (hw _ (List.mem_of_getElem? (i := 24) rfl))) (by decide) (t := (.array .int)) (t' := (.array .int)) (by decide) (by decide))), F1.same W, F2.other W (Or.inr (slot_ne (C := "com/example/rexquill/rexquill/Copies") (Or.inr (hw _ (List.mem_of_getElem? (i := 26) rfl))) (Or.inr (hw _ (List.mem_of_getElem? (i := 24) rfl))) (by decide) (t := (.array .int)) (t' := (.array .int)) (by decide) (by decide))), F3.other W (Or.inr (slot_ne (C := "com/example/rexquill/rexquill/Copies") (Or.inr (hw _ (List.mem_of_getElem? (i := 28) rfl))) (Or.inr (hw _ (List.mem_of_getElem? (i := 24) rfl))) (by decide) (t := (.array .int)) (t' := (.array .int)) (by decide) (by decide))), F4.other W (Or.inr (slot_ne (C := "com/example/rexquill/rexquill/Copies") (Or.inr (hw _ (List.mem_of_getElem? (i := 43) rfl))) (Or.inr (hw _ (List.mem_of_getElem? (i := 24) rfl))) (by decide) (t := .int) (t' := (.array .int)) (by decide) (by decide))), F5.other W (Or.inr (slot_ne (C := "com/example/rexquill/rexquill/Copies") (Or.inr (hw _ (List.mem_of_getElem? (i := 45) rfl))) (Or.inr (hw _ (List.mem_of_getElem? (i := 24) rfl))) (by decide) (t := .int) (t' := (.array .int)) (by decide) (by decide))), F6.other W (Or.inr (slot_ne (C := "com/example/rexquill/rexquill/Copies") (Or.inr (hw _ (List.mem_of_getElem? (i := 51) rfl))) (Or.inr (hw _ (List.mem_of_getElem? (i := 24) rfl))) (by decide) (t := .int) (t' := (.array .int)) (by decide) (by decide)))⟩
theorem CP.set_innerRecords {Z : State} {h h' : Heap} {a : Addr} {a0 : Array Value} {w : Value} {v0 v1 v2 v3 v4 v5 v6 : Value} (hw : ∀ d ∈ tables_1, d.before a0 Z = true) (R : CP Z h a v0 v1 v2 v3 v4 v5 v6) (W : Wr h h' a (RoadKit.slotOf Z "com/example/rexquill/rexquill/Copies" "innerRecords" "[I") w) : CP Z h' a v0 v1 w v3 v4 v5 v6 := by
  obtain ⟨E, F0, F1, F2, F3, F4, F5, F6⟩ := R
  exact ⟨E.wr W, F0.other W (Or.inr (slot_ne (C := "com/example/rexquill/rexquill/Copies") (Or.inr (hw _ (List.mem_of_getElem? (i := 22) rfl))) (Or.inr (hw _ (List.mem_of_getElem? (i := 26) rfl))) (by decide) (t := (.array .int)) (t' := (.array .int)) (by decide) (by decide))), F1.other W (Or.inr (slot_ne (C := "com/example/rexquill/rexquill/Copies") (Or.inr (hw _ (List.mem_of_getElem? (i := 24) rfl))) (Or.inr (hw _ (List.mem_of_getElem? (i := 26) rfl))) (by decide) (t := (.array .int)) (t' := (.array .int)) (by decide) (by decide))), F2.same W, F3.other W (Or.inr (slot_ne (C := "com/example/rexquill/rexquill/Copies") (Or.inr (hw _ (List.mem_of_getElem? (i := 28) rfl))) (Or.inr (hw _ (List.mem_of_getElem? (i := 26) rfl))) (by decide) (t := (.array .int)) (t' := (.array .int)) (by decide) (by decide))), F4.other W (Or.inr (slot_ne (C := "com/example/rexquill/rexquill/Copies") (Or.inr (hw _ (List.mem_of_getElem? (i := 43) rfl))) (Or.inr (hw _ (List.mem_of_getElem? (i := 26) rfl))) (by decide) (t := .int) (t' := (.array .int)) (by decide) (by decide))), F5.other W (Or.inr (slot_ne (C := "com/example/rexquill/rexquill/Copies") (Or.inr (hw _ (List.mem_of_getElem? (i := 45) rfl))) (Or.inr (hw _ (List.mem_of_getElem? (i := 26) rfl))) (by decide) (t := .int) (t' := (.array .int)) (by decide) (by decide))), F6.other W (Or.inr (slot_ne (C := "com/example/rexquill/rexquill/Copies") (Or.inr (hw _ (List.mem_of_getElem? (i := 51) rfl))) (Or.inr (hw _ (List.mem_of_getElem? (i := 26) rfl))) (by decide) (t := .int) (t' := (.array .int)) (by decide) (by decide)))⟩
theorem CP.set_innerRecordCount {Z : State} {h h' : Heap} {a : Addr} {a0 : Array Value} {w : Value} {v0 v1 v2 v3 v4 v5 v6 : Value} (hw : ∀ d ∈ tables_1, d.before a0 Z = true) (R : CP Z h a v0 v1 v2 v3 v4 v5 v6) (W : Wr h h' a (RoadKit.slotOf Z "com/example/rexquill/rexquill/Copies" "innerRecordCount" "[I") w) : CP Z h' a v0 v1 v2 w v4 v5 v6 := by
  obtain ⟨E, F0, F1, F2, F3, F4, F5, F6⟩ := R
  exact ⟨E.wr W, F0.other W (Or.inr (slot_ne (C := "com/example/rexquill/rexquill/Copies") (Or.inr (hw _ (List.mem_of_getElem? (i := 22) rfl))) (Or.inr (hw _ (List.mem_of_getElem? (i := 28) rfl))) (by decide) (t := (.array .int)) (t' := (.array .int)) (by decide) (by decide))), F1.other W (Or.inr (slot_ne (C := "com/example/rexquill/rexquill/Copies") (Or.inr (hw _ (List.mem_of_getElem? (i := 24) rfl))) (Or.inr (hw _ (List.mem_of_getElem? (i := 28) rfl))) (by decide) (t := (.array .int)) (t' := (.array .int)) (by decide) (by decide))), F2.other W (Or.inr (slot_ne (C := "com/example/rexquill/rexquill/Copies") (Or.inr (hw _ (List.mem_of_getElem? (i := 26) rfl))) (Or.inr (hw _ (List.mem_of_getElem? (i := 28) rfl))) (by decide) (t := (.array .int)) (t' := (.array .int)) (by decide) (by decide))), F3.same W, F4.other W (Or.inr (slot_ne (C := "com/example/rexquill/rexquill/Copies") (Or.inr (hw _ (List.mem_of_getElem? (i := 43) rfl))) (Or.inr (hw _ (List.mem_of_getElem? (i := 28) rfl))) (by decide) (t := .int) (t' := (.array .int)) (by decide) (by decide))), F5.other W (Or.inr (slot_ne (C := "com/example/rexquill/rexquill/Copies") (Or.inr (hw _ (List.mem_of_getElem? (i := 45) rfl))) (Or.inr (hw _ (List.mem_of_getElem? (i := 28) rfl))) (by decide) (t := .int) (t' := (.array .int)) (by decide) (by decide))), F6.other W (Or.inr (slot_ne (C := "com/example/rexquill/rexquill/Copies") (Or.inr (hw _ (List.mem_of_getElem? (i := 51) rfl))) (Or.inr (hw _ (List.mem_of_getElem? (i := 28) rfl))) (by decide) (t := .int) (t' := (.array .int)) (by decide) (by decide)))⟩
theorem CP.set_topRecords {Z : State} {h h' : Heap} {a : Addr} {a0 : Array Value} {w : Value} {v0 v1 v2 v3 v4 v5 v6 : Value} (hw : ∀ d ∈ tables_1, d.before a0 Z = true) (R : CP Z h a v0 v1 v2 v3 v4 v5 v6) (W : Wr h h' a (RoadKit.slotOf Z "com/example/rexquill/rexquill/Copies" "topRecords" "I") w) : CP Z h' a v0 v1 v2 v3 w v5 v6 := by
  obtain ⟨E, F0, F1, F2, F3, F4, F5, F6⟩ := R
  exact ⟨E.wr W, F0.other W (Or.inr (slot_ne (C := "com/example/rexquill/rexquill/Copies") (Or.inr (hw _ (List.mem_of_getElem? (i := 22) rfl))) (Or.inr (hw _ (List.mem_of_getElem? (i := 43) rfl))) (by decide) (t := (.array .int)) (t' := .int) (by decide) (by decide))), F1.other W (Or.inr (slot_ne (C := "com/example/rexquill/rexquill/Copies") (Or.inr (hw _ (List.mem_of_getElem? (i := 24) rfl))) (Or.inr (hw _ (List.mem_of_getElem? (i := 43) rfl))) (by decide) (t := (.array .int)) (t' := .int) (by decide) (by decide))), F2.other W (Or.inr (slot_ne (C := "com/example/rexquill/rexquill/Copies") (Or.inr (hw _ (List.mem_of_getElem? (i := 26) rfl))) (Or.inr (hw _ (List.mem_of_getElem? (i := 43) rfl))) (by decide) (t := (.array .int)) (t' := .int) (by decide) (by decide))), F3.other W (Or.inr (slot_ne (C := "com/example/rexquill/rexquill/Copies") (Or.inr (hw _ (List.mem_of_getElem? (i := 28) rfl))) (Or.inr (hw _ (List.mem_of_getElem? (i := 43) rfl))) (by decide) (t := (.array .int)) (t' := .int) (by decide) (by decide))), F4.same W, F5.other W (Or.inr (slot_ne (C := "com/example/rexquill/rexquill/Copies") (Or.inr (hw _ (List.mem_of_getElem? (i := 45) rfl))) (Or.inr (hw _ (List.mem_of_getElem? (i := 43) rfl))) (by decide) (t := .int) (t' := .int) (by decide) (by decide))), F6.other W (Or.inr (slot_ne (C := "com/example/rexquill/rexquill/Copies") (Or.inr (hw _ (List.mem_of_getElem? (i := 51) rfl))) (Or.inr (hw _ (List.mem_of_getElem? (i := 43) rfl))) (by decide) (t := .int) (t' := .int) (by decide) (by decide)))⟩
theorem CP.set_topRecordCount {Z : State} {h h' : Heap} {a : Addr} {a0 : Array Value} {w : Value} {v0 v1 v2 v3 v4 v5 v6 : Value} (hw : ∀ d ∈ tables_1, d.before a0 Z = true) (R : CP Z h a v0 v1 v2 v3 v4 v5 v6) (W : Wr h h' a (RoadKit.slotOf Z "com/example/rexquill/rexquill/Copies" "topRecordCount" "I") w) : CP Z h' a v0 v1 v2 v3 v4 w v6 := by
  obtain ⟨E, F0, F1, F2, F3, F4, F5, F6⟩ := R
  exact ⟨E.wr W, F0.other W (Or.inr (slot_ne (C := "com/example/rexquill/rexquill/Copies") (Or.inr (hw _ (List.mem_of_getElem? (i := 22) rfl))) (Or.inr (hw _ (List.mem_of_getElem? (i := 45) rfl))) (by decide) (t := (.array .int)) (t' := .int) (by decide) (by decide))), F1.other W (Or.inr (slot_ne (C := "com/example/rexquill/rexquill/Copies") (Or.inr (hw _ (List.mem_of_getElem? (i := 24) rfl))) (Or.inr (hw _ (List.mem_of_getElem? (i := 45) rfl))) (by decide) (t := (.array .int)) (t' := .int) (by decide) (by decide))), F2.other W (Or.inr (slot_ne (C := "com/example/rexquill/rexquill/Copies") (Or.inr (hw _ (List.mem_of_getElem? (i := 26) rfl))) (Or.inr (hw _ (List.mem_of_getElem? (i := 45) rfl))) (by decide) (t := (.array .int)) (t' := .int) (by decide) (by decide))), F3.other W (Or.inr (slot_ne (C := "com/example/rexquill/rexquill/Copies") (Or.inr (hw _ (List.mem_of_getElem? (i := 28) rfl))) (Or.inr (hw _ (List.mem_of_getElem? (i := 45) rfl))) (by decide) (t := (.array .int)) (t' := .int) (by decide) (by decide))), F4.other W (Or.inr (slot_ne (C := "com/example/rexquill/rexquill/Copies") (Or.inr (hw _ (List.mem_of_getElem? (i := 43) rfl))) (Or.inr (hw _ (List.mem_of_getElem? (i := 45) rfl))) (by decide) (t := .int) (t' := .int) (by decide) (by decide))), F5.same W, F6.other W (Or.inr (slot_ne (C := "com/example/rexquill/rexquill/Copies") (Or.inr (hw _ (List.mem_of_getElem? (i := 51) rfl))) (Or.inr (hw _ (List.mem_of_getElem? (i := 45) rfl))) (by decide) (t := .int) (t' := .int) (by decide) (by decide)))⟩
theorem CP.set_copyRoom {Z : State} {h h' : Heap} {a : Addr} {a0 : Array Value} {w : Value} {v0 v1 v2 v3 v4 v5 v6 : Value} (hw : ∀ d ∈ tables_1, d.before a0 Z = true) (R : CP Z h a v0 v1 v2 v3 v4 v5 v6) (W : Wr h h' a (RoadKit.slotOf Z "com/example/rexquill/rexquill/Copies" "copyRoom" "I") w) : CP Z h' a v0 v1 v2 v3 v4 v5 w := by
  obtain ⟨E, F0, F1, F2, F3, F4, F5, F6⟩ := R
  exact ⟨E.wr W, F0.other W (Or.inr (slot_ne (C := "com/example/rexquill/rexquill/Copies") (Or.inr (hw _ (List.mem_of_getElem? (i := 22) rfl))) (Or.inr (hw _ (List.mem_of_getElem? (i := 51) rfl))) (by decide) (t := (.array .int)) (t' := .int) (by decide) (by decide))), F1.other W (Or.inr (slot_ne (C := "com/example/rexquill/rexquill/Copies") (Or.inr (hw _ (List.mem_of_getElem? (i := 24) rfl))) (Or.inr (hw _ (List.mem_of_getElem? (i := 51) rfl))) (by decide) (t := (.array .int)) (t' := .int) (by decide) (by decide))), F2.other W (Or.inr (slot_ne (C := "com/example/rexquill/rexquill/Copies") (Or.inr (hw _ (List.mem_of_getElem? (i := 26) rfl))) (Or.inr (hw _ (List.mem_of_getElem? (i := 51) rfl))) (by decide) (t := (.array .int)) (t' := .int) (by decide) (by decide))), F3.other W (Or.inr (slot_ne (C := "com/example/rexquill/rexquill/Copies") (Or.inr (hw _ (List.mem_of_getElem? (i := 28) rfl))) (Or.inr (hw _ (List.mem_of_getElem? (i := 51) rfl))) (by decide) (t := (.array .int)) (t' := .int) (by decide) (by decide))), F4.other W (Or.inr (slot_ne (C := "com/example/rexquill/rexquill/Copies") (Or.inr (hw _ (List.mem_of_getElem? (i := 43) rfl))) (Or.inr (hw _ (List.mem_of_getElem? (i := 51) rfl))) (by decide) (t := .int) (t' := .int) (by decide) (by decide))), F5.other W (Or.inr (slot_ne (C := "com/example/rexquill/rexquill/Copies") (Or.inr (hw _ (List.mem_of_getElem? (i := 45) rfl))) (Or.inr (hw _ (List.mem_of_getElem? (i := 51) rfl))) (by decide) (t := .int) (t' := .int) (by decide) (by decide))), F6.same W⟩
/-- System.arraycopy between int arrays: what the target holds behind it isn't said -/
theorem oArv {Z : State} {h : Heap} {a : Addr} {n : Nat} {g : Nat → Int32} (A : oA Z h a .int n (fun i => .int (g i))) : ∃ k, Arv Z h a k .int n.toInt32 ((List.range n).map fun i => .int (g i)) (.int 0) := by
  obtain ⟨c, A, r1, r2, r3⟩ := A
  have e : n.toInt32.toNatClampNeg = n := by show n.toInt32.toInt.toNat = n; rw [len_toInt r2]; rfl
  have gd : ∀ i, i < n → ((List.range n).map fun i => Value.int (g i)).getD i (.int 0) = .int (g i) := fun i hi => by simp [hi]
  refine ⟨c.cls, c, A, rfl, by rw [r1, e], ?_, fun i hi => ?_, fun i hi => ?_⟩
  · rw [Int32.lt_iff_toInt_lt, len_toInt r2, o0]; omega
  · rw [gd i (by omega)]; exact r3 i (by omega)
  · rw [gd i (by omega)]; rfl
def oUnI : Value → Int32
  | .int x => x
  | _ => 0
theorem oArvBack {Z : State} {h : Heap} {a : Addr} {k : ClassId} {n : Nat} (hn : n < 2147483648) {vs : List Value} {d : Value} (A : Arv Z h a k .int n.toInt32 vs d) : ∃ g : Nat → Int32, oA Z h a .int n (fun i => .int (g i)) := by
  obtain ⟨c, A, -, S, -, H, G⟩ := A
  have e : n.toInt32.toNatClampNeg = n := by show n.toInt32.toInt.toNat = n; rw [len_toInt hn]; rfl
  rw [e] at S
  refine ⟨fun i => oUnI (vs.getD i d), c, A, S, hn, fun i hi => ?_⟩
  rw [H i (by omega)]
  obtain ⟨x, hx⟩ := fit_I (G i (by omega)) (Or.inl rfl)
  have e3 : oUnI (vs.getD i d) = x := by rw [hx]; rfl
  show some (vs.getD i d) = some (.int (oUnI (vs.getD i d)))
  rw [e3, hx]
theorem ow_acopy {Z : State} {ω : OW} {γ : OG} {κ : OM} {Q : Option Value → Heap → Prop} {T : State} {h : Heap} {cs ss : Nat} {pc : Nat} {L : Array Slot} {S : List Value} (X : oSt Z ω γ κ T h cs ss) (pc' i1 i2 i3 i4 : Nat) {own : String} {idx : Nat} {a b : Addr} {n n' : Nat} {g g' : Nat → Int32} {sp dp nn : Int32} {W : Nat}
    (w1 : tables_1[i1]? = some (.methodLink own idx Jvm.Stand.acN)) (ho : κ.2.2.1 = own) (w2 : tables_1[i2]? = some (.native Jvm.Stand.acN)) (w3 : tables_1[i3]? = some (.static Jvm.Stand.acN)) (w4 : tables_1[i4]? = some (.initialized "java/lang/System"))
    (A : oA Z h a .int n (fun i => .int (g i))) (B : oA Z h b .int n' (fun i => .int (g' i))) (hb1 : ω.2.1 ≤ b) (h1 : 0 ≤ sp.toInt) (h2 : 0 ≤ dp.toInt) (h3 : 0 ≤ nn.toInt) (h4 : sp.toInt + nn.toInt ≤ n) (h5 : dp.toInt + nn.toInt ≤ n') (hL : L.size = κ.2.1) (hd : decode κ.1 pc = .ok (.invokestatic idx, 3)) (hp : pc + 3 = pc')
    (hf : 1 ≤ κ.2.2.2.2.2.frames) (hW : (S.map fun v => v.category).sum ≤ W) (hl : W + (nativeFrameWords "java/lang/System" "arraycopy" 5 + 11) ≤ κ.2.2.2.2.2.locals)
    (K : ∀ T' h' (gg : Nat → Int32), oSt Z ω γ κ T' h' cs ss → Keep h h' [b] → oA Z h' b .int n' (fun i => .int (gg i)) → oWP ω γ κ Q T' pc' L S) : oWP ω γ κ Q T pc L (.int nn :: .int dp :: .ref b :: .int sp :: .ref a :: S) := by
  have w1' := oSt_at X i1 w1
  have w2' := oSt_at X i2 w2
  have w3' := oSt_at X i3 w3
  have w4' := oSt_at X i4 w4
  have hn := A.small
  have hn' := B.small
  obtain ⟨ka, A'⟩ := oArv A
  obtain ⟨kb, B'⟩ := oArv B
  obtain ⟨hx, hby, hml, hown, hnm, hr, hlk, hZ, hT1, hn0, hT, locs, Y, N⟩ := X
  subst hp ho
  have e1 : n.toInt32.toNatClampNeg = n := by show n.toInt32.toInt.toNat = n; rw [len_toInt hn]; rfl
  have e2 : n'.toInt32.toNatClampNeg = n' := by show n'.toInt32.toInt.toNat = n'; rw [len_toInt hn']; rfl
  have neg : ∀ x : Int32, 0 ≤ x.toInt → ¬ x < 0 := fun x q => by rw [Int32.lt_iff_toInt_lt, o0]; omega
  obtain ⟨T', h', L', Y', e', N', Kp, B'', st⟩ := cpA Y hx hZ hown w1' w2' w3' w4' hT A' B' (Or.inl ⟨rfl, rfl⟩) (neg _ h1) (neg _ h2) (neg _ h3) (by rw [e1]; show sp.toInt.toNat + nn.toInt.toNat ≤ n; omega) (by rw [e2]; show dp.toInt.toNat + nn.toInt.toNat ≤ n'; omega) rfl (by rw [List.length_map, List.length_range]; show dp.toInt.toNat + nn.toInt.toNat ≤ n'; omega) N hb1 (g := mkF γ.2.2.2.1 pc L (.int nn :: .int dp :: .ref b :: .int sp :: .ref a :: S)) rfl (by rw [hml]; exact hL) rfl (hb hby hd) hf (W := W) (by show 2 * 0 + _ ≤ _; omega) hl
  obtain ⟨gg, B3⟩ := oArvBack hn' B''
  obtain ⟨s₂, o, hs, r⟩ := K T' h' gg ⟨hx, hby, hml, hown, hnm, hr, hlk, hZ, hT1, hn0, e', _, Y', N'⟩ Kp B3
  exact ⟨s₂, o, st _ hs, r⟩
theorem own_add (x y : Int32) (h1 : -2147483648 ≤ x.toInt + y.toInt) (h2 : x.toInt + y.toInt < 2147483648) : (x + y).toInt = x.toInt + y.toInt := by
  have := c_iadd x y; have := rng32 (x + y); omega
theorem own_sub (x y : Int32) (h1 : -2147483648 ≤ x.toInt - y.toInt) (h2 : x.toInt - y.toInt < 2147483648) : (x - y).toInt = x.toInt - y.toInt := by
  have := c_isub x y; have := rng32 (x - y); omega
theorem own_addk (x k : Int32) (K : Int) (hk : k.toInt = K) (h0 : 0 ≤ K) (h : x.toInt + K < 2147483648) : (x + k).toInt = x.toInt + K := by
  subst hk; have := rng32 x; exact own_add x k (by omega) h
theorem own_subk (x k : Int32) (K : Int) (hk : k.toInt = K) (h0 : 0 ≤ K) (h : -2147483648 ≤ x.toInt - K) : (x - k).toInt = x.toInt - K := by
  subst hk; have := rng32 x; exact own_sub x k h (by omega)
theorem own_dec (i : Int32) (h : 0 < i.toInt) : (i + (-1 : Int32)).toInt = i.toInt - 1 := by
  have em : (-1 : Int32).toInt = -1 := rfl
  have r := rng32 i
  rw [own_add i (-1) (by omega) (by omega), em, Int.sub_eq_add_neg]
theorem own_d6 (k : Int32) (h : 0 ≤ k.toInt) : (k / (6 : Int32)).toInt = k.toInt / 6 := (c_idiv k 6 6 rfl (by decide)).1 h
theorem own_six (w k : Int32) (n : Nat) (h0 : 0 ≤ k.toInt) (h1 : k.toInt + 5 < n) (hn : (n : Int) < 2147483648) : (k + (1 : Int32)).toInt = k.toInt + 1 ∧ (k + (2 : Int32)).toInt = k.toInt + 2 ∧ (k + (3 : Int32)).toInt = k.toInt + 3 ∧ (k + (4 : Int32)).toInt = k.toInt + 4 ∧ (k + (5 : Int32)).toInt = k.toInt + 5 :=
  ⟨own_addk k 1 1 rfl (by decide) (by omega), own_addk k 2 2 rfl (by decide) (by omega), own_addk k 3 3 rfl (by decide) (by omega), own_addk k 4 4 rfl (by decide) (by omega), own_addk k 5 5 rfl (by decide) (by omega)⟩
theorem d5_0 : decode prog_20_method_17_code 0 = .ok (.aload_n 0, 1) := by decide +kernel
theorem d5_1 : decode prog_20_method_17_code 1 = .ok (.iload_n 1, 1) := by decide +kernel
theorem d5_2 : decode prog_20_method_17_code 2 = .ok (.iconst 2, 1) := by decide +kernel
theorem d5_3 : decode prog_20_method_17_code 3 = .ok (.iadd, 1) := by decide +kernel
theorem d5_4 : decode prog_20_method_17_code 4 = .ok (.iaload, 1) := by decide +kernel
theorem d5_5 : decode prog_20_method_17_code 5 = .ok (.aload_n 0, 1) := by decide +kernel
theorem d5_6 : decode prog_20_method_17_code 6 = .ok (.iload_n 1, 1) := by decide +kernel
theorem d5_7 : decode prog_20_method_17_code 7 = .ok (.iaload, 1) := by decide +kernel
theorem d5_8 : decode prog_20_method_17_code 8 = .ok (.isub, 1) := by decide +kernel
theorem d5_9 : decode prog_20_method_17_code 9 = .ok (.aload_n 0, 1) := by decide +kernel
theorem d5_10 : decode prog_20_method_17_code 10 = .ok (.iload_n 1, 1) := by decide +kernel
theorem d5_11 : decode prog_20_method_17_code 11 = .ok (.iconst 1, 1) := by decide +kernel
theorem d5_12 : decode prog_20_method_17_code 12 = .ok (.iadd, 1) := by decide +kernel
theorem d5_13 : decode prog_20_method_17_code 13 = .ok (.iaload, 1) := by decide +kernel
theorem d5_14 : decode prog_20_method_17_code 14 = .ok (.idiv, 1) := by decide +kernel
theorem d5_15 : decode prog_20_method_17_code 15 = .ok (.aload_n 0, 1) := by decide +kernel
theorem d5_16 : decode prog_20_method_17_code 16 = .ok (.iload_n 1, 1) := by decide +kernel
theorem d5_17 : decode prog_20_method_17_code 17 = .ok (.iconst 4, 1) := by decide +kernel
theorem d5_18 : decode prog_20_method_17_code 18 = .ok (.iadd, 1) := by decide +kernel
theorem d5_19 : decode prog_20_method_17_code 19 = .ok (.iaload, 1) := by decide +kernel
theorem d5_20 : decode prog_20_method_17_code 20 = .ok (.aload_n 0, 1) := by decide +kernel
theorem d5_21 : decode prog_20_method_17_code 21 = .ok (.iload_n 1, 1) := by decide +kernel
theorem d5_22 : decode prog_20_method_17_code 22 = .ok (.iconst 3, 1) := by decide +kernel
theorem d5_23 : decode prog_20_method_17_code 23 = .ok (.iadd, 1) := by decide +kernel
theorem d5_24 : decode prog_20_method_17_code 24 = .ok (.iaload, 1) := by decide +kernel
theorem d5_25 : decode prog_20_method_17_code 25 = .ok (.isub, 1) := by decide +kernel
theorem d5_26 : decode prog_20_method_17_code 26 = .ok (.isub, 1) := by decide +kernel
theorem d5_27 : decode prog_20_method_17_code 27 = .ok (.ireturn, 1) := by decide +kernel
def k5 : OM := (prog_20_method_17_code, 2, "com/example/rexquill/rexquill/Copies", "firstOptionalCopy", (some .int), { frames := 0, cells := 0, slots := 0, locals := 0 })
theorem pn5 : plainFor (⟨"com/example/rexquill/rexquill/Copies", "firstOptionalCopy", "([II)I"⟩ : MethodName) = true := plainFor_of_name (by first | (simp [plainName, overriddenIn]; done) | decide +kernel)
theorem pd5 : parseMethodDescriptor "([II)I" = some ⟨[(.array .int), .int], (some .int)⟩ := by decide +kernel
set_option maxRecDepth 65536 in
set_option maxHeartbeats 4000000 in
theorem C_foc {Z : State} {ω : OW} {h : Heap} (hw_ : ∀ d ∈ tables_1, d.before ω.2.2 Z = true) (hn_ : ω.2.1 ≤ h.size) (w : Addr) (k : Int32) (n : Nat) (G : Nat → Int32) (A0 : oA Z h w .int n (fun i_ => .int (G i_))) (hk0 : 0 ≤ k.toInt) (hk1 : k.toInt + 5 < n) (hn : (n : Int) < 2147483648) (hz : G (k + (1 : Int32)).toInt.toNat ≠ 0) :
    oC Z ω (⟨"com/example/rexquill/rexquill/Copies", "firstOptionalCopy", "([II)I"⟩ : MethodName) k5 [] #[.ref w, .int k] h (fun v h' => ∃ z : Int32, v = some (.int z) ∧ h = h') := by
  refine oC_of hw_ hn_ pn5 rfl rfl (L := #[.val (.ref w), .val (.int k)]) (fun m => by first | (simp [entryFrame, mkF, argsToLocals, Value.category, k5]; done) | rfl) ?_
  intro γ T X
  obtain ⟨x1, x2, x3, x4, x5⟩ := own_six 0 k n hk0 hk1 hn
  refine ow_aloadN X 1 d5_0 rfl rfl rfl ?_
  refine ow_iloadN X 2 d5_1 rfl rfl ?_
  refine ow_iconst X 3 (2 : Int32) d5_2 rfl rfl ?_
  refine ow_iadd X 4 d5_3 rfl ?_
  refine ow_iaload X 5 A0 d5_4 rfl (by omega) (by omega) rfl ?_
  refine ow_aloadN X 6 d5_5 rfl rfl rfl ?_
  refine ow_iloadN X 7 d5_6 rfl rfl ?_
  refine ow_iaload X 8 A0 d5_7 rfl (by omega) (by omega) rfl ?_
  refine ow_isub X 9 d5_8 rfl ?_
  refine ow_aloadN X 10 d5_9 rfl rfl rfl ?_
  refine ow_iloadN X 11 d5_10 rfl rfl ?_
  refine ow_iconst X 12 (1 : Int32) d5_11 rfl rfl ?_
  refine ow_iadd X 13 d5_12 rfl ?_
  refine ow_iaload X 14 A0 d5_13 rfl (by omega) (by omega) rfl ?_
  refine ow_idiv X 15 d5_14 rfl hz ?_
  refine ow_aloadN X 16 d5_15 rfl rfl rfl ?_
  refine ow_iloadN X 17 d5_16 rfl rfl ?_
  refine ow_iconst X 18 (4 : Int32) d5_17 rfl rfl ?_
  refine ow_iadd X 19 d5_18 rfl ?_
  refine ow_iaload X 20 A0 d5_19 rfl (by omega) (by omega) rfl ?_
  refine ow_aloadN X 21 d5_20 rfl rfl rfl ?_
  refine ow_iloadN X 22 d5_21 rfl rfl ?_
  refine ow_iconst X 23 (3 : Int32) d5_22 rfl rfl ?_
  refine ow_iadd X 24 d5_23 rfl ?_
  refine ow_iaload X 25 A0 d5_24 rfl (by omega) (by omega) rfl ?_
  refine ow_isub X 26 d5_25 rfl ?_
  refine ow_isub X 27 d5_26 rfl ?_
  refine ow_retI X rfl d5_27 (by decide) (by decide) ?_
  exact ⟨_, rfl, rfl⟩
theorem d6_0 : decode prog_20_method_16_code 0 = .ok (.aload_n 0, 1) := by decide +kernel
theorem d6_1 : decode prog_20_method_16_code 1 = .ok (.iload_n 1, 1) := by decide +kernel
theorem d6_2 : decode prog_20_method_16_code 2 = .ok (.iconst 2, 1) := by decide +kernel
theorem d6_3 : decode prog_20_method_16_code 3 = .ok (.iadd, 1) := by decide +kernel
theorem d6_4 : decode prog_20_method_16_code 4 = .ok (.iaload, 1) := by decide +kernel
theorem d6_5 : decode prog_20_method_16_code 5 = .ok (.aload_n 0, 1) := by decide +kernel
theorem d6_6 : decode prog_20_method_16_code 6 = .ok (.iload_n 1, 1) := by decide +kernel
theorem d6_7 : decode prog_20_method_16_code 7 = .ok (.iaload, 1) := by decide +kernel
theorem d6_8 : decode prog_20_method_16_code 8 = .ok (.isub, 1) := by decide +kernel
theorem d6_9 : decode prog_20_method_16_code 9 = .ok (.aload_n 0, 1) := by decide +kernel
theorem d6_10 : decode prog_20_method_16_code 10 = .ok (.iload_n 1, 1) := by decide +kernel
theorem d6_11 : decode prog_20_method_16_code 11 = .ok (.iconst 1, 1) := by decide +kernel
theorem d6_12 : decode prog_20_method_16_code 12 = .ok (.iadd, 1) := by decide +kernel
theorem d6_13 : decode prog_20_method_16_code 13 = .ok (.iaload, 1) := by decide +kernel
theorem d6_14 : decode prog_20_method_16_code 14 = .ok (.idiv, 1) := by decide +kernel
theorem d6_15 : decode prog_20_method_16_code 15 = .ok (.istore_n 3, 1) := by decide +kernel
theorem d6_16 : decode prog_20_method_16_code 16 = .ok (.iload_n 2, 1) := by decide +kernel
theorem d6_17 : decode prog_20_method_16_code 17 = .ok (.aload_n 0, 1) := by decide +kernel
theorem d6_18 : decode prog_20_method_16_code 18 = .ok (.iload_n 1, 1) := by decide +kernel
theorem d6_19 : decode prog_20_method_16_code 19 = .ok (.invokestatic 28, 3) := by decide +kernel
theorem d6_22 : decode prog_20_method_16_code 22 = .ok (.if_icmp .ge 7, 3) := by decide +kernel
theorem d6_25 : decode prog_20_method_16_code 25 = .ok (.lconst 0, 1) := by decide +kernel
theorem d6_26 : decode prog_20_method_16_code 26 = .ok (.goto 14, 3) := by decide +kernel
theorem d6_29 : decode prog_20_method_16_code 29 = .ok (.iload_n 3, 1) := by decide +kernel
theorem d6_30 : decode prog_20_method_16_code 30 = .ok (.iload_n 2, 1) := by decide +kernel
theorem d6_31 : decode prog_20_method_16_code 31 = .ok (.isub, 1) := by decide +kernel
theorem d6_32 : decode prog_20_method_16_code 32 = .ok (.i2l, 1) := by decide +kernel
theorem d6_33 : decode prog_20_method_16_code 33 = .ok (.aload_n 0, 1) := by decide +kernel
theorem d6_34 : decode prog_20_method_16_code 34 = .ok (.iload_n 1, 1) := by decide +kernel
theorem d6_35 : decode prog_20_method_16_code 35 = .ok (.iconst 5, 1) := by decide +kernel
theorem d6_36 : decode prog_20_method_16_code 36 = .ok (.iadd, 1) := by decide +kernel
theorem d6_37 : decode prog_20_method_16_code 37 = .ok (.iaload, 1) := by decide +kernel
theorem d6_38 : decode prog_20_method_16_code 38 = .ok (.i2l, 1) := by decide +kernel
theorem d6_39 : decode prog_20_method_16_code 39 = .ok (.lmul, 1) := by decide +kernel
theorem d6_40 : decode prog_20_method_16_code 40 = .ok (.lreturn, 1) := by decide +kernel
def k6 : OM := (prog_20_method_16_code, 4, "com/example/rexquill/rexquill/Copies", "room", (some .long), { frames := 1, cells := 0, slots := 0, locals := 14 })
theorem pn6 : plainFor (⟨"com/example/rexquill/rexquill/Copies", "room", "([III)J"⟩ : MethodName) = true := plainFor_of_name (by first | (simp [plainName, overriddenIn]; done) | decide +kernel)
theorem pd6 : parseMethodDescriptor "([III)J" = some ⟨[(.array .int), .int, .int], (some .long)⟩ := by decide +kernel
set_option maxRecDepth 65536 in
set_option maxHeartbeats 4000000 in
theorem C_room {Z : State} {ω : OW} {h : Heap} (hw_ : ∀ d ∈ tables_1, d.before ω.2.2 Z = true) (hn_ : ω.2.1 ≤ h.size) (w : Addr) (k c : Int32) (n : Nat) (G : Nat → Int32) (A0 : oA Z h w .int n (fun i_ => .int (G i_))) (hk0 : 0 ≤ k.toInt) (hk1 : k.toInt + 5 < n) (hn : (n : Int) < 2147483648) (hz : G (k + (1 : Int32)).toInt.toNat ≠ 0) :
    oC Z ω (⟨"com/example/rexquill/rexquill/Copies", "room", "([III)J"⟩ : MethodName) k6 [] #[.ref w, .int k, .int c] h (fun v h' => ∃ z : Int64, v = some (.long z) ∧ h = h') := by
  refine oC_of hw_ hn_ pn6 rfl rfl (L := #[.val (.ref w), .val (.int k), .val (.int c), .unset]) (fun m => by first | (simp [entryFrame, mkF, argsToLocals, Value.category, k6]; done) | rfl) ?_
  intro γ T X
  obtain ⟨x1, x2, x3, x4, x5⟩ := own_six 0 k n hk0 hk1 hn
  refine ow_aloadN X 1 d6_0 rfl rfl rfl ?_
  refine ow_iloadN X 2 d6_1 rfl rfl ?_
  refine ow_iconst X 3 (2 : Int32) d6_2 rfl rfl ?_
  refine ow_iadd X 4 d6_3 rfl ?_
  refine ow_iaload X 5 A0 d6_4 rfl (by omega) (by omega) rfl ?_
  refine ow_aloadN X 6 d6_5 rfl rfl rfl ?_
  refine ow_iloadN X 7 d6_6 rfl rfl ?_
  refine ow_iaload X 8 A0 d6_7 rfl (by omega) (by omega) rfl ?_
  refine ow_isub X 9 d6_8 rfl ?_
  refine ow_aloadN X 10 d6_9 rfl rfl rfl ?_
  refine ow_iloadN X 11 d6_10 rfl rfl ?_
  refine ow_iconst X 12 (1 : Int32) d6_11 rfl rfl ?_
  refine ow_iadd X 13 d6_12 rfl ?_
  refine ow_iaload X 14 A0 d6_13 rfl (by omega) (by omega) rfl ?_
  refine ow_idiv X 15 d6_14 rfl hz ?_
  refine ow_istoreN X 16 (L' := #[.val (.ref w), .val (.int k), .val (.int c), .val (.int (((G (k + (2 : Int32)).toInt.toNat) - (G k.toInt.toNat)) / (G (k + (1 : Int32)).toInt.toNat)))]) d6_15 rfl rfl ?_
  refine ow_iloadN X 17 d6_16 rfl rfl ?_
  refine ow_aloadN X 18 d6_17 rfl rfl rfl ?_
  refine ow_iloadN X 19 d6_18 rfl rfl ?_
  refine ow_callS X 22 33 34 14 35 (κ' := k5) (as := [.ref w, .int k]) (S := [.int c]) (W := 1) rfl rfl rfl rfl rfl (by decide) (C_foc (oSt_w X) (oSt_n0 X) w k n G A0 hk0 hk1 hn hz) (by decide) (by decide) (Nat.le_of_eq rfl) (by decide) (by decide) pd5 rfl rfl rfl d6_19 rfl ?_
  intro v_1 T_1 h_1 X_1 q_1
  obtain ⟨z1, rfl, rfl⟩ := q_1
  show oWP ω γ k6 _ T_1 22 #[.val (.ref w), .val (.int k), .val (.int c), .val (.int (((G (k + (2 : Int32)).toInt.toNat) - (G k.toInt.toNat)) / (G (k + (1 : Int32)).toInt.toNat)))] [.int z1, .int c]
  refine ow_icmp_ge X_1 25 29 d6_22 rfl rfl (fun (c22 : z1.toInt ≤ c.toInt) => ?_) (fun (c22 : c.toInt < z1.toInt) => ?_)
  · refine ow_iloadN X_1 30 d6_29 rfl rfl ?_
    refine ow_iloadN X_1 31 d6_30 rfl rfl ?_
    refine ow_isub X_1 32 d6_31 rfl ?_
    refine ow_i2l X_1 33 d6_32 rfl ?_
    refine ow_aloadN X_1 34 d6_33 rfl rfl rfl ?_
    refine ow_iloadN X_1 35 d6_34 rfl rfl ?_
    refine ow_iconst X_1 36 (5 : Int32) d6_35 rfl rfl ?_
    refine ow_iadd X_1 37 d6_36 rfl ?_
    refine ow_iaload X_1 38 A0 d6_37 rfl (by omega) (by omega) rfl ?_
    refine ow_i2l X_1 39 d6_38 rfl ?_
    refine ow_lmul X_1 40 d6_39 rfl ?_
    refine ow_retJ X_1 rfl d6_40 (by decide) (by decide) ?_
    exact ⟨_, rfl, rfl⟩
  · refine ow_lconst X_1 26 (0 : Int64) d6_25 rfl rfl ?_
    refine ow_goto X_1 40 d6_26 rfl ?_
    refine ow_retJ X_1 rfl d6_40 (by decide) (by decide) ?_
    exact ⟨_, rfl, rfl⟩
theorem d7_0 : decode jdk_29_method_66_code 0 = .ok (.lload_n 0, 1) := by decide +kernel
theorem d7_1 : decode jdk_29_method_66_code 1 = .ok (.lload_n 2, 1) := by decide +kernel
theorem d7_2 : decode jdk_29_method_66_code 2 = .ok (.lcmp, 1) := by decide +kernel
theorem d7_3 : decode jdk_29_method_66_code 3 = .ok (.ifCond .lt 7, 3) := by decide +kernel
theorem d7_6 : decode jdk_29_method_66_code 6 = .ok (.lload_n 0, 1) := by decide +kernel
theorem d7_7 : decode jdk_29_method_66_code 7 = .ok (.goto 4, 3) := by decide +kernel
theorem d7_10 : decode jdk_29_method_66_code 10 = .ok (.lload_n 2, 1) := by decide +kernel
theorem d7_11 : decode jdk_29_method_66_code 11 = .ok (.lreturn, 1) := by decide +kernel
def k7 : OM := (jdk_29_method_66_code, 4, "java/lang/Math", "max", (some .long), { frames := 0, cells := 0, slots := 0, locals := 0 })
theorem pn7 : plainFor (⟨"java/lang/Math", "max", "(JJ)J"⟩ : MethodName) = true := by decide +kernel
theorem pd7 : parseMethodDescriptor "(JJ)J" = some ⟨[.long, .long], (some .long)⟩ := by decide +kernel
set_option maxRecDepth 65536 in
set_option maxHeartbeats 4000000 in
theorem C_maxJ {Z : State} {ω : OW} {h : Heap} (hw_ : ∀ d ∈ tables_1, d.before ω.2.2 Z = true) (hn_ : ω.2.1 ≤ h.size) (x y : Int64) :
    oC Z ω (⟨"java/lang/Math", "max", "(JJ)J"⟩ : MethodName) k7 [] #[.long x, .long y] h (fun v h' => ∃ z : Int64, v = some (.long z) ∧ h = h') := by
  refine oC_of hw_ hn_ pn7 rfl rfl (L := #[.val (.long x), .second, .val (.long y), .second]) (fun m => by first | (simp [entryFrame, mkF, argsToLocals, Value.category, k7]; done) | rfl) ?_
  intro γ T X
  refine ow_lloadN X 1 d7_0 rfl rfl ?_
  refine ow_lloadN X 2 d7_1 rfl rfl ?_
  refine ow_lcmp_lt X 3 6 10 d7_2 rfl d7_3 rfl rfl (fun (c2 : x.toInt < y.toInt) => ?_) (fun (c2 : y.toInt ≤ x.toInt) => ?_)
  · refine ow_lloadN X 11 d7_10 rfl rfl ?_
    refine ow_retJ X rfl d7_11 (by decide) (by decide) ?_
    exact ⟨_, rfl, rfl⟩
  · refine ow_lloadN X 7 d7_6 rfl rfl ?_
    refine ow_goto X 11 d7_7 rfl ?_
    refine ow_retJ X rfl d7_11 (by decide) (by decide) ?_
    exact ⟨_, rfl, rfl⟩
theorem d8_0 : decode jdk_29_method_70_code 0 = .ok (.lload_n 0, 1) := by decide +kernel
theorem d8_1 : decode jdk_29_method_70_code 1 = .ok (.lload_n 2, 1) := by decide +kernel
theorem d8_2 : decode jdk_29_method_70_code 2 = .ok (.lcmp, 1) := by decide +kernel
theorem d8_3 : decode jdk_29_method_70_code 3 = .ok (.ifCond .gt 7, 3) := by decide +kernel
theorem d8_6 : decode jdk_29_method_70_code 6 = .ok (.lload_n 0, 1) := by decide +kernel
theorem d8_7 : decode jdk_29_method_70_code 7 = .ok (.goto 4, 3) := by decide +kernel
theorem d8_10 : decode jdk_29_method_70_code 10 = .ok (.lload_n 2, 1) := by decide +kernel
theorem d8_11 : decode jdk_29_method_70_code 11 = .ok (.lreturn, 1) := by decide +kernel
def k8 : OM := (jdk_29_method_70_code, 4, "java/lang/Math", "min", (some .long), { frames := 0, cells := 0, slots := 0, locals := 0 })
theorem pn8 : plainFor (⟨"java/lang/Math", "min", "(JJ)J"⟩ : MethodName) = true := by decide +kernel
theorem pd8 : parseMethodDescriptor "(JJ)J" = some ⟨[.long, .long], (some .long)⟩ := by decide +kernel
set_option maxRecDepth 65536 in
set_option maxHeartbeats 4000000 in
theorem C_minJ {Z : State} {ω : OW} {h : Heap} (hw_ : ∀ d ∈ tables_1, d.before ω.2.2 Z = true) (hn_ : ω.2.1 ≤ h.size) (x y : Int64) :
    oC Z ω (⟨"java/lang/Math", "min", "(JJ)J"⟩ : MethodName) k8 [] #[.long x, .long y] h (fun v h' => ∃ z : Int64, v = some (.long z) ∧ h = h') := by
  refine oC_of hw_ hn_ pn8 rfl rfl (L := #[.val (.long x), .second, .val (.long y), .second]) (fun m => by first | (simp [entryFrame, mkF, argsToLocals, Value.category, k8]; done) | rfl) ?_
  intro γ T X
  refine ow_lloadN X 1 d8_0 rfl rfl ?_
  refine ow_lloadN X 2 d8_1 rfl rfl ?_
  refine ow_lcmp_gt X 3 6 10 d8_2 rfl d8_3 rfl rfl (fun (c2 : y.toInt < x.toInt) => ?_) (fun (c2 : x.toInt ≤ y.toInt) => ?_)
  · refine ow_lloadN X 11 d8_10 rfl rfl ?_
    refine ow_retJ X rfl d8_11 (by decide) (by decide) ?_
    exact ⟨_, rfl, rfl⟩
  · refine ow_lloadN X 7 d8_6 rfl rfl ?_
    refine ow_goto X 11 d8_7 rfl ?_
    refine ow_retJ X rfl d8_11 (by decide) (by decide) ?_
    exact ⟨_, rfl, rfl⟩
theorem d3_0 : decode prog_20_method_1_code 0 = .ok (.aload_n 0, 1) := by decide +kernel
theorem d3_1 : decode prog_20_method_1_code 1 = .ok (.invokespecial 1, 3) := by decide +kernel
theorem d3_4 : decode prog_20_method_1_code 4 = .ok (.aload_n 0, 1) := by decide +kernel
theorem d3_5 : decode prog_20_method_1_code 5 = .ok (.aload_n 1, 1) := by decide +kernel
theorem d3_6 : decode prog_20_method_1_code 6 = .ok (.putfield 7, 3) := by decide +kernel
theorem d3_9 : decode prog_20_method_1_code 9 = .ok (.aload_n 1, 1) := by decide +kernel
theorem d3_10 : decode prog_20_method_1_code 10 = .ok (.arraylength, 1) := by decide +kernel
theorem d3_11 : decode prog_20_method_1_code 11 = .ok (.bipush 6, 2) := by decide +kernel
theorem d3_13 : decode prog_20_method_1_code 13 = .ok (.idiv, 1) := by decide +kernel
theorem d3_14 : decode prog_20_method_1_code 14 = .ok (.istore_n 2, 1) := by decide +kernel
theorem d3_15 : decode prog_20_method_1_code 15 = .ok (.aload_n 0, 1) := by decide +kernel
theorem d3_16 : decode prog_20_method_1_code 16 = .ok (.iload_n 2, 1) := by decide +kernel
theorem d3_17 : decode prog_20_method_1_code 17 = .ok (.newarray .int, 2) := by decide +kernel
theorem d3_19 : decode prog_20_method_1_code 19 = .ok (.putfield 13, 3) := by decide +kernel
theorem d3_22 : decode prog_20_method_1_code 22 = .ok (.aload_n 0, 1) := by decide +kernel
theorem d3_23 : decode prog_20_method_1_code 23 = .ok (.iload_n 2, 1) := by decide +kernel
theorem d3_24 : decode prog_20_method_1_code 24 = .ok (.newarray .int, 2) := by decide +kernel
theorem d3_26 : decode prog_20_method_1_code 26 = .ok (.putfield 16, 3) := by decide +kernel
theorem d3_29 : decode prog_20_method_1_code 29 = .ok (.aload_n 0, 1) := by decide +kernel
theorem d3_30 : decode prog_20_method_1_code 30 = .ok (.iload_n 2, 1) := by decide +kernel
theorem d3_31 : decode prog_20_method_1_code 31 = .ok (.newarray .int, 2) := by decide +kernel
theorem d3_33 : decode prog_20_method_1_code 33 = .ok (.putfield 19, 3) := by decide +kernel
theorem d3_36 : decode prog_20_method_1_code 36 = .ok (.iload_n 2, 1) := by decide +kernel
theorem d3_37 : decode prog_20_method_1_code 37 = .ok (.newarray .int, 2) := by decide +kernel
theorem d3_39 : decode prog_20_method_1_code 39 = .ok (.astore_n 3, 1) := by decide +kernel
theorem d3_40 : decode prog_20_method_1_code 40 = .ok (.iconst 0, 1) := by decide +kernel
theorem d3_41 : decode prog_20_method_1_code 41 = .ok (.istore 4, 2) := by decide +kernel
theorem d3_43 : decode prog_20_method_1_code 43 = .ok (.iconst 0, 1) := by decide +kernel
theorem d3_44 : decode prog_20_method_1_code 44 = .ok (.istore 5, 2) := by decide +kernel
theorem d3_46 : decode prog_20_method_1_code 46 = .ok (.lconst 0, 1) := by decide +kernel
theorem d3_47 : decode prog_20_method_1_code 47 = .ok (.lstore 6, 2) := by decide +kernel
theorem d3_49 : decode prog_20_method_1_code 49 = .ok (.iconst 0, 1) := by decide +kernel
theorem d3_50 : decode prog_20_method_1_code 50 = .ok (.istore 8, 2) := by decide +kernel
theorem d3_52 : decode prog_20_method_1_code 52 = .ok (.iload 8, 2) := by decide +kernel
theorem d3_54 : decode prog_20_method_1_code 54 = .ok (.aload_n 1, 1) := by decide +kernel
theorem d3_55 : decode prog_20_method_1_code 55 = .ok (.arraylength, 1) := by decide +kernel
theorem d3_56 : decode prog_20_method_1_code 56 = .ok (.if_icmp .ge 125, 3) := by decide +kernel
theorem d3_59 : decode prog_20_method_1_code 59 = .ok (.iload 4, 2) := by decide +kernel
theorem d3_61 : decode prog_20_method_1_code 61 = .ok (.istore 9, 2) := by decide +kernel
theorem d3_63 : decode prog_20_method_1_code 63 = .ok (.iload 9, 2) := by decide +kernel
theorem d3_65 : decode prog_20_method_1_code 65 = .ok (.ifCond .le 24, 3) := by decide +kernel
theorem d3_68 : decode prog_20_method_1_code 68 = .ok (.aload_n 1, 1) := by decide +kernel
theorem d3_69 : decode prog_20_method_1_code 69 = .ok (.aload_n 3, 1) := by decide +kernel
theorem d3_70 : decode prog_20_method_1_code 70 = .ok (.iload 9, 2) := by decide +kernel
theorem d3_72 : decode prog_20_method_1_code 72 = .ok (.iconst 1, 1) := by decide +kernel
theorem d3_73 : decode prog_20_method_1_code 73 = .ok (.isub, 1) := by decide +kernel
theorem d3_74 : decode prog_20_method_1_code 74 = .ok (.iaload, 1) := by decide +kernel
theorem d3_75 : decode prog_20_method_1_code 75 = .ok (.iaload, 1) := by decide +kernel
theorem d3_76 : decode prog_20_method_1_code 76 = .ok (.aload_n 1, 1) := by decide +kernel
theorem d3_77 : decode prog_20_method_1_code 77 = .ok (.iload 8, 2) := by decide +kernel
theorem d3_79 : decode prog_20_method_1_code 79 = .ok (.iaload, 1) := by decide +kernel
theorem d3_80 : decode prog_20_method_1_code 80 = .ok (.if_icmp .lt 9, 3) := by decide +kernel
theorem d3_83 : decode prog_20_method_1_code 83 = .ok (.iinc 9 (-1), 3) := by decide +kernel
theorem d3_86 : decode prog_20_method_1_code 86 = .ok (.goto (-23), 3) := by decide +kernel
theorem d3_89 : decode prog_20_method_1_code 89 = .ok (.aload_n 0, 1) := by decide +kernel
theorem d3_90 : decode prog_20_method_1_code 90 = .ok (.getfield 16, 3) := by decide +kernel
theorem d3_93 : decode prog_20_method_1_code 93 = .ok (.iload 8, 2) := by decide +kernel
theorem d3_95 : decode prog_20_method_1_code 95 = .ok (.bipush 6, 2) := by decide +kernel
theorem d3_97 : decode prog_20_method_1_code 97 = .ok (.idiv, 1) := by decide +kernel
theorem d3_98 : decode prog_20_method_1_code 98 = .ok (.iload 5, 2) := by decide +kernel
theorem d3_100 : decode prog_20_method_1_code 100 = .ok (.iastore, 1) := by decide +kernel
theorem d3_101 : decode prog_20_method_1_code 101 = .ok (.aload_n 0, 1) := by decide +kernel
theorem d3_102 : decode prog_20_method_1_code 102 = .ok (.getfield 19, 3) := by decide +kernel
theorem d3_105 : decode prog_20_method_1_code 105 = .ok (.iload 8, 2) := by decide +kernel
theorem d3_107 : decode prog_20_method_1_code 107 = .ok (.bipush 6, 2) := by decide +kernel
theorem d3_109 : decode prog_20_method_1_code 109 = .ok (.idiv, 1) := by decide +kernel
theorem d3_110 : decode prog_20_method_1_code 110 = .ok (.iload 4, 2) := by decide +kernel
theorem d3_112 : decode prog_20_method_1_code 112 = .ok (.iload 9, 2) := by decide +kernel
theorem d3_114 : decode prog_20_method_1_code 114 = .ok (.isub, 1) := by decide +kernel
theorem d3_115 : decode prog_20_method_1_code 115 = .ok (.iastore, 1) := by decide +kernel
theorem d3_116 : decode prog_20_method_1_code 116 = .ok (.aload_n 3, 1) := by decide +kernel
theorem d3_117 : decode prog_20_method_1_code 117 = .ok (.iload 9, 2) := by decide +kernel
theorem d3_119 : decode prog_20_method_1_code 119 = .ok (.aload_n 0, 1) := by decide +kernel
theorem d3_120 : decode prog_20_method_1_code 120 = .ok (.getfield 13, 3) := by decide +kernel
theorem d3_123 : decode prog_20_method_1_code 123 = .ok (.iload 5, 2) := by decide +kernel
theorem d3_125 : decode prog_20_method_1_code 125 = .ok (.iload 4, 2) := by decide +kernel
theorem d3_127 : decode prog_20_method_1_code 127 = .ok (.iload 9, 2) := by decide +kernel
theorem d3_129 : decode prog_20_method_1_code 129 = .ok (.isub, 1) := by decide +kernel
theorem d3_130 : decode prog_20_method_1_code 130 = .ok (.invokestatic 22, 3) := by decide +kernel
theorem d3_133 : decode prog_20_method_1_code 133 = .ok (.iload 5, 2) := by decide +kernel
theorem d3_135 : decode prog_20_method_1_code 135 = .ok (.iload 4, 2) := by decide +kernel
theorem d3_137 : decode prog_20_method_1_code 137 = .ok (.iload 9, 2) := by decide +kernel
theorem d3_139 : decode prog_20_method_1_code 139 = .ok (.isub, 1) := by decide +kernel
theorem d3_140 : decode prog_20_method_1_code 140 = .ok (.iadd, 1) := by decide +kernel
theorem d3_141 : decode prog_20_method_1_code 141 = .ok (.istore 5, 2) := by decide +kernel
theorem d3_143 : decode prog_20_method_1_code 143 = .ok (.iload 9, 2) := by decide +kernel
theorem d3_145 : decode prog_20_method_1_code 145 = .ok (.istore 4, 2) := by decide +kernel
theorem d3_147 : decode prog_20_method_1_code 147 = .ok (.aload_n 3, 1) := by decide +kernel
theorem d3_148 : decode prog_20_method_1_code 148 = .ok (.iload 4, 2) := by decide +kernel
theorem d3_150 : decode prog_20_method_1_code 150 = .ok (.iinc 4 1, 3) := by decide +kernel
theorem d3_153 : decode prog_20_method_1_code 153 = .ok (.iload 8, 2) := by decide +kernel
theorem d3_155 : decode prog_20_method_1_code 155 = .ok (.iastore, 1) := by decide +kernel
theorem d3_156 : decode prog_20_method_1_code 156 = .ok (.lload 6, 2) := by decide +kernel
theorem d3_158 : decode prog_20_method_1_code 158 = .ok (.aload_n 1, 1) := by decide +kernel
theorem d3_159 : decode prog_20_method_1_code 159 = .ok (.iload 8, 2) := by decide +kernel
theorem d3_161 : decode prog_20_method_1_code 161 = .ok (.aload_n 1, 1) := by decide +kernel
theorem d3_162 : decode prog_20_method_1_code 162 = .ok (.iload 8, 2) := by decide +kernel
theorem d3_164 : decode prog_20_method_1_code 164 = .ok (.invokestatic 28, 3) := by decide +kernel
theorem d3_167 : decode prog_20_method_1_code 167 = .ok (.invokestatic 32, 3) := by decide +kernel
theorem d3_170 : decode prog_20_method_1_code 170 = .ok (.invokestatic 36, 3) := by decide +kernel
theorem d3_173 : decode prog_20_method_1_code 173 = .ok (.lstore 6, 2) := by decide +kernel
theorem d3_175 : decode prog_20_method_1_code 175 = .ok (.iinc 8 6, 3) := by decide +kernel
theorem d3_178 : decode prog_20_method_1_code 178 = .ok (.goto (-126), 3) := by decide +kernel
theorem d3_181 : decode prog_20_method_1_code 181 = .ok (.aload_n 0, 1) := by decide +kernel
theorem d3_182 : decode prog_20_method_1_code 182 = .ok (.iload 5, 2) := by decide +kernel
theorem d3_184 : decode prog_20_method_1_code 184 = .ok (.putfield 42, 3) := by decide +kernel
theorem d3_187 : decode prog_20_method_1_code 187 = .ok (.aload_n 0, 1) := by decide +kernel
theorem d3_188 : decode prog_20_method_1_code 188 = .ok (.iload 4, 2) := by decide +kernel
theorem d3_190 : decode prog_20_method_1_code 190 = .ok (.putfield 46, 3) := by decide +kernel
theorem d3_193 : decode prog_20_method_1_code 193 = .ok (.aload_n 3, 1) := by decide +kernel
theorem d3_194 : decode prog_20_method_1_code 194 = .ok (.iconst 0, 1) := by decide +kernel
theorem d3_195 : decode prog_20_method_1_code 195 = .ok (.aload_n 0, 1) := by decide +kernel
theorem d3_196 : decode prog_20_method_1_code 196 = .ok (.getfield 13, 3) := by decide +kernel
theorem d3_199 : decode prog_20_method_1_code 199 = .ok (.iload 5, 2) := by decide +kernel
theorem d3_201 : decode prog_20_method_1_code 201 = .ok (.iload 4, 2) := by decide +kernel
theorem d3_203 : decode prog_20_method_1_code 203 = .ok (.invokestatic 22, 3) := by decide +kernel
theorem d3_206 : decode prog_20_method_1_code 206 = .ok (.aload_n 0, 1) := by decide +kernel
theorem d3_207 : decode prog_20_method_1_code 207 = .ok (.lload 6, 2) := by decide +kernel
theorem d3_209 : decode prog_20_method_1_code 209 = .ok (.ldc2_w 51, 3) := by decide +kernel
theorem d3_212 : decode prog_20_method_1_code 212 = .ok (.invokestatic 53, 3) := by decide +kernel
theorem d3_215 : decode prog_20_method_1_code 215 = .ok (.l2i, 1) := by decide +kernel
theorem d3_216 : decode prog_20_method_1_code 216 = .ok (.putfield 56, 3) := by decide +kernel
theorem d3_219 : decode prog_20_method_1_code 219 = .ok (.return_, 1) := by decide +kernel
def k3 : OM := (prog_20_method_1_code, 10, "com/example/rexquill/rexquill/Copies", "<init>", none, { frames := 2, cells := 4, slots := 12, locals := 40 })
theorem pn3 : plainFor (⟨"com/example/rexquill/rexquill/Copies", "<init>", "([I)V"⟩ : MethodName) = true := plainFor_of_name (by first | (simp [plainName, overriddenIn]; done) | decide +kernel)
theorem pd3 : parseMethodDescriptor "([I)V" = some ⟨[(.array .int)], none⟩ := by decide +kernel
set_option maxRecDepth 65536 in
set_option maxHeartbeats 4000000 in
theorem E181 {Z : State} {ω : OW} {γ : OG} {T : State} {h : Heap} (X : oSt Z ω γ k3 T h 4 12) (h0 : Heap) (a w aRL aIR aIC ao : Addr) (u1 u2 u3 : Value) (n m : Nat) (ln mm : Int32) (G : Nat → Int32) (nd : List.Nodup [a, w, aRL, aIR, aIC, ao]) (gs : ∀ x ∈ [a, aRL, aIR, aIC, ao], ω.2.1 ≤ x) (gh : ∀ x ∈ [aRL, aIR, aIC, ao], h0.size ≤ x) (hln : ln.toInt = n) (hmm : mm.toInt = m) (hnm : n = 6 * m) (hm : m ≤ 3) (hG : ∀ j, j < m → G (6 * j + 1) ≠ 0) (lc ct k : Int32) (rm : Int64) (RL IR IC O : Nat → Int32) (s9 : Slot) (F0 : CP Z h a (.ref w) (.ref aRL) (.ref aIR) (.ref aIC) u1 u2 u3) (Aw : oA Z h w .int n (fun i_ => .int (G i_))) (AaRL : oA Z h aRL .int m (fun i_ => .int (RL i_))) (AaIR : oA Z h aIR .int m (fun i_ => .int (IR i_))) (AaIC : oA Z h aIC .int m (fun i_ => .int (IC i_))) (Aao : oA Z h ao .int m (fun i_ => .int (O i_))) (K0 : Keep h0 h [a]) (hc0 : 0 ≤ ct.toInt) (hl0 : 0 ≤ lc.toInt) (hk0 : 0 ≤ k.toInt) (hk6 : k.toInt = 6 * (ct.toInt + lc.toInt)) (hO : ∀ i : Nat, (i : Int) < ct.toInt → 0 ≤ (O i).toInt ∧ (O i).toInt < n) (hend : k.toInt = n) :
    oWP ω γ k3 (fun v h' => v = none ∧ Keep h0 h' [a] ∧ ∃ v1 v2 v3 v4 v5 v6, CP Z h' a (.ref w) v1 v2 v3 v4 v5 v6) T 181 #[.val (.ref a), .val (.ref w), .val (.int mm), .val (.ref ao), .val (.int ct), .val (.int lc), .val (.long rm), .second, .val (.int k), s9] [] := by
  refine ow_aloadN X 182 d3_181 rfl rfl rfl ?_
  refine ow_iload X 184 d3_182 rfl rfl ?_
  refine ow_putF X 187 42 13 rfl rfl F0.2.2.2.2.2.1 F0.1 (Or.inr ⟨oSt_at X 43 rfl, rfl, rfl⟩) rfl (ty := .int) (by decide) rfl rfl (gs _ (List.mem_of_getElem? (i := 0) rfl)) d3_184 rfl ?_
  intro T_2 h_2 X_2 W_2
  have f3_0 : CP Z h_2 a (.ref w) (.ref aRL) (.ref aIR) (.ref aIC) (.int lc) u2 u3 := CP.set_topRecords (oSt_w X_2) F0 W_2
  have f3_1 : oA Z h_2 w .int n (fun i_ => .int (G i_)) := Aw.other W_2 (oNd nd 1 0 (by decide) rfl rfl)
  have f3_2 : oA Z h_2 aRL .int m (fun i_ => .int (RL i_)) := AaRL.other W_2 (oNd nd 2 0 (by decide) rfl rfl)
  have f3_3 : oA Z h_2 aIR .int m (fun i_ => .int (IR i_)) := AaIR.other W_2 (oNd nd 3 0 (by decide) rfl rfl)
  have f3_4 : oA Z h_2 aIC .int m (fun i_ => .int (IC i_)) := AaIC.other W_2 (oNd nd 4 0 (by decide) rfl rfl)
  have f3_5 : oA Z h_2 ao .int m (fun i_ => .int (O i_)) := Aao.other W_2 (oNd nd 5 0 (by decide) rfl rfl)
  have f3_6 : Keep h0 h_2 [a] := K0.wr W_2 (Or.inl (List.mem_of_getElem? (i := 0) rfl))
  refine ow_aloadN X_2 188 d3_187 rfl rfl rfl ?_
  refine ow_iload X_2 190 d3_188 rfl rfl ?_
  refine ow_putF X_2 193 44 13 rfl rfl f3_0.2.2.2.2.2.2.1 f3_0.1 (Or.inr ⟨oSt_at X_2 45 rfl, rfl, rfl⟩) rfl (ty := .int) (by decide) rfl rfl (gs _ (List.mem_of_getElem? (i := 0) rfl)) d3_190 rfl ?_
  intro T_4 h_4 X_4 W_4
  have f5_0 : CP Z h_4 a (.ref w) (.ref aRL) (.ref aIR) (.ref aIC) (.int lc) (.int ct) u3 := CP.set_topRecordCount (oSt_w X_4) f3_0 W_4
  have f5_1 : oA Z h_4 w .int n (fun i_ => .int (G i_)) := f3_1.other W_4 (oNd nd 1 0 (by decide) rfl rfl)
  have f5_2 : oA Z h_4 aRL .int m (fun i_ => .int (RL i_)) := f3_2.other W_4 (oNd nd 2 0 (by decide) rfl rfl)
  have f5_3 : oA Z h_4 aIR .int m (fun i_ => .int (IR i_)) := f3_3.other W_4 (oNd nd 3 0 (by decide) rfl rfl)
  have f5_4 : oA Z h_4 aIC .int m (fun i_ => .int (IC i_)) := f3_4.other W_4 (oNd nd 4 0 (by decide) rfl rfl)
  have f5_5 : oA Z h_4 ao .int m (fun i_ => .int (O i_)) := f3_5.other W_4 (oNd nd 5 0 (by decide) rfl rfl)
  have f5_6 : Keep h0 h_4 [a] := f3_6.wr W_4 (Or.inl (List.mem_of_getElem? (i := 0) rfl))
  refine ow_aloadN X_4 194 d3_193 rfl rfl rfl ?_
  refine ow_iconst X_4 195 (0 : Int32) d3_194 rfl rfl ?_
  refine ow_aloadN X_4 196 d3_195 rfl rfl rfl ?_
  refine ow_getF X_4 199 23 rfl rfl f5_0.2.2.1 d3_196 rfl ?_
  intro T_6 X_6
  refine ow_iload X_6 201 d3_199 rfl rfl ?_
  refine ow_iload X_6 203 d3_201 rfl rfl ?_
  refine ow_acopy X_6 206 29 32 30 31 (W := 0) rfl rfl rfl rfl rfl f5_5 f5_2 (gs _ (List.mem_of_getElem? (i := 1) rfl)) (by decide) hl0 hc0 (by have e : (0 : Int32).toInt = 0 := rfl; omega) (by omega) rfl d3_203 rfl (by decide) (Nat.le_of_eq rfl) (by decide +kernel) ?_
  intro T_7 h_7 gg7 X_7 Kc7 Ac7
  have f8_0 : CP Z h_7 a (.ref w) (.ref aRL) (.ref aIR) (.ref aIC) (.int lc) (.int ct) u3 := f5_0.keep Kc7 (ninS (oNd nd 0 2 (by decide) rfl rfl) nin0)
  have f8_1 : oA Z h_7 w .int n (fun i_ => .int (G i_)) := f5_1.keep Kc7 (ninS (oNd nd 1 2 (by decide) rfl rfl) nin0)
  have f8_3 : oA Z h_7 aIR .int m (fun i_ => .int (IR i_)) := f5_3.keep Kc7 (ninS (oNd nd 3 2 (by decide) rfl rfl) nin0)
  have f8_4 : oA Z h_7 aIC .int m (fun i_ => .int (IC i_)) := f5_4.keep Kc7 (ninS (oNd nd 4 2 (by decide) rfl rfl) nin0)
  have f8_5 : oA Z h_7 ao .int m (fun i_ => .int (O i_)) := f5_5.keep Kc7 (ninS (oNd nd 5 2 (by decide) rfl rfl) nin0)
  have f8_6 : Keep h0 h_7 [a] := f5_6.trans Kc7 (allS (Or.inr (gh _ (List.mem_of_getElem? (i := 0) rfl))) all0)
  refine ow_aloadN X_7 207 d3_206 rfl rfl rfl ?_
  refine ow_lload X_7 209 d3_207 rfl rfl ?_
  refine ow_ldc2J X_7 212 46 rfl rfl d3_209 rfl ?_
  refine ow_callS X_7 215 47 48 10 49 (κ' := k8) (as := [.long rm, .long (2147483647 : Int64)]) (S := [.ref a]) (W := 1) rfl rfl rfl rfl rfl (by decide) (C_minJ (oSt_w X_7) (oSt_n0 X_7) rm (2147483647 : Int64)) (by decide) (by decide) (Nat.le_of_eq rfl) (by decide) (by decide) pd8 rfl rfl rfl d3_212 rfl ?_
  intro v_9 T_9 h_9 X_9 q_9
  obtain ⟨z9, rfl, rfl⟩ := q_9
  show oWP ω γ k3 _ T_9 215 #[.val (.ref a), .val (.ref w), .val (.int mm), .val (.ref ao), .val (.int ct), .val (.int lc), .val (.long rm), .second, .val (.int k), s9] [.long z9, .ref a]
  refine ow_l2i X_9 216 d3_215 rfl ?_
  refine ow_putF X_9 219 50 13 rfl rfl f8_0.2.2.2.2.2.2.2 f8_0.1 (Or.inr ⟨oSt_at X_9 51 rfl, rfl, rfl⟩) rfl (ty := .int) (by decide) rfl rfl (gs _ (List.mem_of_getElem? (i := 0) rfl)) d3_216 rfl ?_
  intro T_10 h_10 X_10 W_10
  have f11_0 : CP Z h_10 a (.ref w) (.ref aRL) (.ref aIR) (.ref aIC) (.int lc) (.int ct) (.int z9.toInt32) := CP.set_copyRoom (oSt_w X_10) f8_0 W_10
  have f11_1 : oA Z h_10 w .int n (fun i_ => .int (G i_)) := f8_1.other W_10 (oNd nd 1 0 (by decide) rfl rfl)
  have f11_2 : oA Z h_10 aIR .int m (fun i_ => .int (IR i_)) := f8_3.other W_10 (oNd nd 3 0 (by decide) rfl rfl)
  have f11_3 : oA Z h_10 aIC .int m (fun i_ => .int (IC i_)) := f8_4.other W_10 (oNd nd 4 0 (by decide) rfl rfl)
  have f11_4 : oA Z h_10 ao .int m (fun i_ => .int (O i_)) := f8_5.other W_10 (oNd nd 5 0 (by decide) rfl rfl)
  have f11_5 : Keep h0 h_10 [a] := f8_6.wr W_10 (Or.inl (List.mem_of_getElem? (i := 0) rfl))
  have f11_6 : oA Z h_10 aRL .int m (fun i_ => .int (gg7 i_)) := Ac7.other W_10 (oNd nd 2 0 (by decide) rfl rfl)
  refine ow_retV X_10 rfl d3_219 (by decide) (by decide) ?_
  exact ⟨rfl, f11_5, _, _, _, _, _, _, f11_0⟩
theorem own_open {n : Nat} {O : Nat → Int32} {i ct k : Int32} (hi0 : 0 ≤ i.toInt) (hic : i.toInt ≤ ct.toInt) (hO : ∀ j : Nat, (j : Int) < ct.toInt → 0 ≤ (O j).toInt ∧ (O j).toInt < n) (hk0 : 0 ≤ k.toInt) (hkn : k.toInt < n) (e : (i + (1 : Int32)).toInt = i.toInt + 1) : ∀ j : Nat, (j : Int) < (i + (1 : Int32)).toInt → 0 ≤ (oUpd O i.toInt.toNat k j).toInt ∧ (oUpd O i.toInt.toNat k j).toInt < n := by
  intro j hj
  by_cases q : j = i.toInt.toNat
  · subst q; rw [oUpd_hit]; exact ⟨hk0, hkn⟩
  · rw [oUpd_miss _ _ q]; exact hO j (by omega)
set_option maxRecDepth 65536 in
set_option maxHeartbeats 4000000 in
theorem I63 {Z : State} {ω : OW} {γ : OG} (h0 : Heap) (a w ao : Addr) (n m : Nat) (mm lc ct k : Int32) (rm : Int64) (G O : Nat → Int32) (hm : m ≤ 3) (hcm : ct.toInt ≤ m) (hk0 : 0 ≤ k.toInt) (hkn : k.toInt < n) (hO : ∀ j : Nat, (j : Int) < ct.toInt → 0 ≤ (O j).toInt ∧ (O j).toInt < n) (d : Nat) : ∀ {T : State} {h : Heap} (X : oSt Z ω γ k3 T h 4 12) (i : Int32) (Aw : oA Z h w .int n (fun i_ => .int (G i_))) (Aao : oA Z h ao .int m (fun i_ => .int (O i_))) (hi0 : 0 ≤ i.toInt) (hic : i.toInt ≤ ct.toInt) (K89 : ∀ i' : Int32, 0 ≤ i'.toInt → i'.toInt ≤ ct.toInt → oWP ω γ k3 (fun v h' => v = none ∧ Keep h0 h' [a] ∧ ∃ v1 v2 v3 v4 v5 v6, CP Z h' a (.ref w) v1 v2 v3 v4 v5 v6) T 89 #[.val (.ref a), .val (.ref w), .val (.int mm), .val (.ref ao), .val (.int ct), .val (.int lc), .val (.long rm), .second, .val (.int k), .val (.int i')] []) (hd_ : i.toInt.toNat = d),
    oWP ω γ k3 (fun v h' => v = none ∧ Keep h0 h' [a] ∧ ∃ v1 v2 v3 v4 v5 v6, CP Z h' a (.ref w) v1 v2 v3 v4 v5 v6) T 63 #[.val (.ref a), .val (.ref w), .val (.int mm), .val (.ref ao), .val (.int ct), .val (.int lc), .val (.long rm), .second, .val (.int k), .val (.int i)] [] := by
  induction d using Nat.strongRecOn with
  | _ d ih =>
    intro T h X i Aw Aao hi0 hic K89 hd_
    refine ow_iload X 65 d3_63 rfl rfl ?_
    refine ow_if_le X 68 89 d3_65 rfl rfl (fun (c65 : i.toInt ≤ 0) => ?_) (fun (c65 : 0 < i.toInt) => ?_)
    · exact K89 i hi0 hic
    · refine ow_aloadN X 69 d3_68 rfl rfl rfl ?_
      refine ow_aloadN X 70 d3_69 rfl rfl rfl ?_
      refine ow_iload X 72 d3_70 rfl rfl ?_
      refine ow_iconst X 73 (1 : Int32) d3_72 rfl rfl ?_
      refine ow_isub X 74 d3_73 rfl ?_
      refine ow_iaload X 75 Aao d3_74 rfl (by rw [(own_subk i 1 1 rfl (by decide) (by omega))]; omega) (by rw [(own_subk i 1 1 rfl (by decide) (by omega))]; omega) rfl ?_
      refine ow_iaload X 76 Aw d3_75 rfl (hO _ (by rw [(own_subk i 1 1 rfl (by decide) (by omega))]; omega)).1 (hO _ (by rw [(own_subk i 1 1 rfl (by decide) (by omega))]; omega)).2 rfl ?_
      refine ow_aloadN X 77 d3_76 rfl rfl rfl ?_
      refine ow_iload X 79 d3_77 rfl rfl ?_
      refine ow_iaload X 80 Aw d3_79 rfl hk0 hkn rfl ?_
      refine ow_icmp_lt X 83 89 d3_80 rfl rfl (fun (c80 : (G (O (i - (1 : Int32)).toInt.toNat).toInt.toNat).toInt < (G k.toInt.toNat).toInt) => ?_) (fun (c80 : (G k.toInt.toNat).toInt ≤ (G (O (i - (1 : Int32)).toInt.toNat).toInt.toNat).toInt) => ?_)
      · exact K89 i hi0 hic
      · refine ow_iinc X 86 (L' := #[.val (.ref a), .val (.ref w), .val (.int mm), .val (.ref ao), .val (.int ct), .val (.int lc), .val (.long rm), .second, .val (.int k), .val (.int (i + (-1 : Int32)))]) (-1 : Int32) d3_83 rfl rfl rfl rfl ?_
        refine ow_goto X 63 d3_86 rfl ?_
        have e1 := own_dec i (by omega)
        generalize i + (-1 : Int32) = i2 at e1 ⊢
        exact ih _ (by omega) X i2 Aw Aao (by omega) (by omega) K89 rfl
set_option maxRecDepth 65536 in
set_option maxHeartbeats 4000000 in
theorem O52 {Z : State} {ω : OW} {γ : OG} (h0 : Heap) (a w aRL aIR aIC ao : Addr) (u1 u2 u3 : Value) (n m : Nat) (ln mm : Int32) (G : Nat → Int32) (nd : List.Nodup [a, w, aRL, aIR, aIC, ao]) (gs : ∀ x ∈ [a, aRL, aIR, aIC, ao], ω.2.1 ≤ x) (gh : ∀ x ∈ [aRL, aIR, aIC, ao], h0.size ≤ x) (hln : ln.toInt = n) (hmm : mm.toInt = m) (hnm : n = 6 * m) (hm : m ≤ 3) (hG : ∀ j, j < m → G (6 * j + 1) ≠ 0) (d : Nat) : ∀ {T : State} {h : Heap} (X : oSt Z ω γ k3 T h 4 12) (lc ct k : Int32) (rm : Int64) (RL IR IC O : Nat → Int32) (s9 : Slot) (hs9 : s9 = .unset ∨ ∃ z : Int32, s9 = .val (.int z)) (F0 : CP Z h a (.ref w) (.ref aRL) (.ref aIR) (.ref aIC) u1 u2 u3) (Aw : oA Z h w .int n (fun i_ => .int (G i_))) (AaRL : oA Z h aRL .int m (fun i_ => .int (RL i_))) (AaIR : oA Z h aIR .int m (fun i_ => .int (IR i_))) (AaIC : oA Z h aIC .int m (fun i_ => .int (IC i_))) (Aao : oA Z h ao .int m (fun i_ => .int (O i_))) (K0 : Keep h0 h [a]) (hc0 : 0 ≤ ct.toInt) (hl0 : 0 ≤ lc.toInt) (hk0 : 0 ≤ k.toInt) (hk6 : k.toInt = 6 * (ct.toInt + lc.toInt)) (hO : ∀ i : Nat, (i : Int) < ct.toInt → 0 ≤ (O i).toInt ∧ (O i).toInt < n) (hkn : k.toInt ≤ n) (hd_ : n - k.toInt.toNat = d),
    oWP ω γ k3 (fun v h' => v = none ∧ Keep h0 h' [a] ∧ ∃ v1 v2 v3 v4 v5 v6, CP Z h' a (.ref w) v1 v2 v3 v4 v5 v6) T 52 #[.val (.ref a), .val (.ref w), .val (.int mm), .val (.ref ao), .val (.int ct), .val (.int lc), .val (.long rm), .second, .val (.int k), s9] [] := by
  induction d using Nat.strongRecOn with
  | _ d ih =>
    intro T h X lc ct k rm RL IR IC O s9 hs9 F0 Aw AaRL AaIR AaIC Aao K0 hc0 hl0 hk0 hk6 hO hkn hd_
    refine ow_iload X 54 d3_52 rfl rfl ?_
    refine ow_aloadN X 55 d3_54 rfl rfl rfl ?_
    refine ow_alen X 56 (v := ln) Aw d3_55 rfl hln ?_
    refine ow_icmp_ge X 59 181 d3_56 rfl rfl (fun (c56 : ln.toInt ≤ k.toInt) => ?_) (fun (c56 : k.toInt < ln.toInt) => ?_)
    · exact E181 X h0 a w aRL aIR aIC ao u1 u2 u3 n m ln mm G nd gs gh hln hmm hnm hm hG lc ct k rm RL IR IC O s9 F0 Aw AaRL AaIR AaIC Aao K0 hc0 hl0 hk0 hk6 hO (by omega)
    · refine ow_iload X 61 d3_59 rfl rfl ?_
      refine ow_istore X 63 (L' := #[.val (.ref a), .val (.ref w), .val (.int mm), .val (.ref ao), .val (.int ct), .val (.int lc), .val (.long rm), .second, .val (.int k), .val (.int ct)]) d3_61 rfl (XS.store1 rfl (hs9.imp id fun ⟨z, e⟩ => ⟨_, e, rfl⟩) rfl) ?_
      refine I63 h0 a w ao n m mm lc ct k rm G O hm (by omega) hk0 (by omega) hO _ X ct Aw Aao hc0 (Int.le_refl _) (fun i hi0 hic => ?_) rfl
      have hz : G (k + (1 : Int32)).toInt.toNat ≠ 0 := by
        have q := own_addk k 1 1 rfl (by decide) (by omega)
        have q2 : (k + (1 : Int32)).toInt.toNat = 6 * (k.toInt.toNat / 6) + 1 := by omega
        rw [q2]; exact hG _ (by omega)
      have d6 := own_d6 k hk0; have y1 := own_sub ct i (by omega) (by omega); have y2 := own_add lc (ct - i) (by omega) (by omega); have y3 := own_addk i 1 1 rfl (by decide) (by omega); have y4 := own_addk k 6 6 rfl (by decide) (by omega)
      refine ow_aloadN X 90 d3_89 rfl rfl rfl ?_
      refine ow_getF X 93 25 rfl rfl F0.2.2.2.1 d3_90 rfl ?_
      intro T_12 X_12
      refine ow_iload X_12 95 d3_93 rfl rfl ?_
      refine ow_bipush X_12 97 (6 : Int32) d3_95 rfl rfl ?_
      refine ow_idiv X_12 98 d3_97 rfl (by decide) ?_
      refine ow_iload X_12 100 d3_98 rfl rfl ?_
      refine ow_iastore X_12 101 AaIR (gs _ (List.mem_of_getElem? (i := 2) rfl)) d3_100 rfl (by omega) (by omega) ?_
      intro T_13 h_13 X_13 W_13
      have f14_0 : CP Z h_13 a (.ref w) (.ref aRL) (.ref aIR) (.ref aIC) u1 u2 u3 := F0.other W_13 (oNd nd 0 3 (by decide) rfl rfl)
      have f14_1 : oA Z h_13 w .int n (fun i_ => .int (G i_)) := Aw.other W_13 (oNd nd 1 3 (by decide) rfl rfl)
      have f14_2 : oA Z h_13 aRL .int m (fun i_ => .int (RL i_)) := AaRL.other W_13 (oNd nd 2 3 (by decide) rfl rfl)
      have f14_3 : oA Z h_13 aIR .int m (fun i_ => .int ((oUpd IR ((k / (6 : Int32)).toInt.toNat) lc) i_)) := AaIR.setI W_13
      have f14_4 : oA Z h_13 aIC .int m (fun i_ => .int (IC i_)) := AaIC.other W_13 (oNd nd 4 3 (by decide) rfl rfl)
      have f14_5 : oA Z h_13 ao .int m (fun i_ => .int (O i_)) := Aao.other W_13 (oNd nd 5 3 (by decide) rfl rfl)
      have f14_6 : Keep h0 h_13 [a] := K0.wr W_13 (Or.inr (gh _ (List.mem_of_getElem? (i := 1) rfl)))
      refine ow_aloadN X_13 102 d3_101 rfl rfl rfl ?_
      refine ow_getF X_13 105 27 rfl rfl f14_0.2.2.2.2.1 d3_102 rfl ?_
      intro T_15 X_15
      refine ow_iload X_15 107 d3_105 rfl rfl ?_
      refine ow_bipush X_15 109 (6 : Int32) d3_107 rfl rfl ?_
      refine ow_idiv X_15 110 d3_109 rfl (by decide) ?_
      refine ow_iload X_15 112 d3_110 rfl rfl ?_
      refine ow_iload X_15 114 d3_112 rfl rfl ?_
      refine ow_isub X_15 115 d3_114 rfl ?_
      refine ow_iastore X_15 116 f14_4 (gs _ (List.mem_of_getElem? (i := 3) rfl)) d3_115 rfl (by omega) (by omega) ?_
      intro T_16 h_16 X_16 W_16
      have f17_0 : CP Z h_16 a (.ref w) (.ref aRL) (.ref aIR) (.ref aIC) u1 u2 u3 := f14_0.other W_16 (oNd nd 0 4 (by decide) rfl rfl)
      have f17_1 : oA Z h_16 w .int n (fun i_ => .int (G i_)) := f14_1.other W_16 (oNd nd 1 4 (by decide) rfl rfl)
      have f17_2 : oA Z h_16 aRL .int m (fun i_ => .int (RL i_)) := f14_2.other W_16 (oNd nd 2 4 (by decide) rfl rfl)
      have f17_3 : oA Z h_16 aIR .int m (fun i_ => .int ((oUpd IR ((k / (6 : Int32)).toInt.toNat) lc) i_)) := f14_3.other W_16 (oNd nd 3 4 (by decide) rfl rfl)
      have f17_4 : oA Z h_16 aIC .int m (fun i_ => .int ((oUpd IC ((k / (6 : Int32)).toInt.toNat) (ct - i)) i_)) := f14_4.setI W_16
      have f17_5 : oA Z h_16 ao .int m (fun i_ => .int (O i_)) := f14_5.other W_16 (oNd nd 5 4 (by decide) rfl rfl)
      have f17_6 : Keep h0 h_16 [a] := f14_6.wr W_16 (Or.inr (gh _ (List.mem_of_getElem? (i := 2) rfl)))
      refine ow_aloadN X_16 117 d3_116 rfl rfl rfl ?_
      refine ow_iload X_16 119 d3_117 rfl rfl ?_
      refine ow_aloadN X_16 120 d3_119 rfl rfl rfl ?_
      refine ow_getF X_16 123 23 rfl rfl f17_0.2.2.1 d3_120 rfl ?_
      intro T_18 X_18
      refine ow_iload X_18 125 d3_123 rfl rfl ?_
      refine ow_iload X_18 127 d3_125 rfl rfl ?_
      refine ow_iload X_18 129 d3_127 rfl rfl ?_
      refine ow_isub X_18 130 d3_129 rfl ?_
      refine ow_acopy X_18 133 29 32 30 31 (W := 0) rfl rfl rfl rfl rfl f17_5 f17_2 (gs _ (List.mem_of_getElem? (i := 1) rfl)) hi0 hl0 (by omega) (by omega) (by omega) rfl d3_130 rfl (by decide) (Nat.le_of_eq rfl) (by decide +kernel) ?_
      intro T_19 h_19 gg19 X_19 Kc19 Ac19
      have f20_0 : CP Z h_19 a (.ref w) (.ref aRL) (.ref aIR) (.ref aIC) u1 u2 u3 := f17_0.keep Kc19 (ninS (oNd nd 0 2 (by decide) rfl rfl) nin0)
      have f20_1 : oA Z h_19 w .int n (fun i_ => .int (G i_)) := f17_1.keep Kc19 (ninS (oNd nd 1 2 (by decide) rfl rfl) nin0)
      have f20_3 : oA Z h_19 aIR .int m (fun i_ => .int ((oUpd IR ((k / (6 : Int32)).toInt.toNat) lc) i_)) := f17_3.keep Kc19 (ninS (oNd nd 3 2 (by decide) rfl rfl) nin0)
      have f20_4 : oA Z h_19 aIC .int m (fun i_ => .int ((oUpd IC ((k / (6 : Int32)).toInt.toNat) (ct - i)) i_)) := f17_4.keep Kc19 (ninS (oNd nd 4 2 (by decide) rfl rfl) nin0)
      have f20_5 : oA Z h_19 ao .int m (fun i_ => .int (O i_)) := f17_5.keep Kc19 (ninS (oNd nd 5 2 (by decide) rfl rfl) nin0)
      have f20_6 : Keep h0 h_19 [a] := f17_6.trans Kc19 (allS (Or.inr (gh _ (List.mem_of_getElem? (i := 0) rfl))) all0)
      refine ow_iload X_19 135 d3_133 rfl rfl ?_
      refine ow_iload X_19 137 d3_135 rfl rfl ?_
      refine ow_iload X_19 139 d3_137 rfl rfl ?_
      refine ow_isub X_19 140 d3_139 rfl ?_
      refine ow_iadd X_19 141 d3_140 rfl ?_
      refine ow_istore X_19 143 (L' := #[.val (.ref a), .val (.ref w), .val (.int mm), .val (.ref ao), .val (.int ct), .val (.int (lc + (ct - i))), .val (.long rm), .second, .val (.int k), .val (.int i)]) d3_141 rfl rfl ?_
      refine ow_iload X_19 145 d3_143 rfl rfl ?_
      refine ow_istore X_19 147 (L' := #[.val (.ref a), .val (.ref w), .val (.int mm), .val (.ref ao), .val (.int i), .val (.int (lc + (ct - i))), .val (.long rm), .second, .val (.int k), .val (.int i)]) d3_145 rfl rfl ?_
      refine ow_aloadN X_19 148 d3_147 rfl rfl rfl ?_
      refine ow_iload X_19 150 d3_148 rfl rfl ?_
      refine ow_iinc X_19 153 (L' := #[.val (.ref a), .val (.ref w), .val (.int mm), .val (.ref ao), .val (.int (i + (1 : Int32))), .val (.int (lc + (ct - i))), .val (.long rm), .second, .val (.int k), .val (.int i)]) (1 : Int32) d3_150 rfl rfl rfl rfl ?_
      refine ow_iload X_19 155 d3_153 rfl rfl ?_
      refine ow_iastore X_19 156 f20_5 (gs _ (List.mem_of_getElem? (i := 4) rfl)) d3_155 rfl (by omega) (by omega) ?_
      intro T_21 h_21 X_21 W_21
      have f22_0 : CP Z h_21 a (.ref w) (.ref aRL) (.ref aIR) (.ref aIC) u1 u2 u3 := f20_0.other W_21 (oNd nd 0 5 (by decide) rfl rfl)
      have f22_1 : oA Z h_21 w .int n (fun i_ => .int (G i_)) := f20_1.other W_21 (oNd nd 1 5 (by decide) rfl rfl)
      have f22_2 : oA Z h_21 aIR .int m (fun i_ => .int ((oUpd IR ((k / (6 : Int32)).toInt.toNat) lc) i_)) := f20_3.other W_21 (oNd nd 3 5 (by decide) rfl rfl)
      have f22_3 : oA Z h_21 aIC .int m (fun i_ => .int ((oUpd IC ((k / (6 : Int32)).toInt.toNat) (ct - i)) i_)) := f20_4.other W_21 (oNd nd 4 5 (by decide) rfl rfl)
      have f22_4 : oA Z h_21 ao .int m (fun i_ => .int ((oUpd O i.toInt.toNat k) i_)) := f20_5.setI W_21
      have f22_5 : Keep h0 h_21 [a] := f20_6.wr W_21 (Or.inr (gh _ (List.mem_of_getElem? (i := 3) rfl)))
      have f22_6 : oA Z h_21 aRL .int m (fun i_ => .int (gg19 i_)) := Ac19.other W_21 (oNd nd 2 5 (by decide) rfl rfl)
      refine ow_lload X_21 158 d3_156 rfl rfl ?_
      refine ow_aloadN X_21 159 d3_158 rfl rfl rfl ?_
      refine ow_iload X_21 161 d3_159 rfl rfl ?_
      refine ow_aloadN X_21 162 d3_161 rfl rfl rfl ?_
      refine ow_iload X_21 164 d3_162 rfl rfl ?_
      refine ow_callS X_21 167 33 34 14 35 (κ' := k5) (as := [.ref w, .int k]) (S := [.int k, .ref w, .long rm]) (W := 4) rfl rfl rfl rfl rfl (by decide) (C_foc (oSt_w X_21) (oSt_n0 X_21) w k n G f22_1 hk0 (by omega) (by omega) hz) (by decide) (by decide) (Nat.le_of_eq rfl) (by decide) (by decide) pd5 rfl rfl rfl d3_164 rfl ?_
      intro v_23 T_23 h_23 X_23 q_23
      obtain ⟨z23, rfl, rfl⟩ := q_23
      show oWP ω γ k3 _ T_23 167 #[.val (.ref a), .val (.ref w), .val (.int mm), .val (.ref ao), .val (.int (i + (1 : Int32))), .val (.int (lc + (ct - i))), .val (.long rm), .second, .val (.int k), .val (.int i)] [.int z23, .int k, .ref w, .long rm]
      refine ow_callS X_23 170 36 37 14 38 (κ' := k6) (as := [.ref w, .int k, .int z23]) (S := [.long rm]) (W := 2) rfl rfl rfl rfl rfl (by decide) (C_room (oSt_w X_23) (oSt_n0 X_23) w k z23 n G f22_1 hk0 (by omega) (by omega) hz) (by decide) (by decide) (Nat.le_of_eq rfl) (by decide) (by decide) pd6 rfl rfl rfl d3_167 rfl ?_
      intro v_24 T_24 h_24 X_24 q_24
      obtain ⟨z24, rfl, rfl⟩ := q_24
      show oWP ω γ k3 _ T_24 170 #[.val (.ref a), .val (.ref w), .val (.int mm), .val (.ref ao), .val (.int (i + (1 : Int32))), .val (.int (lc + (ct - i))), .val (.long rm), .second, .val (.int k), .val (.int i)] [.long z24, .long rm]
      refine ow_callS X_24 173 39 40 10 41 (κ' := k7) (as := [.long rm, .long z24]) (S := []) (W := 0) rfl rfl rfl rfl rfl (by decide) (C_maxJ (oSt_w X_24) (oSt_n0 X_24) rm z24) (by decide) (by decide) (Nat.le_of_eq rfl) (by decide) (by decide) pd7 rfl rfl rfl d3_170 rfl ?_
      intro v_25 T_25 h_25 X_25 q_25
      obtain ⟨z25, rfl, rfl⟩ := q_25
      show oWP ω γ k3 _ T_25 173 #[.val (.ref a), .val (.ref w), .val (.int mm), .val (.ref ao), .val (.int (i + (1 : Int32))), .val (.int (lc + (ct - i))), .val (.long rm), .second, .val (.int k), .val (.int i)] [.long z25]
      refine ow_lstore X_25 175 (L' := #[.val (.ref a), .val (.ref w), .val (.int mm), .val (.ref ao), .val (.int (i + (1 : Int32))), .val (.int (lc + (ct - i))), .val (.long z25), .second, .val (.int k), .val (.int i)]) d3_173 rfl rfl ?_
      refine ow_iinc X_25 178 (L' := #[.val (.ref a), .val (.ref w), .val (.int mm), .val (.ref ao), .val (.int (i + (1 : Int32))), .val (.int (lc + (ct - i))), .val (.long z25), .second, .val (.int (k + (6 : Int32))), .val (.int i)]) (6 : Int32) d3_175 rfl rfl rfl rfl ?_
      refine ow_goto X_25 52 d3_178 rfl ?_
      exact ih _ (by omega) X_25 _ _ _ _ _ _ _ _ _ (Or.inr ⟨_, rfl⟩) f22_0 f22_1 f22_6 f22_2 f22_3 f22_4 f22_5 (by omega) (by omega) (by omega) (by omega) (own_open hi0 hic hO hk0 (by omega) y3) (by omega) rfl
set_option maxRecDepth 65536 in
set_option maxHeartbeats 4000000 in
theorem C_init {Z : State} {ω : OW} {h : Heap} (hw_ : ∀ d ∈ tables_1, d.before ω.2.2 Z = true) (hn_ : ω.2.1 ≤ h.size) (a w : Addr) (n m : Nat) (ln : Int32) (G : Nat → Int32) (F0 : CP Z h a .null .null .null .null (.int (0 : Int32)) (.int (0 : Int32)) (.int (0 : Int32))) (Aw : oA Z h w .int n (fun i_ => .int (G i_))) (ga : ω.2.1 ≤ a) (ne : a ≠ w) (hln : ln.toInt = n) (hnm : n = 6 * m) (hm : m ≤ 3) (hG : ∀ j, j < m → G (6 * j + 1) ≠ 0) :
    oC Z ω (⟨"com/example/rexquill/rexquill/Copies", "<init>", "([I)V"⟩ : MethodName) k3 [] #[.ref a, .ref w] h (fun v h' => v = none ∧ Keep h h' [a] ∧ ∃ v1 v2 v3 v4 v5 v6, CP Z h' a (.ref w) v1 v2 v3 v4 v5 v6) := by
  refine oC_of hw_ hn_ pn3 rfl rfl (L := #[.val (.ref a), .val (.ref w), .unset, .unset, .unset, .unset, .unset, .unset, .unset, .unset]) (fun m => by first | (simp [entryFrame, mkF, argsToLocals, Value.category, k3]; done) | rfl) ?_
  intro γ T X
  refine ow_aloadN X 1 d3_0 rfl rfl rfl ?_
  refine ow_initO X 4 18 19 20 rfl rfl rfl rfl d3_1 rfl rfl (by decide) (W := 0) (Nat.le_of_eq rfl) (by decide) ?_
  intro T_26 X_26
  refine ow_aloadN X_26 5 d3_4 rfl rfl rfl ?_
  refine ow_aloadN X_26 6 d3_5 rfl rfl rfl ?_
  refine ow_putF X_26 9 21 13 rfl rfl F0.2.1 F0.1 (Or.inr ⟨oSt_at X_26 22 rfl, rfl, rfl⟩) rfl (ty := (.array .int)) (by decide) rfl rfl ga d3_6 rfl ?_
  intro T_27 h_27 X_27 W_27
  have f28_0 : CP Z h_27 a (.ref w) .null .null .null (.int (0 : Int32)) (.int (0 : Int32)) (.int (0 : Int32)) := CP.set_records (oSt_w X_27) F0 W_27
  have f28_1 : oA Z h_27 w .int n (fun i_ => .int (G i_)) := Aw.other W_27 (Ne.symm ne)
  have f28_2 : Keep h h_27 [a] := (Keep.refl h [a]).wr W_27 (Or.inl (List.mem_of_getElem? (i := 0) rfl))
  refine ow_aloadN X_27 10 d3_9 rfl rfl rfl ?_
  refine ow_alen X_27 11 (v := ln) f28_1 d3_10 rfl hln ?_
  refine ow_bipush X_27 13 (6 : Int32) d3_11 rfl rfl ?_
  refine ow_idiv X_27 14 d3_13 rfl (by decide) ?_
  refine ow_istoreN X_27 15 (L' := #[.val (.ref a), .val (.ref w), .val (.int (ln / (6 : Int32))), .unset, .unset, .unset, .unset, .unset, .unset, .unset]) d3_14 rfl rfl ?_
  have d6 := own_d6 ln (by omega)
  generalize ln / (6 : Int32) = mm at d6 ⊢
  have hmm : mm.toInt = m := by omega
  have hmn : mm.toInt.toNat = m := by omega
  refine ow_aloadN X_27 16 d3_15 rfl rfl rfl ?_
  refine ow_iloadN X_27 17 d3_16 rfl rfl ?_
  refine ow_newP X_27 19 3 (cap := 3) rfl d3_17 rfl (by omega) (by omega) (by decide) (by decide) (by decide) ?_
  intro T_29 h_29 a_29 q_29 X_29 E_29 A_29 g_29
  have ne_a_a_29 : a ≠ a_29 := by rw [q_29]; exact Nat.ne_of_lt f28_0.lt
  have ne_w_a_29 : w ≠ a_29 := by rw [q_29]; exact Nat.ne_of_lt f28_1.lt
  have ge_h_a_29 : h.size ≤ a_29 := by rw [q_29]; exact f28_2.1
  have f30_0 : CP Z h_29 a (.ref w) .null .null .null (.int (0 : Int32)) (.int (0 : Int32)) (.int (0 : Int32)) := f28_0.ext E_29
  have f30_1 : oA Z h_29 w .int n (fun i_ => .int (G i_)) := f28_1.ext E_29
  have f30_2 : Keep h h_29 [a] := f28_2.ext E_29
  have A_29 : oA Z h_29 a_29 .int mm.toInt.toNat (fun i_ => .int (oZI i_)) := A_29
  refine ow_putF X_29 22 23 13 rfl rfl f30_0.2.2.1 f30_0.1 (Or.inr ⟨oSt_at X_29 24 rfl, rfl, rfl⟩) rfl (ty := (.array .int)) (by decide) rfl rfl ga d3_19 rfl ?_
  intro T_31 h_31 X_31 W_31
  have f32_0 : CP Z h_31 a (.ref w) (.ref a_29) .null .null (.int (0 : Int32)) (.int (0 : Int32)) (.int (0 : Int32)) := CP.set_recordLists (oSt_w X_31) f30_0 W_31
  have f32_1 : oA Z h_31 w .int n (fun i_ => .int (G i_)) := f30_1.other W_31 (Ne.symm ne)
  have f32_2 : Keep h h_31 [a] := f30_2.wr W_31 (Or.inl (List.mem_of_getElem? (i := 0) rfl))
  have f32_3 : oA Z h_31 a_29 .int mm.toInt.toNat (fun i_ => .int (oZI i_)) := A_29.other W_31 (Ne.symm ne_a_a_29)
  refine ow_aloadN X_31 23 d3_22 rfl rfl rfl ?_
  refine ow_iloadN X_31 24 d3_23 rfl rfl ?_
  refine ow_newP X_31 26 3 (cap := 3) rfl d3_24 rfl (by omega) (by omega) (by decide) (by decide) (by decide) ?_
  intro T_33 h_33 a_33 q_33 X_33 E_33 A_33 g_33
  have ne_a_a_33 : a ≠ a_33 := by rw [q_33]; exact Nat.ne_of_lt f32_0.lt
  have ne_w_a_33 : w ≠ a_33 := by rw [q_33]; exact Nat.ne_of_lt f32_1.lt
  have ge_h_a_33 : h.size ≤ a_33 := by rw [q_33]; exact f32_2.1
  have ne_a_29_a_33 : a_29 ≠ a_33 := by rw [q_33]; exact Nat.ne_of_lt f32_3.lt
  have f34_0 : CP Z h_33 a (.ref w) (.ref a_29) .null .null (.int (0 : Int32)) (.int (0 : Int32)) (.int (0 : Int32)) := f32_0.ext E_33
  have f34_1 : oA Z h_33 w .int n (fun i_ => .int (G i_)) := f32_1.ext E_33
  have f34_2 : Keep h h_33 [a] := f32_2.ext E_33
  have f34_3 : oA Z h_33 a_29 .int mm.toInt.toNat (fun i_ => .int (oZI i_)) := f32_3.ext E_33
  have A_33 : oA Z h_33 a_33 .int mm.toInt.toNat (fun i_ => .int (oZI i_)) := A_33
  refine ow_putF X_33 29 25 13 rfl rfl f34_0.2.2.2.1 f34_0.1 (Or.inr ⟨oSt_at X_33 26 rfl, rfl, rfl⟩) rfl (ty := (.array .int)) (by decide) rfl rfl ga d3_26 rfl ?_
  intro T_35 h_35 X_35 W_35
  have f36_0 : CP Z h_35 a (.ref w) (.ref a_29) (.ref a_33) .null (.int (0 : Int32)) (.int (0 : Int32)) (.int (0 : Int32)) := CP.set_innerRecords (oSt_w X_35) f34_0 W_35
  have f36_1 : oA Z h_35 w .int n (fun i_ => .int (G i_)) := f34_1.other W_35 (Ne.symm ne)
  have f36_2 : Keep h h_35 [a] := f34_2.wr W_35 (Or.inl (List.mem_of_getElem? (i := 0) rfl))
  have f36_3 : oA Z h_35 a_29 .int mm.toInt.toNat (fun i_ => .int (oZI i_)) := f34_3.other W_35 (Ne.symm ne_a_a_29)
  have f36_4 : oA Z h_35 a_33 .int mm.toInt.toNat (fun i_ => .int (oZI i_)) := A_33.other W_35 (Ne.symm ne_a_a_33)
  refine ow_aloadN X_35 30 d3_29 rfl rfl rfl ?_
  refine ow_iloadN X_35 31 d3_30 rfl rfl ?_
  refine ow_newP X_35 33 3 (cap := 3) rfl d3_31 rfl (by omega) (by omega) (by decide) (by decide) (by decide) ?_
  intro T_37 h_37 a_37 q_37 X_37 E_37 A_37 g_37
  have ne_a_a_37 : a ≠ a_37 := by rw [q_37]; exact Nat.ne_of_lt f36_0.lt
  have ne_w_a_37 : w ≠ a_37 := by rw [q_37]; exact Nat.ne_of_lt f36_1.lt
  have ge_h_a_37 : h.size ≤ a_37 := by rw [q_37]; exact f36_2.1
  have ne_a_29_a_37 : a_29 ≠ a_37 := by rw [q_37]; exact Nat.ne_of_lt f36_3.lt
  have ne_a_33_a_37 : a_33 ≠ a_37 := by rw [q_37]; exact Nat.ne_of_lt f36_4.lt
  have f38_0 : CP Z h_37 a (.ref w) (.ref a_29) (.ref a_33) .null (.int (0 : Int32)) (.int (0 : Int32)) (.int (0 : Int32)) := f36_0.ext E_37
  have f38_1 : oA Z h_37 w .int n (fun i_ => .int (G i_)) := f36_1.ext E_37
  have f38_2 : Keep h h_37 [a] := f36_2.ext E_37
  have f38_3 : oA Z h_37 a_29 .int mm.toInt.toNat (fun i_ => .int (oZI i_)) := f36_3.ext E_37
  have f38_4 : oA Z h_37 a_33 .int mm.toInt.toNat (fun i_ => .int (oZI i_)) := f36_4.ext E_37
  have A_37 : oA Z h_37 a_37 .int mm.toInt.toNat (fun i_ => .int (oZI i_)) := A_37
  refine ow_putF X_37 36 27 13 rfl rfl f38_0.2.2.2.2.1 f38_0.1 (Or.inr ⟨oSt_at X_37 28 rfl, rfl, rfl⟩) rfl (ty := (.array .int)) (by decide) rfl rfl ga d3_33 rfl ?_
  intro T_39 h_39 X_39 W_39
  have f40_0 : CP Z h_39 a (.ref w) (.ref a_29) (.ref a_33) (.ref a_37) (.int (0 : Int32)) (.int (0 : Int32)) (.int (0 : Int32)) := CP.set_innerRecordCount (oSt_w X_39) f38_0 W_39
  have f40_1 : oA Z h_39 w .int n (fun i_ => .int (G i_)) := f38_1.other W_39 (Ne.symm ne)
  have f40_2 : Keep h h_39 [a] := f38_2.wr W_39 (Or.inl (List.mem_of_getElem? (i := 0) rfl))
  have f40_3 : oA Z h_39 a_29 .int mm.toInt.toNat (fun i_ => .int (oZI i_)) := f38_3.other W_39 (Ne.symm ne_a_a_29)
  have f40_4 : oA Z h_39 a_33 .int mm.toInt.toNat (fun i_ => .int (oZI i_)) := f38_4.other W_39 (Ne.symm ne_a_a_33)
  have f40_5 : oA Z h_39 a_37 .int mm.toInt.toNat (fun i_ => .int (oZI i_)) := A_37.other W_39 (Ne.symm ne_a_a_37)
  refine ow_iloadN X_39 37 d3_36 rfl rfl ?_
  refine ow_newP X_39 39 3 (cap := 3) rfl d3_37 rfl (by omega) (by omega) (by decide) (by decide) (by decide) ?_
  intro T_41 h_41 a_41 q_41 X_41 E_41 A_41 g_41
  have ne_a_a_41 : a ≠ a_41 := by rw [q_41]; exact Nat.ne_of_lt f40_0.lt
  have ne_w_a_41 : w ≠ a_41 := by rw [q_41]; exact Nat.ne_of_lt f40_1.lt
  have ge_h_a_41 : h.size ≤ a_41 := by rw [q_41]; exact f40_2.1
  have ne_a_29_a_41 : a_29 ≠ a_41 := by rw [q_41]; exact Nat.ne_of_lt f40_3.lt
  have ne_a_33_a_41 : a_33 ≠ a_41 := by rw [q_41]; exact Nat.ne_of_lt f40_4.lt
  have ne_a_37_a_41 : a_37 ≠ a_41 := by rw [q_41]; exact Nat.ne_of_lt f40_5.lt
  have f42_0 : CP Z h_41 a (.ref w) (.ref a_29) (.ref a_33) (.ref a_37) (.int (0 : Int32)) (.int (0 : Int32)) (.int (0 : Int32)) := f40_0.ext E_41
  have f42_1 : oA Z h_41 w .int n (fun i_ => .int (G i_)) := f40_1.ext E_41
  have f42_2 : Keep h h_41 [a] := f40_2.ext E_41
  have f42_3 : oA Z h_41 a_29 .int mm.toInt.toNat (fun i_ => .int (oZI i_)) := f40_3.ext E_41
  have f42_4 : oA Z h_41 a_33 .int mm.toInt.toNat (fun i_ => .int (oZI i_)) := f40_4.ext E_41
  have f42_5 : oA Z h_41 a_37 .int mm.toInt.toNat (fun i_ => .int (oZI i_)) := f40_5.ext E_41
  have A_41 : oA Z h_41 a_41 .int mm.toInt.toNat (fun i_ => .int (oZI i_)) := A_41
  refine ow_astoreN X_41 40 (L' := #[.val (.ref a), .val (.ref w), .val (.int mm), .val (.ref a_41), .unset, .unset, .unset, .unset, .unset, .unset]) d3_39 rfl rfl rfl ?_
  refine ow_iconst X_41 41 (0 : Int32) d3_40 rfl rfl ?_
  refine ow_istore X_41 43 (L' := #[.val (.ref a), .val (.ref w), .val (.int mm), .val (.ref a_41), .val (.int (0 : Int32)), .unset, .unset, .unset, .unset, .unset]) d3_41 rfl rfl ?_
  refine ow_iconst X_41 44 (0 : Int32) d3_43 rfl rfl ?_
  refine ow_istore X_41 46 (L' := #[.val (.ref a), .val (.ref w), .val (.int mm), .val (.ref a_41), .val (.int (0 : Int32)), .val (.int (0 : Int32)), .unset, .unset, .unset, .unset]) d3_44 rfl rfl ?_
  refine ow_lconst X_41 47 (0 : Int64) d3_46 rfl rfl ?_
  refine ow_lstore X_41 49 (L' := #[.val (.ref a), .val (.ref w), .val (.int mm), .val (.ref a_41), .val (.int (0 : Int32)), .val (.int (0 : Int32)), .val (.long (0 : Int64)), .second, .unset, .unset]) d3_47 rfl rfl ?_
  refine ow_iconst X_41 50 (0 : Int32) d3_49 rfl rfl ?_
  refine ow_istore X_41 52 (L' := #[.val (.ref a), .val (.ref w), .val (.int mm), .val (.ref a_41), .val (.int (0 : Int32)), .val (.int (0 : Int32)), .val (.long (0 : Int64)), .second, .val (.int (0 : Int32)), .unset]) d3_50 rfl rfl ?_
  have z1 : oA Z h_41 a_29 .int m (fun i => .int (oZI i)) := hmn ▸ f42_3
  have z2 : oA Z h_41 a_33 .int m (fun i => .int (oZI i)) := hmn ▸ f42_4
  have z3 : oA Z h_41 a_37 .int m (fun i => .int (oZI i)) := hmn ▸ f42_5
  have z4 : oA Z h_41 a_41 .int m (fun i => .int (oZI i)) := hmn ▸ A_41
  exact O52 h a w a_29 a_33 a_37 a_41 _ _ _ n m ln mm G (List.nodup_cons.mpr ⟨(ninS ne (ninS ne_a_a_29 (ninS ne_a_a_33 (ninS ne_a_a_37 (ninS ne_a_a_41 nin0))))), (List.nodup_cons.mpr ⟨(ninS ne_w_a_29 (ninS ne_w_a_33 (ninS ne_w_a_37 (ninS ne_w_a_41 nin0)))), (List.nodup_cons.mpr ⟨(ninS ne_a_29_a_33 (ninS ne_a_29_a_37 (ninS ne_a_29_a_41 nin0))), (List.nodup_cons.mpr ⟨(ninS ne_a_33_a_37 (ninS ne_a_33_a_41 nin0)), (List.nodup_cons.mpr ⟨(ninS ne_a_37_a_41 nin0), (List.nodup_cons.mpr ⟨nin0, List.nodup_nil⟩)⟩)⟩)⟩)⟩)⟩) (allS ga (allS g_29 (allS g_33 (allS g_37 (allS g_41 all0))))) (allS ge_h_a_29 (allS ge_h_a_33 (allS ge_h_a_37 (allS ge_h_a_41 all0)))) hln hmm hnm hm hG _ X_41 0 0 0 0 _ _ _ _ _ (Or.inl rfl) f42_0 f42_1 z1 z2 z3 z4 f42_2 (by decide) (by decide) (by decide) (by decide) (fun i hi => by have e : (0 : Int32).toInt = 0 := rfl; omega) (by have e : (0 : Int32).toInt = 0 := rfl; omega) rfl
theorem d2_0 : decode jdk_29_method_69_code 0 = .ok (.iload_n 0, 1) := by decide +kernel
theorem d2_1 : decode jdk_29_method_69_code 1 = .ok (.iload_n 1, 1) := by decide +kernel
theorem d2_2 : decode jdk_29_method_69_code 2 = .ok (.if_icmp .gt 7, 3) := by decide +kernel
theorem d2_5 : decode jdk_29_method_69_code 5 = .ok (.iload_n 0, 1) := by decide +kernel
theorem d2_6 : decode jdk_29_method_69_code 6 = .ok (.goto 4, 3) := by decide +kernel
theorem d2_9 : decode jdk_29_method_69_code 9 = .ok (.iload_n 1, 1) := by decide +kernel
theorem d2_10 : decode jdk_29_method_69_code 10 = .ok (.ireturn, 1) := by decide +kernel
def k2 : OM := (jdk_29_method_69_code, 2, "java/lang/Math", "min", (some .int), { frames := 0, cells := 0, slots := 0, locals := 0 })
theorem pn2 : plainFor (⟨"java/lang/Math", "min", "(II)I"⟩ : MethodName) = true := by decide +kernel
theorem pd2 : parseMethodDescriptor "(II)I" = some ⟨[.int, .int], (some .int)⟩ := by decide +kernel
set_option maxRecDepth 65536 in
set_option maxHeartbeats 4000000 in
theorem C_minI {Z : State} {ω : OW} {h : Heap} (hw_ : ∀ d ∈ tables_1, d.before ω.2.2 Z = true) (hn_ : ω.2.1 ≤ h.size) (x y : Int32) :
    oC Z ω (⟨"java/lang/Math", "min", "(II)I"⟩ : MethodName) k2 [] #[.int x, .int y] h (fun v h' => ∃ z : Int32, v = some (.int z) ∧ h = h') := by
  refine oC_of hw_ hn_ pn2 rfl rfl (L := #[.val (.int x), .val (.int y)]) (fun m => by first | (simp [entryFrame, mkF, argsToLocals, Value.category, k2]; done) | rfl) ?_
  intro γ T X
  refine ow_iloadN X 1 d2_0 rfl rfl ?_
  refine ow_iloadN X 2 d2_1 rfl rfl ?_
  refine ow_icmp_gt X 5 9 d2_2 rfl rfl (fun (c2 : y.toInt < x.toInt) => ?_) (fun (c2 : x.toInt ≤ y.toInt) => ?_)
  · refine ow_iloadN X 10 d2_9 rfl rfl ?_
    refine ow_retI X rfl d2_10 (by decide) (by decide) ?_
    exact ⟨_, rfl, rfl⟩
  · refine ow_iloadN X 6 d2_5 rfl rfl ?_
    refine ow_goto X 10 d2_6 rfl ?_
    refine ow_retI X rfl d2_10 (by decide) (by decide) ?_
    exact ⟨_, rfl, rfl⟩
theorem d1_0 : decode method_3_code 0 = .ok (.iload_n 2, 1) := by decide +kernel
theorem d1_1 : decode method_3_code 1 = .ok (.iload 4, 2) := by decide +kernel
theorem d1_3 : decode method_3_code 3 = .ok (.iload_n 3, 1) := by decide +kernel
theorem d1_4 : decode method_3_code 4 = .ok (.imul, 1) := by decide +kernel
theorem d1_5 : decode method_3_code 5 = .ok (.iadd, 1) := by decide +kernel
theorem d1_6 : decode method_3_code 6 = .ok (.istore 6, 2) := by decide +kernel
theorem d1_8 : decode method_3_code 8 = .ok (.iload 5, 2) := by decide +kernel
theorem d1_10 : decode method_3_code 10 = .ok (.sipush 255, 3) := by decide +kernel
theorem d1_13 : decode method_3_code 13 = .ok (.iand, 1) := by decide +kernel
theorem d1_14 : decode method_3_code 14 = .ok (.iload 4, 2) := by decide +kernel
theorem d1_16 : decode method_3_code 16 = .ok (.invokestatic 27, 3) := by decide +kernel
theorem d1_19 : decode method_3_code 19 = .ok (.istore 7, 2) := by decide +kernel
theorem d1_21 : decode method_3_code 21 = .ok (.aload_n 0, 1) := by decide +kernel
theorem d1_22 : decode method_3_code 22 = .ok (.iload_n 1, 1) := by decide +kernel
theorem d1_23 : decode method_3_code 23 = .ok (.iload_n 2, 1) := by decide +kernel
theorem d1_24 : decode method_3_code 24 = .ok (.iastore, 1) := by decide +kernel
theorem d1_25 : decode method_3_code 25 = .ok (.aload_n 0, 1) := by decide +kernel
theorem d1_26 : decode method_3_code 26 = .ok (.iload_n 1, 1) := by decide +kernel
theorem d1_27 : decode method_3_code 27 = .ok (.iconst 1, 1) := by decide +kernel
theorem d1_28 : decode method_3_code 28 = .ok (.iadd, 1) := by decide +kernel
theorem d1_29 : decode method_3_code 29 = .ok (.iload_n 3, 1) := by decide +kernel
theorem d1_30 : decode method_3_code 30 = .ok (.iastore, 1) := by decide +kernel
theorem d1_31 : decode method_3_code 31 = .ok (.aload_n 0, 1) := by decide +kernel
theorem d1_32 : decode method_3_code 32 = .ok (.iload_n 1, 1) := by decide +kernel
theorem d1_33 : decode method_3_code 33 = .ok (.iconst 2, 1) := by decide +kernel
theorem d1_34 : decode method_3_code 34 = .ok (.iadd, 1) := by decide +kernel
theorem d1_35 : decode method_3_code 35 = .ok (.iload 6, 2) := by decide +kernel
theorem d1_37 : decode method_3_code 37 = .ok (.iastore, 1) := by decide +kernel
theorem d1_38 : decode method_3_code 38 = .ok (.aload_n 0, 1) := by decide +kernel
theorem d1_39 : decode method_3_code 39 = .ok (.iload_n 1, 1) := by decide +kernel
theorem d1_40 : decode method_3_code 40 = .ok (.iconst 3, 1) := by decide +kernel
theorem d1_41 : decode method_3_code 41 = .ok (.iadd, 1) := by decide +kernel
theorem d1_42 : decode method_3_code 42 = .ok (.iload 6, 2) := by decide +kernel
theorem d1_44 : decode method_3_code 44 = .ok (.iastore, 1) := by decide +kernel
theorem d1_45 : decode method_3_code 45 = .ok (.aload_n 0, 1) := by decide +kernel
theorem d1_46 : decode method_3_code 46 = .ok (.iload_n 1, 1) := by decide +kernel
theorem d1_47 : decode method_3_code 47 = .ok (.iconst 4, 1) := by decide +kernel
theorem d1_48 : decode method_3_code 48 = .ok (.iadd, 1) := by decide +kernel
theorem d1_49 : decode method_3_code 49 = .ok (.iload 6, 2) := by decide +kernel
theorem d1_51 : decode method_3_code 51 = .ok (.iload 7, 2) := by decide +kernel
theorem d1_53 : decode method_3_code 53 = .ok (.iadd, 1) := by decide +kernel
theorem d1_54 : decode method_3_code 54 = .ok (.iastore, 1) := by decide +kernel
theorem d1_55 : decode method_3_code 55 = .ok (.aload_n 0, 1) := by decide +kernel
theorem d1_56 : decode method_3_code 56 = .ok (.iload_n 1, 1) := by decide +kernel
theorem d1_57 : decode method_3_code 57 = .ok (.iconst 5, 1) := by decide +kernel
theorem d1_58 : decode method_3_code 58 = .ok (.iadd, 1) := by decide +kernel
theorem d1_59 : decode method_3_code 59 = .ok (.iload 5, 2) := by decide +kernel
theorem d1_61 : decode method_3_code 61 = .ok (.bipush 8, 2) := by decide +kernel
theorem d1_63 : decode method_3_code 63 = .ok (.iushr, 1) := by decide +kernel
theorem d1_64 : decode method_3_code 64 = .ok (.sipush 255, 3) := by decide +kernel
theorem d1_67 : decode method_3_code 67 = .ok (.iand, 1) := by decide +kernel
theorem d1_68 : decode method_3_code 68 = .ok (.iastore, 1) := by decide +kernel
theorem d1_69 : decode method_3_code 69 = .ok (.return_, 1) := by decide +kernel
def k1 : OM := (method_3_code, 8, "com/example/rexquill/rexquill/CopiesCopyCountPinLaw", "fill", none, { frames := 1, cells := 0, slots := 0, locals := 13 })
theorem pn1 : plainFor (⟨"com/example/rexquill/rexquill/CopiesCopyCountPinLaw", "fill", "([IIIIII)V"⟩ : MethodName) = true := plainFor_of_name (by first | (simp [plainName, overriddenIn]; done) | decide +kernel)
theorem pd1 : parseMethodDescriptor "([IIIIII)V" = some ⟨[(.array .int), .int, .int, .int, .int, .int], none⟩ := by decide +kernel
/-- one record's six places -/
def own_fill (G : Nat → Int32) (k : Nat) (v0 v1 v2 v3 v4 v5 : Int32) : Nat → Int32 := oUpd (oUpd (oUpd (oUpd (oUpd (oUpd G k v0) (k + 1) v1) (k + 2) v2) (k + 3) v3) (k + 4) v4) (k + 5) v5
theorem own_cnt (st ln ct : Int32) (h0 : 0 ≤ st.toInt) (h1 : st.toInt ≤ 536870911) (l0 : 1 ≤ ln.toInt) (l1 : ln.toInt ≤ 65536) (c0 : 1 ≤ ct.toInt) (c1 : ct.toInt ≤ 16384) : ((st + ct * ln - st) / ln).toInt = ct.toInt := by
  have m0 : 0 ≤ ct.toInt * ln.toInt := Int.mul_nonneg (by omega) (by omega)
  have m1 : ct.toInt * ln.toInt ≤ 1073741824 := by have := Int.mul_le_mul c1 l1 (by omega) (by decide : (0 : Int) ≤ 16384); omega
  have e0 := c_imul ct ln; have r0 := rng32 (ct * ln)
  have e1 := own_add st (ct * ln) (by omega) (by omega)
  have e2 := own_sub (st + ct * ln) st (by omega) (by omega)
  have d := (c_idiv (st + ct * ln - st) ln ln.toInt rfl (by intro q; rw [q] at l0; exact absurd l0 (by decide))).1 (by omega)
  have v : (st + ct * ln - st).toInt = ct.toInt * ln.toInt := by omega
  rw [d, v, Int.mul_ediv_cancel _ (by omega)]
theorem own_msk (x : Int32) : 0 ≤ (x &&& (536870911 : Int32)).toInt ∧ (x &&& (536870911 : Int32)).toInt ≤ 536870911 := c_and x 536870911 (by decide)
theorem own_len (p : Int64) : 1 ≤ ((p &&& (65535 : Int64)).toInt32 + (1 : Int32)).toInt ∧ ((p &&& (65535 : Int64)).toInt32 + (1 : Int32)).toInt ≤ 65536 := by
  have m := c_maskL p 65535 16 (by decide) (by decide)
  rw [show ((2 ^ 16 : Nat) : Int) = 65536 from by decide] at m
  have f := c_l2i (p &&& 65535); have r3 := rng32 (p &&& (65535 : Int64)).toInt32
  rw [own_addk _ 1 1 rfl (by decide) (by omega)]; omega
theorem own_ct (p : Int64) : 1 ≤ ((p &&& (16383 : Int64)).toInt32 + (1 : Int32)).toInt ∧ ((p &&& (16383 : Int64)).toInt32 + (1 : Int32)).toInt ≤ 16384 := by
  have m := c_maskL p 16383 14 (by decide) (by decide)
  rw [show ((2 ^ 14 : Nat) : Int) = 16384 from by decide] at m
  have f := c_l2i (p &&& 16383); have r3 := rng32 (p &&& (16383 : Int64)).toInt32
  rw [own_addk _ 1 1 rfl (by decide) (by omega)]; omega
theorem own_ne0 (x : Int32) (h : 1 ≤ x.toInt) : x ≠ 0 := by intro e; rw [e] at h; exact absurd h (by decide)
set_option maxRecDepth 65536 in
set_option maxHeartbeats 4000000 in
theorem C_fill {Z : State} {ω : OW} {h : Heap} (hw_ : ∀ d ∈ tables_1, d.before ω.2.2 Z = true) (hn_ : ω.2.1 ≤ h.size) (w : Addr) (k st ln ct op : Int32) (n : Nat) (G : Nat → Int32) (A0 : oA Z h w .int n (fun i_ => .int (G i_))) (gw : ω.2.1 ≤ w) (hk0 : 0 ≤ k.toInt) (hk1 : k.toInt + 5 < n) (hn : (n : Int) < 2147483648) :
    oC Z ω (⟨"com/example/rexquill/rexquill/CopiesCopyCountPinLaw", "fill", "([IIIIII)V"⟩ : MethodName) k1 [] #[.ref w, .int k, .int st, .int ln, .int ct, .int op] h (fun v h' => v = none ∧ Keep h h' [w] ∧ ∃ v4 v5 : Int32, oA Z h' w .int n (fun i => .int (own_fill G k.toInt.toNat st ln (st + ct * ln) (st + ct * ln) v4 v5 i))) := by
  refine oC_of hw_ hn_ pn1 rfl rfl (L := #[.val (.ref w), .val (.int k), .val (.int st), .val (.int ln), .val (.int ct), .val (.int op), .unset, .unset]) (fun m => by first | (simp [entryFrame, mkF, argsToLocals, Value.category, k1]; done) | rfl) ?_
  intro γ T X
  obtain ⟨x1, x2, x3, x4, x5⟩ := own_six 0 k n hk0 hk1 hn
  refine ow_iloadN X 1 d1_0 rfl rfl ?_
  refine ow_iload X 3 d1_1 rfl rfl ?_
  refine ow_iloadN X 4 d1_3 rfl rfl ?_
  refine ow_imul X 5 d1_4 rfl ?_
  refine ow_iadd X 6 d1_5 rfl ?_
  refine ow_istore X 8 (L' := #[.val (.ref w), .val (.int k), .val (.int st), .val (.int ln), .val (.int ct), .val (.int op), .val (.int (st + (ct * ln))), .unset]) d1_6 rfl rfl ?_
  refine ow_iload X 10 d1_8 rfl rfl ?_
  refine ow_sipush X 13 (255 : Int32) d1_10 rfl rfl ?_
  refine ow_iand X 14 d1_13 rfl ?_
  refine ow_iload X 16 d1_14 rfl rfl ?_
  refine ow_callS X 19 8 9 10 11 (κ' := k2) (as := [.int (op &&& (255 : Int32)), .int ct]) (S := []) (W := 0) rfl rfl rfl rfl rfl (by decide) (C_minI (oSt_w X) (oSt_n0 X) (op &&& (255 : Int32)) ct) (by decide) (by decide) (Nat.le_of_eq rfl) (by decide) (by decide) pd2 rfl rfl rfl d1_16 rfl ?_
  intro v_43 T_43 h_43 X_43 q_43
  obtain ⟨mn, rfl, rfl⟩ := q_43
  show oWP ω γ k1 _ T_43 19 #[.val (.ref w), .val (.int k), .val (.int st), .val (.int ln), .val (.int ct), .val (.int op), .val (.int (st + (ct * ln))), .unset] [.int mn]
  refine ow_istore X_43 21 (L' := #[.val (.ref w), .val (.int k), .val (.int st), .val (.int ln), .val (.int ct), .val (.int op), .val (.int (st + (ct * ln))), .val (.int mn)]) d1_19 rfl rfl ?_
  refine ow_aloadN X_43 22 d1_21 rfl rfl rfl ?_
  refine ow_iloadN X_43 23 d1_22 rfl rfl ?_
  refine ow_iloadN X_43 24 d1_23 rfl rfl ?_
  refine ow_iastore X_43 25 A0 gw d1_24 rfl (by omega) (by omega) ?_
  intro T_44 h_44 X_44 W_44
  have f45_0 : oA Z h_44 w .int n (fun i_ => .int ((oUpd G k.toInt.toNat st) i_)) := A0.setI W_44
  have f45_1 : Keep h h_44 [w] := (Keep.refl h [w]).wr W_44 (Or.inl (List.mem_of_getElem? (i := 0) rfl))
  refine ow_aloadN X_44 26 d1_25 rfl rfl rfl ?_
  refine ow_iloadN X_44 27 d1_26 rfl rfl ?_
  refine ow_iconst X_44 28 (1 : Int32) d1_27 rfl rfl ?_
  refine ow_iadd X_44 29 d1_28 rfl ?_
  refine ow_iloadN X_44 30 d1_29 rfl rfl ?_
  refine ow_iastore X_44 31 f45_0 gw d1_30 rfl (by omega) (by omega) ?_
  intro T_46 h_46 X_46 W_46
  have f47_0 : oA Z h_46 w .int n (fun i_ => .int ((oUpd (oUpd G k.toInt.toNat st) ((k + (1 : Int32)).toInt.toNat) ln) i_)) := f45_0.setI W_46
  have f47_1 : Keep h h_46 [w] := f45_1.wr W_46 (Or.inl (List.mem_of_getElem? (i := 0) rfl))
  refine ow_aloadN X_46 32 d1_31 rfl rfl rfl ?_
  refine ow_iloadN X_46 33 d1_32 rfl rfl ?_
  refine ow_iconst X_46 34 (2 : Int32) d1_33 rfl rfl ?_
  refine ow_iadd X_46 35 d1_34 rfl ?_
  refine ow_iload X_46 37 d1_35 rfl rfl ?_
  refine ow_iastore X_46 38 f47_0 gw d1_37 rfl (by omega) (by omega) ?_
  intro T_48 h_48 X_48 W_48
  have f49_0 : oA Z h_48 w .int n (fun i_ => .int ((oUpd (oUpd (oUpd G k.toInt.toNat st) ((k + (1 : Int32)).toInt.toNat) ln) ((k + (2 : Int32)).toInt.toNat) (st + (ct * ln))) i_)) := f47_0.setI W_48
  have f49_1 : Keep h h_48 [w] := f47_1.wr W_48 (Or.inl (List.mem_of_getElem? (i := 0) rfl))
  refine ow_aloadN X_48 39 d1_38 rfl rfl rfl ?_
  refine ow_iloadN X_48 40 d1_39 rfl rfl ?_
  refine ow_iconst X_48 41 (3 : Int32) d1_40 rfl rfl ?_
  refine ow_iadd X_48 42 d1_41 rfl ?_
  refine ow_iload X_48 44 d1_42 rfl rfl ?_
  refine ow_iastore X_48 45 f49_0 gw d1_44 rfl (by omega) (by omega) ?_
  intro T_50 h_50 X_50 W_50
  have f51_0 : oA Z h_50 w .int n (fun i_ => .int ((oUpd (oUpd (oUpd (oUpd G k.toInt.toNat st) ((k + (1 : Int32)).toInt.toNat) ln) ((k + (2 : Int32)).toInt.toNat) (st + (ct * ln))) ((k + (3 : Int32)).toInt.toNat) (st + (ct * ln))) i_)) := f49_0.setI W_50
  have f51_1 : Keep h h_50 [w] := f49_1.wr W_50 (Or.inl (List.mem_of_getElem? (i := 0) rfl))
  refine ow_aloadN X_50 46 d1_45 rfl rfl rfl ?_
  refine ow_iloadN X_50 47 d1_46 rfl rfl ?_
  refine ow_iconst X_50 48 (4 : Int32) d1_47 rfl rfl ?_
  refine ow_iadd X_50 49 d1_48 rfl ?_
  refine ow_iload X_50 51 d1_49 rfl rfl ?_
  refine ow_iload X_50 53 d1_51 rfl rfl ?_
  refine ow_iadd X_50 54 d1_53 rfl ?_
  refine ow_iastore X_50 55 f51_0 gw d1_54 rfl (by omega) (by omega) ?_
  intro T_52 h_52 X_52 W_52
  have f53_0 : oA Z h_52 w .int n (fun i_ => .int ((oUpd (oUpd (oUpd (oUpd (oUpd G k.toInt.toNat st) ((k + (1 : Int32)).toInt.toNat) ln) ((k + (2 : Int32)).toInt.toNat) (st + (ct * ln))) ((k + (3 : Int32)).toInt.toNat) (st + (ct * ln))) ((k + (4 : Int32)).toInt.toNat) ((st + (ct * ln)) + mn)) i_)) := f51_0.setI W_52
  have f53_1 : Keep h h_52 [w] := f51_1.wr W_52 (Or.inl (List.mem_of_getElem? (i := 0) rfl))
  refine ow_aloadN X_52 56 d1_55 rfl rfl rfl ?_
  refine ow_iloadN X_52 57 d1_56 rfl rfl ?_
  refine ow_iconst X_52 58 (5 : Int32) d1_57 rfl rfl ?_
  refine ow_iadd X_52 59 d1_58 rfl ?_
  refine ow_iload X_52 61 d1_59 rfl rfl ?_
  refine ow_bipush X_52 63 (8 : Int32) d1_61 rfl rfl ?_
  refine ow_iushr X_52 64 d1_63 rfl ?_
  refine ow_sipush X_52 67 (255 : Int32) d1_64 rfl rfl ?_
  refine ow_iand X_52 68 d1_67 rfl ?_
  refine ow_iastore X_52 69 f53_0 gw d1_68 rfl (by omega) (by omega) ?_
  intro T_54 h_54 X_54 W_54
  have f55_0 : oA Z h_54 w .int n (fun i_ => .int ((oUpd (oUpd (oUpd (oUpd (oUpd (oUpd G k.toInt.toNat st) ((k + (1 : Int32)).toInt.toNat) ln) ((k + (2 : Int32)).toInt.toNat) (st + (ct * ln))) ((k + (3 : Int32)).toInt.toNat) (st + (ct * ln))) ((k + (4 : Int32)).toInt.toNat) ((st + (ct * ln)) + mn)) ((k + (5 : Int32)).toInt.toNat) (((op.toUInt32 >>> ((8 : Int32) &&& 31).toUInt32).toInt32) &&& (255 : Int32))) i_)) := f53_0.setI W_54
  have f55_1 : Keep h h_54 [w] := f53_1.wr W_54 (Or.inl (List.mem_of_getElem? (i := 0) rfl))
  refine ow_retV X_54 rfl d1_69 (by decide) (by decide) ?_
  have q := f55_0
  have n1 : (k + (1 : Int32)).toInt.toNat = k.toInt.toNat + 1 := by omega
  have n2 : (k + (2 : Int32)).toInt.toNat = k.toInt.toNat + 2 := by omega
  have n3 : (k + (3 : Int32)).toInt.toNat = k.toInt.toNat + 3 := by omega
  have n4 : (k + (4 : Int32)).toInt.toNat = k.toInt.toNat + 4 := by omega
  have n5 : (k + (5 : Int32)).toInt.toNat = k.toInt.toNat + 5 := by omega
  rw [n1, n2, n3, n4, n5] at q
  exact ⟨rfl, f55_1, _, _, q⟩
theorem d9_0 : decode prog_20_method_9_code 0 = .ok (.aload_n 0, 1) := by decide +kernel
theorem d9_1 : decode prog_20_method_9_code 1 = .ok (.getfield 7, 3) := by decide +kernel
theorem d9_4 : decode prog_20_method_9_code 4 = .ok (.iload_n 1, 1) := by decide +kernel
theorem d9_5 : decode prog_20_method_9_code 5 = .ok (.bipush 6, 2) := by decide +kernel
theorem d9_7 : decode prog_20_method_9_code 7 = .ok (.imul, 1) := by decide +kernel
theorem d9_8 : decode prog_20_method_9_code 8 = .ok (.iconst 2, 1) := by decide +kernel
theorem d9_9 : decode prog_20_method_9_code 9 = .ok (.iadd, 1) := by decide +kernel
theorem d9_10 : decode prog_20_method_9_code 10 = .ok (.iaload, 1) := by decide +kernel
theorem d9_11 : decode prog_20_method_9_code 11 = .ok (.aload_n 0, 1) := by decide +kernel
theorem d9_12 : decode prog_20_method_9_code 12 = .ok (.getfield 7, 3) := by decide +kernel
theorem d9_15 : decode prog_20_method_9_code 15 = .ok (.iload_n 1, 1) := by decide +kernel
theorem d9_16 : decode prog_20_method_9_code 16 = .ok (.bipush 6, 2) := by decide +kernel
theorem d9_18 : decode prog_20_method_9_code 18 = .ok (.imul, 1) := by decide +kernel
theorem d9_19 : decode prog_20_method_9_code 19 = .ok (.iaload, 1) := by decide +kernel
theorem d9_20 : decode prog_20_method_9_code 20 = .ok (.isub, 1) := by decide +kernel
theorem d9_21 : decode prog_20_method_9_code 21 = .ok (.aload_n 0, 1) := by decide +kernel
theorem d9_22 : decode prog_20_method_9_code 22 = .ok (.getfield 7, 3) := by decide +kernel
theorem d9_25 : decode prog_20_method_9_code 25 = .ok (.iload_n 1, 1) := by decide +kernel
theorem d9_26 : decode prog_20_method_9_code 26 = .ok (.bipush 6, 2) := by decide +kernel
theorem d9_28 : decode prog_20_method_9_code 28 = .ok (.imul, 1) := by decide +kernel
theorem d9_29 : decode prog_20_method_9_code 29 = .ok (.iconst 1, 1) := by decide +kernel
theorem d9_30 : decode prog_20_method_9_code 30 = .ok (.iadd, 1) := by decide +kernel
theorem d9_31 : decode prog_20_method_9_code 31 = .ok (.iaload, 1) := by decide +kernel
theorem d9_32 : decode prog_20_method_9_code 32 = .ok (.idiv, 1) := by decide +kernel
theorem d9_33 : decode prog_20_method_9_code 33 = .ok (.ireturn, 1) := by decide +kernel
def k9 : OM := (prog_20_method_9_code, 2, "com/example/rexquill/rexquill/Copies", "copyCount", (some .int), { frames := 0, cells := 0, slots := 0, locals := 0 })
theorem pn9 : plainFor (⟨"com/example/rexquill/rexquill/Copies", "copyCount", "(I)I"⟩ : MethodName) = true := plainFor_of_name (by first | (simp [plainName, overriddenIn]; done) | decide +kernel)
theorem pd9 : parseMethodDescriptor "(I)I" = some ⟨[.int], (some .int)⟩ := by decide +kernel
set_option maxRecDepth 65536 in
set_option maxHeartbeats 4000000 in
theorem C_count0 {Z : State} {ω : OW} {h : Heap} (hw_ : ∀ d ∈ tables_1, d.before ω.2.2 Z = true) (hn_ : ω.2.1 ≤ h.size) (a w : Addr) (G : Nat → Int32) (u1 u2 u3 u4 u5 u6 : Value) (F0 : CP Z h a (.ref w) u1 u2 u3 u4 u5 u6) (Aw : oA Z h w .int 12 (fun i_ => .int (G i_))) (hz : G 1 ≠ 0) :
    oC Z ω (⟨"com/example/rexquill/rexquill/Copies", "copyCount", "(I)I"⟩ : MethodName) k9 [] #[.ref a, .int (0 : Int32)] h (fun v h' => v = some (.int ((G 2 - G 0) / G 1)) ∧ h = h') := by
  refine oC_of hw_ hn_ pn9 rfl rfl (L := #[.val (.ref a), .val (.int (0 : Int32))]) (fun m => by first | (simp [entryFrame, mkF, argsToLocals, Value.category, k9]; done) | rfl) ?_
  intro γ T X
  refine ow_aloadN X 1 d9_0 rfl rfl rfl ?_
  refine ow_getF X 4 21 rfl rfl F0.2.1 d9_1 rfl ?_
  intro T_56 X_56
  refine ow_iloadN X_56 5 d9_4 rfl rfl ?_
  refine ow_bipush X_56 7 (6 : Int32) d9_5 rfl rfl ?_
  refine ow_imul X_56 8 d9_7 rfl ?_
  refine ow_iconst X_56 9 (2 : Int32) d9_8 rfl rfl ?_
  refine ow_iadd X_56 10 d9_9 rfl ?_
  refine ow_iaload X_56 11 Aw d9_10 rfl (by decide) (by decide) rfl ?_
  refine ow_aloadN X_56 12 d9_11 rfl rfl rfl ?_
  refine ow_getF X_56 15 21 rfl rfl F0.2.1 d9_12 rfl ?_
  intro T_57 X_57
  refine ow_iloadN X_57 16 d9_15 rfl rfl ?_
  refine ow_bipush X_57 18 (6 : Int32) d9_16 rfl rfl ?_
  refine ow_imul X_57 19 d9_18 rfl ?_
  refine ow_iaload X_57 20 Aw d9_19 rfl (by decide) (by decide) rfl ?_
  refine ow_isub X_57 21 d9_20 rfl ?_
  refine ow_aloadN X_57 22 d9_21 rfl rfl rfl ?_
  refine ow_getF X_57 25 21 rfl rfl F0.2.1 d9_22 rfl ?_
  intro T_58 X_58
  refine ow_iloadN X_58 26 d9_25 rfl rfl ?_
  refine ow_bipush X_58 28 (6 : Int32) d9_26 rfl rfl ?_
  refine ow_imul X_58 29 d9_28 rfl ?_
  refine ow_iconst X_58 30 (1 : Int32) d9_29 rfl rfl ?_
  refine ow_iadd X_58 31 d9_30 rfl ?_
  refine ow_iaload X_58 32 Aw d9_31 rfl (by decide) (by decide) rfl ?_
  refine ow_idiv X_58 33 d9_32 rfl hz ?_
  refine ow_retI X_58 rfl d9_33 (by decide) (by decide) ?_
  exact ⟨rfl, rfl⟩
set_option maxRecDepth 65536 in
set_option maxHeartbeats 4000000 in
theorem C_count1 {Z : State} {ω : OW} {h : Heap} (hw_ : ∀ d ∈ tables_1, d.before ω.2.2 Z = true) (hn_ : ω.2.1 ≤ h.size) (a w : Addr) (G : Nat → Int32) (u1 u2 u3 u4 u5 u6 : Value) (F0 : CP Z h a (.ref w) u1 u2 u3 u4 u5 u6) (Aw : oA Z h w .int 12 (fun i_ => .int (G i_))) (hz : G 7 ≠ 0) :
    oC Z ω (⟨"com/example/rexquill/rexquill/Copies", "copyCount", "(I)I"⟩ : MethodName) k9 [] #[.ref a, .int (1 : Int32)] h (fun v h' => v = some (.int ((G 8 - G 6) / G 7)) ∧ h = h') := by
  refine oC_of hw_ hn_ pn9 rfl rfl (L := #[.val (.ref a), .val (.int (1 : Int32))]) (fun m => by first | (simp [entryFrame, mkF, argsToLocals, Value.category, k9]; done) | rfl) ?_
  intro γ T X
  refine ow_aloadN X 1 d9_0 rfl rfl rfl ?_
  refine ow_getF X 4 21 rfl rfl F0.2.1 d9_1 rfl ?_
  intro T_59 X_59
  refine ow_iloadN X_59 5 d9_4 rfl rfl ?_
  refine ow_bipush X_59 7 (6 : Int32) d9_5 rfl rfl ?_
  refine ow_imul X_59 8 d9_7 rfl ?_
  refine ow_iconst X_59 9 (2 : Int32) d9_8 rfl rfl ?_
  refine ow_iadd X_59 10 d9_9 rfl ?_
  refine ow_iaload X_59 11 Aw d9_10 rfl (by decide) (by decide) rfl ?_
  refine ow_aloadN X_59 12 d9_11 rfl rfl rfl ?_
  refine ow_getF X_59 15 21 rfl rfl F0.2.1 d9_12 rfl ?_
  intro T_60 X_60
  refine ow_iloadN X_60 16 d9_15 rfl rfl ?_
  refine ow_bipush X_60 18 (6 : Int32) d9_16 rfl rfl ?_
  refine ow_imul X_60 19 d9_18 rfl ?_
  refine ow_iaload X_60 20 Aw d9_19 rfl (by decide) (by decide) rfl ?_
  refine ow_isub X_60 21 d9_20 rfl ?_
  refine ow_aloadN X_60 22 d9_21 rfl rfl rfl ?_
  refine ow_getF X_60 25 21 rfl rfl F0.2.1 d9_22 rfl ?_
  intro T_61 X_61
  refine ow_iloadN X_61 26 d9_25 rfl rfl ?_
  refine ow_bipush X_61 28 (6 : Int32) d9_26 rfl rfl ?_
  refine ow_imul X_61 29 d9_28 rfl ?_
  refine ow_iconst X_61 30 (1 : Int32) d9_29 rfl rfl ?_
  refine ow_iadd X_61 31 d9_30 rfl ?_
  refine ow_iaload X_61 32 Aw d9_31 rfl (by decide) (by decide) rfl ?_
  refine ow_idiv X_61 33 d9_32 rfl hz ?_
  refine ow_retI X_61 rfl d9_33 (by decide) (by decide) ?_
  exact ⟨rfl, rfl⟩
def k0 : OM := (code, maxLocals, "com/example/rexquill/rexquill/CopiesCopyCountPinLaw", "law", ret, room_1)
theorem pn0 : plainFor Jvm.Pilot.@@N@@.x = true := plainFor_of_name (by first | (simp [plainName, overriddenIn]; done) | decide +kernel)
theorem pd0 : parseMethodDescriptor "(IJIJI)Z" = some ⟨[.int, .long, .int, .long, .int], (some .boolean)⟩ := by decide +kernel
def own_G (t0 l0 c0 t1 l1 c1 x0 y0 x1 y1 : Int32) : Nat → Int32 := own_fill (own_fill oZI (0 : Int32).toInt.toNat t0 l0 (t0 + c0 * l0) (t0 + c0 * l0) x0 y0) (6 : Int32).toInt.toNat t1 l1 (t1 + c1 * l1) (t1 + c1 * l1) x1 y1
theorem own_G1 (t0 l0 c0 t1 l1 c1 x0 y0 x1 y1 : Int32) (h0 : l0 ≠ 0) (h1 : l1 ≠ 0) : ∀ j, j < 2 → own_G t0 l0 c0 t1 l1 c1 x0 y0 x1 y1 (6 * j + 1) ≠ 0 := by
  intro j hj
  match j, hj with
  | 0, _ => exact h0
  | 1, _ => exact h1
set_option maxRecDepth 65536 in
set_option maxHeartbeats 4000000 in
theorem B60 {Z : State} {ω : OW} {γ : OG} {T : State} {h : Heap} (X : oSt Z ω γ k0 T h 0 0) (s0 s1 op t0 l0 c0 t1 l1 c1 : Int32) (p0 p1 : Int64) (ht0 : 0 ≤ t0.toInt ∧ t0.toInt ≤ 536870911) (hl0 : 1 ≤ l0.toInt ∧ l0.toInt ≤ 65536) (hc0 : 1 ≤ c0.toInt ∧ c0.toInt ≤ 16384) (ht1 : 0 ≤ t1.toInt ∧ t1.toInt ≤ 536870911) (hl1 : 1 ≤ l1.toInt ∧ l1.toInt ≤ 65536) (hc1 : 1 ≤ c1.toInt ∧ c1.toInt ≤ 16384) :
    oWP ω γ k0 (fun v _ => v = some (.int 1)) T 60 #[.val (.int s0), .val (.long p0), .second, .val (.int s1), .val (.long p1), .second, .val (.int op), .val (.int t0), .val (.int l0), .val (.int c0), .val (.int t1), .val (.int l1), .val (.int c1), .unset, .unset] [] := by
  refine ow_bipush X 62 (12 : Int32) at_60 rfl rfl ?_
  refine ow_newP X 64 3 (cap := 12) rfl at_62 rfl (by decide) (by decide) (by decide) (by decide) (by decide) ?_
  intro T_62 h_62 a_62 q_62 X_62 E_62 A_62 g_62
  have A_62 : oA Z h_62 a_62 .int ((12 : Int32).toInt.toNat) (fun i_ => .int (oZI i_)) := A_62
  refine ow_astore X_62 66 (L' := #[.val (.int s0), .val (.long p0), .second, .val (.int s1), .val (.long p1), .second, .val (.int op), .val (.int t0), .val (.int l0), .val (.int c0), .val (.int t1), .val (.int l1), .val (.int c1), .val (.ref a_62), .unset]) at_64 rfl rfl rfl ?_
  refine ow_aload X_62 68 at_66 rfl rfl rfl ?_
  refine ow_iconst X_62 69 (0 : Int32) at_68 rfl rfl ?_
  refine ow_iload X_62 71 at_69 rfl rfl ?_
  refine ow_iload X_62 73 at_71 rfl rfl ?_
  refine ow_iload X_62 75 at_73 rfl rfl ?_
  refine ow_iload X_62 77 at_75 rfl rfl ?_
  refine ow_callS X_62 80 4 5 6 7 (κ' := k1) (as := [.ref a_62, .int (0 : Int32), .int t0, .int l0, .int c0, .int op]) (S := []) (W := 0) rfl rfl rfl rfl rfl (by decide) (C_fill (oSt_w X_62) (oSt_n0 X_62) a_62 (0 : Int32) t0 l0 c0 op _ oZI A_62 g_62 (by decide) (by decide) (by decide)) (by decide) (by decide) (Nat.le_of_eq rfl) (by decide) (by decide) pd1 rfl rfl rfl at_77 rfl ?_
  intro v_64 T_64 h_64 X_64 q_64
  obtain ⟨rfl, K64, x0, y0, A64⟩ := q_64
  show oWP ω γ k0 _ T_64 80 #[.val (.int s0), .val (.long p0), .second, .val (.int s1), .val (.long p1), .second, .val (.int op), .val (.int t0), .val (.int l0), .val (.int c0), .val (.int t1), .val (.int l1), .val (.int c1), .val (.ref a_62), .unset] []
  refine ow_aload X_64 82 at_80 rfl rfl rfl ?_
  refine ow_bipush X_64 84 (6 : Int32) at_82 rfl rfl ?_
  refine ow_iload X_64 86 at_84 rfl rfl ?_
  refine ow_iload X_64 88 at_86 rfl rfl ?_
  refine ow_iload X_64 90 at_88 rfl rfl ?_
  refine ow_iload X_64 92 at_90 rfl rfl ?_
  refine ow_bipush X_64 94 (16 : Int32) at_92 rfl rfl ?_
  refine ow_iushr X_64 95 at_94 rfl ?_
  refine ow_callS X_64 98 4 5 6 7 (κ' := k1) (as := [.ref a_62, .int (6 : Int32), .int t1, .int l1, .int c1, .int ((op.toUInt32 >>> ((16 : Int32) &&& 31).toUInt32).toInt32)]) (S := []) (W := 0) rfl rfl rfl rfl rfl (by decide) (C_fill (oSt_w X_64) (oSt_n0 X_64) a_62 (6 : Int32) t1 l1 c1 ((op.toUInt32 >>> ((16 : Int32) &&& 31).toUInt32).toInt32) _ (own_fill oZI (0 : Int32).toInt.toNat t0 l0 (t0 + c0 * l0) (t0 + c0 * l0) x0 y0) A64 g_62 (by decide) (by decide) (by decide)) (by decide) (by decide) (Nat.le_of_eq rfl) (by decide) (by decide) pd1 rfl rfl rfl at_95 rfl ?_
  intro v_66 T_66 h_66 X_66 q_66
  obtain ⟨rfl, K66, x1, y1, A66⟩ := q_66
  show oWP ω γ k0 _ T_66 98 #[.val (.int s0), .val (.long p0), .second, .val (.int s1), .val (.long p1), .second, .val (.int op), .val (.int t0), .val (.int l0), .val (.int c0), .val (.int t1), .val (.int l1), .val (.int c1), .val (.ref a_62), .unset] []
  refine ow_new X_66 101 12 13 14 rfl rfl rfl rfl at_98 rfl (by decide) (by decide) ?_
  intro T_68 h_68 a_68 q_68 X_68 E_68 A_68 D_68 g_68
  have ne_a_62_a_68 : a_62 ≠ a_68 := by rw [q_68]; exact Nat.ne_of_lt A66.lt
  have f69_0 : oA Z h_68 a_62 .int ((12 : Int32).toInt.toNat) (fun i_ => .int ((own_fill (own_fill oZI (0 : Int32).toInt.toNat t0 l0 (t0 + c0 * l0) (t0 + c0 * l0) x0 y0) (6 : Int32).toInt.toNat t1 l1 (t1 + c1 * l1) (t1 + c1 * l1) x1 y1) i_)) := A66.ext E_68
  have R_68 : CP Z h_68 a_68 .null .null .null .null (.int (0 : Int32)) (.int (0 : Int32)) (.int (0 : Int32)) := ⟨A_68, D_68 (Or.inr (oSt_at X_68 22 rfl)) (ty := (.array .int)) (by decide), D_68 (Or.inr (oSt_at X_68 24 rfl)) (ty := (.array .int)) (by decide), D_68 (Or.inr (oSt_at X_68 26 rfl)) (ty := (.array .int)) (by decide), D_68 (Or.inr (oSt_at X_68 28 rfl)) (ty := (.array .int)) (by decide), D_68 (Or.inr (oSt_at X_68 43 rfl)) (ty := .int) (by decide), D_68 (Or.inr (oSt_at X_68 45 rfl)) (ty := .int) (by decide), D_68 (Or.inr (oSt_at X_68 51 rfl)) (ty := .int) (by decide)⟩
  refine ow_dup X_68 102 at_101 rfl rfl ?_
  refine ow_aload X_68 104 at_102 rfl rfl rfl ?_
  refine ow_callC X_68 107 15 16 14 17 (κ' := k3) (as := [.ref a_62]) (S := [.ref a_68]) (W := 1) rfl rfl rfl rfl rfl rfl rfl (by decide) (C_init (oSt_w X_68) (oSt_n0 X_68) a_68 a_62 12 2 12 (own_G t0 l0 c0 t1 l1 c1 x0 y0 x1 y1) R_68 f69_0 g_68 (Ne.symm ne_a_62_a_68) rfl rfl (by decide) (own_G1 _ _ _ _ _ _ _ _ _ _ (own_ne0 _ hl0.1) (own_ne0 _ hl1.1))) (by decide) (by decide) (Nat.le_of_eq rfl) (by decide) (by decide) pd3 rfl rfl rfl at_104 rfl ?_
  intro v_70 T_70 h_70 X_70 q_70
  obtain ⟨rfl, K70, u1, u2, u3, u4, u5, u6, R70⟩ := q_70
  have f71_0 : oA Z h_70 a_62 .int ((12 : Int32).toInt.toNat) (fun i_ => .int ((own_fill (own_fill oZI (0 : Int32).toInt.toNat t0 l0 (t0 + c0 * l0) (t0 + c0 * l0) x0 y0) (6 : Int32).toInt.toNat t1 l1 (t1 + c1 * l1) (t1 + c1 * l1) x1 y1) i_)) := f69_0.keep K70 (ninS ne_a_62_a_68 nin0)
  show oWP ω γ k0 _ T_70 107 #[.val (.int s0), .val (.long p0), .second, .val (.int s1), .val (.long p1), .second, .val (.int op), .val (.int t0), .val (.int l0), .val (.int c0), .val (.int t1), .val (.int l1), .val (.int c1), .val (.ref a_62), .unset] [.ref a_68]
  refine ow_astore X_70 109 (L' := #[.val (.int s0), .val (.long p0), .second, .val (.int s1), .val (.long p1), .second, .val (.int op), .val (.int t0), .val (.int l0), .val (.int c0), .val (.int t1), .val (.int l1), .val (.int c1), .val (.ref a_62), .val (.ref a_68)]) at_107 rfl rfl rfl ?_
  refine ow_aload X_70 111 at_109 rfl rfl rfl ?_
  refine ow_iconst X_70 112 (0 : Int32) at_111 rfl rfl ?_
  refine ow_callV X_70 115 52 53 55 54 56 14 (κ' := k9) (as := [.int (0 : Int32)]) (S := []) (W := 0) rfl rfl rfl rfl rfl rfl rfl (by decide) R70.1 (C_count0 (oSt_w X_70) (oSt_n0 X_70) a_68 a_62 (own_G t0 l0 c0 t1 l1 c1 x0 y0 x1 y1) _ _ _ _ _ _ R70 f71_0 (own_ne0 l0 hl0.1)) (by decide) (by decide) (Nat.le_of_eq rfl) (by decide) (by decide) pd9 rfl rfl rfl at_112 rfl ?_
  intro v_72 T_72 h_72 X_72 q_72
  obtain ⟨rfl, rfl⟩ := q_72
  show oWP ω γ k0 _ T_72 115 #[.val (.int s0), .val (.long p0), .second, .val (.int s1), .val (.long p1), .second, .val (.int op), .val (.int t0), .val (.int l0), .val (.int c0), .val (.int t1), .val (.int l1), .val (.int c1), .val (.ref a_62), .val (.ref a_68)] [.int ((t0 + c0 * l0 - t0) / l0)]
  refine ow_iload X_72 117 at_115 rfl rfl ?_
  refine ow_icmp_ne X_72 120 135 at_117 rfl rfl (fun (c117 : ((t0 + c0 * l0 - t0) / l0).toInt ≠ c0.toInt) => absurd (own_cnt t0 l0 c0 ht0.1 ht0.2 hl0.1 hl0.2 hc0.1 hc0.2) c117) (fun (c117 : ((t0 + c0 * l0 - t0) / l0).toInt = c0.toInt) => ?_)
  refine ow_aload X_72 122 at_120 rfl rfl rfl ?_
  refine ow_iconst X_72 123 (1 : Int32) at_122 rfl rfl ?_
  refine ow_callV X_72 126 52 53 55 54 56 14 (κ' := k9) (as := [.int (1 : Int32)]) (S := []) (W := 0) rfl rfl rfl rfl rfl rfl rfl (by decide) R70.1 (C_count1 (oSt_w X_72) (oSt_n0 X_72) a_68 a_62 (own_G t0 l0 c0 t1 l1 c1 x0 y0 x1 y1) _ _ _ _ _ _ R70 f71_0 (own_ne0 l1 hl1.1)) (by decide) (by decide) (Nat.le_of_eq rfl) (by decide) (by decide) pd9 rfl rfl rfl at_123 rfl ?_
  intro v_73 T_73 h_73 X_73 q_73
  obtain ⟨rfl, rfl⟩ := q_73
  show oWP ω γ k0 _ T_73 126 #[.val (.int s0), .val (.long p0), .second, .val (.int s1), .val (.long p1), .second, .val (.int op), .val (.int t0), .val (.int l0), .val (.int c0), .val (.int t1), .val (.int l1), .val (.int c1), .val (.ref a_62), .val (.ref a_68)] [.int ((t1 + c1 * l1 - t1) / l1)]
  refine ow_iload X_73 128 at_126 rfl rfl ?_
  refine ow_icmp_ne X_73 131 135 at_128 rfl rfl (fun (c128 : ((t1 + c1 * l1 - t1) / l1).toInt ≠ c1.toInt) => absurd (own_cnt t1 l1 c1 ht1.1 ht1.2 hl1.1 hl1.2 hc1.1 hc1.2) c128) (fun (c128 : ((t1 + c1 * l1 - t1) / l1).toInt = c1.toInt) => ?_)
  refine ow_iconst X_73 132 (1 : Int32) at_131 rfl rfl ?_
  refine ow_goto X_73 136 at_132 rfl ?_
  refine ow_retZ X_73 rfl at_136 (by decide) (by decide) (by decide) ?_
  rfl
set_option maxRecDepth 65536 in
set_option maxHeartbeats 4000000 in
theorem C_law {Z : State} {ω : OW} {h : Heap} (hw_ : ∀ d ∈ tables_1, d.before ω.2.2 Z = true) (hn_ : ω.2.1 ≤ h.size) (s0 : Int32) (p0 : Int64) (s1 : Int32) (p1 : Int64) (op : Int32) :
    oC Z ω Jvm.Pilot.@@N@@.x k0 tables_1 #[.int s0, .long p0, .int s1, .long p1, .int op] h (fun v _ => v = some (.int 1)) := by
  refine oC_of hw_ hn_ pn0 rfl rfl (L := #[.val (.int s0), .val (.long p0), .second, .val (.int s1), .val (.long p1), .second, .val (.int op), .unset, .unset, .unset, .unset, .unset, .unset, .unset, .unset]) (fun m => by first | (simp [entryFrame, mkF, argsToLocals, Value.category, k0, maxLocals]; done) | rfl) ?_
  intro γ T X
  refine ow_iloadN X 1 at_0 rfl rfl ?_
  refine ow_ldcI X 3 0 rfl rfl at_1 rfl ?_
  refine ow_iand X 4 at_3 rfl ?_
  refine ow_istore X 6 (L' := #[.val (.int s0), .val (.long p0), .second, .val (.int s1), .val (.long p1), .second, .val (.int op), .val (.int (s0 &&& (536870911 : Int32))), .unset, .unset, .unset, .unset, .unset, .unset, .unset]) at_4 rfl rfl ?_
  refine ow_lloadN X 7 at_6 rfl rfl ?_
  refine ow_ldc2J X 10 1 rfl rfl at_7 rfl ?_
  refine ow_land X 11 at_10 rfl ?_
  refine ow_l2i X 12 at_11 rfl ?_
  refine ow_iconst X 13 (1 : Int32) at_12 rfl rfl ?_
  refine ow_iadd X 14 at_13 rfl ?_
  refine ow_istore X 16 (L' := #[.val (.int s0), .val (.long p0), .second, .val (.int s1), .val (.long p1), .second, .val (.int op), .val (.int (s0 &&& (536870911 : Int32))), .val (.int (((p0 &&& (65535 : Int64)).toInt32) + (1 : Int32))), .unset, .unset, .unset, .unset, .unset, .unset]) at_14 rfl rfl ?_
  refine ow_lloadN X 17 at_16 rfl rfl ?_
  refine ow_bipush X 19 (16 : Int32) at_17 rfl rfl ?_
  refine ow_lushr X 20 at_19 rfl ?_
  refine ow_ldc2J X 23 2 rfl rfl at_20 rfl ?_
  refine ow_land X 24 at_23 rfl ?_
  refine ow_l2i X 25 at_24 rfl ?_
  refine ow_iconst X 26 (1 : Int32) at_25 rfl rfl ?_
  refine ow_iadd X 27 at_26 rfl ?_
  refine ow_istore X 29 (L' := #[.val (.int s0), .val (.long p0), .second, .val (.int s1), .val (.long p1), .second, .val (.int op), .val (.int (s0 &&& (536870911 : Int32))), .val (.int (((p0 &&& (65535 : Int64)).toInt32) + (1 : Int32))), .val (.int (((((p0.toUInt64 >>> ((16 : Int32) &&& 0x3f).toInt64.toUInt64).toInt64) &&& (16383 : Int64)).toInt32) + (1 : Int32))), .unset, .unset, .unset, .unset, .unset]) at_27 rfl rfl ?_
  refine ow_iloadN X 30 at_29 rfl rfl ?_
  refine ow_ldcI X 32 0 rfl rfl at_30 rfl ?_
  refine ow_iand X 33 at_32 rfl ?_
  refine ow_istore X 35 (L' := #[.val (.int s0), .val (.long p0), .second, .val (.int s1), .val (.long p1), .second, .val (.int op), .val (.int (s0 &&& (536870911 : Int32))), .val (.int (((p0 &&& (65535 : Int64)).toInt32) + (1 : Int32))), .val (.int (((((p0.toUInt64 >>> ((16 : Int32) &&& 0x3f).toInt64.toUInt64).toInt64) &&& (16383 : Int64)).toInt32) + (1 : Int32))), .val (.int (s1 &&& (536870911 : Int32))), .unset, .unset, .unset, .unset]) at_33 rfl rfl ?_
  refine ow_lload X 37 at_35 rfl rfl ?_
  refine ow_ldc2J X 40 1 rfl rfl at_37 rfl ?_
  refine ow_land X 41 at_40 rfl ?_
  refine ow_l2i X 42 at_41 rfl ?_
  refine ow_iconst X 43 (1 : Int32) at_42 rfl rfl ?_
  refine ow_iadd X 44 at_43 rfl ?_
  refine ow_istore X 46 (L' := #[.val (.int s0), .val (.long p0), .second, .val (.int s1), .val (.long p1), .second, .val (.int op), .val (.int (s0 &&& (536870911 : Int32))), .val (.int (((p0 &&& (65535 : Int64)).toInt32) + (1 : Int32))), .val (.int (((((p0.toUInt64 >>> ((16 : Int32) &&& 0x3f).toInt64.toUInt64).toInt64) &&& (16383 : Int64)).toInt32) + (1 : Int32))), .val (.int (s1 &&& (536870911 : Int32))), .val (.int (((p1 &&& (65535 : Int64)).toInt32) + (1 : Int32))), .unset, .unset, .unset]) at_44 rfl rfl ?_
  refine ow_lload X 48 at_46 rfl rfl ?_
  refine ow_bipush X 50 (16 : Int32) at_48 rfl rfl ?_
  refine ow_lushr X 51 at_50 rfl ?_
  refine ow_ldc2J X 54 2 rfl rfl at_51 rfl ?_
  refine ow_land X 55 at_54 rfl ?_
  refine ow_l2i X 56 at_55 rfl ?_
  refine ow_iconst X 57 (1 : Int32) at_56 rfl rfl ?_
  refine ow_iadd X 58 at_57 rfl ?_
  refine ow_istore X 60 (L' := #[.val (.int s0), .val (.long p0), .second, .val (.int s1), .val (.long p1), .second, .val (.int op), .val (.int (s0 &&& (536870911 : Int32))), .val (.int (((p0 &&& (65535 : Int64)).toInt32) + (1 : Int32))), .val (.int (((((p0.toUInt64 >>> ((16 : Int32) &&& 0x3f).toInt64.toUInt64).toInt64) &&& (16383 : Int64)).toInt32) + (1 : Int32))), .val (.int (s1 &&& (536870911 : Int32))), .val (.int (((p1 &&& (65535 : Int64)).toInt32) + (1 : Int32))), .val (.int (((((p1.toUInt64 >>> ((16 : Int32) &&& 0x3f).toInt64.toUInt64).toInt64) &&& (16383 : Int64)).toInt32) + (1 : Int32))), .unset, .unset]) at_58 rfl rfl ?_
  exact B60 X s0 s1 op _ _ _ _ _ _ p0 p1 (own_msk _) (own_len _) (own_ct _) (own_msk _) (own_len _) (own_ct _)
set_option maxRecDepth 65536 in
set_option maxHeartbeats 4000000 in
theorem comes_1 {Post : Tables → Env → Array Value → State → Outcome → State → Prop} (hpost : ∀ tb e args s v u, (limb_1_1.after args s (.returned v) u = true ∧ limb_1_2.after args s (.returned v) u = true ∧ True) → FrameEnd s (.returned v) u (Jvm.fieldLocs frame_1_writes args s ++ Jvm.arrayLocs frame_1_arrays args s ++ Jvm.staticLocs frame_1_statics s) 24 128 → Post tb e args s (.returned v) u) :
    ArmFor flags0 classFile x code maxLocals ret World_1 tables_1 room_1 Calls_1 rest_1 Pre_1 Post := by
  intro l hfl _ _ p e ha hc hk s m args below hf hA hF happ hP
  obtain ⟨hcalls, hrest, hpre⟩ := hP
  obtain ⟨-, -, -, hnamed, -, -, -, hat⟩ := (Spec.applies_iff hf).mp happ
  obtain ⟨hg, hn⟩ := and_e (Cond.before_iff.mp (show (Jvm.Cond.and given_1 narrow_1).before args s = true from hpre))
  obtain ⟨hcount, hg0⟩ := and_e hg
  obtain ⟨ha0, hg1⟩ := and_e hg0
  obtain ⟨ha1, hg2⟩ := and_e hg1
  obtain ⟨ha2, hg3⟩ := and_e hg2
  obtain ⟨ha3, hg4⟩ := and_e hg3
  have ha4 := hg4
  obtain ⟨w0, w1, w2, w3, w4, rfl⟩ : ∃ w0 w1 w2 w3 w4 : Value, args = #[w0, w1, w2, w3, w4] := by
    have hs : args.size = 5 := by simpa [Cond.value, given_1] using hcount
    obtain ⟨L⟩ := args
    match L, hs with
    | [w0, w1, w2, w3, w4], _ => exact ⟨w0, w1, w2, w3, w4, rfl⟩
  have hw := fun d (hd : d ∈ tables_1) => atoms_spec (ws := Jvm.Cond.code x code maxLocals ret :: tables_1) hat d (List.mem_cons_of_mem _ hd)
  have hfit : Fit s := fun {y c} hc i hi => by
    obtain ⟨ha, rfl⟩ := Array.getElem?_eq_some_iff.mp hc
    have q := List.all_eq_true.mp ((Array.all_eq_true_iff_forall_mem.mp hF) _ (Array.getElem_mem ha)) i (List.mem_range.mpr hi)
    simpa [Array.getElem?_eq_getElem hi] using q
  obtain ⟨i0, e0⟩ := is_v ha0
  obtain rfl : w0 = (.int i0) := Option.some.inj e0
  obtain ⟨i1, e1⟩ := isL_v ha1
  obtain rfl : w1 = (.long i1) := Option.some.inj e1
  obtain ⟨i2, e2⟩ := is_v ha2
  obtain rfl : w2 = (.int i2) := Option.some.inj e2
  obtain ⟨i3, e3⟩ := isL_v ha3
  obtain rfl : w3 = (.long i3) := Option.some.inj e3
  obtain ⟨i4, e4⟩ := is_v ha4
  obtain rfl : w4 = (.int i4) := Option.some.inj e4
  obtain ⟨n, o, h1, h2, h3, _, L, rfl, ⟨N, rfl⟩, hq⟩ := C_law (Z := s) (ω := (l, s.heap.size, _)) hw (Nat.le_refl _) i0 i1 i2 i3 i4 p e ha hc hk s m _ below hf ((Spec.applies_iff_loose hf).mp happ).1 ⟨rfl, State.Warmed39.refl s, rfl⟩ trivial
  refine ⟨n, _, h1, h2, h3, hpost _ _ _ _ _ _ ⟨Cond.after_iff.mpr rfl, Cond.after_iff.mpr (eq_i res_at (Term.int_eval (1)) rfl), trivial⟩ ⟨hq.1, hq.2.1, (hq.2.2.sift fun y hy => Or.inr (N y hy)).mono (by decide) (by decide)⟩⟩
theorem main_1_1 : Claimed_1_1 := comes_1 fun _ _ _ _ _ _ h hF => ⟨h.1, hF⟩
theorem main_1_2 : Claimed_1_2 := comes_1 fun _ _ _ _ _ _ h hF => ⟨h.2.1, hF⟩
end Jvm.Pilot.@@N@@
namespace Jvm.Pilot.@@N@@
open Jvm Jvm.ClassFile Sem Op Lib Jvm.Free Jvm.Stand Jvm.Pilot.@@N@@.Jvm.D
/-! MADE BY PROGRAM (witnessworld.py) out of the Statement's table words and the real class files: 11 classes; the members and pool entries that the words name. The judged class is class 1, her method 1. -/
namespace start1
open Jvm.ClassFile
def u (s : String) : CpInfo := .utf8 (stringToUtf16 s)
/-- a pool by its gaps: so many unusable entries, then the entry; so many at the end -/
def gap : Nat → List CpInfo → List CpInfo
  | 0, r => r
  | n + 1, r => .unusable :: gap n r
def poolList (es : List (Nat × CpInfo)) (last : Nat) : List CpInfo := es.foldr (fun e r => gap e.1 (e.2 :: r)) (gap last [])
def pool (es : List (Nat × CpInfo)) (last : Nat) : Array CpInfo := ⟨poolList es last⟩
def fileOf (pool : Array CpInfo) (this : Nat) (attrs : Array Attribute := #[]) (ms : Array MethodInfo := #[]) (fl : Nat := 33) (sup : Nat := 0) (ifs : Array Nat := #[]) (fds : Array FieldInfo := #[]) : ClassFile where
  minorVersion := 0
  majorVersion := 65
  constantPool := pool
  accessFlags := fl
  thisClass := this
  superClass := sup
  interfaces := ifs
  fields := fds
  methods := ms
  attributes := attrs
def plain (name : String) (sup : Option ClassId) : Class where
  name := name
  kind := .ordinary
  loader := none
  accessFlags := 33
  super := sup
  interfaces := #[]
  cf := none
  fields := #[]
  methods := #[]
  instanceTypes := #[]
  staticTypes := #[]
  resolved := #[]
  callSites := []
  init := .initialized
  statics := none
  mirror := none

def pool0 : Array CpInfo := pool [(5, u "<init>"), (0, u "()V"), (1, .class_ 10), (1, u "java/lang/Object")] 113

def k0c0 : Code := { maxStack := 0, maxLocals := 1, code := object_method_1_code, exceptionTable := #[], attributes := #[] }
def k0m0 : Method := { name := "<init>", desc := "()V", sig := { parameters := [], returnType := none }, accessFlags := 1, code := some k0c0 }
/-- java/lang/Object -/
def k0 : Class := { plain "java/lang/Object" none with
  accessFlags := 33
  interfaces := #[]
  cf := some (fileOf pool0 8 #[] #[{ accessFlags := 1, nameIndex := 5, descriptorIndex := 6, attributes := #[] }] 33 0 #[] #[])
  fields := #[]
  methods := #[k0m0]
  instanceTypes := #[]
  staticTypes := #[]
  resolved := Array.replicate 124 none
  statics := none }

def pool1 : Array CpInfo := pool [(2, .class_ 4), (1, u "java/lang/Object"), (0, u "<init>"), (0, u "()V"), (0, .integer 536870911), (0, .long 65535), (1, .long 16383), (1, .methodref 13 14), (0, .class_ 15), (0, .nameAndType 16 17), (0, u "com/example/rexquill/rexquill/CopiesCopyCountPinLaw"), (0, u "fill"), (0, u "([IIIIII)V"), (0, .class_ 19), (0, u "com/example/rexquill/rexquill/Copies"), (0, .methodref 18 21), (0, .nameAndType 5 22), (0, u "([I)V"), (0, .methodref 18 24), (0, .nameAndType 25 26), (0, u "copyCount"), (0, u "(I)I"), (0, .methodref 28 29), (0, .class_ 30), (0, .nameAndType 31 32), (0, u "java/lang/Math"), (0, u "min"), (0, u "(II)I"), (2, u "law"), (0, u "(IJIJI)Z")] 5

def k1m0 : Method := { name := "<init>", desc := "()V", sig := { parameters := [], returnType := none }, accessFlags := 1, code := none }
def k1c1 : Code := { maxStack := 7, maxLocals := 15, code := code, exceptionTable := #[], attributes := #[] }
def k1m1 : Method := { name := "law", desc := "(IJIJI)Z", sig := { parameters := [.int, .long, .int, .long, .int], returnType := some .boolean }, accessFlags := 9, code := some k1c1 }
def k1c2 : Code := { maxStack := 4, maxLocals := 8, code := method_3_code, exceptionTable := #[], attributes := #[] }
def k1m2 : Method := { name := "fill", desc := "([IIIIII)V", sig := { parameters := [(.array .int), .int, .int, .int, .int, .int], returnType := none }, accessFlags := 10, code := some k1c2 }
/-- com/example/rexquill/rexquill/CopiesCopyCountPinLaw -/
def k1 : Class := { plain "com/example/rexquill/rexquill/CopiesCopyCountPinLaw" (some 0) with
  accessFlags := 49
  interfaces := #[]
  cf := some (fileOf pool1 13 #[] #[{ accessFlags := 1, nameIndex := 5, descriptorIndex := 6, attributes := #[] }, { accessFlags := 9, nameIndex := 35, descriptorIndex := 36, attributes := #[] }, { accessFlags := 10, nameIndex := 16, descriptorIndex := 17, attributes := #[] }] 49 2 #[] #[])
  fields := #[]
  methods := #[k1m0, k1m1, k1m2]
  instanceTypes := #[]
  staticTypes := #[]
  resolved := Array.replicate 42 none
  statics := none }

def pool2 : Array CpInfo := pool [(1, .class_ 2), (0, u "java/lang/Math"), (1, .class_ 6), (1, u "java/lang/Object"), (0, u "<init>"), (0, u "()V"), (89, .class_ 100), (1, u "java/lang/Math$RandomNumberGeneratorHolder"), (20, u "(JJ)J"), (50, u "negativeZeroFloatBits"), (0, u "J"), (2, u "negativeZeroDoubleBits"), (21, u "max"), (2, u "min"), (43, u "$assertionsDisabled"), (0, u "Z"), (88, u "(II)I"), (2, u "twoToTheDoubleScaleDown"), (0, u "D"), (4, u "twoToTheDoubleScaleUp"), (9, u "E"), (3, u "PI"), (2, u "TAU"), (2, u "DEGREES_TO_RADIANS"), (0, u "RADIANS_TO_DEGREES")] 94

def k2m0 : Method := { name := "<init>", desc := "()V", sig := { parameters := [], returnType := none }, accessFlags := 2, code := none }
def k2c1 : Code := { maxStack := 4, maxLocals := 4, code := jdk_29_method_66_code, exceptionTable := #[], attributes := #[] }
def k2m1 : Method := { name := "max", desc := "(JJ)J", sig := { parameters := [.long, .long], returnType := some .long }, accessFlags := 9, code := some k2c1 }
def k2c2 : Code := { maxStack := 2, maxLocals := 2, code := jdk_29_method_69_code, exceptionTable := #[], attributes := #[] }
def k2m2 : Method := { name := "min", desc := "(II)I", sig := { parameters := [.int, .int], returnType := some .int }, accessFlags := 9, code := some k2c2 }
def k2c3 : Code := { maxStack := 4, maxLocals := 4, code := jdk_29_method_70_code, exceptionTable := #[], attributes := #[] }
def k2m3 : Method := { name := "min", desc := "(JJ)J", sig := { parameters := [.long, .long], returnType := some .long }, accessFlags := 9, code := some k2c3 }
/-- java/lang/Math -/
def k2 : Class := { plain "java/lang/Math" (some 0) with
  accessFlags := 49
  interfaces := #[]
  cf := some (fileOf pool2 1 #[.nestMembers #[98]] #[{ accessFlags := 2, nameIndex := 7, descriptorIndex := 8, attributes := #[] }, { accessFlags := 9, nameIndex := 198, descriptorIndex := 121, attributes := #[] }, { accessFlags := 9, nameIndex := 201, descriptorIndex := 335, attributes := #[] }, { accessFlags := 9, nameIndex := 201, descriptorIndex := 121, attributes := #[] }] 49 4 #[] #[{ accessFlags := 25, nameIndex := 354, descriptorIndex := 339, attributes := #[] }, { accessFlags := 25, nameIndex := 358, descriptorIndex := 339, attributes := #[] }, { accessFlags := 25, nameIndex := 361, descriptorIndex := 339, attributes := #[] }, { accessFlags := 26, nameIndex := 364, descriptorIndex := 339, attributes := #[] }, { accessFlags := 26, nameIndex := 365, descriptorIndex := 339, attributes := #[] }, { accessFlags := 26, nameIndex := 172, descriptorIndex := 173, attributes := #[] }, { accessFlags := 26, nameIndex := 176, descriptorIndex := 173, attributes := #[] }, { accessFlags := 8, nameIndex := 344, descriptorIndex := 339, attributes := #[] }, { accessFlags := 8, nameIndex := 338, descriptorIndex := 339, attributes := #[] }, { accessFlags := 4120, nameIndex := 245, descriptorIndex := 246, attributes := #[] }])
  fields := #[{ name := "E", type := .double, accessFlags := 25, slot := 0, constantValue := 0 }, { name := "PI", type := .double, accessFlags := 25, slot := 1, constantValue := 0 }, { name := "TAU", type := .double, accessFlags := 25, slot := 2, constantValue := 0 }, { name := "DEGREES_TO_RADIANS", type := .double, accessFlags := 26, slot := 3, constantValue := 0 }, { name := "RADIANS_TO_DEGREES", type := .double, accessFlags := 26, slot := 4, constantValue := 0 }, { name := "negativeZeroFloatBits", type := .long, accessFlags := 26, slot := 5, constantValue := 0 }, { name := "negativeZeroDoubleBits", type := .long, accessFlags := 26, slot := 6, constantValue := 0 }, { name := "twoToTheDoubleScaleUp", type := .double, accessFlags := 8, slot := 7, constantValue := 0 }, { name := "twoToTheDoubleScaleDown", type := .double, accessFlags := 8, slot := 8, constantValue := 0 }, { name := "$assertionsDisabled", type := .boolean, accessFlags := 4120, slot := 9, constantValue := 0 }]
  methods := #[k2m0, k2m1, k2m2, k2m3]
  instanceTypes := #[]
  staticTypes := #[.double, .double, .double, .double, .double, .long, .long, .double, .double, .boolean]
  resolved := Array.replicate 460 none
  statics := none }

def pool3 : Array CpInfo := pool [(1, .methodref 2 3), (0, .class_ 4), (0, .nameAndType 5 6), (0, u "java/lang/Object"), (0, u "<init>"), (0, u "()V"), (0, .fieldref 8 9), (0, .class_ 10), (0, .nameAndType 11 12), (0, u "com/example/rexquill/rexquill/Copies"), (0, u "records"), (0, u "[I"), (0, .fieldref 8 14), (0, .nameAndType 15 12), (0, u "recordLists"), (0, .fieldref 8 17), (0, .nameAndType 18 12), (0, u "innerRecords"), (0, .fieldref 8 20), (0, .nameAndType 21 12), (0, u "innerRecordCount"), (0, .methodref 23 24), (0, .class_ 25), (0, .nameAndType 26 27), (0, u "java/lang/System"), (0, u "arraycopy"), (0, u "(Ljava/lang/Object;ILjava/lang/Object;II)V"), (0, .methodref 8 29), (0, .nameAndType 30 31), (0, u "firstOptionalCopy"), (0, u "([II)I"), (0, .methodref 8 33), (0, .nameAndType 34 35), (0, u "room"), (0, u "([III)J"), (0, .methodref 37 38), (0, .class_ 39), (0, .nameAndType 40 41), (0, u "java/lang/Math"), (0, u "max"), (0, u "(JJ)J"), (0, .fieldref 8 43), (0, .nameAndType 44 45), (0, u "topRecords"), (0, u "I"), (0, .fieldref 8 47), (0, .nameAndType 48 45), (0, u "topRecordCount"), (2, .long 2147483647), (1, .methodref 37 54), (0, .nameAndType 55 41), (0, u "min"), (0, .fieldref 8 57), (0, .nameAndType 58 45), (0, u "copyRoom"), (12, u "RECORD"), (2, u "([I)V"), (15, u "(I)I"), (1, u "copyCount")] 5

def k3c0 : Code := { maxStack := 6, maxLocals := 10, code := prog_20_method_1_code, exceptionTable := #[], attributes := #[] }
def k3m0 : Method := { name := "<init>", desc := "([I)V", sig := { parameters := [(.array .int)], returnType := none }, accessFlags := 0, code := some k3c0 }
def k3c1 : Code := { maxStack := 4, maxLocals := 2, code := prog_20_method_9_code, exceptionTable := #[], attributes := #[] }
def k3m1 : Method := { name := "copyCount", desc := "(I)I", sig := { parameters := [.int], returnType := some .int }, accessFlags := 0, code := some k3c1 }
def k3c2 : Code := { maxStack := 5, maxLocals := 4, code := prog_20_method_16_code, exceptionTable := #[], attributes := #[] }
def k3m2 : Method := { name := "room", desc := "([III)J", sig := { parameters := [(.array .int), .int, .int], returnType := some .long }, accessFlags := 10, code := some k3c2 }
def k3c3 : Code := { maxStack := 5, maxLocals := 2, code := prog_20_method_17_code, exceptionTable := #[], attributes := #[] }
def k3m3 : Method := { name := "firstOptionalCopy", desc := "([II)I", sig := { parameters := [(.array .int), .int], returnType := some .int }, accessFlags := 10, code := some k3c3 }
/-- com/example/rexquill/rexquill/Copies -/
def k3 : Class := { plain "com/example/rexquill/rexquill/Copies" (some 0) with
  accessFlags := 48
  interfaces := #[]
  cf := some (fileOf pool3 8 #[] #[{ accessFlags := 0, nameIndex := 5, descriptorIndex := 74, attributes := #[] }, { accessFlags := 0, nameIndex := 92, descriptorIndex := 90, attributes := #[] }, { accessFlags := 10, nameIndex := 34, descriptorIndex := 35, attributes := #[] }, { accessFlags := 10, nameIndex := 30, descriptorIndex := 31, attributes := #[] }] 48 2 #[] #[{ accessFlags := 24, nameIndex := 71, descriptorIndex := 45, attributes := #[] }, { accessFlags := 16, nameIndex := 11, descriptorIndex := 12, attributes := #[] }, { accessFlags := 18, nameIndex := 15, descriptorIndex := 12, attributes := #[] }, { accessFlags := 18, nameIndex := 44, descriptorIndex := 45, attributes := #[] }, { accessFlags := 18, nameIndex := 48, descriptorIndex := 45, attributes := #[] }, { accessFlags := 18, nameIndex := 18, descriptorIndex := 12, attributes := #[] }, { accessFlags := 18, nameIndex := 21, descriptorIndex := 12, attributes := #[] }, { accessFlags := 18, nameIndex := 58, descriptorIndex := 45, attributes := #[] }])
  fields := #[{ name := "RECORD", type := .int, accessFlags := 24, slot := 0, constantValue := 0 }, { name := "records", type := (.array .int), accessFlags := 16, slot := 0, constantValue := 0 }, { name := "recordLists", type := (.array .int), accessFlags := 18, slot := 1, constantValue := 0 }, { name := "topRecords", type := .int, accessFlags := 18, slot := 2, constantValue := 0 }, { name := "topRecordCount", type := .int, accessFlags := 18, slot := 3, constantValue := 0 }, { name := "innerRecords", type := (.array .int), accessFlags := 18, slot := 4, constantValue := 0 }, { name := "innerRecordCount", type := (.array .int), accessFlags := 18, slot := 5, constantValue := 0 }, { name := "copyRoom", type := .int, accessFlags := 18, slot := 6, constantValue := 0 }]
  methods := #[k3m0, k3m1, k3m2, k3m3]
  instanceTypes := #[(.array .int), (.array .int), .int, .int, (.array .int), (.array .int), .int]
  staticTypes := #[.int]
  resolved := Array.replicate 98 none
  statics := none }

def pool4 : Array CpInfo := pool [(2, .class_ 4), (1, u "java/lang/Object"), (0, u "<init>"), (0, u "()V"), (1, .class_ 10), (1, u "java/lang/System"), (0, u "allowSecurityManager"), (0, u "I"), (16, u "cons"), (0, u "Ljava/io/Console;"), (77, .class_ 110), (1, u "java/lang/System$CallersHolder"), (43, u "initialErrStream"), (0, u "Ljava/io/PrintStream;"), (19, u "security"), (0, u "Ljava/lang/SecurityManager;"), (31, .class_ 209), (0, u "java/lang/System$1"), (7, u "props"), (0, u "Ljava/util/Properties;"), (2, u "lineSeparator"), (0, u "Ljava/lang/String;"), (96, .class_ 321), (1, u "java/lang/System$LoggerFinder"), (5, .class_ 328), (0, u "java/lang/System$Logger"), (67, u "err"), (2, u "out"), (91, u "notSupportedJnuEncoding"), (15, u "in"), (17, u "initialIn"), (0, u "Ljava/io/InputStream;"), (35, u "bootLayer"), (0, u "Ljava/lang/ModuleLayer;"), (99, .class_ 664), (0, u "java/lang/System$2"), (9, u "NEVER"), (2, u "MAYBE"), (49, u "arraycopy"), (0, u "(Ljava/lang/Object;ILjava/lang/Object;II)V"), (72, .class_ 802), (0, u "java/lang/System$Logger$Level")] 31

def k4m0 : Method := { name := "<init>", desc := "()V", sig := { parameters := [], returnType := none }, accessFlags := 2, code := none }
def k4m1 : Method := { name := "arraycopy", desc := "(Ljava/lang/Object;ILjava/lang/Object;II)V", sig := { parameters := [(.object "java/lang/Object"), .int, (.object "java/lang/Object"), .int, .int], returnType := none }, accessFlags := 265, code := none }
/-- java/lang/System -/
def k4 : Class := { plain "java/lang/System" (some 0) with
  accessFlags := 49
  interfaces := #[]
  cf := some (fileOf pool4 8 #[.nestMembers #[319, 327, 801, 108, 663, 208]] #[{ accessFlags := 2, nameIndex := 5, descriptorIndex := 6, attributes := #[] }, { accessFlags := 265, nameIndex := 727, descriptorIndex := 728, attributes := #[] }] 49 2 #[] #[{ accessFlags := 25, nameIndex := 507, descriptorIndex := 526, attributes := #[] }, { accessFlags := 25, nameIndex := 399, descriptorIndex := 155, attributes := #[] }, { accessFlags := 25, nameIndex := 396, descriptorIndex := 155, attributes := #[] }, { accessFlags := 10, nameIndex := 525, descriptorIndex := 526, attributes := #[] }, { accessFlags := 26, nameIndex := 674, descriptorIndex := 12, attributes := #[] }, { accessFlags := 26, nameIndex := 677, descriptorIndex := 12, attributes := #[] }, { accessFlags := 10, nameIndex := 11, descriptorIndex := 12, attributes := #[] }, { accessFlags := 74, nameIndex := 175, descriptorIndex := 176, attributes := #[] }, { accessFlags := 10, nameIndex := 491, descriptorIndex := 222, attributes := #[] }, { accessFlags := 74, nameIndex := 29, descriptorIndex := 30, attributes := #[] }, { accessFlags := 74, nameIndex := 154, descriptorIndex := 155, attributes := #[] }, { accessFlags := 10, nameIndex := 217, descriptorIndex := 218, attributes := #[] }, { accessFlags := 10, nameIndex := 221, descriptorIndex := 222, attributes := #[] }, { accessFlags := 8, nameIndex := 562, descriptorIndex := 563, attributes := #[] }])
  fields := #[{ name := "in", type := (.object "java/io/InputStream"), accessFlags := 25, slot := 0, constantValue := 0 }, { name := "out", type := (.object "java/io/PrintStream"), accessFlags := 25, slot := 1, constantValue := 0 }, { name := "err", type := (.object "java/io/PrintStream"), accessFlags := 25, slot := 2, constantValue := 0 }, { name := "initialIn", type := (.object "java/io/InputStream"), accessFlags := 10, slot := 3, constantValue := 0 }, { name := "NEVER", type := .int, accessFlags := 26, slot := 4, constantValue := 0 }, { name := "MAYBE", type := .int, accessFlags := 26, slot := 5, constantValue := 0 }, { name := "allowSecurityManager", type := .int, accessFlags := 10, slot := 6, constantValue := 0 }, { name := "security", type := (.object "java/lang/SecurityManager"), accessFlags := 74, slot := 7, constantValue := 0 }, { name := "notSupportedJnuEncoding", type := (.object "java/lang/String"), accessFlags := 10, slot := 8, constantValue := 0 }, { name := "cons", type := (.object "java/io/Console"), accessFlags := 74, slot := 9, constantValue := 0 }, { name := "initialErrStream", type := (.object "java/io/PrintStream"), accessFlags := 74, slot := 10, constantValue := 0 }, { name := "props", type := (.object "java/util/Properties"), accessFlags := 10, slot := 11, constantValue := 0 }, { name := "lineSeparator", type := (.object "java/lang/String"), accessFlags := 10, slot := 12, constantValue := 0 }, { name := "bootLayer", type := (.object "java/lang/ModuleLayer"), accessFlags := 8, slot := 13, constantValue := 0 }]
  methods := #[k4m0, k4m1]
  instanceTypes := #[]
  staticTypes := #[(.object "java/io/InputStream"), (.object "java/io/PrintStream"), (.object "java/io/PrintStream"), (.object "java/io/InputStream"), .int, .int, .int, (.object "java/lang/SecurityManager"), (.object "java/lang/String"), (.object "java/io/Console"), (.object "java/io/PrintStream"), (.object "java/util/Properties"), (.object "java/lang/String"), (.object "java/lang/ModuleLayer")]
  resolved := Array.replicate 834 none
  statics := none }

def pool5 : Array CpInfo := pool [(1, u "java/lang/Cloneable"), (0, .class_ 1), (0, u "java/lang/Object"), (0, .class_ 3)] 3

/-- java/lang/Cloneable -/
def k5 : Class := { plain "java/lang/Cloneable" (some 0) with
  accessFlags := 1537
  interfaces := #[]
  cf := some (fileOf pool5 2 #[] #[] 1537 4 #[] #[])
  fields := #[]
  methods := #[]
  instanceTypes := #[]
  staticTypes := #[]
  resolved := Array.replicate 8 none
  statics := none }

def pool6 : Array CpInfo := pool [(1, u "java/io/Serializable"), (0, .class_ 1), (0, u "java/lang/Object"), (0, .class_ 3)] 3

/-- java/io/Serializable -/
def k6 : Class := { plain "java/io/Serializable" (some 0) with
  accessFlags := 1537
  interfaces := #[]
  cf := some (fileOf pool6 2 #[] #[] 1537 4 #[] #[])
  fields := #[]
  methods := #[]
  instanceTypes := #[]
  staticTypes := #[]
  resolved := Array.replicate 8 none
  statics := none }

/-- the primitive byte -/
def k7 : Class := { plain "byte" none with kind := .primitive 'B', accessFlags := 0x411 }
/-- [B -/
def k8 : Class := { plain "[B" (some 0) with kind := .array 7 .byte, interfaces := #[5, 6], accessFlags := 1041 }

/-- the primitive int -/
def k9 : Class := { plain "int" none with kind := .primitive 'I', accessFlags := 0x411 }
/-- [I -/
def k10 : Class := { plain "[I" (some 0) with kind := .array 9 .int, interfaces := #[5, 6], accessFlags := 1041 }

def heap : Heap := #[]
def classes : Array Class := #[k0, k1, k2, k3, k4, k5, k6, k7, k8, k9, k10]
def interned : List (Array UInt16 × Addr) := []
def slotsUsed : Nat := 0
def theMethod : MethodId := ⟨1, 1⟩
def args0 : Array Value := #[.int 3, .long 9, .int 3, .long 1, .int 3]
def aboutOver (below : List Frame) : State where
  vm := { classes := classes, interned := interned.toArray }
  heap := heap
  slotsUsed := slotsUsed
  threads := #[{ frames := .invoking theMethod args0 :: below }]
def below0 : List Frame := [.native { method := ⟨0, 0⟩, args := #[] }]
def about1 : State := aboutOver below0
def p0 : Program := .bare "" "" ""
def e0 : Env := launch0.env 0 0 0
theorem w_frames : about1.frames = Frame.invoking theMethod args0 :: below0 := rfl
set_option maxRecDepth 65536 in
theorem w_args : argsFit about1.vm theMethod args0 = true := by decide +kernel
set_option maxRecDepth 65536 in
theorem w_heap : heapFits about1 = true := by decide +kernel
set_option maxRecDepth 65536 in
theorem w_runnable : about1.curStatus? = some .runnable := by decide +kernel
set_option maxRecDepth 65536 in
theorem w_alone : about1.alone = true := by decide +kernel
set_option maxRecDepth 65536 in
theorem w_named : about1.methodNamed? x = some theMethod := by decide +kernel
set_option maxRecDepth 65536 in
theorem w_hears : about1.hears theMethod below0 = true := by decide +kernel
set_option maxRecDepth 65536 in
theorem w_ripe : about1.ripe theMethod args0 below0 = true := by decide +kernel
theorem w_running : about1.status = .running := rfl
set_option maxRecDepth 65536 in
theorem w_room : about1.hasRoom e0.platform room_1 = true :=
  launch0.hasRoom_least _ room_1 (by decide +kernel) (by decide +kernel) (by decide +kernel) (by decide +kernel) (by decide +kernel) (by decide +kernel)
theorem allAtoms_all (ts : List Jvm.Cond) (a : Array Jvm.Value) (st : Jvm.State) : (allAtoms ts).before a st = ts.all (fun c => c.before a st) := by
  induction ts with
  | nil => rfl
  | cons c t ih =>
    show (Jvm.Cond.and c (allAtoms t)).before a st = _
    rw [Jvm.Cond.before_and, ih, List.all_cons]
def words1 : List Jvm.Cond := Jvm.Cond.code x code maxLocals ret :: tables_1
/-- a 'code' word, met by the world's own term for the bytes: nothing is compared byte by byte -/
theorem code_word {y : MethodName} {bytes : ByteArray} {mx : Nat} {rt : Option FieldType} {a : Array Value} {s : State} {m : MethodId} {meth : Method} {c : Code} (h1 : s.methodNamed? y = some m) (h2 : s.vm.method? m = some meth) (h3 : meth.code = some c) (h4 : c.code = bytes)
    (h5 : (c.maxLocals == mx && c.exceptionTable.isEmpty && decide (c.maxStack ≤ mostOperands) && decide (meth.sig.returnType = rt) && !meth.locks && decide (parseMethodDescriptor y.desc = some meth.sig)) = true) : (Jvm.Cond.code y bytes mx rt).before a s = true := by
  simp only [Bool.and_eq_true, beq_iff_eq, Bool.not_eq_true', decide_eq_true_eq] at h5
  obtain ⟨⟨⟨⟨⟨g1, g2⟩, g3⟩, g4⟩, g5⟩, g6⟩ := h5
  simp [Cond.before, Cond.holds, Cond.value, h1, h2, h3, h4, g1, g2, g3, g4, g5, g6]
def isCode : Jvm.Cond → Bool
  | .code _ _ _ _ => true
  | _ => false
theorem all_split {L : List Jvm.Cond} {P : Jvm.Cond → Bool} (h1 : L.all (fun c => isCode c || P c) = true) (h2 : ∀ c ∈ L.filter isCode, P c = true) : L.all P = true := by
  refine List.all_eq_true.mpr fun c hc => ?_
  have h := List.all_eq_true.mp h1 c hc
  rcases Bool.eq_false_or_eq_true (isCode c) with hi | hi
  · exact h2 c (List.mem_filter.mpr ⟨hc, hi⟩)
  · simpa [hi] using h
set_option maxRecDepth 65536 in
theorem w_c0 : (Jvm.Cond.code x code maxLocals ret).before args0 about1 = true := code_word (m := ⟨1, 1⟩) (meth := k1m1) (c := k1c1) (by decide +kernel) rfl rfl rfl (by decide +kernel)
set_option maxRecDepth 65536 in
theorem w_c1 : (Jvm.Cond.code ({ cls := "com/example/rexquill/rexquill/CopiesCopyCountPinLaw", name := "fill", desc := "([IIIIII)V" } : Jvm.MethodName) method_3_code (8 : Nat) (Option.none : Option Jvm.ClassFile.FieldType)).before args0 about1 = true := code_word (m := ⟨1, 2⟩) (meth := k1m2) (c := k1c2) (by decide +kernel) rfl rfl rfl (by decide +kernel)
set_option maxRecDepth 65536 in
theorem w_c2 : (Jvm.Cond.code ({ cls := "java/lang/Math", name := "min", desc := "(II)I" } : Jvm.MethodName) jdk_29_method_69_code (2 : Nat) (Option.some Jvm.ClassFile.FieldType.int)).before args0 about1 = true := code_word (m := ⟨2, 2⟩) (meth := k2m2) (c := k2c2) (by decide +kernel) rfl rfl rfl (by decide +kernel)
set_option maxRecDepth 65536 in
theorem w_c3 : (Jvm.Cond.code ({ cls := "com/example/rexquill/rexquill/Copies", name := "<init>", desc := "([I)V" } : Jvm.MethodName) prog_20_method_1_code (10 : Nat) (Option.none : Option Jvm.ClassFile.FieldType)).before args0 about1 = true := code_word (m := ⟨3, 0⟩) (meth := k3m0) (c := k3c0) (by decide +kernel) rfl rfl rfl (by decide +kernel)
set_option maxRecDepth 65536 in
theorem w_c4 : (Jvm.Cond.code ({ cls := "java/lang/Object", name := "<init>", desc := "()V" } : Jvm.MethodName) object_method_1_code (1 : Nat) (Option.none : Option Jvm.ClassFile.FieldType)).before args0 about1 = true := code_word (m := ⟨0, 0⟩) (meth := k0m0) (c := k0c0) (by decide +kernel) rfl rfl rfl (by decide +kernel)
set_option maxRecDepth 65536 in
theorem w_c5 : (Jvm.Cond.code ({ cls := "com/example/rexquill/rexquill/Copies", name := "firstOptionalCopy", desc := "([II)I" } : Jvm.MethodName) prog_20_method_17_code (2 : Nat) (Option.some Jvm.ClassFile.FieldType.int)).before args0 about1 = true := code_word (m := ⟨3, 3⟩) (meth := k3m3) (c := k3c3) (by decide +kernel) rfl rfl rfl (by decide +kernel)
set_option maxRecDepth 65536 in
theorem w_c6 : (Jvm.Cond.code ({ cls := "com/example/rexquill/rexquill/Copies", name := "room", desc := "([III)J" } : Jvm.MethodName) prog_20_method_16_code (4 : Nat) (Option.some Jvm.ClassFile.FieldType.long)).before args0 about1 = true := code_word (m := ⟨3, 2⟩) (meth := k3m2) (c := k3c2) (by decide +kernel) rfl rfl rfl (by decide +kernel)
set_option maxRecDepth 65536 in
theorem w_c7 : (Jvm.Cond.code ({ cls := "java/lang/Math", name := "max", desc := "(JJ)J" } : Jvm.MethodName) jdk_29_method_66_code (4 : Nat) (Option.some Jvm.ClassFile.FieldType.long)).before args0 about1 = true := code_word (m := ⟨2, 1⟩) (meth := k2m1) (c := k2c1) (by decide +kernel) rfl rfl rfl (by decide +kernel)
set_option maxRecDepth 65536 in
theorem w_c8 : (Jvm.Cond.code ({ cls := "java/lang/Math", name := "min", desc := "(JJ)J" } : Jvm.MethodName) jdk_29_method_70_code (4 : Nat) (Option.some Jvm.ClassFile.FieldType.long)).before args0 about1 = true := code_word (m := ⟨2, 3⟩) (meth := k2m3) (c := k2c3) (by decide +kernel) rfl rfl rfl (by decide +kernel)
set_option maxRecDepth 65536 in
theorem w_c9 : (Jvm.Cond.code ({ cls := "com/example/rexquill/rexquill/Copies", name := "copyCount", desc := "(I)I" } : Jvm.MethodName) prog_20_method_9_code (2 : Nat) (Option.some Jvm.ClassFile.FieldType.int)).before args0 about1 = true := code_word (m := ⟨3, 1⟩) (meth := k3m1) (c := k3c1) (by decide +kernel) rfl rfl rfl (by decide +kernel)
def codes1 : List Jvm.Cond := [Jvm.Cond.code x code maxLocals ret, Jvm.Cond.code ({ cls := "com/example/rexquill/rexquill/CopiesCopyCountPinLaw", name := "fill", desc := "([IIIIII)V" } : Jvm.MethodName) method_3_code (8 : Nat) (Option.none : Option Jvm.ClassFile.FieldType), Jvm.Cond.code ({ cls := "java/lang/Math", name := "min", desc := "(II)I" } : Jvm.MethodName) jdk_29_method_69_code (2 : Nat) (Option.some Jvm.ClassFile.FieldType.int), Jvm.Cond.code ({ cls := "com/example/rexquill/rexquill/Copies", name := "<init>", desc := "([I)V" } : Jvm.MethodName) prog_20_method_1_code (10 : Nat) (Option.none : Option Jvm.ClassFile.FieldType), Jvm.Cond.code ({ cls := "java/lang/Object", name := "<init>", desc := "()V" } : Jvm.MethodName) object_method_1_code (1 : Nat) (Option.none : Option Jvm.ClassFile.FieldType), Jvm.Cond.code ({ cls := "com/example/rexquill/rexquill/Copies", name := "firstOptionalCopy", desc := "([II)I" } : Jvm.MethodName) prog_20_method_17_code (2 : Nat) (Option.some Jvm.ClassFile.FieldType.int), Jvm.Cond.code ({ cls := "com/example/rexquill/rexquill/Copies", name := "room", desc := "([III)J" } : Jvm.MethodName) prog_20_method_16_code (4 : Nat) (Option.some Jvm.ClassFile.FieldType.long), Jvm.Cond.code ({ cls := "java/lang/Math", name := "max", desc := "(JJ)J" } : Jvm.MethodName) jdk_29_method_66_code (4 : Nat) (Option.some Jvm.ClassFile.FieldType.long), Jvm.Cond.code ({ cls := "java/lang/Math", name := "min", desc := "(JJ)J" } : Jvm.MethodName) jdk_29_method_70_code (4 : Nat) (Option.some Jvm.ClassFile.FieldType.long), Jvm.Cond.code ({ cls := "com/example/rexquill/rexquill/Copies", name := "copyCount", desc := "(I)I" } : Jvm.MethodName) prog_20_method_9_code (2 : Nat) (Option.some Jvm.ClassFile.FieldType.int)]
set_option maxRecDepth 65536 in
theorem codes_eq : words1.filter isCode = codes1 := rfl
theorem w_codes : ∀ c ∈ words1.filter isCode, c.before args0 about1 = true := by
  rw [codes_eq]
  intro c hc
  simp only [codes1, List.mem_cons, List.not_mem_nil, or_false] at hc
  rcases hc with rfl | rfl | rfl | rfl | rfl | rfl | rfl | rfl | rfl | rfl
  · exact w_c0
  · exact w_c1
  · exact w_c2
  · exact w_c3
  · exact w_c4
  · exact w_c5
  · exact w_c6
  · exact w_c7
  · exact w_c8
  · exact w_c9
set_option maxRecDepth 65536 in
theorem w_t1 : (words1.take 24).all (fun c => isCode c || c.before args0 about1) = true := by decide +kernel
set_option maxRecDepth 65536 in
theorem w_t2 : ((words1.drop 24).take 24).all (fun c => isCode c || c.before args0 about1) = true := by decide +kernel
set_option maxRecDepth 65536 in
theorem w_t3 : ((words1.drop 24).drop 24).all (fun c => isCode c || c.before args0 about1) = true := by decide +kernel
theorem w_tables : (allAtoms (Jvm.Cond.code x code maxLocals ret :: tables_1)).before args0 about1 = true := by
  rw [allAtoms_all]
  show words1.all (fun c => c.before args0 about1) = true
  refine all_split ?_ w_codes
  rw [← List.take_append_drop 24 words1, List.all_append, w_t1, ← List.take_append_drop 24 (words1.drop 24), List.all_append, w_t2, w_t3]
  rfl
set_option maxRecDepth 65536 in
theorem w_case : (Jvm.Cond.and given_1 narrow_1).before args0 about1 = true := by decide +kernel
theorem w_applies : (headSpec (Jvm.Cond.code x code maxLocals ret :: tables_1) room_1).applies x e0.platform about1 = true :=
  (Spec.applies_iff w_frames).mpr ⟨w_running, w_runnable, w_alone, w_named, w_hears, w_ripe, w_room, w_tables⟩
theorem atStart : AtStart classFile x code maxLocals ret World_1 tables_1 room_1 Calls_1 rest_1 Pre_1 launch0 p0 e0 about1 theMethod args0 below0 :=
  ⟨lists_1, trivial, launch0.admits_env _ _ _, launch0.least_env, fairChoices_fair.cas, fairChoices_fair.clock, w_frames, w_args, w_heap, w_applies, trivial, trivial, w_case⟩
end start1
theorem witness_1 : WitnessClaimed_1 := ⟨start1.p0, start1.e0, start1.about1, start1.theMethod, start1.args0, start1.below0, start1.atStart⟩
end Jvm.Pilot.@@N@@
