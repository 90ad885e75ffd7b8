import JvmDerived
import JvmDerived.Pilot.@@N@@Statement
import JvmDerived.Pilot.@@N@@Code
set_option linter.unusedVariables false
set_option linter.unusedSimpArgs false
namespace Jvm.Pilot.@@N@@
open Jvm Jvm.ClassFile Sem Op Lib Jvm.Free Jvm.Stand Jvm.LawKit Jvm.RoadKit Bundle Jvm.Pilot.@@N@@.Jvm.D
/-- one invocation: program, environment, the state at the invocation, method, arguments, the frames below, the method's record, its code -/
abbrev OG := Program × Env × State × MethodId × Array Value × List Frame × Method × Code
/-- the whole run: the launch, the heap's size at the law's start, the law's arguments -/
abbrev OW := Launch × Nat × Array Value
/-- one method: its bytes, its number of locals, its class, its name, what it returns, the room it asks -/
abbrev OM := ByteArray × Nat × String × String × Option FieldType × Room
/-- where a walk stands -/
def oSt (Z : State) (ω : OW) (γ : OG) (κ : OM) (T : State) (h : Heap) (cs ss : Nat) : Prop :=
  γ.1.tables.exec = Jvm.exec ∧ γ.2.2.2.2.2.2.2.code = κ.1 ∧ γ.2.2.2.2.2.2.2.maxLocals = κ.2.1 ∧ γ.2.2.1.vm.findClass κ.2.2.1 = some γ.2.2.2.1.cls ∧ γ.2.2.2.2.2.2.1.name = κ.2.2.2.1 ∧
  γ.2.2.2.2.2.2.1.sig.returnType = κ.2.2.2.2.1 ∧ γ.2.2.2.2.2.2.1.locks = false ∧ Z.Warmed39 γ.2.2.1.vm ∧ (∀ d ∈ tables_1, d.before ω.2.2 Z = true) ∧ ω.2.1 ≤ γ.2.2.1.heap.size ∧ T.heap = h ∧
  ∃ locs, Stand γ.1 ω.1 γ.2.1 κ.2.2.2.2.2 γ.2.2.1 γ.2.2.2.1 γ.2.2.2.2.1 γ.2.2.2.2.2.1 γ.2.2.2.2.2.2.1 γ.2.2.2.2.2.2.2 T locs cs ss ∧ Fr ω.2.1 locs
/-- from here the method returns, and Q holds of what it returns and of the heap it leaves -/
def oWP (ω : OW) (γ : OG) (κ : OM) (Q : Option Value → Heap → Prop) (T : State) (pc : Nat) (L : Array Slot) (S : List Value) : Prop :=
  ∃ s₂ o, Steps γ.1.tables γ.2.1 γ.2.2.2.2.2.1 (T.setTop (mkF γ.2.2.2.1 pc L S)) s₂ ∧ s₂.status = .running ∧ Ended s₂ γ.2.2.2.2.2.1 o ∧
    ∃ v Lc, o = .returned v ∧ (Fr ω.2.1 Lc ∧ Q v s₂.heap) ∧ FrameEnd γ.2.2.1 o s₂ Lc κ.2.2.2.2.2.cells κ.2.2.2.2.2.slots
/-- a method's contract -/
def oC (Z : State) (ω : OW) (y : MethodName) (κ : OM) (ws : List Jvm.Cond) (as : Array Value) (h : Heap) (Q : Option Value → Heap → Prop) : Prop :=
  MetFree ω.1 y (head1 (Jvm.Cond.code y κ.1 κ.2.1 κ.2.2.2.2.1 :: ws) κ.2.2.2.2.2) (fun a U => a = as ∧ Z.Warmed39 U.vm ∧ U.heap = h) (fun _ _ _ _ _ => True)
    (fun _ U o U' => ∃ v Lc, o = .returned v ∧ (Fr ω.2.1 Lc ∧ Q v U'.heap) ∧ FrameEnd U o U' Lc κ.2.2.2.2.2.cells κ.2.2.2.2.2.slots)
theorem oC_of {Z : State} {ω : OW} {y : MethodName} {κ : OM} {ws : List Jvm.Cond} {as : Array Value} {h : Heap} {Q : Option Value → Heap → Prop} {L : Array Slot} (hw : ∀ d ∈ tables_1, d.before ω.2.2 Z = true) (hn0 : ω.2.1 ≤ h.size)
    (hpn : plainFor y = true) (hcl : κ.2.2.1 = y.cls) (hnm : κ.2.2.2.1 = y.name) (hef : ∀ m, entryFrame m as κ.2.1 = mkF m 0 L []) (body : ∀ γ T, oSt Z ω γ κ T h 0 0 → oWP ω γ κ Q T 0 L []) : oC Z ω y κ ws as h Q := by
  refine MetFree.of_bodySF hpn hisR ?_
  intro p e s m args below meth c s₁ Bd hml0 hP hK
  obtain ⟨rfl, hZ, hh⟩ := hP
  have hown : s.vm.findClass y.cls = some m.cls := findClass_of_methodNamed Bd.named
  have hnm' := (name_of_methodNamed Bd.named Bd.method).1
  have X0 := Stand.of_body Bd
  have e0 : s₁.heap = h := by rw [← hh, Bd.state]; rfl
  have hlk : meth.locks = false := BodyLoose.notSynchronized Bd
  obtain ⟨s₂, o, h1, h2, h3, h4⟩ := body (p, e, s, m, args, below, meth, c) s₁ ⟨Bd.exec, Bd.bytes, hml0, by rw [hcl]; exact hown, by rw [hnm]; exact hnm', Bd.returns, hlk, hZ, hw, by rw [hh]; exact hn0, e0, [], X0, Fr.nil _⟩
  exact ⟨s₂, o, castTop (hef m) h1, h2, h3, h4⟩
section Walk
variable {Z : State} {ω : OW} {γ : OG} {κ : OM} {Q : Option Value → Heap → Prop} {T : State} {h : Heap} {cs ss : Nat} {pc : Nat} {L : Array Slot} {S : List Value}
theorem oSt_n0 (X : oSt Z ω γ κ T h cs ss) : ω.2.1 ≤ h.size := by
  obtain ⟨-, -, -, -, -, -, -, -, -, hn0, hT, locs, Y, -⟩ := X
  have q : γ.2.2.1.heap.size ≤ T.heap.size := Y.same.2.1
  rw [hT] at q
  exact Nat.le_trans hn0 q
theorem oSt_w (X : oSt Z ω γ κ T h cs ss) : ∀ d ∈ tables_1, d.before ω.2.2 Z = true := by
  obtain ⟨-, -, -, -, -, -, -, -, hw, -⟩ := X; exact hw
theorem oSt_at (X : oSt Z ω γ κ T h cs ss) (i : Nat) {d : Jvm.Cond} (hi : tables_1[i]? = some d) : d.before ω.2.2 Z = true := oSt_w X _ (List.mem_of_getElem? hi)
theorem ow_iload (X : oSt Z ω γ κ T h cs ss) (pc' : Nat) {k : Nat} {v : Int32} (hd : decode κ.1 pc = .ok (.iload k, 2)) (hp : pc + 2 = pc') (hl : L[k]? = some (.val (.int v)))
    (K : oWP ω γ κ Q T pc' L (.int v :: S)) : oWP ω γ κ Q T pc L (S) := by
  obtain ⟨hx, hby, -, -, -, -, -, -, -, -, -, locs, Y, -⟩ := X
  subst hp
  obtain ⟨s₂, o, hs, r⟩ := K
  exact ⟨s₂, o, XS.iload Y.here hx rfl (hb hby hd) hl hs, r⟩
theorem ow_iloadN (X : oSt Z ω γ κ T h cs ss) (pc' : Nat) {k : Fin 4} {v : Int32} (hd : decode κ.1 pc = .ok (.iload_n k, 1)) (hp : pc + 1 = pc') (hl : L[k.val]? = some (.val (.int v)))
    (K : oWP ω γ κ Q T pc' L (.int v :: S)) : oWP ω γ κ Q T pc L (S) := by
  obtain ⟨hx, hby, -, -, -, -, -, -, -, -, -, locs, Y, -⟩ := X
  subst hp
  obtain ⟨s₂, o, hs, r⟩ := K
  exact ⟨s₂, o, XS.iloadN Y.here hx rfl (hb hby hd) hl hs, r⟩
theorem ow_istore (X : oSt Z ω γ κ T h cs ss) (pc' : Nat) {k : Nat} {v : Int32} {L' : Array Slot} (hd : decode κ.1 pc = .ok (.istore k, 2)) (hp : pc + 2 = pc') (hl : storeLocals L k (.int v) = some L')
    (K : oWP ω γ κ Q T pc' L' (S)) : oWP ω γ κ Q T pc L (.int v :: S) := by
  obtain ⟨hx, hby, -, -, -, -, -, -, -, -, -, locs, Y, -⟩ := X
  subst hp
  obtain ⟨s₂, o, hs, r⟩ := K
  exact ⟨s₂, o, XS.istore Y.here hx rfl (hb hby hd) rfl hl hs, r⟩
theorem ow_istoreN (X : oSt Z ω γ κ T h cs ss) (pc' : Nat) {k : Fin 4} {v : Int32} {L' : Array Slot} (hd : decode κ.1 pc = .ok (.istore_n k, 1)) (hp : pc + 1 = pc') (hl : storeLocals L k.val (.int v) = some L')
    (K : oWP ω γ κ Q T pc' L' (S)) : oWP ω γ κ Q T pc L (.int v :: S) := by
  obtain ⟨hx, hby, -, -, -, -, -, -, -, -, -, locs, Y, -⟩ := X
  subst hp
  obtain ⟨s₂, o, hs, r⟩ := K
  exact ⟨s₂, o, XS.istoreN Y.here hx rfl (hb hby hd) rfl hl hs, r⟩
theorem ow_lload (X : oSt Z ω γ κ T h cs ss) (pc' : Nat) {k : Nat} {v : Int64} (hd : decode κ.1 pc = .ok (.lload k, 2)) (hp : pc + 2 = pc') (hl : L[k]? = some (.val (.long v)))
    (K : oWP ω γ κ Q T pc' L (.long v :: S)) : oWP ω γ κ Q T pc L (S) := by
  obtain ⟨hx, hby, -, -, -, -, -, -, -, -, -, locs, Y, -⟩ := X
  subst hp
  obtain ⟨s₂, o, hs, r⟩ := K
  exact ⟨s₂, o, XS.lload Y.here hx rfl (hb hby hd) hl hs, r⟩
theorem ow_lloadN (X : oSt Z ω γ κ T h cs ss) (pc' : Nat) {k : Fin 4} {v : Int64} (hd : decode κ.1 pc = .ok (.lload_n k, 1)) (hp : pc + 1 = pc') (hl : L[k.val]? = some (.val (.long v)))
    (K : oWP ω γ κ Q T pc' L (.long v :: S)) : oWP ω γ κ Q T pc L (S) := by
  obtain ⟨hx, hby, -, -, -, -, -, -, -, -, -, locs, Y, -⟩ := X
  subst hp
  obtain ⟨s₂, o, hs, r⟩ := K
  exact ⟨s₂, o, XS.lloadN Y.here hx rfl (hb hby hd) hl hs, r⟩
theorem ow_lstore (X : oSt Z ω γ κ T h cs ss) (pc' : Nat) {k : Nat} {v : Int64} {L' : Array Slot} (hd : decode κ.1 pc = .ok (.lstore k, 2)) (hp : pc + 2 = pc') (hl : storeLocals L k (.long v) = some L')
    (K : oWP ω γ κ Q T pc' L' (S)) : oWP ω γ κ Q T pc L (.long v :: S) := by
  obtain ⟨hx, hby, -, -, -, -, -, -, -, -, -, locs, Y, -⟩ := X
  subst hp
  obtain ⟨s₂, o, hs, r⟩ := K
  exact ⟨s₂, o, XS.lstore Y.here hx rfl (hb hby hd) rfl hl hs, r⟩
theorem ow_lstoreN (X : oSt Z ω γ κ T h cs ss) (pc' : Nat) {k : Fin 4} {v : Int64} {L' : Array Slot} (hd : decode κ.1 pc = .ok (.lstore_n k, 1)) (hp : pc + 1 = pc') (hl : storeLocals L k.val (.long v) = some L')
    (K : oWP ω γ κ Q T pc' L' (S)) : oWP ω γ κ Q T pc L (.long v :: S) := by
  obtain ⟨hx, hby, -, -, -, -, -, -, -, -, -, locs, Y, -⟩ := X
  subst hp
  obtain ⟨s₂, o, hs, r⟩ := K
  exact ⟨s₂, o, XS.lstoreN Y.here hx rfl (hb hby hd) rfl hl hs, r⟩
theorem ow_aload (X : oSt Z ω γ κ T h cs ss) (pc' : Nat) {k : Nat} {v : Value} (hd : decode κ.1 pc = .ok (.aload k, 2)) (hp : pc + 2 = pc') (hl : L[k]? = some (.val v)) (hv : v.isRef = true)
    (K : oWP ω γ κ Q T pc' L (v :: S)) : oWP ω γ κ Q T pc L (S) := by
  obtain ⟨hx, hby, -, -, -, -, -, -, -, -, -, locs, Y, -⟩ := X
  subst hp
  obtain ⟨s₂, o, hs, r⟩ := K
  exact ⟨s₂, o, XS.aload Y.here hx rfl (hb hby hd) hl hv hs, r⟩
theorem ow_aloadN (X : oSt Z ω γ κ T h cs ss) (pc' : Nat) {k : Fin 4} {v : Value} (hd : decode κ.1 pc = .ok (.aload_n k, 1)) (hp : pc + 1 = pc') (hl : L[k.val]? = some (.val v)) (hv : v.isRef = true)
    (K : oWP ω γ κ Q T pc' L (v :: S)) : oWP ω γ κ Q T pc L (S) := by
  obtain ⟨hx, hby, -, -, -, -, -, -, -, -, -, locs, Y, -⟩ := X
  subst hp
  obtain ⟨s₂, o, hs, r⟩ := K
  exact ⟨s₂, o, XS.aloadN Y.here hx rfl (hb hby hd) hl hv hs, r⟩
theorem ow_astore (X : oSt Z ω γ κ T h cs ss) (pc' : Nat) {k : Nat} {v : Value} {L' : Array Slot} (hd : decode κ.1 pc = .ok (.astore k, 2)) (hp : pc + 2 = pc') (hv : v.isRef = true) (hl : storeLocals L k v = some L')
    (K : oWP ω γ κ Q T pc' L' (S)) : oWP ω γ κ Q T pc L (v :: S) := by
  obtain ⟨hx, hby, -, -, -, -, -, -, -, -, -, locs, Y, -⟩ := X
  subst hp
  obtain ⟨s₂, o, hs, r⟩ := K
  exact ⟨s₂, o, XS.astore Y.here hx rfl (hb hby hd) rfl hv hl hs, r⟩
theorem ow_astoreN (X : oSt Z ω γ κ T h cs ss) (pc' : Nat) {k : Fin 4} {v : Value} {L' : Array Slot} (hd : decode κ.1 pc = .ok (.astore_n k, 1)) (hp : pc + 1 = pc') (hv : v.isRef = true) (hl : storeLocals L k.val v = some L')
    (K : oWP ω γ κ Q T pc' L' (S)) : oWP ω γ κ Q T pc L (v :: S) := by
  obtain ⟨hx, hby, -, -, -, -, -, -, -, -, -, locs, Y, -⟩ := X
  subst hp
  obtain ⟨s₂, o, hs, r⟩ := K
  exact ⟨s₂, o, XS.astoreN Y.here hx rfl (hb hby hd) rfl hv hl hs, r⟩
theorem ow_iconst (X : oSt Z ω γ κ T h cs ss) (pc' : Nat) {i : Int} (v : Int32) (hd : decode κ.1 pc = .ok (.iconst i, 1)) (hp : pc + 1 = pc') (hv : Int32.ofInt i = v)
    (K : oWP ω γ κ Q T pc' L (.int v :: S)) : oWP ω γ κ Q T pc L (S) := by
  obtain ⟨hx, hby, -, -, -, -, -, -, -, -, -, locs, Y, -⟩ := X
  subst hp
  obtain ⟨s₂, o, hs, r⟩ := K
  subst hv; exact ⟨s₂, o, XS.iconst Y.here hx rfl (hb hby hd) hs, r⟩
theorem ow_bipush (X : oSt Z ω γ κ T h cs ss) (pc' : Nat) {i : Int} (v : Int32) (hd : decode κ.1 pc = .ok (.bipush i, 2)) (hp : pc + 2 = pc') (hv : (Int8.ofInt i).toInt32 = v)
    (K : oWP ω γ κ Q T pc' L (.int v :: S)) : oWP ω γ κ Q T pc L (S) := by
  obtain ⟨hx, hby, -, -, -, -, -, -, -, -, -, locs, Y, -⟩ := X
  subst hp
  obtain ⟨s₂, o, hs, r⟩ := K
  subst hv; exact ⟨s₂, o, XS.bipush Y.here hx rfl (hb hby hd) hs, r⟩
theorem ow_sipush (X : oSt Z ω γ κ T h cs ss) (pc' : Nat) {i : Int} (v : Int32) (hd : decode κ.1 pc = .ok (.sipush i, 3)) (hp : pc + 3 = pc') (hv : (Int16.ofInt i).toInt32 = v)
    (K : oWP ω γ κ Q T pc' L (.int v :: S)) : oWP ω γ κ Q T pc L (S) := by
  obtain ⟨hx, hby, -, -, -, -, -, -, -, -, -, locs, Y, -⟩ := X
  subst hp
  obtain ⟨s₂, o, hs, r⟩ := K
  subst hv; exact ⟨s₂, o, XS.sipush Y.here hx rfl (hb hby hd) hs, r⟩
theorem ow_lconst (X : oSt Z ω γ κ T h cs ss) (pc' : Nat) {k : Fin 2} (v : Int64) (hd : decode κ.1 pc = .ok (.lconst k, 1)) (hp : pc + 1 = pc') (hv : Int64.ofNat k = v)
    (K : oWP ω γ κ Q T pc' L (.long v :: S)) : oWP ω γ κ Q T pc L (S) := by
  obtain ⟨hx, hby, -, -, -, -, -, -, -, -, -, locs, Y, -⟩ := X
  subst hp
  obtain ⟨s₂, o, hs, r⟩ := K
  subst hv; exact ⟨s₂, o, XS.lconst Y.here hx rfl (hb hby hd) hs, r⟩
theorem ow_anull (X : oSt Z ω γ κ T h cs ss) (pc' : Nat)  (hd : decode κ.1 pc = .ok (.aconst_null, 1)) (hp : pc + 1 = pc') 
    (K : oWP ω γ κ Q T pc' L (.null :: S)) : oWP ω γ κ Q T pc L (S) := by
  obtain ⟨hx, hby, -, -, -, -, -, -, -, -, -, locs, Y, -⟩ := X
  subst hp
  obtain ⟨s₂, o, hs, r⟩ := K
  exact ⟨s₂, o, XS.aconstNull Y.here hx rfl (hb hby hd) hs, r⟩
theorem ow_iinc (X : oSt Z ω γ κ T h cs ss) (pc' : Nat) {k : Nat} {i : Int} {x : Int32} {L' : Array Slot} (v : Int32) (hd : decode κ.1 pc = .ok (.iinc k i, 3)) (hp : pc + 3 = pc') (hv : Int32.ofInt i = v) (hl : L[k]? = some (.val (.int x))) (hl' : storeLocals L k (.int (x + v)) = some L')
    (K : oWP ω γ κ Q T pc' L' (S)) : oWP ω γ κ Q T pc L (S) := by
  obtain ⟨hx, hby, -, -, -, -, -, -, -, -, -, locs, Y, -⟩ := X
  subst hp
  obtain ⟨s₂, o, hs, r⟩ := K
  subst hv; exact ⟨s₂, o, XS.iinc Y.here hx rfl (hb hby hd) hl hl' hs, r⟩
theorem ow_iadd (X : oSt Z ω γ κ T h cs ss) (pc' : Nat) {x y : Int32} (hd : decode κ.1 pc = .ok (.iadd, 1)) (hp : pc + 1 = pc') 
    (K : oWP ω γ κ Q T pc' L (.int (x + y) :: S)) : oWP ω γ κ Q T pc L (.int y :: .int x :: S) := by
  obtain ⟨hx, hby, -, -, -, -, -, -, -, -, -, locs, Y, -⟩ := X
  subst hp
  obtain ⟨s₂, o, hs, r⟩ := K
  exact ⟨s₂, o, XS.iadd Y.here hx rfl (hb hby hd) rfl hs, r⟩
theorem ow_isub (X : oSt Z ω γ κ T h cs ss) (pc' : Nat) {x y : Int32} (hd : decode κ.1 pc = .ok (.isub, 1)) (hp : pc + 1 = pc') 
    (K : oWP ω γ κ Q T pc' L (.int (x - y) :: S)) : oWP ω γ κ Q T pc L (.int y :: .int x :: S) := by
  obtain ⟨hx, hby, -, -, -, -, -, -, -, -, -, locs, Y, -⟩ := X
  subst hp
  obtain ⟨s₂, o, hs, r⟩ := K
  exact ⟨s₂, o, XS.isub Y.here hx rfl (hb hby hd) rfl hs, r⟩
theorem ow_imul (X : oSt Z ω γ κ T h cs ss) (pc' : Nat) {x y : Int32} (hd : decode κ.1 pc = .ok (.imul, 1)) (hp : pc + 1 = pc') 
    (K : oWP ω γ κ Q T pc' L (.int (x * y) :: S)) : oWP ω γ κ Q T pc L (.int y :: .int x :: S) := by
  obtain ⟨hx, hby, -, -, -, -, -, -, -, -, -, locs, Y, -⟩ := X
  subst hp
  obtain ⟨s₂, o, hs, r⟩ := K
  exact ⟨s₂, o, XS.imul Y.here hx rfl (hb hby hd) rfl hs, r⟩
theorem ow_iand (X : oSt Z ω γ κ T h cs ss) (pc' : Nat) {x y : Int32} (hd : decode κ.1 pc = .ok (.iand, 1)) (hp : pc + 1 = pc') 
    (K : oWP ω γ κ Q T pc' L (.int (x &&& y) :: S)) : oWP ω γ κ Q T pc L (.int y :: .int x :: S) := by
  obtain ⟨hx, hby, -, -, -, -, -, -, -, -, -, locs, Y, -⟩ := X
  subst hp
  obtain ⟨s₂, o, hs, r⟩ := K
  exact ⟨s₂, o, XS.iand Y.here hx rfl (hb hby hd) rfl hs, r⟩
theorem ow_ior (X : oSt Z ω γ κ T h cs ss) (pc' : Nat) {x y : Int32} (hd : decode κ.1 pc = .ok (.ior, 1)) (hp : pc + 1 = pc') 
    (K : oWP ω γ κ Q T pc' L (.int (x ||| y) :: S)) : oWP ω γ κ Q T pc L (.int y :: .int x :: S) := by
  obtain ⟨hx, hby, -, -, -, -, -, -, -, -, -, locs, Y, -⟩ := X
  subst hp
  obtain ⟨s₂, o, hs, r⟩ := K
  exact ⟨s₂, o, XS.ior Y.here hx rfl (hb hby hd) rfl hs, r⟩
theorem ow_ixor (X : oSt Z ω γ κ T h cs ss) (pc' : Nat) {x y : Int32} (hd : decode κ.1 pc = .ok (.ixor, 1)) (hp : pc + 1 = pc') 
    (K : oWP ω γ κ Q T pc' L (.int (x ^^^ y) :: S)) : oWP ω γ κ Q T pc L (.int y :: .int x :: S) := by
  obtain ⟨hx, hby, -, -, -, -, -, -, -, -, -, locs, Y, -⟩ := X
  subst hp
  obtain ⟨s₂, o, hs, r⟩ := K
  exact ⟨s₂, o, XS.ixor Y.here hx rfl (hb hby hd) rfl hs, r⟩
theorem ow_ishl (X : oSt Z ω γ κ T h cs ss) (pc' : Nat) {x y : Int32} (hd : decode κ.1 pc = .ok (.ishl, 1)) (hp : pc + 1 = pc') 
    (K : oWP ω γ κ Q T pc' L (.int (x <<< (y &&& 31)) :: S)) : oWP ω γ κ Q T pc L (.int y :: .int x :: S) := by
  obtain ⟨hx, hby, -, -, -, -, -, -, -, -, -, locs, Y, -⟩ := X
  subst hp
  obtain ⟨s₂, o, hs, r⟩ := K
  exact ⟨s₂, o, XS.ishl Y.here hx rfl (hb hby hd) rfl hs, r⟩
theorem ow_ishr (X : oSt Z ω γ κ T h cs ss) (pc' : Nat) {x y : Int32} (hd : decode κ.1 pc = .ok (.ishr, 1)) (hp : pc + 1 = pc') 
    (K : oWP ω γ κ Q T pc' L (.int (x >>> (y &&& 31)) :: S)) : oWP ω γ κ Q T pc L (.int y :: .int x :: S) := by
  obtain ⟨hx, hby, -, -, -, -, -, -, -, -, -, locs, Y, -⟩ := X
  subst hp
  obtain ⟨s₂, o, hs, r⟩ := K
  exact ⟨s₂, o, XS.ishr Y.here hx rfl (hb hby hd) rfl hs, r⟩
theorem ow_iushr (X : oSt Z ω γ κ T h cs ss) (pc' : Nat) {x y : Int32} (hd : decode κ.1 pc = .ok (.iushr, 1)) (hp : pc + 1 = pc') 
    (K : oWP ω γ κ Q T pc' L (.int ((x.toUInt32 >>> (y &&& 31).toUInt32).toInt32) :: S)) : oWP ω γ κ Q T pc L (.int y :: .int x :: S) := by
  obtain ⟨hx, hby, -, -, -, -, -, -, -, -, -, locs, Y, -⟩ := X
  subst hp
  obtain ⟨s₂, o, hs, r⟩ := K
  exact ⟨s₂, o, XS.iushr Y.here hx rfl (hb hby hd) rfl hs, r⟩
theorem ow_ineg (X : oSt Z ω γ κ T h cs ss) (pc' : Nat) {x : Int32} (hd : decode κ.1 pc = .ok (.ineg, 1)) (hp : pc + 1 = pc') 
    (K : oWP ω γ κ Q T pc' L (.int (-x) :: S)) : oWP ω γ κ Q T pc L (.int x :: S) := by
  obtain ⟨hx, hby, -, -, -, -, -, -, -, -, -, locs, Y, -⟩ := X
  subst hp
  obtain ⟨s₂, o, hs, r⟩ := K
  exact ⟨s₂, o, XS.ineg Y.here hx rfl (hb hby hd) rfl hs, r⟩
theorem ow_idiv (X : oSt Z ω γ κ T h cs ss) (pc' : Nat) {x y : Int32} (hd : decode κ.1 pc = .ok (.idiv, 1)) (hp : pc + 1 = pc') (hy : y ≠ 0)
    (K : oWP ω γ κ Q T pc' L (.int (x / y) :: S)) : oWP ω γ κ Q T pc L (.int y :: .int x :: S) := by
  obtain ⟨hx, hby, -, -, -, -, -, -, -, -, -, locs, Y, -⟩ := X
  subst hp
  obtain ⟨s₂, o, hs, r⟩ := K
  exact ⟨s₂, o, XS.idiv Y.here hx rfl (hb hby hd) rfl hy hs, r⟩
theorem ow_irem (X : oSt Z ω γ κ T h cs ss) (pc' : Nat) {x y : Int32} (hd : decode κ.1 pc = .ok (.irem, 1)) (hp : pc + 1 = pc') (hy : y ≠ 0)
    (K : oWP ω γ κ Q T pc' L (.int (x % y) :: S)) : oWP ω γ κ Q T pc L (.int y :: .int x :: S) := by
  obtain ⟨hx, hby, -, -, -, -, -, -, -, -, -, locs, Y, -⟩ := X
  subst hp
  obtain ⟨s₂, o, hs, r⟩ := K
  exact ⟨s₂, o, iremM Y hx rfl (hb hby hd) rfl hy hs, r⟩
theorem ow_ladd (X : oSt Z ω γ κ T h cs ss) (pc' : Nat) {x y : Int64} (hd : decode κ.1 pc = .ok (.ladd, 1)) (hp : pc + 1 = pc') 
    (K : oWP ω γ κ Q T pc' L (.long (x + y) :: S)) : oWP ω γ κ Q T pc L (.long y :: .long x :: S) := by
  obtain ⟨hx, hby, -, -, -, -, -, -, -, -, -, locs, Y, -⟩ := X
  subst hp
  obtain ⟨s₂, o, hs, r⟩ := K
  exact ⟨s₂, o, XS.ladd Y.here hx rfl (hb hby hd) rfl hs, r⟩
theorem ow_lsub (X : oSt Z ω γ κ T h cs ss) (pc' : Nat) {x y : Int64} (hd : decode κ.1 pc = .ok (.lsub, 1)) (hp : pc + 1 = pc') 
    (K : oWP ω γ κ Q T pc' L (.long (x - y) :: S)) : oWP ω γ κ Q T pc L (.long y :: .long x :: S) := by
  obtain ⟨hx, hby, -, -, -, -, -, -, -, -, -, locs, Y, -⟩ := X
  subst hp
  obtain ⟨s₂, o, hs, r⟩ := K
  exact ⟨s₂, o, XS.lsub Y.here hx rfl (hb hby hd) rfl hs, r⟩
theorem ow_lmul (X : oSt Z ω γ κ T h cs ss) (pc' : Nat) {x y : Int64} (hd : decode κ.1 pc = .ok (.lmul, 1)) (hp : pc + 1 = pc') 
    (K : oWP ω γ κ Q T pc' L (.long (x * y) :: S)) : oWP ω γ κ Q T pc L (.long y :: .long x :: S) := by
  obtain ⟨hx, hby, -, -, -, -, -, -, -, -, -, locs, Y, -⟩ := X
  subst hp
  obtain ⟨s₂, o, hs, r⟩ := K
  exact ⟨s₂, o, XS.lmul Y.here hx rfl (hb hby hd) rfl hs, r⟩
theorem ow_land (X : oSt Z ω γ κ T h cs ss) (pc' : Nat) {x y : Int64} (hd : decode κ.1 pc = .ok (.land, 1)) (hp : pc + 1 = pc') 
    (K : oWP ω γ κ Q T pc' L (.long (x &&& y) :: S)) : oWP ω γ κ Q T pc L (.long y :: .long x :: S) := by
  obtain ⟨hx, hby, -, -, -, -, -, -, -, -, -, locs, Y, -⟩ := X
  subst hp
  obtain ⟨s₂, o, hs, r⟩ := K
  exact ⟨s₂, o, XS.land Y.here hx rfl (hb hby hd) rfl hs, r⟩
theorem ow_lor (X : oSt Z ω γ κ T h cs ss) (pc' : Nat) {x y : Int64} (hd : decode κ.1 pc = .ok (.lor, 1)) (hp : pc + 1 = pc') 
    (K : oWP ω γ κ Q T pc' L (.long (x ||| y) :: S)) : oWP ω γ κ Q T pc L (.long y :: .long x :: S) := by
  obtain ⟨hx, hby, -, -, -, -, -, -, -, -, -, locs, Y, -⟩ := X
  subst hp
  obtain ⟨s₂, o, hs, r⟩ := K
  exact ⟨s₂, o, XS.lor Y.here hx rfl (hb hby hd) rfl hs, r⟩
theorem ow_lxor (X : oSt Z ω γ κ T h cs ss) (pc' : Nat) {x y : Int64} (hd : decode κ.1 pc = .ok (.lxor, 1)) (hp : pc + 1 = pc') 
    (K : oWP ω γ κ Q T pc' L (.long (x ^^^ y) :: S)) : oWP ω γ κ Q T pc L (.long y :: .long x :: S) := by
  obtain ⟨hx, hby, -, -, -, -, -, -, -, -, -, locs, Y, -⟩ := X
  subst hp
  obtain ⟨s₂, o, hs, r⟩ := K
  exact ⟨s₂, o, XS.lxor Y.here hx rfl (hb hby hd) rfl hs, r⟩
theorem ow_lshl (X : oSt Z ω γ κ T h cs ss) (pc' : Nat) {x : Int64} {y : Int32} (hd : decode κ.1 pc = .ok (.lshl, 1)) (hp : pc + 1 = pc') 
    (K : oWP ω γ κ Q T pc' L (.long (x <<< (y &&& 0x3f).toInt64) :: S)) : oWP ω γ κ Q T pc L (.int y :: .long x :: S) := by
  obtain ⟨hx, hby, -, -, -, -, -, -, -, -, -, locs, Y, -⟩ := X
  subst hp
  obtain ⟨s₂, o, hs, r⟩ := K
  exact ⟨s₂, o, XS.lshl Y.here hx rfl (hb hby hd) rfl hs, r⟩
theorem ow_lshr (X : oSt Z ω γ κ T h cs ss) (pc' : Nat) {x : Int64} {y : Int32} (hd : decode κ.1 pc = .ok (.lshr, 1)) (hp : pc + 1 = pc') 
    (K : oWP ω γ κ Q T pc' L (.long (x >>> (y &&& 0x3f).toInt64) :: S)) : oWP ω γ κ Q T pc L (.int y :: .long x :: S) := by
  obtain ⟨hx, hby, -, -, -, -, -, -, -, -, -, locs, Y, -⟩ := X
  subst hp
  obtain ⟨s₂, o, hs, r⟩ := K
  exact ⟨s₂, o, XS.lshr Y.here hx rfl (hb hby hd) rfl hs, r⟩
theorem ow_lushr (X : oSt Z ω γ κ T h cs ss) (pc' : Nat) {x : Int64} {y : Int32} (hd : decode κ.1 pc = .ok (.lushr, 1)) (hp : pc + 1 = pc') 
    (K : oWP ω γ κ Q T pc' L (.long ((x.toUInt64 >>> (y &&& 0x3f).toInt64.toUInt64).toInt64) :: S)) : oWP ω γ κ Q T pc L (.int y :: .long x :: S) := by
  obtain ⟨hx, hby, -, -, -, -, -, -, -, -, -, locs, Y, -⟩ := X
  subst hp
  obtain ⟨s₂, o, hs, r⟩ := K
  exact ⟨s₂, o, XS.lushr Y.here hx rfl (hb hby hd) rfl hs, r⟩
theorem ow_ldiv (X : oSt Z ω γ κ T h cs ss) (pc' : Nat) {x y : Int64} (hd : decode κ.1 pc = .ok (.ldiv, 1)) (hp : pc + 1 = pc') (hy : y ≠ 0)
    (K : oWP ω γ κ Q T pc' L (.long (x / y) :: S)) : oWP ω γ κ Q T pc L (.long y :: .long x :: S) := by
  obtain ⟨hx, hby, -, -, -, -, -, -, -, -, -, locs, Y, -⟩ := X
  subst hp
  obtain ⟨s₂, o, hs, r⟩ := K
  exact ⟨s₂, o, XS.ldiv Y.here hx rfl (hb hby hd) rfl hy hs, r⟩
theorem ow_lrem (X : oSt Z ω γ κ T h cs ss) (pc' : Nat) {x y : Int64} (hd : decode κ.1 pc = .ok (.lrem, 1)) (hp : pc + 1 = pc') (hy : y ≠ 0)
    (K : oWP ω γ κ Q T pc' L (.long (x % y) :: S)) : oWP ω γ κ Q T pc L (.long y :: .long x :: S) := by
  obtain ⟨hx, hby, -, -, -, -, -, -, -, -, -, locs, Y, -⟩ := X
  subst hp
  obtain ⟨s₂, o, hs, r⟩ := K
  rw [← lrem_mod] at hs; exact ⟨s₂, o, XS.lrem Y.here hx rfl (hb hby hd) rfl hy hs, r⟩
theorem ow_i2l (X : oSt Z ω γ κ T h cs ss) (pc' : Nat) {x : Int32} (hd : decode κ.1 pc = .ok (.i2l, 1)) (hp : pc + 1 = pc') 
    (K : oWP ω γ κ Q T pc' L (.long x.toInt64 :: S)) : oWP ω γ κ Q T pc L (.int x :: S) := by
  obtain ⟨hx, hby, -, -, -, -, -, -, -, -, -, locs, Y, -⟩ := X
  subst hp
  obtain ⟨s₂, o, hs, r⟩ := K
  exact ⟨s₂, o, XS.i2l Y.here hx rfl (hb hby hd) rfl hs, r⟩
theorem ow_l2i (X : oSt Z ω γ κ T h cs ss) (pc' : Nat) {x : Int64} (hd : decode κ.1 pc = .ok (.l2i, 1)) (hp : pc + 1 = pc') 
    (K : oWP ω γ κ Q T pc' L (.int x.toInt32 :: S)) : oWP ω γ κ Q T pc L (.long x :: S) := by
  obtain ⟨hx, hby, -, -, -, -, -, -, -, -, -, locs, Y, -⟩ := X
  subst hp
  obtain ⟨s₂, o, hs, r⟩ := K
  exact ⟨s₂, o, XS.l2i Y.here hx rfl (hb hby hd) rfl hs, r⟩
theorem ow_i2b (X : oSt Z ω γ κ T h cs ss) (pc' : Nat) {x : Int32} (hd : decode κ.1 pc = .ok (.i2b, 1)) (hp : pc + 1 = pc') 
    (K : oWP ω γ κ Q T pc' L (.int x.toInt8.toInt32 :: S)) : oWP ω γ κ Q T pc L (.int x :: S) := by
  obtain ⟨hx, hby, -, -, -, -, -, -, -, -, -, locs, Y, -⟩ := X
  subst hp
  obtain ⟨s₂, o, hs, r⟩ := K
  exact ⟨s₂, o, XS.i2b Y.here hx rfl (hb hby hd) rfl hs, r⟩
theorem ow_i2c (X : oSt Z ω γ κ T h cs ss) (pc' : Nat) {x : Int32} (hd : decode κ.1 pc = .ok (.i2c, 1)) (hp : pc + 1 = pc') 
    (K : oWP ω γ κ Q T pc' L (.int x.toUInt32.toUInt16.toUInt32.toInt32 :: S)) : oWP ω γ κ Q T pc L (.int x :: S) := by
  obtain ⟨hx, hby, -, -, -, -, -, -, -, -, -, locs, Y, -⟩ := X
  subst hp
  obtain ⟨s₂, o, hs, r⟩ := K
  exact ⟨s₂, o, XS.i2c Y.here hx rfl (hb hby hd) rfl hs, r⟩
theorem ow_i2s (X : oSt Z ω γ κ T h cs ss) (pc' : Nat) {x : Int32} (hd : decode κ.1 pc = .ok (.i2s, 1)) (hp : pc + 1 = pc') 
    (K : oWP ω γ κ Q T pc' L (.int x.toInt16.toInt32 :: S)) : oWP ω γ κ Q T pc L (.int x :: S) := by
  obtain ⟨hx, hby, -, -, -, -, -, -, -, -, -, locs, Y, -⟩ := X
  subst hp
  obtain ⟨s₂, o, hs, r⟩ := K
  exact ⟨s₂, o, XS.i2s Y.here hx rfl (hb hby hd) rfl hs, r⟩
theorem ow_dup (X : oSt Z ω γ κ T h cs ss) (pc' : Nat) {x : Value} (hd : decode κ.1 pc = .ok (.dup, 1)) (hp : pc + 1 = pc') (hc : x.category = 1)
    (K : oWP ω γ κ Q T pc' L (x :: x :: S)) : oWP ω γ κ Q T pc L (x :: S) := by
  obtain ⟨hx, hby, -, -, -, -, -, -, -, -, -, locs, Y, -⟩ := X
  subst hp
  obtain ⟨s₂, o, hs, r⟩ := K
  exact ⟨s₂, o, XS.dup Y.here hx rfl (hb hby hd) rfl hc hs, r⟩
theorem ow_pop (X : oSt Z ω γ κ T h cs ss) (pc' : Nat) {x : Value} (hd : decode κ.1 pc = .ok (.pop, 1)) (hp : pc + 1 = pc') (hc : x.category = 1)
    (K : oWP ω γ κ Q T pc' L (S)) : oWP ω γ κ Q T pc L (x :: S) := by
  obtain ⟨hx, hby, -, -, -, -, -, -, -, -, -, locs, Y, -⟩ := X
  subst hp
  obtain ⟨s₂, o, hs, r⟩ := K
  exact ⟨s₂, o, XS.pop Y.here hx rfl (hb hby hd) rfl hc hs, r⟩
theorem ow_dupX1 (X : oSt Z ω γ κ T h cs ss) (pc' : Nat) {x y : Value} (hd : decode κ.1 pc = .ok (.dup_x1, 1)) (hp : pc + 1 = pc') (hc : x.category = 1) (hc' : y.category = 1)
    (K : oWP ω γ κ Q T pc' L (x :: y :: x :: S)) : oWP ω γ κ Q T pc L (x :: y :: S) := by
  obtain ⟨hx, hby, -, -, -, -, -, -, -, -, -, locs, Y, -⟩ := X
  subst hp
  obtain ⟨s₂, o, hs, r⟩ := K
  exact ⟨s₂, o, XS.dupX1 Y.here hx rfl (hb hby hd) rfl hc hc' hs, r⟩
theorem ow_dup2 (X : oSt Z ω γ κ T h cs ss) (pc' : Nat) {x y : Value} (hd : decode κ.1 pc = .ok (.dup2, 1)) (hp : pc + 1 = pc') (hc : x.category = 1) (hc' : y.category = 1)
    (K : oWP ω γ κ Q T pc' L (x :: y :: x :: y :: S)) : oWP ω γ κ Q T pc L (x :: y :: S) := by
  obtain ⟨hx, hby, -, -, -, -, -, -, -, -, -, locs, Y, -⟩ := X
  subst hp
  obtain ⟨s₂, o, hs, r⟩ := K
  exact ⟨s₂, o, XT.dup2 Y.here hx rfl (hb hby hd) rfl hc hc' hs, r⟩
theorem oXpop2L {tb : Tables} [Ours tb] {e : Env} {below : List Frame} {T target : State} {m : MethodId} {c : Code} {g : JFrame} (h : At T m c below) (hx : tb.exec = Jvm.exec) (hg : g.method = m) {x : Int64} {rest : List Value} (hd : decode c.code g.pc = .ok (.pop2, 1)) (hs : g.stack = .long x :: rest)
    (hr : Steps tb e below (T.setTop { g with pc := g.pc + 1, stack := rest }) target) : Steps tb e below (T.setTop g) target := by
  subst hg
  jvm_step h [h.top, hx, hd, hs, Value.category]
  exact hr
theorem ow_pop2L (X : oSt Z ω γ κ T h cs ss) (pc' : Nat) {x : Int64} (hd : decode κ.1 pc = .ok (.pop2, 1)) (hp : pc + 1 = pc') 
    (K : oWP ω γ κ Q T pc' L (S)) : oWP ω γ κ Q T pc L (.long x :: S) := by
  obtain ⟨hx, hby, -, -, -, -, -, -, -, -, -, locs, Y, -⟩ := X
  subst hp
  obtain ⟨s₂, o, hs, r⟩ := K
  exact ⟨s₂, o, oXpop2L Y.here hx rfl (hb hby hd) rfl hs, r⟩
theorem ow_ldcI (X : oSt Z ω γ κ T h cs ss) (pc' i : Nat) {own : String} {idx : Nat} {v : Int32} (hw : tables_1[i]? = some (.constant own idx v)) (ho : κ.2.2.1 = own) (hd : decode κ.1 pc = .ok (.ldc idx, 2)) (hp : pc + 2 = pc')
    (K : oWP ω γ κ Q T pc' L (.int v :: S)) : oWP ω γ κ Q T pc L S := by
  have hw' := oSt_at X i hw
  obtain ⟨hx, hby, -, hown, -, -, -, hZ, -, -, -, locs, Y, -⟩ := X
  subst hp ho
  obtain ⟨s₂, o, hs, r⟩ := K
  exact ⟨s₂, o, Stand.ldcI Y hx hown (mv hZ hw') rfl (hb hby hd) hs, r⟩
theorem ow_ldcWI (X : oSt Z ω γ κ T h cs ss) (pc' i : Nat) {own : String} {idx : Nat} {v : Int32} (hw : tables_1[i]? = some (.constant own idx v)) (ho : κ.2.2.1 = own) (hd : decode κ.1 pc = .ok (.ldc_w idx, 3)) (hp : pc + 3 = pc')
    (K : oWP ω γ κ Q T pc' L (.int v :: S)) : oWP ω γ κ Q T pc L S := by
  have hw' := oSt_at X i hw
  obtain ⟨hx, hby, -, hown, -, -, -, hZ, -, -, -, locs, Y, -⟩ := X
  subst hp ho
  obtain ⟨s₂, o, hs, r⟩ := K
  exact ⟨s₂, o, Stand.ldcWI Y hx hown (mv hZ hw') rfl (hb hby hd) hs, r⟩
theorem ow_ldc2J (X : oSt Z ω γ κ T h cs ss) (pc' i : Nat) {own : String} {idx : Nat} {v : Int64} (hw : tables_1[i]? = some (.constantLong own idx v)) (ho : κ.2.2.1 = own) (hd : decode κ.1 pc = .ok (.ldc2_w idx, 3)) (hp : pc + 3 = pc')
    (K : oWP ω γ κ Q T pc' L (.long v :: S)) : oWP ω γ κ Q T pc L S := by
  have hw' := oSt_at X i hw
  obtain ⟨hx, hby, -, hown, -, -, -, hZ, -, -, -, locs, Y, -⟩ := X
  subst hp ho
  obtain ⟨s₂, o, hs, r⟩ := K
  exact ⟨s₂, o, Stand.ldc2J Y hx hown (mv hZ hw') rfl (hb hby hd) hs, r⟩
theorem ow_goto (X : oSt Z ω γ κ T h cs ss) (pc' : Nat) {o : Int} (hd : decode κ.1 pc = .ok (.goto o, 3)) (hp : (pc : Int) + o = (pc' : Int))
    (K : oWP ω γ κ Q T pc' L S) : oWP ω γ κ Q T pc L S := by
  obtain ⟨hx, hby, -, -, -, -, -, -, -, -, -, locs, Y, -⟩ := X
  obtain ⟨s₂, o, hs, r⟩ := K
  exact ⟨s₂, o, XS.goto Y.here hx rfl (pc0 := pc) rfl (hb hby hd) (by omega) (by omega) hs, r⟩
theorem ow_if (X : oSt Z ω γ κ T h cs ss) (pc' pq : Nat) {cd : ClassFile.Cond} {x : Int32} {o : Int} (hd : decode κ.1 pc = .ok (.ifCond cd o, 3)) (hp : pc + 3 = pc') (hq : (pc : Int) + o = (pq : Int))
    (Ky : ifCond.holds cd x = true → oWP ω γ κ Q T pq L S) (Kn : ifCond.holds cd x = false → oWP ω γ κ Q T pc' L S) : oWP ω γ κ Q T pc L (.int x :: S) := by
  obtain ⟨hx, hby, -, -, -, -, -, -, -, -, -, locs, Y, -⟩ := X
  subst hp
  cases hc : ifCond.holds cd x
  · obtain ⟨s₂, o, hs, r⟩ := Kn hc
    exact ⟨s₂, o, XS.ifNo Y.here hx rfl (hb hby hd) rfl hc hs, r⟩
  · obtain ⟨s₂, o, hs, r⟩ := Ky hc
    exact ⟨s₂, o, XS.ifYes Y.here hx rfl (pc0 := pc) rfl (hb hby hd) rfl hc (by omega) (by omega) hs, r⟩
theorem ow_icmp (X : oSt Z ω γ κ T h cs ss) (pc' pq : Nat) {cd : ClassFile.Cond} {x y : Int32} {o : Int} (hd : decode κ.1 pc = .ok (.if_icmp cd o, 3)) (hp : pc + 3 = pc') (hq : (pc : Int) + o = (pq : Int))
    (Ky : if_icmp.holds cd x y = true → oWP ω γ κ Q T pq L S) (Kn : if_icmp.holds cd x y = false → oWP ω γ κ Q T pc' L S) : oWP ω γ κ Q T pc L (.int y :: .int x :: S) := by
  obtain ⟨hx, hby, -, -, -, -, -, -, -, -, -, locs, Y, -⟩ := X
  subst hp
  cases hc : if_icmp.holds cd x y
  · obtain ⟨s₂, o, hs, r⟩ := Kn hc
    exact ⟨s₂, o, XS.icmpNo Y.here hx rfl (hb hby hd) rfl hc hs, r⟩
  · obtain ⟨s₂, o, hs, r⟩ := Ky hc
    exact ⟨s₂, o, XS.icmpYes Y.here hx rfl (pc0 := pc) rfl (hb hby hd) rfl hc (by omega) (by omega) hs, r⟩
theorem o0 : (0 : Int32).toInt = 0 := rfl
theorem ow_if_eq (X : oSt Z ω γ κ T h cs ss) (pc' pq : Nat) {x : Int32} {o : Int} (hd : decode κ.1 pc = .ok (.ifCond .eq o, 3)) (hp : pc + 3 = pc') (hq : (pc : Int) + o = (pq : Int))
    (Ky : x.toInt = 0 → oWP ω γ κ Q T pq L S) (Kn : x.toInt ≠ 0 → oWP ω γ κ Q T pc' L S) : oWP ω γ κ Q T pc L (.int x :: S) :=
  ow_if X pc' pq hd hp hq (fun q => Ky (by simp only [ifCond.holds, decide_eq_true_eq, decide_eq_false_iff_not, beq_iff_eq, bne_iff_ne, ne_eq, Int32.lt_iff_toInt_lt, Int32.le_iff_toInt_le, ← Int32.toInt_inj, o0, GT.gt, GE.ge, beq_eq_false_iff_ne, bne_eq_false_iff_eq, Decidable.not_not] at q; omega)) (fun q => Kn (by simp only [ifCond.holds, decide_eq_true_eq, decide_eq_false_iff_not, beq_iff_eq, bne_iff_ne, ne_eq, Int32.lt_iff_toInt_lt, Int32.le_iff_toInt_le, ← Int32.toInt_inj, o0, GT.gt, GE.ge, beq_eq_false_iff_ne, bne_eq_false_iff_eq, Decidable.not_not] at q; omega))
theorem ow_icmp_eq (X : oSt Z ω γ κ T h cs ss) (pc' pq : Nat) {x y : Int32} {o : Int} (hd : decode κ.1 pc = .ok (.if_icmp .eq o, 3)) (hp : pc + 3 = pc') (hq : (pc : Int) + o = (pq : Int))
    (Ky : x.toInt = y.toInt → oWP ω γ κ Q T pq L S) (Kn : x.toInt ≠ y.toInt → oWP ω γ κ Q T pc' L S) : oWP ω γ κ Q T pc L (.int y :: .int x :: S) :=
  ow_icmp X pc' pq hd hp hq (fun q => Ky (by simp only [if_icmp.holds, decide_eq_true_eq, decide_eq_false_iff_not, beq_iff_eq, bne_iff_ne, ne_eq, Int32.lt_iff_toInt_lt, Int32.le_iff_toInt_le, ← Int32.toInt_inj, o0, GT.gt, GE.ge, beq_eq_false_iff_ne, bne_eq_false_iff_eq, Decidable.not_not] at q; omega)) (fun q => Kn (by simp only [if_icmp.holds, decide_eq_true_eq, decide_eq_false_iff_not, beq_iff_eq, bne_iff_ne, ne_eq, Int32.lt_iff_toInt_lt, Int32.le_iff_toInt_le, ← Int32.toInt_inj, o0, GT.gt, GE.ge, beq_eq_false_iff_ne, bne_eq_false_iff_eq, Decidable.not_not] at q; omega))
theorem ow_if_ne (X : oSt Z ω γ κ T h cs ss) (pc' pq : Nat) {x : Int32} {o : Int} (hd : decode κ.1 pc = .ok (.ifCond .ne o, 3)) (hp : pc + 3 = pc') (hq : (pc : Int) + o = (pq : Int))
    (Ky : x.toInt ≠ 0 → oWP ω γ κ Q T pq L S) (Kn : x.toInt = 0 → oWP ω γ κ Q T pc' L S) : oWP ω γ κ Q T pc L (.int x :: S) :=
  ow_if X pc' pq hd hp hq (fun q => Ky (by simp only [ifCond.holds, decide_eq_true_eq, decide_eq_false_iff_not, beq_iff_eq, bne_iff_ne, ne_eq, Int32.lt_iff_toInt_lt, Int32.le_iff_toInt_le, ← Int32.toInt_inj, o0, GT.gt, GE.ge, beq_eq_false_iff_ne, bne_eq_false_iff_eq, Decidable.not_not] at q; omega)) (fun q => Kn (by simp only [ifCond.holds, decide_eq_true_eq, decide_eq_false_iff_not, beq_iff_eq, bne_iff_ne, ne_eq, Int32.lt_iff_toInt_lt, Int32.le_iff_toInt_le, ← Int32.toInt_inj, o0, GT.gt, GE.ge, beq_eq_false_iff_ne, bne_eq_false_iff_eq, Decidable.not_not] at q; omega))
theorem ow_icmp_ne (X : oSt Z ω γ κ T h cs ss) (pc' pq : Nat) {x y : Int32} {o : Int} (hd : decode κ.1 pc = .ok (.if_icmp .ne o, 3)) (hp : pc + 3 = pc') (hq : (pc : Int) + o = (pq : Int))
    (Ky : x.toInt ≠ y.toInt → oWP ω γ κ Q T pq L S) (Kn : x.toInt = y.toInt → oWP ω γ κ Q T pc' L S) : oWP ω γ κ Q T pc L (.int y :: .int x :: S) :=
  ow_icmp X pc' pq hd hp hq (fun q => Ky (by simp only [if_icmp.holds, decide_eq_true_eq, decide_eq_false_iff_not, beq_iff_eq, bne_iff_ne, ne_eq, Int32.lt_iff_toInt_lt, Int32.le_iff_toInt_le, ← Int32.toInt_inj, o0, GT.gt, GE.ge, beq_eq_false_iff_ne, bne_eq_false_iff_eq, Decidable.not_not] at q; omega)) (fun q => Kn (by simp only [if_icmp.holds, decide_eq_true_eq, decide_eq_false_iff_not, beq_iff_eq, bne_iff_ne, ne_eq, Int32.lt_iff_toInt_lt, Int32.le_iff_toInt_le, ← Int32.toInt_inj, o0, GT.gt, GE.ge, beq_eq_false_iff_ne, bne_eq_false_iff_eq, Decidable.not_not] at q; omega))
theorem ow_if_lt (X : oSt Z ω γ κ T h cs ss) (pc' pq : Nat) {x : Int32} {o : Int} (hd : decode κ.1 pc = .ok (.ifCond .lt o, 3)) (hp : pc + 3 = pc') (hq : (pc : Int) + o = (pq : Int))
    (Ky : x.toInt < 0 → oWP ω γ κ Q T pq L S) (Kn : 0 ≤ x.toInt → oWP ω γ κ Q T pc' L S) : oWP ω γ κ Q T pc L (.int x :: S) :=
  ow_if X pc' pq hd hp hq (fun q => Ky (by simp only [ifCond.holds, decide_eq_true_eq, decide_eq_false_iff_not, beq_iff_eq, bne_iff_ne, ne_eq, Int32.lt_iff_toInt_lt, Int32.le_iff_toInt_le, ← Int32.toInt_inj, o0, GT.gt, GE.ge, beq_eq_false_iff_ne, bne_eq_false_iff_eq, Decidable.not_not] at q; omega)) (fun q => Kn (by simp only [ifCond.holds, decide_eq_true_eq, decide_eq_false_iff_not, beq_iff_eq, bne_iff_ne, ne_eq, Int32.lt_iff_toInt_lt, Int32.le_iff_toInt_le, ← Int32.toInt_inj, o0, GT.gt, GE.ge, beq_eq_false_iff_ne, bne_eq_false_iff_eq, Decidable.not_not] at q; omega))
theorem ow_icmp_lt (X : oSt Z ω γ κ T h cs ss) (pc' pq : Nat) {x y : Int32} {o : Int} (hd : decode κ.1 pc = .ok (.if_icmp .lt o, 3)) (hp : pc + 3 = pc') (hq : (pc : Int) + o = (pq : Int))
    (Ky : x.toInt < y.toInt → oWP ω γ κ Q T pq L S) (Kn : y.toInt ≤ x.toInt → oWP ω γ κ Q T pc' L S) : oWP ω γ κ Q T pc L (.int y :: .int x :: S) :=
  ow_icmp X pc' pq hd hp hq (fun q => Ky (by simp only [if_icmp.holds, decide_eq_true_eq, decide_eq_false_iff_not, beq_iff_eq, bne_iff_ne, ne_eq, Int32.lt_iff_toInt_lt, Int32.le_iff_toInt_le, ← Int32.toInt_inj, o0, GT.gt, GE.ge, beq_eq_false_iff_ne, bne_eq_false_iff_eq, Decidable.not_not] at q; omega)) (fun q => Kn (by simp only [if_icmp.holds, decide_eq_true_eq, decide_eq_false_iff_not, beq_iff_eq, bne_iff_ne, ne_eq, Int32.lt_iff_toInt_lt, Int32.le_iff_toInt_le, ← Int32.toInt_inj, o0, GT.gt, GE.ge, beq_eq_false_iff_ne, bne_eq_false_iff_eq, Decidable.not_not] at q; omega))
theorem ow_if_ge (X : oSt Z ω γ κ T h cs ss) (pc' pq : Nat) {x : Int32} {o : Int} (hd : decode κ.1 pc = .ok (.ifCond .ge o, 3)) (hp : pc + 3 = pc') (hq : (pc : Int) + o = (pq : Int))
    (Ky : 0 ≤ x.toInt → oWP ω γ κ Q T pq L S) (Kn : x.toInt < 0 → oWP ω γ κ Q T pc' L S) : oWP ω γ κ Q T pc L (.int x :: S) :=
  ow_if X pc' pq hd hp hq (fun q => Ky (by simp only [ifCond.holds, decide_eq_true_eq, decide_eq_false_iff_not, beq_iff_eq, bne_iff_ne, ne_eq, Int32.lt_iff_toInt_lt, Int32.le_iff_toInt_le, ← Int32.toInt_inj, o0, GT.gt, GE.ge, beq_eq_false_iff_ne, bne_eq_false_iff_eq, Decidable.not_not] at q; omega)) (fun q => Kn (by simp only [ifCond.holds, decide_eq_true_eq, decide_eq_false_iff_not, beq_iff_eq, bne_iff_ne, ne_eq, Int32.lt_iff_toInt_lt, Int32.le_iff_toInt_le, ← Int32.toInt_inj, o0, GT.gt, GE.ge, beq_eq_false_iff_ne, bne_eq_false_iff_eq, Decidable.not_not] at q; omega))
theorem ow_icmp_ge (X : oSt Z ω γ κ T h cs ss) (pc' pq : Nat) {x y : Int32} {o : Int} (hd : decode κ.1 pc = .ok (.if_icmp .ge o, 3)) (hp : pc + 3 = pc') (hq : (pc : Int) + o = (pq : Int))
    (Ky : y.toInt ≤ x.toInt → oWP ω γ κ Q T pq L S) (Kn : x.toInt < y.toInt → oWP ω γ κ Q T pc' L S) : oWP ω γ κ Q T pc L (.int y :: .int x :: S) :=
  ow_icmp X pc' pq hd hp hq (fun q => Ky (by simp only [if_icmp.holds, decide_eq_true_eq, decide_eq_false_iff_not, beq_iff_eq, bne_iff_ne, ne_eq, Int32.lt_iff_toInt_lt, Int32.le_iff_toInt_le, ← Int32.toInt_inj, o0, GT.gt, GE.ge, beq_eq_false_iff_ne, bne_eq_false_iff_eq, Decidable.not_not] at q; omega)) (fun q => Kn (by simp only [if_icmp.holds, decide_eq_true_eq, decide_eq_false_iff_not, beq_iff_eq, bne_iff_ne, ne_eq, Int32.lt_iff_toInt_lt, Int32.le_iff_toInt_le, ← Int32.toInt_inj, o0, GT.gt, GE.ge, beq_eq_false_iff_ne, bne_eq_false_iff_eq, Decidable.not_not] at q; omega))
theorem ow_if_gt (X : oSt Z ω γ κ T h cs ss) (pc' pq : Nat) {x : Int32} {o : Int} (hd : decode κ.1 pc = .ok (.ifCond .gt o, 3)) (hp : pc + 3 = pc') (hq : (pc : Int) + o = (pq : Int))
    (Ky : 0 < x.toInt → oWP ω γ κ Q T pq L S) (Kn : x.toInt ≤ 0 → oWP ω γ κ Q T pc' L S) : oWP ω γ κ Q T pc L (.int x :: S) :=
  ow_if X pc' pq hd hp hq (fun q => Ky (by simp only [ifCond.holds, decide_eq_true_eq, decide_eq_false_iff_not, beq_iff_eq, bne_iff_ne, ne_eq, Int32.lt_iff_toInt_lt, Int32.le_iff_toInt_le, ← Int32.toInt_inj, o0, GT.gt, GE.ge, beq_eq_false_iff_ne, bne_eq_false_iff_eq, Decidable.not_not] at q; omega)) (fun q => Kn (by simp only [ifCond.holds, decide_eq_true_eq, decide_eq_false_iff_not, beq_iff_eq, bne_iff_ne, ne_eq, Int32.lt_iff_toInt_lt, Int32.le_iff_toInt_le, ← Int32.toInt_inj, o0, GT.gt, GE.ge, beq_eq_false_iff_ne, bne_eq_false_iff_eq, Decidable.not_not] at q; omega))
theorem ow_icmp_gt (X : oSt Z ω γ κ T h cs ss) (pc' pq : Nat) {x y : Int32} {o : Int} (hd : decode κ.1 pc = .ok (.if_icmp .gt o, 3)) (hp : pc + 3 = pc') (hq : (pc : Int) + o = (pq : Int))
    (Ky : y.toInt < x.toInt → oWP ω γ κ Q T pq L S) (Kn : x.toInt ≤ y.toInt → oWP ω γ κ Q T pc' L S) : oWP ω γ κ Q T pc L (.int y :: .int x :: S) :=
  ow_icmp X pc' pq hd hp hq (fun q => Ky (by simp only [if_icmp.holds, decide_eq_true_eq, decide_eq_false_iff_not, beq_iff_eq, bne_iff_ne, ne_eq, Int32.lt_iff_toInt_lt, Int32.le_iff_toInt_le, ← Int32.toInt_inj, o0, GT.gt, GE.ge, beq_eq_false_iff_ne, bne_eq_false_iff_eq, Decidable.not_not] at q; omega)) (fun q => Kn (by simp only [if_icmp.holds, decide_eq_true_eq, decide_eq_false_iff_not, beq_iff_eq, bne_iff_ne, ne_eq, Int32.lt_iff_toInt_lt, Int32.le_iff_toInt_le, ← Int32.toInt_inj, o0, GT.gt, GE.ge, beq_eq_false_iff_ne, bne_eq_false_iff_eq, Decidable.not_not] at q; omega))
theorem ow_if_le (X : oSt Z ω γ κ T h cs ss) (pc' pq : Nat) {x : Int32} {o : Int} (hd : decode κ.1 pc = .ok (.ifCond .le o, 3)) (hp : pc + 3 = pc') (hq : (pc : Int) + o = (pq : Int))
    (Ky : x.toInt ≤ 0 → oWP ω γ κ Q T pq L S) (Kn : 0 < x.toInt → oWP ω γ κ Q T pc' L S) : oWP ω γ κ Q T pc L (.int x :: S) :=
  ow_if X pc' pq hd hp hq (fun q => Ky (by simp only [ifCond.holds, decide_eq_true_eq, decide_eq_false_iff_not, beq_iff_eq, bne_iff_ne, ne_eq, Int32.lt_iff_toInt_lt, Int32.le_iff_toInt_le, ← Int32.toInt_inj, o0, GT.gt, GE.ge, beq_eq_false_iff_ne, bne_eq_false_iff_eq, Decidable.not_not] at q; omega)) (fun q => Kn (by simp only [ifCond.holds, decide_eq_true_eq, decide_eq_false_iff_not, beq_iff_eq, bne_iff_ne, ne_eq, Int32.lt_iff_toInt_lt, Int32.le_iff_toInt_le, ← Int32.toInt_inj, o0, GT.gt, GE.ge, beq_eq_false_iff_ne, bne_eq_false_iff_eq, Decidable.not_not] at q; omega))
theorem ow_icmp_le (X : oSt Z ω γ κ T h cs ss) (pc' pq : Nat) {x y : Int32} {o : Int} (hd : decode κ.1 pc = .ok (.if_icmp .le o, 3)) (hp : pc + 3 = pc') (hq : (pc : Int) + o = (pq : Int))
    (Ky : x.toInt ≤ y.toInt → oWP ω γ κ Q T pq L S) (Kn : y.toInt < x.toInt → oWP ω γ κ Q T pc' L S) : oWP ω γ κ Q T pc L (.int y :: .int x :: S) :=
  ow_icmp X pc' pq hd hp hq (fun q => Ky (by simp only [if_icmp.holds, decide_eq_true_eq, decide_eq_false_iff_not, beq_iff_eq, bne_iff_ne, ne_eq, Int32.lt_iff_toInt_lt, Int32.le_iff_toInt_le, ← Int32.toInt_inj, o0, GT.gt, GE.ge, beq_eq_false_iff_ne, bne_eq_false_iff_eq, Decidable.not_not] at q; omega)) (fun q => Kn (by simp only [if_icmp.holds, decide_eq_true_eq, decide_eq_false_iff_not, beq_iff_eq, bne_iff_ne, ne_eq, Int32.lt_iff_toInt_lt, Int32.le_iff_toInt_le, ← Int32.toInt_inj, o0, GT.gt, GE.ge, beq_eq_false_iff_ne, bne_eq_false_iff_eq, Decidable.not_not] at q; omega))
theorem ow_lcmp (X : oSt Z ω γ κ T h cs ss) (pc' : Nat) {x y : Int64} (hd : decode κ.1 pc = .ok (.lcmp, 1)) (hp : pc + 1 = pc')
    (K : oWP ω γ κ Q T pc' L (.int (lcmpW x y) :: S)) : oWP ω γ κ Q T pc L (.long y :: .long x :: S) := by
  obtain ⟨hx, hby, -, -, -, -, -, -, -, -, -, locs, Y, -⟩ := X
  subst hp
  obtain ⟨s₂, o, hs, r⟩ := K
  exact ⟨s₂, o, XS.lcmp Y.here hx rfl (hb hby hd) rfl hs, r⟩
theorem ow_lcmp_eq (X : oSt Z ω γ κ T h cs ss) (pc1 pc' pq : Nat) {x y : Int64} {o : Int} (hd : decode κ.1 pc = .ok (.lcmp, 1)) (hp1 : pc + 1 = pc1) (hd' : decode κ.1 pc1 = .ok (.ifCond .eq o, 3)) (hp : pc1 + 3 = pc') (hq : (pc1 : Int) + o = (pq : Int))
    (Ky : x.toInt = y.toInt → oWP ω γ κ Q T pq L S) (Kn : x.toInt ≠ y.toInt → oWP ω γ κ Q T pc' L S) : oWP ω γ κ Q T pc L (.long y :: .long x :: S) := by
  refine ow_lcmp X pc1 hd hp1 (ow_if_eq X pc' pq hd' hp hq (fun q => Ky ?_) (fun q => Kn ?_))
  · obtain ⟨c1, c2, c3⟩ := c_lcmp x y
    rcases Int.lt_trichotomy x.toInt y.toInt with a | a | a
    · have := c1 a; omega
    · have := c2 a; omega
    · have := c3 a; omega
  · obtain ⟨c1, c2, c3⟩ := c_lcmp x y
    rcases Int.lt_trichotomy x.toInt y.toInt with a | a | a
    · have := c1 a; omega
    · have := c2 a; omega
    · have := c3 a; omega
theorem ow_lcmp_ne (X : oSt Z ω γ κ T h cs ss) (pc1 pc' pq : Nat) {x y : Int64} {o : Int} (hd : decode κ.1 pc = .ok (.lcmp, 1)) (hp1 : pc + 1 = pc1) (hd' : decode κ.1 pc1 = .ok (.ifCond .ne o, 3)) (hp : pc1 + 3 = pc') (hq : (pc1 : Int) + o = (pq : Int))
    (Ky : x.toInt ≠ y.toInt → oWP ω γ κ Q T pq L S) (Kn : x.toInt = y.toInt → oWP ω γ κ Q T pc' L S) : oWP ω γ κ Q T pc L (.long y :: .long x :: S) := by
  refine ow_lcmp X pc1 hd hp1 (ow_if_ne X pc' pq hd' hp hq (fun q => Ky ?_) (fun q => Kn ?_))
  · obtain ⟨c1, c2, c3⟩ := c_lcmp x y
    rcases Int.lt_trichotomy x.toInt y.toInt with a | a | a
    · have := c1 a; omega
    · have := c2 a; omega
    · have := c3 a; omega
  · obtain ⟨c1, c2, c3⟩ := c_lcmp x y
    rcases Int.lt_trichotomy x.toInt y.toInt with a | a | a
    · have := c1 a; omega
    · have := c2 a; omega
    · have := c3 a; omega
theorem ow_lcmp_lt (X : oSt Z ω γ κ T h cs ss) (pc1 pc' pq : Nat) {x y : Int64} {o : Int} (hd : decode κ.1 pc = .ok (.lcmp, 1)) (hp1 : pc + 1 = pc1) (hd' : decode κ.1 pc1 = .ok (.ifCond .lt o, 3)) (hp : pc1 + 3 = pc') (hq : (pc1 : Int) + o = (pq : Int))
    (Ky : x.toInt < y.toInt → oWP ω γ κ Q T pq L S) (Kn : y.toInt ≤ x.toInt → oWP ω γ κ Q T pc' L S) : oWP ω γ κ Q T pc L (.long y :: .long x :: S) := by
  refine ow_lcmp X pc1 hd hp1 (ow_if_lt X pc' pq hd' hp hq (fun q => Ky ?_) (fun q => Kn ?_))
  · obtain ⟨c1, c2, c3⟩ := c_lcmp x y
    rcases Int.lt_trichotomy x.toInt y.toInt with a | a | a
    · have := c1 a; omega
    · have := c2 a; omega
    · have := c3 a; omega
  · obtain ⟨c1, c2, c3⟩ := c_lcmp x y
    rcases Int.lt_trichotomy x.toInt y.toInt with a | a | a
    · have := c1 a; omega
    · have := c2 a; omega
    · have := c3 a; omega
theorem ow_lcmp_ge (X : oSt Z ω γ κ T h cs ss) (pc1 pc' pq : Nat) {x y : Int64} {o : Int} (hd : decode κ.1 pc = .ok (.lcmp, 1)) (hp1 : pc + 1 = pc1) (hd' : decode κ.1 pc1 = .ok (.ifCond .ge o, 3)) (hp : pc1 + 3 = pc') (hq : (pc1 : Int) + o = (pq : Int))
    (Ky : y.toInt ≤ x.toInt → oWP ω γ κ Q T pq L S) (Kn : x.toInt < y.toInt → oWP ω γ κ Q T pc' L S) : oWP ω γ κ Q T pc L (.long y :: .long x :: S) := by
  refine ow_lcmp X pc1 hd hp1 (ow_if_ge X pc' pq hd' hp hq (fun q => Ky ?_) (fun q => Kn ?_))
  · obtain ⟨c1, c2, c3⟩ := c_lcmp x y
    rcases Int.lt_trichotomy x.toInt y.toInt with a | a | a
    · have := c1 a; omega
    · have := c2 a; omega
    · have := c3 a; omega
  · obtain ⟨c1, c2, c3⟩ := c_lcmp x y
    rcases Int.lt_trichotomy x.toInt y.toInt with a | a | a
    · have := c1 a; omega
    · have := c2 a; omega
    · have := c3 a; omega
theorem ow_lcmp_gt (X : oSt Z ω γ κ T h cs ss) (pc1 pc' pq : Nat) {x y : Int64} {o : Int} (hd : decode κ.1 pc = .ok (.lcmp, 1)) (hp1 : pc + 1 = pc1) (hd' : decode κ.1 pc1 = .ok (.ifCond .gt o, 3)) (hp : pc1 + 3 = pc') (hq : (pc1 : Int) + o = (pq : Int))
    (Ky : y.toInt < x.toInt → oWP ω γ κ Q T pq L S) (Kn : x.toInt ≤ y.toInt → oWP ω γ κ Q T pc' L S) : oWP ω γ κ Q T pc L (.long y :: .long x :: S) := by
  refine ow_lcmp X pc1 hd hp1 (ow_if_gt X pc' pq hd' hp hq (fun q => Ky ?_) (fun q => Kn ?_))
  · obtain ⟨c1, c2, c3⟩ := c_lcmp x y
    rcases Int.lt_trichotomy x.toInt y.toInt with a | a | a
    · have := c1 a; omega
    · have := c2 a; omega
    · have := c3 a; omega
  · obtain ⟨c1, c2, c3⟩ := c_lcmp x y
    rcases Int.lt_trichotomy x.toInt y.toInt with a | a | a
    · have := c1 a; omega
    · have := c2 a; omega
    · have := c3 a; omega
theorem ow_lcmp_le (X : oSt Z ω γ κ T h cs ss) (pc1 pc' pq : Nat) {x y : Int64} {o : Int} (hd : decode κ.1 pc = .ok (.lcmp, 1)) (hp1 : pc + 1 = pc1) (hd' : decode κ.1 pc1 = .ok (.ifCond .le o, 3)) (hp : pc1 + 3 = pc') (hq : (pc1 : Int) + o = (pq : Int))
    (Ky : x.toInt ≤ y.toInt → oWP ω γ κ Q T pq L S) (Kn : y.toInt < x.toInt → oWP ω γ κ Q T pc' L S) : oWP ω γ κ Q T pc L (.long y :: .long x :: S) := by
  refine ow_lcmp X pc1 hd hp1 (ow_if_le X pc' pq hd' hp hq (fun q => Ky ?_) (fun q => Kn ?_))
  · obtain ⟨c1, c2, c3⟩ := c_lcmp x y
    rcases Int.lt_trichotomy x.toInt y.toInt with a | a | a
    · have := c1 a; omega
    · have := c2 a; omega
    · have := c3 a; omega
  · obtain ⟨c1, c2, c3⟩ := c_lcmp x y
    rcases Int.lt_trichotomy x.toInt y.toInt with a | a | a
    · have := c1 a; omega
    · have := c2 a; omega
    · have := c3 a; omega
theorem ow_ifnull (X : oSt Z ω γ κ T h cs ss) (pc' pq : Nat) {v : Value} {o : Int} (hv : v.isRef = true) (hd : decode κ.1 pc = .ok (.ifnull o, 3)) (hp : pc + 3 = pc') (hq : (pc : Int) + o = (pq : Int))
    (Ky : v = .null → oWP ω γ κ Q T pq L S) (Kn : v ≠ .null → oWP ω γ κ Q T pc' L S) : oWP ω γ κ Q T pc L (v :: S) := by
  obtain ⟨hx, hby, -, -, -, -, -, -, -, -, -, locs, Y, -⟩ := X
  subst hp
  rcases ref_cases hv with rfl | ⟨a, rfl⟩
  · obtain ⟨s₂, o, hs, r⟩ := Ky rfl
    exact ⟨s₂, o, XS.ifnullYes Y.here hx rfl (pc0 := pc) rfl (hb hby hd) rfl (by omega) (by omega) hs, r⟩
  · obtain ⟨s₂, o, hs, r⟩ := Kn (by simp)
    exact ⟨s₂, o, XS.ifnullNo Y.here hx rfl (hb hby hd) rfl hs, r⟩
theorem ow_ifnonnull (X : oSt Z ω γ κ T h cs ss) (pc' pq : Nat) {v : Value} {o : Int} (hv : v.isRef = true) (hd : decode κ.1 pc = .ok (.ifnonnull o, 3)) (hp : pc + 3 = pc') (hq : (pc : Int) + o = (pq : Int))
    (Ky : v ≠ .null → oWP ω γ κ Q T pq L S) (Kn : v = .null → oWP ω γ κ Q T pc' L S) : oWP ω γ κ Q T pc L (v :: S) := by
  obtain ⟨hx, hby, -, -, -, -, -, -, -, -, -, locs, Y, -⟩ := X
  subst hp
  rcases ref_cases hv with rfl | ⟨a, rfl⟩
  · obtain ⟨s₂, o, hs, r⟩ := Kn rfl
    exact ⟨s₂, o, XS.ifnonnullNo Y.here hx rfl (hb hby hd) rfl hs, r⟩
  · obtain ⟨s₂, o, hs, r⟩ := Ky (by simp)
    exact ⟨s₂, o, XS.ifnonnullYes Y.here hx rfl (pc0 := pc) rfl (hb hby hd) rfl (by omega) (by omega) hs, r⟩
theorem ow_acmp_eq (X : oSt Z ω γ κ T h cs ss) (pc' pq : Nat) {v w : Value} {o : Int} (hv : v.isRef = true) (hw : w.isRef = true) (hd : decode κ.1 pc = .ok (.if_acmp .eq o, 3)) (hp : pc + 3 = pc') (hq : (pc : Int) + o = (pq : Int))
    (Ky : v = w → oWP ω γ κ Q T pq L S) (Kn : v ≠ w → oWP ω γ κ Q T pc' L S) : oWP ω γ κ Q T pc L (w :: v :: S) := by
  obtain ⟨hx, hby, -, -, -, -, -, -, -, -, -, locs, Y, -⟩ := X
  subst hp
  by_cases e : v = w
  · obtain ⟨s₂, o, hs, r⟩ := Ky e
    exact ⟨s₂, o, RoadKit.acmp Y hx rfl hv hw (pc0 := pc) rfl (hb hby hd) rfl (same := true) (by simp [e]) (by omega) (by simp [acV]; omega) hs, r⟩
  · obtain ⟨s₂, o, hs, r⟩ := Kn e
    exact ⟨s₂, o, RoadKit.acmp Y hx rfl hv hw (pc0 := pc) rfl (hb hby hd) rfl (same := false) (by simp [e]) (by omega) (by simp [acV]) hs, r⟩
theorem ow_acmp_ne (X : oSt Z ω γ κ T h cs ss) (pc' pq : Nat) {v w : Value} {o : Int} (hv : v.isRef = true) (hw : w.isRef = true) (hd : decode κ.1 pc = .ok (.if_acmp .ne o, 3)) (hp : pc + 3 = pc') (hq : (pc : Int) + o = (pq : Int))
    (Ky : v ≠ w → oWP ω γ κ Q T pq L S) (Kn : v = w → oWP ω γ κ Q T pc' L S) : oWP ω γ κ Q T pc L (w :: v :: S) := by
  obtain ⟨hx, hby, -, -, -, -, -, -, -, -, -, locs, Y, -⟩ := X
  subst hp
  by_cases e : v = w
  · obtain ⟨s₂, o, hs, r⟩ := Kn e
    exact ⟨s₂, o, RoadKit.acmp Y hx rfl hv hw (pc0 := pc) rfl (hb hby hd) rfl (same := true) (by simp [e]) (by omega) (by simp [acV]) hs, r⟩
  · obtain ⟨s₂, o, hs, r⟩ := Ky e
    exact ⟨s₂, o, RoadKit.acmp Y hx rfl hv hw (pc0 := pc) rfl (hb hby hd) rfl (same := false) (by simp [e]) (by omega) (by simp [acV]; omega) hs, r⟩
theorem ow_ret (X : oSt Z ω γ κ T h cs ss) {w : Value} {t : FieldType} {i : Instr} (hret : κ.2.2.2.2.1 = some t) (hn : narrow t w = w)
    (hi : (i = .ireturn ∧ (t = .int ∨ t = .boolean ∨ t = .byte ∨ t = .char ∨ t = .short) ∧ ∃ z, w = .int z) ∨ (i = .lreturn ∧ t = .long ∧ ∃ z, w = .long z) ∨ (i = .dreturn ∧ t = .double ∧ ∃ z, w = .double z) ∨ (i = .freturn ∧ t = .float ∧ ∃ z, w = .float z) ∨ (i = .areturn ∧ t.isReference = true ∧ w.isRef = true))
    (hd : decode κ.1 pc = .ok (i, 1)) (hc : cs ≤ κ.2.2.2.2.2.cells) (hsl : ss ≤ κ.2.2.2.2.2.slots) (hQ : Q (some w) h) : oWP ω γ κ Q T pc L (w :: S) := by
  obtain ⟨hx, hby, -, -, -, hr, hlk, -, -, -, hT, locs, Y, N⟩ := X
  obtain ⟨fs, hl, hrun, hended, hW, hsame⟩ := Y.leave (v := some w) (fun q => by rw [hr, hret] at q; cases q) hlk
  refine ⟨_, _, retOut Y hx (hr.trans hret) hn hi (hb hby hd) hl, hrun, hended, _, locs, rfl, ⟨N, ?_⟩, ⟨_, rfl⟩, hW, hsame.mono hc hsl⟩
  show Q (some w) T.heap
  rw [hT]; exact hQ
theorem ow_retI (X : oSt Z ω γ κ T h cs ss) {z : Int32} (hret : κ.2.2.2.2.1 = some .int) (hd : decode κ.1 pc = .ok (.ireturn, 1)) (hc : cs ≤ κ.2.2.2.2.2.cells) (hsl : ss ≤ κ.2.2.2.2.2.slots) (hQ : Q (some (.int z)) h) : oWP ω γ κ Q T pc L (.int z :: S) :=
  ow_ret X hret rfl (Or.inl ⟨rfl, Or.inl rfl, z, rfl⟩) hd hc hsl hQ
theorem ow_retZ (X : oSt Z ω γ κ T h cs ss) {z : Int32} (hret : κ.2.2.2.2.1 = some .boolean) (hd : decode κ.1 pc = .ok (.ireturn, 1)) (hc : cs ≤ κ.2.2.2.2.2.cells) (hsl : ss ≤ κ.2.2.2.2.2.slots) (hz : z = 0 ∨ z = 1) (hQ : Q (some (.int z)) h) : oWP ω γ κ Q T pc L (.int z :: S) :=
  ow_ret X hret (by rcases hz with rfl | rfl <;> rfl) (Or.inl ⟨rfl, Or.inr (Or.inl rfl), z, rfl⟩) hd hc hsl hQ
theorem ow_retC (X : oSt Z ω γ κ T h cs ss) {z : Int32} (hret : κ.2.2.2.2.1 = some .char) (hd : decode κ.1 pc = .ok (.ireturn, 1)) (hc : cs ≤ κ.2.2.2.2.2.cells) (hsl : ss ≤ κ.2.2.2.2.2.slots) (hz : z.toUInt32.toUInt16.toUInt32.toInt32 = z) (hQ : Q (some (.int z)) h) : oWP ω γ κ Q T pc L (.int z :: S) :=
  ow_ret X hret (by show Value.int z.toUInt32.toUInt16.toUInt32.toInt32 = _; rw [hz]) (Or.inl ⟨rfl, Or.inr (Or.inr (Or.inr (Or.inl rfl))), z, rfl⟩) hd hc hsl hQ
theorem ow_retJ (X : oSt Z ω γ κ T h cs ss) {z : Int64} (hret : κ.2.2.2.2.1 = some .long) (hd : decode κ.1 pc = .ok (.lreturn, 1)) (hc : cs ≤ κ.2.2.2.2.2.cells) (hsl : ss ≤ κ.2.2.2.2.2.slots) (hQ : Q (some (.long z)) h) : oWP ω γ κ Q T pc L (.long z :: S) :=
  ow_ret X hret rfl (Or.inr (Or.inl ⟨rfl, rfl, z, rfl⟩)) hd hc hsl hQ
theorem ow_retA (X : oSt Z ω γ κ T h cs ss) {v : Value} {t : FieldType} (hret : κ.2.2.2.2.1 = some t) (ht : t.isReference = true) (hv : v.isRef = true) (hd : decode κ.1 pc = .ok (.areturn, 1)) (hc : cs ≤ κ.2.2.2.2.2.cells) (hsl : ss ≤ κ.2.2.2.2.2.slots) (hQ : Q (some v) h) : oWP ω γ κ Q T pc L (v :: S) :=
  ow_ret X hret (by cases t <;> first | rfl | cases ht) (Or.inr (Or.inr (Or.inr (Or.inr ⟨rfl, ht, hv⟩)))) hd hc hsl hQ
theorem ow_retV (X : oSt Z ω γ κ T h cs ss) (hret : κ.2.2.2.2.1 = none) (hd : decode κ.1 pc = .ok (.return_, 1)) (hc : cs ≤ κ.2.2.2.2.2.cells) (hsl : ss ≤ κ.2.2.2.2.2.slots) (hQ : Q none h) : oWP ω γ κ Q T pc L [] := by
  obtain ⟨hx, hby, -, -, -, hr, hlk, -, -, -, hT, locs, Y, N⟩ := X
  obtain ⟨fs, hl, hrun, hended, hW, hsame⟩ := Y.leave (v := none) (fun _ => rfl) hlk
  refine ⟨_, _, Y.returnOut hx (hr.trans hret) (hb hby hd) hl, hrun, hended, _, locs, rfl, ⟨N, ?_⟩, ⟨_, rfl⟩, hW, hsame.mono hc hsl⟩
  show Q none T.heap
  rw [hT]; exact hQ
theorem ow_getF (X : oSt Z ω γ κ T h cs ss) (pc' i : Nat) {own O n d : String} {idx : Nat} {a : Addr} {v : Value} (hw : tables_1[i]? = some (.fieldLink own idx O n d)) (ho : κ.2.2.1 = own) (F : Fld Z h a O n d v) (hd : decode κ.1 pc = .ok (.getfield idx, 3)) (hp : pc + 3 = pc')
    (K : ∀ T', oSt Z ω γ κ T' h cs ss → oWP ω γ κ Q T' pc' L (v :: S)) : oWP ω γ κ Q T pc L (.ref a :: S) := by
  have hw' := oSt_at X i hw
  obtain ⟨hx, hby, hml, hown, hnm, hr, hlk, hZ, hT1, hn0, hT, locs, Y, N⟩ := X
  subst hp ho
  obtain ⟨T', Y', e', st⟩ := getF Y hx hZ hown (host := "") (Or.inl hw') Via.refl hT F (g := mkF γ.2.2.2.1 pc L (.ref a :: S)) rfl rfl (hb hby hd)
  obtain ⟨s₂, o, hs, r⟩ := K T' ⟨hx, hby, hml, hown, hnm, hr, hlk, hZ, hT1, hn0, e', locs, Y', N⟩
  exact ⟨s₂, o, st _ hs, r⟩
theorem ow_getS (X : oSt Z ω γ κ T h cs ss) (pc' i : Nat) {own O n d : String} {idx : Nat} {v : Value} (hw : tables_1[i]? = some (.fieldLink own idx O n d)) (ho : κ.2.2.1 = own) (F : Sta Z h O n d v) (hd : decode κ.1 pc = .ok (.getstatic idx, 3)) (hp : pc + 3 = pc')
    (K : ∀ T', oSt Z ω γ κ T' h cs ss → oWP ω γ κ Q T' pc' L (v :: S)) : oWP ω γ κ Q T pc L S := by
  have hw' := oSt_at X i hw
  obtain ⟨hx, hby, hml, hown, hnm, hr, hlk, hZ, hT1, hn0, hT, locs, Y, N⟩ := X
  subst hp ho
  obtain ⟨T', Y', e', st⟩ := getS Y hx hZ hown hw' Via.refl hT F (g := mkF γ.2.2.2.1 pc L S) rfl (hb hby hd) (host := "")
  obtain ⟨s₂, o, hs, r⟩ := K T' ⟨hx, hby, hml, hown, hnm, hr, hlk, hZ, hT1, hn0, e', locs, Y', N⟩
  exact ⟨s₂, o, st _ hs, r⟩
theorem ow_putF (X : oSt Z ω γ κ T h cs ss) (pc' i k : Nat) {own O n d C : String} {idx kk : Nat} {a : Addr} {v old : Value} {ty : FieldType} (hw : tables_1[i]? = some (.fieldLink own idx O n d)) (ho : κ.2.2.1 = own) (F : Fld Z h a O n d old) (E : Exa Z h a C)
    (hl : (Jvm.Cond.lays C O n d).before ω.2.2 Z = true ∨ ((Jvm.Cond.laysFinal C O n d).before ω.2.2 Z = true ∧ κ.2.2.1 = O ∧ κ.2.2.2.1 = "<init>")) (hi : tables_1[k]? = some (.instantiable C kk)) (hty : parseFieldDescriptor d = some ty) (hn : narrow ty v = v) (hf : fits ty v = true) (ha : ω.2.1 ≤ a)
    (hd : decode κ.1 pc = .ok (.putfield idx, 3)) (hp : pc + 3 = pc')
    (K : ∀ T' h', oSt Z ω γ κ T' h' cs ss → Wr h h' a (RoadKit.slotOf Z O n d) v → oWP ω γ κ Q T' pc' L S) : oWP ω γ κ Q T pc L (v :: .ref a :: S) := by
  have hw' := oSt_at X i hw
  have hi' := oSt_at X k hi
  obtain ⟨hx, hby, hml, hown, hnm, hr, hlk, hZ, hT1, hn0, hT, locs, Y, N⟩ := X
  subst hp ho
  obtain ⟨T', h', Y', e', W, st⟩ := putF Y hx hZ hown (host := "") (Or.inl hw') Via.refl hT F E (hl.imp id fun q => ⟨q.1, q.2.1, hnm.trans q.2.2⟩) hi' hty hn hf (g := mkF γ.2.2.2.1 pc L (v :: .ref a :: S)) rfl rfl (hb hby hd)
  obtain ⟨s₂, o, hs, r⟩ := K T' h' ⟨hx, hby, hml, hown, hnm, hr, hlk, hZ, hT1, hn0, e', _, Y', Fr.snoc Y' N ha⟩ W
  exact ⟨s₂, o, st _ hs, r⟩
theorem ow_new (X : oSt Z ω γ κ T h cs ss) (pc' i1 i2 i3 : Nat) {own C : String} {idx n : Nat} (w1 : tables_1[i1]? = some (.classLink own idx C)) (ho : κ.2.2.1 = own) (w2 : tables_1[i2]? = some (.instantiable C n)) (w3 : tables_1[i3]? = some (.initialized C))
    (hd : decode κ.1 pc = .ok (.new idx, 3)) (hp : pc + 3 = pc') (hc : cs + 1 ≤ κ.2.2.2.2.2.cells) (hsl : ss + n ≤ κ.2.2.2.2.2.slots)
    (K : ∀ T' h' a, a = h.size → oSt Z ω γ κ T' h' (cs + 1) (ss + n) → Ext h h' → Exa Z h' a C → (∀ {O nm d : String} {ty : FieldType}, Laid Z ω.2.2 C O nm d → parseFieldDescriptor d = some ty → Fld Z h' a O nm d (defaultValue ty)) → ω.2.1 ≤ a → oWP ω γ κ Q T' pc' L (.ref a :: S)) : oWP ω γ κ Q T pc L S := by
  have w1' := oSt_at X i1 w1
  have w2' := oSt_at X i2 w2
  have w3' := oSt_at X i3 w3
  have hN := oSt_n0 X
  obtain ⟨hx, hby, hml, hown, hnm, hr, hlk, hZ, hT1, hn0, hT, locs, Y, N⟩ := X
  subst hp ho
  obtain ⟨T', h', Y', e', E, A, D, -, st⟩ := newO Y hx hZ hown w1' w2' w3' hT (g := mkF γ.2.2.2.1 pc L S) rfl (hb hby hd) hc hsl
  obtain ⟨s₂, o, hs, r⟩ := K T' h' h.size rfl ⟨hx, hby, hml, hown, hnm, hr, hlk, hZ, hT1, hn0, e', _, Y', N⟩ E A D hN
  exact ⟨s₂, o, st _ hs, r⟩
theorem ow_initO (X : oSt Z ω γ κ T h cs ss) (pc' i1 i2 i3 : Nat) {own : String} {idx : Nat} {a : Addr} (w1 : tables_1[i1]? = some (.methodLink own idx Lib.objectInit)) (ho : κ.2.2.1 = own) (w2 : tables_1[i2]? = some (.instanceMethod Lib.objectInit)) (w3 : tables_1[i3]? = some (.code Lib.objectInit ⟨#[0xb1]⟩ 1 none))
    (hd : decode κ.1 pc = .ok (.invokespecial idx, 3)) (hp : pc + 3 = pc') (hL : L.size = κ.2.1) (hf : 1 ≤ κ.2.2.2.2.2.frames) {W : Nat} (hW : (S.map fun v => v.category).sum ≤ W) (hl : W + 12 ≤ κ.2.2.2.2.2.locals)
    (K : ∀ T', oSt Z ω γ κ T' h cs ss → oWP ω γ κ Q T' pc' L S) : oWP ω γ κ Q T pc L (.ref a :: S) := by
  have w1' := oSt_at X i1 w1
  have w2' := oSt_at X i2 w2
  have w3' := oSt_at X i3 w3
  obtain ⟨hx, hby, hml, hown, hnm, hr, hlk, hZ, hT1, hn0, hT, locs, Y, N⟩ := X
  subst hp ho
  obtain ⟨T', Y', e', st⟩ := initO Y hx hZ hown w1' w2' w3' hT (g := mkF γ.2.2.2.1 pc L (.ref a :: S)) rfl (by rw [hml]; exact hL) rfl (hb hby hd) hf (W := W) (by show 2 * 0 + _ ≤ _; omega) hl
  obtain ⟨s₂, o, hs, r⟩ := K T' ⟨hx, hby, hml, hown, hnm, hr, hlk, hZ, hT1, hn0, e', _, Y', N⟩
  exact ⟨s₂, o, st _ hs, r⟩
theorem ow_callS (X : oSt Z ω γ κ T h cs ss) (pc' i1 i2 i3 i4 : Nat) {own : String} {idx : Nat} {y : MethodName} {κ' : OM} {Q' : Option Value → Heap → Prop} {as : List Value} {ps : List FieldType} {rt : Option FieldType} {W : Nat} {S0 : List Value}
    (w1 : tables_1[i1]? = some (.methodLink own idx y)) (ho : κ.2.2.1 = own) (w2 : tables_1[i2]? = some (.static y)) (w3 : tables_1[i3]? = some (.initialized y.cls)) (w4 : tables_1[i4]? = some (.code y κ'.1 κ'.2.1 κ'.2.2.2.2.1)) (hy : y.cls ≠ "java/lang/invoke/MethodHandle" ∧ y.cls ≠ "java/lang/invoke/VarHandle")
    (C : oC Z ω y κ' [] as.toArray h Q') (hf : κ'.2.2.2.2.2.frames + 1 ≤ κ.2.2.2.2.2.frames) (hl : W + (κ'.2.1 + 11) + κ'.2.2.2.2.2.locals ≤ κ.2.2.2.2.2.locals) (hW : (S.map fun v => v.category).sum ≤ W) (hc : cs + κ'.2.2.2.2.2.cells ≤ κ.2.2.2.2.2.cells) (hs : ss + κ'.2.2.2.2.2.slots ≤ κ.2.2.2.2.2.slots)
    (hpd : parseMethodDescriptor y.desc = some ⟨ps, rt⟩) (hlen : as.length = ps.length) (hS : S0 = as.reverse ++ S) (hL : L.size = κ.2.1) (hd : decode κ.1 pc = .ok (.invokestatic idx, 3)) (hp : pc + 3 = pc')
    (K : ∀ v T' h', oSt Z ω γ κ T' h' (cs + κ'.2.2.2.2.2.cells) (ss + κ'.2.2.2.2.2.slots) → Q' v h' → oWP ω γ κ Q T' pc' L (v.toList ++ S)) : oWP ω γ κ Q T pc L S0 := by
  have w1' := oSt_at X i1 w1
  have w2' := oSt_at X i2 w2
  have w3' := oSt_at X i3 w3
  have w4' := oSt_at X i4 w4
  obtain ⟨hx, hby, hml, hown, hnm, hr, hlk, hZ, hT1, hn0, hT, locs, Y, N⟩ := X
  subst hp ho hS
  obtain ⟨v, vm₁, ⟨T', L', k', n'⟩, -, Y', ⟨Lc, ⟨hF, hQ⟩, q1, q2, q3⟩, st⟩ := Jvm.LawKit.callS Y hx (y := y) hown (mvT hZ w1') (mvT hZ w2') (mvT hZ w3') (mvT hZ w4') hy (backOf (W := W) (Q := fun v hh Lc => Fr ω.2.1 Lc ∧ Q' v hh) (bytes := κ'.1) (maxL := κ'.2.1) (ret := κ'.2.2.2.2.1) (rm := κ'.2.2.2.2.2) C hZ w4' w3' hf hl) (g := mkF γ.2.2.2.1 pc L (as.reverse ++ S)) rfl (by rw [hml]; exact hL) (argsL := as) (rest := S) (lenOf hpd hlen) rfl (by show 2 * 0 + _ ≤ _; omega) (hb hby hd) (fun _ _ => ⟨rfl, hT, hc, hs⟩)
  dsimp only [Pt.U, Pt.locs, Pt.cells, Pt.slots] at Y' q1 q2 q3 st hQ
  subst q1 q2 q3
  obtain ⟨s₂, o, hs, r⟩ := K v T' T'.heap ⟨hx, hby, hml, hown, hnm, hr, hlk, hZ, hT1, hn0, rfl, _, Y', N.app hF⟩ hQ
  exact ⟨s₂, o, st _ hs, r⟩
theorem ow_callC (X : oSt Z ω γ κ T h cs ss) (pc' i1 i2 i3 i4 : Nat) {own : String} {idx : Nat} {y : MethodName} {κ' : OM} {Q' : Option Value → Heap → Prop} {a : Addr} {as : List Value} {ps : List FieldType} {rt : Option FieldType} {W : Nat} {S0 : List Value}
    (hy1 : y.name = "<init>") (w1 : tables_1[i1]? = some (.methodLink own idx y)) (ho : κ.2.2.1 = own) (w2 : tables_1[i2]? = some (.instanceMethod y)) (w3 : tables_1[i3]? = some (.initialized y.cls)) (w4 : tables_1[i4]? = some (.code y κ'.1 κ'.2.1 κ'.2.2.2.2.1)) (hr0 : κ'.2.2.2.2.1 = none) (hy : y.cls ≠ "java/lang/invoke/MethodHandle" ∧ y.cls ≠ "java/lang/invoke/VarHandle")
    (C : oC Z ω y κ' [] (.ref a :: as).toArray h Q') (hf : κ'.2.2.2.2.2.frames + 1 ≤ κ.2.2.2.2.2.frames) (hl : W + (κ'.2.1 + 11) + κ'.2.2.2.2.2.locals ≤ κ.2.2.2.2.2.locals) (hW : (S.map fun v => v.category).sum ≤ W) (hc : cs + κ'.2.2.2.2.2.cells ≤ κ.2.2.2.2.2.cells) (hs : ss + κ'.2.2.2.2.2.slots ≤ κ.2.2.2.2.2.slots)
    (hpd : parseMethodDescriptor y.desc = some ⟨ps, rt⟩) (hlen : as.length = ps.length) (hS : S0 = as.reverse ++ .ref a :: S) (hL : L.size = κ.2.1) (hd : decode κ.1 pc = .ok (.invokespecial idx, 3)) (hp : pc + 3 = pc')
    (K : ∀ v T' h', oSt Z ω γ κ T' h' (cs + κ'.2.2.2.2.2.cells) (ss + κ'.2.2.2.2.2.slots) → Q' v h' → oWP ω γ κ Q T' pc' L (v.toList ++ S)) : oWP ω γ κ Q T pc L S0 := by
  have w1' := oSt_at X i1 w1
  have w2' := oSt_at X i2 w2
  have w3' := oSt_at X i3 w3
  have w4' := oSt_at X i4 w4
  obtain ⟨hx, hby, hml, hown, hnm, hr, hlk, hZ, hT1, hn0, hT, locs, Y, N⟩ := X
  subst hp ho hS
  obtain ⟨v, vm₁, ⟨T', L', k', n'⟩, -, Y', ⟨Lc, ⟨hF, hQ⟩, q1, q2, q3⟩, st⟩ := Y.specialBack hx (y := y) hy1 hown (mvT hZ w1') (mvT hZ w2') (mvT hZ (hr0 ▸ w4')) hy (backOf (W := W) (Q := fun v hh Lc => Fr ω.2.1 Lc ∧ Q' v hh) (bytes := κ'.1) (maxL := κ'.2.1) (ret := κ'.2.2.2.2.1) (rm := κ'.2.2.2.2.2) C hZ w4' w3' hf hl) (g := mkF γ.2.2.2.1 pc L (as.reverse ++ .ref a :: S)) rfl (by rw [hml]; exact hL) (Steps.refl _) (a := a) (argsL := as) (rest := S) (lenOf hpd hlen) rfl (by show 2 * 0 + _ ≤ _; omega) (hb hby hd) (fun _ _ => ⟨rfl, hT, hc, hs⟩)
  dsimp only [Pt.U, Pt.locs, Pt.cells, Pt.slots] at Y' q1 q2 q3 st hQ
  subst q1 q2 q3
  obtain ⟨s₂, o, hs, r⟩ := K v T' T'.heap ⟨hx, hby, hml, hown, hnm, hr, hlk, hZ, hT1, hn0, rfl, _, Y', N.app hF⟩ hQ
  exact ⟨s₂, o, st.trans hs, r⟩
theorem ow_callV (X : oSt Z ω γ κ T h cs ss) (pc' i1 i2 i3 i4 i5 i6 : Nat) {own C0 : String} {idx : Nat} {y : MethodName} {κ' : OM} {Q' : Option Value → Heap → Prop} {a : Addr} {as : List Value} {ps : List FieldType} {rt : Option FieldType} {W : Nat} {S0 : List Value}
    (w1 : tables_1[i1]? = some (.methodLink own idx y)) (ho : κ.2.2.1 = own) (w2 : tables_1[i2]? = some (.declares y)) (w3 : tables_1[i3]? = some (.selects C0 y y)) (w4 : tables_1[i4]? = some (.instanceMethod y)) (w5 : tables_1[i5]? = some (.code y κ'.1 κ'.2.1 κ'.2.2.2.2.1)) (w6 : tables_1[i6]? = some (.initialized y.cls)) (hy : y.cls ≠ "java/lang/invoke/MethodHandle" ∧ y.cls ≠ "java/lang/invoke/VarHandle")
    (E : Exa Z h a C0) (C : oC Z ω y κ' [] (.ref a :: as).toArray h Q') (hf : κ'.2.2.2.2.2.frames + 1 ≤ κ.2.2.2.2.2.frames) (hl : W + (κ'.2.1 + 11) + κ'.2.2.2.2.2.locals ≤ κ.2.2.2.2.2.locals) (hW : (S.map fun v => v.category).sum ≤ W) (hc : cs + κ'.2.2.2.2.2.cells ≤ κ.2.2.2.2.2.cells) (hs : ss + κ'.2.2.2.2.2.slots ≤ κ.2.2.2.2.2.slots)
    (hpd : parseMethodDescriptor y.desc = some ⟨ps, rt⟩) (hlen : as.length = ps.length) (hS : S0 = as.reverse ++ .ref a :: S) (hL : L.size = κ.2.1) (hd : decode κ.1 pc = .ok (.invokevirtual idx, 3)) (hp : pc + 3 = pc')
    (K : ∀ v T' h', oSt Z ω γ κ T' h' (cs + κ'.2.2.2.2.2.cells) (ss + κ'.2.2.2.2.2.slots) → Q' v h' → oWP ω γ κ Q T' pc' L (v.toList ++ S)) : oWP ω γ κ Q T pc L S0 := by
  have w1' := oSt_at X i1 w1
  have w2' := oSt_at X i2 w2
  have w3' := oSt_at X i3 w3
  have w4' := oSt_at X i4 w4
  have w5' := oSt_at X i5 w5
  have w6' := oSt_at X i6 w6
  obtain ⟨hx, hby, hml, hown, hnm, hr, hlk, hZ, hT1, hn0, hT, locs, Y, N⟩ := X
  subst hp ho hS
  obtain ⟨cq, kq, qa, qb, qc⟩ := isOf hZ hT E
  obtain ⟨v, vm₁, ⟨T', L', k', n'⟩, -, Y', ⟨Lc, ⟨hF, hQ⟩, q1, q2, q3⟩, st⟩ := Y.virtualBack hx (y := y) (z := y) hown (mvT hZ w1') (mvT hZ w2') (notFace_of_selects (args := #[]) (mvT hZ w3')) (mvT hZ w3') (mvT hZ w4') hy (backOf (W := W) (Q := fun v hh Lc => Fr ω.2.1 Lc ∧ Q' v hh) (bytes := κ'.1) (maxL := κ'.2.1) (ret := κ'.2.2.2.2.1) (rm := κ'.2.2.2.2.2) C hZ w5' w6' hf hl) qa qc (g := mkF γ.2.2.2.1 pc L (as.reverse ++ .ref a :: S)) rfl (by rw [hml]; exact hL) (Steps.refl _) (argsL := as) (rest := S) (lenOf hpd hlen) rfl (by show 2 * 0 + _ ≤ _; omega) (hb hby hd) (fun _ _ => ⟨rfl, hT, hc, hs⟩)
  dsimp only [Pt.U, Pt.locs, Pt.cells, Pt.slots] at Y' q1 q2 q3 st hQ
  subst q1 q2 q3
  obtain ⟨s₂, o, hs, r⟩ := K v T' T'.heap ⟨hx, hby, hml, hown, hnm, hr, hlk, hZ, hT1, hn0, rfl, _, Y', N.app hF⟩ hQ
  exact ⟨s₂, o, st.trans hs, r⟩
theorem ow_callP (X : oSt Z ω γ κ T h cs ss) (pc' i1 i2 i3 i4 i5 i6 : Nat) {own C0 : String} {idx nn : Nat} {y : MethodName} {κ' : OM} {Q' : Option Value → Heap → Prop} {a : Addr} {as : List Value} {ps : List FieldType} {rt : Option FieldType} {W : Nat} {S0 : List Value}
    (w1 : tables_1[i1]? = some (.methodLink own idx y)) (ho : κ.2.2.1 = own) (w2 : tables_1[i2]? = some (.instanceMethod y)) (w3 : tables_1[i3]? = some (.privateMethod y)) (w4 : tables_1[i4]? = some (.initialized y.cls)) (w5 : tables_1[i5]? = some (.code y κ'.1 κ'.2.1 κ'.2.2.2.2.1)) (w6 : tables_1[i6]? = some (.instantiable y.cls nn)) (hy : y.cls ≠ "java/lang/invoke/MethodHandle" ∧ y.cls ≠ "java/lang/invoke/VarHandle")
    (E : Exa Z h a C0) (C : oC Z ω y κ' [] (.ref a :: as).toArray h Q') (hf : κ'.2.2.2.2.2.frames + 1 ≤ κ.2.2.2.2.2.frames) (hl : W + (κ'.2.1 + 11) + κ'.2.2.2.2.2.locals ≤ κ.2.2.2.2.2.locals) (hW : (S.map fun v => v.category).sum ≤ W) (hc : cs + κ'.2.2.2.2.2.cells ≤ κ.2.2.2.2.2.cells) (hs : ss + κ'.2.2.2.2.2.slots ≤ κ.2.2.2.2.2.slots)
    (hpd : parseMethodDescriptor y.desc = some ⟨ps, rt⟩) (hlen : as.length = ps.length) (hS : S0 = as.reverse ++ .ref a :: S) (hL : L.size = κ.2.1) (hd : decode κ.1 pc = .ok (.invokevirtual idx, 3)) (hp : pc + 3 = pc')
    (K : ∀ v T' h', oSt Z ω γ κ T' h' (cs + κ'.2.2.2.2.2.cells) (ss + κ'.2.2.2.2.2.slots) → Q' v h' → oWP ω γ κ Q T' pc' L (v.toList ++ S)) : oWP ω γ κ Q T pc L S0 := by
  have w1' := oSt_at X i1 w1
  have w2' := oSt_at X i2 w2
  have w3' := oSt_at X i3 w3
  have w4' := oSt_at X i4 w4
  have w5' := oSt_at X i5 w5
  have w6' := oSt_at X i6 w6
  obtain ⟨hx, hby, hml, hown, hnm, hr, hlk, hZ, hT1, hn0, hT, locs, Y, N⟩ := X
  subst hp ho hS
  obtain ⟨cq, q1, q2⟩ := E.cell
  obtain ⟨ck, kk, i1, i2, -, i4, -⟩ := Cond.instantiable_spec (mvT (args := #[]) hZ w6')
  have hni : kk.isInterface = false := (Bool.or_eq_false_iff.mp i4).1
  have hpr := Cond.privateMethod_at (mvP (args := #[]) hZ w3')
  obtain ⟨v, vm₁, ⟨T', L', k', n'⟩, -, Y', ⟨Lc, ⟨hF, hQ⟩, q1, q2, q3⟩, st⟩ := Y.privateBack hx (y := y) hown (mvT hZ w1') (mvT hZ w2') (selects_self_of_private i1 i2 hni hpr (mvT hZ w2') hy) hpr (mvT hZ w5') hy (backOf (W := W) (Q := fun v hh Lc => Fr ω.2.1 Lc ∧ Q' v hh) (bytes := κ'.1) (maxL := κ'.2.1) (ret := κ'.2.2.2.2.1) (rm := κ'.2.2.2.2.2) C hZ w5' w4' hf hl) (g := mkF γ.2.2.2.1 pc L (as.reverse ++ .ref a :: S)) rfl (by rw [hml]; exact hL) (Steps.refl _) (a := a) (by rw [hT]; exact q1) q2 (argsL := as) (rest := S) (lenOf hpd hlen) rfl (by show 2 * 0 + _ ≤ _; omega) (hb hby hd) (fun _ _ => ⟨rfl, hT, hc, hs⟩)
  dsimp only [Pt.U, Pt.locs, Pt.cells, Pt.slots] at Y' q1 q2 q3 st hQ
  subst q1 q2 q3
  obtain ⟨s₂, o, hs, r⟩ := K v T' T'.heap ⟨hx, hby, hml, hown, hnm, hr, hlk, hZ, hT1, hn0, rfl, _, Y', N.app hF⟩ hQ
  exact ⟨s₂, o, st.trans hs, r⟩
end Walk
/-- an array: its component type, its length, what it holds -/
def oA (Z : State) (h : Heap) (a : Addr) (ty : FieldType) (n : Nat) (f : Nat → Value) : Prop := ∃ c : Cell, Arr Z h a c ty ∧ c.slots.size = n ∧ n < 2147483648 ∧ ∀ i, i < n → c.slots[i]? = some (f i)
section Arrays
variable {Z : State} {h h' : Heap} {a b : Addr} {ty : FieldType} {n sl : Nat} {f g : Nat → Value} {v : Value} {ws : List Addr}
theorem oA.lt (A : oA Z h a ty n f) : a < h.size := by obtain ⟨c, A, -⟩ := A; exact A.lt
theorem oA.small (A : oA Z h a ty n f) : n < 2147483648 := by obtain ⟨c, -, -, q, -⟩ := A; exact q
theorem oA.ext (A : oA Z h a ty n f) (E : Ext h h') : oA Z h' a ty n f := by obtain ⟨c, A, r⟩ := A; exact ⟨c, A.ext E, r⟩
theorem oA.other (A : oA Z h b ty n f) (W : Wr h h' a sl v) (q : b ≠ a) : oA Z h' b ty n f := by obtain ⟨c, A, r⟩ := A; exact ⟨c, A.other W q, r⟩
theorem oA.keep (A : oA Z h a ty n f) (K : Keep h h' ws) (q : a ∉ ws) : oA Z h' a ty n f := by obtain ⟨c, A, r⟩ := A; exact ⟨c, ⟨K.2.1 a c A.1 q, A.2⟩, r⟩
theorem oA.congr (A : oA Z h a ty n f) (q : ∀ i, i < n → f i = g i) : oA Z h a ty n g := by obtain ⟨c, A, r1, r2, r3⟩ := A; exact ⟨c, A, r1, r2, fun i hi => by rw [← q i hi]; exact r3 i hi⟩
theorem oA.set (A : oA Z h a ty n f) (W : Wr h h' a sl v) : oA Z h' a ty n (fun i => if i = sl then v else f i) := by
  obtain ⟨c, A, r1, r2, r3⟩ := A
  have hlt : sl < n := by
    obtain ⟨c', h1, -, h3, -⟩ := W
    cases A.1.symm.trans h1
    omega
  refine ⟨c.setSlot sl v, A.same W, (sz_set _ _ _).trans r1, r2, fun i hi => ?_⟩
  by_cases e : i = sl
  · subst e; simp [Cell.setSlot, r1, hlt]
  · simp only [e, if_false]
    rw [← r3 i hi]
    exact Array.getElem?_setIfInBounds_ne (Ne.symm e)
/-- one place changed -/
def oUpd {α : Type} (g : Nat → α) (k : Nat) (v : α) : Nat → α := fun i => if i = k then v else g i
theorem oUpd_hit {α : Type} (g : Nat → α) (k : Nat) (v : α) : oUpd g k v k = v := if_pos rfl
theorem oUpd_miss {α : Type} (g : Nat → α) {k i : Nat} (v : α) (q : i ≠ k) : oUpd g k v i = g i := if_neg q
def oZI : Nat → Int32 := fun _ => 0
def oZJ : Nat → Int64 := fun _ => 0
theorem oA.setI {g : Nat → Int32} {x : Int32} (A : oA Z h a ty n (fun i => .int (g i))) (W : Wr h h' a sl (.int x)) : oA Z h' a ty n (fun i => .int (oUpd g sl x i)) :=
  (A.set W).congr fun i _ => by unfold oUpd; split <;> rfl
theorem oA.setJ {g : Nat → Int64} {x : Int64} (A : oA Z h a ty n (fun i => .long (g i))) (W : Wr h h' a sl (.long x)) : oA Z h' a ty n (fun i => .long (oUpd g sl x i)) :=
  (A.set W).congr fun i _ => by unfold oUpd; split <;> rfl
theorem oNd {l : List Addr} (h : l.Nodup) (i j : Nat) (hij : i ≠ j) {a b : Addr} (ha : l[i]? = some a) (hb : l[j]? = some b) : a ≠ b := by
  intro e; subst e
  obtain ⟨h1, h2⟩ := List.getElem?_eq_some_iff.mp ha
  obtain ⟨h3, h4⟩ := List.getElem?_eq_some_iff.mp hb
  have q := List.pairwise_iff_getElem.mp h
  rcases Nat.lt_or_gt_of_ne hij with r | r
  · exact q i j h1 h3 r (h2.trans h4.symm)
  · exact q j i h3 h1 r (h4.trans h2.symm)
theorem oA.new {cA : ClassId} {k : Int32} (A : Arr Z h a (newA cA ty k) ty) (q : 0 ≤ k.toInt) : oA Z h a ty k.toInt.toNat (fun _ => defaultValue ty) := by
  have e : k.toNatClampNeg = k.toInt.toNat := rfl
  have := k.toInt_lt
  refine ⟨_, A, (sz_new _ _ _).trans e, by omega, fun i hi => ?_⟩
  have : i < k.toNatClampNeg := by rw [e]; exact hi
  simp [newA, this]
theorem oInb {j : Int32} {c : Cell} (r1 : c.slots.size = n) (q : 0 ≤ j.toInt) (q' : j.toInt < n) : ¬ (j < 0 ∨ c.slots.size ≤ j.toNatClampNeg) := by
  have e : j.toNatClampNeg = j.toInt.toNat := rfl
  rw [Int32.lt_iff_toInt_lt, r1, e, o0]; omega
end Arrays
section Walk2
variable {Z : State} {ω : OW} {γ : OG} {κ : OM} {Q : Option Value → Heap → Prop} {T : State} {h : Heap} {cs ss : Nat} {pc : Nat} {L : Array Slot} {S : List Value}
theorem ow_alen (X : oSt Z ω γ κ T h cs ss) (pc' : Nat) {a : Addr} {ty : FieldType} {n : Nat} {f : Nat → Value} {v : Int32} (A : oA Z h a ty n f) (hd : decode κ.1 pc = .ok (.arraylength, 1)) (hp : pc + 1 = pc') (hv : v.toInt = n)
    (K : oWP ω γ κ Q T pc' L (.int v :: S)) : oWP ω γ κ Q T pc L (.ref a :: S) := by
  obtain ⟨hx, hby, -, -, -, -, -, hZ, -, -, hT, locs, Y, -⟩ := X
  obtain ⟨c, A, r1, r2, -⟩ := A
  subst hp
  obtain ⟨s₂, o, hs, r⟩ := K
  have e : c.slots.size.toInt32 = v := Int32.toInt_inj.mp (by rw [hv, len_toInt (by omega), r1])
  exact ⟨s₂, o, Y.arraylength hx (by rw [hT]; exact A.1) (State.isArrayOf_alike hZ.alike A.2.1) (g := mkF γ.2.2.2.1 pc L (.ref a :: S)) rfl rfl (hb hby hd) _ (by rw [e]; exact hs), r⟩
theorem ow_iaload (X : oSt Z ω γ κ T h cs ss) (pc' : Nat) {a : Addr} {n : Nat} {f : Nat → Value} {j : Int32} {v : Value} (A : oA Z h a .int n f) (hd : decode κ.1 pc = .ok (.iaload, 1)) (hp : pc + 1 = pc') (h0 : 0 ≤ j.toInt) (h1 : j.toInt < n) (hv : f j.toInt.toNat = v)
    (K : oWP ω γ κ Q T pc' L (v :: S)) : oWP ω γ κ Q T pc L (.int j :: .ref a :: S) := by
  obtain ⟨hx, hby, -, -, -, -, -, hZ, -, -, hT, locs, Y, -⟩ := X
  obtain ⟨c, A, r1, r2, r3⟩ := A
  subst hp hv
  obtain ⟨s₂, o, hs, r⟩ := K
  exact ⟨s₂, o, Y.iaload hx (by rw [hT]; exact A.1) (State.isArrayOf_alike hZ.alike A.2.1) A.2.2 (oInb r1 h0 h1) (r3 _ (by show j.toInt.toNat < _; omega)) (g := mkF γ.2.2.2.1 pc L (.int j :: .ref a :: S)) rfl rfl (hb hby hd) _ hs, r⟩
theorem ow_laload (X : oSt Z ω γ κ T h cs ss) (pc' : Nat) {a : Addr} {n : Nat} {f : Nat → Value} {j : Int32} {v : Value} (A : oA Z h a .long n f) (hd : decode κ.1 pc = .ok (.laload, 1)) (hp : pc + 1 = pc') (h0 : 0 ≤ j.toInt) (h1 : j.toInt < n) (hv : f j.toInt.toNat = v)
    (K : oWP ω γ κ Q T pc' L (v :: S)) : oWP ω γ κ Q T pc L (.int j :: .ref a :: S) := by
  obtain ⟨hx, hby, -, -, -, -, -, hZ, -, -, hT, locs, Y, -⟩ := X
  obtain ⟨c, A, r1, r2, r3⟩ := A
  subst hp hv
  obtain ⟨s₂, o, hs, r⟩ := K
  exact ⟨s₂, o, Y.laload hx (by rw [hT]; exact A.1) (State.isArrayOf_alike hZ.alike A.2.1) A.2.2 (oInb r1 h0 h1) (r3 _ (by show j.toInt.toNat < _; omega)) (g := mkF γ.2.2.2.1 pc L (.int j :: .ref a :: S)) rfl rfl (hb hby hd) _ hs, r⟩
theorem ow_caload (X : oSt Z ω γ κ T h cs ss) (pc' : Nat) {a : Addr} {n : Nat} {f : Nat → Value} {j : Int32} {v : Value} (A : oA Z h a .char n f) (hd : decode κ.1 pc = .ok (.caload, 1)) (hp : pc + 1 = pc') (h0 : 0 ≤ j.toInt) (h1 : j.toInt < n) (hv : f j.toInt.toNat = v)
    (K : oWP ω γ κ Q T pc' L (v :: S)) : oWP ω γ κ Q T pc L (.int j :: .ref a :: S) := by
  obtain ⟨hx, hby, -, -, -, -, -, hZ, -, -, hT, locs, Y, -⟩ := X
  obtain ⟨c, A, r1, r2, r3⟩ := A
  subst hp hv
  obtain ⟨s₂, o, hs, r⟩ := K
  exact ⟨s₂, o, Y.caload hx (by rw [hT]; exact A.1) (State.isArrayOf_alike hZ.alike A.2.1) A.2.2 (oInb r1 h0 h1) (r3 _ (by show j.toInt.toNat < _; omega)) (g := mkF γ.2.2.2.1 pc L (.int j :: .ref a :: S)) rfl rfl (hb hby hd) _ hs, r⟩
theorem ow_baload (X : oSt Z ω γ κ T h cs ss) (pc' : Nat) {a : Addr} {n : Nat} {f : Nat → Value} {j : Int32} {v : Value} (A : oA Z h a .byte n f) (hd : decode κ.1 pc = .ok (.baload, 1)) (hp : pc + 1 = pc') (h0 : 0 ≤ j.toInt) (h1 : j.toInt < n) (hv : f j.toInt.toNat = v)
    (K : oWP ω γ κ Q T pc' L (v :: S)) : oWP ω γ κ Q T pc L (.int j :: .ref a :: S) := by
  obtain ⟨hx, hby, -, -, -, -, -, hZ, -, -, hT, locs, Y, -⟩ := X
  obtain ⟨c, A, r1, r2, r3⟩ := A
  subst hp hv
  obtain ⟨s₂, o, hs, r⟩ := K
  exact ⟨s₂, o, Y.baloadBytes hx (by rw [hT]; exact A.1) (State.isArrayOf_alike hZ.alike A.2.1) A.2.2 (oInb r1 h0 h1) (r3 _ (by show j.toInt.toNat < _; omega)) (g := mkF γ.2.2.2.1 pc L (.int j :: .ref a :: S)) rfl rfl (hb hby hd) _ hs, r⟩
theorem ow_baloadZ (X : oSt Z ω γ κ T h cs ss) (pc' : Nat) {a : Addr} {n : Nat} {f : Nat → Value} {j : Int32} {v : Value} (A : oA Z h a .boolean n f) (hd : decode κ.1 pc = .ok (.baload, 1)) (hp : pc + 1 = pc') (h0 : 0 ≤ j.toInt) (h1 : j.toInt < n) (hv : f j.toInt.toNat = v)
    (K : oWP ω γ κ Q T pc' L (v :: S)) : oWP ω γ κ Q T pc L (.int j :: .ref a :: S) := by
  obtain ⟨hx, hby, -, -, -, -, -, hZ, -, -, hT, locs, Y, -⟩ := X
  obtain ⟨c, A, r1, r2, r3⟩ := A
  subst hp hv
  obtain ⟨s₂, o, hs, r⟩ := K
  exact ⟨s₂, o, Y.baloadBooleans hx (by rw [hT]; exact A.1) (State.isArrayOf_alike hZ.alike A.2.1) A.2.2 (oInb r1 h0 h1) (r3 _ (by show j.toInt.toNat < _; omega)) (g := mkF γ.2.2.2.1 pc L (.int j :: .ref a :: S)) rfl rfl (hb hby hd) _ hs, r⟩
theorem ow_aaload (X : oSt Z ω γ κ T h cs ss) (pc' : Nat) {a : Addr} {ty : FieldType} {n : Nat} {f : Nat → Value} {j : Int32} {v : Value} (A : oA Z h a ty n f) (ht : ty.isReference = true) (hd : decode κ.1 pc = .ok (.aaload, 1)) (hp : pc + 1 = pc') (h0 : 0 ≤ j.toInt) (h1 : j.toInt < n) (hv : f j.toInt.toNat = v)
    (K : oWP ω γ κ Q T pc' L (v :: S)) : oWP ω γ κ Q T pc L (.int j :: .ref a :: S) := by
  obtain ⟨hx, hby, -, -, -, -, -, hZ, -, -, hT, locs, Y, -⟩ := X
  obtain ⟨c, A, r1, r2, r3⟩ := A
  subst hp hv
  obtain ⟨s₂, o, hs, r⟩ := K
  exact ⟨s₂, o, Y.aaload hx (by rw [hT]; exact A.1) (State.isArrayOf_alike hZ.alike A.2.1) ht A.2.2 (oInb r1 h0 h1) (r3 _ (by show j.toInt.toNat < _; omega)) (g := mkF γ.2.2.2.1 pc L (.int j :: .ref a :: S)) rfl rfl (hb hby hd) _ hs, r⟩
theorem ow_iastore (X : oSt Z ω γ κ T h cs ss) (pc' : Nat) {a : Addr} {n : Nat} {f : Nat → Value} {j : Int32} {x : Int32} (A : oA Z h a .int n f) (ha : ω.2.1 ≤ a) (hd : decode κ.1 pc = .ok (.iastore, 1)) (hp : pc + 1 = pc') (h0 : 0 ≤ j.toInt) (h1 : j.toInt < n)
    (K : ∀ T' h', oSt Z ω γ κ T' h' cs ss → Wr h h' a j.toInt.toNat (.int x) → oWP ω γ κ Q T' pc' L S) : oWP ω γ κ Q T pc L (.int x :: .int j :: .ref a :: S) := by
  obtain ⟨hx, hby, hml, hown, hnm, hr, hlk, hZ, hT1, hn0, hT, locs, Y, N⟩ := X
  obtain ⟨c, A, r1, r2, r3⟩ := A
  subst hp
  obtain ⟨T', h', Y', e', W, st⟩ := stI Y hx hZ hT A (oInb r1 h0 h1) (g := mkF γ.2.2.2.1 pc L (.int x :: .int j :: .ref a :: S)) rfl rfl (hb hby hd)
  obtain ⟨s₂, o, hs, r⟩ := K T' h' ⟨hx, hby, hml, hown, hnm, hr, hlk, hZ, hT1, hn0, e', _, Y', Fr.snoc Y' N ha⟩ W
  exact ⟨s₂, o, st _ hs, r⟩
theorem ow_lastore (X : oSt Z ω γ κ T h cs ss) (pc' : Nat) {a : Addr} {n : Nat} {f : Nat → Value} {j : Int32} {x : Int64} (A : oA Z h a .long n f) (ha : ω.2.1 ≤ a) (hd : decode κ.1 pc = .ok (.lastore, 1)) (hp : pc + 1 = pc') (h0 : 0 ≤ j.toInt) (h1 : j.toInt < n)
    (K : ∀ T' h', oSt Z ω γ κ T' h' cs ss → Wr h h' a j.toInt.toNat (.long x) → oWP ω γ κ Q T' pc' L S) : oWP ω γ κ Q T pc L (.long x :: .int j :: .ref a :: S) := by
  obtain ⟨hx, hby, hml, hown, hnm, hr, hlk, hZ, hT1, hn0, hT, locs, Y, N⟩ := X
  obtain ⟨c, A, r1, r2, r3⟩ := A
  subst hp
  obtain ⟨T', h', Y', e', W, st⟩ := stJ Y hx hZ hT A (oInb r1 h0 h1) (g := mkF γ.2.2.2.1 pc L (.long x :: .int j :: .ref a :: S)) rfl rfl (hb hby hd)
  obtain ⟨s₂, o, hs, r⟩ := K T' h' ⟨hx, hby, hml, hown, hnm, hr, hlk, hZ, hT1, hn0, e', _, Y', Fr.snoc Y' N ha⟩ W
  exact ⟨s₂, o, st _ hs, r⟩
theorem ow_castore (X : oSt Z ω γ κ T h cs ss) (pc' : Nat) {a : Addr} {n : Nat} {f : Nat → Value} {j : Int32} {x : Int32} (A : oA Z h a .char n f) (ha : ω.2.1 ≤ a) (hd : decode κ.1 pc = .ok (.castore, 1)) (hp : pc + 1 = pc') (h0 : 0 ≤ j.toInt) (h1 : j.toInt < n)
    (K : ∀ T' h', oSt Z ω γ κ T' h' cs ss → Wr h h' a j.toInt.toNat (.int (nar .char x)) → oWP ω γ κ Q T' pc' L S) : oWP ω γ κ Q T pc L (.int x :: .int j :: .ref a :: S) := by
  obtain ⟨hx, hby, hml, hown, hnm, hr, hlk, hZ, hT1, hn0, hT, locs, Y, N⟩ := X
  obtain ⟨c, A, r1, r2, r3⟩ := A
  subst hp
  obtain ⟨T', h', Y', e', W, st⟩ := stC Y hx hZ hT A (oInb r1 h0 h1) (g := mkF γ.2.2.2.1 pc L (.int x :: .int j :: .ref a :: S)) rfl rfl (hb hby hd)
  obtain ⟨s₂, o, hs, r⟩ := K T' h' ⟨hx, hby, hml, hown, hnm, hr, hlk, hZ, hT1, hn0, e', _, Y', Fr.snoc Y' N ha⟩ W
  exact ⟨s₂, o, st _ hs, r⟩
theorem ow_bastore (X : oSt Z ω γ κ T h cs ss) (pc' : Nat) {a : Addr} {n : Nat} {f : Nat → Value} {j : Int32} {x : Int32} (A : oA Z h a .byte n f) (ha : ω.2.1 ≤ a) (hd : decode κ.1 pc = .ok (.bastore, 1)) (hp : pc + 1 = pc') (h0 : 0 ≤ j.toInt) (h1 : j.toInt < n)
    (K : ∀ T' h', oSt Z ω γ κ T' h' cs ss → Wr h h' a j.toInt.toNat (.int x.toInt8.toInt32) → oWP ω γ κ Q T' pc' L S) : oWP ω γ κ Q T pc L (.int x :: .int j :: .ref a :: S) := by
  obtain ⟨hx, hby, hml, hown, hnm, hr, hlk, hZ, hT1, hn0, hT, locs, Y, N⟩ := X
  obtain ⟨c, A, r1, r2, r3⟩ := A
  subst hp
  obtain ⟨T', h', Y', e', W, st⟩ := stB Y hx hZ hT A (oInb r1 h0 h1) (g := mkF γ.2.2.2.1 pc L (.int x :: .int j :: .ref a :: S)) rfl rfl (hb hby hd)
  obtain ⟨s₂, o, hs, r⟩ := K T' h' ⟨hx, hby, hml, hown, hnm, hr, hlk, hZ, hT1, hn0, e', _, Y', Fr.snoc Y' N ha⟩ W
  exact ⟨s₂, o, st _ hs, r⟩
theorem ow_bastoreZ (X : oSt Z ω γ κ T h cs ss) (pc' : Nat) {a : Addr} {n : Nat} {f : Nat → Value} {j : Int32} {x : Int32} (A : oA Z h a .boolean n f) (ha : ω.2.1 ≤ a) (hd : decode κ.1 pc = .ok (.bastore, 1)) (hp : pc + 1 = pc') (h0 : 0 ≤ j.toInt) (h1 : j.toInt < n)
    (K : ∀ T' h', oSt Z ω γ κ T' h' cs ss → Wr h h' a j.toInt.toNat (.int (nar .boolean x)) → oWP ω γ κ Q T' pc' L S) : oWP ω γ κ Q T pc L (.int x :: .int j :: .ref a :: S) := by
  obtain ⟨hx, hby, hml, hown, hnm, hr, hlk, hZ, hT1, hn0, hT, locs, Y, N⟩ := X
  obtain ⟨c, A, r1, r2, r3⟩ := A
  subst hp
  obtain ⟨T', h', Y', e', W, st⟩ := stZ Y hx hZ hT A (oInb r1 h0 h1) (g := mkF γ.2.2.2.1 pc L (.int x :: .int j :: .ref a :: S)) rfl rfl (hb hby hd)
  obtain ⟨s₂, o, hs, r⟩ := K T' h' ⟨hx, hby, hml, hown, hnm, hr, hlk, hZ, hT1, hn0, e', _, Y', Fr.snoc Y' N ha⟩ W
  exact ⟨s₂, o, st _ hs, r⟩
theorem ow_aastore (X : oSt Z ω γ κ T h cs ss) (pc' : Nat) {a : Addr} {ty : FieldType} {n : Nat} {f : Nat → Value} {j : Int32} {v : Value} (A : oA Z h a ty n f) (ht : ty.isReference = true) (F : Sto Z h a v) (ha : ω.2.1 ≤ a) (hd : decode κ.1 pc = .ok (.aastore, 1)) (hp : pc + 1 = pc') (h0 : 0 ≤ j.toInt) (h1 : j.toInt < n)
    (K : ∀ T' h', oSt Z ω γ κ T' h' cs ss → Wr h h' a j.toInt.toNat v → oWP ω γ κ Q T' pc' L S) : oWP ω γ κ Q T pc L (v :: .int j :: .ref a :: S) := by
  obtain ⟨hx, hby, hml, hown, hnm, hr, hlk, hZ, hT1, hn0, hT, locs, Y, N⟩ := X
  obtain ⟨c, A, r1, r2, r3⟩ := A
  subst hp
  obtain ⟨T', h', Y', e', W, st⟩ := stR Y hx hZ hT A (oInb r1 h0 h1) ht F (g := mkF γ.2.2.2.1 pc L (v :: .int j :: .ref a :: S)) rfl rfl (hb hby hd)
  obtain ⟨s₂, o, hs, r⟩ := K T' h' ⟨hx, hby, hml, hown, hnm, hr, hlk, hZ, hT1, hn0, e', _, Y', Fr.snoc Y' N ha⟩ W
  exact ⟨s₂, o, st _ hs, r⟩
theorem ow_newP (X : oSt Z ω γ κ T h cs ss) (pc' i : Nat) {aty : ArrayType} {k : Int32} {cap : Nat} (hw : tables_1[i]? = some (.arrayClass (newarray.typeOf aty))) (hd : decode κ.1 pc = .ok (.newarray aty, 2)) (hp : pc + 2 = pc') (h0 : 0 ≤ k.toInt) (h1 : k.toInt ≤ cap) (hb1 : cap * 8 ≤ 536870912) (hc : cs + 1 ≤ κ.2.2.2.2.2.cells) (hsl : ss + cap ≤ κ.2.2.2.2.2.slots)
    (K : ∀ T' h' a, a = h.size → oSt Z ω γ κ T' h' (cs + 1) (ss + cap) → Ext h h' → oA Z h' a (newarray.typeOf aty) k.toInt.toNat (fun _ => defaultValue (newarray.typeOf aty)) → ω.2.1 ≤ a → oWP ω γ κ Q T' pc' L (.ref a :: S)) : oWP ω γ κ Q T pc L (.int k :: S) := by
  have hw' := oSt_at X i hw
  have hN := oSt_n0 X
  obtain ⟨hx, hby, hml, hown, hnm, hr, hlk, hZ, hT1, hn0, hT, locs, Y, N⟩ := X
  subst hp
  have hk : ¬ k < 0 := by rw [Int32.lt_iff_toInt_lt, o0]; omega
  have hk' : k.toNatClampNeg ≤ cap := by show k.toInt.toNat ≤ cap; omega
  obtain ⟨T', h', cA, Y', e', E, A, st⟩ := newP Y hx hZ hw' hT (g := mkF γ.2.2.2.1 pc L (.int k :: S)) rfl (hb hby hd) rfl hk hk' hb1 hc hsl
  obtain ⟨s₂, o, hs, r⟩ := K T' h' h.size rfl ⟨hx, hby, hml, hown, hnm, hr, hlk, hZ, hT1, hn0, e', _, Y', N⟩ E (oA.new A h0) hN
  exact ⟨s₂, o, st _ hs, r⟩
/-- a new array's class takes objects of C -/
def oOv (Z : State) (h : Heap) (a : Addr) (C : String) : Prop := ∃ (c : Cell) (ty : FieldType), Arr Z h a c ty ∧ Ovr Z c.cls C
theorem oOv.ext {h' : Heap} {a : Addr} {C : String} (O : oOv Z h a C) (E : Ext h h') : oOv Z h' a C := by obtain ⟨c, ty, A, O⟩ := O; exact ⟨c, ty, A.ext E, O⟩
theorem oOv.wr {h' : Heap} {a b : Addr} {C : String} {sl : Nat} {v : Value} (O : oOv Z h a C) (W : Wr h h' b sl v) : oOv Z h' a C := by
  obtain ⟨c, ty, A, O⟩ := O
  by_cases e : a = b
  · subst e; exact ⟨_, ty, A.same W, O⟩
  · exact ⟨c, ty, A.other W e, O⟩
theorem oOv.keep {h' : Heap} {a : Addr} {C : String} {ws : List Addr} (O : oOv Z h a C) (K : Keep h h' ws) (q : a ∉ ws) : oOv Z h' a C := by
  obtain ⟨c, ty, A, O⟩ := O; exact ⟨c, ty, ⟨K.2.1 a c A.1 q, A.2⟩, O⟩
theorem oOv.sto {a y : Addr} {C : String} (O : oOv Z h a C) (I : Ins Z h y C true) : Sto Z h a (.ref y) := by obtain ⟨c, ty, A, O⟩ := O; exact Sto.of A O I
theorem ow_newR (X : oSt Z ω γ κ T h cs ss) (pc' i1 i2 : Nat) {own C : String} {idx : Nat} {k : Int32} {cap : Nat} (w1 : tables_1[i1]? = some (.classLink own idx C)) (ho : κ.2.2.1 = own) (w2 : tables_1[i2]? = some (.arrayOver (.object C))) (hd : decode κ.1 pc = .ok (.anewarray idx, 3)) (hp : pc + 3 = pc') (h0 : 0 ≤ k.toInt) (h1 : k.toInt ≤ cap) (hb1 : cap * 8 ≤ 536870912) (hc : cs + 1 ≤ κ.2.2.2.2.2.cells) (hsl : ss + cap ≤ κ.2.2.2.2.2.slots)
    (K : ∀ T' h' a, a = h.size → oSt Z ω γ κ T' h' (cs + 1) (ss + cap) → Ext h h' → oA Z h' a (.object C) k.toInt.toNat (fun _ => .null) → oOv Z h' a C → ω.2.1 ≤ a → oWP ω γ κ Q T' pc' L (.ref a :: S)) : oWP ω γ κ Q T pc L (.int k :: S) := by
  have w1' := oSt_at X i1 w1
  have w2' := oSt_at X i2 w2
  have hN := oSt_n0 X
  obtain ⟨hx, hby, hml, hown, hnm, hr, hlk, hZ, hT1, hn0, hT, locs, Y, N⟩ := X
  subst hp ho
  have hk : ¬ k < 0 := by rw [Int32.lt_iff_toInt_lt, o0]; omega
  have hk' : k.toNatClampNeg ≤ cap := by show k.toInt.toNat ≤ cap; omega
  obtain ⟨T', h', cA, Y', e', E, A, O, st⟩ := newR Y hx hZ hown w1' w2' hT (g := mkF γ.2.2.2.1 pc L (.int k :: S)) rfl (hb hby hd) rfl hk hk' hb1 hc hsl
  obtain ⟨s₂, o, hs, r⟩ := K T' h' h.size rfl ⟨hx, hby, hml, hown, hnm, hr, hlk, hZ, hT1, hn0, e', _, Y', N⟩ E (oA.new A h0) ⟨_, _, A, O⟩ hN
  exact ⟨s₂, o, st _ hs, r⟩
end Walk2
def TC (Z : State) (h : Heap) (a : Addr) (v0 v1 v2 v3 v4 v5 v6 v7 v8 v9 v10 v11 v12 v13 : Value) : Prop := Exa Z h a "com/example/tollbook/tollbook/ber/TlvChains" ∧ Fld Z h a "com/example/tollbook/tollbook/ber/TlvChains" "from" "I" v0 ∧ Fld Z h a "com/example/tollbook/tollbook/ber/TlvChains" "limit" "I" v1 ∧ Fld Z h a "com/example/tollbook/tollbook/ber/TlvChains" "nexts" "[I" v2 ∧ Fld Z h a "com/example/tollbook/tollbook/ber/TlvChains" "jumps" "[I" v3 ∧ Fld Z h a "com/example/tollbook/tollbook/ber/TlvChains" "depths" "[I" v4 ∧ Fld Z h a "com/example/tollbook/tollbook/ber/TlvChains" "tagClasses" "[B" v5 ∧ Fld Z h a "com/example/tollbook/tollbook/ber/TlvChains" "tagNumbers" "[I" v6 ∧ Fld Z h a "com/example/tollbook/tollbook/ber/TlvChains" "nearest" "[I" v7 ∧ Fld Z h a "com/example/tollbook/tollbook/ber/TlvChains" "failures" "[Lcom/example/tollbook/tollbook/ber/BerException;" v8 ∧ Fld Z h a "com/example/tollbook/tollbook/ber/TlvChains" "learnt" "[I" v9 ∧ Fld Z h a "com/example/tollbook/tollbook/ber/TlvChains" "learntCount" "I" v10 ∧ Fld Z h a "com/example/tollbook/tollbook/ber/TlvChains" "soughtClass" "I" v11 ∧ Fld Z h a "com/example/tollbook/tollbook/ber/TlvChains" "soughtNumber" "I" v12 ∧ Fld Z h a "com/example/tollbook/tollbook/ber/TlvChains" "path" "[I" v13
theorem TC.lt {Z : State} {h : Heap} {a : Addr} {v0 v1 v2 v3 v4 v5 v6 v7 v8 v9 v10 v11 v12 v13 : Value} (R : TC Z h a v0 v1 v2 v3 v4 v5 v6 v7 v8 v9 v10 v11 v12 v13) : a < h.size := R.1.lt
theorem TC.ext {Z : State} {h h' : Heap} {a : Addr} {v0 v1 v2 v3 v4 v5 v6 v7 v8 v9 v10 v11 v12 v13 : Value} (R : TC Z h a v0 v1 v2 v3 v4 v5 v6 v7 v8 v9 v10 v11 v12 v13) (W : Ext h h') : TC Z h' a v0 v1 v2 v3 v4 v5 v6 v7 v8 v9 v10 v11 v12 v13 := by
  obtain ⟨E, F0, F1, F2, F3, F4, F5, F6, F7, F8, F9, F10, F11, F12, F13⟩ := R
  exact ⟨E.ext W, F0.ext W, F1.ext W, F2.ext W, F3.ext W, F4.ext W, F5.ext W, F6.ext W, F7.ext W, F8.ext W, F9.ext W, F10.ext W, F11.ext W, F12.ext W, F13.ext W⟩
theorem TC.other {Z : State} {h h' : Heap} {a b : Addr} {sl : Nat} {w : Value} {v0 v1 v2 v3 v4 v5 v6 v7 v8 v9 v10 v11 v12 v13 : Value} (R : TC Z h a v0 v1 v2 v3 v4 v5 v6 v7 v8 v9 v10 v11 v12 v13) (W : Wr h h' b sl w) (q : a ≠ b) : TC Z h' a v0 v1 v2 v3 v4 v5 v6 v7 v8 v9 v10 v11 v12 v13 := by
  obtain ⟨E, F0, F1, F2, F3, F4, F5, F6, F7, F8, F9, F10, F11, F12, F13⟩ := R
  exact ⟨E.wr W, F0.other W (Or.inl q), F1.other W (Or.inl q), F2.other W (Or.inl q), F3.other W (Or.inl q), F4.other W (Or.inl q), F5.other W (Or.inl q), F6.other W (Or.inl q), F7.other W (Or.inl q), F8.other W (Or.inl q), F9.other W (Or.inl q), F10.other W (Or.inl q), F11.other W (Or.inl q), F12.other W (Or.inl q), F13.other W (Or.inl q)⟩
theorem TC.keep {Z : State} {h h' : Heap} {a : Addr} {ws : List Addr} {v0 v1 v2 v3 v4 v5 v6 v7 v8 v9 v10 v11 v12 v13 : Value} (R : TC Z h a v0 v1 v2 v3 v4 v5 v6 v7 v8 v9 v10 v11 v12 v13) (K : Keep h h' ws) (q : a ∉ ws) : TC Z h' a v0 v1 v2 v3 v4 v5 v6 v7 v8 v9 v10 v11 v12 v13 := by
  obtain ⟨E, F0, F1, F2, F3, F4, F5, F6, F7, F8, F9, F10, F11, F12, F13⟩ := R
  exact ⟨E.keep K, F0.keep K q, F1.keep K q, F2.keep K q, F3.keep K q, F4.keep K q, F5.keep K q, F6.keep K q, F7.keep K q, F8.keep K q, F9.keep K q, F10.keep K q, F11.keep K q, F12.keep K q, F13.keep K q⟩
theorem TC.set_from {Z : State} {h h' : Heap} {a : Addr} {a0 : Array Value} {w : Value} {v0 v1 v2 v3 v4 v5 v6 v7 v8 v9 v10 v11 v12 v13 : Value} (hw : ∀ d ∈ tables_1, d.before a0 Z = true) (R : TC Z h a v0 v1 v2 v3 v4 v5 v6 v7 v8 v9 v10 v11 v12 v13) (W : Wr h h' a (RoadKit.slotOf Z "com/example/tollbook/tollbook/ber/TlvChains" "from" "I") w) : TC Z h' a w v1 v2 v3 v4 v5 v6 v7 v8 v9 v10 v11 v12 v13 := by
  obtain ⟨E, F0, F1, F2, F3, F4, F5, F6, F7, F8, F9, F10, F11, F12, F13⟩ := R
  exact ⟨E.wr W, F0.same W, F1.other W (Or.inr (slot_ne (C := "com/example/tollbook/tollbook/ber/TlvChains") (Or.inl (hw _ (List.mem_of_getElem? (i := 11) rfl))) (Or.inl (hw _ (List.mem_of_getElem? (i := 49) rfl))) (by decide) (t := .int) (t' := .int) (by decide) (by decide))), F2.other W (Or.inr (slot_ne (C := "com/example/tollbook/tollbook/ber/TlvChains") (Or.inl (hw _ (List.mem_of_getElem? (i := 14) rfl))) (Or.inl (hw _ (List.mem_of_getElem? (i := 49) rfl))) (by decide) (t := (.array .int)) (t' := .int) (by decide) (by decide))), F3.other W (Or.inr (slot_ne (C := "com/example/tollbook/tollbook/ber/TlvChains") (Or.inl (hw _ (List.mem_of_getElem? (i := 16) rfl))) (Or.inl (hw _ (List.mem_of_getElem? (i := 49) rfl))) (by decide) (t := (.array .int)) (t' := .int) (by decide) (by decide))), F4.other W (Or.inr (slot_ne (C := "com/example/tollbook/tollbook/ber/TlvChains") (Or.inl (hw _ (List.mem_of_getElem? (i := 18) rfl))) (Or.inl (hw _ (List.mem_of_getElem? (i := 49) rfl))) (by decide) (t := (.array .int)) (t' := .int) (by decide) (by decide))), F5.other W (Or.inr (slot_ne (C := "com/example/tollbook/tollbook/ber/TlvChains") (Or.inl (hw _ (List.mem_of_getElem? (i := 21) rfl))) (Or.inl (hw _ (List.mem_of_getElem? (i := 49) rfl))) (by decide) (t := (.array .byte)) (t' := .int) (by decide) (by decide))), F6.other W (Or.inr (slot_ne (C := "com/example/tollbook/tollbook/ber/TlvChains") (Or.inl (hw _ (List.mem_of_getElem? (i := 23) rfl))) (Or.inl (hw _ (List.mem_of_getElem? (i := 49) rfl))) (by decide) (t := (.array .int)) (t' := .int) (by decide) (by decide))), F7.other W (Or.inr (slot_ne (C := "com/example/tollbook/tollbook/ber/TlvChains") (Or.inl (hw _ (List.mem_of_getElem? (i := 25) rfl))) (Or.inl (hw _ (List.mem_of_getElem? (i := 49) rfl))) (by decide) (t := (.array .int)) (t' := .int) (by decide) (by decide))), F8.other W (Or.inr (slot_ne (C := "com/example/tollbook/tollbook/ber/TlvChains") (Or.inl (hw _ (List.mem_of_getElem? (i := 29) rfl))) (Or.inl (hw _ (List.mem_of_getElem? (i := 49) rfl))) (by decide) (t := (.array (.object "com/example/tollbook/tollbook/ber/BerException"))) (t' := .int) (by decide) (by decide))), F9.other W (Or.inr (slot_ne (C := "com/example/tollbook/tollbook/ber/TlvChains") (Or.inl (hw _ (List.mem_of_getElem? (i := 31) rfl))) (Or.inl (hw _ (List.mem_of_getElem? (i := 49) rfl))) (by decide) (t := (.array .int)) (t' := .int) (by decide) (by decide))), F10.other W (Or.inr (slot_ne (C := "com/example/tollbook/tollbook/ber/TlvChains") (Or.inl (hw _ (List.mem_of_getElem? (i := 47) rfl))) (Or.inl (hw _ (List.mem_of_getElem? (i := 49) rfl))) (by decide) (t := .int) (t' := .int) (by decide) (by decide))), F11.other W (Or.inr (slot_ne (C := "com/example/tollbook/tollbook/ber/TlvChains") (Or.inl (hw _ (List.mem_of_getElem? (i := 33) rfl))) (Or.inl (hw _ (List.mem_of_getElem? (i := 49) rfl))) (by decide) (t := .int) (t' := .int) (by decide) (by decide))), F12.other W (Or.inr (slot_ne (C := "com/example/tollbook/tollbook/ber/TlvChains") (Or.inl (hw _ (List.mem_of_getElem? (i := 73) rfl))) (Or.inl (hw _ (List.mem_of_getElem? (i := 49) rfl))) (by decide) (t := .int) (t' := .int) (by decide) (by decide))), F13.other W (Or.inr (slot_ne (C := "com/example/tollbook/tollbook/ber/TlvChains") (Or.inl (hw _ (List.mem_of_getElem? (i := 35) rfl))) (Or.inl (hw _ (List.mem_of_getElem? (i := 49) rfl))) (by decide) (t := (.array .int)) (t' := .int) (by decide) (by decide)))⟩
theorem TC.set_limit {Z : State} {h h' : Heap} {a : Addr} {a0 : Array Value} {w : Value} {v0 v1 v2 v3 v4 v5 v6 v7 v8 v9 v10 v11 v12 v13 : Value} (hw : ∀ d ∈ tables_1, d.before a0 Z = true) (R : TC Z h a v0 v1 v2 v3 v4 v5 v6 v7 v8 v9 v10 v11 v12 v13) (W : Wr h h' a (RoadKit.slotOf Z "com/example/tollbook/tollbook/ber/TlvChains" "limit" "I") w) : TC Z h' a v0 w v2 v3 v4 v5 v6 v7 v8 v9 v10 v11 v12 v13 := by
  obtain ⟨E, F0, F1, F2, F3, F4, F5, F6, F7, F8, F9, F10, F11, F12, F13⟩ := R
  exact ⟨E.wr W, F0.other W (Or.inr (slot_ne (C := "com/example/tollbook/tollbook/ber/TlvChains") (Or.inl (hw _ (List.mem_of_getElem? (i := 49) rfl))) (Or.inl (hw _ (List.mem_of_getElem? (i := 11) rfl))) (by decide) (t := .int) (t' := .int) (by decide) (by decide))), F1.same W, F2.other W (Or.inr (slot_ne (C := "com/example/tollbook/tollbook/ber/TlvChains") (Or.inl (hw _ (List.mem_of_getElem? (i := 14) rfl))) (Or.inl (hw _ (List.mem_of_getElem? (i := 11) rfl))) (by decide) (t := (.array .int)) (t' := .int) (by decide) (by decide))), F3.other W (Or.inr (slot_ne (C := "com/example/tollbook/tollbook/ber/TlvChains") (Or.inl (hw _ (List.mem_of_getElem? (i := 16) rfl))) (Or.inl (hw _ (List.mem_of_getElem? (i := 11) rfl))) (by decide) (t := (.array .int)) (t' := .int) (by decide) (by decide))), F4.other W (Or.inr (slot_ne (C := "com/example/tollbook/tollbook/ber/TlvChains") (Or.inl (hw _ (List.mem_of_getElem? (i := 18) rfl))) (Or.inl (hw _ (List.mem_of_getElem? (i := 11) rfl))) (by decide) (t := (.array .int)) (t' := .int) (by decide) (by decide))), F5.other W (Or.inr (slot_ne (C := "com/example/tollbook/tollbook/ber/TlvChains") (Or.inl (hw _ (List.mem_of_getElem? (i := 21) rfl))) (Or.inl (hw _ (List.mem_of_getElem? (i := 11) rfl))) (by decide) (t := (.array .byte)) (t' := .int) (by decide) (by decide))), F6.other W (Or.inr (slot_ne (C := "com/example/tollbook/tollbook/ber/TlvChains") (Or.inl (hw _ (List.mem_of_getElem? (i := 23) rfl))) (Or.inl (hw _ (List.mem_of_getElem? (i := 11) rfl))) (by decide) (t := (.array .int)) (t' := .int) (by decide) (by decide))), F7.other W (Or.inr (slot_ne (C := "com/example/tollbook/tollbook/ber/TlvChains") (Or.inl (hw _ (List.mem_of_getElem? (i := 25) rfl))) (Or.inl (hw _ (List.mem_of_getElem? (i := 11) rfl))) (by decide) (t := (.array .int)) (t' := .int) (by decide) (by decide))), F8.other W (Or.inr (slot_ne (C := "com/example/tollbook/tollbook/ber/TlvChains") (Or.inl (hw _ (List.mem_of_getElem? (i := 29) rfl))) (Or.inl (hw _ (List.mem_of_getElem? (i := 11) rfl))) (by decide) (t := (.array (.object "com/example/tollbook/tollbook/ber/BerException"))) (t' := .int) (by decide) (by decide))), F9.other W (Or.inr (slot_ne (C := "com/example/tollbook/tollbook/ber/TlvChains") (Or.inl (hw _ (List.mem_of_getElem? (i := 31) rfl))) (Or.inl (hw _ (List.mem_of_getElem? (i := 11) rfl))) (by decide) (t := (.array .int)) (t' := .int) (by decide) (by decide))), F10.other W (Or.inr (slot_ne (C := "com/example/tollbook/tollbook/ber/TlvChains") (Or.inl (hw _ (List.mem_of_getElem? (i := 47) rfl))) (Or.inl (hw _ (List.mem_of_getElem? (i := 11) rfl))) (by decide) (t := .int) (t' := .int) (by decide) (by decide))), F11.other W (Or.inr (slot_ne (C := "com/example/tollbook/tollbook/ber/TlvChains") (Or.inl (hw _ (List.mem_of_getElem? (i := 33) rfl))) (Or.inl (hw _ (List.mem_of_getElem? (i := 11) rfl))) (by decide) (t := .int) (t' := .int) (by decide) (by decide))), F12.other W (Or.inr (slot_ne (C := "com/example/tollbook/tollbook/ber/TlvChains") (Or.inl (hw _ (List.mem_of_getElem? (i := 73) rfl))) (Or.inl (hw _ (List.mem_of_getElem? (i := 11) rfl))) (by decide) (t := .int) (t' := .int) (by decide) (by decide))), F13.other W (Or.inr (slot_ne (C := "com/example/tollbook/tollbook/ber/TlvChains") (Or.inl (hw _ (List.mem_of_getElem? (i := 35) rfl))) (Or.inl (hw _ (List.mem_of_getElem? (i := 11) rfl))) (by decide) (t := (.array .int)) (t' := .int) (by decide) (by decide)))⟩
theorem TC.set_nexts {Z : State} {h h' : Heap} {a : Addr} {a0 : Array Value} {w : Value} {v0 v1 v2 v3 v4 v5 v6 v7 v8 v9 v10 v11 v12 v13 : Value} (hw : ∀ d ∈ tables_1, d.before a0 Z = true) (R : TC Z h a v0 v1 v2 v3 v4 v5 v6 v7 v8 v9 v10 v11 v12 v13) (W : Wr h h' a (RoadKit.slotOf Z "com/example/tollbook/tollbook/ber/TlvChains" "nexts" "[I") w) : TC Z h' a v0 v1 w v3 v4 v5 v6 v7 v8 v9 v10 v11 v12 v13 := by
  obtain ⟨E, F0, F1, F2, F3, F4, F5, F6, F7, F8, F9, F10, F11, F12, F13⟩ := R
  exact ⟨E.wr W, F0.other W (Or.inr (slot_ne (C := "com/example/tollbook/tollbook/ber/TlvChains") (Or.inl (hw _ (List.mem_of_getElem? (i := 49) rfl))) (Or.inl (hw _ (List.mem_of_getElem? (i := 14) rfl))) (by decide) (t := .int) (t' := (.array .int)) (by decide) (by decide))), F1.other W (Or.inr (slot_ne (C := "com/example/tollbook/tollbook/ber/TlvChains") (Or.inl (hw _ (List.mem_of_getElem? (i := 11) rfl))) (Or.inl (hw _ (List.mem_of_getElem? (i := 14) rfl))) (by decide) (t := .int) (t' := (.array .int)) (by decide) (by decide))), F2.same W, F3.other W (Or.inr (slot_ne (C := "com/example/tollbook/tollbook/ber/TlvChains") (Or.inl (hw _ (List.mem_of_getElem? (i := 16) rfl))) (Or.inl (hw _ (List.mem_of_getElem? (i := 14) rfl))) (by decide) (t := (.array .int)) (t' := (.array .int)) (by decide) (by decide))), F4.other W (Or.inr (slot_ne (C := "com/example/tollbook/tollbook/ber/TlvChains") (Or.inl (hw _ (List.mem_of_getElem? (i := 18) rfl))) (Or.inl (hw _ (List.mem_of_getElem? (i := 14) rfl))) (by decide) (t := (.array .int)) (t' := (.array .int)) (by decide) (by decide))), F5.other W (Or.inr (slot_ne (C := "com/example/tollbook/tollbook/ber/TlvChains") (Or.inl (hw _ (List.mem_of_getElem? (i := 21) rfl))) (Or.inl (hw _ (List.mem_of_getElem? (i := 14) rfl))) (by decide) (t := (.array .byte)) (t' := (.array .int)) (by decide) (by decide))), F6.other W (Or.inr (slot_ne (C := "com/example/tollbook/tollbook/ber/TlvChains") (Or.inl (hw _ (List.mem_of_getElem? (i := 23) rfl))) (Or.inl (hw _ (List.mem_of_getElem? (i := 14) rfl))) (by decide) (t := (.array .int)) (t' := (.array .int)) (by decide) (by decide))), F7.other W (Or.inr (slot_ne (C := "com/example/tollbook/tollbook/ber/TlvChains") (Or.inl (hw _ (List.mem_of_getElem? (i := 25) rfl))) (Or.inl (hw _ (List.mem_of_getElem? (i := 14) rfl))) (by decide) (t := (.array .int)) (t' := (.array .int)) (by decide) (by decide))), F8.other W (Or.inr (slot_ne (C := "com/example/tollbook/tollbook/ber/TlvChains") (Or.inl (hw _ (List.mem_of_getElem? (i := 29) rfl))) (Or.inl (hw _ (List.mem_of_getElem? (i := 14) rfl))) (by decide) (t := (.array (.object "com/example/tollbook/tollbook/ber/BerException"))) (t' := (.array .int)) (by decide) (by decide))), F9.other W (Or.inr (slot_ne (C := "com/example/tollbook/tollbook/ber/TlvChains") (Or.inl (hw _ (List.mem_of_getElem? (i := 31) rfl))) (Or.inl (hw _ (List.mem_of_getElem? (i := 14) rfl))) (by decide) (t := (.array .int)) (t' := (.array .int)) (by decide) (by decide))), F10.other W (Or.inr (slot_ne (C := "com/example/tollbook/tollbook/ber/TlvChains") (Or.inl (hw _ (List.mem_of_getElem? (i := 47) rfl))) (Or.inl (hw _ (List.mem_of_getElem? (i := 14) rfl))) (by decide) (t := .int) (t' := (.array .int)) (by decide) (by decide))), F11.other W (Or.inr (slot_ne (C := "com/example/tollbook/tollbook/ber/TlvChains") (Or.inl (hw _ (List.mem_of_getElem? (i := 33) rfl))) (Or.inl (hw _ (List.mem_of_getElem? (i := 14) rfl))) (by decide) (t := .int) (t' := (.array .int)) (by decide) (by decide))), F12.other W (Or.inr (slot_ne (C := "com/example/tollbook/tollbook/ber/TlvChains") (Or.inl (hw _ (List.mem_of_getElem? (i := 73) rfl))) (Or.inl (hw _ (List.mem_of_getElem? (i := 14) rfl))) (by decide) (t := .int) (t' := (.array .int)) (by decide) (by decide))), F13.other W (Or.inr (slot_ne (C := "com/example/tollbook/tollbook/ber/TlvChains") (Or.inl (hw _ (List.mem_of_getElem? (i := 35) rfl))) (Or.inl (hw _ (List.mem_of_getElem? (i := 14) rfl))) (by decide) (t := (.array .int)) (t' := (.array .int)) (by decide) (by decide)))⟩
theorem TC.set_jumps {Z : State} {h h' : Heap} {a : Addr} {a0 : Array Value} {w : Value} {v0 v1 v2 v3 v4 v5 v6 v7 v8 v9 v10 v11 v12 v13 : Value} (hw : ∀ d ∈ tables_1, d.before a0 Z = true) (R : TC Z h a v0 v1 v2 v3 v4 v5 v6 v7 v8 v9 v10 v11 v12 v13) (W : Wr h h' a (RoadKit.slotOf Z "com/example/tollbook/tollbook/ber/TlvChains" "jumps" "[I") w) : TC Z h' a v0 v1 v2 w v4 v5 v6 v7 v8 v9 v10 v11 v12 v13 := by
  obtain ⟨E, F0, F1, F2, F3, F4, F5, F6, F7, F8, F9, F10, F11, F12, F13⟩ := R
  exact ⟨E.wr W, F0.other W (Or.inr (slot_ne (C := "com/example/tollbook/tollbook/ber/TlvChains") (Or.inl (hw _ (List.mem_of_getElem? (i := 49) rfl))) (Or.inl (hw _ (List.mem_of_getElem? (i := 16) rfl))) (by decide) (t := .int) (t' := (.array .int)) (by decide) (by decide))), F1.other W (Or.inr (slot_ne (C := "com/example/tollbook/tollbook/ber/TlvChains") (Or.inl (hw _ (List.mem_of_getElem? (i := 11) rfl))) (Or.inl (hw _ (List.mem_of_getElem? (i := 16) rfl))) (by decide) (t := .int) (t' := (.array .int)) (by decide) (by decide))), F2.other W (Or.inr (slot_ne (C := "com/example/tollbook/tollbook/ber/TlvChains") (Or.inl (hw _ (List.mem_of_getElem? (i := 14) rfl))) (Or.inl (hw _ (List.mem_of_getElem? (i := 16) rfl))) (by decide) (t := (.array .int)) (t' := (.array .int)) (by decide) (by decide))), F3.same W, F4.other W (Or.inr (slot_ne (C := "com/example/tollbook/tollbook/ber/TlvChains") (Or.inl (hw _ (List.mem_of_getElem? (i := 18) rfl))) (Or.inl (hw _ (List.mem_of_getElem? (i := 16) rfl))) (by decide) (t := (.array .int)) (t' := (.array .int)) (by decide) (by decide))), F5.other W (Or.inr (slot_ne (C := "com/example/tollbook/tollbook/ber/TlvChains") (Or.inl (hw _ (List.mem_of_getElem? (i := 21) rfl))) (Or.inl (hw _ (List.mem_of_getElem? (i := 16) rfl))) (by decide) (t := (.array .byte)) (t' := (.array .int)) (by decide) (by decide))), F6.other W (Or.inr (slot_ne (C := "com/example/tollbook/tollbook/ber/TlvChains") (Or.inl (hw _ (List.mem_of_getElem? (i := 23) rfl))) (Or.inl (hw _ (List.mem_of_getElem? (i := 16) rfl))) (by decide) (t := (.array .int)) (t' := (.array .int)) (by decide) (by decide))), F7.other W (Or.inr (slot_ne (C := "com/example/tollbook/tollbook/ber/TlvChains") (Or.inl (hw _ (List.mem_of_getElem? (i := 25) rfl))) (Or.inl (hw _ (List.mem_of_getElem? (i := 16) rfl))) (by decide) (t := (.array .int)) (t' := (.array .int)) (by decide) (by decide))), F8.other W (Or.inr (slot_ne (C := "com/example/tollbook/tollbook/ber/TlvChains") (Or.inl (hw _ (List.mem_of_getElem? (i := 29) rfl))) (Or.inl (hw _ (List.mem_of_getElem? (i := 16) rfl))) (by decide) (t := (.array (.object "com/example/tollbook/tollbook/ber/BerException"))) (t' := (.array .int)) (by decide) (by decide))), F9.other W (Or.inr (slot_ne (C := "com/example/tollbook/tollbook/ber/TlvChains") (Or.inl (hw _ (List.mem_of_getElem? (i := 31) rfl))) (Or.inl (hw _ (List.mem_of_getElem? (i := 16) rfl))) (by decide) (t := (.array .int)) (t' := (.array .int)) (by decide) (by decide))), F10.other W (Or.inr (slot_ne (C := "com/example/tollbook/tollbook/ber/TlvChains") (Or.inl (hw _ (List.mem_of_getElem? (i := 47) rfl))) (Or.inl (hw _ (List.mem_of_getElem? (i := 16) rfl))) (by decide) (t := .int) (t' := (.array .int)) (by decide) (by decide))), F11.other W (Or.inr (slot_ne (C := "com/example/tollbook/tollbook/ber/TlvChains") (Or.inl (hw _ (List.mem_of_getElem? (i := 33) rfl))) (Or.inl (hw _ (List.mem_of_getElem? (i := 16) rfl))) (by decide) (t := .int) (t' := (.array .int)) (by decide) (by decide))), F12.other W (Or.inr (slot_ne (C := "com/example/tollbook/tollbook/ber/TlvChains") (Or.inl (hw _ (List.mem_of_getElem? (i := 73) rfl))) (Or.inl (hw _ (List.mem_of_getElem? (i := 16) rfl))) (by decide) (t := .int) (t' := (.array .int)) (by decide) (by decide))), F13.other W (Or.inr (slot_ne (C := "com/example/tollbook/tollbook/ber/TlvChains") (Or.inl (hw _ (List.mem_of_getElem? (i := 35) rfl))) (Or.inl (hw _ (List.mem_of_getElem? (i := 16) rfl))) (by decide) (t := (.array .int)) (t' := (.array .int)) (by decide) (by decide)))⟩
theorem TC.set_depths {Z : State} {h h' : Heap} {a : Addr} {a0 : Array Value} {w : Value} {v0 v1 v2 v3 v4 v5 v6 v7 v8 v9 v10 v11 v12 v13 : Value} (hw : ∀ d ∈ tables_1, d.before a0 Z = true) (R : TC Z h a v0 v1 v2 v3 v4 v5 v6 v7 v8 v9 v10 v11 v12 v13) (W : Wr h h' a (RoadKit.slotOf Z "com/example/tollbook/tollbook/ber/TlvChains" "depths" "[I") w) : TC Z h' a v0 v1 v2 v3 w v5 v6 v7 v8 v9 v10 v11 v12 v13 := by
  obtain ⟨E, F0, F1, F2, F3, F4, F5, F6, F7, F8, F9, F10, F11, F12, F13⟩ := R
  exact ⟨E.wr W, F0.other W (Or.inr (slot_ne (C := "com/example/tollbook/tollbook/ber/TlvChains") (Or.inl (hw _ (List.mem_of_getElem? (i := 49) rfl))) (Or.inl (hw _ (List.mem_of_getElem? (i := 18) rfl))) (by decide) (t := .int) (t' := (.array .int)) (by decide) (by decide))), F1.other W (Or.inr (slot_ne (C := "com/example/tollbook/tollbook/ber/TlvChains") (Or.inl (hw _ (List.mem_of_getElem? (i := 11) rfl))) (Or.inl (hw _ (List.mem_of_getElem? (i := 18) rfl))) (by decide) (t := .int) (t' := (.array .int)) (by decide) (by decide))), F2.other W (Or.inr (slot_ne (C := "com/example/tollbook/tollbook/ber/TlvChains") (Or.inl (hw _ (List.mem_of_getElem? (i := 14) rfl))) (Or.inl (hw _ (List.mem_of_getElem? (i := 18) rfl))) (by decide) (t := (.array .int)) (t' := (.array .int)) (by decide) (by decide))), F3.other W (Or.inr (slot_ne (C := "com/example/tollbook/tollbook/ber/TlvChains") (Or.inl (hw _ (List.mem_of_getElem? (i := 16) rfl))) (Or.inl (hw _ (List.mem_of_getElem? (i := 18) rfl))) (by decide) (t := (.array .int)) (t' := (.array .int)) (by decide) (by decide))), F4.same W, F5.other W (Or.inr (slot_ne (C := "com/example/tollbook/tollbook/ber/TlvChains") (Or.inl (hw _ (List.mem_of_getElem? (i := 21) rfl))) (Or.inl (hw _ (List.mem_of_getElem? (i := 18) rfl))) (by decide) (t := (.array .byte)) (t' := (.array .int)) (by decide) (by decide))), F6.other W (Or.inr (slot_ne (C := "com/example/tollbook/tollbook/ber/TlvChains") (Or.inl (hw _ (List.mem_of_getElem? (i := 23) rfl))) (Or.inl (hw _ (List.mem_of_getElem? (i := 18) rfl))) (by decide) (t := (.array .int)) (t' := (.array .int)) (by decide) (by decide))), F7.other W (Or.inr (slot_ne (C := "com/example/tollbook/tollbook/ber/TlvChains") (Or.inl (hw _ (List.mem_of_getElem? (i := 25) rfl))) (Or.inl (hw _ (List.mem_of_getElem? (i := 18) rfl))) (by decide) (t := (.array .int)) (t' := (.array .int)) (by decide) (by decide))), F8.other W (Or.inr (slot_ne (C := "com/example/tollbook/tollbook/ber/TlvChains") (Or.inl (hw _ (List.mem_of_getElem? (i := 29) rfl))) (Or.inl (hw _ (List.mem_of_getElem? (i := 18) rfl))) (by decide) (t := (.array (.object "com/example/tollbook/tollbook/ber/BerException"))) (t' := (.array .int)) (by decide) (by decide))), F9.other W (Or.inr (slot_ne (C := "com/example/tollbook/tollbook/ber/TlvChains") (Or.inl (hw _ (List.mem_of_getElem? (i := 31) rfl))) (Or.inl (hw _ (List.mem_of_getElem? (i := 18) rfl))) (by decide) (t := (.array .int)) (t' := (.array .int)) (by decide) (by decide))), F10.other W (Or.inr (slot_ne (C := "com/example/tollbook/tollbook/ber/TlvChains") (Or.inl (hw _ (List.mem_of_getElem? (i := 47) rfl))) (Or.inl (hw _ (List.mem_of_getElem? (i := 18) rfl))) (by decide) (t := .int) (t' := (.array .int)) (by decide) (by decide))), F11.other W (Or.inr (slot_ne (C := "com/example/tollbook/tollbook/ber/TlvChains") (Or.inl (hw _ (List.mem_of_getElem? (i := 33) rfl))) (Or.inl (hw _ (List.mem_of_getElem? (i := 18) rfl))) (by decide) (t := .int) (t' := (.array .int)) (by decide) (by decide))), F12.other W (Or.inr (slot_ne (C := "com/example/tollbook/tollbook/ber/TlvChains") (Or.inl (hw _ (List.mem_of_getElem? (i := 73) rfl))) (Or.inl (hw _ (List.mem_of_getElem? (i := 18) rfl))) (by decide) (t := .int) (t' := (.array .int)) (by decide) (by decide))), F13.other W (Or.inr (slot_ne (C := "com/example/tollbook/tollbook/ber/TlvChains") (Or.inl (hw _ (List.mem_of_getElem? (i := 35) rfl))) (Or.inl (hw _ (List.mem_of_getElem? (i := 18) rfl))) (by decide) (t := (.array .int)) (t' := (.array .int)) (by decide) (by decide)))⟩
theorem TC.set_tagClasses {Z : State} {h h' : Heap} {a : Addr} {a0 : Array Value} {w : Value} {v0 v1 v2 v3 v4 v5 v6 v7 v8 v9 v10 v11 v12 v13 : Value} (hw : ∀ d ∈ tables_1, d.before a0 Z = true) (R : TC Z h a v0 v1 v2 v3 v4 v5 v6 v7 v8 v9 v10 v11 v12 v13) (W : Wr h h' a (RoadKit.slotOf Z "com/example/tollbook/tollbook/ber/TlvChains" "tagClasses" "[B") w) : TC Z h' a v0 v1 v2 v3 v4 w v6 v7 v8 v9 v10 v11 v12 v13 := by
  obtain ⟨E, F0, F1, F2, F3, F4, F5, F6, F7, F8, F9, F10, F11, F12, F13⟩ := R
  exact ⟨E.wr W, F0.other W (Or.inr (slot_ne (C := "com/example/tollbook/tollbook/ber/TlvChains") (Or.inl (hw _ (List.mem_of_getElem? (i := 49) rfl))) (Or.inl (hw _ (List.mem_of_getElem? (i := 21) rfl))) (by decide) (t := .int) (t' := (.array .byte)) (by decide) (by decide))), F1.other W (Or.inr (slot_ne (C := "com/example/tollbook/tollbook/ber/TlvChains") (Or.inl (hw _ (List.mem_of_getElem? (i := 11) rfl))) (Or.inl (hw _ (List.mem_of_getElem? (i := 21) rfl))) (by decide) (t := .int) (t' := (.array .byte)) (by decide) (by decide))), F2.other W (Or.inr (slot_ne (C := "com/example/tollbook/tollbook/ber/TlvChains") (Or.inl (hw _ (List.mem_of_getElem? (i := 14) rfl))) (Or.inl (hw _ (List.mem_of_getElem? (i := 21) rfl))) (by decide) (t := (.array .int)) (t' := (.array .byte)) (by decide) (by decide))), F3.other W (Or.inr (slot_ne (C := "com/example/tollbook/tollbook/ber/TlvChains") (Or.inl (hw _ (List.mem_of_getElem? (i := 16) rfl))) (Or.inl (hw _ (List.mem_of_getElem? (i := 21) rfl))) (by decide) (t := (.array .int)) (t' := (.array .byte)) (by decide) (by decide))), F4.other W (Or.inr (slot_ne (C := "com/example/tollbook/tollbook/ber/TlvChains") (Or.inl (hw _ (List.mem_of_getElem? (i := 18) rfl))) (Or.inl (hw _ (List.mem_of_getElem? (i := 21) rfl))) (by decide) (t := (.array .int)) (t' := (.array .byte)) (by decide) (by decide))), F5.same W, F6.other W (Or.inr (slot_ne (C := "com/example/tollbook/tollbook/ber/TlvChains") (Or.inl (hw _ (List.mem_of_getElem? (i := 23) rfl))) (Or.inl (hw _ (List.mem_of_getElem? (i := 21) rfl))) (by decide) (t := (.array .int)) (t' := (.array .byte)) (by decide) (by decide))), F7.other W (Or.inr (slot_ne (C := "com/example/tollbook/tollbook/ber/TlvChains") (Or.inl (hw _ (List.mem_of_getElem? (i := 25) rfl))) (Or.inl (hw _ (List.mem_of_getElem? (i := 21) rfl))) (by decide) (t := (.array .int)) (t' := (.array .byte)) (by decide) (by decide))), F8.other W (Or.inr (slot_ne (C := "com/example/tollbook/tollbook/ber/TlvChains") (Or.inl (hw _ (List.mem_of_getElem? (i := 29) rfl))) (Or.inl (hw _ (List.mem_of_getElem? (i := 21) rfl))) (by decide) (t := (.array (.object "com/example/tollbook/tollbook/ber/BerException"))) (t' := (.array .byte)) (by decide) (by decide))), F9.other W (Or.inr (slot_ne (C := "com/example/tollbook/tollbook/ber/TlvChains") (Or.inl (hw _ (List.mem_of_getElem? (i := 31) rfl))) (Or.inl (hw _ (List.mem_of_getElem? (i := 21) rfl))) (by decide) (t := (.array .int)) (t' := (.array .byte)) (by decide) (by decide))), F10.other W (Or.inr (slot_ne (C := "com/example/tollbook/tollbook/ber/TlvChains") (Or.inl (hw _ (List.mem_of_getElem? (i := 47) rfl))) (Or.inl (hw _ (List.mem_of_getElem? (i := 21) rfl))) (by decide) (t := .int) (t' := (.array .byte)) (by decide) (by decide))), F11.other W (Or.inr (slot_ne (C := "com/example/tollbook/tollbook/ber/TlvChains") (Or.inl (hw _ (List.mem_of_getElem? (i := 33) rfl))) (Or.inl (hw _ (List.mem_of_getElem? (i := 21) rfl))) (by decide) (t := .int) (t' := (.array .byte)) (by decide) (by decide))), F12.other W (Or.inr (slot_ne (C := "com/example/tollbook/tollbook/ber/TlvChains") (Or.inl (hw _ (List.mem_of_getElem? (i := 73) rfl))) (Or.inl (hw _ (List.mem_of_getElem? (i := 21) rfl))) (by decide) (t := .int) (t' := (.array .byte)) (by decide) (by decide))), F13.other W (Or.inr (slot_ne (C := "com/example/tollbook/tollbook/ber/TlvChains") (Or.inl (hw _ (List.mem_of_getElem? (i := 35) rfl))) (Or.inl (hw _ (List.mem_of_getElem? (i := 21) rfl))) (by decide) (t := (.array .int)) (t' := (.array .byte)) (by decide) (by decide)))⟩
theorem TC.set_tagNumbers {Z : State} {h h' : Heap} {a : Addr} {a0 : Array Value} {w : Value} {v0 v1 v2 v3 v4 v5 v6 v7 v8 v9 v10 v11 v12 v13 : Value} (hw : ∀ d ∈ tables_1, d.before a0 Z = true) (R : TC Z h a v0 v1 v2 v3 v4 v5 v6 v7 v8 v9 v10 v11 v12 v13) (W : Wr h h' a (RoadKit.slotOf Z "com/example/tollbook/tollbook/ber/TlvChains" "tagNumbers" "[I") w) : TC Z h' a v0 v1 v2 v3 v4 v5 w v7 v8 v9 v10 v11 v12 v13 := by
  obtain ⟨E, F0, F1, F2, F3, F4, F5, F6, F7, F8, F9, F10, F11, F12, F13⟩ := R
  exact ⟨E.wr W, F0.other W (Or.inr (slot_ne (C := "com/example/tollbook/tollbook/ber/TlvChains") (Or.inl (hw _ (List.mem_of_getElem? (i := 49) rfl))) (Or.inl (hw _ (List.mem_of_getElem? (i := 23) rfl))) (by decide) (t := .int) (t' := (.array .int)) (by decide) (by decide))), F1.other W (Or.inr (slot_ne (C := "com/example/tollbook/tollbook/ber/TlvChains") (Or.inl (hw _ (List.mem_of_getElem? (i := 11) rfl))) (Or.inl (hw _ (List.mem_of_getElem? (i := 23) rfl))) (by decide) (t := .int) (t' := (.array .int)) (by decide) (by decide))), F2.other W (Or.inr (slot_ne (C := "com/example/tollbook/tollbook/ber/TlvChains") (Or.inl (hw _ (List.mem_of_getElem? (i := 14) rfl))) (Or.inl (hw _ (List.mem_of_getElem? (i := 23) rfl))) (by decide) (t := (.array .int)) (t' := (.array .int)) (by decide) (by decide))), F3.other W (Or.inr (slot_ne (C := "com/example/tollbook/tollbook/ber/TlvChains") (Or.inl (hw _ (List.mem_of_getElem? (i := 16) rfl))) (Or.inl (hw _ (List.mem_of_getElem? (i := 23) rfl))) (by decide) (t := (.array .int)) (t' := (.array .int)) (by decide) (by decide))), F4.other W (Or.inr (slot_ne (C := "com/example/tollbook/tollbook/ber/TlvChains") (Or.inl (hw _ (List.mem_of_getElem? (i := 18) rfl))) (Or.inl (hw _ (List.mem_of_getElem? (i := 23) rfl))) (by decide) (t := (.array .int)) (t' := (.array .int)) (by decide) (by decide))), F5.other W (Or.inr (slot_ne (C := "com/example/tollbook/tollbook/ber/TlvChains") (Or.inl (hw _ (List.mem_of_getElem? (i := 21) rfl))) (Or.inl (hw _ (List.mem_of_getElem? (i := 23) rfl))) (by decide) (t := (.array .byte)) (t' := (.array .int)) (by decide) (by decide))), F6.same W, F7.other W (Or.inr (slot_ne (C := "com/example/tollbook/tollbook/ber/TlvChains") (Or.inl (hw _ (List.mem_of_getElem? (i := 25) rfl))) (Or.inl (hw _ (List.mem_of_getElem? (i := 23) rfl))) (by decide) (t := (.array .int)) (t' := (.array .int)) (by decide) (by decide))), F8.other W (Or.inr (slot_ne (C := "com/example/tollbook/tollbook/ber/TlvChains") (Or.inl (hw _ (List.mem_of_getElem? (i := 29) rfl))) (Or.inl (hw _ (List.mem_of_getElem? (i := 23) rfl))) (by decide) (t := (.array (.object "com/example/tollbook/tollbook/ber/BerException"))) (t' := (.array .int)) (by decide) (by decide))), F9.other W (Or.inr (slot_ne (C := "com/example/tollbook/tollbook/ber/TlvChains") (Or.inl (hw _ (List.mem_of_getElem? (i := 31) rfl))) (Or.inl (hw _ (List.mem_of_getElem? (i := 23) rfl))) (by decide) (t := (.array .int)) (t' := (.array .int)) (by decide) (by decide))), F10.other W (Or.inr (slot_ne (C := "com/example/tollbook/tollbook/ber/TlvChains") (Or.inl (hw _ (List.mem_of_getElem? (i := 47) rfl))) (Or.inl (hw _ (List.mem_of_getElem? (i := 23) rfl))) (by decide) (t := .int) (t' := (.array .int)) (by decide) (by decide))), F11.other W (Or.inr (slot_ne (C := "com/example/tollbook/tollbook/ber/TlvChains") (Or.inl (hw _ (List.mem_of_getElem? (i := 33) rfl))) (Or.inl (hw _ (List.mem_of_getElem? (i := 23) rfl))) (by decide) (t := .int) (t' := (.array .int)) (by decide) (by decide))), F12.other W (Or.inr (slot_ne (C := "com/example/tollbook/tollbook/ber/TlvChains") (Or.inl (hw _ (List.mem_of_getElem? (i := 73) rfl))) (Or.inl (hw _ (List.mem_of_getElem? (i := 23) rfl))) (by decide) (t := .int) (t' := (.array .int)) (by decide) (by decide))), F13.other W (Or.inr (slot_ne (C := "com/example/tollbook/tollbook/ber/TlvChains") (Or.inl (hw _ (List.mem_of_getElem? (i := 35) rfl))) (Or.inl (hw _ (List.mem_of_getElem? (i := 23) rfl))) (by decide) (t := (.array .int)) (t' := (.array .int)) (by decide) (by decide)))⟩
theorem TC.set_nearest {Z : State} {h h' : Heap} {a : Addr} {a0 : Array Value} {w : Value} {v0 v1 v2 v3 v4 v5 v6 v7 v8 v9 v10 v11 v12 v13 : Value} (hw : ∀ d ∈ tables_1, d.before a0 Z = true) (R : TC Z h a v0 v1 v2 v3 v4 v5 v6 v7 v8 v9 v10 v11 v12 v13) (W : Wr h h' a (RoadKit.slotOf Z "com/example/tollbook/tollbook/ber/TlvChains" "nearest" "[I") w) : TC Z h' a v0 v1 v2 v3 v4 v5 v6 w v8 v9 v10 v11 v12 v13 := by
  obtain ⟨E, F0, F1, F2, F3, F4, F5, F6, F7, F8, F9, F10, F11, F12, F13⟩ := R
  exact ⟨E.wr W, F0.other W (Or.inr (slot_ne (C := "com/example/tollbook/tollbook/ber/TlvChains") (Or.inl (hw _ (List.mem_of_getElem? (i := 49) rfl))) (Or.inl (hw _ (List.mem_of_getElem? (i := 25) rfl))) (by decide) (t := .int) (t' := (.array .int)) (by decide) (by decide))), F1.other W (Or.inr (slot_ne (C := "com/example/tollbook/tollbook/ber/TlvChains") (Or.inl (hw _ (List.mem_of_getElem? (i := 11) rfl))) (Or.inl (hw _ (List.mem_of_getElem? (i := 25) rfl))) (by decide) (t := .int) (t' := (.array .int)) (by decide) (by decide))), F2.other W (Or.inr (slot_ne (C := "com/example/tollbook/tollbook/ber/TlvChains") (Or.inl (hw _ (List.mem_of_getElem? (i := 14) rfl))) (Or.inl (hw _ (List.mem_of_getElem? (i := 25) rfl))) (by decide) (t := (.array .int)) (t' := (.array .int)) (by decide) (by decide))), F3.other W (Or.inr (slot_ne (C := "com/example/tollbook/tollbook/ber/TlvChains") (Or.inl (hw _ (List.mem_of_getElem? (i := 16) rfl))) (Or.inl (hw _ (List.mem_of_getElem? (i := 25) rfl))) (by decide) (t := (.array .int)) (t' := (.array .int)) (by decide) (by decide))), F4.other W (Or.inr (slot_ne (C := "com/example/tollbook/tollbook/ber/TlvChains") (Or.inl (hw _ (List.mem_of_getElem? (i := 18) rfl))) (Or.inl (hw _ (List.mem_of_getElem? (i := 25) rfl))) (by decide) (t := (.array .int)) (t' := (.array .int)) (by decide) (by decide))), F5.other W (Or.inr (slot_ne (C := "com/example/tollbook/tollbook/ber/TlvChains") (Or.inl (hw _ (List.mem_of_getElem? (i := 21) rfl))) (Or.inl (hw _ (List.mem_of_getElem? (i := 25) rfl))) (by decide) (t := (.array .byte)) (t' := (.array .int)) (by decide) (by decide))), F6.other W (Or.inr (slot_ne (C := "com/example/tollbook/tollbook/ber/TlvChains") (Or.inl (hw _ (List.mem_of_getElem? (i := 23) rfl))) (Or.inl (hw _ (List.mem_of_getElem? (i := 25) rfl))) (by decide) (t := (.array .int)) (t' := (.array .int)) (by decide) (by decide))), F7.same W, F8.other W (Or.inr (slot_ne (C := "com/example/tollbook/tollbook/ber/TlvChains") (Or.inl (hw _ (List.mem_of_getElem? (i := 29) rfl))) (Or.inl (hw _ (List.mem_of_getElem? (i := 25) rfl))) (by decide) (t := (.array (.object "com/example/tollbook/tollbook/ber/BerException"))) (t' := (.array .int)) (by decide) (by decide))), F9.other W (Or.inr (slot_ne (C := "com/example/tollbook/tollbook/ber/TlvChains") (Or.inl (hw _ (List.mem_of_getElem? (i := 31) rfl))) (Or.inl (hw _ (List.mem_of_getElem? (i := 25) rfl))) (by decide) (t := (.array .int)) (t' := (.array .int)) (by decide) (by decide))), F10.other W (Or.inr (slot_ne (C := "com/example/tollbook/tollbook/ber/TlvChains") (Or.inl (hw _ (List.mem_of_getElem? (i := 47) rfl))) (Or.inl (hw _ (List.mem_of_getElem? (i := 25) rfl))) (by decide) (t := .int) (t' := (.array .int)) (by decide) (by decide))), F11.other W (Or.inr (slot_ne (C := "com/example/tollbook/tollbook/ber/TlvChains") (Or.inl (hw _ (List.mem_of_getElem? (i := 33) rfl))) (Or.inl (hw _ (List.mem_of_getElem? (i := 25) rfl))) (by decide) (t := .int) (t' := (.array .int)) (by decide) (by decide))), F12.other W (Or.inr (slot_ne (C := "com/example/tollbook/tollbook/ber/TlvChains") (Or.inl (hw _ (List.mem_of_getElem? (i := 73) rfl))) (Or.inl (hw _ (List.mem_of_getElem? (i := 25) rfl))) (by decide) (t := .int) (t' := (.array .int)) (by decide) (by decide))), F13.other W (Or.inr (slot_ne (C := "com/example/tollbook/tollbook/ber/TlvChains") (Or.inl (hw _ (List.mem_of_getElem? (i := 35) rfl))) (Or.inl (hw _ (List.mem_of_getElem? (i := 25) rfl))) (by decide) (t := (.array .int)) (t' := (.array .int)) (by decide) (by decide)))⟩
theorem TC.set_failures {Z : State} {h h' : Heap} {a : Addr} {a0 : Array Value} {w : Value} {v0 v1 v2 v3 v4 v5 v6 v7 v8 v9 v10 v11 v12 v13 : Value} (hw : ∀ d ∈ tables_1, d.before a0 Z = true) (R : TC Z h a v0 v1 v2 v3 v4 v5 v6 v7 v8 v9 v10 v11 v12 v13) (W : Wr h h' a (RoadKit.slotOf Z "com/example/tollbook/tollbook/ber/TlvChains" "failures" "[Lcom/example/tollbook/tollbook/ber/BerException;") w) : TC Z h' a v0 v1 v2 v3 v4 v5 v6 v7 w v9 v10 v11 v12 v13 := by
  obtain ⟨E, F0, F1, F2, F3, F4, F5, F6, F7, F8, F9, F10, F11, F12, F13⟩ := R
  exact ⟨E.wr W, F0.other W (Or.inr (slot_ne (C := "com/example/tollbook/tollbook/ber/TlvChains") (Or.inl (hw _ (List.mem_of_getElem? (i := 49) rfl))) (Or.inl (hw _ (List.mem_of_getElem? (i := 29) rfl))) (by decide) (t := .int) (t' := (.array (.object "com/example/tollbook/tollbook/ber/BerException"))) (by decide) (by decide))), F1.other W (Or.inr (slot_ne (C := "com/example/tollbook/tollbook/ber/TlvChains") (Or.inl (hw _ (List.mem_of_getElem? (i := 11) rfl))) (Or.inl (hw _ (List.mem_of_getElem? (i := 29) rfl))) (by decide) (t := .int) (t' := (.array (.object "com/example/tollbook/tollbook/ber/BerException"))) (by decide) (by decide))), F2.other W (Or.inr (slot_ne (C := "com/example/tollbook/tollbook/ber/TlvChains") (Or.inl (hw _ (List.mem_of_getElem? (i := 14) rfl))) (Or.inl (hw _ (List.mem_of_getElem? (i := 29) rfl))) (by decide) (t := (.array .int)) (t' := (.array (.object "com/example/tollbook/tollbook/ber/BerException"))) (by decide) (by decide))), F3.other W (Or.inr (slot_ne (C := "com/example/tollbook/tollbook/ber/TlvChains") (Or.inl (hw _ (List.mem_of_getElem? (i := 16) rfl))) (Or.inl (hw _ (List.mem_of_getElem? (i := 29) rfl))) (by decide) (t := (.array .int)) (t' := (.array (.object "com/example/tollbook/tollbook/ber/BerException"))) (by decide) (by decide))), F4.other W (Or.inr (slot_ne (C := "com/example/tollbook/tollbook/ber/TlvChains") (Or.inl (hw _ (List.mem_of_getElem? (i := 18) rfl))) (Or.inl (hw _ (List.mem_of_getElem? (i := 29) rfl))) (by decide) (t := (.array .int)) (t' := (.array (.object "com/example/tollbook/tollbook/ber/BerException"))) (by decide) (by decide))), F5.other W (Or.inr (slot_ne (C := "com/example/tollbook/tollbook/ber/TlvChains") (Or.inl (hw _ (List.mem_of_getElem? (i := 21) rfl))) (Or.inl (hw _ (List.mem_of_getElem? (i := 29) rfl))) (by decide) (t := (.array .byte)) (t' := (.array (.object "com/example/tollbook/tollbook/ber/BerException"))) (by decide) (by decide))), F6.other W (Or.inr (slot_ne (C := "com/example/tollbook/tollbook/ber/TlvChains") (Or.inl (hw _ (List.mem_of_getElem? (i := 23) rfl))) (Or.inl (hw _ (List.mem_of_getElem? (i := 29) rfl))) (by decide) (t := (.array .int)) (t' := (.array (.object "com/example/tollbook/tollbook/ber/BerException"))) (by decide) (by decide))), F7.other W (Or.inr (slot_ne (C := "com/example/tollbook/tollbook/ber/TlvChains") (Or.inl (hw _ (List.mem_of_getElem? (i := 25) rfl))) (Or.inl (hw _ (List.mem_of_getElem? (i := 29) rfl))) (by decide) (t := (.array .int)) (t' := (.array (.object "com/example/tollbook/tollbook/ber/BerException"))) (by decide) (by decide))), F8.same W, F9.other W (Or.inr (slot_ne (C := "com/example/tollbook/tollbook/ber/TlvChains") (Or.inl (hw _ (List.mem_of_getElem? (i := 31) rfl))) (Or.inl (hw _ (List.mem_of_getElem? (i := 29) rfl))) (by decide) (t := (.array .int)) (t' := (.array (.object "com/example/tollbook/tollbook/ber/BerException"))) (by decide) (by decide))), F10.other W (Or.inr (slot_ne (C := "com/example/tollbook/tollbook/ber/TlvChains") (Or.inl (hw _ (List.mem_of_getElem? (i := 47) rfl))) (Or.inl (hw _ (List.mem_of_getElem? (i := 29) rfl))) (by decide) (t := .int) (t' := (.array (.object "com/example/tollbook/tollbook/ber/BerException"))) (by decide) (by decide))), F11.other W (Or.inr (slot_ne (C := "com/example/tollbook/tollbook/ber/TlvChains") (Or.inl (hw _ (List.mem_of_getElem? (i := 33) rfl))) (Or.inl (hw _ (List.mem_of_getElem? (i := 29) rfl))) (by decide) (t := .int) (t' := (.array (.object "com/example/tollbook/tollbook/ber/BerException"))) (by decide) (by decide))), F12.other W (Or.inr (slot_ne (C := "com/example/tollbook/tollbook/ber/TlvChains") (Or.inl (hw _ (List.mem_of_getElem? (i := 73) rfl))) (Or.inl (hw _ (List.mem_of_getElem? (i := 29) rfl))) (by decide) (t := .int) (t' := (.array (.object "com/example/tollbook/tollbook/ber/BerException"))) (by decide) (by decide))), F13.other W (Or.inr (slot_ne (C := "com/example/tollbook/tollbook/ber/TlvChains") (Or.inl (hw _ (List.mem_of_getElem? (i := 35) rfl))) (Or.inl (hw _ (List.mem_of_getElem? (i := 29) rfl))) (by decide) (t := (.array .int)) (t' := (.array (.object "com/example/tollbook/tollbook/ber/BerException"))) (by decide) (by decide)))⟩
theorem TC.set_learnt {Z : State} {h h' : Heap} {a : Addr} {a0 : Array Value} {w : Value} {v0 v1 v2 v3 v4 v5 v6 v7 v8 v9 v10 v11 v12 v13 : Value} (hw : ∀ d ∈ tables_1, d.before a0 Z = true) (R : TC Z h a v0 v1 v2 v3 v4 v5 v6 v7 v8 v9 v10 v11 v12 v13) (W : Wr h h' a (RoadKit.slotOf Z "com/example/tollbook/tollbook/ber/TlvChains" "learnt" "[I") w) : TC Z h' a v0 v1 v2 v3 v4 v5 v6 v7 v8 w v10 v11 v12 v13 := by
  obtain ⟨E, F0, F1, F2, F3, F4, F5, F6, F7, F8, F9, F10, F11, F12, F13⟩ := R
  exact ⟨E.wr W, F0.other W (Or.inr (slot_ne (C := "com/example/tollbook/tollbook/ber/TlvChains") (Or.inl (hw _ (List.mem_of_getElem? (i := 49) rfl))) (Or.inl (hw _ (List.mem_of_getElem? (i := 31) rfl))) (by decide) (t := .int) (t' := (.array .int)) (by decide) (by decide))), F1.other W (Or.inr (slot_ne (C := "com/example/tollbook/tollbook/ber/TlvChains") (Or.inl (hw _ (List.mem_of_getElem? (i := 11) rfl))) (Or.inl (hw _ (List.mem_of_getElem? (i := 31) rfl))) (by decide) (t := .int) (t' := (.array .int)) (by decide) (by decide))), F2.other W (Or.inr (slot_ne (C := "com/example/tollbook/tollbook/ber/TlvChains") (Or.inl (hw _ (List.mem_of_getElem? (i := 14) rfl))) (Or.inl (hw _ (List.mem_of_getElem? (i := 31) rfl))) (by decide) (t := (.array .int)) (t' := (.array .int)) (by decide) (by decide))), F3.other W (Or.inr (slot_ne (C := "com/example/tollbook/tollbook/ber/TlvChains") (Or.inl (hw _ (List.mem_of_getElem? (i := 16) rfl))) (Or.inl (hw _ (List.mem_of_getElem? (i := 31) rfl))) (by decide) (t := (.array .int)) (t' := (.array .int)) (by decide) (by decide))), F4.other W (Or.inr (slot_ne (C := "com/example/tollbook/tollbook/ber/TlvChains") (Or.inl (hw _ (List.mem_of_getElem? (i := 18) rfl))) (Or.inl (hw _ (List.mem_of_getElem? (i := 31) rfl))) (by decide) (t := (.array .int)) (t' := (.array .int)) (by decide) (by decide))), F5.other W (Or.inr (slot_ne (C := "com/example/tollbook/tollbook/ber/TlvChains") (Or.inl (hw _ (List.mem_of_getElem? (i := 21) rfl))) (Or.inl (hw _ (List.mem_of_getElem? (i := 31) rfl))) (by decide) (t := (.array .byte)) (t' := (.array .int)) (by decide) (by decide))), F6.other W (Or.inr (slot_ne (C := "com/example/tollbook/tollbook/ber/TlvChains") (Or.inl (hw _ (List.mem_of_getElem? (i := 23) rfl))) (Or.inl (hw _ (List.mem_of_getElem? (i := 31) rfl))) (by decide) (t := (.array .int)) (t' := (.array .int)) (by decide) (by decide))), F7.other W (Or.inr (slot_ne (C := "com/example/tollbook/tollbook/ber/TlvChains") (Or.inl (hw _ (List.mem_of_getElem? (i := 25) rfl))) (Or.inl (hw _ (List.mem_of_getElem? (i := 31) rfl))) (by decide) (t := (.array .int)) (t' := (.array .int)) (by decide) (by decide))), F8.other W (Or.inr (slot_ne (C := "com/example/tollbook/tollbook/ber/TlvChains") (Or.inl (hw _ (List.mem_of_getElem? (i := 29) rfl))) (Or.inl (hw _ (List.mem_of_getElem? (i := 31) rfl))) (by decide) (t := (.array (.object "com/example/tollbook/tollbook/ber/BerException"))) (t' := (.array .int)) (by decide) (by decide))), F9.same W, F10.other W (Or.inr (slot_ne (C := "com/example/tollbook/tollbook/ber/TlvChains") (Or.inl (hw _ (List.mem_of_getElem? (i := 47) rfl))) (Or.inl (hw _ (List.mem_of_getElem? (i := 31) rfl))) (by decide) (t := .int) (t' := (.array .int)) (by decide) (by decide))), F11.other W (Or.inr (slot_ne (C := "com/example/tollbook/tollbook/ber/TlvChains") (Or.inl (hw _ (List.mem_of_getElem? (i := 33) rfl))) (Or.inl (hw _ (List.mem_of_getElem? (i := 31) rfl))) (by decide) (t := .int) (t' := (.array .int)) (by decide) (by decide))), F12.other W (Or.inr (slot_ne (C := "com/example/tollbook/tollbook/ber/TlvChains") (Or.inl (hw _ (List.mem_of_getElem? (i := 73) rfl))) (Or.inl (hw _ (List.mem_of_getElem? (i := 31) rfl))) (by decide) (t := .int) (t' := (.array .int)) (by decide) (by decide))), F13.other W (Or.inr (slot_ne (C := "com/example/tollbook/tollbook/ber/TlvChains") (Or.inl (hw _ (List.mem_of_getElem? (i := 35) rfl))) (Or.inl (hw _ (List.mem_of_getElem? (i := 31) rfl))) (by decide) (t := (.array .int)) (t' := (.array .int)) (by decide) (by decide)))⟩
theorem TC.set_learntCount {Z : State} {h h' : Heap} {a : Addr} {a0 : Array Value} {w : Value} {v0 v1 v2 v3 v4 v5 v6 v7 v8 v9 v10 v11 v12 v13 : Value} (hw : ∀ d ∈ tables_1, d.before a0 Z = true) (R : TC Z h a v0 v1 v2 v3 v4 v5 v6 v7 v8 v9 v10 v11 v12 v13) (W : Wr h h' a (RoadKit.slotOf Z "com/example/tollbook/tollbook/ber/TlvChains" "learntCount" "I") w) : TC Z h' a v0 v1 v2 v3 v4 v5 v6 v7 v8 v9 w v11 v12 v13 := by
  obtain ⟨E, F0, F1, F2, F3, F4, F5, F6, F7, F8, F9, F10, F11, F12, F13⟩ := R
  exact ⟨E.wr W, F0.other W (Or.inr (slot_ne (C := "com/example/tollbook/tollbook/ber/TlvChains") (Or.inl (hw _ (List.mem_of_getElem? (i := 49) rfl))) (Or.inl (hw _ (List.mem_of_getElem? (i := 47) rfl))) (by decide) (t := .int) (t' := .int) (by decide) (by decide))), F1.other W (Or.inr (slot_ne (C := "com/example/tollbook/tollbook/ber/TlvChains") (Or.inl (hw _ (List.mem_of_getElem? (i := 11) rfl))) (Or.inl (hw _ (List.mem_of_getElem? (i := 47) rfl))) (by decide) (t := .int) (t' := .int) (by decide) (by decide))), F2.other W (Or.inr (slot_ne (C := "com/example/tollbook/tollbook/ber/TlvChains") (Or.inl (hw _ (List.mem_of_getElem? (i := 14) rfl))) (Or.inl (hw _ (List.mem_of_getElem? (i := 47) rfl))) (by decide) (t := (.array .int)) (t' := .int) (by decide) (by decide))), F3.other W (Or.inr (slot_ne (C := "com/example/tollbook/tollbook/ber/TlvChains") (Or.inl (hw _ (List.mem_of_getElem? (i := 16) rfl))) (Or.inl (hw _ (List.mem_of_getElem? (i := 47) rfl))) (by decide) (t := (.array .int)) (t' := .int) (by decide) (by decide))), F4.other W (Or.inr (slot_ne (C := "com/example/tollbook/tollbook/ber/TlvChains") (Or.inl (hw _ (List.mem_of_getElem? (i := 18) rfl))) (Or.inl (hw _ (List.mem_of_getElem? (i := 47) rfl))) (by decide) (t := (.array .int)) (t' := .int) (by decide) (by decide))), F5.other W (Or.inr (slot_ne (C := "com/example/tollbook/tollbook/ber/TlvChains") (Or.inl (hw _ (List.mem_of_getElem? (i := 21) rfl))) (Or.inl (hw _ (List.mem_of_getElem? (i := 47) rfl))) (by decide) (t := (.array .byte)) (t' := .int) (by decide) (by decide))), F6.other W (Or.inr (slot_ne (C := "com/example/tollbook/tollbook/ber/TlvChains") (Or.inl (hw _ (List.mem_of_getElem? (i := 23) rfl))) (Or.inl (hw _ (List.mem_of_getElem? (i := 47) rfl))) (by decide) (t := (.array .int)) (t' := .int) (by decide) (by decide))), F7.other W (Or.inr (slot_ne (C := "com/example/tollbook/tollbook/ber/TlvChains") (Or.inl (hw _ (List.mem_of_getElem? (i := 25) rfl))) (Or.inl (hw _ (List.mem_of_getElem? (i := 47) rfl))) (by decide) (t := (.array .int)) (t' := .int) (by decide) (by decide))), F8.other W (Or.inr (slot_ne (C := "com/example/tollbook/tollbook/ber/TlvChains") (Or.inl (hw _ (List.mem_of_getElem? (i := 29) rfl))) (Or.inl (hw _ (List.mem_of_getElem? (i := 47) rfl))) (by decide) (t := (.array (.object "com/example/tollbook/tollbook/ber/BerException"))) (t' := .int) (by decide) (by decide))), F9.other W (Or.inr (slot_ne (C := "com/example/tollbook/tollbook/ber/TlvChains") (Or.inl (hw _ (List.mem_of_getElem? (i := 31) rfl))) (Or.inl (hw _ (List.mem_of_getElem? (i := 47) rfl))) (by decide) (t := (.array .int)) (t' := .int) (by decide) (by decide))), F10.same W, F11.other W (Or.inr (slot_ne (C := "com/example/tollbook/tollbook/ber/TlvChains") (Or.inl (hw _ (List.mem_of_getElem? (i := 33) rfl))) (Or.inl (hw _ (List.mem_of_getElem? (i := 47) rfl))) (by decide) (t := .int) (t' := .int) (by decide) (by decide))), F12.other W (Or.inr (slot_ne (C := "com/example/tollbook/tollbook/ber/TlvChains") (Or.inl (hw _ (List.mem_of_getElem? (i := 73) rfl))) (Or.inl (hw _ (List.mem_of_getElem? (i := 47) rfl))) (by decide) (t := .int) (t' := .int) (by decide) (by decide))), F13.other W (Or.inr (slot_ne (C := "com/example/tollbook/tollbook/ber/TlvChains") (Or.inl (hw _ (List.mem_of_getElem? (i := 35) rfl))) (Or.inl (hw _ (List.mem_of_getElem? (i := 47) rfl))) (by decide) (t := (.array .int)) (t' := .int) (by decide) (by decide)))⟩
theorem TC.set_soughtClass {Z : State} {h h' : Heap} {a : Addr} {a0 : Array Value} {w : Value} {v0 v1 v2 v3 v4 v5 v6 v7 v8 v9 v10 v11 v12 v13 : Value} (hw : ∀ d ∈ tables_1, d.before a0 Z = true) (R : TC Z h a v0 v1 v2 v3 v4 v5 v6 v7 v8 v9 v10 v11 v12 v13) (W : Wr h h' a (RoadKit.slotOf Z "com/example/tollbook/tollbook/ber/TlvChains" "soughtClass" "I") w) : TC Z h' a v0 v1 v2 v3 v4 v5 v6 v7 v8 v9 v10 w v12 v13 := by
  obtain ⟨E, F0, F1, F2, F3, F4, F5, F6, F7, F8, F9, F10, F11, F12, F13⟩ := R
  exact ⟨E.wr W, F0.other W (Or.inr (slot_ne (C := "com/example/tollbook/tollbook/ber/TlvChains") (Or.inl (hw _ (List.mem_of_getElem? (i := 49) rfl))) (Or.inl (hw _ (List.mem_of_getElem? (i := 33) rfl))) (by decide) (t := .int) (t' := .int) (by decide) (by decide))), F1.other W (Or.inr (slot_ne (C := "com/example/tollbook/tollbook/ber/TlvChains") (Or.inl (hw _ (List.mem_of_getElem? (i := 11) rfl))) (Or.inl (hw _ (List.mem_of_getElem? (i := 33) rfl))) (by decide) (t := .int) (t' := .int) (by decide) (by decide))), F2.other W (Or.inr (slot_ne (C := "com/example/tollbook/tollbook/ber/TlvChains") (Or.inl (hw _ (List.mem_of_getElem? (i := 14) rfl))) (Or.inl (hw _ (List.mem_of_getElem? (i := 33) rfl))) (by decide) (t := (.array .int)) (t' := .int) (by decide) (by decide))), F3.other W (Or.inr (slot_ne (C := "com/example/tollbook/tollbook/ber/TlvChains") (Or.inl (hw _ (List.mem_of_getElem? (i := 16) rfl))) (Or.inl (hw _ (List.mem_of_getElem? (i := 33) rfl))) (by decide) (t := (.array .int)) (t' := .int) (by decide) (by decide))), F4.other W (Or.inr (slot_ne (C := "com/example/tollbook/tollbook/ber/TlvChains") (Or.inl (hw _ (List.mem_of_getElem? (i := 18) rfl))) (Or.inl (hw _ (List.mem_of_getElem? (i := 33) rfl))) (by decide) (t := (.array .int)) (t' := .int) (by decide) (by decide))), F5.other W (Or.inr (slot_ne (C := "com/example/tollbook/tollbook/ber/TlvChains") (Or.inl (hw _ (List.mem_of_getElem? (i := 21) rfl))) (Or.inl (hw _ (List.mem_of_getElem? (i := 33) rfl))) (by decide) (t := (.array .byte)) (t' := .int) (by decide) (by decide))), F6.other W (Or.inr (slot_ne (C := "com/example/tollbook/tollbook/ber/TlvChains") (Or.inl (hw _ (List.mem_of_getElem? (i := 23) rfl))) (Or.inl (hw _ (List.mem_of_getElem? (i := 33) rfl))) (by decide) (t := (.array .int)) (t' := .int) (by decide) (by decide))), F7.other W (Or.inr (slot_ne (C := "com/example/tollbook/tollbook/ber/TlvChains") (Or.inl (hw _ (List.mem_of_getElem? (i := 25) rfl))) (Or.inl (hw _ (List.mem_of_getElem? (i := 33) rfl))) (by decide) (t := (.array .int)) (t' := .int) (by decide) (by decide))), F8.other W (Or.inr (slot_ne (C := "com/example/tollbook/tollbook/ber/TlvChains") (Or.inl (hw _ (List.mem_of_getElem? (i := 29) rfl))) (Or.inl (hw _ (List.mem_of_getElem? (i := 33) rfl))) (by decide) (t := (.array (.object "com/example/tollbook/tollbook/ber/BerException"))) (t' := .int) (by decide) (by decide))), F9.other W (Or.inr (slot_ne (C := "com/example/tollbook/tollbook/ber/TlvChains") (Or.inl (hw _ (List.mem_of_getElem? (i := 31) rfl))) (Or.inl (hw _ (List.mem_of_getElem? (i := 33) rfl))) (by decide) (t := (.array .int)) (t' := .int) (by decide) (by decide))), F10.other W (Or.inr (slot_ne (C := "com/example/tollbook/tollbook/ber/TlvChains") (Or.inl (hw _ (List.mem_of_getElem? (i := 47) rfl))) (Or.inl (hw _ (List.mem_of_getElem? (i := 33) rfl))) (by decide) (t := .int) (t' := .int) (by decide) (by decide))), F11.same W, F12.other W (Or.inr (slot_ne (C := "com/example/tollbook/tollbook/ber/TlvChains") (Or.inl (hw _ (List.mem_of_getElem? (i := 73) rfl))) (Or.inl (hw _ (List.mem_of_getElem? (i := 33) rfl))) (by decide) (t := .int) (t' := .int) (by decide) (by decide))), F13.other W (Or.inr (slot_ne (C := "com/example/tollbook/tollbook/ber/TlvChains") (Or.inl (hw _ (List.mem_of_getElem? (i := 35) rfl))) (Or.inl (hw _ (List.mem_of_getElem? (i := 33) rfl))) (by decide) (t := (.array .int)) (t' := .int) (by decide) (by decide)))⟩
theorem TC.set_soughtNumber {Z : State} {h h' : Heap} {a : Addr} {a0 : Array Value} {w : Value} {v0 v1 v2 v3 v4 v5 v6 v7 v8 v9 v10 v11 v12 v13 : Value} (hw : ∀ d ∈ tables_1, d.before a0 Z = true) (R : TC Z h a v0 v1 v2 v3 v4 v5 v6 v7 v8 v9 v10 v11 v12 v13) (W : Wr h h' a (RoadKit.slotOf Z "com/example/tollbook/tollbook/ber/TlvChains" "soughtNumber" "I") w) : TC Z h' a v0 v1 v2 v3 v4 v5 v6 v7 v8 v9 v10 v11 w v13 := by
  obtain ⟨E, F0, F1, F2, F3, F4, F5, F6, F7, F8, F9, F10, F11, F12, F13⟩ := R
  exact ⟨E.wr W, F0.other W (Or.inr (slot_ne (C := "com/example/tollbook/tollbook/ber/TlvChains") (Or.inl (hw _ (List.mem_of_getElem? (i := 49) rfl))) (Or.inl (hw _ (List.mem_of_getElem? (i := 73) rfl))) (by decide) (t := .int) (t' := .int) (by decide) (by decide))), F1.other W (Or.inr (slot_ne (C := "com/example/tollbook/tollbook/ber/TlvChains") (Or.inl (hw _ (List.mem_of_getElem? (i := 11) rfl))) (Or.inl (hw _ (List.mem_of_getElem? (i := 73) rfl))) (by decide) (t := .int) (t' := .int) (by decide) (by decide))), F2.other W (Or.inr (slot_ne (C := "com/example/tollbook/tollbook/ber/TlvChains") (Or.inl (hw _ (List.mem_of_getElem? (i := 14) rfl))) (Or.inl (hw _ (List.mem_of_getElem? (i := 73) rfl))) (by decide) (t := (.array .int)) (t' := .int) (by decide) (by decide))), F3.other W (Or.inr (slot_ne (C := "com/example/tollbook/tollbook/ber/TlvChains") (Or.inl (hw _ (List.mem_of_getElem? (i := 16) rfl))) (Or.inl (hw _ (List.mem_of_getElem? (i := 73) rfl))) (by decide) (t := (.array .int)) (t' := .int) (by decide) (by decide))), F4.other W (Or.inr (slot_ne (C := "com/example/tollbook/tollbook/ber/TlvChains") (Or.inl (hw _ (List.mem_of_getElem? (i := 18) rfl))) (Or.inl (hw _ (List.mem_of_getElem? (i := 73) rfl))) (by decide) (t := (.array .int)) (t' := .int) (by decide) (by decide))), F5.other W (Or.inr (slot_ne (C := "com/example/tollbook/tollbook/ber/TlvChains") (Or.inl (hw _ (List.mem_of_getElem? (i := 21) rfl))) (Or.inl (hw _ (List.mem_of_getElem? (i := 73) rfl))) (by decide) (t := (.array .byte)) (t' := .int) (by decide) (by decide))), F6.other W (Or.inr (slot_ne (C := "com/example/tollbook/tollbook/ber/TlvChains") (Or.inl (hw _ (List.mem_of_getElem? (i := 23) rfl))) (Or.inl (hw _ (List.mem_of_getElem? (i := 73) rfl))) (by decide) (t := (.array .int)) (t' := .int) (by decide) (by decide))), F7.other W (Or.inr (slot_ne (C := "com/example/tollbook/tollbook/ber/TlvChains") (Or.inl (hw _ (List.mem_of_getElem? (i := 25) rfl))) (Or.inl (hw _ (List.mem_of_getElem? (i := 73) rfl))) (by decide) (t := (.array .int)) (t' := .int) (by decide) (by decide))), F8.other W (Or.inr (slot_ne (C := "com/example/tollbook/tollbook/ber/TlvChains") (Or.inl (hw _ (List.mem_of_getElem? (i := 29) rfl))) (Or.inl (hw _ (List.mem_of_getElem? (i := 73) rfl))) (by decide) (t := (.array (.object "com/example/tollbook/tollbook/ber/BerException"))) (t' := .int) (by decide) (by decide))), F9.other W (Or.inr (slot_ne (C := "com/example/tollbook/tollbook/ber/TlvChains") (Or.inl (hw _ (List.mem_of_getElem? (i := 31) rfl))) (Or.inl (hw _ (List.mem_of_getElem? (i := 73) rfl))) (by decide) (t := (.array .int)) (t' := .int) (by decide) (by decide))), F10.other W (Or.inr (slot_ne (C := "com/example/tollbook/tollbook/ber/TlvChains") (Or.inl (hw _ (List.mem_of_getElem? (i := 47) rfl))) (Or.inl (hw _ (List.mem_of_getElem? (i := 73) rfl))) (by decide) (t := .int) (t' := .int) (by decide) (by decide))), F11.other W (Or.inr (slot_ne (C := "com/example/tollbook/tollbook/ber/TlvChains") (Or.inl (hw _ (List.mem_of_getElem? (i := 33) rfl))) (Or.inl (hw _ (List.mem_of_getElem? (i := 73) rfl))) (by decide) (t := .int) (t' := .int) (by decide) (by decide))), F12.same W, F13.other W (Or.inr (slot_ne (C := "com/example/tollbook/tollbook/ber/TlvChains") (Or.inl (hw _ (List.mem_of_getElem? (i := 35) rfl))) (Or.inl (hw _ (List.mem_of_getElem? (i := 73) rfl))) (by decide) (t := (.array .int)) (t' := .int) (by decide) (by decide)))⟩
theorem TC.set_path {Z : State} {h h' : Heap} {a : Addr} {a0 : Array Value} {w : Value} {v0 v1 v2 v3 v4 v5 v6 v7 v8 v9 v10 v11 v12 v13 : Value} (hw : ∀ d ∈ tables_1, d.before a0 Z = true) (R : TC Z h a v0 v1 v2 v3 v4 v5 v6 v7 v8 v9 v10 v11 v12 v13) (W : Wr h h' a (RoadKit.slotOf Z "com/example/tollbook/tollbook/ber/TlvChains" "path" "[I") w) : TC Z h' a v0 v1 v2 v3 v4 v5 v6 v7 v8 v9 v10 v11 v12 w := by
  obtain ⟨E, F0, F1, F2, F3, F4, F5, F6, F7, F8, F9, F10, F11, F12, F13⟩ := R
  exact ⟨E.wr W, F0.other W (Or.inr (slot_ne (C := "com/example/tollbook/tollbook/ber/TlvChains") (Or.inl (hw _ (List.mem_of_getElem? (i := 49) rfl))) (Or.inl (hw _ (List.mem_of_getElem? (i := 35) rfl))) (by decide) (t := .int) (t' := (.array .int)) (by decide) (by decide))), F1.other W (Or.inr (slot_ne (C := "com/example/tollbook/tollbook/ber/TlvChains") (Or.inl (hw _ (List.mem_of_getElem? (i := 11) rfl))) (Or.inl (hw _ (List.mem_of_getElem? (i := 35) rfl))) (by decide) (t := .int) (t' := (.array .int)) (by decide) (by decide))), F2.other W (Or.inr (slot_ne (C := "com/example/tollbook/tollbook/ber/TlvChains") (Or.inl (hw _ (List.mem_of_getElem? (i := 14) rfl))) (Or.inl (hw _ (List.mem_of_getElem? (i := 35) rfl))) (by decide) (t := (.array .int)) (t' := (.array .int)) (by decide) (by decide))), F3.other W (Or.inr (slot_ne (C := "com/example/tollbook/tollbook/ber/TlvChains") (Or.inl (hw _ (List.mem_of_getElem? (i := 16) rfl))) (Or.inl (hw _ (List.mem_of_getElem? (i := 35) rfl))) (by decide) (t := (.array .int)) (t' := (.array .int)) (by decide) (by decide))), F4.other W (Or.inr (slot_ne (C := "com/example/tollbook/tollbook/ber/TlvChains") (Or.inl (hw _ (List.mem_of_getElem? (i := 18) rfl))) (Or.inl (hw _ (List.mem_of_getElem? (i := 35) rfl))) (by decide) (t := (.array .int)) (t' := (.array .int)) (by decide) (by decide))), F5.other W (Or.inr (slot_ne (C := "com/example/tollbook/tollbook/ber/TlvChains") (Or.inl (hw _ (List.mem_of_getElem? (i := 21) rfl))) (Or.inl (hw _ (List.mem_of_getElem? (i := 35) rfl))) (by decide) (t := (.array .byte)) (t' := (.array .int)) (by decide) (by decide))), F6.other W (Or.inr (slot_ne (C := "com/example/tollbook/tollbook/ber/TlvChains") (Or.inl (hw _ (List.mem_of_getElem? (i := 23) rfl))) (Or.inl (hw _ (List.mem_of_getElem? (i := 35) rfl))) (by decide) (t := (.array .int)) (t' := (.array .int)) (by decide) (by decide))), F7.other W (Or.inr (slot_ne (C := "com/example/tollbook/tollbook/ber/TlvChains") (Or.inl (hw _ (List.mem_of_getElem? (i := 25) rfl))) (Or.inl (hw _ (List.mem_of_getElem? (i := 35) rfl))) (by decide) (t := (.array .int)) (t' := (.array .int)) (by decide) (by decide))), F8.other W (Or.inr (slot_ne (C := "com/example/tollbook/tollbook/ber/TlvChains") (Or.inl (hw _ (List.mem_of_getElem? (i := 29) rfl))) (Or.inl (hw _ (List.mem_of_getElem? (i := 35) rfl))) (by decide) (t := (.array (.object "com/example/tollbook/tollbook/ber/BerException"))) (t' := (.array .int)) (by decide) (by decide))), F9.other W (Or.inr (slot_ne (C := "com/example/tollbook/tollbook/ber/TlvChains") (Or.inl (hw _ (List.mem_of_getElem? (i := 31) rfl))) (Or.inl (hw _ (List.mem_of_getElem? (i := 35) rfl))) (by decide) (t := (.array .int)) (t' := (.array .int)) (by decide) (by decide))), F10.other W (Or.inr (slot_ne (C := "com/example/tollbook/tollbook/ber/TlvChains") (Or.inl (hw _ (List.mem_of_getElem? (i := 47) rfl))) (Or.inl (hw _ (List.mem_of_getElem? (i := 35) rfl))) (by decide) (t := .int) (t' := (.array .int)) (by decide) (by decide))), F11.other W (Or.inr (slot_ne (C := "com/example/tollbook/tollbook/ber/TlvChains") (Or.inl (hw _ (List.mem_of_getElem? (i := 33) rfl))) (Or.inl (hw _ (List.mem_of_getElem? (i := 35) rfl))) (by decide) (t := .int) (t' := (.array .int)) (by decide) (by decide))), F12.other W (Or.inr (slot_ne (C := "com/example/tollbook/tollbook/ber/TlvChains") (Or.inl (hw _ (List.mem_of_getElem? (i := 73) rfl))) (Or.inl (hw _ (List.mem_of_getElem? (i := 35) rfl))) (by decide) (t := .int) (t' := (.array .int)) (by decide) (by decide))), F13.same W⟩
theorem own_add (x y : Int32) (h1 : -2147483648 ≤ x.toInt + y.toInt) (h2 : x.toInt + y.toInt < 2147483648) : (x + y).toInt = x.toInt + y.toInt := by
  have := c_iadd x y; have := rng32 (x + y); omega
theorem own_sub (x y : Int32) (h1 : -2147483648 ≤ x.toInt - y.toInt) (h2 : x.toInt - y.toInt < 2147483648) : (x - y).toInt = x.toInt - y.toInt := by
  have := c_isub x y; have := rng32 (x - y); omega
theorem own_addk (x k : Int32) (K : Int) (hk : k.toInt = K) (h0 : 0 ≤ K) (h : x.toInt + K < 2147483648) : (x + k).toInt = x.toInt + K := by
  subst hk; have := rng32 x; exact own_add x k (by omega) h
theorem own_subk (x k : Int32) (K : Int) (hk : k.toInt = K) (h0 : 0 ≤ K) (h : -2147483648 ≤ x.toInt - K) : (x - k).toInt = x.toInt - K := by
  subst hk; have := rng32 x; exact own_sub x k h (by omega)
theorem d1_0 : decode prog_32_method_1_code 0 = .ok (.aload_n 0, 1) := by decide +kernel
theorem d1_1 : decode prog_32_method_1_code 1 = .ok (.invokespecial 1, 3) := by decide +kernel
theorem d1_4 : decode prog_32_method_1_code 4 = .ok (.aload_n 0, 1) := by decide +kernel
theorem d1_5 : decode prog_32_method_1_code 5 = .ok (.iconst (-1), 1) := by decide +kernel
theorem d1_6 : decode prog_32_method_1_code 6 = .ok (.putfield 7, 3) := by decide +kernel
theorem d1_9 : decode prog_32_method_1_code 9 = .ok (.aload_n 0, 1) := by decide +kernel
theorem d1_10 : decode prog_32_method_1_code 10 = .ok (.iconst 0, 1) := by decide +kernel
theorem d1_11 : decode prog_32_method_1_code 11 = .ok (.newarray .int, 2) := by decide +kernel
theorem d1_13 : decode prog_32_method_1_code 13 = .ok (.putfield 13, 3) := by decide +kernel
theorem d1_16 : decode prog_32_method_1_code 16 = .ok (.aload_n 0, 1) := by decide +kernel
theorem d1_17 : decode prog_32_method_1_code 17 = .ok (.iconst 0, 1) := by decide +kernel
theorem d1_18 : decode prog_32_method_1_code 18 = .ok (.newarray .int, 2) := by decide +kernel
theorem d1_20 : decode prog_32_method_1_code 20 = .ok (.putfield 17, 3) := by decide +kernel
theorem d1_23 : decode prog_32_method_1_code 23 = .ok (.aload_n 0, 1) := by decide +kernel
theorem d1_24 : decode prog_32_method_1_code 24 = .ok (.iconst 0, 1) := by decide +kernel
theorem d1_25 : decode prog_32_method_1_code 25 = .ok (.newarray .int, 2) := by decide +kernel
theorem d1_27 : decode prog_32_method_1_code 27 = .ok (.putfield 20, 3) := by decide +kernel
theorem d1_30 : decode prog_32_method_1_code 30 = .ok (.aload_n 0, 1) := by decide +kernel
theorem d1_31 : decode prog_32_method_1_code 31 = .ok (.iconst 0, 1) := by decide +kernel
theorem d1_32 : decode prog_32_method_1_code 32 = .ok (.newarray .byte, 2) := by decide +kernel
theorem d1_34 : decode prog_32_method_1_code 34 = .ok (.putfield 23, 3) := by decide +kernel
theorem d1_37 : decode prog_32_method_1_code 37 = .ok (.aload_n 0, 1) := by decide +kernel
theorem d1_38 : decode prog_32_method_1_code 38 = .ok (.iconst 0, 1) := by decide +kernel
theorem d1_39 : decode prog_32_method_1_code 39 = .ok (.newarray .int, 2) := by decide +kernel
theorem d1_41 : decode prog_32_method_1_code 41 = .ok (.putfield 27, 3) := by decide +kernel
theorem d1_44 : decode prog_32_method_1_code 44 = .ok (.aload_n 0, 1) := by decide +kernel
theorem d1_45 : decode prog_32_method_1_code 45 = .ok (.iconst 0, 1) := by decide +kernel
theorem d1_46 : decode prog_32_method_1_code 46 = .ok (.newarray .int, 2) := by decide +kernel
theorem d1_48 : decode prog_32_method_1_code 48 = .ok (.putfield 30, 3) := by decide +kernel
theorem d1_51 : decode prog_32_method_1_code 51 = .ok (.aload_n 0, 1) := by decide +kernel
theorem d1_52 : decode prog_32_method_1_code 52 = .ok (.iconst 0, 1) := by decide +kernel
theorem d1_53 : decode prog_32_method_1_code 53 = .ok (.anewarray 33, 3) := by decide +kernel
theorem d1_56 : decode prog_32_method_1_code 56 = .ok (.putfield 35, 3) := by decide +kernel
theorem d1_59 : decode prog_32_method_1_code 59 = .ok (.aload_n 0, 1) := by decide +kernel
theorem d1_60 : decode prog_32_method_1_code 60 = .ok (.bipush 16, 2) := by decide +kernel
theorem d1_62 : decode prog_32_method_1_code 62 = .ok (.newarray .int, 2) := by decide +kernel
theorem d1_64 : decode prog_32_method_1_code 64 = .ok (.putfield 39, 3) := by decide +kernel
theorem d1_67 : decode prog_32_method_1_code 67 = .ok (.aload_n 0, 1) := by decide +kernel
theorem d1_68 : decode prog_32_method_1_code 68 = .ok (.iconst (-1), 1) := by decide +kernel
theorem d1_69 : decode prog_32_method_1_code 69 = .ok (.putfield 42, 3) := by decide +kernel
theorem d1_72 : decode prog_32_method_1_code 72 = .ok (.aload_n 0, 1) := by decide +kernel
theorem d1_73 : decode prog_32_method_1_code 73 = .ok (.bipush 16, 2) := by decide +kernel
theorem d1_75 : decode prog_32_method_1_code 75 = .ok (.newarray .int, 2) := by decide +kernel
theorem d1_77 : decode prog_32_method_1_code 77 = .ok (.putfield 45, 3) := by decide +kernel
theorem d1_80 : decode prog_32_method_1_code 80 = .ok (.return_, 1) := by decide +kernel
def k1 : OM := (prog_32_method_1_code, 1, "com/example/tollbook/tollbook/ber/TlvChains", "<init>", none, { frames := 1, cells := 9, slots := 32, locals := 13 })
theorem pn1 : plainFor (⟨"com/example/tollbook/tollbook/ber/TlvChains", "<init>", "()V"⟩ : MethodName) = true := plainFor_of_name (by first | (simp [plainName, overriddenIn]; done) | decide +kernel)
theorem pd1 : parseMethodDescriptor "()V" = some ⟨[], none⟩ := by decide +kernel
set_option maxRecDepth 65536 in
set_option maxHeartbeats 4000000 in
theorem C_init {Z : State} {ω : OW} {h : Heap} (hw_ : ∀ d ∈ tables_1, d.before ω.2.2 Z = true) (hn_ : ω.2.1 ≤ h.size) (a : Addr) (F0 : TC Z h a (.int (0 : Int32)) (.int (0 : Int32)) .null .null .null .null .null .null .null .null (.int (0 : Int32)) (.int (0 : Int32)) (.int (0 : Int32)) .null) (ga : ω.2.1 ≤ a) :
    oC Z ω (⟨"com/example/tollbook/tollbook/ber/TlvChains", "<init>", "()V"⟩ : MethodName) k1 [] #[.ref a] h (fun v h' => v = none ∧ ∃ aN aJ aD aC aT aR aF aL aP, Keep h h' [a] ∧ List.Nodup [a, aN, aJ, aD, aC, aT, aR, aF, aL, aP] ∧ (∀ x ∈ [a, aN, aJ, aD, aC, aT, aR, aF, aL, aP], ω.2.1 ≤ x) ∧ (∀ x ∈ [aN, aJ, aD, aC, aT, aR, aF, aL, aP], h.size ≤ x) ∧ TC Z h' a (.int (0 : Int32)) (.int (-1 : Int32)) (.ref aN) (.ref aJ) (.ref aD) (.ref aC) (.ref aT) (.ref aR) (.ref aF) (.ref aL) (.int (0 : Int32)) (.int (-1 : Int32)) (.int (0 : Int32)) (.ref aP) ∧ oA Z h' aN .int 0 (fun i => .int (oZI i)) ∧ oA Z h' aL .int 16 (fun i => .int (oZI i)) ∧ oA Z h' aP .int 16 (fun i => .int (oZI i))) := by
  refine oC_of hw_ hn_ pn1 rfl rfl (L := #[.val (.ref a)]) (fun m => by first | (simp [entryFrame, mkF, argsToLocals, Value.category, k1]; done) | rfl) ?_
  intro γ T X
  refine ow_aloadN X 1 d1_0 rfl rfl rfl ?_
  refine ow_initO X 4 7 8 9 rfl rfl rfl rfl d1_1 rfl rfl (by decide) (W := 0) (Nat.le_of_eq rfl) (by decide) ?_
  intro T_1 X_1
  refine ow_aloadN X_1 5 d1_4 rfl rfl rfl ?_
  refine ow_iconst X_1 6 (-1 : Int32) d1_5 rfl rfl ?_
  refine ow_putF X_1 9 10 2 rfl rfl F0.2.2.1 F0.1 (Or.inl (oSt_at X_1 11 rfl)) rfl (ty := .int) (by decide) rfl rfl ga d1_6 rfl ?_
  intro T_2 h_2 X_2 W_2
  have f3_0 : TC Z h_2 a (.int (0 : Int32)) (.int (-1 : Int32)) .null .null .null .null .null .null .null .null (.int (0 : Int32)) (.int (0 : Int32)) (.int (0 : Int32)) .null := TC.set_limit (oSt_w X_2) F0 W_2
  have f3_1 : Keep h h_2 [a] := (Keep.refl h [a]).wr W_2 (Or.inl (List.mem_of_getElem? (i := 0) rfl))
  refine ow_aloadN X_2 10 d1_9 rfl rfl rfl ?_
  refine ow_iconst X_2 11 (0 : Int32) d1_10 rfl rfl ?_
  refine ow_newP X_2 13 12 (cap := 0) rfl d1_11 rfl (by decide) (by decide) (by decide) (by decide) (by decide) ?_
  intro T_4 h_4 a_4 q_4 X_4 E_4 A_4 g_4
  have ne_a_a_4 : a ≠ a_4 := by rw [q_4]; exact Nat.ne_of_lt f3_0.lt
  have ge_h_a_4 : h.size ≤ a_4 := by rw [q_4]; exact f3_1.1
  have f5_0 : TC Z h_4 a (.int (0 : Int32)) (.int (-1 : Int32)) .null .null .null .null .null .null .null .null (.int (0 : Int32)) (.int (0 : Int32)) (.int (0 : Int32)) .null := f3_0.ext E_4
  have f5_1 : Keep h h_4 [a] := f3_1.ext E_4
  have A_4 : oA Z h_4 a_4 .int ((0 : Int32).toInt.toNat) (fun i => .int (oZI i)) := A_4
  refine ow_putF X_4 16 13 2 rfl rfl f5_0.2.2.2.1 f5_0.1 (Or.inl (oSt_at X_4 14 rfl)) rfl (ty := (.array .int)) (by decide) rfl rfl ga d1_13 rfl ?_
  intro T_6 h_6 X_6 W_6
  have f7_0 : TC Z h_6 a (.int (0 : Int32)) (.int (-1 : Int32)) (.ref a_4) .null .null .null .null .null .null .null (.int (0 : Int32)) (.int (0 : Int32)) (.int (0 : Int32)) .null := TC.set_nexts (oSt_w X_6) f5_0 W_6
  have f7_1 : Keep h h_6 [a] := f5_1.wr W_6 (Or.inl (List.mem_of_getElem? (i := 0) rfl))
  have f7_2 : oA Z h_6 a_4 .int ((0 : Int32).toInt.toNat) (fun i => .int (oZI i)) := A_4.other W_6 (Ne.symm ne_a_a_4)
  refine ow_aloadN X_6 17 d1_16 rfl rfl rfl ?_
  refine ow_iconst X_6 18 (0 : Int32) d1_17 rfl rfl ?_
  refine ow_newP X_6 20 12 (cap := 0) rfl d1_18 rfl (by decide) (by decide) (by decide) (by decide) (by decide) ?_
  intro T_8 h_8 a_8 q_8 X_8 E_8 A_8 g_8
  have ne_a_a_8 : a ≠ a_8 := by rw [q_8]; exact Nat.ne_of_lt f7_0.lt
  have ge_h_a_8 : h.size ≤ a_8 := by rw [q_8]; exact f7_1.1
  have ne_a_4_a_8 : a_4 ≠ a_8 := by rw [q_8]; exact Nat.ne_of_lt f7_2.lt
  have f9_0 : TC Z h_8 a (.int (0 : Int32)) (.int (-1 : Int32)) (.ref a_4) .null .null .null .null .null .null .null (.int (0 : Int32)) (.int (0 : Int32)) (.int (0 : Int32)) .null := f7_0.ext E_8
  have f9_1 : Keep h h_8 [a] := f7_1.ext E_8
  have f9_2 : oA Z h_8 a_4 .int ((0 : Int32).toInt.toNat) (fun i => .int (oZI i)) := f7_2.ext E_8
  have A_8 : oA Z h_8 a_8 .int ((0 : Int32).toInt.toNat) (fun i => .int (oZI i)) := A_8
  refine ow_putF X_8 23 15 2 rfl rfl f9_0.2.2.2.2.1 f9_0.1 (Or.inl (oSt_at X_8 16 rfl)) rfl (ty := (.array .int)) (by decide) rfl rfl ga d1_20 rfl ?_
  intro T_10 h_10 X_10 W_10
  have f11_0 : TC Z h_10 a (.int (0 : Int32)) (.int (-1 : Int32)) (.ref a_4) (.ref a_8) .null .null .null .null .null .null (.int (0 : Int32)) (.int (0 : Int32)) (.int (0 : Int32)) .null := TC.set_jumps (oSt_w X_10) f9_0 W_10
  have f11_1 : Keep h h_10 [a] := f9_1.wr W_10 (Or.inl (List.mem_of_getElem? (i := 0) rfl))
  have f11_2 : oA Z h_10 a_4 .int ((0 : Int32).toInt.toNat) (fun i => .int (oZI i)) := f9_2.other W_10 (Ne.symm ne_a_a_4)
  have f11_3 : oA Z h_10 a_8 .int ((0 : Int32).toInt.toNat) (fun i => .int (oZI i)) := A_8.other W_10 (Ne.symm ne_a_a_8)
  refine ow_aloadN X_10 24 d1_23 rfl rfl rfl ?_
  refine ow_iconst X_10 25 (0 : Int32) d1_24 rfl rfl ?_
  refine ow_newP X_10 27 12 (cap := 0) rfl d1_25 rfl (by decide) (by decide) (by decide) (by decide) (by decide) ?_
  intro T_12 h_12 a_12 q_12 X_12 E_12 A_12 g_12
  have ne_a_a_12 : a ≠ a_12 := by rw [q_12]; exact Nat.ne_of_lt f11_0.lt
  have ge_h_a_12 : h.size ≤ a_12 := by rw [q_12]; exact f11_1.1
  have ne_a_4_a_12 : a_4 ≠ a_12 := by rw [q_12]; exact Nat.ne_of_lt f11_2.lt
  have ne_a_8_a_12 : a_8 ≠ a_12 := by rw [q_12]; exact Nat.ne_of_lt f11_3.lt
  have f13_0 : TC Z h_12 a (.int (0 : Int32)) (.int (-1 : Int32)) (.ref a_4) (.ref a_8) .null .null .null .null .null .null (.int (0 : Int32)) (.int (0 : Int32)) (.int (0 : Int32)) .null := f11_0.ext E_12
  have f13_1 : Keep h h_12 [a] := f11_1.ext E_12
  have f13_2 : oA Z h_12 a_4 .int ((0 : Int32).toInt.toNat) (fun i => .int (oZI i)) := f11_2.ext E_12
  have f13_3 : oA Z h_12 a_8 .int ((0 : Int32).toInt.toNat) (fun i => .int (oZI i)) := f11_3.ext E_12
  have A_12 : oA Z h_12 a_12 .int ((0 : Int32).toInt.toNat) (fun i => .int (oZI i)) := A_12
  refine ow_putF X_12 30 17 2 rfl rfl f13_0.2.2.2.2.2.1 f13_0.1 (Or.inl (oSt_at X_12 18 rfl)) rfl (ty := (.array .int)) (by decide) rfl rfl ga d1_27 rfl ?_
  intro T_14 h_14 X_14 W_14
  have f15_0 : TC Z h_14 a (.int (0 : Int32)) (.int (-1 : Int32)) (.ref a_4) (.ref a_8) (.ref a_12) .null .null .null .null .null (.int (0 : Int32)) (.int (0 : Int32)) (.int (0 : Int32)) .null := TC.set_depths (oSt_w X_14) f13_0 W_14
  have f15_1 : Keep h h_14 [a] := f13_1.wr W_14 (Or.inl (List.mem_of_getElem? (i := 0) rfl))
  have f15_2 : oA Z h_14 a_4 .int ((0 : Int32).toInt.toNat) (fun i => .int (oZI i)) := f13_2.other W_14 (Ne.symm ne_a_a_4)
  have f15_3 : oA Z h_14 a_8 .int ((0 : Int32).toInt.toNat) (fun i => .int (oZI i)) := f13_3.other W_14 (Ne.symm ne_a_a_8)
  have f15_4 : oA Z h_14 a_12 .int ((0 : Int32).toInt.toNat) (fun i => .int (oZI i)) := A_12.other W_14 (Ne.symm ne_a_a_12)
  refine ow_aloadN X_14 31 d1_30 rfl rfl rfl ?_
  refine ow_iconst X_14 32 (0 : Int32) d1_31 rfl rfl ?_
  refine ow_newP X_14 34 19 (cap := 0) rfl d1_32 rfl (by decide) (by decide) (by decide) (by decide) (by decide) ?_
  intro T_16 h_16 a_16 q_16 X_16 E_16 A_16 g_16
  have ne_a_a_16 : a ≠ a_16 := by rw [q_16]; exact Nat.ne_of_lt f15_0.lt
  have ge_h_a_16 : h.size ≤ a_16 := by rw [q_16]; exact f15_1.1
  have ne_a_4_a_16 : a_4 ≠ a_16 := by rw [q_16]; exact Nat.ne_of_lt f15_2.lt
  have ne_a_8_a_16 : a_8 ≠ a_16 := by rw [q_16]; exact Nat.ne_of_lt f15_3.lt
  have ne_a_12_a_16 : a_12 ≠ a_16 := by rw [q_16]; exact Nat.ne_of_lt f15_4.lt
  have f17_0 : TC Z h_16 a (.int (0 : Int32)) (.int (-1 : Int32)) (.ref a_4) (.ref a_8) (.ref a_12) .null .null .null .null .null (.int (0 : Int32)) (.int (0 : Int32)) (.int (0 : Int32)) .null := f15_0.ext E_16
  have f17_1 : Keep h h_16 [a] := f15_1.ext E_16
  have f17_2 : oA Z h_16 a_4 .int ((0 : Int32).toInt.toNat) (fun i => .int (oZI i)) := f15_2.ext E_16
  have f17_3 : oA Z h_16 a_8 .int ((0 : Int32).toInt.toNat) (fun i => .int (oZI i)) := f15_3.ext E_16
  have f17_4 : oA Z h_16 a_12 .int ((0 : Int32).toInt.toNat) (fun i => .int (oZI i)) := f15_4.ext E_16
  have A_16 : oA Z h_16 a_16 .byte ((0 : Int32).toInt.toNat) (fun i => .int (oZI i)) := A_16
  refine ow_putF X_16 37 20 2 rfl rfl f17_0.2.2.2.2.2.2.1 f17_0.1 (Or.inl (oSt_at X_16 21 rfl)) rfl (ty := (.array .byte)) (by decide) rfl rfl ga d1_34 rfl ?_
  intro T_18 h_18 X_18 W_18
  have f19_0 : TC Z h_18 a (.int (0 : Int32)) (.int (-1 : Int32)) (.ref a_4) (.ref a_8) (.ref a_12) (.ref a_16) .null .null .null .null (.int (0 : Int32)) (.int (0 : Int32)) (.int (0 : Int32)) .null := TC.set_tagClasses (oSt_w X_18) f17_0 W_18
  have f19_1 : Keep h h_18 [a] := f17_1.wr W_18 (Or.inl (List.mem_of_getElem? (i := 0) rfl))
  have f19_2 : oA Z h_18 a_4 .int ((0 : Int32).toInt.toNat) (fun i => .int (oZI i)) := f17_2.other W_18 (Ne.symm ne_a_a_4)
  have f19_3 : oA Z h_18 a_8 .int ((0 : Int32).toInt.toNat) (fun i => .int (oZI i)) := f17_3.other W_18 (Ne.symm ne_a_a_8)
  have f19_4 : oA Z h_18 a_12 .int ((0 : Int32).toInt.toNat) (fun i => .int (oZI i)) := f17_4.other W_18 (Ne.symm ne_a_a_12)
  have f19_5 : oA Z h_18 a_16 .byte ((0 : Int32).toInt.toNat) (fun i => .int (oZI i)) := A_16.other W_18 (Ne.symm ne_a_a_16)
  refine ow_aloadN X_18 38 d1_37 rfl rfl rfl ?_
  refine ow_iconst X_18 39 (0 : Int32) d1_38 rfl rfl ?_
  refine ow_newP X_18 41 12 (cap := 0) rfl d1_39 rfl (by decide) (by decide) (by decide) (by decide) (by decide) ?_
  intro T_20 h_20 a_20 q_20 X_20 E_20 A_20 g_20
  have ne_a_a_20 : a ≠ a_20 := by rw [q_20]; exact Nat.ne_of_lt f19_0.lt
  have ge_h_a_20 : h.size ≤ a_20 := by rw [q_20]; exact f19_1.1
  have ne_a_4_a_20 : a_4 ≠ a_20 := by rw [q_20]; exact Nat.ne_of_lt f19_2.lt
  have ne_a_8_a_20 : a_8 ≠ a_20 := by rw [q_20]; exact Nat.ne_of_lt f19_3.lt
  have ne_a_12_a_20 : a_12 ≠ a_20 := by rw [q_20]; exact Nat.ne_of_lt f19_4.lt
  have ne_a_16_a_20 : a_16 ≠ a_20 := by rw [q_20]; exact Nat.ne_of_lt f19_5.lt
  have f21_0 : TC Z h_20 a (.int (0 : Int32)) (.int (-1 : Int32)) (.ref a_4) (.ref a_8) (.ref a_12) (.ref a_16) .null .null .null .null (.int (0 : Int32)) (.int (0 : Int32)) (.int (0 : Int32)) .null := f19_0.ext E_20
  have f21_1 : Keep h h_20 [a] := f19_1.ext E_20
  have f21_2 : oA Z h_20 a_4 .int ((0 : Int32).toInt.toNat) (fun i => .int (oZI i)) := f19_2.ext E_20
  have f21_3 : oA Z h_20 a_8 .int ((0 : Int32).toInt.toNat) (fun i => .int (oZI i)) := f19_3.ext E_20
  have f21_4 : oA Z h_20 a_12 .int ((0 : Int32).toInt.toNat) (fun i => .int (oZI i)) := f19_4.ext E_20
  have f21_5 : oA Z h_20 a_16 .byte ((0 : Int32).toInt.toNat) (fun i => .int (oZI i)) := f19_5.ext E_20
  have A_20 : oA Z h_20 a_20 .int ((0 : Int32).toInt.toNat) (fun i => .int (oZI i)) := A_20
  refine ow_putF X_20 44 22 2 rfl rfl f21_0.2.2.2.2.2.2.2.1 f21_0.1 (Or.inl (oSt_at X_20 23 rfl)) rfl (ty := (.array .int)) (by decide) rfl rfl ga d1_41 rfl ?_
  intro T_22 h_22 X_22 W_22
  have f23_0 : TC Z h_22 a (.int (0 : Int32)) (.int (-1 : Int32)) (.ref a_4) (.ref a_8) (.ref a_12) (.ref a_16) (.ref a_20) .null .null .null (.int (0 : Int32)) (.int (0 : Int32)) (.int (0 : Int32)) .null := TC.set_tagNumbers (oSt_w X_22) f21_0 W_22
  have f23_1 : Keep h h_22 [a] := f21_1.wr W_22 (Or.inl (List.mem_of_getElem? (i := 0) rfl))
  have f23_2 : oA Z h_22 a_4 .int ((0 : Int32).toInt.toNat) (fun i => .int (oZI i)) := f21_2.other W_22 (Ne.symm ne_a_a_4)
  have f23_3 : oA Z h_22 a_8 .int ((0 : Int32).toInt.toNat) (fun i => .int (oZI i)) := f21_3.other W_22 (Ne.symm ne_a_a_8)
  have f23_4 : oA Z h_22 a_12 .int ((0 : Int32).toInt.toNat) (fun i => .int (oZI i)) := f21_4.other W_22 (Ne.symm ne_a_a_12)
  have f23_5 : oA Z h_22 a_16 .byte ((0 : Int32).toInt.toNat) (fun i => .int (oZI i)) := f21_5.other W_22 (Ne.symm ne_a_a_16)
  have f23_6 : oA Z h_22 a_20 .int ((0 : Int32).toInt.toNat) (fun i => .int (oZI i)) := A_20.other W_22 (Ne.symm ne_a_a_20)
  refine ow_aloadN X_22 45 d1_44 rfl rfl rfl ?_
  refine ow_iconst X_22 46 (0 : Int32) d1_45 rfl rfl ?_
  refine ow_newP X_22 48 12 (cap := 0) rfl d1_46 rfl (by decide) (by decide) (by decide) (by decide) (by decide) ?_
  intro T_24 h_24 a_24 q_24 X_24 E_24 A_24 g_24
  have ne_a_a_24 : a ≠ a_24 := by rw [q_24]; exact Nat.ne_of_lt f23_0.lt
  have ge_h_a_24 : h.size ≤ a_24 := by rw [q_24]; exact f23_1.1
  have ne_a_4_a_24 : a_4 ≠ a_24 := by rw [q_24]; exact Nat.ne_of_lt f23_2.lt
  have ne_a_8_a_24 : a_8 ≠ a_24 := by rw [q_24]; exact Nat.ne_of_lt f23_3.lt
  have ne_a_12_a_24 : a_12 ≠ a_24 := by rw [q_24]; exact Nat.ne_of_lt f23_4.lt
  have ne_a_16_a_24 : a_16 ≠ a_24 := by rw [q_24]; exact Nat.ne_of_lt f23_5.lt
  have ne_a_20_a_24 : a_20 ≠ a_24 := by rw [q_24]; exact Nat.ne_of_lt f23_6.lt
  have f25_0 : TC Z h_24 a (.int (0 : Int32)) (.int (-1 : Int32)) (.ref a_4) (.ref a_8) (.ref a_12) (.ref a_16) (.ref a_20) .null .null .null (.int (0 : Int32)) (.int (0 : Int32)) (.int (0 : Int32)) .null := f23_0.ext E_24
  have f25_1 : Keep h h_24 [a] := f23_1.ext E_24
  have f25_2 : oA Z h_24 a_4 .int ((0 : Int32).toInt.toNat) (fun i => .int (oZI i)) := f23_2.ext E_24
  have f25_3 : oA Z h_24 a_8 .int ((0 : Int32).toInt.toNat) (fun i => .int (oZI i)) := f23_3.ext E_24
  have f25_4 : oA Z h_24 a_12 .int ((0 : Int32).toInt.toNat) (fun i => .int (oZI i)) := f23_4.ext E_24
  have f25_5 : oA Z h_24 a_16 .byte ((0 : Int32).toInt.toNat) (fun i => .int (oZI i)) := f23_5.ext E_24
  have f25_6 : oA Z h_24 a_20 .int ((0 : Int32).toInt.toNat) (fun i => .int (oZI i)) := f23_6.ext E_24
  have A_24 : oA Z h_24 a_24 .int ((0 : Int32).toInt.toNat) (fun i => .int (oZI i)) := A_24
  refine ow_putF X_24 51 24 2 rfl rfl f25_0.2.2.2.2.2.2.2.2.1 f25_0.1 (Or.inl (oSt_at X_24 25 rfl)) rfl (ty := (.array .int)) (by decide) rfl rfl ga d1_48 rfl ?_
  intro T_26 h_26 X_26 W_26
  have f27_0 : TC Z h_26 a (.int (0 : Int32)) (.int (-1 : Int32)) (.ref a_4) (.ref a_8) (.ref a_12) (.ref a_16) (.ref a_20) (.ref a_24) .null .null (.int (0 : Int32)) (.int (0 : Int32)) (.int (0 : Int32)) .null := TC.set_nearest (oSt_w X_26) f25_0 W_26
  have f27_1 : Keep h h_26 [a] := f25_1.wr W_26 (Or.inl (List.mem_of_getElem? (i := 0) rfl))
  have f27_2 : oA Z h_26 a_4 .int ((0 : Int32).toInt.toNat) (fun i => .int (oZI i)) := f25_2.other W_26 (Ne.symm ne_a_a_4)
  have f27_3 : oA Z h_26 a_8 .int ((0 : Int32).toInt.toNat) (fun i => .int (oZI i)) := f25_3.other W_26 (Ne.symm ne_a_a_8)
  have f27_4 : oA Z h_26 a_12 .int ((0 : Int32).toInt.toNat) (fun i => .int (oZI i)) := f25_4.other W_26 (Ne.symm ne_a_a_12)
  have f27_5 : oA Z h_26 a_16 .byte ((0 : Int32).toInt.toNat) (fun i => .int (oZI i)) := f25_5.other W_26 (Ne.symm ne_a_a_16)
  have f27_6 : oA Z h_26 a_20 .int ((0 : Int32).toInt.toNat) (fun i => .int (oZI i)) := f25_6.other W_26 (Ne.symm ne_a_a_20)
  have f27_7 : oA Z h_26 a_24 .int ((0 : Int32).toInt.toNat) (fun i => .int (oZI i)) := A_24.other W_26 (Ne.symm ne_a_a_24)
  refine ow_aloadN X_26 52 d1_51 rfl rfl rfl ?_
  refine ow_iconst X_26 53 (0 : Int32) d1_52 rfl rfl ?_
  refine ow_newR X_26 56 26 27 (cap := 0) rfl rfl rfl d1_53 rfl (by decide) (by decide) (by decide) (by decide) (by decide) ?_
  intro T_28 h_28 a_28 q_28 X_28 E_28 A_28 O_28 g_28
  have ne_a_a_28 : a ≠ a_28 := by rw [q_28]; exact Nat.ne_of_lt f27_0.lt
  have ge_h_a_28 : h.size ≤ a_28 := by rw [q_28]; exact f27_1.1
  have ne_a_4_a_28 : a_4 ≠ a_28 := by rw [q_28]; exact Nat.ne_of_lt f27_2.lt
  have ne_a_8_a_28 : a_8 ≠ a_28 := by rw [q_28]; exact Nat.ne_of_lt f27_3.lt
  have ne_a_12_a_28 : a_12 ≠ a_28 := by rw [q_28]; exact Nat.ne_of_lt f27_4.lt
  have ne_a_16_a_28 : a_16 ≠ a_28 := by rw [q_28]; exact Nat.ne_of_lt f27_5.lt
  have ne_a_20_a_28 : a_20 ≠ a_28 := by rw [q_28]; exact Nat.ne_of_lt f27_6.lt
  have ne_a_24_a_28 : a_24 ≠ a_28 := by rw [q_28]; exact Nat.ne_of_lt f27_7.lt
  have f29_0 : TC Z h_28 a (.int (0 : Int32)) (.int (-1 : Int32)) (.ref a_4) (.ref a_8) (.ref a_12) (.ref a_16) (.ref a_20) (.ref a_24) .null .null (.int (0 : Int32)) (.int (0 : Int32)) (.int (0 : Int32)) .null := f27_0.ext E_28
  have f29_1 : Keep h h_28 [a] := f27_1.ext E_28
  have f29_2 : oA Z h_28 a_4 .int ((0 : Int32).toInt.toNat) (fun i => .int (oZI i)) := f27_2.ext E_28
  have f29_3 : oA Z h_28 a_8 .int ((0 : Int32).toInt.toNat) (fun i => .int (oZI i)) := f27_3.ext E_28
  have f29_4 : oA Z h_28 a_12 .int ((0 : Int32).toInt.toNat) (fun i => .int (oZI i)) := f27_4.ext E_28
  have f29_5 : oA Z h_28 a_16 .byte ((0 : Int32).toInt.toNat) (fun i => .int (oZI i)) := f27_5.ext E_28
  have f29_6 : oA Z h_28 a_20 .int ((0 : Int32).toInt.toNat) (fun i => .int (oZI i)) := f27_6.ext E_28
  have f29_7 : oA Z h_28 a_24 .int ((0 : Int32).toInt.toNat) (fun i => .int (oZI i)) := f27_7.ext E_28
  refine ow_putF X_28 59 28 2 rfl rfl f29_0.2.2.2.2.2.2.2.2.2.1 f29_0.1 (Or.inl (oSt_at X_28 29 rfl)) rfl (ty := (.array (.object "com/example/tollbook/tollbook/ber/BerException"))) (by decide) rfl rfl ga d1_56 rfl ?_
  intro T_30 h_30 X_30 W_30
  have f31_0 : TC Z h_30 a (.int (0 : Int32)) (.int (-1 : Int32)) (.ref a_4) (.ref a_8) (.ref a_12) (.ref a_16) (.ref a_20) (.ref a_24) (.ref a_28) .null (.int (0 : Int32)) (.int (0 : Int32)) (.int (0 : Int32)) .null := TC.set_failures (oSt_w X_30) f29_0 W_30
  have f31_1 : Keep h h_30 [a] := f29_1.wr W_30 (Or.inl (List.mem_of_getElem? (i := 0) rfl))
  have f31_2 : oA Z h_30 a_4 .int ((0 : Int32).toInt.toNat) (fun i => .int (oZI i)) := f29_2.other W_30 (Ne.symm ne_a_a_4)
  have f31_3 : oA Z h_30 a_8 .int ((0 : Int32).toInt.toNat) (fun i => .int (oZI i)) := f29_3.other W_30 (Ne.symm ne_a_a_8)
  have f31_4 : oA Z h_30 a_12 .int ((0 : Int32).toInt.toNat) (fun i => .int (oZI i)) := f29_4.other W_30 (Ne.symm ne_a_a_12)
  have f31_5 : oA Z h_30 a_16 .byte ((0 : Int32).toInt.toNat) (fun i => .int (oZI i)) := f29_5.other W_30 (Ne.symm ne_a_a_16)
  have f31_6 : oA Z h_30 a_20 .int ((0 : Int32).toInt.toNat) (fun i => .int (oZI i)) := f29_6.other W_30 (Ne.symm ne_a_a_20)
  have f31_7 : oA Z h_30 a_24 .int ((0 : Int32).toInt.toNat) (fun i => .int (oZI i)) := f29_7.other W_30 (Ne.symm ne_a_a_24)
  have f31_8 : oA Z h_30 a_28 (.object "com/example/tollbook/tollbook/ber/BerException") ((0 : Int32).toInt.toNat) (fun _ => .null) := A_28.other W_30 (Ne.symm ne_a_a_28)
  have f31_9 : oOv Z h_30 a_28 "com/example/tollbook/tollbook/ber/BerException" := O_28.wr W_30
  refine ow_aloadN X_30 60 d1_59 rfl rfl rfl ?_
  refine ow_bipush X_30 62 (16 : Int32) d1_60 rfl rfl ?_
  refine ow_newP X_30 64 12 (cap := 16) rfl d1_62 rfl (by decide) (by decide) (by decide) (by decide) (by decide) ?_
  intro T_32 h_32 a_32 q_32 X_32 E_32 A_32 g_32
  have ne_a_a_32 : a ≠ a_32 := by rw [q_32]; exact Nat.ne_of_lt f31_0.lt
  have ge_h_a_32 : h.size ≤ a_32 := by rw [q_32]; exact f31_1.1
  have ne_a_4_a_32 : a_4 ≠ a_32 := by rw [q_32]; exact Nat.ne_of_lt f31_2.lt
  have ne_a_8_a_32 : a_8 ≠ a_32 := by rw [q_32]; exact Nat.ne_of_lt f31_3.lt
  have ne_a_12_a_32 : a_12 ≠ a_32 := by rw [q_32]; exact Nat.ne_of_lt f31_4.lt
  have ne_a_16_a_32 : a_16 ≠ a_32 := by rw [q_32]; exact Nat.ne_of_lt f31_5.lt
  have ne_a_20_a_32 : a_20 ≠ a_32 := by rw [q_32]; exact Nat.ne_of_lt f31_6.lt
  have ne_a_24_a_32 : a_24 ≠ a_32 := by rw [q_32]; exact Nat.ne_of_lt f31_7.lt
  have ne_a_28_a_32 : a_28 ≠ a_32 := by rw [q_32]; exact Nat.ne_of_lt f31_8.lt
  have f33_0 : TC Z h_32 a (.int (0 : Int32)) (.int (-1 : Int32)) (.ref a_4) (.ref a_8) (.ref a_12) (.ref a_16) (.ref a_20) (.ref a_24) (.ref a_28) .null (.int (0 : Int32)) (.int (0 : Int32)) (.int (0 : Int32)) .null := f31_0.ext E_32
  have f33_1 : Keep h h_32 [a] := f31_1.ext E_32
  have f33_2 : oA Z h_32 a_4 .int ((0 : Int32).toInt.toNat) (fun i => .int (oZI i)) := f31_2.ext E_32
  have f33_3 : oA Z h_32 a_8 .int ((0 : Int32).toInt.toNat) (fun i => .int (oZI i)) := f31_3.ext E_32
  have f33_4 : oA Z h_32 a_12 .int ((0 : Int32).toInt.toNat) (fun i => .int (oZI i)) := f31_4.ext E_32
  have f33_5 : oA Z h_32 a_16 .byte ((0 : Int32).toInt.toNat) (fun i => .int (oZI i)) := f31_5.ext E_32
  have f33_6 : oA Z h_32 a_20 .int ((0 : Int32).toInt.toNat) (fun i => .int (oZI i)) := f31_6.ext E_32
  have f33_7 : oA Z h_32 a_24 .int ((0 : Int32).toInt.toNat) (fun i => .int (oZI i)) := f31_7.ext E_32
  have f33_8 : oA Z h_32 a_28 (.object "com/example/tollbook/tollbook/ber/BerException") ((0 : Int32).toInt.toNat) (fun _ => .null) := f31_8.ext E_32
  have f33_9 : oOv Z h_32 a_28 "com/example/tollbook/tollbook/ber/BerException" := f31_9.ext E_32
  have A_32 : oA Z h_32 a_32 .int ((16 : Int32).toInt.toNat) (fun i => .int (oZI i)) := A_32
  refine ow_putF X_32 67 30 2 rfl rfl f33_0.2.2.2.2.2.2.2.2.2.2.1 f33_0.1 (Or.inl (oSt_at X_32 31 rfl)) rfl (ty := (.array .int)) (by decide) rfl rfl ga d1_64 rfl ?_
  intro T_34 h_34 X_34 W_34
  have f35_0 : TC Z h_34 a (.int (0 : Int32)) (.int (-1 : Int32)) (.ref a_4) (.ref a_8) (.ref a_12) (.ref a_16) (.ref a_20) (.ref a_24) (.ref a_28) (.ref a_32) (.int (0 : Int32)) (.int (0 : Int32)) (.int (0 : Int32)) .null := TC.set_learnt (oSt_w X_34) f33_0 W_34
  have f35_1 : Keep h h_34 [a] := f33_1.wr W_34 (Or.inl (List.mem_of_getElem? (i := 0) rfl))
  have f35_2 : oA Z h_34 a_4 .int ((0 : Int32).toInt.toNat) (fun i => .int (oZI i)) := f33_2.other W_34 (Ne.symm ne_a_a_4)
  have f35_3 : oA Z h_34 a_8 .int ((0 : Int32).toInt.toNat) (fun i => .int (oZI i)) := f33_3.other W_34 (Ne.symm ne_a_a_8)
  have f35_4 : oA Z h_34 a_12 .int ((0 : Int32).toInt.toNat) (fun i => .int (oZI i)) := f33_4.other W_34 (Ne.symm ne_a_a_12)
  have f35_5 : oA Z h_34 a_16 .byte ((0 : Int32).toInt.toNat) (fun i => .int (oZI i)) := f33_5.other W_34 (Ne.symm ne_a_a_16)
  have f35_6 : oA Z h_34 a_20 .int ((0 : Int32).toInt.toNat) (fun i => .int (oZI i)) := f33_6.other W_34 (Ne.symm ne_a_a_20)
  have f35_7 : oA Z h_34 a_24 .int ((0 : Int32).toInt.toNat) (fun i => .int (oZI i)) := f33_7.other W_34 (Ne.symm ne_a_a_24)
  have f35_8 : oA Z h_34 a_28 (.object "com/example/tollbook/tollbook/ber/BerException") ((0 : Int32).toInt.toNat) (fun _ => .null) := f33_8.other W_34 (Ne.symm ne_a_a_28)
  have f35_9 : oOv Z h_34 a_28 "com/example/tollbook/tollbook/ber/BerException" := f33_9.wr W_34
  have f35_10 : oA Z h_34 a_32 .int ((16 : Int32).toInt.toNat) (fun i => .int (oZI i)) := A_32.other W_34 (Ne.symm ne_a_a_32)
  refine ow_aloadN X_34 68 d1_67 rfl rfl rfl ?_
  refine ow_iconst X_34 69 (-1 : Int32) d1_68 rfl rfl ?_
  refine ow_putF X_34 72 32 2 rfl rfl f35_0.2.2.2.2.2.2.2.2.2.2.2.2.1 f35_0.1 (Or.inl (oSt_at X_34 33 rfl)) rfl (ty := .int) (by decide) rfl rfl ga d1_69 rfl ?_
  intro T_36 h_36 X_36 W_36
  have f37_0 : TC Z h_36 a (.int (0 : Int32)) (.int (-1 : Int32)) (.ref a_4) (.ref a_8) (.ref a_12) (.ref a_16) (.ref a_20) (.ref a_24) (.ref a_28) (.ref a_32) (.int (0 : Int32)) (.int (-1 : Int32)) (.int (0 : Int32)) .null := TC.set_soughtClass (oSt_w X_36) f35_0 W_36
  have f37_1 : Keep h h_36 [a] := f35_1.wr W_36 (Or.inl (List.mem_of_getElem? (i := 0) rfl))
  have f37_2 : oA Z h_36 a_4 .int ((0 : Int32).toInt.toNat) (fun i => .int (oZI i)) := f35_2.other W_36 (Ne.symm ne_a_a_4)
  have f37_3 : oA Z h_36 a_8 .int ((0 : Int32).toInt.toNat) (fun i => .int (oZI i)) := f35_3.other W_36 (Ne.symm ne_a_a_8)
  have f37_4 : oA Z h_36 a_12 .int ((0 : Int32).toInt.toNat) (fun i => .int (oZI i)) := f35_4.other W_36 (Ne.symm ne_a_a_12)
  have f37_5 : oA Z h_36 a_16 .byte ((0 : Int32).toInt.toNat) (fun i => .int (oZI i)) := f35_5.other W_36 (Ne.symm ne_a_a_16)
  have f37_6 : oA Z h_36 a_20 .int ((0 : Int32).toInt.toNat) (fun i => .int (oZI i)) := f35_6.other W_36 (Ne.symm ne_a_a_20)
  have f37_7 : oA Z h_36 a_24 .int ((0 : Int32).toInt.toNat) (fun i => .int (oZI i)) := f35_7.other W_36 (Ne.symm ne_a_a_24)
  have f37_8 : oA Z h_36 a_28 (.object "com/example/tollbook/tollbook/ber/BerException") ((0 : Int32).toInt.toNat) (fun _ => .null) := f35_8.other W_36 (Ne.symm ne_a_a_28)
  have f37_9 : oOv Z h_36 a_28 "com/example/tollbook/tollbook/ber/BerException" := f35_9.wr W_36
  have f37_10 : oA Z h_36 a_32 .int ((16 : Int32).toInt.toNat) (fun i => .int (oZI i)) := f35_10.other W_36 (Ne.symm ne_a_a_32)
  refine ow_aloadN X_36 73 d1_72 rfl rfl rfl ?_
  refine ow_bipush X_36 75 (16 : Int32) d1_73 rfl rfl ?_
  refine ow_newP X_36 77 12 (cap := 16) rfl d1_75 rfl (by decide) (by decide) (by decide) (by decide) (by decide) ?_
  intro T_38 h_38 a_38 q_38 X_38 E_38 A_38 g_38
  have ne_a_a_38 : a ≠ a_38 := by rw [q_38]; exact Nat.ne_of_lt f37_0.lt
  have ge_h_a_38 : h.size ≤ a_38 := by rw [q_38]; exact f37_1.1
  have ne_a_4_a_38 : a_4 ≠ a_38 := by rw [q_38]; exact Nat.ne_of_lt f37_2.lt
  have ne_a_8_a_38 : a_8 ≠ a_38 := by rw [q_38]; exact Nat.ne_of_lt f37_3.lt
  have ne_a_12_a_38 : a_12 ≠ a_38 := by rw [q_38]; exact Nat.ne_of_lt f37_4.lt
  have ne_a_16_a_38 : a_16 ≠ a_38 := by rw [q_38]; exact Nat.ne_of_lt f37_5.lt
  have ne_a_20_a_38 : a_20 ≠ a_38 := by rw [q_38]; exact Nat.ne_of_lt f37_6.lt
  have ne_a_24_a_38 : a_24 ≠ a_38 := by rw [q_38]; exact Nat.ne_of_lt f37_7.lt
  have ne_a_28_a_38 : a_28 ≠ a_38 := by rw [q_38]; exact Nat.ne_of_lt f37_8.lt
  have ne_a_32_a_38 : a_32 ≠ a_38 := by rw [q_38]; exact Nat.ne_of_lt f37_10.lt
  have f39_0 : TC Z h_38 a (.int (0 : Int32)) (.int (-1 : Int32)) (.ref a_4) (.ref a_8) (.ref a_12) (.ref a_16) (.ref a_20) (.ref a_24) (.ref a_28) (.ref a_32) (.int (0 : Int32)) (.int (-1 : Int32)) (.int (0 : Int32)) .null := f37_0.ext E_38
  have f39_1 : Keep h h_38 [a] := f37_1.ext E_38
  have f39_2 : oA Z h_38 a_4 .int ((0 : Int32).toInt.toNat) (fun i => .int (oZI i)) := f37_2.ext E_38
  have f39_3 : oA Z h_38 a_8 .int ((0 : Int32).toInt.toNat) (fun i => .int (oZI i)) := f37_3.ext E_38
  have f39_4 : oA Z h_38 a_12 .int ((0 : Int32).toInt.toNat) (fun i => .int (oZI i)) := f37_4.ext E_38
  have f39_5 : oA Z h_38 a_16 .byte ((0 : Int32).toInt.toNat) (fun i => .int (oZI i)) := f37_5.ext E_38
  have f39_6 : oA Z h_38 a_20 .int ((0 : Int32).toInt.toNat) (fun i => .int (oZI i)) := f37_6.ext E_38
  have f39_7 : oA Z h_38 a_24 .int ((0 : Int32).toInt.toNat) (fun i => .int (oZI i)) := f37_7.ext E_38
  have f39_8 : oA Z h_38 a_28 (.object "com/example/tollbook/tollbook/ber/BerException") ((0 : Int32).toInt.toNat) (fun _ => .null) := f37_8.ext E_38
  have f39_9 : oOv Z h_38 a_28 "com/example/tollbook/tollbook/ber/BerException" := f37_9.ext E_38
  have f39_10 : oA Z h_38 a_32 .int ((16 : Int32).toInt.toNat) (fun i => .int (oZI i)) := f37_10.ext E_38
  have A_38 : oA Z h_38 a_38 .int ((16 : Int32).toInt.toNat) (fun i => .int (oZI i)) := A_38
  refine ow_putF X_38 80 34 2 rfl rfl f39_0.2.2.2.2.2.2.2.2.2.2.2.2.2.2 f39_0.1 (Or.inl (oSt_at X_38 35 rfl)) rfl (ty := (.array .int)) (by decide) rfl rfl ga d1_77 rfl ?_
  intro T_40 h_40 X_40 W_40
  have f41_0 : TC Z h_40 a (.int (0 : Int32)) (.int (-1 : Int32)) (.ref a_4) (.ref a_8) (.ref a_12) (.ref a_16) (.ref a_20) (.ref a_24) (.ref a_28) (.ref a_32) (.int (0 : Int32)) (.int (-1 : Int32)) (.int (0 : Int32)) (.ref a_38) := TC.set_path (oSt_w X_40) f39_0 W_40
  have f41_1 : Keep h h_40 [a] := f39_1.wr W_40 (Or.inl (List.mem_of_getElem? (i := 0) rfl))
  have f41_2 : oA Z h_40 a_4 .int ((0 : Int32).toInt.toNat) (fun i => .int (oZI i)) := f39_2.other W_40 (Ne.symm ne_a_a_4)
  have f41_3 : oA Z h_40 a_8 .int ((0 : Int32).toInt.toNat) (fun i => .int (oZI i)) := f39_3.other W_40 (Ne.symm ne_a_a_8)
  have f41_4 : oA Z h_40 a_12 .int ((0 : Int32).toInt.toNat) (fun i => .int (oZI i)) := f39_4.other W_40 (Ne.symm ne_a_a_12)
  have f41_5 : oA Z h_40 a_16 .byte ((0 : Int32).toInt.toNat) (fun i => .int (oZI i)) := f39_5.other W_40 (Ne.symm ne_a_a_16)
  have f41_6 : oA Z h_40 a_20 .int ((0 : Int32).toInt.toNat) (fun i => .int (oZI i)) := f39_6.other W_40 (Ne.symm ne_a_a_20)
  have f41_7 : oA Z h_40 a_24 .int ((0 : Int32).toInt.toNat) (fun i => .int (oZI i)) := f39_7.other W_40 (Ne.symm ne_a_a_24)
  have f41_8 : oA Z h_40 a_28 (.object "com/example/tollbook/tollbook/ber/BerException") ((0 : Int32).toInt.toNat) (fun _ => .null) := f39_8.other W_40 (Ne.symm ne_a_a_28)
  have f41_9 : oOv Z h_40 a_28 "com/example/tollbook/tollbook/ber/BerException" := f39_9.wr W_40
  have f41_10 : oA Z h_40 a_32 .int ((16 : Int32).toInt.toNat) (fun i => .int (oZI i)) := f39_10.other W_40 (Ne.symm ne_a_a_32)
  have f41_11 : oA Z h_40 a_38 .int ((16 : Int32).toInt.toNat) (fun i => .int (oZI i)) := A_38.other W_40 (Ne.symm ne_a_a_38)
  refine ow_retV X_40 rfl d1_80 (by decide) (by decide) ?_
  exact ⟨rfl, a_4, a_8, a_12, a_16, a_20, a_24, a_28, a_32, a_38, f41_1, (List.nodup_cons.mpr ⟨(ninS ne_a_a_4 (ninS ne_a_a_8 (ninS ne_a_a_12 (ninS ne_a_a_16 (ninS ne_a_a_20 (ninS ne_a_a_24 (ninS ne_a_a_28 (ninS ne_a_a_32 (ninS ne_a_a_38 nin0))))))))), (List.nodup_cons.mpr ⟨(ninS ne_a_4_a_8 (ninS ne_a_4_a_12 (ninS ne_a_4_a_16 (ninS ne_a_4_a_20 (ninS ne_a_4_a_24 (ninS ne_a_4_a_28 (ninS ne_a_4_a_32 (ninS ne_a_4_a_38 nin0)))))))), (List.nodup_cons.mpr ⟨(ninS ne_a_8_a_12 (ninS ne_a_8_a_16 (ninS ne_a_8_a_20 (ninS ne_a_8_a_24 (ninS ne_a_8_a_28 (ninS ne_a_8_a_32 (ninS ne_a_8_a_38 nin0))))))), (List.nodup_cons.mpr ⟨(ninS ne_a_12_a_16 (ninS ne_a_12_a_20 (ninS ne_a_12_a_24 (ninS ne_a_12_a_28 (ninS ne_a_12_a_32 (ninS ne_a_12_a_38 nin0)))))), (List.nodup_cons.mpr ⟨(ninS ne_a_16_a_20 (ninS ne_a_16_a_24 (ninS ne_a_16_a_28 (ninS ne_a_16_a_32 (ninS ne_a_16_a_38 nin0))))), (List.nodup_cons.mpr ⟨(ninS ne_a_20_a_24 (ninS ne_a_20_a_28 (ninS ne_a_20_a_32 (ninS ne_a_20_a_38 nin0)))), (List.nodup_cons.mpr ⟨(ninS ne_a_24_a_28 (ninS ne_a_24_a_32 (ninS ne_a_24_a_38 nin0))), (List.nodup_cons.mpr ⟨(ninS ne_a_28_a_32 (ninS ne_a_28_a_38 nin0)), (List.nodup_cons.mpr ⟨(ninS ne_a_32_a_38 nin0), (List.nodup_cons.mpr ⟨nin0, List.nodup_nil⟩)⟩)⟩)⟩)⟩)⟩)⟩)⟩)⟩)⟩), (allS ga (allS g_4 (allS g_8 (allS g_12 (allS g_16 (allS g_20 (allS g_24 (allS g_28 (allS g_32 (allS g_38 all0)))))))))), (allS ge_h_a_4 (allS ge_h_a_8 (allS ge_h_a_12 (allS ge_h_a_16 (allS ge_h_a_20 (allS ge_h_a_24 (allS ge_h_a_28 (allS ge_h_a_32 (allS ge_h_a_38 all0))))))))), f41_0, f41_2, f41_10, f41_11⟩
theorem d4_0 : decode prog_32_method_3_code 0 = .ok (.iconst 0, 1) := by decide +kernel
theorem d4_1 : decode prog_32_method_3_code 1 = .ok (.istore_n 1, 1) := by decide +kernel
theorem d4_2 : decode prog_32_method_3_code 2 = .ok (.iload_n 1, 1) := by decide +kernel
theorem d4_3 : decode prog_32_method_3_code 3 = .ok (.aload_n 0, 1) := by decide +kernel
theorem d4_4 : decode prog_32_method_3_code 4 = .ok (.getfield 58, 3) := by decide +kernel
theorem d4_7 : decode prog_32_method_3_code 7 = .ok (.if_icmp .ge 42, 3) := by decide +kernel
theorem d4_10 : decode prog_32_method_3_code 10 = .ok (.aload_n 0, 1) := by decide +kernel
theorem d4_11 : decode prog_32_method_3_code 11 = .ok (.getfield 39, 3) := by decide +kernel
theorem d4_14 : decode prog_32_method_3_code 14 = .ok (.iload_n 1, 1) := by decide +kernel
theorem d4_15 : decode prog_32_method_3_code 15 = .ok (.iaload, 1) := by decide +kernel
theorem d4_16 : decode prog_32_method_3_code 16 = .ok (.aload_n 0, 1) := by decide +kernel
theorem d4_17 : decode prog_32_method_3_code 17 = .ok (.getfield 51, 3) := by decide +kernel
theorem d4_20 : decode prog_32_method_3_code 20 = .ok (.isub, 1) := by decide +kernel
theorem d4_21 : decode prog_32_method_3_code 21 = .ok (.istore_n 2, 1) := by decide +kernel
theorem d4_22 : decode prog_32_method_3_code 22 = .ok (.aload_n 0, 1) := by decide +kernel
theorem d4_23 : decode prog_32_method_3_code 23 = .ok (.getfield 13, 3) := by decide +kernel
theorem d4_26 : decode prog_32_method_3_code 26 = .ok (.iload_n 2, 1) := by decide +kernel
theorem d4_27 : decode prog_32_method_3_code 27 = .ok (.iconst 0, 1) := by decide +kernel
theorem d4_28 : decode prog_32_method_3_code 28 = .ok (.iastore, 1) := by decide +kernel
theorem d4_29 : decode prog_32_method_3_code 29 = .ok (.aload_n 0, 1) := by decide +kernel
theorem d4_30 : decode prog_32_method_3_code 30 = .ok (.getfield 30, 3) := by decide +kernel
theorem d4_33 : decode prog_32_method_3_code 33 = .ok (.iload_n 2, 1) := by decide +kernel
theorem d4_34 : decode prog_32_method_3_code 34 = .ok (.iconst 0, 1) := by decide +kernel
theorem d4_35 : decode prog_32_method_3_code 35 = .ok (.iastore, 1) := by decide +kernel
theorem d4_36 : decode prog_32_method_3_code 36 = .ok (.aload_n 0, 1) := by decide +kernel
theorem d4_37 : decode prog_32_method_3_code 37 = .ok (.getfield 35, 3) := by decide +kernel
theorem d4_40 : decode prog_32_method_3_code 40 = .ok (.iload_n 2, 1) := by decide +kernel
theorem d4_41 : decode prog_32_method_3_code 41 = .ok (.aconst_null, 1) := by decide +kernel
theorem d4_42 : decode prog_32_method_3_code 42 = .ok (.aastore, 1) := by decide +kernel
theorem d4_43 : decode prog_32_method_3_code 43 = .ok (.iinc 1 1, 3) := by decide +kernel
theorem d4_46 : decode prog_32_method_3_code 46 = .ok (.goto (-44), 3) := by decide +kernel
theorem d4_49 : decode prog_32_method_3_code 49 = .ok (.aload_n 0, 1) := by decide +kernel
theorem d4_50 : decode prog_32_method_3_code 50 = .ok (.iconst 0, 1) := by decide +kernel
theorem d4_51 : decode prog_32_method_3_code 51 = .ok (.putfield 58, 3) := by decide +kernel
theorem d4_54 : decode prog_32_method_3_code 54 = .ok (.aload_n 0, 1) := by decide +kernel
theorem d4_55 : decode prog_32_method_3_code 55 = .ok (.iconst (-1), 1) := by decide +kernel
theorem d4_56 : decode prog_32_method_3_code 56 = .ok (.putfield 7, 3) := by decide +kernel
theorem d4_59 : decode prog_32_method_3_code 59 = .ok (.return_, 1) := by decide +kernel
def k4 : OM := (prog_32_method_3_code, 3, "com/example/tollbook/tollbook/ber/TlvChains", "forget", none, { frames := 0, cells := 0, slots := 0, locals := 0 })
theorem pn4 : plainFor (⟨"com/example/tollbook/tollbook/ber/TlvChains", "forget", "()V"⟩ : MethodName) = true := plainFor_of_name (by first | (simp [plainName, overriddenIn]; done) | decide +kernel)
theorem pd4 : parseMethodDescriptor "()V" = some ⟨[], none⟩ := by decide +kernel
set_option maxRecDepth 65536 in
set_option maxHeartbeats 4000000 in
theorem C_forget0 {Z : State} {ω : OW} {h : Heap} (hw_ : ∀ d ∈ tables_1, d.before ω.2.2 Z = true) (hn_ : ω.2.1 ≤ h.size) (a : Addr) (v_from v_limit v_nexts v_jumps v_depths v_tagClasses v_tagNumbers v_nearest v_failures v_learnt v_soughtClass v_soughtNumber v_path : Value) (F0 : TC Z h a v_from v_limit v_nexts v_jumps v_depths v_tagClasses v_tagNumbers v_nearest v_failures v_learnt (.int (0 : Int32)) v_soughtClass v_soughtNumber v_path) (ga : ω.2.1 ≤ a) :
    oC Z ω (⟨"com/example/tollbook/tollbook/ber/TlvChains", "forget", "()V"⟩ : MethodName) k4 [] #[.ref a] h (fun v h' => v = none ∧ Keep h h' [a] ∧ TC Z h' a v_from (.int (-1 : Int32)) v_nexts v_jumps v_depths v_tagClasses v_tagNumbers v_nearest v_failures v_learnt (.int (0 : Int32)) v_soughtClass v_soughtNumber v_path) := by
  refine oC_of hw_ hn_ pn4 rfl rfl (L := #[.val (.ref a), .unset, .unset]) (fun m => by first | (simp [entryFrame, mkF, argsToLocals, Value.category, k4]; done) | rfl) ?_
  intro γ T X
  refine ow_iconst X 1 (0 : Int32) d4_0 rfl rfl ?_
  refine ow_istoreN X 2 (L' := #[.val (.ref a), .val (.int (0 : Int32)), .unset]) d4_1 rfl rfl ?_
  refine ow_iloadN X 3 d4_2 rfl rfl ?_
  refine ow_aloadN X 4 d4_3 rfl rfl rfl ?_
  refine ow_getF X 7 46 rfl rfl F0.2.2.2.2.2.2.2.2.2.2.2.1 d4_4 rfl ?_
  intro T_42 X_42
  refine ow_icmp_ge X_42 10 49 d4_7 rfl rfl (fun (c7 : 0 ≤ 0) => ?_) (fun (c7 : 0 < 0) => absurd c7 (by decide))
  refine ow_aloadN X_42 50 d4_49 rfl rfl rfl ?_
  refine ow_iconst X_42 51 (0 : Int32) d4_50 rfl rfl ?_
  refine ow_putF X_42 54 46 2 rfl rfl F0.2.2.2.2.2.2.2.2.2.2.2.1 F0.1 (Or.inl (oSt_at X_42 47 rfl)) rfl (ty := .int) (by decide) rfl rfl ga d4_51 rfl ?_
  intro T_43 h_43 X_43 W_43
  have f44_0 : TC Z h_43 a v_from v_limit v_nexts v_jumps v_depths v_tagClasses v_tagNumbers v_nearest v_failures v_learnt (.int (0 : Int32)) v_soughtClass v_soughtNumber v_path := TC.set_learntCount (oSt_w X_43) F0 W_43
  have f44_1 : Keep h h_43 [a] := (Keep.refl h [a]).wr W_43 (Or.inl (List.mem_of_getElem? (i := 0) rfl))
  refine ow_aloadN X_43 55 d4_54 rfl rfl rfl ?_
  refine ow_iconst X_43 56 (-1 : Int32) d4_55 rfl rfl ?_
  refine ow_putF X_43 59 10 2 rfl rfl f44_0.2.2.1 f44_0.1 (Or.inl (oSt_at X_43 11 rfl)) rfl (ty := .int) (by decide) rfl rfl ga d4_56 rfl ?_
  intro T_45 h_45 X_45 W_45
  have f46_0 : TC Z h_45 a v_from (.int (-1 : Int32)) v_nexts v_jumps v_depths v_tagClasses v_tagNumbers v_nearest v_failures v_learnt (.int (0 : Int32)) v_soughtClass v_soughtNumber v_path := TC.set_limit (oSt_w X_45) f44_0 W_45
  have f46_1 : Keep h h_45 [a] := f44_1.wr W_45 (Or.inl (List.mem_of_getElem? (i := 0) rfl))
  refine ow_retV X_45 rfl d4_59 (by decide) (by decide) ?_
  exact ⟨rfl, f46_1, f46_0⟩
theorem d5_0 : decode prog_32_method_15_code 0 = .ok (.aload_n 0, 1) := by decide +kernel
theorem d5_1 : decode prog_32_method_15_code 1 = .ok (.iload_n 1, 1) := by decide +kernel
theorem d5_2 : decode prog_32_method_15_code 2 = .ok (.newarray .int, 2) := by decide +kernel
theorem d5_4 : decode prog_32_method_15_code 4 = .ok (.putfield 13, 3) := by decide +kernel
theorem d5_7 : decode prog_32_method_15_code 7 = .ok (.aload_n 0, 1) := by decide +kernel
theorem d5_8 : decode prog_32_method_15_code 8 = .ok (.iload_n 1, 1) := by decide +kernel
theorem d5_9 : decode prog_32_method_15_code 9 = .ok (.newarray .int, 2) := by decide +kernel
theorem d5_11 : decode prog_32_method_15_code 11 = .ok (.putfield 17, 3) := by decide +kernel
theorem d5_14 : decode prog_32_method_15_code 14 = .ok (.aload_n 0, 1) := by decide +kernel
theorem d5_15 : decode prog_32_method_15_code 15 = .ok (.iload_n 1, 1) := by decide +kernel
theorem d5_16 : decode prog_32_method_15_code 16 = .ok (.newarray .int, 2) := by decide +kernel
theorem d5_18 : decode prog_32_method_15_code 18 = .ok (.putfield 20, 3) := by decide +kernel
theorem d5_21 : decode prog_32_method_15_code 21 = .ok (.aload_n 0, 1) := by decide +kernel
theorem d5_22 : decode prog_32_method_15_code 22 = .ok (.iload_n 1, 1) := by decide +kernel
theorem d5_23 : decode prog_32_method_15_code 23 = .ok (.newarray .byte, 2) := by decide +kernel
theorem d5_25 : decode prog_32_method_15_code 25 = .ok (.putfield 23, 3) := by decide +kernel
theorem d5_28 : decode prog_32_method_15_code 28 = .ok (.aload_n 0, 1) := by decide +kernel
theorem d5_29 : decode prog_32_method_15_code 29 = .ok (.iload_n 1, 1) := by decide +kernel
theorem d5_30 : decode prog_32_method_15_code 30 = .ok (.newarray .int, 2) := by decide +kernel
theorem d5_32 : decode prog_32_method_15_code 32 = .ok (.putfield 27, 3) := by decide +kernel
theorem d5_35 : decode prog_32_method_15_code 35 = .ok (.aload_n 0, 1) := by decide +kernel
theorem d5_36 : decode prog_32_method_15_code 36 = .ok (.iload_n 1, 1) := by decide +kernel
theorem d5_37 : decode prog_32_method_15_code 37 = .ok (.newarray .int, 2) := by decide +kernel
theorem d5_39 : decode prog_32_method_15_code 39 = .ok (.putfield 30, 3) := by decide +kernel
theorem d5_42 : decode prog_32_method_15_code 42 = .ok (.aload_n 0, 1) := by decide +kernel
theorem d5_43 : decode prog_32_method_15_code 43 = .ok (.iload_n 1, 1) := by decide +kernel
theorem d5_44 : decode prog_32_method_15_code 44 = .ok (.anewarray 33, 3) := by decide +kernel
theorem d5_47 : decode prog_32_method_15_code 47 = .ok (.putfield 35, 3) := by decide +kernel
theorem d5_50 : decode prog_32_method_15_code 50 = .ok (.return_, 1) := by decide +kernel
def k5 : OM := (prog_32_method_15_code, 2, "com/example/tollbook/tollbook/ber/TlvChains", "allocate", none, { frames := 0, cells := 7, slots := 42, locals := 0 })
theorem pn5 : plainFor (⟨"com/example/tollbook/tollbook/ber/TlvChains", "allocate", "(I)V"⟩ : MethodName) = true := plainFor_of_name (by first | (simp [plainName, overriddenIn]; done) | decide +kernel)
theorem pd5 : parseMethodDescriptor "(I)V" = some ⟨[.int], none⟩ := by decide +kernel
set_option maxRecDepth 65536 in
set_option maxHeartbeats 4000000 in
theorem C_alloc {Z : State} {ω : OW} {h : Heap} (hw_ : ∀ d ∈ tables_1, d.before ω.2.2 Z = true) (hn_ : ω.2.1 ≤ h.size) (a : Addr) (sz : Int32) (v_from v_limit v_nexts v_jumps v_depths v_tagClasses v_tagNumbers v_nearest v_failures v_learnt v_learntCount v_soughtClass v_soughtNumber v_path : Value) (F0 : TC Z h a v_from v_limit v_nexts v_jumps v_depths v_tagClasses v_tagNumbers v_nearest v_failures v_learnt v_learntCount v_soughtClass v_soughtNumber v_path) (ga : ω.2.1 ≤ a) (h0 : 0 ≤ sz.toInt) (h1 : sz.toInt ≤ 6) :
    oC Z ω (⟨"com/example/tollbook/tollbook/ber/TlvChains", "allocate", "(I)V"⟩ : MethodName) k5 [] #[.ref a, .int sz] h (fun v h' => v = none ∧ ∃ aN aJ aD aC aT aR aF, Keep h h' [a] ∧ List.Nodup [a, aN, aJ, aD, aC, aT, aR, aF] ∧ (∀ x ∈ [a, aN, aJ, aD, aC, aT, aR, aF], ω.2.1 ≤ x) ∧ (∀ x ∈ [aN, aJ, aD, aC, aT, aR, aF], h.size ≤ x) ∧ TC Z h' a v_from v_limit (.ref aN) (.ref aJ) (.ref aD) (.ref aC) (.ref aT) (.ref aR) (.ref aF) v_learnt v_learntCount v_soughtClass v_soughtNumber v_path ∧ oA Z h' aN .int sz.toInt.toNat (fun i => .int (oZI i)) ∧ oA Z h' aJ .int sz.toInt.toNat (fun i => .int (oZI i)) ∧ oA Z h' aD .int sz.toInt.toNat (fun i => .int (oZI i)) ∧ oA Z h' aC .byte sz.toInt.toNat (fun i => .int (oZI i)) ∧ oA Z h' aT .int sz.toInt.toNat (fun i => .int (oZI i)) ∧ oA Z h' aR .int sz.toInt.toNat (fun i => .int (oZI i)) ∧ oA Z h' aF (.object "com/example/tollbook/tollbook/ber/BerException") sz.toInt.toNat (fun _ => .null) ∧ oOv Z h' aF "com/example/tollbook/tollbook/ber/BerException") := by
  refine oC_of hw_ hn_ pn5 rfl rfl (L := #[.val (.ref a), .val (.int sz)]) (fun m => by first | (simp [entryFrame, mkF, argsToLocals, Value.category, k5]; done) | rfl) ?_
  intro γ T X
  refine ow_aloadN X 1 d5_0 rfl rfl rfl ?_
  refine ow_iloadN X 2 d5_1 rfl rfl ?_
  refine ow_newP X 4 12 (cap := 6) rfl d5_2 rfl h0 h1 (by decide) (by decide) (by decide) ?_
  intro T_47 h_47 a_47 q_47 X_47 E_47 A_47 g_47
  have ne_a_a_47 : a ≠ a_47 := by rw [q_47]; exact Nat.ne_of_lt F0.lt
  have ge_h_a_47 : h.size ≤ a_47 := by rw [q_47]; exact (Keep.refl h [a]).1
  have f48_0 : TC Z h_47 a v_from v_limit v_nexts v_jumps v_depths v_tagClasses v_tagNumbers v_nearest v_failures v_learnt v_learntCount v_soughtClass v_soughtNumber v_path := F0.ext E_47
  have f48_1 : Keep h h_47 [a] := (Keep.refl h [a]).ext E_47
  have A_47 : oA Z h_47 a_47 .int sz.toInt.toNat (fun i => .int (oZI i)) := A_47
  refine ow_putF X_47 7 13 2 rfl rfl f48_0.2.2.2.1 f48_0.1 (Or.inl (oSt_at X_47 14 rfl)) rfl (ty := (.array .int)) (by decide) rfl rfl ga d5_4 rfl ?_
  intro T_49 h_49 X_49 W_49
  have f50_0 : TC Z h_49 a v_from v_limit (.ref a_47) v_jumps v_depths v_tagClasses v_tagNumbers v_nearest v_failures v_learnt v_learntCount v_soughtClass v_soughtNumber v_path := TC.set_nexts (oSt_w X_49) f48_0 W_49
  have f50_1 : Keep h h_49 [a] := f48_1.wr W_49 (Or.inl (List.mem_of_getElem? (i := 0) rfl))
  have f50_2 : oA Z h_49 a_47 .int sz.toInt.toNat (fun i => .int (oZI i)) := A_47.other W_49 (Ne.symm ne_a_a_47)
  refine ow_aloadN X_49 8 d5_7 rfl rfl rfl ?_
  refine ow_iloadN X_49 9 d5_8 rfl rfl ?_
  refine ow_newP X_49 11 12 (cap := 6) rfl d5_9 rfl h0 h1 (by decide) (by decide) (by decide) ?_
  intro T_51 h_51 a_51 q_51 X_51 E_51 A_51 g_51
  have ne_a_a_51 : a ≠ a_51 := by rw [q_51]; exact Nat.ne_of_lt f50_0.lt
  have ge_h_a_51 : h.size ≤ a_51 := by rw [q_51]; exact f50_1.1
  have ne_a_47_a_51 : a_47 ≠ a_51 := by rw [q_51]; exact Nat.ne_of_lt f50_2.lt
  have f52_0 : TC Z h_51 a v_from v_limit (.ref a_47) v_jumps v_depths v_tagClasses v_tagNumbers v_nearest v_failures v_learnt v_learntCount v_soughtClass v_soughtNumber v_path := f50_0.ext E_51
  have f52_1 : Keep h h_51 [a] := f50_1.ext E_51
  have f52_2 : oA Z h_51 a_47 .int sz.toInt.toNat (fun i => .int (oZI i)) := f50_2.ext E_51
  have A_51 : oA Z h_51 a_51 .int sz.toInt.toNat (fun i => .int (oZI i)) := A_51
  refine ow_putF X_51 14 15 2 rfl rfl f52_0.2.2.2.2.1 f52_0.1 (Or.inl (oSt_at X_51 16 rfl)) rfl (ty := (.array .int)) (by decide) rfl rfl ga d5_11 rfl ?_
  intro T_53 h_53 X_53 W_53
  have f54_0 : TC Z h_53 a v_from v_limit (.ref a_47) (.ref a_51) v_depths v_tagClasses v_tagNumbers v_nearest v_failures v_learnt v_learntCount v_soughtClass v_soughtNumber v_path := TC.set_jumps (oSt_w X_53) f52_0 W_53
  have f54_1 : Keep h h_53 [a] := f52_1.wr W_53 (Or.inl (List.mem_of_getElem? (i := 0) rfl))
  have f54_2 : oA Z h_53 a_47 .int sz.toInt.toNat (fun i => .int (oZI i)) := f52_2.other W_53 (Ne.symm ne_a_a_47)
  have f54_3 : oA Z h_53 a_51 .int sz.toInt.toNat (fun i => .int (oZI i)) := A_51.other W_53 (Ne.symm ne_a_a_51)
  refine ow_aloadN X_53 15 d5_14 rfl rfl rfl ?_
  refine ow_iloadN X_53 16 d5_15 rfl rfl ?_
  refine ow_newP X_53 18 12 (cap := 6) rfl d5_16 rfl h0 h1 (by decide) (by decide) (by decide) ?_
  intro T_55 h_55 a_55 q_55 X_55 E_55 A_55 g_55
  have ne_a_a_55 : a ≠ a_55 := by rw [q_55]; exact Nat.ne_of_lt f54_0.lt
  have ge_h_a_55 : h.size ≤ a_55 := by rw [q_55]; exact f54_1.1
  have ne_a_47_a_55 : a_47 ≠ a_55 := by rw [q_55]; exact Nat.ne_of_lt f54_2.lt
  have ne_a_51_a_55 : a_51 ≠ a_55 := by rw [q_55]; exact Nat.ne_of_lt f54_3.lt
  have f56_0 : TC Z h_55 a v_from v_limit (.ref a_47) (.ref a_51) v_depths v_tagClasses v_tagNumbers v_nearest v_failures v_learnt v_learntCount v_soughtClass v_soughtNumber v_path := f54_0.ext E_55
  have f56_1 : Keep h h_55 [a] := f54_1.ext E_55
  have f56_2 : oA Z h_55 a_47 .int sz.toInt.toNat (fun i => .int (oZI i)) := f54_2.ext E_55
  have f56_3 : oA Z h_55 a_51 .int sz.toInt.toNat (fun i => .int (oZI i)) := f54_3.ext E_55
  have A_55 : oA Z h_55 a_55 .int sz.toInt.toNat (fun i => .int (oZI i)) := A_55
  refine ow_putF X_55 21 17 2 rfl rfl f56_0.2.2.2.2.2.1 f56_0.1 (Or.inl (oSt_at X_55 18 rfl)) rfl (ty := (.array .int)) (by decide) rfl rfl ga d5_18 rfl ?_
  intro T_57 h_57 X_57 W_57
  have f58_0 : TC Z h_57 a v_from v_limit (.ref a_47) (.ref a_51) (.ref a_55) v_tagClasses v_tagNumbers v_nearest v_failures v_learnt v_learntCount v_soughtClass v_soughtNumber v_path := TC.set_depths (oSt_w X_57) f56_0 W_57
  have f58_1 : Keep h h_57 [a] := f56_1.wr W_57 (Or.inl (List.mem_of_getElem? (i := 0) rfl))
  have f58_2 : oA Z h_57 a_47 .int sz.toInt.toNat (fun i => .int (oZI i)) := f56_2.other W_57 (Ne.symm ne_a_a_47)
  have f58_3 : oA Z h_57 a_51 .int sz.toInt.toNat (fun i => .int (oZI i)) := f56_3.other W_57 (Ne.symm ne_a_a_51)
  have f58_4 : oA Z h_57 a_55 .int sz.toInt.toNat (fun i => .int (oZI i)) := A_55.other W_57 (Ne.symm ne_a_a_55)
  refine ow_aloadN X_57 22 d5_21 rfl rfl rfl ?_
  refine ow_iloadN X_57 23 d5_22 rfl rfl ?_
  refine ow_newP X_57 25 19 (cap := 6) rfl d5_23 rfl h0 h1 (by decide) (by decide) (by decide) ?_
  intro T_59 h_59 a_59 q_59 X_59 E_59 A_59 g_59
  have ne_a_a_59 : a ≠ a_59 := by rw [q_59]; exact Nat.ne_of_lt f58_0.lt
  have ge_h_a_59 : h.size ≤ a_59 := by rw [q_59]; exact f58_1.1
  have ne_a_47_a_59 : a_47 ≠ a_59 := by rw [q_59]; exact Nat.ne_of_lt f58_2.lt
  have ne_a_51_a_59 : a_51 ≠ a_59 := by rw [q_59]; exact Nat.ne_of_lt f58_3.lt
  have ne_a_55_a_59 : a_55 ≠ a_59 := by rw [q_59]; exact Nat.ne_of_lt f58_4.lt
  have f60_0 : TC Z h_59 a v_from v_limit (.ref a_47) (.ref a_51) (.ref a_55) v_tagClasses v_tagNumbers v_nearest v_failures v_learnt v_learntCount v_soughtClass v_soughtNumber v_path := f58_0.ext E_59
  have f60_1 : Keep h h_59 [a] := f58_1.ext E_59
  have f60_2 : oA Z h_59 a_47 .int sz.toInt.toNat (fun i => .int (oZI i)) := f58_2.ext E_59
  have f60_3 : oA Z h_59 a_51 .int sz.toInt.toNat (fun i => .int (oZI i)) := f58_3.ext E_59
  have f60_4 : oA Z h_59 a_55 .int sz.toInt.toNat (fun i => .int (oZI i)) := f58_4.ext E_59
  have A_59 : oA Z h_59 a_59 .byte sz.toInt.toNat (fun i => .int (oZI i)) := A_59
  refine ow_putF X_59 28 20 2 rfl rfl f60_0.2.2.2.2.2.2.1 f60_0.1 (Or.inl (oSt_at X_59 21 rfl)) rfl (ty := (.array .byte)) (by decide) rfl rfl ga d5_25 rfl ?_
  intro T_61 h_61 X_61 W_61
  have f62_0 : TC Z h_61 a v_from v_limit (.ref a_47) (.ref a_51) (.ref a_55) (.ref a_59) v_tagNumbers v_nearest v_failures v_learnt v_learntCount v_soughtClass v_soughtNumber v_path := TC.set_tagClasses (oSt_w X_61) f60_0 W_61
  have f62_1 : Keep h h_61 [a] := f60_1.wr W_61 (Or.inl (List.mem_of_getElem? (i := 0) rfl))
  have f62_2 : oA Z h_61 a_47 .int sz.toInt.toNat (fun i => .int (oZI i)) := f60_2.other W_61 (Ne.symm ne_a_a_47)
  have f62_3 : oA Z h_61 a_51 .int sz.toInt.toNat (fun i => .int (oZI i)) := f60_3.other W_61 (Ne.symm ne_a_a_51)
  have f62_4 : oA Z h_61 a_55 .int sz.toInt.toNat (fun i => .int (oZI i)) := f60_4.other W_61 (Ne.symm ne_a_a_55)
  have f62_5 : oA Z h_61 a_59 .byte sz.toInt.toNat (fun i => .int (oZI i)) := A_59.other W_61 (Ne.symm ne_a_a_59)
  refine ow_aloadN X_61 29 d5_28 rfl rfl rfl ?_
  refine ow_iloadN X_61 30 d5_29 rfl rfl ?_
  refine ow_newP X_61 32 12 (cap := 6) rfl d5_30 rfl h0 h1 (by decide) (by decide) (by decide) ?_
  intro T_63 h_63 a_63 q_63 X_63 E_63 A_63 g_63
  have ne_a_a_63 : a ≠ a_63 := by rw [q_63]; exact Nat.ne_of_lt f62_0.lt
  have ge_h_a_63 : h.size ≤ a_63 := by rw [q_63]; exact f62_1.1
  have ne_a_47_a_63 : a_47 ≠ a_63 := by rw [q_63]; exact Nat.ne_of_lt f62_2.lt
  have ne_a_51_a_63 : a_51 ≠ a_63 := by rw [q_63]; exact Nat.ne_of_lt f62_3.lt
  have ne_a_55_a_63 : a_55 ≠ a_63 := by rw [q_63]; exact Nat.ne_of_lt f62_4.lt
  have ne_a_59_a_63 : a_59 ≠ a_63 := by rw [q_63]; exact Nat.ne_of_lt f62_5.lt
  have f64_0 : TC Z h_63 a v_from v_limit (.ref a_47) (.ref a_51) (.ref a_55) (.ref a_59) v_tagNumbers v_nearest v_failures v_learnt v_learntCount v_soughtClass v_soughtNumber v_path := f62_0.ext E_63
  have f64_1 : Keep h h_63 [a] := f62_1.ext E_63
  have f64_2 : oA Z h_63 a_47 .int sz.toInt.toNat (fun i => .int (oZI i)) := f62_2.ext E_63
  have f64_3 : oA Z h_63 a_51 .int sz.toInt.toNat (fun i => .int (oZI i)) := f62_3.ext E_63
  have f64_4 : oA Z h_63 a_55 .int sz.toInt.toNat (fun i => .int (oZI i)) := f62_4.ext E_63
  have f64_5 : oA Z h_63 a_59 .byte sz.toInt.toNat (fun i => .int (oZI i)) := f62_5.ext E_63
  have A_63 : oA Z h_63 a_63 .int sz.toInt.toNat (fun i => .int (oZI i)) := A_63
  refine ow_putF X_63 35 22 2 rfl rfl f64_0.2.2.2.2.2.2.2.1 f64_0.1 (Or.inl (oSt_at X_63 23 rfl)) rfl (ty := (.array .int)) (by decide) rfl rfl ga d5_32 rfl ?_
  intro T_65 h_65 X_65 W_65
  have f66_0 : TC Z h_65 a v_from v_limit (.ref a_47) (.ref a_51) (.ref a_55) (.ref a_59) (.ref a_63) v_nearest v_failures v_learnt v_learntCount v_soughtClass v_soughtNumber v_path := TC.set_tagNumbers (oSt_w X_65) f64_0 W_65
  have f66_1 : Keep h h_65 [a] := f64_1.wr W_65 (Or.inl (List.mem_of_getElem? (i := 0) rfl))
  have f66_2 : oA Z h_65 a_47 .int sz.toInt.toNat (fun i => .int (oZI i)) := f64_2.other W_65 (Ne.symm ne_a_a_47)
  have f66_3 : oA Z h_65 a_51 .int sz.toInt.toNat (fun i => .int (oZI i)) := f64_3.other W_65 (Ne.symm ne_a_a_51)
  have f66_4 : oA Z h_65 a_55 .int sz.toInt.toNat (fun i => .int (oZI i)) := f64_4.other W_65 (Ne.symm ne_a_a_55)
  have f66_5 : oA Z h_65 a_59 .byte sz.toInt.toNat (fun i => .int (oZI i)) := f64_5.other W_65 (Ne.symm ne_a_a_59)
  have f66_6 : oA Z h_65 a_63 .int sz.toInt.toNat (fun i => .int (oZI i)) := A_63.other W_65 (Ne.symm ne_a_a_63)
  refine ow_aloadN X_65 36 d5_35 rfl rfl rfl ?_
  refine ow_iloadN X_65 37 d5_36 rfl rfl ?_
  refine ow_newP X_65 39 12 (cap := 6) rfl d5_37 rfl h0 h1 (by decide) (by decide) (by decide) ?_
  intro T_67 h_67 a_67 q_67 X_67 E_67 A_67 g_67
  have ne_a_a_67 : a ≠ a_67 := by rw [q_67]; exact Nat.ne_of_lt f66_0.lt
  have ge_h_a_67 : h.size ≤ a_67 := by rw [q_67]; exact f66_1.1
  have ne_a_47_a_67 : a_47 ≠ a_67 := by rw [q_67]; exact Nat.ne_of_lt f66_2.lt
  have ne_a_51_a_67 : a_51 ≠ a_67 := by rw [q_67]; exact Nat.ne_of_lt f66_3.lt
  have ne_a_55_a_67 : a_55 ≠ a_67 := by rw [q_67]; exact Nat.ne_of_lt f66_4.lt
  have ne_a_59_a_67 : a_59 ≠ a_67 := by rw [q_67]; exact Nat.ne_of_lt f66_5.lt
  have ne_a_63_a_67 : a_63 ≠ a_67 := by rw [q_67]; exact Nat.ne_of_lt f66_6.lt
  have f68_0 : TC Z h_67 a v_from v_limit (.ref a_47) (.ref a_51) (.ref a_55) (.ref a_59) (.ref a_63) v_nearest v_failures v_learnt v_learntCount v_soughtClass v_soughtNumber v_path := f66_0.ext E_67
  have f68_1 : Keep h h_67 [a] := f66_1.ext E_67
  have f68_2 : oA Z h_67 a_47 .int sz.toInt.toNat (fun i => .int (oZI i)) := f66_2.ext E_67
  have f68_3 : oA Z h_67 a_51 .int sz.toInt.toNat (fun i => .int (oZI i)) := f66_3.ext E_67
  have f68_4 : oA Z h_67 a_55 .int sz.toInt.toNat (fun i => .int (oZI i)) := f66_4.ext E_67
  have f68_5 : oA Z h_67 a_59 .byte sz.toInt.toNat (fun i => .int (oZI i)) := f66_5.ext E_67
  have f68_6 : oA Z h_67 a_63 .int sz.toInt.toNat (fun i => .int (oZI i)) := f66_6.ext E_67
  have A_67 : oA Z h_67 a_67 .int sz.toInt.toNat (fun i => .int (oZI i)) := A_67
  refine ow_putF X_67 42 24 2 rfl rfl f68_0.2.2.2.2.2.2.2.2.1 f68_0.1 (Or.inl (oSt_at X_67 25 rfl)) rfl (ty := (.array .int)) (by decide) rfl rfl ga d5_39 rfl ?_
  intro T_69 h_69 X_69 W_69
  have f70_0 : TC Z h_69 a v_from v_limit (.ref a_47) (.ref a_51) (.ref a_55) (.ref a_59) (.ref a_63) (.ref a_67) v_failures v_learnt v_learntCount v_soughtClass v_soughtNumber v_path := TC.set_nearest (oSt_w X_69) f68_0 W_69
  have f70_1 : Keep h h_69 [a] := f68_1.wr W_69 (Or.inl (List.mem_of_getElem? (i := 0) rfl))
  have f70_2 : oA Z h_69 a_47 .int sz.toInt.toNat (fun i => .int (oZI i)) := f68_2.other W_69 (Ne.symm ne_a_a_47)
  have f70_3 : oA Z h_69 a_51 .int sz.toInt.toNat (fun i => .int (oZI i)) := f68_3.other W_69 (Ne.symm ne_a_a_51)
  have f70_4 : oA Z h_69 a_55 .int sz.toInt.toNat (fun i => .int (oZI i)) := f68_4.other W_69 (Ne.symm ne_a_a_55)
  have f70_5 : oA Z h_69 a_59 .byte sz.toInt.toNat (fun i => .int (oZI i)) := f68_5.other W_69 (Ne.symm ne_a_a_59)
  have f70_6 : oA Z h_69 a_63 .int sz.toInt.toNat (fun i => .int (oZI i)) := f68_6.other W_69 (Ne.symm ne_a_a_63)
  have f70_7 : oA Z h_69 a_67 .int sz.toInt.toNat (fun i => .int (oZI i)) := A_67.other W_69 (Ne.symm ne_a_a_67)
  refine ow_aloadN X_69 43 d5_42 rfl rfl rfl ?_
  refine ow_iloadN X_69 44 d5_43 rfl rfl ?_
  refine ow_newR X_69 47 26 27 (cap := 6) rfl rfl rfl d5_44 rfl h0 h1 (by decide) (by decide) (by decide) ?_
  intro T_71 h_71 a_71 q_71 X_71 E_71 A_71 O_71 g_71
  have ne_a_a_71 : a ≠ a_71 := by rw [q_71]; exact Nat.ne_of_lt f70_0.lt
  have ge_h_a_71 : h.size ≤ a_71 := by rw [q_71]; exact f70_1.1
  have ne_a_47_a_71 : a_47 ≠ a_71 := by rw [q_71]; exact Nat.ne_of_lt f70_2.lt
  have ne_a_51_a_71 : a_51 ≠ a_71 := by rw [q_71]; exact Nat.ne_of_lt f70_3.lt
  have ne_a_55_a_71 : a_55 ≠ a_71 := by rw [q_71]; exact Nat.ne_of_lt f70_4.lt
  have ne_a_59_a_71 : a_59 ≠ a_71 := by rw [q_71]; exact Nat.ne_of_lt f70_5.lt
  have ne_a_63_a_71 : a_63 ≠ a_71 := by rw [q_71]; exact Nat.ne_of_lt f70_6.lt
  have ne_a_67_a_71 : a_67 ≠ a_71 := by rw [q_71]; exact Nat.ne_of_lt f70_7.lt
  have f72_0 : TC Z h_71 a v_from v_limit (.ref a_47) (.ref a_51) (.ref a_55) (.ref a_59) (.ref a_63) (.ref a_67) v_failures v_learnt v_learntCount v_soughtClass v_soughtNumber v_path := f70_0.ext E_71
  have f72_1 : Keep h h_71 [a] := f70_1.ext E_71
  have f72_2 : oA Z h_71 a_47 .int sz.toInt.toNat (fun i => .int (oZI i)) := f70_2.ext E_71
  have f72_3 : oA Z h_71 a_51 .int sz.toInt.toNat (fun i => .int (oZI i)) := f70_3.ext E_71
  have f72_4 : oA Z h_71 a_55 .int sz.toInt.toNat (fun i => .int (oZI i)) := f70_4.ext E_71
  have f72_5 : oA Z h_71 a_59 .byte sz.toInt.toNat (fun i => .int (oZI i)) := f70_5.ext E_71
  have f72_6 : oA Z h_71 a_63 .int sz.toInt.toNat (fun i => .int (oZI i)) := f70_6.ext E_71
  have f72_7 : oA Z h_71 a_67 .int sz.toInt.toNat (fun i => .int (oZI i)) := f70_7.ext E_71
  refine ow_putF X_71 50 28 2 rfl rfl f72_0.2.2.2.2.2.2.2.2.2.1 f72_0.1 (Or.inl (oSt_at X_71 29 rfl)) rfl (ty := (.array (.object "com/example/tollbook/tollbook/ber/BerException"))) (by decide) rfl rfl ga d5_47 rfl ?_
  intro T_73 h_73 X_73 W_73
  have f74_0 : TC Z h_73 a v_from v_limit (.ref a_47) (.ref a_51) (.ref a_55) (.ref a_59) (.ref a_63) (.ref a_67) (.ref a_71) v_learnt v_learntCount v_soughtClass v_soughtNumber v_path := TC.set_failures (oSt_w X_73) f72_0 W_73
  have f74_1 : Keep h h_73 [a] := f72_1.wr W_73 (Or.inl (List.mem_of_getElem? (i := 0) rfl))
  have f74_2 : oA Z h_73 a_47 .int sz.toInt.toNat (fun i => .int (oZI i)) := f72_2.other W_73 (Ne.symm ne_a_a_47)
  have f74_3 : oA Z h_73 a_51 .int sz.toInt.toNat (fun i => .int (oZI i)) := f72_3.other W_73 (Ne.symm ne_a_a_51)
  have f74_4 : oA Z h_73 a_55 .int sz.toInt.toNat (fun i => .int (oZI i)) := f72_4.other W_73 (Ne.symm ne_a_a_55)
  have f74_5 : oA Z h_73 a_59 .byte sz.toInt.toNat (fun i => .int (oZI i)) := f72_5.other W_73 (Ne.symm ne_a_a_59)
  have f74_6 : oA Z h_73 a_63 .int sz.toInt.toNat (fun i => .int (oZI i)) := f72_6.other W_73 (Ne.symm ne_a_a_63)
  have f74_7 : oA Z h_73 a_67 .int sz.toInt.toNat (fun i => .int (oZI i)) := f72_7.other W_73 (Ne.symm ne_a_a_67)
  have f74_8 : oA Z h_73 a_71 (.object "com/example/tollbook/tollbook/ber/BerException") sz.toInt.toNat (fun _ => .null) := A_71.other W_73 (Ne.symm ne_a_a_71)
  have f74_9 : oOv Z h_73 a_71 "com/example/tollbook/tollbook/ber/BerException" := O_71.wr W_73
  refine ow_retV X_73 rfl d5_50 (by decide) (by decide) ?_
  exact ⟨rfl, a_47, a_51, a_55, a_59, a_63, a_67, a_71, f74_1, (List.nodup_cons.mpr ⟨(ninS ne_a_a_47 (ninS ne_a_a_51 (ninS ne_a_a_55 (ninS ne_a_a_59 (ninS ne_a_a_63 (ninS ne_a_a_67 (ninS ne_a_a_71 nin0))))))), (List.nodup_cons.mpr ⟨(ninS ne_a_47_a_51 (ninS ne_a_47_a_55 (ninS ne_a_47_a_59 (ninS ne_a_47_a_63 (ninS ne_a_47_a_67 (ninS ne_a_47_a_71 nin0)))))), (List.nodup_cons.mpr ⟨(ninS ne_a_51_a_55 (ninS ne_a_51_a_59 (ninS ne_a_51_a_63 (ninS ne_a_51_a_67 (ninS ne_a_51_a_71 nin0))))), (List.nodup_cons.mpr ⟨(ninS ne_a_55_a_59 (ninS ne_a_55_a_63 (ninS ne_a_55_a_67 (ninS ne_a_55_a_71 nin0)))), (List.nodup_cons.mpr ⟨(ninS ne_a_59_a_63 (ninS ne_a_59_a_67 (ninS ne_a_59_a_71 nin0))), (List.nodup_cons.mpr ⟨(ninS ne_a_63_a_67 (ninS ne_a_63_a_71 nin0)), (List.nodup_cons.mpr ⟨(ninS ne_a_67_a_71 nin0), (List.nodup_cons.mpr ⟨nin0, List.nodup_nil⟩)⟩)⟩)⟩)⟩)⟩)⟩)⟩), (allS ga (allS g_47 (allS g_51 (allS g_55 (allS g_59 (allS g_63 (allS g_67 (allS g_71 all0)))))))), (allS ge_h_a_47 (allS ge_h_a_51 (allS ge_h_a_55 (allS ge_h_a_59 (allS ge_h_a_63 (allS ge_h_a_67 (allS ge_h_a_71 all0))))))), f74_0, f74_2, f74_3, f74_4, f74_5, f74_6, f74_7, f74_8, f74_9⟩
theorem d3_0 : decode prog_32_method_2_code 0 = .ok (.aload_n 0, 1) := by decide +kernel
theorem d3_1 : decode prog_32_method_2_code 1 = .ok (.invokevirtual 48, 3) := by decide +kernel
theorem d3_4 : decode prog_32_method_2_code 4 = .ok (.aload_n 0, 1) := by decide +kernel
theorem d3_5 : decode prog_32_method_2_code 5 = .ok (.iload_n 1, 1) := by decide +kernel
theorem d3_6 : decode prog_32_method_2_code 6 = .ok (.putfield 51, 3) := by decide +kernel
theorem d3_9 : decode prog_32_method_2_code 9 = .ok (.aload_n 0, 1) := by decide +kernel
theorem d3_10 : decode prog_32_method_2_code 10 = .ok (.iload_n 2, 1) := by decide +kernel
theorem d3_11 : decode prog_32_method_2_code 11 = .ok (.putfield 7, 3) := by decide +kernel
theorem d3_14 : decode prog_32_method_2_code 14 = .ok (.aload_n 0, 1) := by decide +kernel
theorem d3_15 : decode prog_32_method_2_code 15 = .ok (.getfield 13, 3) := by decide +kernel
theorem d3_18 : decode prog_32_method_2_code 18 = .ok (.arraylength, 1) := by decide +kernel
theorem d3_19 : decode prog_32_method_2_code 19 = .ok (.iload_n 2, 1) := by decide +kernel
theorem d3_20 : decode prog_32_method_2_code 20 = .ok (.iload_n 1, 1) := by decide +kernel
theorem d3_21 : decode prog_32_method_2_code 21 = .ok (.isub, 1) := by decide +kernel
theorem d3_22 : decode prog_32_method_2_code 22 = .ok (.iconst 1, 1) := by decide +kernel
theorem d3_23 : decode prog_32_method_2_code 23 = .ok (.iadd, 1) := by decide +kernel
theorem d3_24 : decode prog_32_method_2_code 24 = .ok (.if_icmp .ge 12, 3) := by decide +kernel
theorem d3_27 : decode prog_32_method_2_code 27 = .ok (.aload_n 0, 1) := by decide +kernel
theorem d3_28 : decode prog_32_method_2_code 28 = .ok (.iload_n 2, 1) := by decide +kernel
theorem d3_29 : decode prog_32_method_2_code 29 = .ok (.iload_n 1, 1) := by decide +kernel
theorem d3_30 : decode prog_32_method_2_code 30 = .ok (.isub, 1) := by decide +kernel
theorem d3_31 : decode prog_32_method_2_code 31 = .ok (.iconst 1, 1) := by decide +kernel
theorem d3_32 : decode prog_32_method_2_code 32 = .ok (.iadd, 1) := by decide +kernel
theorem d3_33 : decode prog_32_method_2_code 33 = .ok (.invokevirtual 54, 3) := by decide +kernel
theorem d3_36 : decode prog_32_method_2_code 36 = .ok (.return_, 1) := by decide +kernel
def k3 : OM := (prog_32_method_2_code, 3, "com/example/tollbook/tollbook/ber/TlvChains", "reset", none, { frames := 1, cells := 7, slots := 42, locals := 14 })
theorem pn3 : plainFor (⟨"com/example/tollbook/tollbook/ber/TlvChains", "reset", "(II)V"⟩ : MethodName) = true := plainFor_of_name (by first | (simp [plainName, overriddenIn]; done) | decide +kernel)
theorem pd3 : parseMethodDescriptor "(II)V" = some ⟨[.int, .int], none⟩ := by decide +kernel
set_option maxRecDepth 65536 in
set_option maxHeartbeats 4000000 in
theorem C_reset {Z : State} {ω : OW} {h : Heap} (hw_ : ∀ d ∈ tables_1, d.before ω.2.2 Z = true) (hn_ : ω.2.1 ≤ h.size) (a aN0 : Addr) (fr lim sz : Int32) (v_from v_limit v_jumps v_depths v_tagClasses v_tagNumbers v_nearest v_failures v_learnt v_soughtClass v_soughtNumber v_path : Value) (F0 : TC Z h a v_from v_limit (.ref aN0) v_jumps v_depths v_tagClasses v_tagNumbers v_nearest v_failures v_learnt (.int (0 : Int32)) v_soughtClass v_soughtNumber v_path) (A0 : oA Z h aN0 .int 0 (fun i => .int (oZI i))) (ga : ω.2.1 ≤ a) (ne : a ≠ aN0) (hz : lim - fr + (1 : Int32) = sz) (h0 : 0 < sz.toInt) (h1 : sz.toInt ≤ 6) :
    oC Z ω (⟨"com/example/tollbook/tollbook/ber/TlvChains", "reset", "(II)V"⟩ : MethodName) k3 [] #[.ref a, .int fr, .int lim] h (fun v h' => v = none ∧ ∃ aN aJ aD aC aT aR aF, Keep h h' [a] ∧ List.Nodup [a, aN, aJ, aD, aC, aT, aR, aF] ∧ (∀ x ∈ [a, aN, aJ, aD, aC, aT, aR, aF], ω.2.1 ≤ x) ∧ (∀ x ∈ [aN, aJ, aD, aC, aT, aR, aF], h.size ≤ x) ∧ TC Z h' a (.int fr) (.int lim) (.ref aN) (.ref aJ) (.ref aD) (.ref aC) (.ref aT) (.ref aR) (.ref aF) v_learnt (.int (0 : Int32)) v_soughtClass v_soughtNumber v_path ∧ oA Z h' aN .int sz.toInt.toNat (fun i => .int (oZI i)) ∧ oA Z h' aJ .int sz.toInt.toNat (fun i => .int (oZI i)) ∧ oA Z h' aD .int sz.toInt.toNat (fun i => .int (oZI i)) ∧ oA Z h' aC .byte sz.toInt.toNat (fun i => .int (oZI i)) ∧ oA Z h' aT .int sz.toInt.toNat (fun i => .int (oZI i)) ∧ oA Z h' aR .int sz.toInt.toNat (fun i => .int (oZI i)) ∧ oA Z h' aF (.object "com/example/tollbook/tollbook/ber/BerException") sz.toInt.toNat (fun _ => .null) ∧ oOv Z h' aF "com/example/tollbook/tollbook/ber/BerException") := by
  refine oC_of hw_ hn_ pn3 rfl rfl (L := #[.val (.ref a), .val (.int fr), .val (.int lim)]) (fun m => by first | (simp [entryFrame, mkF, argsToLocals, Value.category, k3]; done) | rfl) ?_
  intro γ T X
  refine ow_aloadN X 1 d3_0 rfl rfl rfl ?_
  refine ow_callV X 4 41 42 44 43 45 3 (κ' := k4) (as := []) (S := []) (W := 0) rfl rfl rfl rfl rfl rfl rfl (by decide) F0.1 (C_forget0 (oSt_w X) (oSt_n0 X) a _ _ _ _ _ _ _ _ _ _ _ _ _ F0 ga) (by decide) (by decide) (Nat.le_of_eq rfl) (by decide) (by decide) pd4 rfl rfl rfl d3_1 rfl ?_
  intro v_75 T_75 h_75 X_75 q_75
  obtain ⟨rfl, K75, R75⟩ := q_75
  have f76_1 : oA Z h_75 aN0 .int 0 (fun i => .int (oZI i)) := A0.keep K75 (ninS (Ne.symm ne) nin0)
  have f76_2 : Keep h h_75 [a] := (Keep.refl h [a]).trans K75 (allS (Or.inl (List.mem_of_getElem? (i := 0) rfl)) all0)
  show oWP ω γ k3 _ T_75 4 #[.val (.ref a), .val (.int fr), .val (.int lim)] []
  refine ow_aloadN X_75 5 d3_4 rfl rfl rfl ?_
  refine ow_iloadN X_75 6 d3_5 rfl rfl ?_
  refine ow_putF X_75 9 48 2 rfl rfl R75.2.1 R75.1 (Or.inl (oSt_at X_75 49 rfl)) rfl (ty := .int) (by decide) rfl rfl ga d3_6 rfl ?_
  intro T_77 h_77 X_77 W_77
  have f78_0 : oA Z h_77 aN0 .int 0 (fun i => .int (oZI i)) := f76_1.other W_77 (Ne.symm ne)
  have f78_1 : Keep h h_77 [a] := f76_2.wr W_77 (Or.inl (List.mem_of_getElem? (i := 0) rfl))
  have f78_2 : TC Z h_77 a (.int fr) (.int (-1 : Int32)) (.ref aN0) v_jumps v_depths v_tagClasses v_tagNumbers v_nearest v_failures v_learnt (.int (0 : Int32)) v_soughtClass v_soughtNumber v_path := TC.set_from (oSt_w X_77) R75 W_77
  refine ow_aloadN X_77 10 d3_9 rfl rfl rfl ?_
  refine ow_iloadN X_77 11 d3_10 rfl rfl ?_
  refine ow_putF X_77 14 10 2 rfl rfl f78_2.2.2.1 f78_2.1 (Or.inl (oSt_at X_77 11 rfl)) rfl (ty := .int) (by decide) rfl rfl ga d3_11 rfl ?_
  intro T_79 h_79 X_79 W_79
  have f80_0 : oA Z h_79 aN0 .int 0 (fun i => .int (oZI i)) := f78_0.other W_79 (Ne.symm ne)
  have f80_1 : Keep h h_79 [a] := f78_1.wr W_79 (Or.inl (List.mem_of_getElem? (i := 0) rfl))
  have f80_2 : TC Z h_79 a (.int fr) (.int lim) (.ref aN0) v_jumps v_depths v_tagClasses v_tagNumbers v_nearest v_failures v_learnt (.int (0 : Int32)) v_soughtClass v_soughtNumber v_path := TC.set_limit (oSt_w X_79) f78_2 W_79
  refine ow_aloadN X_79 15 d3_14 rfl rfl rfl ?_
  refine ow_getF X_79 18 13 rfl rfl f80_2.2.2.2.1 d3_15 rfl ?_
  intro T_81 X_81
  refine ow_alen X_81 19 (v := 0) f80_0 d3_18 rfl rfl ?_
  refine ow_iloadN X_81 20 d3_19 rfl rfl ?_
  refine ow_iloadN X_81 21 d3_20 rfl rfl ?_
  refine ow_isub X_81 22 d3_21 rfl ?_
  refine ow_iconst X_81 23 (1 : Int32) d3_22 rfl rfl ?_
  refine ow_iadd X_81 24 d3_23 rfl ?_
  rw [hz]
  refine ow_icmp_ge X_81 27 36 d3_24 rfl rfl (fun (c24 : sz.toInt ≤ 0) => absurd c24 (by omega)) (fun (c24 : 0 < sz.toInt) => ?_)
  refine ow_aloadN X_81 28 d3_27 rfl rfl rfl ?_
  refine ow_iloadN X_81 29 d3_28 rfl rfl ?_
  refine ow_iloadN X_81 30 d3_29 rfl rfl ?_
  refine ow_isub X_81 31 d3_30 rfl ?_
  refine ow_iconst X_81 32 (1 : Int32) d3_31 rfl rfl ?_
  refine ow_iadd X_81 33 d3_32 rfl ?_
  rw [hz]
  refine ow_callP X_81 36 50 51 52 3 53 2 (κ' := k5) (as := [.int sz]) (S := []) (W := 0) rfl rfl rfl rfl rfl rfl rfl (by decide) f80_2.1 (C_alloc (oSt_w X_81) (oSt_n0 X_81) a sz _ _ _ _ _ _ _ _ _ _ _ _ _ _ f80_2 ga (by omega) (by omega)) (by decide) (by decide) (Nat.le_of_eq rfl) (by decide) (by decide) pd5 rfl rfl rfl d3_33 rfl ?_
  intro v_82 T_82 h_82 X_82 q_82
  obtain ⟨rfl, aN, aJ, aD, aC, aT, aR, aF, K82, nd82, gs82, fr82, R82, Fs82⟩ := q_82
  have f83_0 : oA Z h_82 aN0 .int 0 (fun i => .int (oZI i)) := f80_0.keep K82 (ninS (Ne.symm ne) nin0)
  have f83_1 : Keep h h_82 [a] := f80_1.trans K82 (allS (Or.inl (List.mem_of_getElem? (i := 0) rfl)) all0)
  show oWP ω γ k3 _ T_82 36 #[.val (.ref a), .val (.int fr), .val (.int lim)] []
  refine ow_retV X_82 rfl d3_36 (by decide) (by decide) ?_
  exact ⟨rfl, aN, aJ, aD, aC, aT, aR, aF, f83_1, nd82, gs82, (fun x hx => Nat.le_trans f80_1.1 (fr82 x hx)), R82, Fs82⟩
theorem d7_0 : decode prog_32_method_14_code 0 = .ok (.aload_n 0, 1) := by decide +kernel
theorem d7_1 : decode prog_32_method_14_code 1 = .ok (.getfield 58, 3) := by decide +kernel
theorem d7_4 : decode prog_32_method_14_code 4 = .ok (.aload_n 0, 1) := by decide +kernel
theorem d7_5 : decode prog_32_method_14_code 5 = .ok (.getfield 39, 3) := by decide +kernel
theorem d7_8 : decode prog_32_method_14_code 8 = .ok (.arraylength, 1) := by decide +kernel
theorem d7_9 : decode prog_32_method_14_code 9 = .ok (.if_icmp .ne 20, 3) := by decide +kernel
theorem d7_12 : decode prog_32_method_14_code 12 = .ok (.aload_n 0, 1) := by decide +kernel
theorem d7_13 : decode prog_32_method_14_code 13 = .ok (.aload_n 0, 1) := by decide +kernel
theorem d7_14 : decode prog_32_method_14_code 14 = .ok (.getfield 39, 3) := by decide +kernel
theorem d7_17 : decode prog_32_method_14_code 17 = .ok (.iconst 2, 1) := by decide +kernel
theorem d7_18 : decode prog_32_method_14_code 18 = .ok (.aload_n 0, 1) := by decide +kernel
theorem d7_19 : decode prog_32_method_14_code 19 = .ok (.getfield 58, 3) := by decide +kernel
theorem d7_22 : decode prog_32_method_14_code 22 = .ok (.imul, 1) := by decide +kernel
theorem d7_23 : decode prog_32_method_14_code 23 = .ok (.invokestatic 75, 3) := by decide +kernel
theorem d7_26 : decode prog_32_method_14_code 26 = .ok (.putfield 39, 3) := by decide +kernel
theorem d7_29 : decode prog_32_method_14_code 29 = .ok (.aload_n 0, 1) := by decide +kernel
theorem d7_30 : decode prog_32_method_14_code 30 = .ok (.getfield 39, 3) := by decide +kernel
theorem d7_33 : decode prog_32_method_14_code 33 = .ok (.aload_n 0, 1) := by decide +kernel
theorem d7_34 : decode prog_32_method_14_code 34 = .ok (.dup, 1) := by decide +kernel
theorem d7_35 : decode prog_32_method_14_code 35 = .ok (.getfield 58, 3) := by decide +kernel
theorem d7_38 : decode prog_32_method_14_code 38 = .ok (.dup_x1, 1) := by decide +kernel
theorem d7_39 : decode prog_32_method_14_code 39 = .ok (.iconst 1, 1) := by decide +kernel
theorem d7_40 : decode prog_32_method_14_code 40 = .ok (.iadd, 1) := by decide +kernel
theorem d7_41 : decode prog_32_method_14_code 41 = .ok (.putfield 58, 3) := by decide +kernel
theorem d7_44 : decode prog_32_method_14_code 44 = .ok (.iload_n 1, 1) := by decide +kernel
theorem d7_45 : decode prog_32_method_14_code 45 = .ok (.iastore, 1) := by decide +kernel
theorem d7_46 : decode prog_32_method_14_code 46 = .ok (.iload_n 1, 1) := by decide +kernel
theorem d7_47 : decode prog_32_method_14_code 47 = .ok (.aload_n 0, 1) := by decide +kernel
theorem d7_48 : decode prog_32_method_14_code 48 = .ok (.getfield 51, 3) := by decide +kernel
theorem d7_51 : decode prog_32_method_14_code 51 = .ok (.isub, 1) := by decide +kernel
theorem d7_52 : decode prog_32_method_14_code 52 = .ok (.ireturn, 1) := by decide +kernel
def k7 : OM := (prog_32_method_14_code, 2, "com/example/tollbook/tollbook/ber/TlvChains", "learn", (some .int), { frames := 0, cells := 0, slots := 0, locals := 0 })
theorem pn7 : plainFor (⟨"com/example/tollbook/tollbook/ber/TlvChains", "learn", "(I)I"⟩ : MethodName) = true := plainFor_of_name (by first | (simp [plainName, overriddenIn]; done) | decide +kernel)
theorem pd7 : parseMethodDescriptor "(I)I" = some ⟨[.int], (some .int)⟩ := by decide +kernel
set_option maxRecDepth 65536 in
set_option maxHeartbeats 4000000 in
theorem C_learn {Z : State} {ω : OW} {h : Heap} (hw_ : ∀ d ∈ tables_1, d.before ω.2.2 Z = true) (hn_ : ω.2.1 ≤ h.size) (a aL : Addr) (st fr lc : Int32) (G : Nat → Int32) (v_limit v_nexts v_jumps v_depths v_tagClasses v_tagNumbers v_nearest v_failures v_soughtClass v_soughtNumber v_path : Value) (F0 : TC Z h a (.int fr) v_limit v_nexts v_jumps v_depths v_tagClasses v_tagNumbers v_nearest v_failures (.ref aL) (.int lc) v_soughtClass v_soughtNumber v_path) (A0 : oA Z h aL .int 16 (fun i => .int (G i))) (ga : ω.2.1 ≤ a) (gl : ω.2.1 ≤ aL) (ne : a ≠ aL) (h0 : 0 ≤ lc.toInt) (h1 : lc.toInt < 16) :
    oC Z ω (⟨"com/example/tollbook/tollbook/ber/TlvChains", "learn", "(I)I"⟩ : MethodName) k7 [] #[.ref a, .int st] h (fun v h' => v = some (.int (st - fr)) ∧ Keep h h' [a, aL] ∧ TC Z h' a (.int fr) v_limit v_nexts v_jumps v_depths v_tagClasses v_tagNumbers v_nearest v_failures (.ref aL) (.int (lc + (1 : Int32))) v_soughtClass v_soughtNumber v_path ∧ oA Z h' aL .int 16 (fun i => .int (oUpd G lc.toInt.toNat st i))) := by
  refine oC_of hw_ hn_ pn7 rfl rfl (L := #[.val (.ref a), .val (.int st)]) (fun m => by first | (simp [entryFrame, mkF, argsToLocals, Value.category, k7]; done) | rfl) ?_
  intro γ T X
  refine ow_aloadN X 1 d7_0 rfl rfl rfl ?_
  refine ow_getF X 4 46 rfl rfl F0.2.2.2.2.2.2.2.2.2.2.2.1 d7_1 rfl ?_
  intro T_84 X_84
  refine ow_aloadN X_84 5 d7_4 rfl rfl rfl ?_
  refine ow_getF X_84 8 30 rfl rfl F0.2.2.2.2.2.2.2.2.2.2.1 d7_5 rfl ?_
  intro T_85 X_85
  refine ow_alen X_85 9 (v := 16) A0 d7_8 rfl rfl ?_
  refine ow_icmp_ne X_85 12 29 d7_9 rfl rfl (fun (c9 : lc.toInt ≠ 16) => ?_) (fun (c9 : lc.toInt = 16) => by exfalso; omega)
  refine ow_aloadN X_85 30 d7_29 rfl rfl rfl ?_
  refine ow_getF X_85 33 30 rfl rfl F0.2.2.2.2.2.2.2.2.2.2.1 d7_30 rfl ?_
  intro T_86 X_86
  refine ow_aloadN X_86 34 d7_33 rfl rfl rfl ?_
  refine ow_dup X_86 35 d7_34 rfl rfl ?_
  refine ow_getF X_86 38 46 rfl rfl F0.2.2.2.2.2.2.2.2.2.2.2.1 d7_35 rfl ?_
  intro T_87 X_87
  refine ow_dupX1 X_87 39 d7_38 rfl rfl rfl ?_
  refine ow_iconst X_87 40 (1 : Int32) d7_39 rfl rfl ?_
  refine ow_iadd X_87 41 d7_40 rfl ?_
  refine ow_putF X_87 44 46 2 rfl rfl F0.2.2.2.2.2.2.2.2.2.2.2.1 F0.1 (Or.inl (oSt_at X_87 47 rfl)) rfl (ty := .int) (by decide) rfl rfl ga d7_41 rfl ?_
  intro T_88 h_88 X_88 W_88
  have f89_0 : TC Z h_88 a (.int fr) v_limit v_nexts v_jumps v_depths v_tagClasses v_tagNumbers v_nearest v_failures (.ref aL) (.int (lc + (1 : Int32))) v_soughtClass v_soughtNumber v_path := TC.set_learntCount (oSt_w X_88) F0 W_88
  have f89_1 : oA Z h_88 aL .int 16 (fun i => .int (G i)) := A0.other W_88 (Ne.symm ne)
  have f89_2 : Keep h h_88 [a, aL] := (Keep.refl h [a, aL]).wr W_88 (Or.inl (List.mem_of_getElem? (i := 0) rfl))
  refine ow_iloadN X_88 45 d7_44 rfl rfl ?_
  refine ow_iastore X_88 46 f89_1 gl d7_45 rfl h0 (by omega) ?_
  intro T_90 h_90 X_90 W_90
  have f91_0 : TC Z h_90 a (.int fr) v_limit v_nexts v_jumps v_depths v_tagClasses v_tagNumbers v_nearest v_failures (.ref aL) (.int (lc + (1 : Int32))) v_soughtClass v_soughtNumber v_path := f89_0.other W_90 ne
  have f91_1 : oA Z h_90 aL .int 16 (fun i => .int ((oUpd G lc.toInt.toNat st) i)) := f89_1.setI W_90
  have f91_2 : Keep h h_90 [a, aL] := f89_2.wr W_90 (Or.inl (List.mem_of_getElem? (i := 1) rfl))
  refine ow_iloadN X_90 47 d7_46 rfl rfl ?_
  refine ow_aloadN X_90 48 d7_47 rfl rfl rfl ?_
  refine ow_getF X_90 51 48 rfl rfl f91_0.2.1 d7_48 rfl ?_
  intro T_92 X_92
  refine ow_isub X_92 52 d7_51 rfl ?_
  refine ow_retI X_92 rfl d7_52 (by decide) (by decide) ?_
  exact ⟨rfl, f91_2, f91_0, f91_1⟩
theorem d6_0 : decode prog_32_method_7_code 0 = .ok (.aload_n 0, 1) := by decide +kernel
theorem d6_1 : decode prog_32_method_7_code 1 = .ok (.iload_n 1, 1) := by decide +kernel
theorem d6_2 : decode prog_32_method_7_code 2 = .ok (.invokevirtual 61, 3) := by decide +kernel
theorem d6_5 : decode prog_32_method_7_code 5 = .ok (.istore_n 3, 1) := by decide +kernel
theorem d6_6 : decode prog_32_method_7_code 6 = .ok (.aload_n 0, 1) := by decide +kernel
theorem d6_7 : decode prog_32_method_7_code 7 = .ok (.getfield 13, 3) := by decide +kernel
theorem d6_10 : decode prog_32_method_7_code 10 = .ok (.iload_n 3, 1) := by decide +kernel
theorem d6_11 : decode prog_32_method_7_code 11 = .ok (.iconst (-1), 1) := by decide +kernel
theorem d6_12 : decode prog_32_method_7_code 12 = .ok (.iastore, 1) := by decide +kernel
theorem d6_13 : decode prog_32_method_7_code 13 = .ok (.aload_n 0, 1) := by decide +kernel
theorem d6_14 : decode prog_32_method_7_code 14 = .ok (.getfield 17, 3) := by decide +kernel
theorem d6_17 : decode prog_32_method_7_code 17 = .ok (.iload_n 3, 1) := by decide +kernel
theorem d6_18 : decode prog_32_method_7_code 18 = .ok (.iload_n 1, 1) := by decide +kernel
theorem d6_19 : decode prog_32_method_7_code 19 = .ok (.iastore, 1) := by decide +kernel
theorem d6_20 : decode prog_32_method_7_code 20 = .ok (.aload_n 0, 1) := by decide +kernel
theorem d6_21 : decode prog_32_method_7_code 21 = .ok (.getfield 20, 3) := by decide +kernel
theorem d6_24 : decode prog_32_method_7_code 24 = .ok (.iload_n 3, 1) := by decide +kernel
theorem d6_25 : decode prog_32_method_7_code 25 = .ok (.iconst 0, 1) := by decide +kernel
theorem d6_26 : decode prog_32_method_7_code 26 = .ok (.iastore, 1) := by decide +kernel
theorem d6_27 : decode prog_32_method_7_code 27 = .ok (.aload_n 0, 1) := by decide +kernel
theorem d6_28 : decode prog_32_method_7_code 28 = .ok (.getfield 35, 3) := by decide +kernel
theorem d6_31 : decode prog_32_method_7_code 31 = .ok (.iload_n 3, 1) := by decide +kernel
theorem d6_32 : decode prog_32_method_7_code 32 = .ok (.aload_n 2, 1) := by decide +kernel
theorem d6_33 : decode prog_32_method_7_code 33 = .ok (.aastore, 1) := by decide +kernel
theorem d6_34 : decode prog_32_method_7_code 34 = .ok (.return_, 1) := by decide +kernel
def k6 : OM := (prog_32_method_7_code, 4, "com/example/tollbook/tollbook/ber/TlvChains", "stops", none, { frames := 1, cells := 0, slots := 0, locals := 14 })
theorem pn6 : plainFor (⟨"com/example/tollbook/tollbook/ber/TlvChains", "stops", "(ILcom/example/tollbook/tollbook/ber/BerException;)V"⟩ : MethodName) = true := plainFor_of_name (by first | (simp [plainName, overriddenIn]; done) | decide +kernel)
theorem pd6 : parseMethodDescriptor "(ILcom/example/tollbook/tollbook/ber/BerException;)V" = some ⟨[.int, (.object "com/example/tollbook/tollbook/ber/BerException")], none⟩ := by decide +kernel
set_option maxRecDepth 65536 in
set_option maxHeartbeats 4000000 in
theorem C_stops {Z : State} {ω : OW} {h : Heap} (hw_ : ∀ d ∈ tables_1, d.before ω.2.2 Z = true) (hn_ : ω.2.1 ≤ h.size) (a aL aN aJ aD aF : Addr) (st fr lc : Int32) (n : Nat) (N J D G : Nat → Int32) (Fv : Nat → Value) (v_limit v_tagClasses v_tagNumbers v_nearest v_soughtClass v_soughtNumber v_path : Value) (F0 : TC Z h a (.int fr) v_limit (.ref aN) (.ref aJ) (.ref aD) v_tagClasses v_tagNumbers v_nearest (.ref aF) (.ref aL) (.int lc) v_soughtClass v_soughtNumber v_path) (AaN : oA Z h aN .int n (fun i => .int (N i))) (AaJ : oA Z h aJ .int n (fun i => .int (J i))) (AaD : oA Z h aD .int n (fun i => .int (D i))) (AaF : oA Z h aF (.object "com/example/tollbook/tollbook/ber/BerException") n Fv) (AaL : oA Z h aL .int 16 (fun i => .int (G i))) (nd : List.Nodup [a, aL, aN, aJ, aD, aF]) (gs : ∀ x ∈ [a, aL, aN, aJ, aD, aF], ω.2.1 ≤ x) (h0 : 0 ≤ lc.toInt) (h1 : lc.toInt < 16) (hx0 : 0 ≤ (st - fr).toInt) (hx1 : (st - fr).toInt < n) :
    oC Z ω (⟨"com/example/tollbook/tollbook/ber/TlvChains", "stops", "(ILcom/example/tollbook/tollbook/ber/BerException;)V"⟩ : MethodName) k6 [] #[.ref a, .int st, .null] h (fun v h' => v = none ∧ Keep h h' [a, aL, aN, aJ, aD, aF] ∧ TC Z h' a (.int fr) v_limit (.ref aN) (.ref aJ) (.ref aD) v_tagClasses v_tagNumbers v_nearest (.ref aF) (.ref aL) (.int (lc + (1 : Int32))) v_soughtClass v_soughtNumber v_path ∧ oA Z h' aN .int n (fun i => .int (oUpd N (st - fr).toInt.toNat (-1 : Int32) i)) ∧ oA Z h' aJ .int n (fun i => .int (oUpd J (st - fr).toInt.toNat st i)) ∧ oA Z h' aD .int n (fun i => .int (oUpd D (st - fr).toInt.toNat (0 : Int32) i)) ∧ (∃ Fv' : Nat → Value, oA Z h' aF (.object "com/example/tollbook/tollbook/ber/BerException") n Fv') ∧ oA Z h' aL .int 16 (fun i => .int (oUpd G lc.toInt.toNat st i))) := by
  refine oC_of hw_ hn_ pn6 rfl rfl (L := #[.val (.ref a), .val (.int st), .val .null, .unset]) (fun m => by first | (simp [entryFrame, mkF, argsToLocals, Value.category, k6]; done) | rfl) ?_
  intro γ T X
  refine ow_aloadN X 1 d6_0 rfl rfl rfl ?_
  refine ow_iloadN X 2 d6_1 rfl rfl ?_
  refine ow_callP X 5 59 60 61 3 62 2 (κ' := k7) (as := [.int st]) (S := []) (W := 0) rfl rfl rfl rfl rfl rfl rfl (by decide) F0.1 (C_learn (oSt_w X) (oSt_n0 X) a aL st fr lc G _ _ _ _ _ _ _ _ _ _ _ F0 AaL (gs _ (List.mem_of_getElem? (i := 0) rfl)) (gs _ (List.mem_of_getElem? (i := 1) rfl)) (oNd nd 0 1 (by decide) rfl rfl) h0 h1) (by decide) (by decide) (Nat.le_of_eq rfl) (by decide) (by decide) pd7 rfl rfl rfl d6_2 rfl ?_
  intro v_93 T_93 h_93 X_93 q_93
  obtain ⟨rfl, K93, R93, AL93⟩ := q_93
  have f94_1 : oA Z h_93 aN .int n (fun i => .int (N i)) := AaN.keep K93 (ninS (oNd nd 2 0 (by decide) rfl rfl) (ninS (oNd nd 2 1 (by decide) rfl rfl) nin0))
  have f94_2 : oA Z h_93 aJ .int n (fun i => .int (J i)) := AaJ.keep K93 (ninS (oNd nd 3 0 (by decide) rfl rfl) (ninS (oNd nd 3 1 (by decide) rfl rfl) nin0))
  have f94_3 : oA Z h_93 aD .int n (fun i => .int (D i)) := AaD.keep K93 (ninS (oNd nd 4 0 (by decide) rfl rfl) (ninS (oNd nd 4 1 (by decide) rfl rfl) nin0))
  have f94_4 : oA Z h_93 aF (.object "com/example/tollbook/tollbook/ber/BerException") n Fv := AaF.keep K93 (ninS (oNd nd 5 0 (by decide) rfl rfl) (ninS (oNd nd 5 1 (by decide) rfl rfl) nin0))
  have f94_6 : Keep h h_93 [a, aL, aN, aJ, aD, aF] := (Keep.refl h [a, aL, aN, aJ, aD, aF]).trans K93 (allS (Or.inl (List.mem_of_getElem? (i := 0) rfl)) (allS (Or.inl (List.mem_of_getElem? (i := 1) rfl)) all0))
  show oWP ω γ k6 _ T_93 5 #[.val (.ref a), .val (.int st), .val .null, .unset] [.int (st - fr)]
  refine ow_istoreN X_93 6 (L' := #[.val (.ref a), .val (.int st), .val .null, .val (.int (st - fr))]) d6_5 rfl rfl ?_
  refine ow_aloadN X_93 7 d6_6 rfl rfl rfl ?_
  refine ow_getF X_93 10 13 rfl rfl R93.2.2.2.1 d6_7 rfl ?_
  intro T_95 X_95
  refine ow_iloadN X_95 11 d6_10 rfl rfl ?_
  refine ow_iconst X_95 12 (-1 : Int32) d6_11 rfl rfl ?_
  refine ow_iastore X_95 13 f94_1 (gs _ (List.mem_of_getElem? (i := 2) rfl)) d6_12 rfl hx0 (by omega) ?_
  intro T_96 h_96 X_96 W_96
  have f97_0 : oA Z h_96 aN .int n (fun i => .int ((oUpd N ((st - fr).toInt.toNat) (-1 : Int32)) i)) := f94_1.setI W_96
  have f97_1 : oA Z h_96 aJ .int n (fun i => .int (J i)) := f94_2.other W_96 (oNd nd 3 2 (by decide) rfl rfl)
  have f97_2 : oA Z h_96 aD .int n (fun i => .int (D i)) := f94_3.other W_96 (oNd nd 4 2 (by decide) rfl rfl)
  have f97_3 : oA Z h_96 aF (.object "com/example/tollbook/tollbook/ber/BerException") n Fv := f94_4.other W_96 (oNd nd 5 2 (by decide) rfl rfl)
  have f97_4 : Keep h h_96 [a, aL, aN, aJ, aD, aF] := f94_6.wr W_96 (Or.inl (List.mem_of_getElem? (i := 2) rfl))
  have f97_5 : TC Z h_96 a (.int fr) v_limit (.ref aN) (.ref aJ) (.ref aD) v_tagClasses v_tagNumbers v_nearest (.ref aF) (.ref aL) (.int (lc + (1 : Int32))) v_soughtClass v_soughtNumber v_path := R93.other W_96 (oNd nd 0 2 (by decide) rfl rfl)
  have f97_6 : oA Z h_96 aL .int 16 (fun i => .int ((oUpd G lc.toInt.toNat st) i)) := AL93.other W_96 (oNd nd 1 2 (by decide) rfl rfl)
  refine ow_aloadN X_96 14 d6_13 rfl rfl rfl ?_
  refine ow_getF X_96 17 15 rfl rfl f97_5.2.2.2.2.1 d6_14 rfl ?_
  intro T_98 X_98
  refine ow_iloadN X_98 18 d6_17 rfl rfl ?_
  refine ow_iloadN X_98 19 d6_18 rfl rfl ?_
  refine ow_iastore X_98 20 f97_1 (gs _ (List.mem_of_getElem? (i := 3) rfl)) d6_19 rfl hx0 (by omega) ?_
  intro T_99 h_99 X_99 W_99
  have f100_0 : oA Z h_99 aN .int n (fun i => .int ((oUpd N ((st - fr).toInt.toNat) (-1 : Int32)) i)) := f97_0.other W_99 (oNd nd 2 3 (by decide) rfl rfl)
  have f100_1 : oA Z h_99 aJ .int n (fun i => .int ((oUpd J ((st - fr).toInt.toNat) st) i)) := f97_1.setI W_99
  have f100_2 : oA Z h_99 aD .int n (fun i => .int (D i)) := f97_2.other W_99 (oNd nd 4 3 (by decide) rfl rfl)
  have f100_3 : oA Z h_99 aF (.object "com/example/tollbook/tollbook/ber/BerException") n Fv := f97_3.other W_99 (oNd nd 5 3 (by decide) rfl rfl)
  have f100_4 : Keep h h_99 [a, aL, aN, aJ, aD, aF] := f97_4.wr W_99 (Or.inl (List.mem_of_getElem? (i := 3) rfl))
  have f100_5 : TC Z h_99 a (.int fr) v_limit (.ref aN) (.ref aJ) (.ref aD) v_tagClasses v_tagNumbers v_nearest (.ref aF) (.ref aL) (.int (lc + (1 : Int32))) v_soughtClass v_soughtNumber v_path := f97_5.other W_99 (oNd nd 0 3 (by decide) rfl rfl)
  have f100_6 : oA Z h_99 aL .int 16 (fun i => .int ((oUpd G lc.toInt.toNat st) i)) := f97_6.other W_99 (oNd nd 1 3 (by decide) rfl rfl)
  refine ow_aloadN X_99 21 d6_20 rfl rfl rfl ?_
  refine ow_getF X_99 24 17 rfl rfl f100_5.2.2.2.2.2.1 d6_21 rfl ?_
  intro T_101 X_101
  refine ow_iloadN X_101 25 d6_24 rfl rfl ?_
  refine ow_iconst X_101 26 (0 : Int32) d6_25 rfl rfl ?_
  refine ow_iastore X_101 27 f100_2 (gs _ (List.mem_of_getElem? (i := 4) rfl)) d6_26 rfl hx0 (by omega) ?_
  intro T_102 h_102 X_102 W_102
  have f103_0 : oA Z h_102 aN .int n (fun i => .int ((oUpd N ((st - fr).toInt.toNat) (-1 : Int32)) i)) := f100_0.other W_102 (oNd nd 2 4 (by decide) rfl rfl)
  have f103_1 : oA Z h_102 aJ .int n (fun i => .int ((oUpd J ((st - fr).toInt.toNat) st) i)) := f100_1.other W_102 (oNd nd 3 4 (by decide) rfl rfl)
  have f103_2 : oA Z h_102 aD .int n (fun i => .int ((oUpd D ((st - fr).toInt.toNat) (0 : Int32)) i)) := f100_2.setI W_102
  have f103_3 : oA Z h_102 aF (.object "com/example/tollbook/tollbook/ber/BerException") n Fv := f100_3.other W_102 (oNd nd 5 4 (by decide) rfl rfl)
  have f103_4 : Keep h h_102 [a, aL, aN, aJ, aD, aF] := f100_4.wr W_102 (Or.inl (List.mem_of_getElem? (i := 4) rfl))
  have f103_5 : TC Z h_102 a (.int fr) v_limit (.ref aN) (.ref aJ) (.ref aD) v_tagClasses v_tagNumbers v_nearest (.ref aF) (.ref aL) (.int (lc + (1 : Int32))) v_soughtClass v_soughtNumber v_path := f100_5.other W_102 (oNd nd 0 4 (by decide) rfl rfl)
  have f103_6 : oA Z h_102 aL .int 16 (fun i => .int ((oUpd G lc.toInt.toNat st) i)) := f100_6.other W_102 (oNd nd 1 4 (by decide) rfl rfl)
  refine ow_aloadN X_102 28 d6_27 rfl rfl rfl ?_
  refine ow_getF X_102 31 28 rfl rfl f103_5.2.2.2.2.2.2.2.2.2.1 d6_28 rfl ?_
  intro T_104 X_104
  refine ow_iloadN X_104 32 d6_31 rfl rfl ?_
  refine ow_aloadN X_104 33 d6_32 rfl rfl rfl ?_
  refine ow_aastore X_104 34 f103_3 rfl (Or.inl rfl) (gs _ (List.mem_of_getElem? (i := 5) rfl)) d6_33 rfl hx0 (by omega) ?_
  intro T_105 h_105 X_105 W_105
  have f106_0 : oA Z h_105 aN .int n (fun i => .int ((oUpd N ((st - fr).toInt.toNat) (-1 : Int32)) i)) := f103_0.other W_105 (oNd nd 2 5 (by decide) rfl rfl)
  have f106_1 : oA Z h_105 aJ .int n (fun i => .int ((oUpd J ((st - fr).toInt.toNat) st) i)) := f103_1.other W_105 (oNd nd 3 5 (by decide) rfl rfl)
  have f106_2 : oA Z h_105 aD .int n (fun i => .int ((oUpd D ((st - fr).toInt.toNat) (0 : Int32)) i)) := f103_2.other W_105 (oNd nd 4 5 (by decide) rfl rfl)
  have f106_3 : oA Z h_105 aF (.object "com/example/tollbook/tollbook/ber/BerException") n (fun i => if i = (st - fr).toInt.toNat then .null else Fv i) := f103_3.set W_105
  have f106_4 : Keep h h_105 [a, aL, aN, aJ, aD, aF] := f103_4.wr W_105 (Or.inl (List.mem_of_getElem? (i := 5) rfl))
  have f106_5 : TC Z h_105 a (.int fr) v_limit (.ref aN) (.ref aJ) (.ref aD) v_tagClasses v_tagNumbers v_nearest (.ref aF) (.ref aL) (.int (lc + (1 : Int32))) v_soughtClass v_soughtNumber v_path := f103_5.other W_105 (oNd nd 0 5 (by decide) rfl rfl)
  have f106_6 : oA Z h_105 aL .int 16 (fun i => .int ((oUpd G lc.toInt.toNat st) i)) := f103_6.other W_105 (oNd nd 1 5 (by decide) rfl rfl)
  refine ow_retV X_105 rfl d6_34 (by decide) (by decide) ?_
  exact ⟨rfl, f106_4, f106_5, f106_0, f106_1, f106_2, ⟨_, f106_3⟩, f106_6⟩
theorem d12_0 : decode prog_32_method_6_code 0 = .ok (.iload_n 2, 1) := by decide +kernel
theorem d12_1 : decode prog_32_method_6_code 1 = .ok (.aload_n 0, 1) := by decide +kernel
theorem d12_2 : decode prog_32_method_6_code 2 = .ok (.getfield 51, 3) := by decide +kernel
theorem d12_5 : decode prog_32_method_6_code 5 = .ok (.isub, 1) := by decide +kernel
theorem d12_6 : decode prog_32_method_6_code 6 = .ok (.istore 5, 2) := by decide +kernel
theorem d12_8 : decode prog_32_method_6_code 8 = .ok (.aload_n 0, 1) := by decide +kernel
theorem d12_9 : decode prog_32_method_6_code 9 = .ok (.getfield 17, 3) := by decide +kernel
theorem d12_12 : decode prog_32_method_6_code 12 = .ok (.iload 5, 2) := by decide +kernel
theorem d12_14 : decode prog_32_method_6_code 14 = .ok (.iaload, 1) := by decide +kernel
theorem d12_15 : decode prog_32_method_6_code 15 = .ok (.aload_n 0, 1) := by decide +kernel
theorem d12_16 : decode prog_32_method_6_code 16 = .ok (.getfield 51, 3) := by decide +kernel
theorem d12_19 : decode prog_32_method_6_code 19 = .ok (.isub, 1) := by decide +kernel
theorem d12_20 : decode prog_32_method_6_code 20 = .ok (.istore 6, 2) := by decide +kernel
theorem d12_22 : decode prog_32_method_6_code 22 = .ok (.aload_n 0, 1) := by decide +kernel
theorem d12_23 : decode prog_32_method_6_code 23 = .ok (.getfield 17, 3) := by decide +kernel
theorem d12_26 : decode prog_32_method_6_code 26 = .ok (.iload 6, 2) := by decide +kernel
theorem d12_28 : decode prog_32_method_6_code 28 = .ok (.iaload, 1) := by decide +kernel
theorem d12_29 : decode prog_32_method_6_code 29 = .ok (.aload_n 0, 1) := by decide +kernel
theorem d12_30 : decode prog_32_method_6_code 30 = .ok (.getfield 51, 3) := by decide +kernel
theorem d12_33 : decode prog_32_method_6_code 33 = .ok (.isub, 1) := by decide +kernel
theorem d12_34 : decode prog_32_method_6_code 34 = .ok (.istore 7, 2) := by decide +kernel
theorem d12_36 : decode prog_32_method_6_code 36 = .ok (.aload_n 0, 1) := by decide +kernel
theorem d12_37 : decode prog_32_method_6_code 37 = .ok (.iload_n 1, 1) := by decide +kernel
theorem d12_38 : decode prog_32_method_6_code 38 = .ok (.invokevirtual 61, 3) := by decide +kernel
theorem d12_41 : decode prog_32_method_6_code 41 = .ok (.istore 8, 2) := by decide +kernel
theorem d12_43 : decode prog_32_method_6_code 43 = .ok (.aload_n 0, 1) := by decide +kernel
theorem d12_44 : decode prog_32_method_6_code 44 = .ok (.getfield 13, 3) := by decide +kernel
theorem d12_47 : decode prog_32_method_6_code 47 = .ok (.iload 8, 2) := by decide +kernel
theorem d12_49 : decode prog_32_method_6_code 49 = .ok (.iload_n 2, 1) := by decide +kernel
theorem d12_50 : decode prog_32_method_6_code 50 = .ok (.iastore, 1) := by decide +kernel
theorem d12_51 : decode prog_32_method_6_code 51 = .ok (.aload_n 0, 1) := by decide +kernel
theorem d12_52 : decode prog_32_method_6_code 52 = .ok (.getfield 17, 3) := by decide +kernel
theorem d12_55 : decode prog_32_method_6_code 55 = .ok (.iload 8, 2) := by decide +kernel
theorem d12_57 : decode prog_32_method_6_code 57 = .ok (.aload_n 0, 1) := by decide +kernel
theorem d12_58 : decode prog_32_method_6_code 58 = .ok (.getfield 20, 3) := by decide +kernel
theorem d12_61 : decode prog_32_method_6_code 61 = .ok (.iload 5, 2) := by decide +kernel
theorem d12_63 : decode prog_32_method_6_code 63 = .ok (.iaload, 1) := by decide +kernel
theorem d12_64 : decode prog_32_method_6_code 64 = .ok (.aload_n 0, 1) := by decide +kernel
theorem d12_65 : decode prog_32_method_6_code 65 = .ok (.getfield 20, 3) := by decide +kernel
theorem d12_68 : decode prog_32_method_6_code 68 = .ok (.iload 6, 2) := by decide +kernel
theorem d12_70 : decode prog_32_method_6_code 70 = .ok (.iaload, 1) := by decide +kernel
theorem d12_71 : decode prog_32_method_6_code 71 = .ok (.isub, 1) := by decide +kernel
theorem d12_72 : decode prog_32_method_6_code 72 = .ok (.aload_n 0, 1) := by decide +kernel
theorem d12_73 : decode prog_32_method_6_code 73 = .ok (.getfield 20, 3) := by decide +kernel
theorem d12_76 : decode prog_32_method_6_code 76 = .ok (.iload 6, 2) := by decide +kernel
theorem d12_78 : decode prog_32_method_6_code 78 = .ok (.iaload, 1) := by decide +kernel
theorem d12_79 : decode prog_32_method_6_code 79 = .ok (.aload_n 0, 1) := by decide +kernel
theorem d12_80 : decode prog_32_method_6_code 80 = .ok (.getfield 20, 3) := by decide +kernel
theorem d12_83 : decode prog_32_method_6_code 83 = .ok (.iload 7, 2) := by decide +kernel
theorem d12_85 : decode prog_32_method_6_code 85 = .ok (.iaload, 1) := by decide +kernel
theorem d12_86 : decode prog_32_method_6_code 86 = .ok (.isub, 1) := by decide +kernel
theorem d12_87 : decode prog_32_method_6_code 87 = .ok (.if_icmp .ne 13, 3) := by decide +kernel
theorem d12_90 : decode prog_32_method_6_code 90 = .ok (.aload_n 0, 1) := by decide +kernel
theorem d12_91 : decode prog_32_method_6_code 91 = .ok (.getfield 17, 3) := by decide +kernel
theorem d12_94 : decode prog_32_method_6_code 94 = .ok (.iload 6, 2) := by decide +kernel
theorem d12_96 : decode prog_32_method_6_code 96 = .ok (.iaload, 1) := by decide +kernel
theorem d12_97 : decode prog_32_method_6_code 97 = .ok (.goto 4, 3) := by decide +kernel
theorem d12_100 : decode prog_32_method_6_code 100 = .ok (.iload_n 2, 1) := by decide +kernel
theorem d12_101 : decode prog_32_method_6_code 101 = .ok (.iastore, 1) := by decide +kernel
theorem d12_102 : decode prog_32_method_6_code 102 = .ok (.aload_n 0, 1) := by decide +kernel
theorem d12_103 : decode prog_32_method_6_code 103 = .ok (.getfield 20, 3) := by decide +kernel
theorem d12_106 : decode prog_32_method_6_code 106 = .ok (.iload 8, 2) := by decide +kernel
theorem d12_108 : decode prog_32_method_6_code 108 = .ok (.aload_n 0, 1) := by decide +kernel
theorem d12_109 : decode prog_32_method_6_code 109 = .ok (.getfield 20, 3) := by decide +kernel
theorem d12_112 : decode prog_32_method_6_code 112 = .ok (.iload 5, 2) := by decide +kernel
theorem d12_114 : decode prog_32_method_6_code 114 = .ok (.iaload, 1) := by decide +kernel
theorem d12_115 : decode prog_32_method_6_code 115 = .ok (.iconst 1, 1) := by decide +kernel
theorem d12_116 : decode prog_32_method_6_code 116 = .ok (.iadd, 1) := by decide +kernel
theorem d12_117 : decode prog_32_method_6_code 117 = .ok (.iastore, 1) := by decide +kernel
theorem d12_118 : decode prog_32_method_6_code 118 = .ok (.aload_n 0, 1) := by decide +kernel
theorem d12_119 : decode prog_32_method_6_code 119 = .ok (.getfield 23, 3) := by decide +kernel
theorem d12_122 : decode prog_32_method_6_code 122 = .ok (.iload 8, 2) := by decide +kernel
theorem d12_124 : decode prog_32_method_6_code 124 = .ok (.iload_n 3, 1) := by decide +kernel
theorem d12_125 : decode prog_32_method_6_code 125 = .ok (.i2b, 1) := by decide +kernel
theorem d12_126 : decode prog_32_method_6_code 126 = .ok (.bastore, 1) := by decide +kernel
theorem d12_127 : decode prog_32_method_6_code 127 = .ok (.aload_n 0, 1) := by decide +kernel
theorem d12_128 : decode prog_32_method_6_code 128 = .ok (.getfield 27, 3) := by decide +kernel
theorem d12_131 : decode prog_32_method_6_code 131 = .ok (.iload 8, 2) := by decide +kernel
theorem d12_133 : decode prog_32_method_6_code 133 = .ok (.iload 4, 2) := by decide +kernel
theorem d12_135 : decode prog_32_method_6_code 135 = .ok (.iastore, 1) := by decide +kernel
theorem d12_136 : decode prog_32_method_6_code 136 = .ok (.return_, 1) := by decide +kernel
def k12 : OM := (prog_32_method_6_code, 9, "com/example/tollbook/tollbook/ber/TlvChains", "link", none, { frames := 1, cells := 0, slots := 0, locals := 14 })
theorem pn12 : plainFor (⟨"com/example/tollbook/tollbook/ber/TlvChains", "link", "(IIII)V"⟩ : MethodName) = true := plainFor_of_name (by first | (simp [plainName, overriddenIn]; done) | decide +kernel)
theorem pd12 : parseMethodDescriptor "(IIII)V" = some ⟨[.int, .int, .int, .int], none⟩ := by decide +kernel
set_option maxRecDepth 65536 in
set_option maxHeartbeats 4000000 in
theorem C_link {Z : State} {ω : OW} {h : Heap} (hw_ : ∀ d ∈ tables_1, d.before ω.2.2 Z = true) (hn_ : ω.2.1 ≤ h.size) (a aL aN aJ aD aC aT : Addr) (st nx tc tn fr lc : Int32) (n : Nat) (N J D Cc Tn G : Nat → Int32) (v_limit v_nearest v_failures v_soughtClass v_soughtNumber v_path : Value) (F0 : TC Z h a (.int fr) v_limit (.ref aN) (.ref aJ) (.ref aD) (.ref aC) (.ref aT) v_nearest v_failures (.ref aL) (.int lc) v_soughtClass v_soughtNumber v_path) (AaN : oA Z h aN .int n (fun i => .int (N i))) (AaJ : oA Z h aJ .int n (fun i => .int (J i))) (AaD : oA Z h aD .int n (fun i => .int (D i))) (AaC : oA Z h aC .byte n (fun i => .int (Cc i))) (AaT : oA Z h aT .int n (fun i => .int (Tn i))) (AaL : oA Z h aL .int 16 (fun i => .int (G i))) (nd : List.Nodup [a, aL, aN, aJ, aD, aC, aT]) (gs : ∀ x ∈ [a, aL, aN, aJ, aD, aC, aT], ω.2.1 ≤ x) (h0 : 0 ≤ lc.toInt) (h1 : lc.toInt < 16) (hx0 : 0 ≤ (st - fr).toInt) (hx1 : (st - fr).toInt < n) (hp0 : 0 ≤ (nx - fr).toInt) (hp1 : (nx - fr).toInt < n) (hj0 : 0 ≤ (J (nx - fr).toInt.toNat - fr).toInt) (hj1 : (J (nx - fr).toInt.toNat - fr).toInt < n) (hf0 : 0 ≤ (J (J (nx - fr).toInt.toNat - fr).toInt.toNat - fr).toInt) (hf1 : (J (J (nx - fr).toInt.toNat - fr).toInt.toNat - fr).toInt < n) :
    oC Z ω (⟨"com/example/tollbook/tollbook/ber/TlvChains", "link", "(IIII)V"⟩ : MethodName) k12 [] #[.ref a, .int st, .int nx, .int tc, .int tn] h (fun v h' => v = none ∧ Keep h h' [a, aL, aN, aJ, aD, aC, aT] ∧ TC Z h' a (.int fr) v_limit (.ref aN) (.ref aJ) (.ref aD) (.ref aC) (.ref aT) v_nearest v_failures (.ref aL) (.int (lc + (1 : Int32))) v_soughtClass v_soughtNumber v_path ∧ oA Z h' aN .int n (fun i => .int (oUpd N (st - fr).toInt.toNat nx i)) ∧ (∃ jv : Int32, oA Z h' aJ .int n (fun i => .int (oUpd J (st - fr).toInt.toNat jv i)) ∧ (jv = nx ∨ jv = J (J (nx - fr).toInt.toNat - fr).toInt.toNat)) ∧ (∃ D' : Nat → Int32, oA Z h' aD .int n (fun i => .int (D' i))) ∧ oA Z h' aC .byte n (fun i => .int (oUpd Cc (st - fr).toInt.toNat (tc.toInt8.toInt32.toInt8.toInt32) i)) ∧ oA Z h' aT .int n (fun i => .int (oUpd Tn (st - fr).toInt.toNat tn i)) ∧ oA Z h' aL .int 16 (fun i => .int (oUpd G lc.toInt.toNat st i))) := by
  refine oC_of hw_ hn_ pn12 rfl rfl (L := #[.val (.ref a), .val (.int st), .val (.int nx), .val (.int tc), .val (.int tn), .unset, .unset, .unset, .unset]) (fun m => by first | (simp [entryFrame, mkF, argsToLocals, Value.category, k12]; done) | rfl) ?_
  intro γ T X
  refine ow_iloadN X 1 d12_0 rfl rfl ?_
  refine ow_aloadN X 2 d12_1 rfl rfl rfl ?_
  refine ow_getF X 5 48 rfl rfl F0.2.1 d12_2 rfl ?_
  intro T_107 X_107
  refine ow_isub X_107 6 d12_5 rfl ?_
  refine ow_istore X_107 8 (L' := #[.val (.ref a), .val (.int st), .val (.int nx), .val (.int tc), .val (.int tn), .val (.int (nx - fr)), .unset, .unset, .unset]) d12_6 rfl rfl ?_
  refine ow_aloadN X_107 9 d12_8 rfl rfl rfl ?_
  refine ow_getF X_107 12 15 rfl rfl F0.2.2.2.2.1 d12_9 rfl ?_
  intro T_108 X_108
  refine ow_iload X_108 14 d12_12 rfl rfl ?_
  refine ow_iaload X_108 15 AaJ d12_14 rfl hp0 (by omega) rfl ?_
  refine ow_aloadN X_108 16 d12_15 rfl rfl rfl ?_
  refine ow_getF X_108 19 48 rfl rfl F0.2.1 d12_16 rfl ?_
  intro T_109 X_109
  refine ow_isub X_109 20 d12_19 rfl ?_
  refine ow_istore X_109 22 (L' := #[.val (.ref a), .val (.int st), .val (.int nx), .val (.int tc), .val (.int tn), .val (.int (nx - fr)), .val (.int ((J (nx - fr).toInt.toNat) - fr)), .unset, .unset]) d12_20 rfl rfl ?_
  refine ow_aloadN X_109 23 d12_22 rfl rfl rfl ?_
  refine ow_getF X_109 26 15 rfl rfl F0.2.2.2.2.1 d12_23 rfl ?_
  intro T_110 X_110
  refine ow_iload X_110 28 d12_26 rfl rfl ?_
  refine ow_iaload X_110 29 AaJ d12_28 rfl hj0 (by omega) rfl ?_
  refine ow_aloadN X_110 30 d12_29 rfl rfl rfl ?_
  refine ow_getF X_110 33 48 rfl rfl F0.2.1 d12_30 rfl ?_
  intro T_111 X_111
  refine ow_isub X_111 34 d12_33 rfl ?_
  refine ow_istore X_111 36 (L' := #[.val (.ref a), .val (.int st), .val (.int nx), .val (.int tc), .val (.int tn), .val (.int (nx - fr)), .val (.int ((J (nx - fr).toInt.toNat) - fr)), .val (.int ((J ((J (nx - fr).toInt.toNat) - fr).toInt.toNat) - fr)), .unset]) d12_34 rfl rfl ?_
  refine ow_aloadN X_111 37 d12_36 rfl rfl rfl ?_
  refine ow_iloadN X_111 38 d12_37 rfl rfl ?_
  refine ow_callP X_111 41 59 60 61 3 62 2 (κ' := k7) (as := [.int st]) (S := []) (W := 0) rfl rfl rfl rfl rfl rfl rfl (by decide) F0.1 (C_learn (oSt_w X_111) (oSt_n0 X_111) a aL st fr lc G _ _ _ _ _ _ _ _ _ _ _ F0 AaL (gs _ (List.mem_of_getElem? (i := 0) rfl)) (gs _ (List.mem_of_getElem? (i := 1) rfl)) (oNd nd 0 1 (by decide) rfl rfl) h0 h1) (by decide) (by decide) (Nat.le_of_eq rfl) (by decide) (by decide) pd7 rfl rfl rfl d12_38 rfl ?_
  intro v_112 T_112 h_112 X_112 q_112
  obtain ⟨rfl, K112, R112, AL112⟩ := q_112
  have f113_1 : oA Z h_112 aN .int n (fun i => .int (N i)) := AaN.keep K112 (ninS (oNd nd 2 0 (by decide) rfl rfl) (ninS (oNd nd 2 1 (by decide) rfl rfl) nin0))
  have f113_2 : oA Z h_112 aJ .int n (fun i => .int (J i)) := AaJ.keep K112 (ninS (oNd nd 3 0 (by decide) rfl rfl) (ninS (oNd nd 3 1 (by decide) rfl rfl) nin0))
  have f113_3 : oA Z h_112 aD .int n (fun i => .int (D i)) := AaD.keep K112 (ninS (oNd nd 4 0 (by decide) rfl rfl) (ninS (oNd nd 4 1 (by decide) rfl rfl) nin0))
  have f113_4 : oA Z h_112 aC .byte n (fun i => .int (Cc i)) := AaC.keep K112 (ninS (oNd nd 5 0 (by decide) rfl rfl) (ninS (oNd nd 5 1 (by decide) rfl rfl) nin0))
  have f113_5 : oA Z h_112 aT .int n (fun i => .int (Tn i)) := AaT.keep K112 (ninS (oNd nd 6 0 (by decide) rfl rfl) (ninS (oNd nd 6 1 (by decide) rfl rfl) nin0))
  have f113_7 : Keep h h_112 [a, aL, aN, aJ, aD, aC, aT] := (Keep.refl h [a, aL, aN, aJ, aD, aC, aT]).trans K112 (allS (Or.inl (List.mem_of_getElem? (i := 0) rfl)) (allS (Or.inl (List.mem_of_getElem? (i := 1) rfl)) all0))
  show oWP ω γ k12 _ T_112 41 #[.val (.ref a), .val (.int st), .val (.int nx), .val (.int tc), .val (.int tn), .val (.int (nx - fr)), .val (.int ((J (nx - fr).toInt.toNat) - fr)), .val (.int ((J ((J (nx - fr).toInt.toNat) - fr).toInt.toNat) - fr)), .unset] [.int (st - fr)]
  refine ow_istore X_112 43 (L' := #[.val (.ref a), .val (.int st), .val (.int nx), .val (.int tc), .val (.int tn), .val (.int (nx - fr)), .val (.int ((J (nx - fr).toInt.toNat) - fr)), .val (.int ((J ((J (nx - fr).toInt.toNat) - fr).toInt.toNat) - fr)), .val (.int (st - fr))]) d12_41 rfl rfl ?_
  refine ow_aloadN X_112 44 d12_43 rfl rfl rfl ?_
  refine ow_getF X_112 47 13 rfl rfl R112.2.2.2.1 d12_44 rfl ?_
  intro T_114 X_114
  refine ow_iload X_114 49 d12_47 rfl rfl ?_
  refine ow_iloadN X_114 50 d12_49 rfl rfl ?_
  refine ow_iastore X_114 51 f113_1 (gs _ (List.mem_of_getElem? (i := 2) rfl)) d12_50 rfl hx0 (by omega) ?_
  intro T_115 h_115 X_115 W_115
  have f116_0 : oA Z h_115 aN .int n (fun i => .int ((oUpd N ((st - fr).toInt.toNat) nx) i)) := f113_1.setI W_115
  have f116_1 : oA Z h_115 aJ .int n (fun i => .int (J i)) := f113_2.other W_115 (oNd nd 3 2 (by decide) rfl rfl)
  have f116_2 : oA Z h_115 aD .int n (fun i => .int (D i)) := f113_3.other W_115 (oNd nd 4 2 (by decide) rfl rfl)
  have f116_3 : oA Z h_115 aC .byte n (fun i => .int (Cc i)) := f113_4.other W_115 (oNd nd 5 2 (by decide) rfl rfl)
  have f116_4 : oA Z h_115 aT .int n (fun i => .int (Tn i)) := f113_5.other W_115 (oNd nd 6 2 (by decide) rfl rfl)
  have f116_5 : Keep h h_115 [a, aL, aN, aJ, aD, aC, aT] := f113_7.wr W_115 (Or.inl (List.mem_of_getElem? (i := 2) rfl))
  have f116_6 : TC Z h_115 a (.int fr) v_limit (.ref aN) (.ref aJ) (.ref aD) (.ref aC) (.ref aT) v_nearest v_failures (.ref aL) (.int (lc + (1 : Int32))) v_soughtClass v_soughtNumber v_path := R112.other W_115 (oNd nd 0 2 (by decide) rfl rfl)
  have f116_7 : oA Z h_115 aL .int 16 (fun i => .int ((oUpd G lc.toInt.toNat st) i)) := AL112.other W_115 (oNd nd 1 2 (by decide) rfl rfl)
  refine ow_aloadN X_115 52 d12_51 rfl rfl rfl ?_
  refine ow_getF X_115 55 15 rfl rfl f116_6.2.2.2.2.1 d12_52 rfl ?_
  intro T_117 X_117
  refine ow_iload X_117 57 d12_55 rfl rfl ?_
  refine ow_aloadN X_117 58 d12_57 rfl rfl rfl ?_
  refine ow_getF X_117 61 17 rfl rfl f116_6.2.2.2.2.2.1 d12_58 rfl ?_
  intro T_118 X_118
  refine ow_iload X_118 63 d12_61 rfl rfl ?_
  refine ow_iaload X_118 64 f116_2 d12_63 rfl hp0 (by omega) rfl ?_
  refine ow_aloadN X_118 65 d12_64 rfl rfl rfl ?_
  refine ow_getF X_118 68 17 rfl rfl f116_6.2.2.2.2.2.1 d12_65 rfl ?_
  intro T_119 X_119
  refine ow_iload X_119 70 d12_68 rfl rfl ?_
  refine ow_iaload X_119 71 f116_2 d12_70 rfl hj0 (by omega) rfl ?_
  refine ow_isub X_119 72 d12_71 rfl ?_
  refine ow_aloadN X_119 73 d12_72 rfl rfl rfl ?_
  refine ow_getF X_119 76 17 rfl rfl f116_6.2.2.2.2.2.1 d12_73 rfl ?_
  intro T_120 X_120
  refine ow_iload X_120 78 d12_76 rfl rfl ?_
  refine ow_iaload X_120 79 f116_2 d12_78 rfl hj0 (by omega) rfl ?_
  refine ow_aloadN X_120 80 d12_79 rfl rfl rfl ?_
  refine ow_getF X_120 83 17 rfl rfl f116_6.2.2.2.2.2.1 d12_80 rfl ?_
  intro T_121 X_121
  refine ow_iload X_121 85 d12_83 rfl rfl ?_
  refine ow_iaload X_121 86 f116_2 d12_85 rfl hf0 (by omega) rfl ?_
  refine ow_isub X_121 87 d12_86 rfl ?_
  refine ow_icmp_ne X_121 90 100 d12_87 rfl rfl (fun (c87 : ((D (nx - fr).toInt.toNat) - (D ((J (nx - fr).toInt.toNat) - fr).toInt.toNat)).toInt ≠ ((D ((J (nx - fr).toInt.toNat) - fr).toInt.toNat) - (D ((J ((J (nx - fr).toInt.toNat) - fr).toInt.toNat) - fr).toInt.toNat)).toInt) => ?_) (fun (c87 : ((D (nx - fr).toInt.toNat) - (D ((J (nx - fr).toInt.toNat) - fr).toInt.toNat)).toInt = ((D ((J (nx - fr).toInt.toNat) - fr).toInt.toNat) - (D ((J ((J (nx - fr).toInt.toNat) - fr).toInt.toNat) - fr).toInt.toNat)).toInt) => ?_)
  · refine ow_iloadN X_121 101 d12_100 rfl rfl ?_
    refine ow_iastore X_121 102 f116_1 (gs _ (List.mem_of_getElem? (i := 3) rfl)) d12_101 rfl hx0 (by omega) ?_
    intro T_122 h_122 X_122 W_122
    have f123_0 : oA Z h_122 aN .int n (fun i => .int ((oUpd N ((st - fr).toInt.toNat) nx) i)) := f116_0.other W_122 (oNd nd 2 3 (by decide) rfl rfl)
    have f123_1 : oA Z h_122 aJ .int n (fun i => .int ((oUpd J ((st - fr).toInt.toNat) nx) i)) := f116_1.setI W_122
    have f123_2 : oA Z h_122 aD .int n (fun i => .int (D i)) := f116_2.other W_122 (oNd nd 4 3 (by decide) rfl rfl)
    have f123_3 : oA Z h_122 aC .byte n (fun i => .int (Cc i)) := f116_3.other W_122 (oNd nd 5 3 (by decide) rfl rfl)
    have f123_4 : oA Z h_122 aT .int n (fun i => .int (Tn i)) := f116_4.other W_122 (oNd nd 6 3 (by decide) rfl rfl)
    have f123_5 : Keep h h_122 [a, aL, aN, aJ, aD, aC, aT] := f116_5.wr W_122 (Or.inl (List.mem_of_getElem? (i := 3) rfl))
    have f123_6 : TC Z h_122 a (.int fr) v_limit (.ref aN) (.ref aJ) (.ref aD) (.ref aC) (.ref aT) v_nearest v_failures (.ref aL) (.int (lc + (1 : Int32))) v_soughtClass v_soughtNumber v_path := f116_6.other W_122 (oNd nd 0 3 (by decide) rfl rfl)
    have f123_7 : oA Z h_122 aL .int 16 (fun i => .int ((oUpd G lc.toInt.toNat st) i)) := f116_7.other W_122 (oNd nd 1 3 (by decide) rfl rfl)
    refine ow_aloadN X_122 103 d12_102 rfl rfl rfl ?_
    refine ow_getF X_122 106 17 rfl rfl f123_6.2.2.2.2.2.1 d12_103 rfl ?_
    intro T_124 X_124
    refine ow_iload X_124 108 d12_106 rfl rfl ?_
    refine ow_aloadN X_124 109 d12_108 rfl rfl rfl ?_
    refine ow_getF X_124 112 17 rfl rfl f123_6.2.2.2.2.2.1 d12_109 rfl ?_
    intro T_125 X_125
    refine ow_iload X_125 114 d12_112 rfl rfl ?_
    refine ow_iaload X_125 115 f123_2 d12_114 rfl hp0 (by omega) rfl ?_
    refine ow_iconst X_125 116 (1 : Int32) d12_115 rfl rfl ?_
    refine ow_iadd X_125 117 d12_116 rfl ?_
    refine ow_iastore X_125 118 f123_2 (gs _ (List.mem_of_getElem? (i := 4) rfl)) d12_117 rfl hx0 (by omega) ?_
    intro T_126 h_126 X_126 W_126
    have f127_0 : oA Z h_126 aN .int n (fun i => .int ((oUpd N ((st - fr).toInt.toNat) nx) i)) := f123_0.other W_126 (oNd nd 2 4 (by decide) rfl rfl)
    have f127_1 : oA Z h_126 aJ .int n (fun i => .int ((oUpd J ((st - fr).toInt.toNat) nx) i)) := f123_1.other W_126 (oNd nd 3 4 (by decide) rfl rfl)
    have f127_2 : oA Z h_126 aD .int n (fun i => .int ((oUpd D ((st - fr).toInt.toNat) ((D (nx - fr).toInt.toNat) + (1 : Int32))) i)) := f123_2.setI W_126
    have f127_3 : oA Z h_126 aC .byte n (fun i => .int (Cc i)) := f123_3.other W_126 (oNd nd 5 4 (by decide) rfl rfl)
    have f127_4 : oA Z h_126 aT .int n (fun i => .int (Tn i)) := f123_4.other W_126 (oNd nd 6 4 (by decide) rfl rfl)
    have f127_5 : Keep h h_126 [a, aL, aN, aJ, aD, aC, aT] := f123_5.wr W_126 (Or.inl (List.mem_of_getElem? (i := 4) rfl))
    have f127_6 : TC Z h_126 a (.int fr) v_limit (.ref aN) (.ref aJ) (.ref aD) (.ref aC) (.ref aT) v_nearest v_failures (.ref aL) (.int (lc + (1 : Int32))) v_soughtClass v_soughtNumber v_path := f123_6.other W_126 (oNd nd 0 4 (by decide) rfl rfl)
    have f127_7 : oA Z h_126 aL .int 16 (fun i => .int ((oUpd G lc.toInt.toNat st) i)) := f123_7.other W_126 (oNd nd 1 4 (by decide) rfl rfl)
    refine ow_aloadN X_126 119 d12_118 rfl rfl rfl ?_
    refine ow_getF X_126 122 20 rfl rfl f127_6.2.2.2.2.2.2.1 d12_119 rfl ?_
    intro T_128 X_128
    refine ow_iload X_128 124 d12_122 rfl rfl ?_
    refine ow_iloadN X_128 125 d12_124 rfl rfl ?_
    refine ow_i2b X_128 126 d12_125 rfl ?_
    refine ow_bastore X_128 127 f127_3 (gs _ (List.mem_of_getElem? (i := 5) rfl)) d12_126 rfl hx0 (by omega) ?_
    intro T_129 h_129 X_129 W_129
    have f130_0 : oA Z h_129 aN .int n (fun i => .int ((oUpd N ((st - fr).toInt.toNat) nx) i)) := f127_0.other W_129 (oNd nd 2 5 (by decide) rfl rfl)
    have f130_1 : oA Z h_129 aJ .int n (fun i => .int ((oUpd J ((st - fr).toInt.toNat) nx) i)) := f127_1.other W_129 (oNd nd 3 5 (by decide) rfl rfl)
    have f130_2 : oA Z h_129 aD .int n (fun i => .int ((oUpd D ((st - fr).toInt.toNat) ((D (nx - fr).toInt.toNat) + (1 : Int32))) i)) := f127_2.other W_129 (oNd nd 4 5 (by decide) rfl rfl)
    have f130_3 : oA Z h_129 aC .byte n (fun i => .int ((oUpd Cc ((st - fr).toInt.toNat) tc.toInt8.toInt32.toInt8.toInt32) i)) := f127_3.setI W_129
    have f130_4 : oA Z h_129 aT .int n (fun i => .int (Tn i)) := f127_4.other W_129 (oNd nd 6 5 (by decide) rfl rfl)
    have f130_5 : Keep h h_129 [a, aL, aN, aJ, aD, aC, aT] := f127_5.wr W_129 (Or.inl (List.mem_of_getElem? (i := 5) rfl))
    have f130_6 : TC Z h_129 a (.int fr) v_limit (.ref aN) (.ref aJ) (.ref aD) (.ref aC) (.ref aT) v_nearest v_failures (.ref aL) (.int (lc + (1 : Int32))) v_soughtClass v_soughtNumber v_path := f127_6.other W_129 (oNd nd 0 5 (by decide) rfl rfl)
    have f130_7 : oA Z h_129 aL .int 16 (fun i => .int ((oUpd G lc.toInt.toNat st) i)) := f127_7.other W_129 (oNd nd 1 5 (by decide) rfl rfl)
    refine ow_aloadN X_129 128 d12_127 rfl rfl rfl ?_
    refine ow_getF X_129 131 22 rfl rfl f130_6.2.2.2.2.2.2.2.1 d12_128 rfl ?_
    intro T_131 X_131
    refine ow_iload X_131 133 d12_131 rfl rfl ?_
    refine ow_iload X_131 135 d12_133 rfl rfl ?_
    refine ow_iastore X_131 136 f130_4 (gs _ (List.mem_of_getElem? (i := 6) rfl)) d12_135 rfl hx0 (by omega) ?_
    intro T_132 h_132 X_132 W_132
    have f133_0 : oA Z h_132 aN .int n (fun i => .int ((oUpd N ((st - fr).toInt.toNat) nx) i)) := f130_0.other W_132 (oNd nd 2 6 (by decide) rfl rfl)
    have f133_1 : oA Z h_132 aJ .int n (fun i => .int ((oUpd J ((st - fr).toInt.toNat) nx) i)) := f130_1.other W_132 (oNd nd 3 6 (by decide) rfl rfl)
    have f133_2 : oA Z h_132 aD .int n (fun i => .int ((oUpd D ((st - fr).toInt.toNat) ((D (nx - fr).toInt.toNat) + (1 : Int32))) i)) := f130_2.other W_132 (oNd nd 4 6 (by decide) rfl rfl)
    have f133_3 : oA Z h_132 aC .byte n (fun i => .int ((oUpd Cc ((st - fr).toInt.toNat) tc.toInt8.toInt32.toInt8.toInt32) i)) := f130_3.other W_132 (oNd nd 5 6 (by decide) rfl rfl)
    have f133_4 : oA Z h_132 aT .int n (fun i => .int ((oUpd Tn ((st - fr).toInt.toNat) tn) i)) := f130_4.setI W_132
    have f133_5 : Keep h h_132 [a, aL, aN, aJ, aD, aC, aT] := f130_5.wr W_132 (Or.inl (List.mem_of_getElem? (i := 6) rfl))
    have f133_6 : TC Z h_132 a (.int fr) v_limit (.ref aN) (.ref aJ) (.ref aD) (.ref aC) (.ref aT) v_nearest v_failures (.ref aL) (.int (lc + (1 : Int32))) v_soughtClass v_soughtNumber v_path := f130_6.other W_132 (oNd nd 0 6 (by decide) rfl rfl)
    have f133_7 : oA Z h_132 aL .int 16 (fun i => .int ((oUpd G lc.toInt.toNat st) i)) := f130_7.other W_132 (oNd nd 1 6 (by decide) rfl rfl)
    refine ow_retV X_132 rfl d12_136 (by decide) (by decide) ?_
    exact ⟨rfl, f133_5, f133_6, f133_0, ⟨_, f133_1, Or.inl rfl⟩, ⟨_, f133_2⟩, f133_3, f133_4, f133_7⟩
  · refine ow_aloadN X_121 91 d12_90 rfl rfl rfl ?_
    refine ow_getF X_121 94 15 rfl rfl f116_6.2.2.2.2.1 d12_91 rfl ?_
    intro T_134 X_134
    refine ow_iload X_134 96 d12_94 rfl rfl ?_
    refine ow_iaload X_134 97 f116_1 d12_96 rfl hj0 (by omega) rfl ?_
    refine ow_goto X_134 101 d12_97 rfl ?_
    refine ow_iastore X_134 102 f116_1 (gs _ (List.mem_of_getElem? (i := 3) rfl)) d12_101 rfl hx0 (by omega) ?_
    intro T_135 h_135 X_135 W_135
    have f136_0 : oA Z h_135 aN .int n (fun i => .int ((oUpd N ((st - fr).toInt.toNat) nx) i)) := f116_0.other W_135 (oNd nd 2 3 (by decide) rfl rfl)
    have f136_1 : oA Z h_135 aJ .int n (fun i => .int ((oUpd J ((st - fr).toInt.toNat) (J ((J (nx - fr).toInt.toNat) - fr).toInt.toNat)) i)) := f116_1.setI W_135
    have f136_2 : oA Z h_135 aD .int n (fun i => .int (D i)) := f116_2.other W_135 (oNd nd 4 3 (by decide) rfl rfl)
    have f136_3 : oA Z h_135 aC .byte n (fun i => .int (Cc i)) := f116_3.other W_135 (oNd nd 5 3 (by decide) rfl rfl)
    have f136_4 : oA Z h_135 aT .int n (fun i => .int (Tn i)) := f116_4.other W_135 (oNd nd 6 3 (by decide) rfl rfl)
    have f136_5 : Keep h h_135 [a, aL, aN, aJ, aD, aC, aT] := f116_5.wr W_135 (Or.inl (List.mem_of_getElem? (i := 3) rfl))
    have f136_6 : TC Z h_135 a (.int fr) v_limit (.ref aN) (.ref aJ) (.ref aD) (.ref aC) (.ref aT) v_nearest v_failures (.ref aL) (.int (lc + (1 : Int32))) v_soughtClass v_soughtNumber v_path := f116_6.other W_135 (oNd nd 0 3 (by decide) rfl rfl)
    have f136_7 : oA Z h_135 aL .int 16 (fun i => .int ((oUpd G lc.toInt.toNat st) i)) := f116_7.other W_135 (oNd nd 1 3 (by decide) rfl rfl)
    refine ow_aloadN X_135 103 d12_102 rfl rfl rfl ?_
    refine ow_getF X_135 106 17 rfl rfl f136_6.2.2.2.2.2.1 d12_103 rfl ?_
    intro T_137 X_137
    refine ow_iload X_137 108 d12_106 rfl rfl ?_
    refine ow_aloadN X_137 109 d12_108 rfl rfl rfl ?_
    refine ow_getF X_137 112 17 rfl rfl f136_6.2.2.2.2.2.1 d12_109 rfl ?_
    intro T_138 X_138
    refine ow_iload X_138 114 d12_112 rfl rfl ?_
    refine ow_iaload X_138 115 f136_2 d12_114 rfl hp0 (by omega) rfl ?_
    refine ow_iconst X_138 116 (1 : Int32) d12_115 rfl rfl ?_
    refine ow_iadd X_138 117 d12_116 rfl ?_
    refine ow_iastore X_138 118 f136_2 (gs _ (List.mem_of_getElem? (i := 4) rfl)) d12_117 rfl hx0 (by omega) ?_
    intro T_139 h_139 X_139 W_139
    have f140_0 : oA Z h_139 aN .int n (fun i => .int ((oUpd N ((st - fr).toInt.toNat) nx) i)) := f136_0.other W_139 (oNd nd 2 4 (by decide) rfl rfl)
    have f140_1 : oA Z h_139 aJ .int n (fun i => .int ((oUpd J ((st - fr).toInt.toNat) (J ((J (nx - fr).toInt.toNat) - fr).toInt.toNat)) i)) := f136_1.other W_139 (oNd nd 3 4 (by decide) rfl rfl)
    have f140_2 : oA Z h_139 aD .int n (fun i => .int ((oUpd D ((st - fr).toInt.toNat) ((D (nx - fr).toInt.toNat) + (1 : Int32))) i)) := f136_2.setI W_139
    have f140_3 : oA Z h_139 aC .byte n (fun i => .int (Cc i)) := f136_3.other W_139 (oNd nd 5 4 (by decide) rfl rfl)
    have f140_4 : oA Z h_139 aT .int n (fun i => .int (Tn i)) := f136_4.other W_139 (oNd nd 6 4 (by decide) rfl rfl)
    have f140_5 : Keep h h_139 [a, aL, aN, aJ, aD, aC, aT] := f136_5.wr W_139 (Or.inl (List.mem_of_getElem? (i := 4) rfl))
    have f140_6 : TC Z h_139 a (.int fr) v_limit (.ref aN) (.ref aJ) (.ref aD) (.ref aC) (.ref aT) v_nearest v_failures (.ref aL) (.int (lc + (1 : Int32))) v_soughtClass v_soughtNumber v_path := f136_6.other W_139 (oNd nd 0 4 (by decide) rfl rfl)
    have f140_7 : oA Z h_139 aL .int 16 (fun i => .int ((oUpd G lc.toInt.toNat st) i)) := f136_7.other W_139 (oNd nd 1 4 (by decide) rfl rfl)
    refine ow_aloadN X_139 119 d12_118 rfl rfl rfl ?_
    refine ow_getF X_139 122 20 rfl rfl f140_6.2.2.2.2.2.2.1 d12_119 rfl ?_
    intro T_141 X_141
    refine ow_iload X_141 124 d12_122 rfl rfl ?_
    refine ow_iloadN X_141 125 d12_124 rfl rfl ?_
    refine ow_i2b X_141 126 d12_125 rfl ?_
    refine ow_bastore X_141 127 f140_3 (gs _ (List.mem_of_getElem? (i := 5) rfl)) d12_126 rfl hx0 (by omega) ?_
    intro T_142 h_142 X_142 W_142
    have f143_0 : oA Z h_142 aN .int n (fun i => .int ((oUpd N ((st - fr).toInt.toNat) nx) i)) := f140_0.other W_142 (oNd nd 2 5 (by decide) rfl rfl)
    have f143_1 : oA Z h_142 aJ .int n (fun i => .int ((oUpd J ((st - fr).toInt.toNat) (J ((J (nx - fr).toInt.toNat) - fr).toInt.toNat)) i)) := f140_1.other W_142 (oNd nd 3 5 (by decide) rfl rfl)
    have f143_2 : oA Z h_142 aD .int n (fun i => .int ((oUpd D ((st - fr).toInt.toNat) ((D (nx - fr).toInt.toNat) + (1 : Int32))) i)) := f140_2.other W_142 (oNd nd 4 5 (by decide) rfl rfl)
    have f143_3 : oA Z h_142 aC .byte n (fun i => .int ((oUpd Cc ((st - fr).toInt.toNat) tc.toInt8.toInt32.toInt8.toInt32) i)) := f140_3.setI W_142
    have f143_4 : oA Z h_142 aT .int n (fun i => .int (Tn i)) := f140_4.other W_142 (oNd nd 6 5 (by decide) rfl rfl)
    have f143_5 : Keep h h_142 [a, aL, aN, aJ, aD, aC, aT] := f140_5.wr W_142 (Or.inl (List.mem_of_getElem? (i := 5) rfl))
    have f143_6 : TC Z h_142 a (.int fr) v_limit (.ref aN) (.ref aJ) (.ref aD) (.ref aC) (.ref aT) v_nearest v_failures (.ref aL) (.int (lc + (1 : Int32))) v_soughtClass v_soughtNumber v_path := f140_6.other W_142 (oNd nd 0 5 (by decide) rfl rfl)
    have f143_7 : oA Z h_142 aL .int 16 (fun i => .int ((oUpd G lc.toInt.toNat st) i)) := f140_7.other W_142 (oNd nd 1 5 (by decide) rfl rfl)
    refine ow_aloadN X_142 128 d12_127 rfl rfl rfl ?_
    refine ow_getF X_142 131 22 rfl rfl f143_6.2.2.2.2.2.2.2.1 d12_128 rfl ?_
    intro T_144 X_144
    refine ow_iload X_144 133 d12_131 rfl rfl ?_
    refine ow_iload X_144 135 d12_133 rfl rfl ?_
    refine ow_iastore X_144 136 f143_4 (gs _ (List.mem_of_getElem? (i := 6) rfl)) d12_135 rfl hx0 (by omega) ?_
    intro T_145 h_145 X_145 W_145
    have f146_0 : oA Z h_145 aN .int n (fun i => .int ((oUpd N ((st - fr).toInt.toNat) nx) i)) := f143_0.other W_145 (oNd nd 2 6 (by decide) rfl rfl)
    have f146_1 : oA Z h_145 aJ .int n (fun i => .int ((oUpd J ((st - fr).toInt.toNat) (J ((J (nx - fr).toInt.toNat) - fr).toInt.toNat)) i)) := f143_1.other W_145 (oNd nd 3 6 (by decide) rfl rfl)
    have f146_2 : oA Z h_145 aD .int n (fun i => .int ((oUpd D ((st - fr).toInt.toNat) ((D (nx - fr).toInt.toNat) + (1 : Int32))) i)) := f143_2.other W_145 (oNd nd 4 6 (by decide) rfl rfl)
    have f146_3 : oA Z h_145 aC .byte n (fun i => .int ((oUpd Cc ((st - fr).toInt.toNat) tc.toInt8.toInt32.toInt8.toInt32) i)) := f143_3.other W_145 (oNd nd 5 6 (by decide) rfl rfl)
    have f146_4 : oA Z h_145 aT .int n (fun i => .int ((oUpd Tn ((st - fr).toInt.toNat) tn) i)) := f143_4.setI W_145
    have f146_5 : Keep h h_145 [a, aL, aN, aJ, aD, aC, aT] := f143_5.wr W_145 (Or.inl (List.mem_of_getElem? (i := 6) rfl))
    have f146_6 : TC Z h_145 a (.int fr) v_limit (.ref aN) (.ref aJ) (.ref aD) (.ref aC) (.ref aT) v_nearest v_failures (.ref aL) (.int (lc + (1 : Int32))) v_soughtClass v_soughtNumber v_path := f143_6.other W_145 (oNd nd 0 6 (by decide) rfl rfl)
    have f146_7 : oA Z h_145 aL .int 16 (fun i => .int ((oUpd G lc.toInt.toNat st) i)) := f143_7.other W_145 (oNd nd 1 6 (by decide) rfl rfl)
    refine ow_retV X_145 rfl d12_136 (by decide) (by decide) ?_
    exact ⟨rfl, f146_5, f146_6, f146_0, ⟨_, f146_1, Or.inr rfl⟩, ⟨_, f146_2⟩, f146_3, f146_4, f146_7⟩
theorem d10_0 : decode prog_32_method_4_code 0 = .ok (.aload_n 0, 1) := by decide +kernel
theorem d10_1 : decode prog_32_method_4_code 1 = .ok (.getfield 7, 3) := by decide +kernel
theorem d10_4 : decode prog_32_method_4_code 4 = .ok (.ireturn, 1) := by decide +kernel
def k10 : OM := (prog_32_method_4_code, 1, "com/example/tollbook/tollbook/ber/TlvChains", "limit", (some .int), { frames := 0, cells := 0, slots := 0, locals := 0 })
theorem pn10 : plainFor (⟨"com/example/tollbook/tollbook/ber/TlvChains", "limit", "()I"⟩ : MethodName) = true := plainFor_of_name (by first | (simp [plainName, overriddenIn]; done) | decide +kernel)
theorem pd10 : parseMethodDescriptor "()I" = some ⟨[], (some .int)⟩ := by decide +kernel
set_option maxRecDepth 65536 in
set_option maxHeartbeats 4000000 in
theorem C_limit {Z : State} {ω : OW} {h : Heap} (hw_ : ∀ d ∈ tables_1, d.before ω.2.2 Z = true) (hn_ : ω.2.1 ≤ h.size) (a : Addr) (lim : Int32) (v_from v_nexts v_jumps v_depths v_tagClasses v_tagNumbers v_nearest v_failures v_learnt v_learntCount v_soughtClass v_soughtNumber v_path : Value) (F0 : TC Z h a v_from (.int lim) v_nexts v_jumps v_depths v_tagClasses v_tagNumbers v_nearest v_failures v_learnt v_learntCount v_soughtClass v_soughtNumber v_path) :
    oC Z ω (⟨"com/example/tollbook/tollbook/ber/TlvChains", "limit", "()I"⟩ : MethodName) k10 [] #[.ref a] h (fun v h' => v = some (.int lim) ∧ h = h') := by
  refine oC_of hw_ hn_ pn10 rfl rfl (L := #[.val (.ref a)]) (fun m => by first | (simp [entryFrame, mkF, argsToLocals, Value.category, k10]; done) | rfl) ?_
  intro γ T X
  refine ow_aloadN X 1 d10_0 rfl rfl rfl ?_
  refine ow_getF X 4 10 rfl rfl F0.2.2.1 d10_1 rfl ?_
  intro T_147 X_147
  refine ow_retI X_147 rfl d10_4 (by decide) (by decide) ?_
  exact ⟨rfl, rfl⟩
theorem d11_0 : decode prog_32_method_5_code 0 = .ok (.aload_n 0, 1) := by decide +kernel
theorem d11_1 : decode prog_32_method_5_code 1 = .ok (.getfield 13, 3) := by decide +kernel
theorem d11_4 : decode prog_32_method_5_code 4 = .ok (.iload_n 1, 1) := by decide +kernel
theorem d11_5 : decode prog_32_method_5_code 5 = .ok (.aload_n 0, 1) := by decide +kernel
theorem d11_6 : decode prog_32_method_5_code 6 = .ok (.getfield 51, 3) := by decide +kernel
theorem d11_9 : decode prog_32_method_5_code 9 = .ok (.isub, 1) := by decide +kernel
theorem d11_10 : decode prog_32_method_5_code 10 = .ok (.iaload, 1) := by decide +kernel
theorem d11_11 : decode prog_32_method_5_code 11 = .ok (.ifCond .eq 7, 3) := by decide +kernel
theorem d11_14 : decode prog_32_method_5_code 14 = .ok (.iconst 1, 1) := by decide +kernel
theorem d11_15 : decode prog_32_method_5_code 15 = .ok (.goto 4, 3) := by decide +kernel
theorem d11_18 : decode prog_32_method_5_code 18 = .ok (.iconst 0, 1) := by decide +kernel
theorem d11_19 : decode prog_32_method_5_code 19 = .ok (.ireturn, 1) := by decide +kernel
def k11 : OM := (prog_32_method_5_code, 2, "com/example/tollbook/tollbook/ber/TlvChains", "known", (some .boolean), { frames := 0, cells := 0, slots := 0, locals := 0 })
theorem pn11 : plainFor (⟨"com/example/tollbook/tollbook/ber/TlvChains", "known", "(I)Z"⟩ : MethodName) = true := plainFor_of_name (by first | (simp [plainName, overriddenIn]; done) | decide +kernel)
theorem pd11 : parseMethodDescriptor "(I)Z" = some ⟨[.int], (some .boolean)⟩ := by decide +kernel
set_option maxRecDepth 65536 in
set_option maxHeartbeats 4000000 in
theorem C_known {Z : State} {ω : OW} {h : Heap} (hw_ : ∀ d ∈ tables_1, d.before ω.2.2 Z = true) (hn_ : ω.2.1 ≤ h.size) (a aN : Addr) (st fr : Int32) (n : Nat) (N : Nat → Int32) (v_limit v_jumps v_depths v_tagClasses v_tagNumbers v_nearest v_failures v_learnt v_learntCount v_soughtClass v_soughtNumber v_path : Value) (F0 : TC Z h a (.int fr) v_limit (.ref aN) v_jumps v_depths v_tagClasses v_tagNumbers v_nearest v_failures v_learnt v_learntCount v_soughtClass v_soughtNumber v_path) (AaN : oA Z h aN .int n (fun i => .int (N i))) (h0 : 0 ≤ (st - fr).toInt) (h1 : (st - fr).toInt < n) (hN : N (st - fr).toInt.toNat = 0) :
    oC Z ω (⟨"com/example/tollbook/tollbook/ber/TlvChains", "known", "(I)Z"⟩ : MethodName) k11 [] #[.ref a, .int st] h (fun v h' => v = some (.int 0) ∧ h = h') := by
  refine oC_of hw_ hn_ pn11 rfl rfl (L := #[.val (.ref a), .val (.int st)]) (fun m => by first | (simp [entryFrame, mkF, argsToLocals, Value.category, k11]; done) | rfl) ?_
  intro γ T X
  refine ow_aloadN X 1 d11_0 rfl rfl rfl ?_
  refine ow_getF X 4 13 rfl rfl F0.2.2.2.1 d11_1 rfl ?_
  intro T_148 X_148
  refine ow_iloadN X_148 5 d11_4 rfl rfl ?_
  refine ow_aloadN X_148 6 d11_5 rfl rfl rfl ?_
  refine ow_getF X_148 9 48 rfl rfl F0.2.1 d11_6 rfl ?_
  intro T_149 X_149
  refine ow_isub X_149 10 d11_9 rfl ?_
  refine ow_iaload X_149 11 AaN d11_10 rfl h0 h1 rfl ?_
  refine ow_if_eq X_149 14 18 d11_11 rfl rfl (fun (c11 : (N (st - fr).toInt.toNat).toInt = 0) => ?_) (fun (c11 : (N (st - fr).toInt.toNat).toInt ≠ 0) => absurd (by rw [hN]; rfl) c11)
  refine ow_iconst X_149 19 (0 : Int32) d11_18 rfl rfl ?_
  refine ow_retZ X_149 rfl d11_19 (by decide) (by decide) (by decide) ?_
  exact ⟨rfl, rfl⟩
theorem d13_0 : decode prog_32_method_13_code 0 = .ok (.aload_n 0, 1) := by decide +kernel
theorem d13_1 : decode prog_32_method_13_code 1 = .ok (.getfield 23, 3) := by decide +kernel
theorem d13_4 : decode prog_32_method_13_code 4 = .ok (.iload_n 1, 1) := by decide +kernel
theorem d13_5 : decode prog_32_method_13_code 5 = .ok (.aload_n 0, 1) := by decide +kernel
theorem d13_6 : decode prog_32_method_13_code 6 = .ok (.getfield 51, 3) := by decide +kernel
theorem d13_9 : decode prog_32_method_13_code 9 = .ok (.isub, 1) := by decide +kernel
theorem d13_10 : decode prog_32_method_13_code 10 = .ok (.baload, 1) := by decide +kernel
theorem d13_11 : decode prog_32_method_13_code 11 = .ok (.iload_n 2, 1) := by decide +kernel
theorem d13_12 : decode prog_32_method_13_code 12 = .ok (.if_icmp .ne 22, 3) := by decide +kernel
theorem d13_15 : decode prog_32_method_13_code 15 = .ok (.aload_n 0, 1) := by decide +kernel
theorem d13_16 : decode prog_32_method_13_code 16 = .ok (.getfield 27, 3) := by decide +kernel
theorem d13_19 : decode prog_32_method_13_code 19 = .ok (.iload_n 1, 1) := by decide +kernel
theorem d13_20 : decode prog_32_method_13_code 20 = .ok (.aload_n 0, 1) := by decide +kernel
theorem d13_21 : decode prog_32_method_13_code 21 = .ok (.getfield 51, 3) := by decide +kernel
theorem d13_24 : decode prog_32_method_13_code 24 = .ok (.isub, 1) := by decide +kernel
theorem d13_25 : decode prog_32_method_13_code 25 = .ok (.iaload, 1) := by decide +kernel
theorem d13_26 : decode prog_32_method_13_code 26 = .ok (.iload_n 3, 1) := by decide +kernel
theorem d13_27 : decode prog_32_method_13_code 27 = .ok (.if_icmp .ne 7, 3) := by decide +kernel
theorem d13_30 : decode prog_32_method_13_code 30 = .ok (.iconst 1, 1) := by decide +kernel
theorem d13_31 : decode prog_32_method_13_code 31 = .ok (.goto 4, 3) := by decide +kernel
theorem d13_34 : decode prog_32_method_13_code 34 = .ok (.iconst 0, 1) := by decide +kernel
theorem d13_35 : decode prog_32_method_13_code 35 = .ok (.ireturn, 1) := by decide +kernel
def k13 : OM := (prog_32_method_13_code, 4, "com/example/tollbook/tollbook/ber/TlvChains", "hasTag", (some .boolean), { frames := 0, cells := 0, slots := 0, locals := 0 })
theorem pn13 : plainFor (⟨"com/example/tollbook/tollbook/ber/TlvChains", "hasTag", "(III)Z"⟩ : MethodName) = true := plainFor_of_name (by first | (simp [plainName, overriddenIn]; done) | decide +kernel)
theorem pd13 : parseMethodDescriptor "(III)Z" = some ⟨[.int, .int, .int], (some .boolean)⟩ := by decide +kernel
set_option maxRecDepth 65536 in
set_option maxHeartbeats 4000000 in
theorem C_tag {Z : State} {ω : OW} {h : Heap} (hw_ : ∀ d ∈ tables_1, d.before ω.2.2 Z = true) (hn_ : ω.2.1 ≤ h.size) (a aC aT : Addr) (st tc tn fr : Int32) (n : Nat) (Cc Tn : Nat → Int32) (v_limit v_nexts v_jumps v_depths v_nearest v_failures v_learnt v_learntCount v_soughtClass v_soughtNumber v_path : Value) (F0 : TC Z h a (.int fr) v_limit v_nexts v_jumps v_depths (.ref aC) (.ref aT) v_nearest v_failures v_learnt v_learntCount v_soughtClass v_soughtNumber v_path) (AaC : oA Z h aC .byte n (fun i => .int (Cc i))) (AaT : oA Z h aT .int n (fun i => .int (Tn i))) (h0 : 0 ≤ (st - fr).toInt) (h1 : (st - fr).toInt < n) (hC : Cc (st - fr).toInt.toNat = tc) (hT : Tn (st - fr).toInt.toNat = tn) :
    oC Z ω (⟨"com/example/tollbook/tollbook/ber/TlvChains", "hasTag", "(III)Z"⟩ : MethodName) k13 [] #[.ref a, .int st, .int tc, .int tn] h (fun v h' => v = some (.int 1) ∧ h = h') := by
  refine oC_of hw_ hn_ pn13 rfl rfl (L := #[.val (.ref a), .val (.int st), .val (.int tc), .val (.int tn)]) (fun m => by first | (simp [entryFrame, mkF, argsToLocals, Value.category, k13]; done) | rfl) ?_
  intro γ T X
  refine ow_aloadN X 1 d13_0 rfl rfl rfl ?_
  refine ow_getF X 4 20 rfl rfl F0.2.2.2.2.2.2.1 d13_1 rfl ?_
  intro T_150 X_150
  refine ow_iloadN X_150 5 d13_4 rfl rfl ?_
  refine ow_aloadN X_150 6 d13_5 rfl rfl rfl ?_
  refine ow_getF X_150 9 48 rfl rfl F0.2.1 d13_6 rfl ?_
  intro T_151 X_151
  refine ow_isub X_151 10 d13_9 rfl ?_
  refine ow_baload X_151 11 AaC d13_10 rfl h0 h1 rfl ?_
  refine ow_iloadN X_151 12 d13_11 rfl rfl ?_
  refine ow_icmp_ne X_151 15 34 d13_12 rfl rfl (fun (c12 : (Cc (st - fr).toInt.toNat).toInt ≠ tc.toInt) => absurd (by rw [hC]) c12) (fun (c12 : (Cc (st - fr).toInt.toNat).toInt = tc.toInt) => ?_)
  refine ow_aloadN X_151 16 d13_15 rfl rfl rfl ?_
  refine ow_getF X_151 19 22 rfl rfl F0.2.2.2.2.2.2.2.1 d13_16 rfl ?_
  intro T_152 X_152
  refine ow_iloadN X_152 20 d13_19 rfl rfl ?_
  refine ow_aloadN X_152 21 d13_20 rfl rfl rfl ?_
  refine ow_getF X_152 24 48 rfl rfl F0.2.1 d13_21 rfl ?_
  intro T_153 X_153
  refine ow_isub X_153 25 d13_24 rfl ?_
  refine ow_iaload X_153 26 AaT d13_25 rfl h0 h1 rfl ?_
  refine ow_iloadN X_153 27 d13_26 rfl rfl ?_
  refine ow_icmp_ne X_153 30 34 d13_27 rfl rfl (fun (c27 : (Tn (st - fr).toInt.toNat).toInt ≠ tn.toInt) => absurd (by rw [hT]) c27) (fun (c27 : (Tn (st - fr).toInt.toNat).toInt = tn.toInt) => ?_)
  refine ow_iconst X_153 31 (1 : Int32) d13_30 rfl rfl ?_
  refine ow_goto X_153 35 d13_31 rfl ?_
  refine ow_retZ X_153 rfl d13_35 (by decide) (by decide) (by decide) ?_
  exact ⟨rfl, rfl⟩
set_option maxRecDepth 65536 in
set_option maxHeartbeats 4000000 in
theorem C_forget1 {Z : State} {ω : OW} {h : Heap} (hw_ : ∀ d ∈ tables_1, d.before ω.2.2 Z = true) (hn_ : ω.2.1 ≤ h.size) (a aN aR aF aL : Addr) (fr lc : Int32) (n : Nat) (N Nr G : Nat → Int32) (Fv : Nat → Value) (v_limit v_jumps v_depths v_tagClasses v_tagNumbers v_soughtClass v_soughtNumber v_path : Value) (F0 : TC Z h a (.int fr) v_limit (.ref aN) v_jumps v_depths v_tagClasses v_tagNumbers (.ref aR) (.ref aF) (.ref aL) (.int lc) v_soughtClass v_soughtNumber v_path) (AaN : oA Z h aN .int n (fun i => .int (N i))) (AaR : oA Z h aR .int n (fun i => .int (Nr i))) (AaF : oA Z h aF (.object "com/example/tollbook/tollbook/ber/BerException") n Fv) (AaL : oA Z h aL .int 16 (fun i => .int (G i))) (nd : List.Nodup [a, aN, aR, aF, aL]) (gs : ∀ x ∈ [a, aN, aR, aF, aL], ω.2.1 ≤ x) (hlc : lc.toInt = 1) (h0 : 0 ≤ (G 0 - fr).toInt) (h1 : (G 0 - fr).toInt < n) :
    oC Z ω (⟨"com/example/tollbook/tollbook/ber/TlvChains", "forget", "()V"⟩ : MethodName) k4 [] #[.ref a] h (fun v h' => v = none ∧ Keep h h' [a, aN, aR, aF] ∧ TC Z h' a (.int fr) (.int (-1 : Int32)) (.ref aN) v_jumps v_depths v_tagClasses v_tagNumbers (.ref aR) (.ref aF) (.ref aL) (.int (0 : Int32)) v_soughtClass v_soughtNumber v_path ∧ oA Z h' aN .int n (fun i => .int (oUpd N (G 0 - fr).toInt.toNat (0 : Int32) i)) ∧ oA Z h' aR .int n (fun i => .int (oUpd Nr (G 0 - fr).toInt.toNat (0 : Int32) i)) ∧ ∃ Fv' : Nat → Value, oA Z h' aF (.object "com/example/tollbook/tollbook/ber/BerException") n Fv') := by
  refine oC_of hw_ hn_ pn4 rfl rfl (L := #[.val (.ref a), .unset, .unset]) (fun m => by first | (simp [entryFrame, mkF, argsToLocals, Value.category, k4]; done) | rfl) ?_
  intro γ T X
  refine ow_iconst X 1 (0 : Int32) d4_0 rfl rfl ?_
  refine ow_istoreN X 2 (L' := #[.val (.ref a), .val (.int (0 : Int32)), .unset]) d4_1 rfl rfl ?_
  refine ow_iloadN X 3 d4_2 rfl rfl ?_
  refine ow_aloadN X 4 d4_3 rfl rfl rfl ?_
  refine ow_getF X 7 46 rfl rfl F0.2.2.2.2.2.2.2.2.2.2.2.1 d4_4 rfl ?_
  intro T_154 X_154
  refine ow_icmp_ge X_154 10 49 d4_7 rfl rfl (fun (c7 : lc.toInt ≤ 0) => by exfalso; have e : (0 : Int32).toInt = 0 := rfl; omega) (fun (c7 : 0 < lc.toInt) => ?_)
  refine ow_aloadN X_154 11 d4_10 rfl rfl rfl ?_
  refine ow_getF X_154 14 30 rfl rfl F0.2.2.2.2.2.2.2.2.2.2.1 d4_11 rfl ?_
  intro T_155 X_155
  refine ow_iloadN X_155 15 d4_14 rfl rfl ?_
  refine ow_iaload X_155 16 AaL d4_15 rfl (by decide) (by decide) rfl ?_
  refine ow_aloadN X_155 17 d4_16 rfl rfl rfl ?_
  refine ow_getF X_155 20 48 rfl rfl F0.2.1 d4_17 rfl ?_
  intro T_156 X_156
  refine ow_isub X_156 21 d4_20 rfl ?_
  refine ow_istoreN X_156 22 (L' := #[.val (.ref a), .val (.int (0 : Int32)), .val (.int ((G 0) - fr))]) d4_21 rfl rfl ?_
  refine ow_aloadN X_156 23 d4_22 rfl rfl rfl ?_
  refine ow_getF X_156 26 13 rfl rfl F0.2.2.2.1 d4_23 rfl ?_
  intro T_157 X_157
  refine ow_iloadN X_157 27 d4_26 rfl rfl ?_
  refine ow_iconst X_157 28 (0 : Int32) d4_27 rfl rfl ?_
  refine ow_iastore X_157 29 AaN (gs _ (List.mem_of_getElem? (i := 1) rfl)) d4_28 rfl h0 h1 ?_
  intro T_158 h_158 X_158 W_158
  have f159_0 : TC Z h_158 a (.int fr) v_limit (.ref aN) v_jumps v_depths v_tagClasses v_tagNumbers (.ref aR) (.ref aF) (.ref aL) (.int lc) v_soughtClass v_soughtNumber v_path := F0.other W_158 (oNd nd 0 1 (by decide) rfl rfl)
  have f159_1 : oA Z h_158 aN .int n (fun i => .int ((oUpd N (((G 0) - fr).toInt.toNat) (0 : Int32)) i)) := AaN.setI W_158
  have f159_2 : oA Z h_158 aR .int n (fun i => .int (Nr i)) := AaR.other W_158 (oNd nd 2 1 (by decide) rfl rfl)
  have f159_3 : oA Z h_158 aF (.object "com/example/tollbook/tollbook/ber/BerException") n Fv := AaF.other W_158 (oNd nd 3 1 (by decide) rfl rfl)
  have f159_4 : oA Z h_158 aL .int 16 (fun i => .int (G i)) := AaL.other W_158 (oNd nd 4 1 (by decide) rfl rfl)
  have f159_5 : Keep h h_158 [a, aN, aR, aF] := (Keep.refl h [a, aN, aR, aF]).wr W_158 (Or.inl (List.mem_of_getElem? (i := 1) rfl))
  refine ow_aloadN X_158 30 d4_29 rfl rfl rfl ?_
  refine ow_getF X_158 33 24 rfl rfl f159_0.2.2.2.2.2.2.2.2.1 d4_30 rfl ?_
  intro T_160 X_160
  refine ow_iloadN X_160 34 d4_33 rfl rfl ?_
  refine ow_iconst X_160 35 (0 : Int32) d4_34 rfl rfl ?_
  refine ow_iastore X_160 36 f159_2 (gs _ (List.mem_of_getElem? (i := 2) rfl)) d4_35 rfl h0 h1 ?_
  intro T_161 h_161 X_161 W_161
  have f162_0 : TC Z h_161 a (.int fr) v_limit (.ref aN) v_jumps v_depths v_tagClasses v_tagNumbers (.ref aR) (.ref aF) (.ref aL) (.int lc) v_soughtClass v_soughtNumber v_path := f159_0.other W_161 (oNd nd 0 2 (by decide) rfl rfl)
  have f162_1 : oA Z h_161 aN .int n (fun i => .int ((oUpd N (((G 0) - fr).toInt.toNat) (0 : Int32)) i)) := f159_1.other W_161 (oNd nd 1 2 (by decide) rfl rfl)
  have f162_2 : oA Z h_161 aR .int n (fun i => .int ((oUpd Nr (((G 0) - fr).toInt.toNat) (0 : Int32)) i)) := f159_2.setI W_161
  have f162_3 : oA Z h_161 aF (.object "com/example/tollbook/tollbook/ber/BerException") n Fv := f159_3.other W_161 (oNd nd 3 2 (by decide) rfl rfl)
  have f162_4 : oA Z h_161 aL .int 16 (fun i => .int (G i)) := f159_4.other W_161 (oNd nd 4 2 (by decide) rfl rfl)
  have f162_5 : Keep h h_161 [a, aN, aR, aF] := f159_5.wr W_161 (Or.inl (List.mem_of_getElem? (i := 2) rfl))
  refine ow_aloadN X_161 37 d4_36 rfl rfl rfl ?_
  refine ow_getF X_161 40 28 rfl rfl f162_0.2.2.2.2.2.2.2.2.2.1 d4_37 rfl ?_
  intro T_163 X_163
  refine ow_iloadN X_163 41 d4_40 rfl rfl ?_
  refine ow_anull X_163 42 d4_41 rfl ?_
  refine ow_aastore X_163 43 f162_3 rfl (Or.inl rfl) (gs _ (List.mem_of_getElem? (i := 3) rfl)) d4_42 rfl h0 h1 ?_
  intro T_164 h_164 X_164 W_164
  have f165_0 : TC Z h_164 a (.int fr) v_limit (.ref aN) v_jumps v_depths v_tagClasses v_tagNumbers (.ref aR) (.ref aF) (.ref aL) (.int lc) v_soughtClass v_soughtNumber v_path := f162_0.other W_164 (oNd nd 0 3 (by decide) rfl rfl)
  have f165_1 : oA Z h_164 aN .int n (fun i => .int ((oUpd N (((G 0) - fr).toInt.toNat) (0 : Int32)) i)) := f162_1.other W_164 (oNd nd 1 3 (by decide) rfl rfl)
  have f165_2 : oA Z h_164 aR .int n (fun i => .int ((oUpd Nr (((G 0) - fr).toInt.toNat) (0 : Int32)) i)) := f162_2.other W_164 (oNd nd 2 3 (by decide) rfl rfl)
  have f165_3 : oA Z h_164 aF (.object "com/example/tollbook/tollbook/ber/BerException") n (fun i => if i = ((G 0) - fr).toInt.toNat then .null else Fv i) := f162_3.set W_164
  have f165_4 : oA Z h_164 aL .int 16 (fun i => .int (G i)) := f162_4.other W_164 (oNd nd 4 3 (by decide) rfl rfl)
  have f165_5 : Keep h h_164 [a, aN, aR, aF] := f162_5.wr W_164 (Or.inl (List.mem_of_getElem? (i := 3) rfl))
  refine ow_iinc X_164 46 (L' := #[.val (.ref a), .val (.int ((0 : Int32) + (1 : Int32))), .val (.int ((G 0) - fr))]) (1 : Int32) d4_43 rfl rfl rfl rfl ?_
  refine ow_goto X_164 2 d4_46 rfl ?_
  refine ow_iloadN X_164 3 d4_2 rfl rfl ?_
  refine ow_aloadN X_164 4 d4_3 rfl rfl rfl ?_
  refine ow_getF X_164 7 46 rfl rfl f165_0.2.2.2.2.2.2.2.2.2.2.2.1 d4_4 rfl ?_
  intro T_166 X_166
  refine ow_icmp_ge X_166 10 49 d4_7 rfl rfl (fun (c7 : lc.toInt ≤ ((0 : Int32) + (1 : Int32)).toInt) => ?_) (fun (c7 : ((0 : Int32) + (1 : Int32)).toInt < lc.toInt) => by exfalso; have e : ((0 : Int32) + (1 : Int32)).toInt = 1 := rfl; omega)
  refine ow_aloadN X_166 50 d4_49 rfl rfl rfl ?_
  refine ow_iconst X_166 51 (0 : Int32) d4_50 rfl rfl ?_
  refine ow_putF X_166 54 46 2 rfl rfl f165_0.2.2.2.2.2.2.2.2.2.2.2.1 f165_0.1 (Or.inl (oSt_at X_166 47 rfl)) rfl (ty := .int) (by decide) rfl rfl (gs _ (List.mem_of_getElem? (i := 0) rfl)) d4_51 rfl ?_
  intro T_167 h_167 X_167 W_167
  have f168_0 : TC Z h_167 a (.int fr) v_limit (.ref aN) v_jumps v_depths v_tagClasses v_tagNumbers (.ref aR) (.ref aF) (.ref aL) (.int (0 : Int32)) v_soughtClass v_soughtNumber v_path := TC.set_learntCount (oSt_w X_167) f165_0 W_167
  have f168_1 : oA Z h_167 aN .int n (fun i => .int ((oUpd N (((G 0) - fr).toInt.toNat) (0 : Int32)) i)) := f165_1.other W_167 (oNd nd 1 0 (by decide) rfl rfl)
  have f168_2 : oA Z h_167 aR .int n (fun i => .int ((oUpd Nr (((G 0) - fr).toInt.toNat) (0 : Int32)) i)) := f165_2.other W_167 (oNd nd 2 0 (by decide) rfl rfl)
  have f168_3 : oA Z h_167 aF (.object "com/example/tollbook/tollbook/ber/BerException") n (fun i => if i = ((G 0) - fr).toInt.toNat then .null else Fv i) := f165_3.other W_167 (oNd nd 3 0 (by decide) rfl rfl)
  have f168_4 : oA Z h_167 aL .int 16 (fun i => .int (G i)) := f165_4.other W_167 (oNd nd 4 0 (by decide) rfl rfl)
  have f168_5 : Keep h h_167 [a, aN, aR, aF] := f165_5.wr W_167 (Or.inl (List.mem_of_getElem? (i := 0) rfl))
  refine ow_aloadN X_167 55 d4_54 rfl rfl rfl ?_
  refine ow_iconst X_167 56 (-1 : Int32) d4_55 rfl rfl ?_
  refine ow_putF X_167 59 10 2 rfl rfl f168_0.2.2.1 f168_0.1 (Or.inl (oSt_at X_167 11 rfl)) rfl (ty := .int) (by decide) rfl rfl (gs _ (List.mem_of_getElem? (i := 0) rfl)) d4_56 rfl ?_
  intro T_169 h_169 X_169 W_169
  have f170_0 : TC Z h_169 a (.int fr) (.int (-1 : Int32)) (.ref aN) v_jumps v_depths v_tagClasses v_tagNumbers (.ref aR) (.ref aF) (.ref aL) (.int (0 : Int32)) v_soughtClass v_soughtNumber v_path := TC.set_limit (oSt_w X_169) f168_0 W_169
  have f170_1 : oA Z h_169 aN .int n (fun i => .int ((oUpd N (((G 0) - fr).toInt.toNat) (0 : Int32)) i)) := f168_1.other W_169 (oNd nd 1 0 (by decide) rfl rfl)
  have f170_2 : oA Z h_169 aR .int n (fun i => .int ((oUpd Nr (((G 0) - fr).toInt.toNat) (0 : Int32)) i)) := f168_2.other W_169 (oNd nd 2 0 (by decide) rfl rfl)
  have f170_3 : oA Z h_169 aF (.object "com/example/tollbook/tollbook/ber/BerException") n (fun i => if i = ((G 0) - fr).toInt.toNat then .null else Fv i) := f168_3.other W_169 (oNd nd 3 0 (by decide) rfl rfl)
  have f170_4 : oA Z h_169 aL .int 16 (fun i => .int (G i)) := f168_4.other W_169 (oNd nd 4 0 (by decide) rfl rfl)
  have f170_5 : Keep h h_169 [a, aN, aR, aF] := f168_5.wr W_169 (Or.inl (List.mem_of_getElem? (i := 0) rfl))
  refine ow_retV X_169 rfl d4_59 (by decide) (by decide) ?_
  exact ⟨rfl, f170_5, f170_0, f170_1, f170_2, _, f170_3⟩
def k3b : OM := (prog_32_method_2_code, 3, "com/example/tollbook/tollbook/ber/TlvChains", "reset", none, { frames := 1, cells := 0, slots := 0, locals := 14 })
set_option maxRecDepth 65536 in
set_option maxHeartbeats 4000000 in
theorem C_reset2 {Z : State} {ω : OW} {h : Heap} (hw_ : ∀ d ∈ tables_1, d.before ω.2.2 Z = true) (hn_ : ω.2.1 ≤ h.size) (a aN : Addr) (fr lim sz : Int32) (N : Nat → Int32) (v_from v_limit v_jumps v_depths v_tagClasses v_tagNumbers v_nearest v_failures v_learnt v_soughtClass v_soughtNumber v_path : Value) (F0 : TC Z h a v_from v_limit (.ref aN) v_jumps v_depths v_tagClasses v_tagNumbers v_nearest v_failures v_learnt (.int (0 : Int32)) v_soughtClass v_soughtNumber v_path) (A0 : oA Z h aN .int sz.toInt.toNat (fun i => .int (N i))) (ga : ω.2.1 ≤ a) (ne : a ≠ aN) (hz : lim - fr + (1 : Int32) = sz) (h0 : 0 < sz.toInt) :
    oC Z ω (⟨"com/example/tollbook/tollbook/ber/TlvChains", "reset", "(II)V"⟩ : MethodName) k3b [] #[.ref a, .int fr, .int lim] h (fun v h' => v = none ∧ Keep h h' [a] ∧ TC Z h' a (.int fr) (.int lim) (.ref aN) v_jumps v_depths v_tagClasses v_tagNumbers v_nearest v_failures v_learnt (.int (0 : Int32)) v_soughtClass v_soughtNumber v_path) := by
  refine oC_of hw_ hn_ pn3 rfl rfl (L := #[.val (.ref a), .val (.int fr), .val (.int lim)]) (fun m => by first | (simp [entryFrame, mkF, argsToLocals, Value.category, k3b]; done) | rfl) ?_
  intro γ T X
  refine ow_aloadN X 1 d3_0 rfl rfl rfl ?_
  refine ow_callV X 4 41 42 44 43 45 3 (κ' := k4) (as := []) (S := []) (W := 0) rfl rfl rfl rfl rfl rfl rfl (by decide) F0.1 (C_forget0 (oSt_w X) (oSt_n0 X) a _ _ _ _ _ _ _ _ _ _ _ _ _ F0 ga) (by decide) (by decide) (Nat.le_of_eq rfl) (by decide) (by decide) pd4 rfl rfl rfl d3_1 rfl ?_
  intro v_171 T_171 h_171 X_171 q_171
  obtain ⟨rfl, K171, R171⟩ := q_171
  have f172_1 : oA Z h_171 aN .int sz.toInt.toNat (fun i => .int (N i)) := A0.keep K171 (ninS (Ne.symm ne) nin0)
  have f172_2 : Keep h h_171 [a] := (Keep.refl h [a]).trans K171 (allS (Or.inl (List.mem_of_getElem? (i := 0) rfl)) all0)
  show oWP ω γ k3b _ T_171 4 #[.val (.ref a), .val (.int fr), .val (.int lim)] []
  refine ow_aloadN X_171 5 d3_4 rfl rfl rfl ?_
  refine ow_iloadN X_171 6 d3_5 rfl rfl ?_
  refine ow_putF X_171 9 48 2 rfl rfl R171.2.1 R171.1 (Or.inl (oSt_at X_171 49 rfl)) rfl (ty := .int) (by decide) rfl rfl ga d3_6 rfl ?_
  intro T_173 h_173 X_173 W_173
  have f174_0 : oA Z h_173 aN .int sz.toInt.toNat (fun i => .int (N i)) := f172_1.other W_173 (Ne.symm ne)
  have f174_1 : Keep h h_173 [a] := f172_2.wr W_173 (Or.inl (List.mem_of_getElem? (i := 0) rfl))
  have f174_2 : TC Z h_173 a (.int fr) (.int (-1 : Int32)) (.ref aN) v_jumps v_depths v_tagClasses v_tagNumbers v_nearest v_failures v_learnt (.int (0 : Int32)) v_soughtClass v_soughtNumber v_path := TC.set_from (oSt_w X_173) R171 W_173
  refine ow_aloadN X_173 10 d3_9 rfl rfl rfl ?_
  refine ow_iloadN X_173 11 d3_10 rfl rfl ?_
  refine ow_putF X_173 14 10 2 rfl rfl f174_2.2.2.1 f174_2.1 (Or.inl (oSt_at X_173 11 rfl)) rfl (ty := .int) (by decide) rfl rfl ga d3_11 rfl ?_
  intro T_175 h_175 X_175 W_175
  have f176_0 : oA Z h_175 aN .int sz.toInt.toNat (fun i => .int (N i)) := f174_0.other W_175 (Ne.symm ne)
  have f176_1 : Keep h h_175 [a] := f174_1.wr W_175 (Or.inl (List.mem_of_getElem? (i := 0) rfl))
  have f176_2 : TC Z h_175 a (.int fr) (.int lim) (.ref aN) v_jumps v_depths v_tagClasses v_tagNumbers v_nearest v_failures v_learnt (.int (0 : Int32)) v_soughtClass v_soughtNumber v_path := TC.set_limit (oSt_w X_175) f174_2 W_175
  refine ow_aloadN X_175 15 d3_14 rfl rfl rfl ?_
  refine ow_getF X_175 18 13 rfl rfl f176_2.2.2.2.1 d3_15 rfl ?_
  intro T_177 X_177
  refine ow_alen X_177 19 (v := sz) f176_0 d3_18 rfl (by omega) ?_
  refine ow_iloadN X_177 20 d3_19 rfl rfl ?_
  refine ow_iloadN X_177 21 d3_20 rfl rfl ?_
  refine ow_isub X_177 22 d3_21 rfl ?_
  refine ow_iconst X_177 23 (1 : Int32) d3_22 rfl rfl ?_
  refine ow_iadd X_177 24 d3_23 rfl ?_
  rw [hz]
  refine ow_icmp_ge X_177 27 36 d3_24 rfl rfl (fun (c24 : sz.toInt ≤ sz.toInt) => ?_) (fun (c24 : sz.toInt < sz.toInt) => absurd c24 (by omega))
  refine ow_retV X_177 rfl d3_36 (by decide) (by decide) ?_
  exact ⟨rfl, f176_1, f176_2⟩
theorem d9_0 : decode prog_32_method_12_code 0 = .ok (.iload_n 2, 1) := by decide +kernel
theorem d9_1 : decode prog_32_method_12_code 1 = .ok (.aload_n 0, 1) := by decide +kernel
theorem d9_2 : decode prog_32_method_12_code 2 = .ok (.getfield 42, 3) := by decide +kernel
theorem d9_5 : decode prog_32_method_12_code 5 = .ok (.if_icmp .ne 11, 3) := by decide +kernel
theorem d9_8 : decode prog_32_method_12_code 8 = .ok (.iload_n 3, 1) := by decide +kernel
theorem d9_9 : decode prog_32_method_12_code 9 = .ok (.aload_n 0, 1) := by decide +kernel
theorem d9_10 : decode prog_32_method_12_code 10 = .ok (.getfield 68, 3) := by decide +kernel
theorem d9_13 : decode prog_32_method_12_code 13 = .ok (.if_icmp .eq 49, 3) := by decide +kernel
theorem d9_16 : decode prog_32_method_12_code 16 = .ok (.iconst 0, 1) := by decide +kernel
theorem d9_17 : decode prog_32_method_12_code 17 = .ok (.istore 4, 2) := by decide +kernel
theorem d9_19 : decode prog_32_method_12_code 19 = .ok (.iload 4, 2) := by decide +kernel
theorem d9_21 : decode prog_32_method_12_code 21 = .ok (.aload_n 0, 1) := by decide +kernel
theorem d9_22 : decode prog_32_method_12_code 22 = .ok (.getfield 58, 3) := by decide +kernel
theorem d9_25 : decode prog_32_method_12_code 25 = .ok (.if_icmp .ge 27, 3) := by decide +kernel
theorem d9_28 : decode prog_32_method_12_code 28 = .ok (.aload_n 0, 1) := by decide +kernel
theorem d9_29 : decode prog_32_method_12_code 29 = .ok (.getfield 30, 3) := by decide +kernel
theorem d9_32 : decode prog_32_method_12_code 32 = .ok (.aload_n 0, 1) := by decide +kernel
theorem d9_33 : decode prog_32_method_12_code 33 = .ok (.getfield 39, 3) := by decide +kernel
theorem d9_36 : decode prog_32_method_12_code 36 = .ok (.iload 4, 2) := by decide +kernel
theorem d9_38 : decode prog_32_method_12_code 38 = .ok (.iaload, 1) := by decide +kernel
theorem d9_39 : decode prog_32_method_12_code 39 = .ok (.aload_n 0, 1) := by decide +kernel
theorem d9_40 : decode prog_32_method_12_code 40 = .ok (.getfield 51, 3) := by decide +kernel
theorem d9_43 : decode prog_32_method_12_code 43 = .ok (.isub, 1) := by decide +kernel
theorem d9_44 : decode prog_32_method_12_code 44 = .ok (.iconst 0, 1) := by decide +kernel
theorem d9_45 : decode prog_32_method_12_code 45 = .ok (.iastore, 1) := by decide +kernel
theorem d9_46 : decode prog_32_method_12_code 46 = .ok (.iinc 4 1, 3) := by decide +kernel
theorem d9_49 : decode prog_32_method_12_code 49 = .ok (.goto (-30), 3) := by decide +kernel
theorem d9_52 : decode prog_32_method_12_code 52 = .ok (.aload_n 0, 1) := by decide +kernel
theorem d9_53 : decode prog_32_method_12_code 53 = .ok (.iload_n 2, 1) := by decide +kernel
theorem d9_54 : decode prog_32_method_12_code 54 = .ok (.putfield 42, 3) := by decide +kernel
theorem d9_57 : decode prog_32_method_12_code 57 = .ok (.aload_n 0, 1) := by decide +kernel
theorem d9_58 : decode prog_32_method_12_code 58 = .ok (.iload_n 3, 1) := by decide +kernel
theorem d9_59 : decode prog_32_method_12_code 59 = .ok (.putfield 68, 3) := by decide +kernel
theorem d9_62 : decode prog_32_method_12_code 62 = .ok (.iconst 0, 1) := by decide +kernel
theorem d9_63 : decode prog_32_method_12_code 63 = .ok (.istore 4, 2) := by decide +kernel
theorem d9_65 : decode prog_32_method_12_code 65 = .ok (.iload_n 1, 1) := by decide +kernel
theorem d9_66 : decode prog_32_method_12_code 66 = .ok (.istore 5, 2) := by decide +kernel
theorem d9_68 : decode prog_32_method_12_code 68 = .ok (.aload_n 0, 1) := by decide +kernel
theorem d9_69 : decode prog_32_method_12_code 69 = .ok (.getfield 30, 3) := by decide +kernel
theorem d9_72 : decode prog_32_method_12_code 72 = .ok (.iload 5, 2) := by decide +kernel
theorem d9_74 : decode prog_32_method_12_code 74 = .ok (.aload_n 0, 1) := by decide +kernel
theorem d9_75 : decode prog_32_method_12_code 75 = .ok (.getfield 51, 3) := by decide +kernel
theorem d9_78 : decode prog_32_method_12_code 78 = .ok (.isub, 1) := by decide +kernel
theorem d9_79 : decode prog_32_method_12_code 79 = .ok (.iaload, 1) := by decide +kernel
theorem d9_80 : decode prog_32_method_12_code 80 = .ok (.ifCond .ne 84, 3) := by decide +kernel
theorem d9_83 : decode prog_32_method_12_code 83 = .ok (.aload_n 0, 1) := by decide +kernel
theorem d9_84 : decode prog_32_method_12_code 84 = .ok (.getfield 13, 3) := by decide +kernel
theorem d9_87 : decode prog_32_method_12_code 87 = .ok (.iload 5, 2) := by decide +kernel
theorem d9_89 : decode prog_32_method_12_code 89 = .ok (.aload_n 0, 1) := by decide +kernel
theorem d9_90 : decode prog_32_method_12_code 90 = .ok (.getfield 51, 3) := by decide +kernel
theorem d9_93 : decode prog_32_method_12_code 93 = .ok (.isub, 1) := by decide +kernel
theorem d9_94 : decode prog_32_method_12_code 94 = .ok (.iaload, 1) := by decide +kernel
theorem d9_95 : decode prog_32_method_12_code 95 = .ok (.iconst (-1), 1) := by decide +kernel
theorem d9_96 : decode prog_32_method_12_code 96 = .ok (.if_icmp .eq 68, 3) := by decide +kernel
theorem d9_99 : decode prog_32_method_12_code 99 = .ok (.aload_n 0, 1) := by decide +kernel
theorem d9_100 : decode prog_32_method_12_code 100 = .ok (.iload 5, 2) := by decide +kernel
theorem d9_102 : decode prog_32_method_12_code 102 = .ok (.iload_n 2, 1) := by decide +kernel
theorem d9_103 : decode prog_32_method_12_code 103 = .ok (.iload_n 3, 1) := by decide +kernel
theorem d9_104 : decode prog_32_method_12_code 104 = .ok (.invokevirtual 71, 3) := by decide +kernel
theorem d9_107 : decode prog_32_method_12_code 107 = .ok (.ifCond .ne 57, 3) := by decide +kernel
theorem d9_110 : decode prog_32_method_12_code 110 = .ok (.iload 4, 2) := by decide +kernel
theorem d9_112 : decode prog_32_method_12_code 112 = .ok (.aload_n 0, 1) := by decide +kernel
theorem d9_113 : decode prog_32_method_12_code 113 = .ok (.getfield 45, 3) := by decide +kernel
theorem d9_116 : decode prog_32_method_12_code 116 = .ok (.arraylength, 1) := by decide +kernel
theorem d9_117 : decode prog_32_method_12_code 117 = .ok (.if_icmp .ne 18, 3) := by decide +kernel
theorem d9_120 : decode prog_32_method_12_code 120 = .ok (.aload_n 0, 1) := by decide +kernel
theorem d9_121 : decode prog_32_method_12_code 121 = .ok (.aload_n 0, 1) := by decide +kernel
theorem d9_122 : decode prog_32_method_12_code 122 = .ok (.getfield 45, 3) := by decide +kernel
theorem d9_125 : decode prog_32_method_12_code 125 = .ok (.iconst 2, 1) := by decide +kernel
theorem d9_126 : decode prog_32_method_12_code 126 = .ok (.iload 4, 2) := by decide +kernel
theorem d9_128 : decode prog_32_method_12_code 128 = .ok (.imul, 1) := by decide +kernel
theorem d9_129 : decode prog_32_method_12_code 129 = .ok (.invokestatic 75, 3) := by decide +kernel
theorem d9_132 : decode prog_32_method_12_code 132 = .ok (.putfield 45, 3) := by decide +kernel
theorem d9_135 : decode prog_32_method_12_code 135 = .ok (.aload_n 0, 1) := by decide +kernel
theorem d9_136 : decode prog_32_method_12_code 136 = .ok (.getfield 45, 3) := by decide +kernel
theorem d9_139 : decode prog_32_method_12_code 139 = .ok (.iload 4, 2) := by decide +kernel
theorem d9_141 : decode prog_32_method_12_code 141 = .ok (.iinc 4 1, 3) := by decide +kernel
theorem d9_144 : decode prog_32_method_12_code 144 = .ok (.iload 5, 2) := by decide +kernel
theorem d9_146 : decode prog_32_method_12_code 146 = .ok (.iastore, 1) := by decide +kernel
theorem d9_147 : decode prog_32_method_12_code 147 = .ok (.aload_n 0, 1) := by decide +kernel
theorem d9_148 : decode prog_32_method_12_code 148 = .ok (.getfield 13, 3) := by decide +kernel
theorem d9_151 : decode prog_32_method_12_code 151 = .ok (.iload 5, 2) := by decide +kernel
theorem d9_153 : decode prog_32_method_12_code 153 = .ok (.aload_n 0, 1) := by decide +kernel
theorem d9_154 : decode prog_32_method_12_code 154 = .ok (.getfield 51, 3) := by decide +kernel
theorem d9_157 : decode prog_32_method_12_code 157 = .ok (.isub, 1) := by decide +kernel
theorem d9_158 : decode prog_32_method_12_code 158 = .ok (.iaload, 1) := by decide +kernel
theorem d9_159 : decode prog_32_method_12_code 159 = .ok (.istore 5, 2) := by decide +kernel
theorem d9_161 : decode prog_32_method_12_code 161 = .ok (.goto (-93), 3) := by decide +kernel
theorem d9_164 : decode prog_32_method_12_code 164 = .ok (.aload_n 0, 1) := by decide +kernel
theorem d9_165 : decode prog_32_method_12_code 165 = .ok (.getfield 30, 3) := by decide +kernel
theorem d9_168 : decode prog_32_method_12_code 168 = .ok (.iload 5, 2) := by decide +kernel
theorem d9_170 : decode prog_32_method_12_code 170 = .ok (.aload_n 0, 1) := by decide +kernel
theorem d9_171 : decode prog_32_method_12_code 171 = .ok (.getfield 51, 3) := by decide +kernel
theorem d9_174 : decode prog_32_method_12_code 174 = .ok (.isub, 1) := by decide +kernel
theorem d9_175 : decode prog_32_method_12_code 175 = .ok (.iaload, 1) := by decide +kernel
theorem d9_176 : decode prog_32_method_12_code 176 = .ok (.istore 6, 2) := by decide +kernel
theorem d9_178 : decode prog_32_method_12_code 178 = .ok (.iload 6, 2) := by decide +kernel
theorem d9_180 : decode prog_32_method_12_code 180 = .ok (.ifCond .ne 29, 3) := by decide +kernel
theorem d9_183 : decode prog_32_method_12_code 183 = .ok (.aload_n 0, 1) := by decide +kernel
theorem d9_184 : decode prog_32_method_12_code 184 = .ok (.getfield 13, 3) := by decide +kernel
theorem d9_187 : decode prog_32_method_12_code 187 = .ok (.iload 5, 2) := by decide +kernel
theorem d9_189 : decode prog_32_method_12_code 189 = .ok (.aload_n 0, 1) := by decide +kernel
theorem d9_190 : decode prog_32_method_12_code 190 = .ok (.getfield 51, 3) := by decide +kernel
theorem d9_193 : decode prog_32_method_12_code 193 = .ok (.isub, 1) := by decide +kernel
theorem d9_194 : decode prog_32_method_12_code 194 = .ok (.iaload, 1) := by decide +kernel
theorem d9_195 : decode prog_32_method_12_code 195 = .ok (.iconst (-1), 1) := by decide +kernel
theorem d9_196 : decode prog_32_method_12_code 196 = .ok (.if_icmp .ne 7, 3) := by decide +kernel
theorem d9_199 : decode prog_32_method_12_code 199 = .ok (.iconst (-1), 1) := by decide +kernel
theorem d9_200 : decode prog_32_method_12_code 200 = .ok (.goto 7, 3) := by decide +kernel
theorem d9_203 : decode prog_32_method_12_code 203 = .ok (.iload 5, 2) := by decide +kernel
theorem d9_205 : decode prog_32_method_12_code 205 = .ok (.iconst 1, 1) := by decide +kernel
theorem d9_206 : decode prog_32_method_12_code 206 = .ok (.iadd, 1) := by decide +kernel
theorem d9_207 : decode prog_32_method_12_code 207 = .ok (.istore 6, 2) := by decide +kernel
theorem d9_209 : decode prog_32_method_12_code 209 = .ok (.aload_n 0, 1) := by decide +kernel
theorem d9_210 : decode prog_32_method_12_code 210 = .ok (.getfield 30, 3) := by decide +kernel
theorem d9_213 : decode prog_32_method_12_code 213 = .ok (.iload 5, 2) := by decide +kernel
theorem d9_215 : decode prog_32_method_12_code 215 = .ok (.aload_n 0, 1) := by decide +kernel
theorem d9_216 : decode prog_32_method_12_code 216 = .ok (.getfield 51, 3) := by decide +kernel
theorem d9_219 : decode prog_32_method_12_code 219 = .ok (.isub, 1) := by decide +kernel
theorem d9_220 : decode prog_32_method_12_code 220 = .ok (.iload 6, 2) := by decide +kernel
theorem d9_222 : decode prog_32_method_12_code 222 = .ok (.iastore, 1) := by decide +kernel
theorem d9_223 : decode prog_32_method_12_code 223 = .ok (.iconst 0, 1) := by decide +kernel
theorem d9_224 : decode prog_32_method_12_code 224 = .ok (.istore 7, 2) := by decide +kernel
theorem d9_226 : decode prog_32_method_12_code 226 = .ok (.iload 7, 2) := by decide +kernel
theorem d9_228 : decode prog_32_method_12_code 228 = .ok (.iload 4, 2) := by decide +kernel
theorem d9_230 : decode prog_32_method_12_code 230 = .ok (.if_icmp .ge 28, 3) := by decide +kernel
theorem d9_233 : decode prog_32_method_12_code 233 = .ok (.aload_n 0, 1) := by decide +kernel
theorem d9_234 : decode prog_32_method_12_code 234 = .ok (.getfield 30, 3) := by decide +kernel
theorem d9_237 : decode prog_32_method_12_code 237 = .ok (.aload_n 0, 1) := by decide +kernel
theorem d9_238 : decode prog_32_method_12_code 238 = .ok (.getfield 45, 3) := by decide +kernel
theorem d9_241 : decode prog_32_method_12_code 241 = .ok (.iload 7, 2) := by decide +kernel
theorem d9_243 : decode prog_32_method_12_code 243 = .ok (.iaload, 1) := by decide +kernel
theorem d9_244 : decode prog_32_method_12_code 244 = .ok (.aload_n 0, 1) := by decide +kernel
theorem d9_245 : decode prog_32_method_12_code 245 = .ok (.getfield 51, 3) := by decide +kernel
theorem d9_248 : decode prog_32_method_12_code 248 = .ok (.isub, 1) := by decide +kernel
theorem d9_249 : decode prog_32_method_12_code 249 = .ok (.iload 6, 2) := by decide +kernel
theorem d9_251 : decode prog_32_method_12_code 251 = .ok (.iastore, 1) := by decide +kernel
theorem d9_252 : decode prog_32_method_12_code 252 = .ok (.iinc 7 1, 3) := by decide +kernel
theorem d9_255 : decode prog_32_method_12_code 255 = .ok (.goto (-29), 3) := by decide +kernel
theorem d9_258 : decode prog_32_method_12_code 258 = .ok (.iload 6, 2) := by decide +kernel
theorem d9_260 : decode prog_32_method_12_code 260 = .ok (.iconst (-1), 1) := by decide +kernel
theorem d9_261 : decode prog_32_method_12_code 261 = .ok (.if_icmp .ne 7, 3) := by decide +kernel
theorem d9_264 : decode prog_32_method_12_code 264 = .ok (.iconst (-1), 1) := by decide +kernel
theorem d9_265 : decode prog_32_method_12_code 265 = .ok (.goto 7, 3) := by decide +kernel
theorem d9_268 : decode prog_32_method_12_code 268 = .ok (.iload 6, 2) := by decide +kernel
theorem d9_270 : decode prog_32_method_12_code 270 = .ok (.iconst 1, 1) := by decide +kernel
theorem d9_271 : decode prog_32_method_12_code 271 = .ok (.isub, 1) := by decide +kernel
theorem d9_272 : decode prog_32_method_12_code 272 = .ok (.ireturn, 1) := by decide +kernel
def k9 : OM := (prog_32_method_12_code, 8, "com/example/tollbook/tollbook/ber/TlvChains", "nearest", (some .int), { frames := 1, cells := 0, slots := 0, locals := 20 })
theorem pn9 : plainFor (⟨"com/example/tollbook/tollbook/ber/TlvChains", "nearest", "(III)I"⟩ : MethodName) = true := plainFor_of_name (by first | (simp [plainName, overriddenIn]; done) | decide +kernel)
theorem pd9 : parseMethodDescriptor "(III)I" = some ⟨[.int, .int, .int], (some .int)⟩ := by decide +kernel
theorem own_z {g : Nat → Int32} {k i : Nat} (h : g i = 0) : oUpd g k (0 : Int32) i = 0 := by
  by_cases e : i = k
  · subst e; exact oUpd_hit _ _ _
  · rw [oUpd_miss _ _ e]; exact h
set_option maxRecDepth 65536 in
set_option maxHeartbeats 4000000 in
theorem C_near1 {Z : State} {ω : OW} {h : Heap} (hw_ : ∀ d ∈ tables_1, d.before ω.2.2 Z = true) (hn_ : ω.2.1 ≤ h.size) (a aN aR aL : Addr) (st tc tn fr lc : Int32) (n : Nat) (N Nr G : Nat → Int32) (v_limit v_jumps v_depths v_tagClasses v_tagNumbers v_failures v_soughtNumber v_path : Value) (F0 : TC Z h a (.int fr) v_limit (.ref aN) v_jumps v_depths v_tagClasses v_tagNumbers (.ref aR) v_failures (.ref aL) (.int lc) (.int (-1 : Int32)) v_soughtNumber v_path) (AaN : oA Z h aN .int n (fun i => .int (N i))) (AaR : oA Z h aR .int n (fun i => .int (Nr i))) (AaL : oA Z h aL .int 16 (fun i => .int (G i))) (nd : List.Nodup [a, aN, aR, aL]) (gs : ∀ x ∈ [a, aN, aR, aL], ω.2.1 ≤ x) (hlc : lc.toInt = 1) (htc : 0 ≤ tc.toInt) (g0 : 0 ≤ (G 0 - fr).toInt) (g1 : (G 0 - fr).toInt < n) (h0 : 0 ≤ (st - fr).toInt) (h1 : (st - fr).toInt < n) (hN : N (st - fr).toInt.toNat = -1) (hR : Nr (st - fr).toInt.toNat = 0) :
    oC Z ω (⟨"com/example/tollbook/tollbook/ber/TlvChains", "nearest", "(III)I"⟩ : MethodName) k9 [] #[.ref a, .int st, .int tc, .int tn] h (fun v h' => v = some (.int (-1 : Int32)) ∧ Keep h h' [a, aR] ∧ TC Z h' a (.int fr) v_limit (.ref aN) v_jumps v_depths v_tagClasses v_tagNumbers (.ref aR) v_failures (.ref aL) (.int lc) (.int tc) (.int tn) v_path ∧ ∃ Nr' : Nat → Int32, oA Z h' aR .int n (fun i => .int (Nr' i))) := by
  refine oC_of hw_ hn_ pn9 rfl rfl (L := #[.val (.ref a), .val (.int st), .val (.int tc), .val (.int tn), .unset, .unset, .unset, .unset]) (fun m => by first | (simp [entryFrame, mkF, argsToLocals, Value.category, k9]; done) | rfl) ?_
  intro γ T X
  refine ow_iloadN X 1 d9_0 rfl rfl ?_
  refine ow_aloadN X 2 d9_1 rfl rfl rfl ?_
  refine ow_getF X 5 32 rfl rfl F0.2.2.2.2.2.2.2.2.2.2.2.2.1 d9_2 rfl ?_
  intro T_178 X_178
  refine ow_icmp_ne X_178 8 16 d9_5 rfl rfl (fun (c5 : tc.toInt ≠ (-1)) => ?_) (fun (c5 : tc.toInt = (-1)) => by exfalso; have e : (-1 : Int32).toInt = -1 := rfl; omega)
  refine ow_iconst X_178 17 (0 : Int32) d9_16 rfl rfl ?_
  refine ow_istore X_178 19 (L' := #[.val (.ref a), .val (.int st), .val (.int tc), .val (.int tn), .val (.int (0 : Int32)), .unset, .unset, .unset]) d9_17 rfl rfl ?_
  refine ow_iload X_178 21 d9_19 rfl rfl ?_
  refine ow_aloadN X_178 22 d9_21 rfl rfl rfl ?_
  refine ow_getF X_178 25 46 rfl rfl F0.2.2.2.2.2.2.2.2.2.2.2.1 d9_22 rfl ?_
  intro T_179 X_179
  refine ow_icmp_ge X_179 28 52 d9_25 rfl rfl (fun (c25 : lc.toInt ≤ 0) => by exfalso; have e : (0 : Int32).toInt = 0 := rfl; omega) (fun (c25 : 0 < lc.toInt) => ?_)
  refine ow_aloadN X_179 29 d9_28 rfl rfl rfl ?_
  refine ow_getF X_179 32 24 rfl rfl F0.2.2.2.2.2.2.2.2.1 d9_29 rfl ?_
  intro T_180 X_180
  refine ow_aloadN X_180 33 d9_32 rfl rfl rfl ?_
  refine ow_getF X_180 36 30 rfl rfl F0.2.2.2.2.2.2.2.2.2.2.1 d9_33 rfl ?_
  intro T_181 X_181
  refine ow_iload X_181 38 d9_36 rfl rfl ?_
  refine ow_iaload X_181 39 AaL d9_38 rfl (by decide) (by decide) rfl ?_
  refine ow_aloadN X_181 40 d9_39 rfl rfl rfl ?_
  refine ow_getF X_181 43 48 rfl rfl F0.2.1 d9_40 rfl ?_
  intro T_182 X_182
  refine ow_isub X_182 44 d9_43 rfl ?_
  refine ow_iconst X_182 45 (0 : Int32) d9_44 rfl rfl ?_
  refine ow_iastore X_182 46 AaR (gs _ (List.mem_of_getElem? (i := 2) rfl)) d9_45 rfl g0 g1 ?_
  intro T_183 h_183 X_183 W_183
  have f184_0 : TC Z h_183 a (.int fr) v_limit (.ref aN) v_jumps v_depths v_tagClasses v_tagNumbers (.ref aR) v_failures (.ref aL) (.int lc) (.int (-1 : Int32)) v_soughtNumber v_path := F0.other W_183 (oNd nd 0 2 (by decide) rfl rfl)
  have f184_1 : oA Z h_183 aN .int n (fun i => .int (N i)) := AaN.other W_183 (oNd nd 1 2 (by decide) rfl rfl)
  have f184_2 : oA Z h_183 aR .int n (fun i => .int ((oUpd Nr (((G 0) - fr).toInt.toNat) (0 : Int32)) i)) := AaR.setI W_183
  have f184_3 : oA Z h_183 aL .int 16 (fun i => .int (G i)) := AaL.other W_183 (oNd nd 3 2 (by decide) rfl rfl)
  have f184_4 : Keep h h_183 [a, aR] := (Keep.refl h [a, aR]).wr W_183 (Or.inl (List.mem_of_getElem? (i := 1) rfl))
  refine ow_iinc X_183 49 (L' := #[.val (.ref a), .val (.int st), .val (.int tc), .val (.int tn), .val (.int ((0 : Int32) + (1 : Int32))), .unset, .unset, .unset]) (1 : Int32) d9_46 rfl rfl rfl rfl ?_
  refine ow_goto X_183 19 d9_49 rfl ?_
  refine ow_iload X_183 21 d9_19 rfl rfl ?_
  refine ow_aloadN X_183 22 d9_21 rfl rfl rfl ?_
  refine ow_getF X_183 25 46 rfl rfl f184_0.2.2.2.2.2.2.2.2.2.2.2.1 d9_22 rfl ?_
  intro T_185 X_185
  refine ow_icmp_ge X_185 28 52 d9_25 rfl rfl (fun (c25 : lc.toInt ≤ ((0 : Int32) + (1 : Int32)).toInt) => ?_) (fun (c25 : ((0 : Int32) + (1 : Int32)).toInt < lc.toInt) => by exfalso; have e : ((0 : Int32) + (1 : Int32)).toInt = 1 := rfl; omega)
  refine ow_aloadN X_185 53 d9_52 rfl rfl rfl ?_
  refine ow_iloadN X_185 54 d9_53 rfl rfl ?_
  refine ow_putF X_185 57 32 2 rfl rfl f184_0.2.2.2.2.2.2.2.2.2.2.2.2.1 f184_0.1 (Or.inl (oSt_at X_185 33 rfl)) rfl (ty := .int) (by decide) rfl rfl (gs _ (List.mem_of_getElem? (i := 0) rfl)) d9_54 rfl ?_
  intro T_186 h_186 X_186 W_186
  have f187_0 : TC Z h_186 a (.int fr) v_limit (.ref aN) v_jumps v_depths v_tagClasses v_tagNumbers (.ref aR) v_failures (.ref aL) (.int lc) (.int tc) v_soughtNumber v_path := TC.set_soughtClass (oSt_w X_186) f184_0 W_186
  have f187_1 : oA Z h_186 aN .int n (fun i => .int (N i)) := f184_1.other W_186 (oNd nd 1 0 (by decide) rfl rfl)
  have f187_2 : oA Z h_186 aR .int n (fun i => .int ((oUpd Nr (((G 0) - fr).toInt.toNat) (0 : Int32)) i)) := f184_2.other W_186 (oNd nd 2 0 (by decide) rfl rfl)
  have f187_3 : oA Z h_186 aL .int 16 (fun i => .int (G i)) := f184_3.other W_186 (oNd nd 3 0 (by decide) rfl rfl)
  have f187_4 : Keep h h_186 [a, aR] := f184_4.wr W_186 (Or.inl (List.mem_of_getElem? (i := 0) rfl))
  refine ow_aloadN X_186 58 d9_57 rfl rfl rfl ?_
  refine ow_iloadN X_186 59 d9_58 rfl rfl ?_
  refine ow_putF X_186 62 72 2 rfl rfl f187_0.2.2.2.2.2.2.2.2.2.2.2.2.2.1 f187_0.1 (Or.inl (oSt_at X_186 73 rfl)) rfl (ty := .int) (by decide) rfl rfl (gs _ (List.mem_of_getElem? (i := 0) rfl)) d9_59 rfl ?_
  intro T_188 h_188 X_188 W_188
  have f189_0 : TC Z h_188 a (.int fr) v_limit (.ref aN) v_jumps v_depths v_tagClasses v_tagNumbers (.ref aR) v_failures (.ref aL) (.int lc) (.int tc) (.int tn) v_path := TC.set_soughtNumber (oSt_w X_188) f187_0 W_188
  have f189_1 : oA Z h_188 aN .int n (fun i => .int (N i)) := f187_1.other W_188 (oNd nd 1 0 (by decide) rfl rfl)
  have f189_2 : oA Z h_188 aR .int n (fun i => .int ((oUpd Nr (((G 0) - fr).toInt.toNat) (0 : Int32)) i)) := f187_2.other W_188 (oNd nd 2 0 (by decide) rfl rfl)
  have f189_3 : oA Z h_188 aL .int 16 (fun i => .int (G i)) := f187_3.other W_188 (oNd nd 3 0 (by decide) rfl rfl)
  have f189_4 : Keep h h_188 [a, aR] := f187_4.wr W_188 (Or.inl (List.mem_of_getElem? (i := 0) rfl))
  refine ow_iconst X_188 63 (0 : Int32) d9_62 rfl rfl ?_
  refine ow_istore X_188 65 (L' := #[.val (.ref a), .val (.int st), .val (.int tc), .val (.int tn), .val (.int (0 : Int32)), .unset, .unset, .unset]) d9_63 rfl rfl ?_
  refine ow_iloadN X_188 66 d9_65 rfl rfl ?_
  refine ow_istore X_188 68 (L' := #[.val (.ref a), .val (.int st), .val (.int tc), .val (.int tn), .val (.int (0 : Int32)), .val (.int st), .unset, .unset]) d9_66 rfl rfl ?_
  refine ow_aloadN X_188 69 d9_68 rfl rfl rfl ?_
  refine ow_getF X_188 72 24 rfl rfl f189_0.2.2.2.2.2.2.2.2.1 d9_69 rfl ?_
  intro T_190 X_190
  refine ow_iload X_190 74 d9_72 rfl rfl ?_
  refine ow_aloadN X_190 75 d9_74 rfl rfl rfl ?_
  refine ow_getF X_190 78 48 rfl rfl f189_0.2.1 d9_75 rfl ?_
  intro T_191 X_191
  refine ow_isub X_191 79 d9_78 rfl ?_
  refine ow_iaload X_191 80 f189_2 d9_79 rfl h0 h1 rfl ?_
  refine ow_if_ne X_191 83 164 d9_80 rfl rfl (fun (c80 : ((oUpd Nr (((G 0) - fr).toInt.toNat) (0 : Int32)) (st - fr).toInt.toNat).toInt ≠ 0) => absurd (by rw [own_z hR]; rfl) c80) (fun (c80 : ((oUpd Nr (((G 0) - fr).toInt.toNat) (0 : Int32)) (st - fr).toInt.toNat).toInt = 0) => ?_)
  refine ow_aloadN X_191 84 d9_83 rfl rfl rfl ?_
  refine ow_getF X_191 87 13 rfl rfl f189_0.2.2.2.1 d9_84 rfl ?_
  intro T_192 X_192
  refine ow_iload X_192 89 d9_87 rfl rfl ?_
  refine ow_aloadN X_192 90 d9_89 rfl rfl rfl ?_
  refine ow_getF X_192 93 48 rfl rfl f189_0.2.1 d9_90 rfl ?_
  intro T_193 X_193
  refine ow_isub X_193 94 d9_93 rfl ?_
  refine ow_iaload X_193 95 f189_1 d9_94 rfl h0 h1 rfl ?_
  refine ow_iconst X_193 96 (-1 : Int32) d9_95 rfl rfl ?_
  refine ow_icmp_eq X_193 99 164 d9_96 rfl rfl (fun (c96 : (N (st - fr).toInt.toNat).toInt = (-1)) => ?_) (fun (c96 : (N (st - fr).toInt.toNat).toInt ≠ (-1)) => absurd (by rw [hN]; rfl) c96)
  refine ow_aloadN X_193 165 d9_164 rfl rfl rfl ?_
  refine ow_getF X_193 168 24 rfl rfl f189_0.2.2.2.2.2.2.2.2.1 d9_165 rfl ?_
  intro T_194 X_194
  refine ow_iload X_194 170 d9_168 rfl rfl ?_
  refine ow_aloadN X_194 171 d9_170 rfl rfl rfl ?_
  refine ow_getF X_194 174 48 rfl rfl f189_0.2.1 d9_171 rfl ?_
  intro T_195 X_195
  refine ow_isub X_195 175 d9_174 rfl ?_
  refine ow_iaload X_195 176 f189_2 d9_175 rfl h0 h1 rfl ?_
  refine ow_istore X_195 178 (L' := #[.val (.ref a), .val (.int st), .val (.int tc), .val (.int tn), .val (.int (0 : Int32)), .val (.int st), .val (.int ((oUpd Nr (((G 0) - fr).toInt.toNat) (0 : Int32)) (st - fr).toInt.toNat)), .unset]) d9_176 rfl rfl ?_
  refine ow_iload X_195 180 d9_178 rfl rfl ?_
  refine ow_if_ne X_195 183 209 d9_180 rfl rfl (fun (c180 : ((oUpd Nr (((G 0) - fr).toInt.toNat) (0 : Int32)) (st - fr).toInt.toNat).toInt ≠ 0) => absurd (by rw [own_z hR]; rfl) c180) (fun (c180 : ((oUpd Nr (((G 0) - fr).toInt.toNat) (0 : Int32)) (st - fr).toInt.toNat).toInt = 0) => ?_)
  refine ow_aloadN X_195 184 d9_183 rfl rfl rfl ?_
  refine ow_getF X_195 187 13 rfl rfl f189_0.2.2.2.1 d9_184 rfl ?_
  intro T_196 X_196
  refine ow_iload X_196 189 d9_187 rfl rfl ?_
  refine ow_aloadN X_196 190 d9_189 rfl rfl rfl ?_
  refine ow_getF X_196 193 48 rfl rfl f189_0.2.1 d9_190 rfl ?_
  intro T_197 X_197
  refine ow_isub X_197 194 d9_193 rfl ?_
  refine ow_iaload X_197 195 f189_1 d9_194 rfl h0 h1 rfl ?_
  refine ow_iconst X_197 196 (-1 : Int32) d9_195 rfl rfl ?_
  refine ow_icmp_ne X_197 199 203 d9_196 rfl rfl (fun (c196 : (N (st - fr).toInt.toNat).toInt ≠ (-1)) => absurd (by rw [hN]; rfl) c196) (fun (c196 : (N (st - fr).toInt.toNat).toInt = (-1)) => ?_)
  refine ow_iconst X_197 200 (-1 : Int32) d9_199 rfl rfl ?_
  refine ow_goto X_197 207 d9_200 rfl ?_
  refine ow_istore X_197 209 (L' := #[.val (.ref a), .val (.int st), .val (.int tc), .val (.int tn), .val (.int (0 : Int32)), .val (.int st), .val (.int (-1 : Int32)), .unset]) d9_207 rfl rfl ?_
  refine ow_aloadN X_197 210 d9_209 rfl rfl rfl ?_
  refine ow_getF X_197 213 24 rfl rfl f189_0.2.2.2.2.2.2.2.2.1 d9_210 rfl ?_
  intro T_198 X_198
  refine ow_iload X_198 215 d9_213 rfl rfl ?_
  refine ow_aloadN X_198 216 d9_215 rfl rfl rfl ?_
  refine ow_getF X_198 219 48 rfl rfl f189_0.2.1 d9_216 rfl ?_
  intro T_199 X_199
  refine ow_isub X_199 220 d9_219 rfl ?_
  refine ow_iload X_199 222 d9_220 rfl rfl ?_
  refine ow_iastore X_199 223 f189_2 (gs _ (List.mem_of_getElem? (i := 2) rfl)) d9_222 rfl h0 h1 ?_
  intro T_200 h_200 X_200 W_200
  have f201_0 : TC Z h_200 a (.int fr) v_limit (.ref aN) v_jumps v_depths v_tagClasses v_tagNumbers (.ref aR) v_failures (.ref aL) (.int lc) (.int tc) (.int tn) v_path := f189_0.other W_200 (oNd nd 0 2 (by decide) rfl rfl)
  have f201_1 : oA Z h_200 aN .int n (fun i => .int (N i)) := f189_1.other W_200 (oNd nd 1 2 (by decide) rfl rfl)
  have f201_2 : oA Z h_200 aR .int n (fun i => .int ((oUpd (oUpd Nr (((G 0) - fr).toInt.toNat) (0 : Int32)) ((st - fr).toInt.toNat) (-1 : Int32)) i)) := f189_2.setI W_200
  have f201_3 : oA Z h_200 aL .int 16 (fun i => .int (G i)) := f189_3.other W_200 (oNd nd 3 2 (by decide) rfl rfl)
  have f201_4 : Keep h h_200 [a, aR] := f189_4.wr W_200 (Or.inl (List.mem_of_getElem? (i := 1) rfl))
  refine ow_iconst X_200 224 (0 : Int32) d9_223 rfl rfl ?_
  refine ow_istore X_200 226 (L' := #[.val (.ref a), .val (.int st), .val (.int tc), .val (.int tn), .val (.int (0 : Int32)), .val (.int st), .val (.int (-1 : Int32)), .val (.int (0 : Int32))]) d9_224 rfl rfl ?_
  refine ow_iload X_200 228 d9_226 rfl rfl ?_
  refine ow_iload X_200 230 d9_228 rfl rfl ?_
  refine ow_icmp_ge X_200 233 258 d9_230 rfl rfl (fun (c230 : 0 ≤ 0) => ?_) (fun (c230 : 0 < 0) => absurd c230 (by decide))
  refine ow_iload X_200 260 d9_258 rfl rfl ?_
  refine ow_iconst X_200 261 (-1 : Int32) d9_260 rfl rfl ?_
  refine ow_icmp_ne X_200 264 268 d9_261 rfl rfl (fun (c261 : (-1) ≠ (-1)) => absurd rfl c261) (fun (c261 : (-1) = (-1)) => ?_)
  refine ow_iconst X_200 265 (-1 : Int32) d9_264 rfl rfl ?_
  refine ow_goto X_200 272 d9_265 rfl ?_
  refine ow_retI X_200 rfl d9_272 (by decide) (by decide) ?_
  exact ⟨rfl, f201_4, f201_0, _, f201_2⟩
set_option maxRecDepth 65536 in
set_option maxHeartbeats 4000000 in
theorem C_near2 {Z : State} {ω : OW} {h : Heap} (hw_ : ∀ d ∈ tables_1, d.before ω.2.2 Z = true) (hn_ : ω.2.1 ≤ h.size) (a aN aR aC aT : Addr) (st tc tn fr : Int32) (n : Nat) (N Nr Cc Tn : Nat → Int32) (v_limit v_jumps v_depths v_failures v_learnt v_learntCount v_path : Value) (F0 : TC Z h a (.int fr) v_limit (.ref aN) v_jumps v_depths (.ref aC) (.ref aT) (.ref aR) v_failures v_learnt v_learntCount (.int tc) (.int tn) v_path) (AaN : oA Z h aN .int n (fun i => .int (N i))) (AaR : oA Z h aR .int n (fun i => .int (Nr i))) (AaC : oA Z h aC .byte n (fun i => .int (Cc i))) (AaT : oA Z h aT .int n (fun i => .int (Tn i))) (nd : List.Nodup [a, aN, aR, aC, aT]) (gs : ∀ x ∈ [a, aN, aR, aC, aT], ω.2.1 ≤ x) (h0 : 0 ≤ (st - fr).toInt) (h1 : (st - fr).toInt < n) (hN : N (st - fr).toInt.toNat ≠ -1) (hR : Nr (st - fr).toInt.toNat = 0) (hC : Cc (st - fr).toInt.toNat = tc) (hT : Tn (st - fr).toInt.toNat = tn) (hst : 0 ≤ st.toInt ∧ st.toInt < 2147483000) :
    oC Z ω (⟨"com/example/tollbook/tollbook/ber/TlvChains", "nearest", "(III)I"⟩ : MethodName) k9 [] #[.ref a, .int st, .int tc, .int tn] h (fun v h' => v = some (.int st) ∧ Keep h h' [a, aR] ∧ TC Z h' a (.int fr) v_limit (.ref aN) v_jumps v_depths (.ref aC) (.ref aT) (.ref aR) v_failures v_learnt v_learntCount (.int tc) (.int tn) v_path ∧ ∃ Nr' : Nat → Int32, oA Z h' aR .int n (fun i => .int (Nr' i))) := by
  refine oC_of hw_ hn_ pn9 rfl rfl (L := #[.val (.ref a), .val (.int st), .val (.int tc), .val (.int tn), .unset, .unset, .unset, .unset]) (fun m => by first | (simp [entryFrame, mkF, argsToLocals, Value.category, k9]; done) | rfl) ?_
  intro γ T X
  refine ow_iloadN X 1 d9_0 rfl rfl ?_
  refine ow_aloadN X 2 d9_1 rfl rfl rfl ?_
  refine ow_getF X 5 32 rfl rfl F0.2.2.2.2.2.2.2.2.2.2.2.2.1 d9_2 rfl ?_
  intro T_202 X_202
  refine ow_icmp_ne X_202 8 16 d9_5 rfl rfl (fun (c5 : tc.toInt ≠ tc.toInt) => absurd rfl c5) (fun (c5 : tc.toInt = tc.toInt) => ?_)
  refine ow_iloadN X_202 9 d9_8 rfl rfl ?_
  refine ow_aloadN X_202 10 d9_9 rfl rfl rfl ?_
  refine ow_getF X_202 13 72 rfl rfl F0.2.2.2.2.2.2.2.2.2.2.2.2.2.1 d9_10 rfl ?_
  intro T_203 X_203
  refine ow_icmp_eq X_203 16 62 d9_13 rfl rfl (fun (c13 : tn.toInt = tn.toInt) => ?_) (fun (c13 : tn.toInt ≠ tn.toInt) => absurd rfl c13)
  refine ow_iconst X_203 63 (0 : Int32) d9_62 rfl rfl ?_
  refine ow_istore X_203 65 (L' := #[.val (.ref a), .val (.int st), .val (.int tc), .val (.int tn), .val (.int (0 : Int32)), .unset, .unset, .unset]) d9_63 rfl rfl ?_
  refine ow_iloadN X_203 66 d9_65 rfl rfl ?_
  refine ow_istore X_203 68 (L' := #[.val (.ref a), .val (.int st), .val (.int tc), .val (.int tn), .val (.int (0 : Int32)), .val (.int st), .unset, .unset]) d9_66 rfl rfl ?_
  refine ow_aloadN X_203 69 d9_68 rfl rfl rfl ?_
  refine ow_getF X_203 72 24 rfl rfl F0.2.2.2.2.2.2.2.2.1 d9_69 rfl ?_
  intro T_204 X_204
  refine ow_iload X_204 74 d9_72 rfl rfl ?_
  refine ow_aloadN X_204 75 d9_74 rfl rfl rfl ?_
  refine ow_getF X_204 78 48 rfl rfl F0.2.1 d9_75 rfl ?_
  intro T_205 X_205
  refine ow_isub X_205 79 d9_78 rfl ?_
  refine ow_iaload X_205 80 AaR d9_79 rfl h0 h1 rfl ?_
  refine ow_if_ne X_205 83 164 d9_80 rfl rfl (fun (c80 : (Nr (st - fr).toInt.toNat).toInt ≠ 0) => absurd (by rw [hR]; rfl) c80) (fun (c80 : (Nr (st - fr).toInt.toNat).toInt = 0) => ?_)
  refine ow_aloadN X_205 84 d9_83 rfl rfl rfl ?_
  refine ow_getF X_205 87 13 rfl rfl F0.2.2.2.1 d9_84 rfl ?_
  intro T_206 X_206
  refine ow_iload X_206 89 d9_87 rfl rfl ?_
  refine ow_aloadN X_206 90 d9_89 rfl rfl rfl ?_
  refine ow_getF X_206 93 48 rfl rfl F0.2.1 d9_90 rfl ?_
  intro T_207 X_207
  refine ow_isub X_207 94 d9_93 rfl ?_
  refine ow_iaload X_207 95 AaN d9_94 rfl h0 h1 rfl ?_
  refine ow_iconst X_207 96 (-1 : Int32) d9_95 rfl rfl ?_
  refine ow_icmp_eq X_207 99 164 d9_96 rfl rfl (fun (c96 : (N (st - fr).toInt.toNat).toInt = (-1)) => absurd (Int32.toInt_inj.mp c96) hN) (fun (c96 : (N (st - fr).toInt.toNat).toInt ≠ (-1)) => ?_)
  refine ow_aloadN X_207 100 d9_99 rfl rfl rfl ?_
  refine ow_iload X_207 102 d9_100 rfl rfl ?_
  refine ow_iloadN X_207 103 d9_102 rfl rfl ?_
  refine ow_iloadN X_207 104 d9_103 rfl rfl ?_
  refine ow_callP X_207 107 90 91 92 3 93 2 (κ' := k13) (as := [.int st, .int tc, .int tn]) (S := []) (W := 0) rfl rfl rfl rfl rfl rfl rfl (by decide) F0.1 (C_tag (oSt_w X_207) (oSt_n0 X_207) a aC aT st tc tn fr n Cc Tn _ _ _ _ _ _ _ _ _ _ _ F0 AaC AaT h0 h1 hC hT) (by decide) (by decide) (Nat.le_of_eq rfl) (by decide) (by decide) pd13 rfl rfl rfl d9_104 rfl ?_
  intro v_208 T_208 h_208 X_208 q_208
  obtain ⟨rfl, rfl⟩ := q_208
  show oWP ω γ k9 _ T_208 107 #[.val (.ref a), .val (.int st), .val (.int tc), .val (.int tn), .val (.int (0 : Int32)), .val (.int st), .unset, .unset] [.int (1 : Int32)]
  refine ow_if_ne X_208 110 164 d9_107 rfl rfl (fun (c107 : 1 ≠ 0) => ?_) (fun (c107 : 1 = 0) => absurd c107 (by decide))
  refine ow_aloadN X_208 165 d9_164 rfl rfl rfl ?_
  refine ow_getF X_208 168 24 rfl rfl F0.2.2.2.2.2.2.2.2.1 d9_165 rfl ?_
  intro T_209 X_209
  refine ow_iload X_209 170 d9_168 rfl rfl ?_
  refine ow_aloadN X_209 171 d9_170 rfl rfl rfl ?_
  refine ow_getF X_209 174 48 rfl rfl F0.2.1 d9_171 rfl ?_
  intro T_210 X_210
  refine ow_isub X_210 175 d9_174 rfl ?_
  refine ow_iaload X_210 176 AaR d9_175 rfl h0 h1 rfl ?_
  refine ow_istore X_210 178 (L' := #[.val (.ref a), .val (.int st), .val (.int tc), .val (.int tn), .val (.int (0 : Int32)), .val (.int st), .val (.int (Nr (st - fr).toInt.toNat)), .unset]) d9_176 rfl rfl ?_
  refine ow_iload X_210 180 d9_178 rfl rfl ?_
  refine ow_if_ne X_210 183 209 d9_180 rfl rfl (fun (c180 : (Nr (st - fr).toInt.toNat).toInt ≠ 0) => absurd (by rw [hR]; rfl) c180) (fun (c180 : (Nr (st - fr).toInt.toNat).toInt = 0) => ?_)
  refine ow_aloadN X_210 184 d9_183 rfl rfl rfl ?_
  refine ow_getF X_210 187 13 rfl rfl F0.2.2.2.1 d9_184 rfl ?_
  intro T_211 X_211
  refine ow_iload X_211 189 d9_187 rfl rfl ?_
  refine ow_aloadN X_211 190 d9_189 rfl rfl rfl ?_
  refine ow_getF X_211 193 48 rfl rfl F0.2.1 d9_190 rfl ?_
  intro T_212 X_212
  refine ow_isub X_212 194 d9_193 rfl ?_
  refine ow_iaload X_212 195 AaN d9_194 rfl h0 h1 rfl ?_
  refine ow_iconst X_212 196 (-1 : Int32) d9_195 rfl rfl ?_
  refine ow_icmp_ne X_212 199 203 d9_196 rfl rfl (fun (c196 : (N (st - fr).toInt.toNat).toInt ≠ (-1)) => ?_) (fun (c196 : (N (st - fr).toInt.toNat).toInt = (-1)) => absurd (Int32.toInt_inj.mp c196) hN)
  refine ow_iload X_212 205 d9_203 rfl rfl ?_
  refine ow_iconst X_212 206 (1 : Int32) d9_205 rfl rfl ?_
  refine ow_iadd X_212 207 d9_206 rfl ?_
  refine ow_istore X_212 209 (L' := #[.val (.ref a), .val (.int st), .val (.int tc), .val (.int tn), .val (.int (0 : Int32)), .val (.int st), .val (.int (st + (1 : Int32))), .unset]) d9_207 rfl rfl ?_
  refine ow_aloadN X_212 210 d9_209 rfl rfl rfl ?_
  refine ow_getF X_212 213 24 rfl rfl F0.2.2.2.2.2.2.2.2.1 d9_210 rfl ?_
  intro T_213 X_213
  refine ow_iload X_213 215 d9_213 rfl rfl ?_
  refine ow_aloadN X_213 216 d9_215 rfl rfl rfl ?_
  refine ow_getF X_213 219 48 rfl rfl F0.2.1 d9_216 rfl ?_
  intro T_214 X_214
  refine ow_isub X_214 220 d9_219 rfl ?_
  refine ow_iload X_214 222 d9_220 rfl rfl ?_
  refine ow_iastore X_214 223 AaR (gs _ (List.mem_of_getElem? (i := 2) rfl)) d9_222 rfl h0 h1 ?_
  intro T_215 h_215 X_215 W_215
  have f216_0 : TC Z h_215 a (.int fr) v_limit (.ref aN) v_jumps v_depths (.ref aC) (.ref aT) (.ref aR) v_failures v_learnt v_learntCount (.int tc) (.int tn) v_path := F0.other W_215 (oNd nd 0 2 (by decide) rfl rfl)
  have f216_1 : oA Z h_215 aN .int n (fun i => .int (N i)) := AaN.other W_215 (oNd nd 1 2 (by decide) rfl rfl)
  have f216_2 : oA Z h_215 aR .int n (fun i => .int ((oUpd Nr ((st - fr).toInt.toNat) (st + (1 : Int32))) i)) := AaR.setI W_215
  have f216_3 : oA Z h_215 aC .byte n (fun i => .int (Cc i)) := AaC.other W_215 (oNd nd 3 2 (by decide) rfl rfl)
  have f216_4 : oA Z h_215 aT .int n (fun i => .int (Tn i)) := AaT.other W_215 (oNd nd 4 2 (by decide) rfl rfl)
  have f216_5 : Keep h h_215 [a, aR] := (Keep.refl h [a, aR]).wr W_215 (Or.inl (List.mem_of_getElem? (i := 1) rfl))
  refine ow_iconst X_215 224 (0 : Int32) d9_223 rfl rfl ?_
  refine ow_istore X_215 226 (L' := #[.val (.ref a), .val (.int st), .val (.int tc), .val (.int tn), .val (.int (0 : Int32)), .val (.int st), .val (.int (st + (1 : Int32))), .val (.int (0 : Int32))]) d9_224 rfl rfl ?_
  refine ow_iload X_215 228 d9_226 rfl rfl ?_
  refine ow_iload X_215 230 d9_228 rfl rfl ?_
  refine ow_icmp_ge X_215 233 258 d9_230 rfl rfl (fun (c230 : 0 ≤ 0) => ?_) (fun (c230 : 0 < 0) => absurd c230 (by decide))
  refine ow_iload X_215 260 d9_258 rfl rfl ?_
  refine ow_iconst X_215 261 (-1 : Int32) d9_260 rfl rfl ?_
  refine ow_icmp_ne X_215 264 268 d9_261 rfl rfl (fun (c261 : (st + (1 : Int32)).toInt ≠ (-1)) => ?_) (fun (c261 : (st + (1 : Int32)).toInt = (-1)) => by exfalso; have e1 := own_addk st 1 1 rfl (by decide) (by omega); omega)
  refine ow_iload X_215 270 d9_268 rfl rfl ?_
  refine ow_iconst X_215 271 (1 : Int32) d9_270 rfl rfl ?_
  refine ow_isub X_215 272 d9_271 rfl ?_
  refine ow_retI X_215 rfl d9_272 (by decide) (by decide) ?_
  refine ⟨?_, f216_5, f216_0, _, f216_2⟩
  have e1 := own_addk st 1 1 rfl (by decide) (by omega)
  have e2 := own_subk (st + (1 : Int32)) 1 1 rfl (by decide) (by omega)
  have e3 : st + (1 : Int32) - (1 : Int32) = st := Int32.toInt_inj.mp (by omega)
  rw [e3]
theorem d8_0 : decode prog_32_method_11_code 0 = .ok (.iload_n 1, 1) := by decide +kernel
theorem d8_1 : decode prog_32_method_11_code 1 = .ok (.istore 5, 2) := by decide +kernel
theorem d8_3 : decode prog_32_method_11_code 3 = .ok (.aload_n 0, 1) := by decide +kernel
theorem d8_4 : decode prog_32_method_11_code 4 = .ok (.getfield 13, 3) := by decide +kernel
theorem d8_7 : decode prog_32_method_11_code 7 = .ok (.iload 5, 2) := by decide +kernel
theorem d8_9 : decode prog_32_method_11_code 9 = .ok (.aload_n 0, 1) := by decide +kernel
theorem d8_10 : decode prog_32_method_11_code 10 = .ok (.getfield 51, 3) := by decide +kernel
theorem d8_13 : decode prog_32_method_11_code 13 = .ok (.isub, 1) := by decide +kernel
theorem d8_14 : decode prog_32_method_11_code 14 = .ok (.iaload, 1) := by decide +kernel
theorem d8_15 : decode prog_32_method_11_code 15 = .ok (.iconst (-1), 1) := by decide +kernel
theorem d8_16 : decode prog_32_method_11_code 16 = .ok (.if_icmp .eq 61, 3) := by decide +kernel
theorem d8_19 : decode prog_32_method_11_code 19 = .ok (.aload_n 0, 1) := by decide +kernel
theorem d8_20 : decode prog_32_method_11_code 20 = .ok (.getfield 13, 3) := by decide +kernel
theorem d8_23 : decode prog_32_method_11_code 23 = .ok (.iload 5, 2) := by decide +kernel
theorem d8_25 : decode prog_32_method_11_code 25 = .ok (.aload_n 0, 1) := by decide +kernel
theorem d8_26 : decode prog_32_method_11_code 26 = .ok (.getfield 51, 3) := by decide +kernel
theorem d8_29 : decode prog_32_method_11_code 29 = .ok (.isub, 1) := by decide +kernel
theorem d8_30 : decode prog_32_method_11_code 30 = .ok (.iaload, 1) := by decide +kernel
theorem d8_31 : decode prog_32_method_11_code 31 = .ok (.iload_n 2, 1) := by decide +kernel
theorem d8_32 : decode prog_32_method_11_code 32 = .ok (.if_icmp .ge 45, 3) := by decide +kernel
theorem d8_35 : decode prog_32_method_11_code 35 = .ok (.aload_n 0, 1) := by decide +kernel
theorem d8_36 : decode prog_32_method_11_code 36 = .ok (.getfield 17, 3) := by decide +kernel
theorem d8_39 : decode prog_32_method_11_code 39 = .ok (.iload 5, 2) := by decide +kernel
theorem d8_41 : decode prog_32_method_11_code 41 = .ok (.aload_n 0, 1) := by decide +kernel
theorem d8_42 : decode prog_32_method_11_code 42 = .ok (.getfield 51, 3) := by decide +kernel
theorem d8_45 : decode prog_32_method_11_code 45 = .ok (.isub, 1) := by decide +kernel
theorem d8_46 : decode prog_32_method_11_code 46 = .ok (.iaload, 1) := by decide +kernel
theorem d8_47 : decode prog_32_method_11_code 47 = .ok (.istore 6, 2) := by decide +kernel
theorem d8_49 : decode prog_32_method_11_code 49 = .ok (.iload 6, 2) := by decide +kernel
theorem d8_51 : decode prog_32_method_11_code 51 = .ok (.iload_n 2, 1) := by decide +kernel
theorem d8_52 : decode prog_32_method_11_code 52 = .ok (.if_icmp .ge 8, 3) := by decide +kernel
theorem d8_55 : decode prog_32_method_11_code 55 = .ok (.iload 6, 2) := by decide +kernel
theorem d8_57 : decode prog_32_method_11_code 57 = .ok (.goto 15, 3) := by decide +kernel
theorem d8_60 : decode prog_32_method_11_code 60 = .ok (.aload_n 0, 1) := by decide +kernel
theorem d8_61 : decode prog_32_method_11_code 61 = .ok (.getfield 13, 3) := by decide +kernel
theorem d8_64 : decode prog_32_method_11_code 64 = .ok (.iload 5, 2) := by decide +kernel
theorem d8_66 : decode prog_32_method_11_code 66 = .ok (.aload_n 0, 1) := by decide +kernel
theorem d8_67 : decode prog_32_method_11_code 67 = .ok (.getfield 51, 3) := by decide +kernel
theorem d8_70 : decode prog_32_method_11_code 70 = .ok (.isub, 1) := by decide +kernel
theorem d8_71 : decode prog_32_method_11_code 71 = .ok (.iaload, 1) := by decide +kernel
theorem d8_72 : decode prog_32_method_11_code 72 = .ok (.istore 5, 2) := by decide +kernel
theorem d8_74 : decode prog_32_method_11_code 74 = .ok (.goto (-71), 3) := by decide +kernel
theorem d8_77 : decode prog_32_method_11_code 77 = .ok (.iload_n 3, 1) := by decide +kernel
theorem d8_78 : decode prog_32_method_11_code 78 = .ok (.ifCond .ge 7, 3) := by decide +kernel
theorem d8_81 : decode prog_32_method_11_code 81 = .ok (.iconst (-1), 1) := by decide +kernel
theorem d8_82 : decode prog_32_method_11_code 82 = .ok (.goto 11, 3) := by decide +kernel
theorem d8_85 : decode prog_32_method_11_code 85 = .ok (.aload_n 0, 1) := by decide +kernel
theorem d8_86 : decode prog_32_method_11_code 86 = .ok (.iload_n 1, 1) := by decide +kernel
theorem d8_87 : decode prog_32_method_11_code 87 = .ok (.iload_n 3, 1) := by decide +kernel
theorem d8_88 : decode prog_32_method_11_code 88 = .ok (.iload 4, 2) := by decide +kernel
theorem d8_90 : decode prog_32_method_11_code 90 = .ok (.invokevirtual 65, 3) := by decide +kernel
theorem d8_93 : decode prog_32_method_11_code 93 = .ok (.istore 6, 2) := by decide +kernel
theorem d8_95 : decode prog_32_method_11_code 95 = .ok (.iload 6, 2) := by decide +kernel
theorem d8_97 : decode prog_32_method_11_code 97 = .ok (.iconst (-1), 1) := by decide +kernel
theorem d8_98 : decode prog_32_method_11_code 98 = .ok (.if_icmp .eq 15, 3) := by decide +kernel
theorem d8_101 : decode prog_32_method_11_code 101 = .ok (.iload 6, 2) := by decide +kernel
theorem d8_103 : decode prog_32_method_11_code 103 = .ok (.iload 5, 2) := by decide +kernel
theorem d8_105 : decode prog_32_method_11_code 105 = .ok (.if_icmp .ge 8, 3) := by decide +kernel
theorem d8_108 : decode prog_32_method_11_code 108 = .ok (.iload 6, 2) := by decide +kernel
theorem d8_110 : decode prog_32_method_11_code 110 = .ok (.goto 5, 3) := by decide +kernel
theorem d8_113 : decode prog_32_method_11_code 113 = .ok (.iload 5, 2) := by decide +kernel
theorem d8_115 : decode prog_32_method_11_code 115 = .ok (.ireturn, 1) := by decide +kernel
def k8 : OM := (prog_32_method_11_code, 7, "com/example/tollbook/tollbook/ber/TlvChains", "along", (some .int), { frames := 2, cells := 0, slots := 0, locals := 41 })
theorem pn8 : plainFor (⟨"com/example/tollbook/tollbook/ber/TlvChains", "along", "(IIII)I"⟩ : MethodName) = true := plainFor_of_name (by first | (simp [plainName, overriddenIn]; done) | decide +kernel)
theorem pd8 : parseMethodDescriptor "(IIII)I" = some ⟨[.int, .int, .int, .int], (some .int)⟩ := by decide +kernel
set_option maxRecDepth 65536 in
set_option maxHeartbeats 4000000 in
theorem C_along1 {Z : State} {ω : OW} {h : Heap} (hw_ : ∀ d ∈ tables_1, d.before ω.2.2 Z = true) (hn_ : ω.2.1 ≤ h.size) (a aN aR aL : Addr) (st to tc tn fr lc : Int32) (n : Nat) (N Nr G : Nat → Int32) (v_limit v_jumps v_depths v_tagClasses v_tagNumbers v_failures v_soughtNumber v_path : Value) (F0 : TC Z h a (.int fr) v_limit (.ref aN) v_jumps v_depths v_tagClasses v_tagNumbers (.ref aR) v_failures (.ref aL) (.int lc) (.int (-1 : Int32)) v_soughtNumber v_path) (AaN : oA Z h aN .int n (fun i => .int (N i))) (AaR : oA Z h aR .int n (fun i => .int (Nr i))) (AaL : oA Z h aL .int 16 (fun i => .int (G i))) (nd : List.Nodup [a, aN, aR, aL]) (gs : ∀ x ∈ [a, aN, aR, aL], ω.2.1 ≤ x) (hlc : lc.toInt = 1) (htc : 0 ≤ tc.toInt) (g0 : 0 ≤ (G 0 - fr).toInt) (g1 : (G 0 - fr).toInt < n) (h0 : 0 ≤ (st - fr).toInt) (h1 : (st - fr).toInt < n) (hN : N (st - fr).toInt.toNat = -1) (hR : Nr (st - fr).toInt.toNat = 0) :
    oC Z ω (⟨"com/example/tollbook/tollbook/ber/TlvChains", "along", "(IIII)I"⟩ : MethodName) k8 [] #[.ref a, .int st, .int to, .int tc, .int tn] h (fun v h' => v = some (.int st) ∧ Keep h h' [a, aR] ∧ TC Z h' a (.int fr) v_limit (.ref aN) v_jumps v_depths v_tagClasses v_tagNumbers (.ref aR) v_failures (.ref aL) (.int lc) (.int tc) (.int tn) v_path ∧ ∃ Nr' : Nat → Int32, oA Z h' aR .int n (fun i => .int (Nr' i))) := by
  refine oC_of hw_ hn_ pn8 rfl rfl (L := #[.val (.ref a), .val (.int st), .val (.int to), .val (.int tc), .val (.int tn), .unset, .unset]) (fun m => by first | (simp [entryFrame, mkF, argsToLocals, Value.category, k8]; done) | rfl) ?_
  intro γ T X
  refine ow_iloadN X 1 d8_0 rfl rfl ?_
  refine ow_istore X 3 (L' := #[.val (.ref a), .val (.int st), .val (.int to), .val (.int tc), .val (.int tn), .val (.int st), .unset]) d8_1 rfl rfl ?_
  refine ow_aloadN X 4 d8_3 rfl rfl rfl ?_
  refine ow_getF X 7 13 rfl rfl F0.2.2.2.1 d8_4 rfl ?_
  intro T_217 X_217
  refine ow_iload X_217 9 d8_7 rfl rfl ?_
  refine ow_aloadN X_217 10 d8_9 rfl rfl rfl ?_
  refine ow_getF X_217 13 48 rfl rfl F0.2.1 d8_10 rfl ?_
  intro T_218 X_218
  refine ow_isub X_218 14 d8_13 rfl ?_
  refine ow_iaload X_218 15 AaN d8_14 rfl h0 h1 rfl ?_
  refine ow_iconst X_218 16 (-1 : Int32) d8_15 rfl rfl ?_
  refine ow_icmp_eq X_218 19 77 d8_16 rfl rfl (fun (c16 : (N (st - fr).toInt.toNat).toInt = (-1)) => ?_) (fun (c16 : (N (st - fr).toInt.toNat).toInt ≠ (-1)) => absurd (by rw [hN]; rfl) c16)
  refine ow_iloadN X_218 78 d8_77 rfl rfl ?_
  refine ow_if_ge X_218 81 85 d8_78 rfl rfl (fun (c78 : 0 ≤ tc.toInt) => ?_) (fun (c78 : tc.toInt < 0) => by exfalso; omega)
  refine ow_aloadN X_218 86 d8_85 rfl rfl rfl ?_
  refine ow_iloadN X_218 87 d8_86 rfl rfl ?_
  refine ow_iloadN X_218 88 d8_87 rfl rfl ?_
  refine ow_iload X_218 90 d8_88 rfl rfl ?_
  refine ow_callP X_218 93 68 69 70 3 71 2 (κ' := k9) (as := [.int st, .int tc, .int tn]) (S := []) (W := 0) rfl rfl rfl rfl rfl rfl rfl (by decide) F0.1 (C_near1 (oSt_w X_218) (oSt_n0 X_218) a aN aR aL st tc tn fr lc n N Nr G _ _ _ _ _ _ _ _ F0 AaN AaR AaL nd gs hlc htc g0 g1 h0 h1 hN hR) (by decide) (by decide) (Nat.le_of_eq rfl) (by decide) (by decide) pd9 rfl rfl rfl d8_90 rfl ?_
  intro v_219 T_219 h_219 X_219 q_219
  obtain ⟨rfl, K219, R219, Nr219, AR219⟩ := q_219
  have f220_1 : oA Z h_219 aN .int n (fun i => .int (N i)) := AaN.keep K219 (ninS (oNd nd 1 0 (by decide) rfl rfl) (ninS (oNd nd 1 2 (by decide) rfl rfl) nin0))
  have f220_3 : oA Z h_219 aL .int 16 (fun i => .int (G i)) := AaL.keep K219 (ninS (oNd nd 3 0 (by decide) rfl rfl) (ninS (oNd nd 3 2 (by decide) rfl rfl) nin0))
  have f220_4 : Keep h h_219 [a, aR] := (Keep.refl h [a, aR]).trans K219 (allS (Or.inl (List.mem_of_getElem? (i := 0) rfl)) (allS (Or.inl (List.mem_of_getElem? (i := 1) rfl)) all0))
  show oWP ω γ k8 _ T_219 93 #[.val (.ref a), .val (.int st), .val (.int to), .val (.int tc), .val (.int tn), .val (.int st), .unset] [.int (-1 : Int32)]
  refine ow_istore X_219 95 (L' := #[.val (.ref a), .val (.int st), .val (.int to), .val (.int tc), .val (.int tn), .val (.int st), .val (.int (-1 : Int32))]) d8_93 rfl rfl ?_
  refine ow_iload X_219 97 d8_95 rfl rfl ?_
  refine ow_iconst X_219 98 (-1 : Int32) d8_97 rfl rfl ?_
  refine ow_icmp_eq X_219 101 113 d8_98 rfl rfl (fun (c98 : (-1) = (-1)) => ?_) (fun (c98 : (-1) ≠ (-1)) => absurd rfl c98)
  refine ow_iload X_219 115 d8_113 rfl rfl ?_
  refine ow_retI X_219 rfl d8_115 (by decide) (by decide) ?_
  exact ⟨rfl, f220_4, R219, _, AR219⟩
set_option maxRecDepth 65536 in
set_option maxHeartbeats 4000000 in
theorem C_along2 {Z : State} {ω : OW} {h : Heap} (hw_ : ∀ d ∈ tables_1, d.before ω.2.2 Z = true) (hn_ : ω.2.1 ≤ h.size) (a aN aJ aR aC aT : Addr) (st to nx tc tn fr : Int32) (n : Nat) (N J Nr Cc Tn : Nat → Int32) (v_limit v_depths v_failures v_learnt v_learntCount v_path : Value) (F0 : TC Z h a (.int fr) v_limit (.ref aN) (.ref aJ) v_depths (.ref aC) (.ref aT) (.ref aR) v_failures v_learnt v_learntCount (.int tc) (.int tn) v_path) (AaN : oA Z h aN .int n (fun i => .int (N i))) (AaJ : oA Z h aJ .int n (fun i => .int (J i))) (AaR : oA Z h aR .int n (fun i => .int (Nr i))) (AaC : oA Z h aC .byte n (fun i => .int (Cc i))) (AaT : oA Z h aT .int n (fun i => .int (Tn i))) (nd : List.Nodup [a, aN, aJ, aR, aC, aT]) (gs : ∀ x ∈ [a, aN, aJ, aR, aC, aT], ω.2.1 ≤ x) (htc : 0 ≤ tc.toInt) (h0 : 0 ≤ (st - fr).toInt) (h1 : (st - fr).toInt < n) (hN : N (st - fr).toInt.toNat ≠ -1) (hR : Nr (st - fr).toInt.toNat = 0) (hC : Cc (st - fr).toInt.toNat = tc) (hT : Tn (st - fr).toInt.toNat = tn) (hst : 0 ≤ st.toInt ∧ st.toInt < 2147483000) (hJ : J (st - fr).toInt.toNat = nx) (hNs : N (st - fr).toInt.toNat = nx) (x0 : 0 ≤ (nx - fr).toInt) (x1 : (nx - fr).toInt < n) (hNx : N (nx - fr).toInt.toNat = -1) (hto : nx.toInt < to.toInt) (hlt : st.toInt < nx.toInt) :
    oC Z ω (⟨"com/example/tollbook/tollbook/ber/TlvChains", "along", "(IIII)I"⟩ : MethodName) k8 [] #[.ref a, .int st, .int to, .int tc, .int tn] h (fun v h' => v = some (.int st) ∧ Keep h h' [a, aR] ∧ TC Z h' a (.int fr) v_limit (.ref aN) (.ref aJ) v_depths (.ref aC) (.ref aT) (.ref aR) v_failures v_learnt v_learntCount (.int tc) (.int tn) v_path ∧ ∃ Nr' : Nat → Int32, oA Z h' aR .int n (fun i => .int (Nr' i))) := by
  refine oC_of hw_ hn_ pn8 rfl rfl (L := #[.val (.ref a), .val (.int st), .val (.int to), .val (.int tc), .val (.int tn), .unset, .unset]) (fun m => by first | (simp [entryFrame, mkF, argsToLocals, Value.category, k8]; done) | rfl) ?_
  intro γ T X
  refine ow_iloadN X 1 d8_0 rfl rfl ?_
  refine ow_istore X 3 (L' := #[.val (.ref a), .val (.int st), .val (.int to), .val (.int tc), .val (.int tn), .val (.int st), .unset]) d8_1 rfl rfl ?_
  refine ow_aloadN X 4 d8_3 rfl rfl rfl ?_
  refine ow_getF X 7 13 rfl rfl F0.2.2.2.1 d8_4 rfl ?_
  intro T_221 X_221
  refine ow_iload X_221 9 d8_7 rfl rfl ?_
  refine ow_aloadN X_221 10 d8_9 rfl rfl rfl ?_
  refine ow_getF X_221 13 48 rfl rfl F0.2.1 d8_10 rfl ?_
  intro T_222 X_222
  refine ow_isub X_222 14 d8_13 rfl ?_
  refine ow_iaload X_222 15 AaN d8_14 rfl (by first | exact h0 | (rw [hJ]; exact x0)) (by first | exact h1 | (rw [hJ]; exact x1)) rfl ?_
  refine ow_iconst X_222 16 (-1 : Int32) d8_15 rfl rfl ?_
  refine ow_icmp_eq X_222 19 77 d8_16 rfl rfl (fun (c16 : (N (st - fr).toInt.toNat).toInt = (-1)) => absurd (Int32.toInt_inj.mp c16) hN) (fun (c16 : (N (st - fr).toInt.toNat).toInt ≠ (-1)) => ?_)
  refine ow_aloadN X_222 20 d8_19 rfl rfl rfl ?_
  refine ow_getF X_222 23 13 rfl rfl F0.2.2.2.1 d8_20 rfl ?_
  intro T_223 X_223
  refine ow_iload X_223 25 d8_23 rfl rfl ?_
  refine ow_aloadN X_223 26 d8_25 rfl rfl rfl ?_
  refine ow_getF X_223 29 48 rfl rfl F0.2.1 d8_26 rfl ?_
  intro T_224 X_224
  refine ow_isub X_224 30 d8_29 rfl ?_
  refine ow_iaload X_224 31 AaN d8_30 rfl h0 h1 rfl ?_
  refine ow_iloadN X_224 32 d8_31 rfl rfl ?_
  refine ow_icmp_ge X_224 35 77 d8_32 rfl rfl (fun (c32 : to.toInt ≤ (N (st - fr).toInt.toNat).toInt) => by exfalso; rw [hNs] at c32; omega) (fun (c32 : (N (st - fr).toInt.toNat).toInt < to.toInt) => ?_)
  refine ow_aloadN X_224 36 d8_35 rfl rfl rfl ?_
  refine ow_getF X_224 39 15 rfl rfl F0.2.2.2.2.1 d8_36 rfl ?_
  intro T_225 X_225
  refine ow_iload X_225 41 d8_39 rfl rfl ?_
  refine ow_aloadN X_225 42 d8_41 rfl rfl rfl ?_
  refine ow_getF X_225 45 48 rfl rfl F0.2.1 d8_42 rfl ?_
  intro T_226 X_226
  refine ow_isub X_226 46 d8_45 rfl ?_
  refine ow_iaload X_226 47 AaJ d8_46 rfl h0 h1 rfl ?_
  refine ow_istore X_226 49 (L' := #[.val (.ref a), .val (.int st), .val (.int to), .val (.int tc), .val (.int tn), .val (.int st), .val (.int (J (st - fr).toInt.toNat))]) d8_47 rfl rfl ?_
  refine ow_iload X_226 51 d8_49 rfl rfl ?_
  refine ow_iloadN X_226 52 d8_51 rfl rfl ?_
  refine ow_icmp_ge X_226 55 60 d8_52 rfl rfl (fun (c52 : to.toInt ≤ (J (st - fr).toInt.toNat).toInt) => by exfalso; rw [hJ] at c52; omega) (fun (c52 : (J (st - fr).toInt.toNat).toInt < to.toInt) => ?_)
  refine ow_iload X_226 57 d8_55 rfl rfl ?_
  refine ow_goto X_226 72 d8_57 rfl ?_
  refine ow_istore X_226 74 (L' := #[.val (.ref a), .val (.int st), .val (.int to), .val (.int tc), .val (.int tn), .val (.int (J (st - fr).toInt.toNat)), .val (.int (J (st - fr).toInt.toNat))]) d8_72 rfl rfl ?_
  refine ow_goto X_226 3 d8_74 rfl ?_
  refine ow_aloadN X_226 4 d8_3 rfl rfl rfl ?_
  refine ow_getF X_226 7 13 rfl rfl F0.2.2.2.1 d8_4 rfl ?_
  intro T_227 X_227
  refine ow_iload X_227 9 d8_7 rfl rfl ?_
  refine ow_aloadN X_227 10 d8_9 rfl rfl rfl ?_
  refine ow_getF X_227 13 48 rfl rfl F0.2.1 d8_10 rfl ?_
  intro T_228 X_228
  refine ow_isub X_228 14 d8_13 rfl ?_
  refine ow_iaload X_228 15 AaN d8_14 rfl (by first | exact h0 | (rw [hJ]; exact x0)) (by first | exact h1 | (rw [hJ]; exact x1)) rfl ?_
  refine ow_iconst X_228 16 (-1 : Int32) d8_15 rfl rfl ?_
  refine ow_icmp_eq X_228 19 77 d8_16 rfl rfl (fun (c16 : (N ((J (st - fr).toInt.toNat) - fr).toInt.toNat).toInt = (-1)) => ?_) (fun (c16 : (N ((J (st - fr).toInt.toNat) - fr).toInt.toNat).toInt ≠ (-1)) => absurd (by rw [hJ, hNx]; rfl) c16)
  refine ow_iloadN X_228 78 d8_77 rfl rfl ?_
  refine ow_if_ge X_228 81 85 d8_78 rfl rfl (fun (c78 : 0 ≤ tc.toInt) => ?_) (fun (c78 : tc.toInt < 0) => by exfalso; omega)
  refine ow_aloadN X_228 86 d8_85 rfl rfl rfl ?_
  refine ow_iloadN X_228 87 d8_86 rfl rfl ?_
  refine ow_iloadN X_228 88 d8_87 rfl rfl ?_
  refine ow_iload X_228 90 d8_88 rfl rfl ?_
  refine ow_callP X_228 93 68 69 70 3 71 2 (κ' := k9) (as := [.int st, .int tc, .int tn]) (S := []) (W := 0) rfl rfl rfl rfl rfl rfl rfl (by decide) F0.1 (C_near2 (oSt_w X_228) (oSt_n0 X_228) a aN aR aC aT st tc tn fr n N Nr Cc Tn _ _ _ _ _ _ _ F0 AaN AaR AaC AaT (List.nodup_cons.mpr ⟨(ninS (oNd nd 0 1 (by decide) rfl rfl) (ninS (oNd nd 0 3 (by decide) rfl rfl) (ninS (oNd nd 0 4 (by decide) rfl rfl) (ninS (oNd nd 0 5 (by decide) rfl rfl) nin0)))), (List.nodup_cons.mpr ⟨(ninS (oNd nd 1 3 (by decide) rfl rfl) (ninS (oNd nd 1 4 (by decide) rfl rfl) (ninS (oNd nd 1 5 (by decide) rfl rfl) nin0))), (List.nodup_cons.mpr ⟨(ninS (oNd nd 3 4 (by decide) rfl rfl) (ninS (oNd nd 3 5 (by decide) rfl rfl) nin0)), (List.nodup_cons.mpr ⟨(ninS (oNd nd 4 5 (by decide) rfl rfl) nin0), (List.nodup_cons.mpr ⟨nin0, List.nodup_nil⟩)⟩)⟩)⟩)⟩) (allS (gs _ (List.mem_of_getElem? (i := 0) rfl)) (allS (gs _ (List.mem_of_getElem? (i := 1) rfl)) (allS (gs _ (List.mem_of_getElem? (i := 3) rfl)) (allS (gs _ (List.mem_of_getElem? (i := 4) rfl)) (allS (gs _ (List.mem_of_getElem? (i := 5) rfl)) all0)))))  h0 h1 hN hR hC hT hst) (by decide) (by decide) (Nat.le_of_eq rfl) (by decide) (by decide) pd9 rfl rfl rfl d8_90 rfl ?_
  intro v_229 T_229 h_229 X_229 q_229
  obtain ⟨rfl, K229, R229, Nr229, AR229⟩ := q_229
  have f230_1 : oA Z h_229 aN .int n (fun i => .int (N i)) := AaN.keep K229 (ninS (oNd nd 1 0 (by decide) rfl rfl) (ninS (oNd nd 1 3 (by decide) rfl rfl) nin0))
  have f230_2 : oA Z h_229 aJ .int n (fun i => .int (J i)) := AaJ.keep K229 (ninS (oNd nd 2 0 (by decide) rfl rfl) (ninS (oNd nd 2 3 (by decide) rfl rfl) nin0))
  have f230_4 : oA Z h_229 aC .byte n (fun i => .int (Cc i)) := AaC.keep K229 (ninS (oNd nd 4 0 (by decide) rfl rfl) (ninS (oNd nd 4 3 (by decide) rfl rfl) nin0))
  have f230_5 : oA Z h_229 aT .int n (fun i => .int (Tn i)) := AaT.keep K229 (ninS (oNd nd 5 0 (by decide) rfl rfl) (ninS (oNd nd 5 3 (by decide) rfl rfl) nin0))
  have f230_6 : Keep h h_229 [a, aR] := (Keep.refl h [a, aR]).trans K229 (allS (Or.inl (List.mem_of_getElem? (i := 0) rfl)) (allS (Or.inl (List.mem_of_getElem? (i := 1) rfl)) all0))
  show oWP ω γ k8 _ T_229 93 #[.val (.ref a), .val (.int st), .val (.int to), .val (.int tc), .val (.int tn), .val (.int (J (st - fr).toInt.toNat)), .val (.int (J (st - fr).toInt.toNat))] [.int st]
  refine ow_istore X_229 95 (L' := #[.val (.ref a), .val (.int st), .val (.int to), .val (.int tc), .val (.int tn), .val (.int (J (st - fr).toInt.toNat)), .val (.int st)]) d8_93 rfl rfl ?_
  refine ow_iload X_229 97 d8_95 rfl rfl ?_
  refine ow_iconst X_229 98 (-1 : Int32) d8_97 rfl rfl ?_
  refine ow_icmp_eq X_229 101 113 d8_98 rfl rfl (fun (c98 : st.toInt = (-1)) => by exfalso; omega) (fun (c98 : st.toInt ≠ (-1)) => ?_)
  refine ow_iload X_229 103 d8_101 rfl rfl ?_
  refine ow_iload X_229 105 d8_103 rfl rfl ?_
  refine ow_icmp_ge X_229 108 113 d8_105 rfl rfl (fun (c105 : (J (st - fr).toInt.toNat).toInt ≤ st.toInt) => by exfalso; rw [hJ] at c105; omega) (fun (c105 : st.toInt < (J (st - fr).toInt.toNat).toInt) => ?_)
  refine ow_iload X_229 110 d8_108 rfl rfl ?_
  refine ow_goto X_229 115 d8_110 rfl ?_
  refine ow_retI X_229 rfl d8_115 (by decide) (by decide) ?_
  exact ⟨rfl, f230_6, R229, _, AR229⟩
def k0 : OM := (code, maxLocals, "com/example/tollbook/tollbook/ber/TlvChainsForgetPinLaw", "law", ret, room_1)
theorem pn0 : plainFor Jvm.Pilot.@@N@@.x = true := plainFor_of_name (by first | (simp [plainName, overriddenIn]; done) | decide +kernel)
theorem pd0 : parseMethodDescriptor "(IIII)Z" = some ⟨[.int, .int, .int, .int], (some .boolean)⟩ := by decide +kernel
theorem own_lim (fr b : Int32) (h0 : 0 ≤ fr.toInt) (h1 : fr.toInt ≤ 1073741823) : 3 ≤ (fr + (2 : Int32) + (b &&& (3 : Int32)) - fr + (1 : Int32)).toInt ∧ (fr + (2 : Int32) + (b &&& (3 : Int32)) - fr + (1 : Int32)).toInt ≤ 6 := by
  have g := c_and b 3 (by decide); have k : (3 : Int32).toInt = 3 := rfl
  have e := own_addk fr 2 2 rfl (by decide) (by omega)
  have e1 := own_add (fr + 2) (b &&& 3) (by omega) (by omega)
  have e2 := own_sub (fr + 2 + (b &&& 3)) fr (by omega) (by omega)
  rw [own_addk _ 1 1 rfl (by decide) (by omega)]; omega
theorem own_i0 (fr : Int32) : (fr - fr).toInt = 0 := by rw [Int32.sub_self]; rfl
theorem own_i1 (fr : Int32) (h : fr.toInt ≤ 1073741823) : (fr + (1 : Int32) - fr).toInt = 1 := by
  have r := rng32 fr
  have e := own_addk fr 1 1 rfl (by decide) (by omega)
  rw [own_sub _ _ (by omega) (by omega)]; omega
theorem own_b7 (c : Int32) : 0 ≤ (c &&& (127 : Int32)).toInt ∧ (c &&& (127 : Int32)).toInt ≤ 127 := c_and c 127 (by decide)
theorem own_byte (x : Int32) (h0 : 0 ≤ x.toInt) (h1 : x.toInt ≤ 127) : x.toInt8.toInt32.toInt8.toInt32 = x := by
  have e : ∀ y : Int32, 0 ≤ y.toInt → y.toInt ≤ 127 → y.toInt8.toInt32 = y := fun y a b => Int32.toInt_inj.mp (by have := c_i2b y; omega)
  rw [e x h0 h1, e x h0 h1]
set_option maxRecDepth 65536 in
set_option maxHeartbeats 4000000 in
theorem B73 {Z : State} {ω : OW} {γ : OG} {T : State} {h : Heap} (X : oSt Z ω γ k0 T h 17 88) (a_ b_ c_ d_ fr lim tc tn sz : Int32) (a aN aJ aD aC aT aR aF aL : Addr) (N J D Cc Tn Nr G : Nat → Int32) (Fv : Nat → Value) (v_path : Value) (F0 : TC Z h a (.int fr) (.int (-1 : Int32)) (.ref aN) (.ref aJ) (.ref aD) (.ref aC) (.ref aT) (.ref aR) (.ref aF) (.ref aL) (.int (0 : Int32)) (.int tc) (.int tn) v_path) (AaN : oA Z h aN .int sz.toInt.toNat (fun i => .int (N i))) (AaJ : oA Z h aJ .int sz.toInt.toNat (fun i => .int (J i))) (AaD : oA Z h aD .int sz.toInt.toNat (fun i => .int (D i))) (AaC : oA Z h aC .byte sz.toInt.toNat (fun i => .int (Cc i))) (AaT : oA Z h aT .int sz.toInt.toNat (fun i => .int (Tn i))) (AaR : oA Z h aR .int sz.toInt.toNat (fun i => .int (Nr i))) (AaF : oA Z h aF (.object "com/example/tollbook/tollbook/ber/BerException") sz.toInt.toNat Fv) (AaL : oA Z h aL .int 16 (fun i => .int (G i))) (nd : List.Nodup [a, aN, aJ, aD, aC, aT, aR, aF, aL]) (gs : ∀ x ∈ [a, aN, aJ, aD, aC, aT, aR, aF, aL], ω.2.1 ≤ x) (hf : 0 ≤ fr.toInt ∧ fr.toInt ≤ 1073741823) (htc : 0 ≤ tc.toInt ∧ tc.toInt ≤ 127) (hz : lim - fr + (1 : Int32) = sz) (hs : 3 ≤ sz.toInt ∧ sz.toInt ≤ 6) (hN0 : N 0 = 0) (hR0 : Nr 0 = 0) :
    oWP ω γ k0 (fun v _ => v = some (.int 1)) T 73 #[.val (.int a_), .val (.int b_), .val (.int c_), .val (.int d_), .val (.int fr), .val (.int lim), .val (.int tc), .val (.int tn), .val (.ref a), .val (.int fr), .unset, .unset] [] := by
  have i0 := own_i0 fr; have i1 := own_i1 fr hf.2
  have i0n : (fr - fr).toInt.toNat = 0 := by omega
  have e1 := own_addk fr 1 1 rfl (by decide) (by omega); have e2 := own_addk fr 2 2 rfl (by decide) (by omega)
  have hn1 : fr + (1 : Int32) ≠ -1 := by intro q; rw [q] at e1; have k : (-1 : Int32).toInt = -1 := rfl; omega
  refine ow_aload X 75 at_73 rfl rfl rfl ?_
  refine ow_callV X 78 75 76 78 77 79 3 (κ' := k10) (as := []) (S := []) (W := 0) rfl rfl rfl rfl rfl rfl rfl (by decide) F0.1 (C_limit (oSt_w X) (oSt_n0 X) a (-1 : Int32) _ _ _ _ _ _ _ _ _ _ _ _ _ F0) (by decide) (by decide) (Nat.le_of_eq rfl) (by decide) (by decide) pd10 rfl rfl rfl at_75 rfl ?_
  intro v_231 T_231 h_231 X_231 q_231
  obtain ⟨rfl, rfl⟩ := q_231
  show oWP ω γ k0 _ T_231 78 #[.val (.int a_), .val (.int b_), .val (.int c_), .val (.int d_), .val (.int fr), .val (.int lim), .val (.int tc), .val (.int tn), .val (.ref a), .val (.int fr), .unset, .unset] [.int (-1 : Int32)]
  refine ow_iconst X_231 79 (-1 : Int32) at_78 rfl rfl ?_
  refine ow_icmp_ne X_231 82 96 at_79 rfl rfl (fun (c79 : (-1) ≠ (-1)) => absurd rfl c79) (fun (c79 : (-1) = (-1)) => ?_)
  refine ow_aload X_231 84 at_82 rfl rfl rfl ?_
  refine ow_iload X_231 86 at_84 rfl rfl ?_
  refine ow_callV X_231 89 80 81 83 82 84 3 (κ' := k11) (as := [.int fr]) (S := []) (W := 0) rfl rfl rfl rfl rfl rfl rfl (by decide) F0.1 (C_known (oSt_w X_231) (oSt_n0 X_231) a aN fr fr _ N _ _ _ _ _ _ _ _ _ _ _ _ F0 AaN (by omega) (by omega) (by rw [i0n]; exact hN0)) (by decide) (by decide) (Nat.le_of_eq rfl) (by decide) (by decide) pd11 rfl rfl rfl at_86 rfl ?_
  intro v_232 T_232 h_232 X_232 q_232
  obtain ⟨rfl, rfl⟩ := q_232
  show oWP ω γ k0 _ T_232 89 #[.val (.int a_), .val (.int b_), .val (.int c_), .val (.int d_), .val (.int fr), .val (.int lim), .val (.int tc), .val (.int tn), .val (.ref a), .val (.int fr), .unset, .unset] [.int (0 : Int32)]
  refine ow_if_ne X_232 92 96 at_89 rfl rfl (fun (c89 : 0 ≠ 0) => absurd c89 (by decide)) (fun (c89 : 0 = 0) => ?_)
  refine ow_iconst X_232 93 (1 : Int32) at_92 rfl rfl ?_
  refine ow_goto X_232 97 at_93 rfl ?_
  refine ow_istore X_232 99 (L' := #[.val (.int a_), .val (.int b_), .val (.int c_), .val (.int d_), .val (.int fr), .val (.int lim), .val (.int tc), .val (.int tn), .val (.ref a), .val (.int fr), .val (.int (1 : Int32)), .unset]) at_97 rfl rfl ?_
  refine ow_aload X_232 101 at_99 rfl rfl rfl ?_
  refine ow_iload X_232 103 at_101 rfl rfl ?_
  refine ow_iload X_232 105 at_103 rfl rfl ?_
  refine ow_callV X_232 108 36 37 39 38 40 3 (κ' := k3b) (as := [.int fr, .int lim]) (S := []) (W := 0) rfl rfl rfl rfl rfl rfl rfl (by decide) F0.1 (C_reset2 (oSt_w X_232) (oSt_n0 X_232) a aN fr lim sz N _ _ _ _ _ _ _ _ _ _ _ _ F0 AaN (gs _ (List.mem_of_getElem? (i := 0) rfl)) (oNd nd 0 1 (by decide) rfl rfl) hz (by omega)) (by decide) (by decide) (Nat.le_of_eq rfl) (by decide) (by decide) pd3 rfl rfl rfl at_105 rfl ?_
  intro v_233 T_233 h_233 X_233 q_233
  obtain ⟨rfl, K233, R233⟩ := q_233
  have f234_1 : oA Z h_233 aN .int sz.toInt.toNat (fun i => .int (N i)) := AaN.keep K233 (ninS (oNd nd 1 0 (by decide) rfl rfl) nin0)
  have f234_2 : oA Z h_233 aJ .int sz.toInt.toNat (fun i => .int (J i)) := AaJ.keep K233 (ninS (oNd nd 2 0 (by decide) rfl rfl) nin0)
  have f234_3 : oA Z h_233 aD .int sz.toInt.toNat (fun i => .int (D i)) := AaD.keep K233 (ninS (oNd nd 3 0 (by decide) rfl rfl) nin0)
  have f234_4 : oA Z h_233 aC .byte sz.toInt.toNat (fun i => .int (Cc i)) := AaC.keep K233 (ninS (oNd nd 4 0 (by decide) rfl rfl) nin0)
  have f234_5 : oA Z h_233 aT .int sz.toInt.toNat (fun i => .int (Tn i)) := AaT.keep K233 (ninS (oNd nd 5 0 (by decide) rfl rfl) nin0)
  have f234_6 : oA Z h_233 aR .int sz.toInt.toNat (fun i => .int (Nr i)) := AaR.keep K233 (ninS (oNd nd 6 0 (by decide) rfl rfl) nin0)
  have f234_7 : oA Z h_233 aF (.object "com/example/tollbook/tollbook/ber/BerException") sz.toInt.toNat Fv := AaF.keep K233 (ninS (oNd nd 7 0 (by decide) rfl rfl) nin0)
  have f234_8 : oA Z h_233 aL .int 16 (fun i => .int (G i)) := AaL.keep K233 (ninS (oNd nd 8 0 (by decide) rfl rfl) nin0)
  show oWP ω γ k0 _ T_233 108 #[.val (.int a_), .val (.int b_), .val (.int c_), .val (.int d_), .val (.int fr), .val (.int lim), .val (.int tc), .val (.int tn), .val (.ref a), .val (.int fr), .val (.int (1 : Int32)), .unset] []
  refine ow_aload X_233 110 at_108 rfl rfl rfl ?_
  refine ow_iload X_233 112 at_110 rfl rfl ?_
  refine ow_iconst X_233 113 (1 : Int32) at_112 rfl rfl ?_
  refine ow_iadd X_233 114 at_113 rfl ?_
  refine ow_anull X_233 115 at_114 rfl ?_
  refine ow_callV X_233 118 54 55 57 56 58 3 (κ' := k6) (as := [.int (fr + (1 : Int32)), .null]) (S := []) (W := 0) rfl rfl rfl rfl rfl rfl rfl (by decide) R233.1 (C_stops (oSt_w X_233) (oSt_n0 X_233) a aL aN aJ aD aF (fr + (1 : Int32)) fr (0 : Int32) sz.toInt.toNat N J D G Fv _ _ _ _ _ _ _ R233 f234_1 f234_2 f234_3 f234_7 f234_8 (List.nodup_cons.mpr ⟨(ninS (oNd nd 0 8 (by decide) rfl rfl) (ninS (oNd nd 0 1 (by decide) rfl rfl) (ninS (oNd nd 0 2 (by decide) rfl rfl) (ninS (oNd nd 0 3 (by decide) rfl rfl) (ninS (oNd nd 0 7 (by decide) rfl rfl) nin0))))), (List.nodup_cons.mpr ⟨(ninS (oNd nd 8 1 (by decide) rfl rfl) (ninS (oNd nd 8 2 (by decide) rfl rfl) (ninS (oNd nd 8 3 (by decide) rfl rfl) (ninS (oNd nd 8 7 (by decide) rfl rfl) nin0)))), (List.nodup_cons.mpr ⟨(ninS (oNd nd 1 2 (by decide) rfl rfl) (ninS (oNd nd 1 3 (by decide) rfl rfl) (ninS (oNd nd 1 7 (by decide) rfl rfl) nin0))), (List.nodup_cons.mpr ⟨(ninS (oNd nd 2 3 (by decide) rfl rfl) (ninS (oNd nd 2 7 (by decide) rfl rfl) nin0)), (List.nodup_cons.mpr ⟨(ninS (oNd nd 3 7 (by decide) rfl rfl) nin0), (List.nodup_cons.mpr ⟨nin0, List.nodup_nil⟩)⟩)⟩)⟩)⟩)⟩) (allS (gs _ (List.mem_of_getElem? (i := 0) rfl)) (allS (gs _ (List.mem_of_getElem? (i := 8) rfl)) (allS (gs _ (List.mem_of_getElem? (i := 1) rfl)) (allS (gs _ (List.mem_of_getElem? (i := 2) rfl)) (allS (gs _ (List.mem_of_getElem? (i := 3) rfl)) (allS (gs _ (List.mem_of_getElem? (i := 7) rfl)) all0)))))) (by decide) (by decide) (by omega) (by omega) ) (by decide) (by decide) (Nat.le_of_eq rfl) (by decide) (by decide) pd6 rfl rfl rfl at_115 rfl ?_
  intro v_235 T_235 h_235 X_235 q_235
  obtain ⟨rfl, K235, R235, AN235, AJ235, AD235, ⟨Fv235, AF235⟩, AL235⟩ := q_235
  have f236_3 : oA Z h_235 aC .byte sz.toInt.toNat (fun i => .int (Cc i)) := f234_4.keep K235 (ninS (oNd nd 4 0 (by decide) rfl rfl) (ninS (oNd nd 4 8 (by decide) rfl rfl) (ninS (oNd nd 4 1 (by decide) rfl rfl) (ninS (oNd nd 4 2 (by decide) rfl rfl) (ninS (oNd nd 4 3 (by decide) rfl rfl) (ninS (oNd nd 4 7 (by decide) rfl rfl) nin0))))))
  have f236_4 : oA Z h_235 aT .int sz.toInt.toNat (fun i => .int (Tn i)) := f234_5.keep K235 (ninS (oNd nd 5 0 (by decide) rfl rfl) (ninS (oNd nd 5 8 (by decide) rfl rfl) (ninS (oNd nd 5 1 (by decide) rfl rfl) (ninS (oNd nd 5 2 (by decide) rfl rfl) (ninS (oNd nd 5 3 (by decide) rfl rfl) (ninS (oNd nd 5 7 (by decide) rfl rfl) nin0))))))
  have f236_5 : oA Z h_235 aR .int sz.toInt.toNat (fun i => .int (Nr i)) := f234_6.keep K235 (ninS (oNd nd 6 0 (by decide) rfl rfl) (ninS (oNd nd 6 8 (by decide) rfl rfl) (ninS (oNd nd 6 1 (by decide) rfl rfl) (ninS (oNd nd 6 2 (by decide) rfl rfl) (ninS (oNd nd 6 3 (by decide) rfl rfl) (ninS (oNd nd 6 7 (by decide) rfl rfl) nin0))))))
  show oWP ω γ k0 _ T_235 118 #[.val (.int a_), .val (.int b_), .val (.int c_), .val (.int d_), .val (.int fr), .val (.int lim), .val (.int tc), .val (.int tn), .val (.ref a), .val (.int fr), .val (.int (1 : Int32)), .unset] []
  refine ow_aload X_235 120 at_118 rfl rfl rfl ?_
  refine ow_iload X_235 122 at_120 rfl rfl ?_
  refine ow_iload X_235 124 at_122 rfl rfl ?_
  refine ow_iconst X_235 125 (1 : Int32) at_124 rfl rfl ?_
  refine ow_iadd X_235 126 at_125 rfl ?_
  refine ow_iload X_235 128 at_126 rfl rfl ?_
  refine ow_iload X_235 130 at_128 rfl rfl ?_
  have j1 : oUpd J (fr + (1 : Int32) - fr).toInt.toNat (fr + (1 : Int32)) (fr + (1 : Int32) - fr).toInt.toNat = fr + (1 : Int32) := oUpd_hit _ _ _
  refine ow_callV X_235 133 85 86 88 87 89 3 (κ' := k12) (as := [.int fr, .int (fr + (1 : Int32)), .int tc, .int tn]) (S := []) (W := 0) rfl rfl rfl rfl rfl rfl rfl (by decide) R235.1 (C_link (oSt_w X_235) (oSt_n0 X_235) a aL aN aJ aD aC aT fr (fr + (1 : Int32)) tc tn fr ((0 : Int32) + (1 : Int32)) sz.toInt.toNat (oUpd N ((fr + (1 : Int32)) - fr).toInt.toNat (-1 : Int32)) (oUpd J ((fr + (1 : Int32)) - fr).toInt.toNat (fr + (1 : Int32))) (oUpd D ((fr + (1 : Int32)) - fr).toInt.toNat (0 : Int32)) Cc Tn (oUpd G (0 : Int32).toInt.toNat (fr + (1 : Int32))) _ _ _ _ _ _ R235 AN235 AJ235 AD235 f236_3 f236_4 AL235 (List.nodup_cons.mpr ⟨(ninS (oNd nd 0 8 (by decide) rfl rfl) (ninS (oNd nd 0 1 (by decide) rfl rfl) (ninS (oNd nd 0 2 (by decide) rfl rfl) (ninS (oNd nd 0 3 (by decide) rfl rfl) (ninS (oNd nd 0 4 (by decide) rfl rfl) (ninS (oNd nd 0 5 (by decide) rfl rfl) nin0)))))), (List.nodup_cons.mpr ⟨(ninS (oNd nd 8 1 (by decide) rfl rfl) (ninS (oNd nd 8 2 (by decide) rfl rfl) (ninS (oNd nd 8 3 (by decide) rfl rfl) (ninS (oNd nd 8 4 (by decide) rfl rfl) (ninS (oNd nd 8 5 (by decide) rfl rfl) nin0))))), (List.nodup_cons.mpr ⟨(ninS (oNd nd 1 2 (by decide) rfl rfl) (ninS (oNd nd 1 3 (by decide) rfl rfl) (ninS (oNd nd 1 4 (by decide) rfl rfl) (ninS (oNd nd 1 5 (by decide) rfl rfl) nin0)))), (List.nodup_cons.mpr ⟨(ninS (oNd nd 2 3 (by decide) rfl rfl) (ninS (oNd nd 2 4 (by decide) rfl rfl) (ninS (oNd nd 2 5 (by decide) rfl rfl) nin0))), (List.nodup_cons.mpr ⟨(ninS (oNd nd 3 4 (by decide) rfl rfl) (ninS (oNd nd 3 5 (by decide) rfl rfl) nin0)), (List.nodup_cons.mpr ⟨(ninS (oNd nd 4 5 (by decide) rfl rfl) nin0), (List.nodup_cons.mpr ⟨nin0, List.nodup_nil⟩)⟩)⟩)⟩)⟩)⟩)⟩) (allS (gs _ (List.mem_of_getElem? (i := 0) rfl)) (allS (gs _ (List.mem_of_getElem? (i := 8) rfl)) (allS (gs _ (List.mem_of_getElem? (i := 1) rfl)) (allS (gs _ (List.mem_of_getElem? (i := 2) rfl)) (allS (gs _ (List.mem_of_getElem? (i := 3) rfl)) (allS (gs _ (List.mem_of_getElem? (i := 4) rfl)) (allS (gs _ (List.mem_of_getElem? (i := 5) rfl)) all0))))))) (by decide) (by decide) (by omega) (by omega) (by omega) (by omega) (by rw [j1]; omega) (by rw [j1]; omega) (by rw [j1, j1]; omega) (by rw [j1, j1]; omega)) (by decide) (by decide) (Nat.le_of_eq rfl) (by decide) (by decide) pd12 rfl rfl rfl at_130 rfl ?_
  intro v_237 T_237 h_237 X_237 q_237
  obtain ⟨rfl, K237, R237, AN237, ⟨jv237, AJ237, hjv237⟩, ⟨D237, AD237⟩, AC237, AT237, AL237⟩ := q_237
  have f238_2 : oA Z h_237 aR .int sz.toInt.toNat (fun i => .int (Nr i)) := f236_5.keep K237 (ninS (oNd nd 6 0 (by decide) rfl rfl) (ninS (oNd nd 6 8 (by decide) rfl rfl) (ninS (oNd nd 6 1 (by decide) rfl rfl) (ninS (oNd nd 6 2 (by decide) rfl rfl) (ninS (oNd nd 6 3 (by decide) rfl rfl) (ninS (oNd nd 6 4 (by decide) rfl rfl) (ninS (oNd nd 6 5 (by decide) rfl rfl) nin0)))))))
  have f238_7 : oA Z h_237 aF (.object "com/example/tollbook/tollbook/ber/BerException") sz.toInt.toNat Fv235 := AF235.keep K237 (ninS (oNd nd 7 0 (by decide) rfl rfl) (ninS (oNd nd 7 8 (by decide) rfl rfl) (ninS (oNd nd 7 1 (by decide) rfl rfl) (ninS (oNd nd 7 2 (by decide) rfl rfl) (ninS (oNd nd 7 3 (by decide) rfl rfl) (ninS (oNd nd 7 4 (by decide) rfl rfl) (ninS (oNd nd 7 5 (by decide) rfl rfl) nin0)))))))
  show oWP ω γ k0 _ T_237 133 #[.val (.int a_), .val (.int b_), .val (.int c_), .val (.int d_), .val (.int fr), .val (.int lim), .val (.int tc), .val (.int tn), .val (.ref a), .val (.int fr), .val (.int (1 : Int32)), .unset] []
  refine ow_aload X_237 135 at_133 rfl rfl rfl ?_
  refine ow_iload X_237 137 at_135 rfl rfl ?_
  refine ow_iload X_237 139 at_137 rfl rfl ?_
  refine ow_iconst X_237 140 (2 : Int32) at_139 rfl rfl ?_
  refine ow_iadd X_237 141 at_140 rfl ?_
  refine ow_iload X_237 143 at_141 rfl rfl ?_
  refine ow_iload X_237 145 at_143 rfl rfl ?_
  have hjv : jv237 = fr + (1 : Int32) := by
    rcases hjv237 with e | e
    · exact e
    · rw [e, j1, j1]
  have hne : (fr - fr).toInt.toNat ≠ (fr + (1 : Int32) - fr).toInt.toNat := by omega
  refine ow_callV X_237 148 63 64 66 65 67 3 (κ' := k8) (as := [.int fr, .int (fr + (2 : Int32)), .int tc, .int tn]) (S := []) (W := 0) rfl rfl rfl rfl rfl rfl rfl (by decide) R237.1 (C_along2 (oSt_w X_237) (oSt_n0 X_237) a aN aJ aR aC aT fr (fr + (2 : Int32)) (fr + (1 : Int32)) tc tn fr _ (oUpd (oUpd N ((fr + (1 : Int32)) - fr).toInt.toNat (-1 : Int32)) (fr - fr).toInt.toNat (fr + (1 : Int32))) (oUpd (oUpd J ((fr + (1 : Int32)) - fr).toInt.toNat (fr + (1 : Int32))) (fr - fr).toInt.toNat jv237) Nr (oUpd Cc (fr - fr).toInt.toNat (tc.toInt8.toInt32.toInt8.toInt32)) (oUpd Tn (fr - fr).toInt.toNat tn) _ _ _ _ _ _ R237 AN237 AJ237 f238_2 AC237 AT237 (List.nodup_cons.mpr ⟨(ninS (oNd nd 0 1 (by decide) rfl rfl) (ninS (oNd nd 0 2 (by decide) rfl rfl) (ninS (oNd nd 0 6 (by decide) rfl rfl) (ninS (oNd nd 0 4 (by decide) rfl rfl) (ninS (oNd nd 0 5 (by decide) rfl rfl) nin0))))), (List.nodup_cons.mpr ⟨(ninS (oNd nd 1 2 (by decide) rfl rfl) (ninS (oNd nd 1 6 (by decide) rfl rfl) (ninS (oNd nd 1 4 (by decide) rfl rfl) (ninS (oNd nd 1 5 (by decide) rfl rfl) nin0)))), (List.nodup_cons.mpr ⟨(ninS (oNd nd 2 6 (by decide) rfl rfl) (ninS (oNd nd 2 4 (by decide) rfl rfl) (ninS (oNd nd 2 5 (by decide) rfl rfl) nin0))), (List.nodup_cons.mpr ⟨(ninS (oNd nd 6 4 (by decide) rfl rfl) (ninS (oNd nd 6 5 (by decide) rfl rfl) nin0)), (List.nodup_cons.mpr ⟨(ninS (oNd nd 4 5 (by decide) rfl rfl) nin0), (List.nodup_cons.mpr ⟨nin0, List.nodup_nil⟩)⟩)⟩)⟩)⟩)⟩) (allS (gs _ (List.mem_of_getElem? (i := 0) rfl)) (allS (gs _ (List.mem_of_getElem? (i := 1) rfl)) (allS (gs _ (List.mem_of_getElem? (i := 2) rfl)) (allS (gs _ (List.mem_of_getElem? (i := 6) rfl)) (allS (gs _ (List.mem_of_getElem? (i := 4) rfl)) (allS (gs _ (List.mem_of_getElem? (i := 5) rfl)) all0)))))) htc.1 (by omega) (by omega) (by rw [oUpd_hit]; exact hn1) (by rw [i0n]; exact hR0) (by rw [oUpd_hit]; exact own_byte tc htc.1 htc.2) (oUpd_hit _ _ _) ⟨hf.1, by omega⟩ (by rw [oUpd_hit]; exact hjv) (oUpd_hit _ _ _) (by omega) (by omega) (by rw [oUpd_miss _ _ (Ne.symm hne)]; exact oUpd_hit _ _ _) (by omega) (by omega)) (by decide) (by decide) (Nat.le_of_eq rfl) (by decide) (by decide) pd8 rfl rfl rfl at_145 rfl ?_
  intro v_239 T_239 h_239 X_239 q_239
  obtain ⟨rfl, K239, R239, Nr239, AR239⟩ := q_239
  have f240_1 : oA Z h_239 aF (.object "com/example/tollbook/tollbook/ber/BerException") sz.toInt.toNat Fv235 := f238_7.keep K239 (ninS (oNd nd 7 0 (by decide) rfl rfl) (ninS (oNd nd 7 6 (by decide) rfl rfl) nin0))
  have f240_3 : oA Z h_239 aN .int sz.toInt.toNat (fun i => .int ((oUpd (oUpd N ((fr + (1 : Int32)) - fr).toInt.toNat (-1 : Int32)) (fr - fr).toInt.toNat (fr + (1 : Int32))) i)) := AN237.keep K239 (ninS (oNd nd 1 0 (by decide) rfl rfl) (ninS (oNd nd 1 6 (by decide) rfl rfl) nin0))
  have f240_4 : oA Z h_239 aJ .int sz.toInt.toNat (fun i => .int ((oUpd (oUpd J ((fr + (1 : Int32)) - fr).toInt.toNat (fr + (1 : Int32))) (fr - fr).toInt.toNat jv237) i)) := AJ237.keep K239 (ninS (oNd nd 2 0 (by decide) rfl rfl) (ninS (oNd nd 2 6 (by decide) rfl rfl) nin0))
  have f240_5 : oA Z h_239 aD .int sz.toInt.toNat (fun i => .int (D237 i)) := AD237.keep K239 (ninS (oNd nd 3 0 (by decide) rfl rfl) (ninS (oNd nd 3 6 (by decide) rfl rfl) nin0))
  have f240_6 : oA Z h_239 aC .byte sz.toInt.toNat (fun i => .int ((oUpd Cc (fr - fr).toInt.toNat (tc.toInt8.toInt32.toInt8.toInt32)) i)) := AC237.keep K239 (ninS (oNd nd 4 0 (by decide) rfl rfl) (ninS (oNd nd 4 6 (by decide) rfl rfl) nin0))
  have f240_7 : oA Z h_239 aT .int sz.toInt.toNat (fun i => .int ((oUpd Tn (fr - fr).toInt.toNat tn) i)) := AT237.keep K239 (ninS (oNd nd 5 0 (by decide) rfl rfl) (ninS (oNd nd 5 6 (by decide) rfl rfl) nin0))
  have f240_8 : oA Z h_239 aL .int 16 (fun i => .int ((oUpd (oUpd G (0 : Int32).toInt.toNat (fr + (1 : Int32))) ((0 : Int32) + (1 : Int32)).toInt.toNat fr) i)) := AL237.keep K239 (ninS (oNd nd 8 0 (by decide) rfl rfl) (ninS (oNd nd 8 6 (by decide) rfl rfl) nin0))
  show oWP ω γ k0 _ T_239 148 #[.val (.int a_), .val (.int b_), .val (.int c_), .val (.int d_), .val (.int fr), .val (.int lim), .val (.int tc), .val (.int tn), .val (.ref a), .val (.int fr), .val (.int (1 : Int32)), .unset] [.int fr]
  refine ow_istore X_239 150 (L' := #[.val (.int a_), .val (.int b_), .val (.int c_), .val (.int d_), .val (.int fr), .val (.int lim), .val (.int tc), .val (.int tn), .val (.ref a), .val (.int fr), .val (.int (1 : Int32)), .val (.int fr)]) at_148 rfl rfl ?_
  refine ow_iload X_239 152 at_150 rfl rfl ?_
  refine ow_iload X_239 154 at_152 rfl rfl ?_
  refine ow_icmp_ne X_239 157 173 at_154 rfl rfl (fun (c154 : fr.toInt ≠ fr.toInt) => absurd rfl c154) (fun (c154 : fr.toInt = fr.toInt) => ?_)
  refine ow_iload X_239 159 at_157 rfl rfl ?_
  refine ow_if_eq X_239 162 173 at_159 rfl rfl (fun (c159 : 1 = 0) => absurd c159 (by decide)) (fun (c159 : 1 ≠ 0) => ?_)
  refine ow_iload X_239 164 at_162 rfl rfl ?_
  refine ow_iload X_239 166 at_164 rfl rfl ?_
  refine ow_icmp_ne X_239 169 173 at_166 rfl rfl (fun (c166 : fr.toInt ≠ fr.toInt) => absurd rfl c166) (fun (c166 : fr.toInt = fr.toInt) => ?_)
  refine ow_iconst X_239 170 (1 : Int32) at_169 rfl rfl ?_
  refine ow_goto X_239 174 at_170 rfl ?_
  refine ow_retZ X_239 rfl at_174 (by decide) (by decide) (by decide) ?_
  rfl
set_option maxRecDepth 65536 in
set_option maxHeartbeats 4000000 in
theorem B25 {Z : State} {ω : OW} {γ : OG} {T : State} {h : Heap} (X : oSt Z ω γ k0 T h 0 0) (a_ b_ c_ d_ fr lim tc tn sz : Int32) (hf : 0 ≤ fr.toInt ∧ fr.toInt ≤ 1073741823) (htc : 0 ≤ tc.toInt ∧ tc.toInt ≤ 127) (hz : lim - fr + (1 : Int32) = sz) (hs : 3 ≤ sz.toInt ∧ sz.toInt ≤ 6) :
    oWP ω γ k0 (fun v _ => v = some (.int 1)) T 25 #[.val (.int a_), .val (.int b_), .val (.int c_), .val (.int d_), .val (.int fr), .val (.int lim), .val (.int tc), .val (.int tn), .unset, .unset, .unset, .unset] [] := by
  refine ow_new X 28 1 2 3 rfl rfl rfl rfl at_25 rfl (by decide) (by decide) ?_
  intro T_241 h_241 a_241 q_241 X_241 E_241 A_241 D_241 g_241
  have R_241 : TC Z h_241 a_241 (.int (0 : Int32)) (.int (0 : Int32)) .null .null .null .null .null .null .null .null (.int (0 : Int32)) (.int (0 : Int32)) (.int (0 : Int32)) .null := ⟨A_241, D_241 (Or.inl (oSt_at X_241 49 rfl)) (ty := .int) (by decide), D_241 (Or.inl (oSt_at X_241 11 rfl)) (ty := .int) (by decide), D_241 (Or.inl (oSt_at X_241 14 rfl)) (ty := (.array .int)) (by decide), D_241 (Or.inl (oSt_at X_241 16 rfl)) (ty := (.array .int)) (by decide), D_241 (Or.inl (oSt_at X_241 18 rfl)) (ty := (.array .int)) (by decide), D_241 (Or.inl (oSt_at X_241 21 rfl)) (ty := (.array .byte)) (by decide), D_241 (Or.inl (oSt_at X_241 23 rfl)) (ty := (.array .int)) (by decide), D_241 (Or.inl (oSt_at X_241 25 rfl)) (ty := (.array .int)) (by decide), D_241 (Or.inl (oSt_at X_241 29 rfl)) (ty := (.array (.object "com/example/tollbook/tollbook/ber/BerException"))) (by decide), D_241 (Or.inl (oSt_at X_241 31 rfl)) (ty := (.array .int)) (by decide), D_241 (Or.inl (oSt_at X_241 47 rfl)) (ty := .int) (by decide), D_241 (Or.inl (oSt_at X_241 33 rfl)) (ty := .int) (by decide), D_241 (Or.inl (oSt_at X_241 73 rfl)) (ty := .int) (by decide), D_241 (Or.inl (oSt_at X_241 35 rfl)) (ty := (.array .int)) (by decide)⟩
  refine ow_dup X_241 29 at_28 rfl rfl ?_
  refine ow_callC X_241 32 4 5 3 6 (κ' := k1) (as := []) (S := [.ref a_241]) (W := 1) rfl rfl rfl rfl rfl rfl rfl (by decide) (C_init (oSt_w X_241) (oSt_n0 X_241) a_241 R_241 g_241) (by decide) (by decide) (Nat.le_of_eq rfl) (by decide) (by decide) pd1 rfl rfl rfl at_29 rfl ?_
  intro v_243 T_243 h_243 X_243 q_243
  obtain ⟨rfl, aN, aJ, aD, aC, aT, aR, aF, aL, aP, K243, nd243, gs243, fr243, R243, AaN243, AaL243, AaP243⟩ := q_243
  show oWP ω γ k0 _ T_243 32 #[.val (.int a_), .val (.int b_), .val (.int c_), .val (.int d_), .val (.int fr), .val (.int lim), .val (.int tc), .val (.int tn), .unset, .unset, .unset, .unset] [.ref a_241]
  refine ow_astore X_243 34 (L' := #[.val (.int a_), .val (.int b_), .val (.int c_), .val (.int d_), .val (.int fr), .val (.int lim), .val (.int tc), .val (.int tn), .val (.ref a_241), .unset, .unset, .unset]) at_32 rfl rfl rfl ?_
  refine ow_aload X_243 36 at_34 rfl rfl rfl ?_
  refine ow_iload X_243 38 at_36 rfl rfl ?_
  refine ow_iload X_243 40 at_38 rfl rfl ?_
  refine ow_callV X_243 43 36 37 39 38 40 3 (κ' := k3) (as := [.int fr, .int lim]) (S := []) (W := 0) rfl rfl rfl rfl rfl rfl rfl (by decide) R243.1 (C_reset (oSt_w X_243) (oSt_n0 X_243) a_241 aN fr lim sz _ _ _ _ _ _ _ _ _ _ _ _ R243 AaN243 g_241 (oNd nd243 0 1 (by decide) rfl rfl) hz (by omega) (by omega)) (by decide) (by decide) (Nat.le_of_eq rfl) (by decide) (by decide) pd3 rfl rfl rfl at_40 rfl ?_
  intro v_245 T_245 h_245 X_245 q_245
  obtain ⟨rfl, aN1, aJ1, aD1, aC1, aT1, aR1, aF1, K245, nd245, gs245, fr245, R245, Fs245⟩ := q_245
  have ne_aN_aN1 : aN ≠ aN1 := Nat.ne_of_lt (Nat.lt_of_lt_of_le AaN243.lt (fr245 _ (List.mem_of_getElem? (i := 0) rfl)))
  have ne_aN_aJ1 : aN ≠ aJ1 := Nat.ne_of_lt (Nat.lt_of_lt_of_le AaN243.lt (fr245 _ (List.mem_of_getElem? (i := 1) rfl)))
  have ne_aN_aD1 : aN ≠ aD1 := Nat.ne_of_lt (Nat.lt_of_lt_of_le AaN243.lt (fr245 _ (List.mem_of_getElem? (i := 2) rfl)))
  have ne_aN_aC1 : aN ≠ aC1 := Nat.ne_of_lt (Nat.lt_of_lt_of_le AaN243.lt (fr245 _ (List.mem_of_getElem? (i := 3) rfl)))
  have ne_aN_aT1 : aN ≠ aT1 := Nat.ne_of_lt (Nat.lt_of_lt_of_le AaN243.lt (fr245 _ (List.mem_of_getElem? (i := 4) rfl)))
  have ne_aN_aR1 : aN ≠ aR1 := Nat.ne_of_lt (Nat.lt_of_lt_of_le AaN243.lt (fr245 _ (List.mem_of_getElem? (i := 5) rfl)))
  have ne_aN_aF1 : aN ≠ aF1 := Nat.ne_of_lt (Nat.lt_of_lt_of_le AaN243.lt (fr245 _ (List.mem_of_getElem? (i := 6) rfl)))
  have ne_aL_aN1 : aL ≠ aN1 := Nat.ne_of_lt (Nat.lt_of_lt_of_le AaL243.lt (fr245 _ (List.mem_of_getElem? (i := 0) rfl)))
  have ne_aL_aJ1 : aL ≠ aJ1 := Nat.ne_of_lt (Nat.lt_of_lt_of_le AaL243.lt (fr245 _ (List.mem_of_getElem? (i := 1) rfl)))
  have ne_aL_aD1 : aL ≠ aD1 := Nat.ne_of_lt (Nat.lt_of_lt_of_le AaL243.lt (fr245 _ (List.mem_of_getElem? (i := 2) rfl)))
  have ne_aL_aC1 : aL ≠ aC1 := Nat.ne_of_lt (Nat.lt_of_lt_of_le AaL243.lt (fr245 _ (List.mem_of_getElem? (i := 3) rfl)))
  have ne_aL_aT1 : aL ≠ aT1 := Nat.ne_of_lt (Nat.lt_of_lt_of_le AaL243.lt (fr245 _ (List.mem_of_getElem? (i := 4) rfl)))
  have ne_aL_aR1 : aL ≠ aR1 := Nat.ne_of_lt (Nat.lt_of_lt_of_le AaL243.lt (fr245 _ (List.mem_of_getElem? (i := 5) rfl)))
  have ne_aL_aF1 : aL ≠ aF1 := Nat.ne_of_lt (Nat.lt_of_lt_of_le AaL243.lt (fr245 _ (List.mem_of_getElem? (i := 6) rfl)))
  have ne_aP_aN1 : aP ≠ aN1 := Nat.ne_of_lt (Nat.lt_of_lt_of_le AaP243.lt (fr245 _ (List.mem_of_getElem? (i := 0) rfl)))
  have ne_aP_aJ1 : aP ≠ aJ1 := Nat.ne_of_lt (Nat.lt_of_lt_of_le AaP243.lt (fr245 _ (List.mem_of_getElem? (i := 1) rfl)))
  have ne_aP_aD1 : aP ≠ aD1 := Nat.ne_of_lt (Nat.lt_of_lt_of_le AaP243.lt (fr245 _ (List.mem_of_getElem? (i := 2) rfl)))
  have ne_aP_aC1 : aP ≠ aC1 := Nat.ne_of_lt (Nat.lt_of_lt_of_le AaP243.lt (fr245 _ (List.mem_of_getElem? (i := 3) rfl)))
  have ne_aP_aT1 : aP ≠ aT1 := Nat.ne_of_lt (Nat.lt_of_lt_of_le AaP243.lt (fr245 _ (List.mem_of_getElem? (i := 4) rfl)))
  have ne_aP_aR1 : aP ≠ aR1 := Nat.ne_of_lt (Nat.lt_of_lt_of_le AaP243.lt (fr245 _ (List.mem_of_getElem? (i := 5) rfl)))
  have ne_aP_aF1 : aP ≠ aF1 := Nat.ne_of_lt (Nat.lt_of_lt_of_le AaP243.lt (fr245 _ (List.mem_of_getElem? (i := 6) rfl)))
  have f246_2 : oA Z h_245 aL .int 16 (fun i => .int (oZI i)) := AaL243.keep K245 (ninS (oNd nd243 8 0 (by decide) rfl rfl) nin0)
  have f246_3 : oA Z h_245 aP .int 16 (fun i => .int (oZI i)) := AaP243.keep K245 (ninS (oNd nd243 9 0 (by decide) rfl rfl) nin0)
  obtain ⟨AaN1, AaJ1, AaD1, AaC1, AaT1, AaR1, AaF1, OvF⟩ := Fs245
  show oWP ω γ k0 _ T_245 43 #[.val (.int a_), .val (.int b_), .val (.int c_), .val (.int d_), .val (.int fr), .val (.int lim), .val (.int tc), .val (.int tn), .val (.ref a_241), .unset, .unset, .unset] []
  refine ow_aload X_245 45 at_43 rfl rfl rfl ?_
  refine ow_iload X_245 47 at_45 rfl rfl ?_
  refine ow_anull X_245 48 at_47 rfl ?_
  refine ow_callV X_245 51 54 55 57 56 58 3 (κ' := k6) (as := [.int fr, .null]) (S := []) (W := 0) rfl rfl rfl rfl rfl rfl rfl (by decide) R245.1 (C_stops (oSt_w X_245) (oSt_n0 X_245) a_241 aL aN1 aJ1 aD1 aF1 fr fr (0 : Int32) sz.toInt.toNat oZI oZI oZI oZI (fun _ => .null) _ _ _ _ _ _ _ R245 AaN1 AaJ1 AaD1 AaF1 f246_2 (List.nodup_cons.mpr ⟨(ninS (oNd nd243 0 8 (by decide) rfl rfl) (ninS (oNd nd245 0 1 (by decide) rfl rfl) (ninS (oNd nd245 0 2 (by decide) rfl rfl) (ninS (oNd nd245 0 3 (by decide) rfl rfl) (ninS (oNd nd245 0 7 (by decide) rfl rfl) nin0))))), (List.nodup_cons.mpr ⟨(ninS ne_aL_aN1 (ninS ne_aL_aJ1 (ninS ne_aL_aD1 (ninS ne_aL_aF1 nin0)))), (List.nodup_cons.mpr ⟨(ninS (oNd nd245 1 2 (by decide) rfl rfl) (ninS (oNd nd245 1 3 (by decide) rfl rfl) (ninS (oNd nd245 1 7 (by decide) rfl rfl) nin0))), (List.nodup_cons.mpr ⟨(ninS (oNd nd245 2 3 (by decide) rfl rfl) (ninS (oNd nd245 2 7 (by decide) rfl rfl) nin0)), (List.nodup_cons.mpr ⟨(ninS (oNd nd245 3 7 (by decide) rfl rfl) nin0), (List.nodup_cons.mpr ⟨nin0, List.nodup_nil⟩)⟩)⟩)⟩)⟩)⟩) (allS g_241 (allS (gs243 _ (List.mem_of_getElem? (i := 8) rfl)) (allS (gs245 _ (List.mem_of_getElem? (i := 1) rfl)) (allS (gs245 _ (List.mem_of_getElem? (i := 2) rfl)) (allS (gs245 _ (List.mem_of_getElem? (i := 3) rfl)) (allS (gs245 _ (List.mem_of_getElem? (i := 7) rfl)) all0)))))) (by decide) (by decide) (by rw [own_i0]; decide) (by rw [own_i0]; omega) ) (by decide) (by decide) (Nat.le_of_eq rfl) (by decide) (by decide) pd6 rfl rfl rfl at_48 rfl ?_
  intro v_247 T_247 h_247 X_247 q_247
  obtain ⟨rfl, K247, R247, AN247, AJ247, AD247, ⟨Fv247, AF247⟩, AL247⟩ := q_247
  have f248_1 : oA Z h_247 aP .int 16 (fun i => .int (oZI i)) := f246_3.keep K247 (ninS (oNd nd243 9 0 (by decide) rfl rfl) (ninS (oNd nd243 9 8 (by decide) rfl rfl) (ninS ne_aP_aN1 (ninS ne_aP_aJ1 (ninS ne_aP_aD1 (ninS ne_aP_aF1 nin0))))))
  have f248_6 : oA Z h_247 aC1 .byte sz.toInt.toNat (fun i => .int (oZI i)) := AaC1.keep K247 (ninS (oNd nd245 4 0 (by decide) rfl rfl) (ninS (Ne.symm ne_aL_aC1) (ninS (oNd nd245 4 1 (by decide) rfl rfl) (ninS (oNd nd245 4 2 (by decide) rfl rfl) (ninS (oNd nd245 4 3 (by decide) rfl rfl) (ninS (oNd nd245 4 7 (by decide) rfl rfl) nin0))))))
  have f248_7 : oA Z h_247 aT1 .int sz.toInt.toNat (fun i => .int (oZI i)) := AaT1.keep K247 (ninS (oNd nd245 5 0 (by decide) rfl rfl) (ninS (Ne.symm ne_aL_aT1) (ninS (oNd nd245 5 1 (by decide) rfl rfl) (ninS (oNd nd245 5 2 (by decide) rfl rfl) (ninS (oNd nd245 5 3 (by decide) rfl rfl) (ninS (oNd nd245 5 7 (by decide) rfl rfl) nin0))))))
  have f248_8 : oA Z h_247 aR1 .int sz.toInt.toNat (fun i => .int (oZI i)) := AaR1.keep K247 (ninS (oNd nd245 6 0 (by decide) rfl rfl) (ninS (Ne.symm ne_aL_aR1) (ninS (oNd nd245 6 1 (by decide) rfl rfl) (ninS (oNd nd245 6 2 (by decide) rfl rfl) (ninS (oNd nd245 6 3 (by decide) rfl rfl) (ninS (oNd nd245 6 7 (by decide) rfl rfl) nin0))))))
  show oWP ω γ k0 _ T_247 51 #[.val (.int a_), .val (.int b_), .val (.int c_), .val (.int d_), .val (.int fr), .val (.int lim), .val (.int tc), .val (.int tn), .val (.ref a_241), .unset, .unset, .unset] []
  refine ow_aload X_247 53 at_51 rfl rfl rfl ?_
  refine ow_iload X_247 55 at_53 rfl rfl ?_
  refine ow_iload X_247 57 at_55 rfl rfl ?_
  refine ow_iconst X_247 58 (2 : Int32) at_57 rfl rfl ?_
  refine ow_iadd X_247 59 at_58 rfl ?_
  refine ow_iload X_247 61 at_59 rfl rfl ?_
  refine ow_iload X_247 63 at_61 rfl rfl ?_
  have i0 := own_i0 fr
  have i0n : (fr - fr).toInt.toNat = 0 := by omega
  refine ow_callV X_247 66 63 64 66 65 67 3 (κ' := k8) (as := [.int fr, .int (fr + (2 : Int32)), .int tc, .int tn]) (S := []) (W := 0) rfl rfl rfl rfl rfl rfl rfl (by decide) R247.1 (C_along1 (oSt_w X_247) (oSt_n0 X_247) a_241 aN1 aR1 aL fr (fr + (2 : Int32)) tc tn fr ((0 : Int32) + (1 : Int32)) _ (oUpd oZI (fr - fr).toInt.toNat (-1 : Int32)) oZI (oUpd oZI (0 : Int32).toInt.toNat fr) _ _ _ _ _ _ _ _ R247 AN247 f248_8 AL247 (List.nodup_cons.mpr ⟨(ninS (oNd nd245 0 1 (by decide) rfl rfl) (ninS (oNd nd245 0 6 (by decide) rfl rfl) (ninS (oNd nd243 0 8 (by decide) rfl rfl) nin0))), (List.nodup_cons.mpr ⟨(ninS (oNd nd245 1 6 (by decide) rfl rfl) (ninS (Ne.symm ne_aL_aN1) nin0)), (List.nodup_cons.mpr ⟨(ninS (Ne.symm ne_aL_aR1) nin0), (List.nodup_cons.mpr ⟨nin0, List.nodup_nil⟩)⟩)⟩)⟩) (allS g_241 (allS (gs245 _ (List.mem_of_getElem? (i := 1) rfl)) (allS (gs245 _ (List.mem_of_getElem? (i := 6) rfl)) (allS (gs243 _ (List.mem_of_getElem? (i := 8) rfl)) all0)))) rfl htc.1 (by show 0 ≤ (fr - fr).toInt; omega) (by show (fr - fr).toInt < _; omega) (by omega) (by omega) (oUpd_hit _ _ _) rfl) (by decide) (by decide) (Nat.le_of_eq rfl) (by decide) (by decide) pd8 rfl rfl rfl at_63 rfl ?_
  intro v_249 T_249 h_249 X_249 q_249
  obtain ⟨rfl, K249, R249, Nr1, AR249⟩ := q_249
  have f250_0 : oA Z h_249 aP .int 16 (fun i => .int (oZI i)) := f248_1.keep K249 (ninS (oNd nd243 9 0 (by decide) rfl rfl) (ninS ne_aP_aR1 nin0))
  have f250_1 : oA Z h_249 aC1 .byte sz.toInt.toNat (fun i => .int (oZI i)) := f248_6.keep K249 (ninS (oNd nd245 4 0 (by decide) rfl rfl) (ninS (oNd nd245 4 6 (by decide) rfl rfl) nin0))
  have f250_2 : oA Z h_249 aT1 .int sz.toInt.toNat (fun i => .int (oZI i)) := f248_7.keep K249 (ninS (oNd nd245 5 0 (by decide) rfl rfl) (ninS (oNd nd245 5 6 (by decide) rfl rfl) nin0))
  have f250_5 : oA Z h_249 aN1 .int sz.toInt.toNat (fun i => .int ((oUpd oZI (fr - fr).toInt.toNat (-1 : Int32)) i)) := AN247.keep K249 (ninS (oNd nd245 1 0 (by decide) rfl rfl) (ninS (oNd nd245 1 6 (by decide) rfl rfl) nin0))
  have f250_6 : oA Z h_249 aJ1 .int sz.toInt.toNat (fun i => .int ((oUpd oZI (fr - fr).toInt.toNat fr) i)) := AJ247.keep K249 (ninS (oNd nd245 2 0 (by decide) rfl rfl) (ninS (oNd nd245 2 6 (by decide) rfl rfl) nin0))
  have f250_7 : oA Z h_249 aD1 .int sz.toInt.toNat (fun i => .int ((oUpd oZI (fr - fr).toInt.toNat (0 : Int32)) i)) := AD247.keep K249 (ninS (oNd nd245 3 0 (by decide) rfl rfl) (ninS (oNd nd245 3 6 (by decide) rfl rfl) nin0))
  have f250_8 : oA Z h_249 aF1 (.object "com/example/tollbook/tollbook/ber/BerException") sz.toInt.toNat Fv247 := AF247.keep K249 (ninS (oNd nd245 7 0 (by decide) rfl rfl) (ninS (oNd nd245 7 6 (by decide) rfl rfl) nin0))
  have f250_9 : oA Z h_249 aL .int 16 (fun i => .int ((oUpd oZI (0 : Int32).toInt.toNat fr) i)) := AL247.keep K249 (ninS (oNd nd243 8 0 (by decide) rfl rfl) (ninS ne_aL_aR1 nin0))
  show oWP ω γ k0 _ T_249 66 #[.val (.int a_), .val (.int b_), .val (.int c_), .val (.int d_), .val (.int fr), .val (.int lim), .val (.int tc), .val (.int tn), .val (.ref a_241), .unset, .unset, .unset] [.int fr]
  refine ow_istore X_249 68 (L' := #[.val (.int a_), .val (.int b_), .val (.int c_), .val (.int d_), .val (.int fr), .val (.int lim), .val (.int tc), .val (.int tn), .val (.ref a_241), .val (.int fr), .unset, .unset]) at_66 rfl rfl ?_
  refine ow_aload X_249 70 at_68 rfl rfl rfl ?_
  refine ow_callV X_249 73 74 42 44 43 45 3 (κ' := k4) (as := []) (S := []) (W := 0) rfl rfl rfl rfl rfl rfl rfl (by decide) R249.1 (C_forget1 (oSt_w X_249) (oSt_n0 X_249) a_241 aN1 aR1 aF1 aL fr ((0 : Int32) + (1 : Int32)) _ (oUpd oZI (fr - fr).toInt.toNat (-1 : Int32)) Nr1 (oUpd oZI (0 : Int32).toInt.toNat fr) Fv247 _ _ _ _ _ _ _ _ R249 f250_5 AR249 f250_8 f250_9 (List.nodup_cons.mpr ⟨(ninS (oNd nd245 0 1 (by decide) rfl rfl) (ninS (oNd nd245 0 6 (by decide) rfl rfl) (ninS (oNd nd245 0 7 (by decide) rfl rfl) (ninS (oNd nd243 0 8 (by decide) rfl rfl) nin0)))), (List.nodup_cons.mpr ⟨(ninS (oNd nd245 1 6 (by decide) rfl rfl) (ninS (oNd nd245 1 7 (by decide) rfl rfl) (ninS (Ne.symm ne_aL_aN1) nin0))), (List.nodup_cons.mpr ⟨(ninS (oNd nd245 6 7 (by decide) rfl rfl) (ninS (Ne.symm ne_aL_aR1) nin0)), (List.nodup_cons.mpr ⟨(ninS (Ne.symm ne_aL_aF1) nin0), (List.nodup_cons.mpr ⟨nin0, List.nodup_nil⟩)⟩)⟩)⟩)⟩) (allS g_241 (allS (gs245 _ (List.mem_of_getElem? (i := 1) rfl)) (allS (gs245 _ (List.mem_of_getElem? (i := 6) rfl)) (allS (gs245 _ (List.mem_of_getElem? (i := 7) rfl)) (allS (gs243 _ (List.mem_of_getElem? (i := 8) rfl)) all0))))) rfl (by show 0 ≤ (fr - fr).toInt; omega) (by show (fr - fr).toInt < _; omega)) (by decide) (by decide) (Nat.le_of_eq rfl) (by decide) (by decide) pd4 rfl rfl rfl at_70 rfl ?_
  intro v_251 T_251 h_251 X_251 q_251
  obtain ⟨rfl, K251, R251, AN251, AR251, Fv251, AF251⟩ := q_251
  have f252_0 : oA Z h_251 aP .int 16 (fun i => .int (oZI i)) := f250_0.keep K251 (ninS (oNd nd243 9 0 (by decide) rfl rfl) (ninS ne_aP_aN1 (ninS ne_aP_aR1 (ninS ne_aP_aF1 nin0))))
  have f252_1 : oA Z h_251 aC1 .byte sz.toInt.toNat (fun i => .int (oZI i)) := f250_1.keep K251 (ninS (oNd nd245 4 0 (by decide) rfl rfl) (ninS (oNd nd245 4 1 (by decide) rfl rfl) (ninS (oNd nd245 4 6 (by decide) rfl rfl) (ninS (oNd nd245 4 7 (by decide) rfl rfl) nin0))))
  have f252_2 : oA Z h_251 aT1 .int sz.toInt.toNat (fun i => .int (oZI i)) := f250_2.keep K251 (ninS (oNd nd245 5 0 (by decide) rfl rfl) (ninS (oNd nd245 5 1 (by decide) rfl rfl) (ninS (oNd nd245 5 6 (by decide) rfl rfl) (ninS (oNd nd245 5 7 (by decide) rfl rfl) nin0))))
  have f252_4 : oA Z h_251 aJ1 .int sz.toInt.toNat (fun i => .int ((oUpd oZI (fr - fr).toInt.toNat fr) i)) := f250_6.keep K251 (ninS (oNd nd245 2 0 (by decide) rfl rfl) (ninS (oNd nd245 2 1 (by decide) rfl rfl) (ninS (oNd nd245 2 6 (by decide) rfl rfl) (ninS (oNd nd245 2 7 (by decide) rfl rfl) nin0))))
  have f252_5 : oA Z h_251 aD1 .int sz.toInt.toNat (fun i => .int ((oUpd oZI (fr - fr).toInt.toNat (0 : Int32)) i)) := f250_7.keep K251 (ninS (oNd nd245 3 0 (by decide) rfl rfl) (ninS (oNd nd245 3 1 (by decide) rfl rfl) (ninS (oNd nd245 3 6 (by decide) rfl rfl) (ninS (oNd nd245 3 7 (by decide) rfl rfl) nin0))))
  have f252_7 : oA Z h_251 aL .int 16 (fun i => .int ((oUpd oZI (0 : Int32).toInt.toNat fr) i)) := f250_9.keep K251 (ninS (oNd nd243 8 0 (by decide) rfl rfl) (ninS ne_aL_aN1 (ninS ne_aL_aR1 (ninS ne_aL_aF1 nin0))))
  show oWP ω γ k0 _ T_251 73 #[.val (.int a_), .val (.int b_), .val (.int c_), .val (.int d_), .val (.int fr), .val (.int lim), .val (.int tc), .val (.int tn), .val (.ref a_241), .val (.int fr), .unset, .unset] []
  exact B73 X_251 a_ b_ c_ d_ fr lim tc tn sz a_241 aN1 aJ1 aD1 aC1 aT1 aR1 aF1 aL _ _ _ _ _ _ _ _ _ R251 AN251 f252_4 f252_5 f252_1 f252_2 AR251 AF251 f252_7 (List.nodup_cons.mpr ⟨(ninS (oNd nd245 0 1 (by decide) rfl rfl) (ninS (oNd nd245 0 2 (by decide) rfl rfl) (ninS (oNd nd245 0 3 (by decide) rfl rfl) (ninS (oNd nd245 0 4 (by decide) rfl rfl) (ninS (oNd nd245 0 5 (by decide) rfl rfl) (ninS (oNd nd245 0 6 (by decide) rfl rfl) (ninS (oNd nd245 0 7 (by decide) rfl rfl) (ninS (oNd nd243 0 8 (by decide) rfl rfl) nin0)))))))), (List.nodup_cons.mpr ⟨(ninS (oNd nd245 1 2 (by decide) rfl rfl) (ninS (oNd nd245 1 3 (by decide) rfl rfl) (ninS (oNd nd245 1 4 (by decide) rfl rfl) (ninS (oNd nd245 1 5 (by decide) rfl rfl) (ninS (oNd nd245 1 6 (by decide) rfl rfl) (ninS (oNd nd245 1 7 (by decide) rfl rfl) (ninS (Ne.symm ne_aL_aN1) nin0))))))), (List.nodup_cons.mpr ⟨(ninS (oNd nd245 2 3 (by decide) rfl rfl) (ninS (oNd nd245 2 4 (by decide) rfl rfl) (ninS (oNd nd245 2 5 (by decide) rfl rfl) (ninS (oNd nd245 2 6 (by decide) rfl rfl) (ninS (oNd nd245 2 7 (by decide) rfl rfl) (ninS (Ne.symm ne_aL_aJ1) nin0)))))), (List.nodup_cons.mpr ⟨(ninS (oNd nd245 3 4 (by decide) rfl rfl) (ninS (oNd nd245 3 5 (by decide) rfl rfl) (ninS (oNd nd245 3 6 (by decide) rfl rfl) (ninS (oNd nd245 3 7 (by decide) rfl rfl) (ninS (Ne.symm ne_aL_aD1) nin0))))), (List.nodup_cons.mpr ⟨(ninS (oNd nd245 4 5 (by decide) rfl rfl) (ninS (oNd nd245 4 6 (by decide) rfl rfl) (ninS (oNd nd245 4 7 (by decide) rfl rfl) (ninS (Ne.symm ne_aL_aC1) nin0)))), (List.nodup_cons.mpr ⟨(ninS (oNd nd245 5 6 (by decide) rfl rfl) (ninS (oNd nd245 5 7 (by decide) rfl rfl) (ninS (Ne.symm ne_aL_aT1) nin0))), (List.nodup_cons.mpr ⟨(ninS (oNd nd245 6 7 (by decide) rfl rfl) (ninS (Ne.symm ne_aL_aR1) nin0)), (List.nodup_cons.mpr ⟨(ninS (Ne.symm ne_aL_aF1) nin0), (List.nodup_cons.mpr ⟨nin0, List.nodup_nil⟩)⟩)⟩)⟩)⟩)⟩)⟩)⟩)⟩) (allS g_241 (allS (gs245 _ (List.mem_of_getElem? (i := 1) rfl)) (allS (gs245 _ (List.mem_of_getElem? (i := 2) rfl)) (allS (gs245 _ (List.mem_of_getElem? (i := 3) rfl)) (allS (gs245 _ (List.mem_of_getElem? (i := 4) rfl)) (allS (gs245 _ (List.mem_of_getElem? (i := 5) rfl)) (allS (gs245 _ (List.mem_of_getElem? (i := 6) rfl)) (allS (gs245 _ (List.mem_of_getElem? (i := 7) rfl)) (allS (gs243 _ (List.mem_of_getElem? (i := 8) rfl)) all0))))))))) hf htc hz hs (by have e : ((oUpd oZI (0 : Int32).toInt.toNat fr) 0 - fr).toInt.toNat = 0 := i0n; rw [e]; exact oUpd_hit _ _ _) (by have e : ((oUpd oZI (0 : Int32).toInt.toNat fr) 0 - fr).toInt.toNat = 0 := i0n; rw [e]; exact oUpd_hit _ _ _)
set_option maxRecDepth 65536 in
set_option maxHeartbeats 4000000 in
theorem C_law {Z : State} {ω : OW} {h : Heap} (hw_ : ∀ d ∈ tables_1, d.before ω.2.2 Z = true) (hn_ : ω.2.1 ≤ h.size) (a_ b_ c_ d_ : Int32) :
    oC Z ω Jvm.Pilot.@@N@@.x k0 tables_1 #[.int a_, .int b_, .int c_, .int d_] h (fun v _ => v = some (.int 1)) := by
  refine oC_of hw_ hn_ pn0 rfl rfl (L := #[.val (.int a_), .val (.int b_), .val (.int c_), .val (.int d_), .unset, .unset, .unset, .unset, .unset, .unset, .unset, .unset]) (fun m => by first | (simp [entryFrame, mkF, argsToLocals, Value.category, k0, maxLocals]; done) | rfl) ?_
  intro γ T X
  refine ow_iloadN X 1 at_0 rfl rfl ?_
  refine ow_ldcI X 3 0 rfl rfl at_1 rfl ?_
  refine ow_iand X 4 at_3 rfl ?_
  refine ow_istore X 6 (L' := #[.val (.int a_), .val (.int b_), .val (.int c_), .val (.int d_), .val (.int (a_ &&& (1073741823 : Int32))), .unset, .unset, .unset, .unset, .unset, .unset, .unset]) at_4 rfl rfl ?_
  have hf : 0 ≤ (a_ &&& (1073741823 : Int32)).toInt ∧ (a_ &&& (1073741823 : Int32)).toInt ≤ 1073741823 := c_and a_ 1073741823 (by decide)
  generalize a_ &&& (1073741823 : Int32) = fr at hf ⊢
  refine ow_iload X 8 at_6 rfl rfl ?_
  refine ow_iconst X 9 (2 : Int32) at_8 rfl rfl ?_
  refine ow_iadd X 10 at_9 rfl ?_
  refine ow_iloadN X 11 at_10 rfl rfl ?_
  refine ow_iconst X 12 (3 : Int32) at_11 rfl rfl ?_
  refine ow_iand X 13 at_12 rfl ?_
  refine ow_iadd X 14 at_13 rfl ?_
  refine ow_istore X 16 (L' := #[.val (.int a_), .val (.int b_), .val (.int c_), .val (.int d_), .val (.int fr), .val (.int ((fr + (2 : Int32)) + (b_ &&& (3 : Int32)))), .unset, .unset, .unset, .unset, .unset, .unset]) at_14 rfl rfl ?_
  refine ow_iloadN X 17 at_16 rfl rfl ?_
  refine ow_bipush X 19 (127 : Int32) at_17 rfl rfl ?_
  refine ow_iand X 20 at_19 rfl ?_
  refine ow_istore X 22 (L' := #[.val (.int a_), .val (.int b_), .val (.int c_), .val (.int d_), .val (.int fr), .val (.int ((fr + (2 : Int32)) + (b_ &&& (3 : Int32)))), .val (.int (c_ &&& (127 : Int32))), .unset, .unset, .unset, .unset, .unset]) at_20 rfl rfl ?_
  refine ow_iloadN X 23 at_22 rfl rfl ?_
  refine ow_istore X 25 (L' := #[.val (.int a_), .val (.int b_), .val (.int c_), .val (.int d_), .val (.int fr), .val (.int ((fr + (2 : Int32)) + (b_ &&& (3 : Int32)))), .val (.int (c_ &&& (127 : Int32))), .val (.int d_), .unset, .unset, .unset, .unset]) at_23 rfl rfl ?_
  exact B25 X a_ b_ c_ d_ fr _ _ d_ _ hf (own_b7 c_) rfl (own_lim fr b_ hf.1 hf.2)
set_option maxRecDepth 65536 in
set_option maxHeartbeats 4000000 in
theorem comes_1 {Post : Tables → Env → Array Value → State → Outcome → State → Prop} (hpost : ∀ tb e args s v u, (limb_1_1.after args s (.returned v) u = true ∧ limb_1_2.after args s (.returned v) u = true ∧ True) → FrameEnd s (.returned v) u (Jvm.fieldLocs frame_1_writes args s ++ Jvm.arrayLocs frame_1_arrays args s ++ Jvm.staticLocs frame_1_statics s) 48 256 → Post tb e args s (.returned v) u) :
    ArmFor flags0 classFile x code maxLocals ret World_1 tables_1 room_1 Calls_1 rest_1 Pre_1 Post := by
  intro l hfl _ _ p e ha hc hk s m args below hf hA hF happ hP
  obtain ⟨hcalls, hrest, hpre⟩ := hP
  obtain ⟨-, -, -, hnamed, -, -, -, hat⟩ := (Spec.applies_iff hf).mp happ
  obtain ⟨hg, hn⟩ := and_e (Cond.before_iff.mp (show (Jvm.Cond.and given_1 narrow_1).before args s = true from hpre))
  obtain ⟨hcount, hg0⟩ := and_e hg
  obtain ⟨ha0, hg1⟩ := and_e hg0
  obtain ⟨ha1, hg2⟩ := and_e hg1
  obtain ⟨ha2, hg3⟩ := and_e hg2
  have ha3 := hg3
  obtain ⟨w0, w1, w2, w3, rfl⟩ : ∃ w0 w1 w2 w3 : Value, args = #[w0, w1, w2, w3] := by
    have hs : args.size = 4 := by simpa [Cond.value, given_1] using hcount
    obtain ⟨L⟩ := args
    match L, hs with
    | [w0, w1, w2, w3], _ => exact ⟨w0, w1, w2, w3, rfl⟩
  have hw := fun d (hd : d ∈ tables_1) => atoms_spec (ws := Jvm.Cond.code x code maxLocals ret :: tables_1) hat d (List.mem_cons_of_mem _ hd)
  have hfit : Fit s := fun {y c} hc i hi => by
    obtain ⟨ha, rfl⟩ := Array.getElem?_eq_some_iff.mp hc
    have q := List.all_eq_true.mp ((Array.all_eq_true_iff_forall_mem.mp hF) _ (Array.getElem_mem ha)) i (List.mem_range.mpr hi)
    simpa [Array.getElem?_eq_getElem hi] using q
  obtain ⟨i0, e0⟩ := is_v ha0
  obtain rfl : w0 = (.int i0) := Option.some.inj e0
  obtain ⟨i1, e1⟩ := is_v ha1
  obtain rfl : w1 = (.int i1) := Option.some.inj e1
  obtain ⟨i2, e2⟩ := is_v ha2
  obtain rfl : w2 = (.int i2) := Option.some.inj e2
  obtain ⟨i3, e3⟩ := is_v ha3
  obtain rfl : w3 = (.int i3) := Option.some.inj e3
  obtain ⟨n, o, h1, h2, h3, _, L, rfl, ⟨N, rfl⟩, hq⟩ := C_law (Z := s) (ω := (l, s.heap.size, _)) hw (Nat.le_refl _) i0 i1 i2 i3 p e ha hc hk s m _ below hf ((Spec.applies_iff_loose hf).mp happ).1 ⟨rfl, State.Warmed39.refl s, rfl⟩ trivial
  refine ⟨n, _, h1, h2, h3, hpost _ _ _ _ _ _ ⟨Cond.after_iff.mpr rfl, Cond.after_iff.mpr (eq_i res_at (Term.int_eval (1)) rfl), trivial⟩ ⟨hq.1, hq.2.1, (hq.2.2.sift fun y hy => Or.inr (N y hy)).mono (by decide) (by decide)⟩⟩
theorem main_1_1 : Claimed_1_1 := comes_1 fun _ _ _ _ _ _ h hF => ⟨h.1, hF⟩
theorem main_1_2 : Claimed_1_2 := comes_1 fun _ _ _ _ _ _ h hF => ⟨h.2.1, hF⟩
end Jvm.Pilot.@@N@@
namespace Jvm.Pilot.@@N@@
open Jvm Jvm.ClassFile Sem Op Lib Jvm.Free Jvm.Stand Jvm.Pilot.@@N@@.Jvm.D
/-! MADE BY PROGRAM (witnessworld.py) out of the Statement's table words and the real class files: 13 classes; the members and pool entries that the words name. The judged class is class 1, her method 1. -/
namespace start1
open Jvm.ClassFile
def u (s : String) : CpInfo := .utf8 (stringToUtf16 s)
/-- a pool by its gaps: so many unusable entries, then the entry; so many at the end -/
def gap : Nat → List CpInfo → List CpInfo
  | 0, r => r
  | n + 1, r => .unusable :: gap n r
def poolList (es : List (Nat × CpInfo)) (last : Nat) : List CpInfo := es.foldr (fun e r => gap e.1 (e.2 :: r)) (gap last [])
def pool (es : List (Nat × CpInfo)) (last : Nat) : Array CpInfo := ⟨poolList es last⟩
def fileOf (pool : Array CpInfo) (this : Nat) (attrs : Array Attribute := #[]) (ms : Array MethodInfo := #[]) (fl : Nat := 33) (sup : Nat := 0) (ifs : Array Nat := #[]) (fds : Array FieldInfo := #[]) : ClassFile where
  minorVersion := 0
  majorVersion := 65
  constantPool := pool
  accessFlags := fl
  thisClass := this
  superClass := sup
  interfaces := ifs
  fields := fds
  methods := ms
  attributes := attrs
def plain (name : String) (sup : Option ClassId) : Class where
  name := name
  kind := .ordinary
  loader := none
  accessFlags := 33
  super := sup
  interfaces := #[]
  cf := none
  fields := #[]
  methods := #[]
  instanceTypes := #[]
  staticTypes := #[]
  resolved := #[]
  callSites := []
  init := .initialized
  statics := none
  mirror := none

def pool0 : Array CpInfo := pool [(5, u "<init>"), (0, u "()V"), (1, .class_ 10), (1, u "java/lang/Object")] 113

def k0c0 : Code := { maxStack := 0, maxLocals := 1, code := object_method_1_code, exceptionTable := #[], attributes := #[] }
def k0m0 : Method := { name := "<init>", desc := "()V", sig := { parameters := [], returnType := none }, accessFlags := 1, code := some k0c0 }
/-- java/lang/Object -/
def k0 : Class := { plain "java/lang/Object" none with
  accessFlags := 33
  interfaces := #[]
  cf := some (fileOf pool0 8 #[] #[{ accessFlags := 1, nameIndex := 5, descriptorIndex := 6, attributes := #[] }] 33 0 #[] #[])
  fields := #[]
  methods := #[k0m0]
  instanceTypes := #[]
  staticTypes := #[]
  resolved := Array.replicate 124 none
  statics := none }

def pool1 : Array CpInfo := pool [(2, .class_ 4), (0, .nameAndType 5 6), (0, u "java/lang/Object"), (0, u "<init>"), (0, u "()V"), (0, .integer 1073741823), (0, .class_ 9), (0, u "com/example/tollbook/tollbook/ber/TlvChains"), (0, .methodref 8 3), (0, .methodref 8 12), (0, .nameAndType 13 14), (0, u "reset"), (0, u "(II)V"), (0, .methodref 8 16), (0, .nameAndType 17 18), (0, u "stops"), (0, u "(ILcom/example/tollbook/tollbook/ber/BerException;)V"), (0, .methodref 8 20), (0, .nameAndType 21 22), (0, u "along"), (0, u "(IIII)I"), (0, .methodref 8 24), (0, .nameAndType 25 6), (0, u "forget"), (0, .methodref 8 27), (0, .nameAndType 28 29), (0, u "limit"), (0, u "()I"), (0, .methodref 8 31), (0, .nameAndType 32 33), (0, u "known"), (0, u "(I)Z"), (0, .methodref 8 35), (0, .nameAndType 36 37), (0, u "link"), (0, u "(IIII)V"), (0, .class_ 39), (0, u "com/example/tollbook/tollbook/ber/TlvChainsForgetPinLaw"), (2, u "law"), (0, u "(IIII)Z")] 3

def k1m0 : Method := { name := "<init>", desc := "()V", sig := { parameters := [], returnType := none }, accessFlags := 1, code := none }
def k1c1 : Code := { maxStack := 5, maxLocals := 12, code := code, exceptionTable := #[], attributes := #[] }
def k1m1 : Method := { name := "law", desc := "(IIII)Z", sig := { parameters := [.int, .int, .int, .int], returnType := some .boolean }, accessFlags := 9, code := some k1c1 }
/-- com/example/tollbook/tollbook/ber/TlvChainsForgetPinLaw -/
def k1 : Class := { plain "com/example/tollbook/tollbook/ber/TlvChainsForgetPinLaw" (some 0) with
  accessFlags := 49
  interfaces := #[]
  cf := some (fileOf pool1 38 #[] #[{ accessFlags := 1, nameIndex := 5, descriptorIndex := 6, attributes := #[] }, { accessFlags := 9, nameIndex := 42, descriptorIndex := 43, attributes := #[] }] 49 2 #[] #[])
  fields := #[]
  methods := #[k1m0, k1m1]
  instanceTypes := #[]
  staticTypes := #[]
  resolved := Array.replicate 47 none
  statics := none }

def pool2 : Array CpInfo := pool [(1, .methodref 2 3), (0, .class_ 4), (0, .nameAndType 5 6), (0, u "java/lang/Object"), (0, u "<init>"), (0, u "()V"), (0, .fieldref 8 9), (0, .class_ 10), (0, .nameAndType 11 12), (0, u "com/example/tollbook/tollbook/ber/TlvChains"), (0, u "limit"), (0, u "I"), (0, .fieldref 8 14), (0, .nameAndType 15 16), (0, u "nexts"), (0, u "[I"), (0, .fieldref 8 18), (0, .nameAndType 19 16), (0, u "jumps"), (0, .fieldref 8 21), (0, .nameAndType 22 16), (0, u "depths"), (0, .fieldref 8 24), (0, .nameAndType 25 26), (0, u "tagClasses"), (0, u "[B"), (0, .fieldref 8 28), (0, .nameAndType 29 16), (0, u "tagNumbers"), (0, .fieldref 8 31), (0, .nameAndType 32 16), (0, u "nearest"), (0, .class_ 34), (0, u "com/example/tollbook/tollbook/ber/BerException"), (0, .fieldref 8 36), (0, .nameAndType 37 38), (0, u "failures"), (0, u "[Lcom/example/tollbook/tollbook/ber/BerException;"), (0, .fieldref 8 40), (0, .nameAndType 41 16), (0, u "learnt"), (0, .fieldref 8 43), (0, .nameAndType 44 12), (0, u "soughtClass"), (0, .fieldref 8 46), (0, .nameAndType 47 16), (0, u "path"), (0, .methodref 8 49), (0, .nameAndType 50 6), (0, u "forget"), (0, .fieldref 8 52), (0, .nameAndType 53 12), (0, u "from"), (0, .methodref 8 55), (0, .nameAndType 56 57), (0, u "allocate"), (0, u "(I)V"), (0, .fieldref 8 59), (0, .nameAndType 60 12), (0, u "learntCount"), (0, .methodref 8 62), (0, .nameAndType 63 64), (0, u "learn"), (0, u "(I)I"), (0, .methodref 8 66), (0, .nameAndType 32 67), (0, u "(III)I"), (0, .fieldref 8 69), (0, .nameAndType 70 12), (0, u "soughtNumber"), (0, .methodref 8 72), (0, .nameAndType 73 74), (0, u "hasTag"), (0, u "(III)Z"), (6, u "UNKNOWN"), (2, u "STOP"), (1, u "UNSOUGHT"), (0, u "NONE"), (2, u "reset"), (0, u "(II)V"), (1, u "()I"), (0, u "known"), (0, u "(I)Z"), (0, u "link"), (0, u "(IIII)V"), (1, u "stops"), (0, u "(ILcom/example/tollbook/tollbook/ber/BerException;)V"), (5, u "along"), (0, u "(IIII)I")] 2

def k2c0 : Code := { maxStack := 2, maxLocals := 1, code := prog_32_method_1_code, exceptionTable := #[], attributes := #[] }
def k2m0 : Method := { name := "<init>", desc := "()V", sig := { parameters := [], returnType := none }, accessFlags := 0, code := some k2c0 }
def k2c1 : Code := { maxStack := 3, maxLocals := 3, code := prog_32_method_2_code, exceptionTable := #[], attributes := #[] }
def k2m1 : Method := { name := "reset", desc := "(II)V", sig := { parameters := [.int, .int], returnType := none }, accessFlags := 0, code := some k2c1 }
def k2c2 : Code := { maxStack := 3, maxLocals := 3, code := prog_32_method_3_code, exceptionTable := #[], attributes := #[] }
def k2m2 : Method := { name := "forget", desc := "()V", sig := { parameters := [], returnType := none }, accessFlags := 0, code := some k2c2 }
def k2c3 : Code := { maxStack := 1, maxLocals := 1, code := prog_32_method_4_code, exceptionTable := #[], attributes := #[] }
def k2m3 : Method := { name := "limit", desc := "()I", sig := { parameters := [], returnType := some .int }, accessFlags := 0, code := some k2c3 }
def k2c4 : Code := { maxStack := 3, maxLocals := 2, code := prog_32_method_5_code, exceptionTable := #[], attributes := #[] }
def k2m4 : Method := { name := "known", desc := "(I)Z", sig := { parameters := [.int], returnType := some .boolean }, accessFlags := 0, code := some k2c4 }
def k2c5 : Code := { maxStack := 6, maxLocals := 9, code := prog_32_method_6_code, exceptionTable := #[], attributes := #[] }
def k2m5 : Method := { name := "link", desc := "(IIII)V", sig := { parameters := [.int, .int, .int, .int], returnType := none }, accessFlags := 0, code := some k2c5 }
def k2c6 : Code := { maxStack := 3, maxLocals := 4, code := prog_32_method_7_code, exceptionTable := #[], attributes := #[] }
def k2m6 : Method := { name := "stops", desc := "(ILcom/example/tollbook/tollbook/ber/BerException;)V", sig := { parameters := [.int, (.object "com/example/tollbook/tollbook/ber/BerException")], returnType := none }, accessFlags := 0, code := some k2c6 }
def k2c7 : Code := { maxStack := 4, maxLocals := 7, code := prog_32_method_11_code, exceptionTable := #[], attributes := #[] }
def k2m7 : Method := { name := "along", desc := "(IIII)I", sig := { parameters := [.int, .int, .int, .int], returnType := some .int }, accessFlags := 0, code := some k2c7 }
def k2c8 : Code := { maxStack := 4, maxLocals := 8, code := prog_32_method_12_code, exceptionTable := #[], attributes := #[] }
def k2m8 : Method := { name := "nearest", desc := "(III)I", sig := { parameters := [.int, .int, .int], returnType := some .int }, accessFlags := 2, code := some k2c8 }
def k2c9 : Code := { maxStack := 3, maxLocals := 4, code := prog_32_method_13_code, exceptionTable := #[], attributes := #[] }
def k2m9 : Method := { name := "hasTag", desc := "(III)Z", sig := { parameters := [.int, .int, .int], returnType := some .boolean }, accessFlags := 2, code := some k2c9 }
def k2c10 : Code := { maxStack := 5, maxLocals := 2, code := prog_32_method_14_code, exceptionTable := #[], attributes := #[] }
def k2m10 : Method := { name := "learn", desc := "(I)I", sig := { parameters := [.int], returnType := some .int }, accessFlags := 2, code := some k2c10 }
def k2c11 : Code := { maxStack := 2, maxLocals := 2, code := prog_32_method_15_code, exceptionTable := #[], attributes := #[] }
def k2m11 : Method := { name := "allocate", desc := "(I)V", sig := { parameters := [.int], returnType := none }, accessFlags := 2, code := some k2c11 }
/-- com/example/tollbook/tollbook/ber/TlvChains -/
def k2 : Class := { plain "com/example/tollbook/tollbook/ber/TlvChains" (some 0) with
  accessFlags := 32
  interfaces := #[]
  cf := some (fileOf pool2 8 #[] #[{ accessFlags := 0, nameIndex := 5, descriptorIndex := 6, attributes := #[] }, { accessFlags := 0, nameIndex := 90, descriptorIndex := 91, attributes := #[] }, { accessFlags := 0, nameIndex := 50, descriptorIndex := 6, attributes := #[] }, { accessFlags := 0, nameIndex := 11, descriptorIndex := 93, attributes := #[] }, { accessFlags := 0, nameIndex := 94, descriptorIndex := 95, attributes := #[] }, { accessFlags := 0, nameIndex := 96, descriptorIndex := 97, attributes := #[] }, { accessFlags := 0, nameIndex := 99, descriptorIndex := 100, attributes := #[] }, { accessFlags := 0, nameIndex := 106, descriptorIndex := 107, attributes := #[] }, { accessFlags := 2, nameIndex := 32, descriptorIndex := 67, attributes := #[] }, { accessFlags := 2, nameIndex := 73, descriptorIndex := 74, attributes := #[] }, { accessFlags := 2, nameIndex := 63, descriptorIndex := 64, attributes := #[] }, { accessFlags := 2, nameIndex := 56, descriptorIndex := 57, attributes := #[] }] 32 2 #[] #[{ accessFlags := 26, nameIndex := 81, descriptorIndex := 12, attributes := #[] }, { accessFlags := 26, nameIndex := 84, descriptorIndex := 12, attributes := #[] }, { accessFlags := 26, nameIndex := 86, descriptorIndex := 12, attributes := #[] }, { accessFlags := 26, nameIndex := 87, descriptorIndex := 12, attributes := #[] }, { accessFlags := 2, nameIndex := 53, descriptorIndex := 12, attributes := #[] }, { accessFlags := 2, nameIndex := 11, descriptorIndex := 12, attributes := #[] }, { accessFlags := 2, nameIndex := 15, descriptorIndex := 16, attributes := #[] }, { accessFlags := 2, nameIndex := 19, descriptorIndex := 16, attributes := #[] }, { accessFlags := 2, nameIndex := 22, descriptorIndex := 16, attributes := #[] }, { accessFlags := 2, nameIndex := 25, descriptorIndex := 26, attributes := #[] }, { accessFlags := 2, nameIndex := 29, descriptorIndex := 16, attributes := #[] }, { accessFlags := 2, nameIndex := 32, descriptorIndex := 16, attributes := #[] }, { accessFlags := 2, nameIndex := 37, descriptorIndex := 38, attributes := #[] }, { accessFlags := 2, nameIndex := 41, descriptorIndex := 16, attributes := #[] }, { accessFlags := 2, nameIndex := 60, descriptorIndex := 12, attributes := #[] }, { accessFlags := 2, nameIndex := 44, descriptorIndex := 12, attributes := #[] }, { accessFlags := 2, nameIndex := 70, descriptorIndex := 12, attributes := #[] }, { accessFlags := 2, nameIndex := 47, descriptorIndex := 16, attributes := #[] }])
  fields := #[{ name := "UNKNOWN", type := .int, accessFlags := 26, slot := 0, constantValue := 0 }, { name := "STOP", type := .int, accessFlags := 26, slot := 1, constantValue := 0 }, { name := "UNSOUGHT", type := .int, accessFlags := 26, slot := 2, constantValue := 0 }, { name := "NONE", type := .int, accessFlags := 26, slot := 3, constantValue := 0 }, { name := "from", type := .int, accessFlags := 2, slot := 0, constantValue := 0 }, { name := "limit", type := .int, accessFlags := 2, slot := 1, constantValue := 0 }, { name := "nexts", type := (.array .int), accessFlags := 2, slot := 2, constantValue := 0 }, { name := "jumps", type := (.array .int), accessFlags := 2, slot := 3, constantValue := 0 }, { name := "depths", type := (.array .int), accessFlags := 2, slot := 4, constantValue := 0 }, { name := "tagClasses", type := (.array .byte), accessFlags := 2, slot := 5, constantValue := 0 }, { name := "tagNumbers", type := (.array .int), accessFlags := 2, slot := 6, constantValue := 0 }, { name := "nearest", type := (.array .int), accessFlags := 2, slot := 7, constantValue := 0 }, { name := "failures", type := (.array (.object "com/example/tollbook/tollbook/ber/BerException")), accessFlags := 2, slot := 8, constantValue := 0 }, { name := "learnt", type := (.array .int), accessFlags := 2, slot := 9, constantValue := 0 }, { name := "learntCount", type := .int, accessFlags := 2, slot := 10, constantValue := 0 }, { name := "soughtClass", type := .int, accessFlags := 2, slot := 11, constantValue := 0 }, { name := "soughtNumber", type := .int, accessFlags := 2, slot := 12, constantValue := 0 }, { name := "path", type := (.array .int), accessFlags := 2, slot := 13, constantValue := 0 }]
  methods := #[k2m0, k2m1, k2m2, k2m3, k2m4, k2m5, k2m6, k2m7, k2m8, k2m9, k2m10, k2m11]
  instanceTypes := #[.int, .int, (.array .int), (.array .int), (.array .int), (.array .byte), (.array .int), (.array .int), (.array (.object "com/example/tollbook/tollbook/ber/BerException")), (.array .int), .int, .int, .int, (.array .int)]
  staticTypes := #[.int, .int, .int, .int]
  resolved := Array.replicate 110 none
  statics := none }

def pool3 : Array CpInfo := pool [(1, .class_ 2), (0, u "java/io/Serializable"), (0, .class_ 4), (0, u "java/lang/Object")] 2

/-- java/io/Serializable -/
def k3 : Class := { plain "java/io/Serializable" (some 0) with
  accessFlags := 1537
  interfaces := #[]
  cf := some (fileOf pool3 1 #[] #[] 1537 3 #[] #[])
  fields := #[]
  methods := #[]
  instanceTypes := #[]
  staticTypes := #[]
  resolved := Array.replicate 7 none
  statics := none }

def pool4 : Array CpInfo := pool [(2, .class_ 4), (1, u "java/lang/Object"), (0, u "<init>"), (0, u "()V"), (1, .class_ 10), (1, u "java/lang/Throwable"), (0, u "cause"), (0, u "Ljava/lang/Throwable;"), (2, u "UNASSIGNED_STACK"), (0, u "[Ljava/lang/StackTraceElement;"), (2, u "stackTrace"), (2, u "SUPPRESSED_SENTINEL"), (0, u "Ljava/util/List;"), (2, u "suppressedExceptions"), (6, u "detailMessage"), (0, u "Ljava/lang/String;"), (58, .class_ 94), (0, u "java/lang/Throwable$WrappedPrintStream"), (6, .class_ 103), (1, u "java/lang/Throwable$PrintStreamOrWriter"), (61, u "$assertionsDisabled"), (0, u "Z"), (26, .class_ 194), (0, u "java/lang/Throwable$WrappedPrintWriter"), (5, u "backtrace"), (0, u "Ljava/lang/Object;"), (9, u "depth"), (0, u "I"), (56, .class_ 271), (1, u "java/lang/Throwable$SentinelHolder"), (32, u "EMPTY_THROWABLE_ARRAY"), (0, u "[Ljava/lang/Throwable;"), (12, .class_ 319), (0, u "java/io/Serializable"), (0, u "serialVersionUID"), (0, u "J"), (5, u "NULL_CAUSE_MESSAGE"), (0, u "SELF_SUPPRESSION_MESSAGE"), (0, u "CAUSE_CAPTION"), (0, u "SUPPRESSED_CAPTION")] 73

def k4m0 : Method := { name := "<init>", desc := "()V", sig := { parameters := [], returnType := none }, accessFlags := 1, code := none }
/-- java/lang/Throwable -/
def k4 : Class := { plain "java/lang/Throwable" (some 0) with
  accessFlags := 33
  interfaces := #[3]
  cf := some (fileOf pool4 8 #[.nestMembers #[193, 93, 101, 269]] #[{ accessFlags := 1, nameIndex := 5, descriptorIndex := 6, attributes := #[] }] 33 2 #[318] #[{ accessFlags := 26, nameIndex := 320, descriptorIndex := 321, attributes := #[] }, { accessFlags := 130, nameIndex := 200, descriptorIndex := 201, attributes := #[] }, { accessFlags := 2, nameIndex := 33, descriptorIndex := 34, attributes := #[] }, { accessFlags := 26, nameIndex := 15, descriptorIndex := 16, attributes := #[] }, { accessFlags := 2, nameIndex := 11, descriptorIndex := 12, attributes := #[] }, { accessFlags := 2, nameIndex := 19, descriptorIndex := 16, attributes := #[] }, { accessFlags := 130, nameIndex := 211, descriptorIndex := 212, attributes := #[] }, { accessFlags := 26, nameIndex := 22, descriptorIndex := 23, attributes := #[] }, { accessFlags := 2, nameIndex := 26, descriptorIndex := 23, attributes := #[] }, { accessFlags := 26, nameIndex := 327, descriptorIndex := 34, attributes := #[] }, { accessFlags := 26, nameIndex := 328, descriptorIndex := 34, attributes := #[] }, { accessFlags := 26, nameIndex := 329, descriptorIndex := 34, attributes := #[] }, { accessFlags := 26, nameIndex := 330, descriptorIndex := 34, attributes := #[] }, { accessFlags := 26, nameIndex := 304, descriptorIndex := 305, attributes := #[] }, { accessFlags := 4120, nameIndex := 165, descriptorIndex := 166, attributes := #[] }])
  fields := #[{ name := "serialVersionUID", type := .long, accessFlags := 26, slot := 0, constantValue := 0 }, { name := "backtrace", type := (.object "java/lang/Object"), accessFlags := 130, slot := 0, constantValue := 0 }, { name := "detailMessage", type := (.object "java/lang/String"), accessFlags := 2, slot := 1, constantValue := 0 }, { name := "UNASSIGNED_STACK", type := (.array (.object "java/lang/StackTraceElement")), accessFlags := 26, slot := 1, constantValue := 0 }, { name := "cause", type := (.object "java/lang/Throwable"), accessFlags := 2, slot := 2, constantValue := 0 }, { name := "stackTrace", type := (.array (.object "java/lang/StackTraceElement")), accessFlags := 2, slot := 3, constantValue := 0 }, { name := "depth", type := .int, accessFlags := 130, slot := 4, constantValue := 0 }, { name := "SUPPRESSED_SENTINEL", type := (.object "java/util/List"), accessFlags := 26, slot := 2, constantValue := 0 }, { name := "suppressedExceptions", type := (.object "java/util/List"), accessFlags := 2, slot := 5, constantValue := 0 }, { name := "NULL_CAUSE_MESSAGE", type := (.object "java/lang/String"), accessFlags := 26, slot := 3, constantValue := 0 }, { name := "SELF_SUPPRESSION_MESSAGE", type := (.object "java/lang/String"), accessFlags := 26, slot := 4, constantValue := 0 }, { name := "CAUSE_CAPTION", type := (.object "java/lang/String"), accessFlags := 26, slot := 5, constantValue := 0 }, { name := "SUPPRESSED_CAPTION", type := (.object "java/lang/String"), accessFlags := 26, slot := 6, constantValue := 0 }, { name := "EMPTY_THROWABLE_ARRAY", type := (.array (.object "java/lang/Throwable")), accessFlags := 26, slot := 7, constantValue := 0 }, { name := "$assertionsDisabled", type := .boolean, accessFlags := 4120, slot := 8, constantValue := 0 }]
  methods := #[k4m0]
  instanceTypes := #[(.object "java/lang/Object"), (.object "java/lang/String"), (.object "java/lang/Throwable"), (.array (.object "java/lang/StackTraceElement")), .int, (.object "java/util/List")]
  staticTypes := #[.long, (.array (.object "java/lang/StackTraceElement")), (.object "java/util/List"), (.object "java/lang/String"), (.object "java/lang/String"), (.object "java/lang/String"), (.object "java/lang/String"), (.array (.object "java/lang/Throwable")), .boolean]
  resolved := Array.replicate 404 none
  statics := none }

def pool5 : Array CpInfo := pool [(2, .class_ 4), (1, u "java/lang/Throwable"), (0, u "<init>"), (0, u "()V"), (12, .class_ 20), (0, u "java/lang/Exception"), (0, u "serialVersionUID"), (0, u "J")] 17

def k5m0 : Method := { name := "<init>", desc := "()V", sig := { parameters := [], returnType := none }, accessFlags := 1, code := none }
/-- java/lang/Exception -/
def k5 : Class := { plain "java/lang/Exception" (some 4) with
  accessFlags := 33
  interfaces := #[]
  cf := some (fileOf pool5 19 #[] #[{ accessFlags := 1, nameIndex := 5, descriptorIndex := 6, attributes := #[] }] 33 2 #[] #[{ accessFlags := 24, nameIndex := 21, descriptorIndex := 22, attributes := #[] }])
  fields := #[{ name := "serialVersionUID", type := .long, accessFlags := 24, slot := 0, constantValue := 0 }]
  methods := #[k5m0]
  instanceTypes := #[(.object "java/lang/Object"), (.object "java/lang/String"), (.object "java/lang/Throwable"), (.array (.object "java/lang/StackTraceElement")), .int, (.object "java/util/List")]
  staticTypes := #[.long]
  resolved := Array.replicate 40 none
  statics := none }

def pool6 : Array CpInfo := pool [(2, .class_ 4), (1, u "java/lang/Exception"), (3, .class_ 10), (1, u "com/example/tollbook/tollbook/ber/BerException"), (0, u "shortBy"), (0, u "J"), (0, u "serialVersionUID")] 12

/-- com/example/tollbook/tollbook/ber/BerException -/
def k6 : Class := { plain "com/example/tollbook/tollbook/ber/BerException" (some 5) with
  accessFlags := 33
  interfaces := #[]
  cf := some (fileOf pool6 8 #[] #[] 33 2 #[] #[{ accessFlags := 26, nameIndex := 13, descriptorIndex := 12, attributes := #[] }, { accessFlags := 18, nameIndex := 11, descriptorIndex := 12, attributes := #[] }])
  fields := #[{ name := "serialVersionUID", type := .long, accessFlags := 26, slot := 0, constantValue := 0 }, { name := "shortBy", type := .long, accessFlags := 18, slot := 6, constantValue := 0 }]
  methods := #[]
  instanceTypes := #[(.object "java/lang/Object"), (.object "java/lang/String"), (.object "java/lang/Throwable"), (.array (.object "java/lang/StackTraceElement")), .int, (.object "java/util/List"), .long]
  staticTypes := #[.long]
  resolved := Array.replicate 26 none
  statics := none }

def pool7 : Array CpInfo := pool [(1, u "java/lang/Cloneable"), (0, .class_ 1), (0, u "java/lang/Object"), (0, .class_ 3)] 3

/-- java/lang/Cloneable -/
def k7 : Class := { plain "java/lang/Cloneable" (some 0) with
  accessFlags := 1537
  interfaces := #[]
  cf := some (fileOf pool7 2 #[] #[] 1537 4 #[] #[])
  fields := #[]
  methods := #[]
  instanceTypes := #[]
  staticTypes := #[]
  resolved := Array.replicate 8 none
  statics := none }

/-- the primitive byte -/
def k8 : Class := { plain "byte" none with kind := .primitive 'B', accessFlags := 0x411 }
/-- [B -/
def k9 : Class := { plain "[B" (some 0) with kind := .array 8 .byte, interfaces := #[7, 3], accessFlags := 1041 }

/-- the primitive int -/
def k10 : Class := { plain "int" none with kind := .primitive 'I', accessFlags := 0x411 }
/-- [I -/
def k11 : Class := { plain "[I" (some 0) with kind := .array 10 .int, interfaces := #[7, 3], accessFlags := 1041 }

/-- [Lcom/example/tollbook/tollbook/ber/BerException; -/
def k12 : Class := { plain "[Lcom/example/tollbook/tollbook/ber/BerException;" (some 0) with kind := .array 6 (.object "com/example/tollbook/tollbook/ber/BerException"), interfaces := #[7, 3], accessFlags := 1041 }

def heap : Heap := #[]
def classes : Array Class := #[k0, k1, k2, k3, k4, k5, k6, k7, k8, k9, k10, k11, k12]
def interned : List (Array UInt16 × Addr) := []
def slotsUsed : Nat := 0
def theMethod : MethodId := ⟨1, 1⟩
def args0 : Array Value := #[.int 3, .int 9, .int 3, .int 1]
def aboutOver (below : List Frame) : State where
  vm := { classes := classes, interned := interned.toArray }
  heap := heap
  slotsUsed := slotsUsed
  threads := #[{ frames := .invoking theMethod args0 :: below }]
def below0 : List Frame := [.native { method := ⟨0, 0⟩, args := #[] }]
def about1 : State := aboutOver below0
def p0 : Program := .bare "" "" ""
def e0 : Env := launch0.env 0 0 0
theorem w_frames : about1.frames = Frame.invoking theMethod args0 :: below0 := rfl
set_option maxRecDepth 65536 in
theorem w_args : argsFit about1.vm theMethod args0 = true := by decide +kernel
set_option maxRecDepth 65536 in
theorem w_heap : heapFits about1 = true := by decide +kernel
set_option maxRecDepth 65536 in
theorem w_runnable : about1.curStatus? = some .runnable := by decide +kernel
set_option maxRecDepth 65536 in
theorem w_alone : about1.alone = true := by decide +kernel
set_option maxRecDepth 65536 in
theorem w_named : about1.methodNamed? x = some theMethod := by decide +kernel
set_option maxRecDepth 65536 in
theorem w_hears : about1.hears theMethod below0 = true := by decide +kernel
set_option maxRecDepth 65536 in
theorem w_ripe : about1.ripe theMethod args0 below0 = true := by decide +kernel
theorem w_running : about1.status = .running := rfl
set_option maxRecDepth 65536 in
theorem w_room : about1.hasRoom e0.platform room_1 = true :=
  launch0.hasRoom_least _ room_1 (by decide +kernel) (by decide +kernel) (by decide +kernel) (by decide +kernel) (by decide +kernel) (by decide +kernel)
theorem allAtoms_all (ts : List Jvm.Cond) (a : Array Jvm.Value) (st : Jvm.State) : (allAtoms ts).before a st = ts.all (fun c => c.before a st) := by
  induction ts with
  | nil => rfl
  | cons c t ih =>
    show (Jvm.Cond.and c (allAtoms t)).before a st = _
    rw [Jvm.Cond.before_and, ih, List.all_cons]
def words1 : List Jvm.Cond := Jvm.Cond.code x code maxLocals ret :: tables_1
/-- a 'code' word, met by the world's own term for the bytes: nothing is compared byte by byte -/
theorem code_word {y : MethodName} {bytes : ByteArray} {mx : Nat} {rt : Option FieldType} {a : Array Value} {s : State} {m : MethodId} {meth : Method} {c : Code} (h1 : s.methodNamed? y = some m) (h2 : s.vm.method? m = some meth) (h3 : meth.code = some c) (h4 : c.code = bytes)
    (h5 : (c.maxLocals == mx && c.exceptionTable.isEmpty && decide (c.maxStack ≤ mostOperands) && decide (meth.sig.returnType = rt) && !meth.locks && decide (parseMethodDescriptor y.desc = some meth.sig)) = true) : (Jvm.Cond.code y bytes mx rt).before a s = true := by
  simp only [Bool.and_eq_true, beq_iff_eq, Bool.not_eq_true', decide_eq_true_eq] at h5
  obtain ⟨⟨⟨⟨⟨g1, g2⟩, g3⟩, g4⟩, g5⟩, g6⟩ := h5
  simp [Cond.before, Cond.holds, Cond.value, h1, h2, h3, h4, g1, g2, g3, g4, g5, g6]
def isCode : Jvm.Cond → Bool
  | .code _ _ _ _ => true
  | _ => false
theorem all_split {L : List Jvm.Cond} {P : Jvm.Cond → Bool} (h1 : L.all (fun c => isCode c || P c) = true) (h2 : ∀ c ∈ L.filter isCode, P c = true) : L.all P = true := by
  refine List.all_eq_true.mpr fun c hc => ?_
  have h := List.all_eq_true.mp h1 c hc
  rcases Bool.eq_false_or_eq_true (isCode c) with hi | hi
  · exact h2 c (List.mem_filter.mpr ⟨hc, hi⟩)
  · simpa [hi] using h
set_option maxRecDepth 65536 in
theorem w_c0 : (Jvm.Cond.code x code maxLocals ret).before args0 about1 = true := code_word (m := ⟨1, 1⟩) (meth := k1m1) (c := k1c1) (by decide +kernel) rfl rfl rfl (by decide +kernel)
set_option maxRecDepth 65536 in
theorem w_c1 : (Jvm.Cond.code ({ cls := "com/example/tollbook/tollbook/ber/TlvChains", name := "<init>", desc := "()V" } : Jvm.MethodName) prog_32_method_1_code (1 : Nat) (Option.none : Option Jvm.ClassFile.FieldType)).before args0 about1 = true := code_word (m := ⟨2, 0⟩) (meth := k2m0) (c := k2c0) (by decide +kernel) rfl rfl rfl (by decide +kernel)
set_option maxRecDepth 65536 in
theorem w_c2 : (Jvm.Cond.code ({ cls := "java/lang/Object", name := "<init>", desc := "()V" } : Jvm.MethodName) object_method_1_code (1 : Nat) (Option.none : Option Jvm.ClassFile.FieldType)).before args0 about1 = true := code_word (m := ⟨0, 0⟩) (meth := k0m0) (c := k0c0) (by decide +kernel) rfl rfl rfl (by decide +kernel)
set_option maxRecDepth 65536 in
theorem w_c3 : (Jvm.Cond.code ({ cls := "com/example/tollbook/tollbook/ber/TlvChains", name := "reset", desc := "(II)V" } : Jvm.MethodName) prog_32_method_2_code (3 : Nat) (Option.none : Option Jvm.ClassFile.FieldType)).before args0 about1 = true := code_word (m := ⟨2, 1⟩) (meth := k2m1) (c := k2c1) (by decide +kernel) rfl rfl rfl (by decide +kernel)
set_option maxRecDepth 65536 in
theorem w_c4 : (Jvm.Cond.code ({ cls := "com/example/tollbook/tollbook/ber/TlvChains", name := "forget", desc := "()V" } : Jvm.MethodName) prog_32_method_3_code (3 : Nat) (Option.none : Option Jvm.ClassFile.FieldType)).before args0 about1 = true := code_word (m := ⟨2, 2⟩) (meth := k2m2) (c := k2c2) (by decide +kernel) rfl rfl rfl (by decide +kernel)
set_option maxRecDepth 65536 in
theorem w_c5 : (Jvm.Cond.code ({ cls := "com/example/tollbook/tollbook/ber/TlvChains", name := "allocate", desc := "(I)V" } : Jvm.MethodName) prog_32_method_15_code (2 : Nat) (Option.none : Option Jvm.ClassFile.FieldType)).before args0 about1 = true := code_word (m := ⟨2, 11⟩) (meth := k2m11) (c := k2c11) (by decide +kernel) rfl rfl rfl (by decide +kernel)
set_option maxRecDepth 65536 in
theorem w_c6 : (Jvm.Cond.code ({ cls := "com/example/tollbook/tollbook/ber/TlvChains", name := "stops", desc := "(ILcom/example/tollbook/tollbook/ber/BerException;)V" } : Jvm.MethodName) prog_32_method_7_code (4 : Nat) (Option.none : Option Jvm.ClassFile.FieldType)).before args0 about1 = true := code_word (m := ⟨2, 6⟩) (meth := k2m6) (c := k2c6) (by decide +kernel) rfl rfl rfl (by decide +kernel)
set_option maxRecDepth 65536 in
theorem w_c7 : (Jvm.Cond.code ({ cls := "com/example/tollbook/tollbook/ber/TlvChains", name := "learn", desc := "(I)I" } : Jvm.MethodName) prog_32_method_14_code (2 : Nat) (Option.some Jvm.ClassFile.FieldType.int)).before args0 about1 = true := code_word (m := ⟨2, 10⟩) (meth := k2m10) (c := k2c10) (by decide +kernel) rfl rfl rfl (by decide +kernel)
set_option maxRecDepth 65536 in
theorem w_c8 : (Jvm.Cond.code ({ cls := "com/example/tollbook/tollbook/ber/TlvChains", name := "along", desc := "(IIII)I" } : Jvm.MethodName) prog_32_method_11_code (7 : Nat) (Option.some Jvm.ClassFile.FieldType.int)).before args0 about1 = true := code_word (m := ⟨2, 7⟩) (meth := k2m7) (c := k2c7) (by decide +kernel) rfl rfl rfl (by decide +kernel)
set_option maxRecDepth 65536 in
theorem w_c9 : (Jvm.Cond.code ({ cls := "com/example/tollbook/tollbook/ber/TlvChains", name := "nearest", desc := "(III)I" } : Jvm.MethodName) prog_32_method_12_code (8 : Nat) (Option.some Jvm.ClassFile.FieldType.int)).before args0 about1 = true := code_word (m := ⟨2, 8⟩) (meth := k2m8) (c := k2c8) (by decide +kernel) rfl rfl rfl (by decide +kernel)
set_option maxRecDepth 65536 in
theorem w_c10 : (Jvm.Cond.code ({ cls := "com/example/tollbook/tollbook/ber/TlvChains", name := "limit", desc := "()I" } : Jvm.MethodName) prog_32_method_4_code (1 : Nat) (Option.some Jvm.ClassFile.FieldType.int)).before args0 about1 = true := code_word (m := ⟨2, 3⟩) (meth := k2m3) (c := k2c3) (by decide +kernel) rfl rfl rfl (by decide +kernel)
set_option maxRecDepth 65536 in
theorem w_c11 : (Jvm.Cond.code ({ cls := "com/example/tollbook/tollbook/ber/TlvChains", name := "known", desc := "(I)Z" } : Jvm.MethodName) prog_32_method_5_code (2 : Nat) (Option.some Jvm.ClassFile.FieldType.boolean)).before args0 about1 = true := code_word (m := ⟨2, 4⟩) (meth := k2m4) (c := k2c4) (by decide +kernel) rfl rfl rfl (by decide +kernel)
set_option maxRecDepth 65536 in
theorem w_c12 : (Jvm.Cond.code ({ cls := "com/example/tollbook/tollbook/ber/TlvChains", name := "link", desc := "(IIII)V" } : Jvm.MethodName) prog_32_method_6_code (9 : Nat) (Option.none : Option Jvm.ClassFile.FieldType)).before args0 about1 = true := code_word (m := ⟨2, 5⟩) (meth := k2m5) (c := k2c5) (by decide +kernel) rfl rfl rfl (by decide +kernel)
set_option maxRecDepth 65536 in
theorem w_c13 : (Jvm.Cond.code ({ cls := "com/example/tollbook/tollbook/ber/TlvChains", name := "hasTag", desc := "(III)Z" } : Jvm.MethodName) prog_32_method_13_code (4 : Nat) (Option.some Jvm.ClassFile.FieldType.boolean)).before args0 about1 = true := code_word (m := ⟨2, 9⟩) (meth := k2m9) (c := k2c9) (by decide +kernel) rfl rfl rfl (by decide +kernel)
def codes1 : List Jvm.Cond := [Jvm.Cond.code x code maxLocals ret, Jvm.Cond.code ({ cls := "com/example/tollbook/tollbook/ber/TlvChains", name := "<init>", desc := "()V" } : Jvm.MethodName) prog_32_method_1_code (1 : Nat) (Option.none : Option Jvm.ClassFile.FieldType), Jvm.Cond.code ({ cls := "java/lang/Object", name := "<init>", desc := "()V" } : Jvm.MethodName) object_method_1_code (1 : Nat) (Option.none : Option Jvm.ClassFile.FieldType), Jvm.Cond.code ({ cls := "com/example/tollbook/tollbook/ber/TlvChains", name := "reset", desc := "(II)V" } : Jvm.MethodName) prog_32_method_2_code (3 : Nat) (Option.none : Option Jvm.ClassFile.FieldType), Jvm.Cond.code ({ cls := "com/example/tollbook/tollbook/ber/TlvChains", name := "forget", desc := "()V" } : Jvm.MethodName) prog_32_method_3_code (3 : Nat) (Option.none : Option Jvm.ClassFile.FieldType), Jvm.Cond.code ({ cls := "com/example/tollbook/tollbook/ber/TlvChains", name := "allocate", desc := "(I)V" } : Jvm.MethodName) prog_32_method_15_code (2 : Nat) (Option.none : Option Jvm.ClassFile.FieldType), Jvm.Cond.code ({ cls := "com/example/tollbook/tollbook/ber/TlvChains", name := "stops", desc := "(ILcom/example/tollbook/tollbook/ber/BerException;)V" } : Jvm.MethodName) prog_32_method_7_code (4 : Nat) (Option.none : Option Jvm.ClassFile.FieldType), Jvm.Cond.code ({ cls := "com/example/tollbook/tollbook/ber/TlvChains", name := "learn", desc := "(I)I" } : Jvm.MethodName) prog_32_method_14_code (2 : Nat) (Option.some Jvm.ClassFile.FieldType.int), Jvm.Cond.code ({ cls := "com/example/tollbook/tollbook/ber/TlvChains", name := "along", desc := "(IIII)I" } : Jvm.MethodName) prog_32_method_11_code (7 : Nat) (Option.some Jvm.ClassFile.FieldType.int), Jvm.Cond.code ({ cls := "com/example/tollbook/tollbook/ber/TlvChains", name := "nearest", desc := "(III)I" } : Jvm.MethodName) prog_32_method_12_code (8 : Nat) (Option.some Jvm.ClassFile.FieldType.int), Jvm.Cond.code ({ cls := "com/example/tollbook/tollbook/ber/TlvChains", name := "limit", desc := "()I" } : Jvm.MethodName) prog_32_method_4_code (1 : Nat) (Option.some Jvm.ClassFile.FieldType.int), Jvm.Cond.code ({ cls := "com/example/tollbook/tollbook/ber/TlvChains", name := "known", desc := "(I)Z" } : Jvm.MethodName) prog_32_method_5_code (2 : Nat) (Option.some Jvm.ClassFile.FieldType.boolean), Jvm.Cond.code ({ cls := "com/example/tollbook/tollbook/ber/TlvChains", name := "link", desc := "(IIII)V" } : Jvm.MethodName) prog_32_method_6_code (9 : Nat) (Option.none : Option Jvm.ClassFile.FieldType), Jvm.Cond.code ({ cls := "com/example/tollbook/tollbook/ber/TlvChains", name := "hasTag", desc := "(III)Z" } : Jvm.MethodName) prog_32_method_13_code (4 : Nat) (Option.some Jvm.ClassFile.FieldType.boolean)]
set_option maxRecDepth 65536 in
theorem codes_eq : words1.filter isCode = codes1 := rfl
theorem w_codes : ∀ c ∈ words1.filter isCode, c.before args0 about1 = true := by
  rw [codes_eq]
  intro c hc
  simp only [codes1, List.mem_cons, List.not_mem_nil, or_false] at hc
  rcases hc with rfl | rfl | rfl | rfl | rfl | rfl | rfl | rfl | rfl | rfl | rfl | rfl | rfl | rfl
  · exact w_c0
  · exact w_c1
  · exact w_c2
  · exact w_c3
  · exact w_c4
  · exact w_c5
  · exact w_c6
  · exact w_c7
  · exact w_c8
  · exact w_c9
  · exact w_c10
  · exact w_c11
  · exact w_c12
  · exact w_c13
set_option maxRecDepth 65536 in
theorem w_t1 : (words1.take 24).all (fun c => isCode c || c.before args0 about1) = true := by decide +kernel
set_option maxRecDepth 65536 in
theorem w_t2 : ((words1.drop 24).take 24).all (fun c => isCode c || c.before args0 about1) = true := by decide +kernel
set_option maxRecDepth 65536 in
theorem w_t3 : (((words1.drop 24).drop 24).take 24).all (fun c => isCode c || c.before args0 about1) = true := by decide +kernel
set_option maxRecDepth 65536 in
theorem w_t4 : (((words1.drop 24).drop 24).drop 24).all (fun c => isCode c || c.before args0 about1) = true := by decide +kernel
theorem w_tables : (allAtoms (Jvm.Cond.code x code maxLocals ret :: tables_1)).before args0 about1 = true := by
  rw [allAtoms_all]
  show words1.all (fun c => c.before args0 about1) = true
  refine all_split ?_ w_codes
  rw [← List.take_append_drop 24 words1, List.all_append, w_t1, ← List.take_append_drop 24 (words1.drop 24), List.all_append, w_t2, ← List.take_append_drop 24 ((words1.drop 24).drop 24), List.all_append, w_t3, w_t4]
  rfl
set_option maxRecDepth 65536 in
theorem w_case : (Jvm.Cond.and given_1 narrow_1).before args0 about1 = true := by decide +kernel
theorem w_applies : (headSpec (Jvm.Cond.code x code maxLocals ret :: tables_1) room_1).applies x e0.platform about1 = true :=
  (Spec.applies_iff w_frames).mpr ⟨w_running, w_runnable, w_alone, w_named, w_hears, w_ripe, w_room, w_tables⟩
theorem atStart : AtStart classFile x code maxLocals ret World_1 tables_1 room_1 Calls_1 rest_1 Pre_1 launch0 p0 e0 about1 theMethod args0 below0 :=
  ⟨lists_1, trivial, launch0.admits_env _ _ _, launch0.least_env, fairChoices_fair.cas, fairChoices_fair.clock, w_frames, w_args, w_heap, w_applies, trivial, trivial, w_case⟩
end start1
theorem witness_1 : WitnessClaimed_1 := ⟨start1.p0, start1.e0, start1.about1, start1.theMethod, start1.args0, start1.below0, start1.atStart⟩
end Jvm.Pilot.@@N@@
