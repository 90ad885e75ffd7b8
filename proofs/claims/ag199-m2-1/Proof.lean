import JvmDerived
import JvmDerived.Pilot.@@N@@Statement
import JvmDerived.Pilot.@@N@@Code
set_option linter.unusedVariables false
set_option linter.unusedSimpArgs false
namespace Jvm.Pilot.@@N@@
open Jvm Jvm.ClassFile Sem Op Lib Jvm.Free Jvm.Stand Jvm.LawKit Jvm.RoadKit Bundle Jvm.Pilot.@@N@@.Jvm.D
/-- one invocation: program, environment, the state at the invocation, method, arguments, the frames below, the method's record, its code -/
abbrev OG := Program × Env × State × MethodId × Array Value × List Frame × Method × Code
/-- the whole run: the launch, the heap's size at the law's start, the law's arguments -/
abbrev OW := Launch × Nat × Array Value
/-- one method: its bytes, its number of locals, its class, its name, what it returns, the room it asks -/
abbrev OM := ByteArray × Nat × String × String × Option FieldType × Room
/-- where a walk stands -/
def oSt (Z : State) (ω : OW) (γ : OG) (κ : OM) (T : State) (h : Heap) (cs ss : Nat) : Prop :=
  γ.1.tables.exec = Jvm.exec ∧ γ.2.2.2.2.2.2.2.code = κ.1 ∧ γ.2.2.2.2.2.2.2.maxLocals = κ.2.1 ∧ γ.2.2.1.vm.findClass κ.2.2.1 = some γ.2.2.2.1.cls ∧ γ.2.2.2.2.2.2.1.name = κ.2.2.2.1 ∧
  γ.2.2.2.2.2.2.1.sig.returnType = κ.2.2.2.2.1 ∧ γ.2.2.2.2.2.2.1.locks = false ∧ Z.Warmed39 γ.2.2.1.vm ∧ (∀ d ∈ tables_1, d.before ω.2.2 Z = true) ∧ ω.2.1 ≤ γ.2.2.1.heap.size ∧ T.heap = h ∧
  ∃ locs, Stand γ.1 ω.1 γ.2.1 κ.2.2.2.2.2 γ.2.2.1 γ.2.2.2.1 γ.2.2.2.2.1 γ.2.2.2.2.2.1 γ.2.2.2.2.2.2.1 γ.2.2.2.2.2.2.2 T locs cs ss ∧ Fr ω.2.1 locs
/-- from here the method returns, and Q holds of what it returns and of the heap it leaves -/
def oWP (ω : OW) (γ : OG) (κ : OM) (Q : Option Value → Heap → Prop) (T : State) (pc : Nat) (L : Array Slot) (S : List Value) : Prop :=
  ∃ s₂ o, Steps γ.1.tables γ.2.1 γ.2.2.2.2.2.1 (T.setTop (mkF γ.2.2.2.1 pc L S)) s₂ ∧ s₂.status = .running ∧ Ended s₂ γ.2.2.2.2.2.1 o ∧
    ∃ v Lc, o = .returned v ∧ (Fr ω.2.1 Lc ∧ Q v s₂.heap) ∧ FrameEnd γ.2.2.1 o s₂ Lc κ.2.2.2.2.2.cells κ.2.2.2.2.2.slots
/-- a method's contract -/
def oC (Z : State) (ω : OW) (y : MethodName) (κ : OM) (ws : List Jvm.Cond) (as : Array Value) (h : Heap) (Q : Option Value → Heap → Prop) : Prop :=
  MetFree ω.1 y (head1 (Jvm.Cond.code y κ.1 κ.2.1 κ.2.2.2.2.1 :: ws) κ.2.2.2.2.2) (fun a U => a = as ∧ Z.Warmed39 U.vm ∧ U.heap = h) (fun _ _ _ _ _ => True)
    (fun _ U o U' => ∃ v Lc, o = .returned v ∧ (Fr ω.2.1 Lc ∧ Q v U'.heap) ∧ FrameEnd U o U' Lc κ.2.2.2.2.2.cells κ.2.2.2.2.2.slots)
theorem oC_of {Z : State} {ω : OW} {y : MethodName} {κ : OM} {ws : List Jvm.Cond} {as : Array Value} {h : Heap} {Q : Option Value → Heap → Prop} {L : Array Slot} (hw : ∀ d ∈ tables_1, d.before ω.2.2 Z = true) (hn0 : ω.2.1 ≤ h.size)
    (hpn : plainFor y = true) (hcl : κ.2.2.1 = y.cls) (hnm : κ.2.2.2.1 = y.name) (hef : ∀ m, entryFrame m as κ.2.1 = mkF m 0 L []) (body : ∀ γ T, oSt Z ω γ κ T h 0 0 → oWP ω γ κ Q T 0 L []) : oC Z ω y κ ws as h Q := by
  refine MetFree.of_bodySF hpn hisR ?_
  intro p e s m args below meth c s₁ Bd hml0 hP hK
  obtain ⟨rfl, hZ, hh⟩ := hP
  have hown : s.vm.findClass y.cls = some m.cls := findClass_of_methodNamed Bd.named
  have hnm' := (name_of_methodNamed Bd.named Bd.method).1
  have X0 := Stand.of_body Bd
  have e0 : s₁.heap = h := by rw [← hh, Bd.state]; rfl
  have hlk : meth.locks = false := BodyLoose.notSynchronized Bd
  obtain ⟨s₂, o, h1, h2, h3, h4⟩ := body (p, e, s, m, args, below, meth, c) s₁ ⟨Bd.exec, Bd.bytes, hml0, by rw [hcl]; exact hown, by rw [hnm]; exact hnm', Bd.returns, hlk, hZ, hw, by rw [hh]; exact hn0, e0, [], X0, Fr.nil _⟩
  exact ⟨s₂, o, castTop (hef m) h1, h2, h3, h4⟩
section Walk
variable {Z : State} {ω : OW} {γ : OG} {κ : OM} {Q : Option Value → Heap → Prop} {T : State} {h : Heap} {cs ss : Nat} {pc : Nat} {L : Array Slot} {S : List Value}
theorem oSt_n0 (X : oSt Z ω γ κ T h cs ss) : ω.2.1 ≤ h.size := by
  obtain ⟨-, -, -, -, -, -, -, -, -, hn0, hT, locs, Y, -⟩ := X
  have q : γ.2.2.1.heap.size ≤ T.heap.size := Y.same.2.1
  rw [hT] at q
  exact Nat.le_trans hn0 q
theorem oSt_w (X : oSt Z ω γ κ T h cs ss) : ∀ d ∈ tables_1, d.before ω.2.2 Z = true := by
  obtain ⟨-, -, -, -, -, -, -, -, hw, -⟩ := X; exact hw
theorem oSt_at (X : oSt Z ω γ κ T h cs ss) (i : Nat) {d : Jvm.Cond} (hi : tables_1[i]? = some d) : d.before ω.2.2 Z = true := oSt_w X _ (List.mem_of_getElem? hi)
theorem ow_iload (X : oSt Z ω γ κ T h cs ss) (pc' : Nat) {k : Nat} {v : Int32} (hd : decode κ.1 pc = .ok (.iload k, 2)) (hp : pc + 2 = pc') (hl : L[k]? = some (.val (.int v)))
    (K : oWP ω γ κ Q T pc' L (.int v :: S)) : oWP ω γ κ Q T pc L (S) := by
  obtain ⟨hx, hby, -, -, -, -, -, -, -, -, -, locs, Y, -⟩ := X
  subst hp
  obtain ⟨s₂, o, hs, r⟩ := K
  exact ⟨s₂, o, XS.iload Y.here hx rfl (hb hby hd) hl hs, r⟩
theorem ow_iloadN (X : oSt Z ω γ κ T h cs ss) (pc' : Nat) {k : Fin 4} {v : Int32} (hd : decode κ.1 pc = .ok (.iload_n k, 1)) (hp : pc + 1 = pc') (hl : L[k.val]? = some (.val (.int v)))
    (K : oWP ω γ κ Q T pc' L (.int v :: S)) : oWP ω γ κ Q T pc L (S) := by
  obtain ⟨hx, hby, -, -, -, -, -, -, -, -, -, locs, Y, -⟩ := X
  subst hp
  obtain ⟨s₂, o, hs, r⟩ := K
  exact ⟨s₂, o, XS.iloadN Y.here hx rfl (hb hby hd) hl hs, r⟩
theorem ow_istore (X : oSt Z ω γ κ T h cs ss) (pc' : Nat) {k : Nat} {v : Int32} {L' : Array Slot} (hd : decode κ.1 pc = .ok (.istore k, 2)) (hp : pc + 2 = pc') (hl : storeLocals L k (.int v) = some L')
    (K : oWP ω γ κ Q T pc' L' (S)) : oWP ω γ κ Q T pc L (.int v :: S) := by
  obtain ⟨hx, hby, -, -, -, -, -, -, -, -, -, locs, Y, -⟩ := X
  subst hp
  obtain ⟨s₂, o, hs, r⟩ := K
  exact ⟨s₂, o, XS.istore Y.here hx rfl (hb hby hd) rfl hl hs, r⟩
theorem ow_istoreN (X : oSt Z ω γ κ T h cs ss) (pc' : Nat) {k : Fin 4} {v : Int32} {L' : Array Slot} (hd : decode κ.1 pc = .ok (.istore_n k, 1)) (hp : pc + 1 = pc') (hl : storeLocals L k.val (.int v) = some L')
    (K : oWP ω γ κ Q T pc' L' (S)) : oWP ω γ κ Q T pc L (.int v :: S) := by
  obtain ⟨hx, hby, -, -, -, -, -, -, -, -, -, locs, Y, -⟩ := X
  subst hp
  obtain ⟨s₂, o, hs, r⟩ := K
  exact ⟨s₂, o, XS.istoreN Y.here hx rfl (hb hby hd) rfl hl hs, r⟩
theorem ow_lload (X : oSt Z ω γ κ T h cs ss) (pc' : Nat) {k : Nat} {v : Int64} (hd : decode κ.1 pc = .ok (.lload k, 2)) (hp : pc + 2 = pc') (hl : L[k]? = some (.val (.long v)))
    (K : oWP ω γ κ Q T pc' L (.long v :: S)) : oWP ω γ κ Q T pc L (S) := by
  obtain ⟨hx, hby, -, -, -, -, -, -, -, -, -, locs, Y, -⟩ := X
  subst hp
  obtain ⟨s₂, o, hs, r⟩ := K
  exact ⟨s₂, o, XS.lload Y.here hx rfl (hb hby hd) hl hs, r⟩
theorem ow_lloadN (X : oSt Z ω γ κ T h cs ss) (pc' : Nat) {k : Fin 4} {v : Int64} (hd : decode κ.1 pc = .ok (.lload_n k, 1)) (hp : pc + 1 = pc') (hl : L[k.val]? = some (.val (.long v)))
    (K : oWP ω γ κ Q T pc' L (.long v :: S)) : oWP ω γ κ Q T pc L (S) := by
  obtain ⟨hx, hby, -, -, -, -, -, -, -, -, -, locs, Y, -⟩ := X
  subst hp
  obtain ⟨s₂, o, hs, r⟩ := K
  exact ⟨s₂, o, XS.lloadN Y.here hx rfl (hb hby hd) hl hs, r⟩
theorem ow_lstore (X : oSt Z ω γ κ T h cs ss) (pc' : Nat) {k : Nat} {v : Int64} {L' : Array Slot} (hd : decode κ.1 pc = .ok (.lstore k, 2)) (hp : pc + 2 = pc') (hl : storeLocals L k (.long v) = some L')
    (K : oWP ω γ κ Q T pc' L' (S)) : oWP ω γ κ Q T pc L (.long v :: S) := by
  obtain ⟨hx, hby, -, -, -, -, -, -, -, -, -, locs, Y, -⟩ := X
  subst hp
  obtain ⟨s₂, o, hs, r⟩ := K
  exact ⟨s₂, o, XS.lstore Y.here hx rfl (hb hby hd) rfl hl hs, r⟩
theorem ow_lstoreN (X : oSt Z ω γ κ T h cs ss) (pc' : Nat) {k : Fin 4} {v : Int64} {L' : Array Slot} (hd : decode κ.1 pc = .ok (.lstore_n k, 1)) (hp : pc + 1 = pc') (hl : storeLocals L k.val (.long v) = some L')
    (K : oWP ω γ κ Q T pc' L' (S)) : oWP ω γ κ Q T pc L (.long v :: S) := by
  obtain ⟨hx, hby, -, -, -, -, -, -, -, -, -, locs, Y, -⟩ := X
  subst hp
  obtain ⟨s₂, o, hs, r⟩ := K
  exact ⟨s₂, o, XS.lstoreN Y.here hx rfl (hb hby hd) rfl hl hs, r⟩
theorem ow_aload (X : oSt Z ω γ κ T h cs ss) (pc' : Nat) {k : Nat} {v : Value} (hd : decode κ.1 pc = .ok (.aload k, 2)) (hp : pc + 2 = pc') (hl : L[k]? = some (.val v)) (hv : v.isRef = true)
    (K : oWP ω γ κ Q T pc' L (v :: S)) : oWP ω γ κ Q T pc L (S) := by
  obtain ⟨hx, hby, -, -, -, -, -, -, -, -, -, locs, Y, -⟩ := X
  subst hp
  obtain ⟨s₂, o, hs, r⟩ := K
  exact ⟨s₂, o, XS.aload Y.here hx rfl (hb hby hd) hl hv hs, r⟩
theorem ow_aloadN (X : oSt Z ω γ κ T h cs ss) (pc' : Nat) {k : Fin 4} {v : Value} (hd : decode κ.1 pc = .ok (.aload_n k, 1)) (hp : pc + 1 = pc') (hl : L[k.val]? = some (.val v)) (hv : v.isRef = true)
    (K : oWP ω γ κ Q T pc' L (v :: S)) : oWP ω γ κ Q T pc L (S) := by
  obtain ⟨hx, hby, -, -, -, -, -, -, -, -, -, locs, Y, -⟩ := X
  subst hp
  obtain ⟨s₂, o, hs, r⟩ := K
  exact ⟨s₂, o, XS.aloadN Y.here hx rfl (hb hby hd) hl hv hs, r⟩
theorem ow_astore (X : oSt Z ω γ κ T h cs ss) (pc' : Nat) {k : Nat} {v : Value} {L' : Array Slot} (hd : decode κ.1 pc = .ok (.astore k, 2)) (hp : pc + 2 = pc') (hv : v.isRef = true) (hl : storeLocals L k v = some L')
    (K : oWP ω γ κ Q T pc' L' (S)) : oWP ω γ κ Q T pc L (v :: S) := by
  obtain ⟨hx, hby, -, -, -, -, -, -, -, -, -, locs, Y, -⟩ := X
  subst hp
  obtain ⟨s₂, o, hs, r⟩ := K
  exact ⟨s₂, o, XS.astore Y.here hx rfl (hb hby hd) rfl hv hl hs, r⟩
theorem ow_astoreN (X : oSt Z ω γ κ T h cs ss) (pc' : Nat) {k : Fin 4} {v : Value} {L' : Array Slot} (hd : decode κ.1 pc = .ok (.astore_n k, 1)) (hp : pc + 1 = pc') (hv : v.isRef = true) (hl : storeLocals L k.val v = some L')
    (K : oWP ω γ κ Q T pc' L' (S)) : oWP ω γ κ Q T pc L (v :: S) := by
  obtain ⟨hx, hby, -, -, -, -, -, -, -, -, -, locs, Y, -⟩ := X
  subst hp
  obtain ⟨s₂, o, hs, r⟩ := K
  exact ⟨s₂, o, XS.astoreN Y.here hx rfl (hb hby hd) rfl hv hl hs, r⟩
theorem ow_iconst (X : oSt Z ω γ κ T h cs ss) (pc' : Nat) {i : Int} (v : Int32) (hd : decode κ.1 pc = .ok (.iconst i, 1)) (hp : pc + 1 = pc') (hv : Int32.ofInt i = v)
    (K : oWP ω γ κ Q T pc' L (.int v :: S)) : oWP ω γ κ Q T pc L (S) := by
  obtain ⟨hx, hby, -, -, -, -, -, -, -, -, -, locs, Y, -⟩ := X
  subst hp
  obtain ⟨s₂, o, hs, r⟩ := K
  subst hv; exact ⟨s₂, o, XS.iconst Y.here hx rfl (hb hby hd) hs, r⟩
theorem ow_bipush (X : oSt Z ω γ κ T h cs ss) (pc' : Nat) {i : Int} (v : Int32) (hd : decode κ.1 pc = .ok (.bipush i, 2)) (hp : pc + 2 = pc') (hv : (Int8.ofInt i).toInt32 = v)
    (K : oWP ω γ κ Q T pc' L (.int v :: S)) : oWP ω γ κ Q T pc L (S) := by
  obtain ⟨hx, hby, -, -, -, -, -, -, -, -, -, locs, Y, -⟩ := X
  subst hp
  obtain ⟨s₂, o, hs, r⟩ := K
  subst hv; exact ⟨s₂, o, XS.bipush Y.here hx rfl (hb hby hd) hs, r⟩
theorem ow_sipush (X : oSt Z ω γ κ T h cs ss) (pc' : Nat) {i : Int} (v : Int32) (hd : decode κ.1 pc = .ok (.sipush i, 3)) (hp : pc + 3 = pc') (hv : (Int16.ofInt i).toInt32 = v)
    (K : oWP ω γ κ Q T pc' L (.int v :: S)) : oWP ω γ κ Q T pc L (S) := by
  obtain ⟨hx, hby, -, -, -, -, -, -, -, -, -, locs, Y, -⟩ := X
  subst hp
  obtain ⟨s₂, o, hs, r⟩ := K
  subst hv; exact ⟨s₂, o, XS.sipush Y.here hx rfl (hb hby hd) hs, r⟩
theorem ow_lconst (X : oSt Z ω γ κ T h cs ss) (pc' : Nat) {k : Fin 2} (v : Int64) (hd : decode κ.1 pc = .ok (.lconst k, 1)) (hp : pc + 1 = pc') (hv : Int64.ofNat k = v)
    (K : oWP ω γ κ Q T pc' L (.long v :: S)) : oWP ω γ κ Q T pc L (S) := by
  obtain ⟨hx, hby, -, -, -, -, -, -, -, -, -, locs, Y, -⟩ := X
  subst hp
  obtain ⟨s₂, o, hs, r⟩ := K
  subst hv; exact ⟨s₂, o, XS.lconst Y.here hx rfl (hb hby hd) hs, r⟩
theorem ow_anull (X : oSt Z ω γ κ T h cs ss) (pc' : Nat)  (hd : decode κ.1 pc = .ok (.aconst_null, 1)) (hp : pc + 1 = pc') 
    (K : oWP ω γ κ Q T pc' L (.null :: S)) : oWP ω γ κ Q T pc L (S) := by
  obtain ⟨hx, hby, -, -, -, -, -, -, -, -, -, locs, Y, -⟩ := X
  subst hp
  obtain ⟨s₂, o, hs, r⟩ := K
  exact ⟨s₂, o, XS.aconstNull Y.here hx rfl (hb hby hd) hs, r⟩
theorem ow_iinc (X : oSt Z ω γ κ T h cs ss) (pc' : Nat) {k : Nat} {i : Int} {x : Int32} {L' : Array Slot} (v : Int32) (hd : decode κ.1 pc = .ok (.iinc k i, 3)) (hp : pc + 3 = pc') (hv : Int32.ofInt i = v) (hl : L[k]? = some (.val (.int x))) (hl' : storeLocals L k (.int (x + v)) = some L')
    (K : oWP ω γ κ Q T pc' L' (S)) : oWP ω γ κ Q T pc L (S) := by
  obtain ⟨hx, hby, -, -, -, -, -, -, -, -, -, locs, Y, -⟩ := X
  subst hp
  obtain ⟨s₂, o, hs, r⟩ := K
  subst hv; exact ⟨s₂, o, XS.iinc Y.here hx rfl (hb hby hd) hl hl' hs, r⟩
theorem ow_iadd (X : oSt Z ω γ κ T h cs ss) (pc' : Nat) {x y : Int32} (hd : decode κ.1 pc = .ok (.iadd, 1)) (hp : pc + 1 = pc') 
    (K : oWP ω γ κ Q T pc' L (.int (x + y) :: S)) : oWP ω γ κ Q T pc L (.int y :: .int x :: S) := by
  obtain ⟨hx, hby, -, -, -, -, -, -, -, -, -, locs, Y, -⟩ := X
  subst hp
  obtain ⟨s₂, o, hs, r⟩ := K
  exact ⟨s₂, o, XS.iadd Y.here hx rfl (hb hby hd) rfl hs, r⟩
theorem ow_isub (X : oSt Z ω γ κ T h cs ss) (pc' : Nat) {x y : Int32} (hd : decode κ.1 pc = .ok (.isub, 1)) (hp : pc + 1 = pc') 
    (K : oWP ω γ κ Q T pc' L (.int (x - y) :: S)) : oWP ω γ κ Q T pc L (.int y :: .int x :: S) := by
  obtain ⟨hx, hby, -, -, -, -, -, -, -, -, -, locs, Y, -⟩ := X
  subst hp
  obtain ⟨s₂, o, hs, r⟩ := K
  exact ⟨s₂, o, XS.isub Y.here hx rfl (hb hby hd) rfl hs, r⟩
theorem ow_imul (X : oSt Z ω γ κ T h cs ss) (pc' : Nat) {x y : Int32} (hd : decode κ.1 pc = .ok (.imul, 1)) (hp : pc + 1 = pc') 
    (K : oWP ω γ κ Q T pc' L (.int (x * y) :: S)) : oWP ω γ κ Q T pc L (.int y :: .int x :: S) := by
  obtain ⟨hx, hby, -, -, -, -, -, -, -, -, -, locs, Y, -⟩ := X
  subst hp
  obtain ⟨s₂, o, hs, r⟩ := K
  exact ⟨s₂, o, XS.imul Y.here hx rfl (hb hby hd) rfl hs, r⟩
theorem ow_iand (X : oSt Z ω γ κ T h cs ss) (pc' : Nat) {x y : Int32} (hd : decode κ.1 pc = .ok (.iand, 1)) (hp : pc + 1 = pc') 
    (K : oWP ω γ κ Q T pc' L (.int (x &&& y) :: S)) : oWP ω γ κ Q T pc L (.int y :: .int x :: S) := by
  obtain ⟨hx, hby, -, -, -, -, -, -, -, -, -, locs, Y, -⟩ := X
  subst hp
  obtain ⟨s₂, o, hs, r⟩ := K
  exact ⟨s₂, o, XS.iand Y.here hx rfl (hb hby hd) rfl hs, r⟩
theorem ow_ior (X : oSt Z ω γ κ T h cs ss) (pc' : Nat) {x y : Int32} (hd : decode κ.1 pc = .ok (.ior, 1)) (hp : pc + 1 = pc') 
    (K : oWP ω γ κ Q T pc' L (.int (x ||| y) :: S)) : oWP ω γ κ Q T pc L (.int y :: .int x :: S) := by
  obtain ⟨hx, hby, -, -, -, -, -, -, -, -, -, locs, Y, -⟩ := X
  subst hp
  obtain ⟨s₂, o, hs, r⟩ := K
  exact ⟨s₂, o, XS.ior Y.here hx rfl (hb hby hd) rfl hs, r⟩
theorem ow_ixor (X : oSt Z ω γ κ T h cs ss) (pc' : Nat) {x y : Int32} (hd : decode κ.1 pc = .ok (.ixor, 1)) (hp : pc + 1 = pc') 
    (K : oWP ω γ κ Q T pc' L (.int (x ^^^ y) :: S)) : oWP ω γ κ Q T pc L (.int y :: .int x :: S) := by
  obtain ⟨hx, hby, -, -, -, -, -, -, -, -, -, locs, Y, -⟩ := X
  subst hp
  obtain ⟨s₂, o, hs, r⟩ := K
  exact ⟨s₂, o, XS.ixor Y.here hx rfl (hb hby hd) rfl hs, r⟩
theorem ow_ishl (X : oSt Z ω γ κ T h cs ss) (pc' : Nat) {x y : Int32} (hd : decode κ.1 pc = .ok (.ishl, 1)) (hp : pc + 1 = pc') 
    (K : oWP ω γ κ Q T pc' L (.int (x <<< (y &&& 31)) :: S)) : oWP ω γ κ Q T pc L (.int y :: .int x :: S) := by
  obtain ⟨hx, hby, -, -, -, -, -, -, -, -, -, locs, Y, -⟩ := X
  subst hp
  obtain ⟨s₂, o, hs, r⟩ := K
  exact ⟨s₂, o, XS.ishl Y.here hx rfl (hb hby hd) rfl hs, r⟩
theorem ow_ishr (X : oSt Z ω γ κ T h cs ss) (pc' : Nat) {x y : Int32} (hd : decode κ.1 pc = .ok (.ishr, 1)) (hp : pc + 1 = pc') 
    (K : oWP ω γ κ Q T pc' L (.int (x >>> (y &&& 31)) :: S)) : oWP ω γ κ Q T pc L (.int y :: .int x :: S) := by
  obtain ⟨hx, hby, -, -, -, -, -, -, -, -, -, locs, Y, -⟩ := X
  subst hp
  obtain ⟨s₂, o, hs, r⟩ := K
  exact ⟨s₂, o, XS.ishr Y.here hx rfl (hb hby hd) rfl hs, r⟩
theorem ow_iushr (X : oSt Z ω γ κ T h cs ss) (pc' : Nat) {x y : Int32} (hd : decode κ.1 pc = .ok (.iushr, 1)) (hp : pc + 1 = pc') 
    (K : oWP ω γ κ Q T pc' L (.int ((x.toUInt32 >>> (y &&& 31).toUInt32).toInt32) :: S)) : oWP ω γ κ Q T pc L (.int y :: .int x :: S) := by
  obtain ⟨hx, hby, -, -, -, -, -, -, -, -, -, locs, Y, -⟩ := X
  subst hp
  obtain ⟨s₂, o, hs, r⟩ := K
  exact ⟨s₂, o, XS.iushr Y.here hx rfl (hb hby hd) rfl hs, r⟩
theorem ow_ineg (X : oSt Z ω γ κ T h cs ss) (pc' : Nat) {x : Int32} (hd : decode κ.1 pc = .ok (.ineg, 1)) (hp : pc + 1 = pc') 
    (K : oWP ω γ κ Q T pc' L (.int (-x) :: S)) : oWP ω γ κ Q T pc L (.int x :: S) := by
  obtain ⟨hx, hby, -, -, -, -, -, -, -, -, -, locs, Y, -⟩ := X
  subst hp
  obtain ⟨s₂, o, hs, r⟩ := K
  exact ⟨s₂, o, XS.ineg Y.here hx rfl (hb hby hd) rfl hs, r⟩
theorem ow_idiv (X : oSt Z ω γ κ T h cs ss) (pc' : Nat) {x y : Int32} (hd : decode κ.1 pc = .ok (.idiv, 1)) (hp : pc + 1 = pc') (hy : y ≠ 0)
    (K : oWP ω γ κ Q T pc' L (.int (x / y) :: S)) : oWP ω γ κ Q T pc L (.int y :: .int x :: S) := by
  obtain ⟨hx, hby, -, -, -, -, -, -, -, -, -, locs, Y, -⟩ := X
  subst hp
  obtain ⟨s₂, o, hs, r⟩ := K
  exact ⟨s₂, o, XS.idiv Y.here hx rfl (hb hby hd) rfl hy hs, r⟩
theorem ow_irem (X : oSt Z ω γ κ T h cs ss) (pc' : Nat) {x y : Int32} (hd : decode κ.1 pc = .ok (.irem, 1)) (hp : pc + 1 = pc') (hy : y ≠ 0)
    (K : oWP ω γ κ Q T pc' L (.int (x % y) :: S)) : oWP ω γ κ Q T pc L (.int y :: .int x :: S) := by
  obtain ⟨hx, hby, -, -, -, -, -, -, -, -, -, locs, Y, -⟩ := X
  subst hp
  obtain ⟨s₂, o, hs, r⟩ := K
  exact ⟨s₂, o, iremM Y hx rfl (hb hby hd) rfl hy hs, r⟩
theorem ow_ladd (X : oSt Z ω γ κ T h cs ss) (pc' : Nat) {x y : Int64} (hd : decode κ.1 pc = .ok (.ladd, 1)) (hp : pc + 1 = pc') 
    (K : oWP ω γ κ Q T pc' L (.long (x + y) :: S)) : oWP ω γ κ Q T pc L (.long y :: .long x :: S) := by
  obtain ⟨hx, hby, -, -, -, -, -, -, -, -, -, locs, Y, -⟩ := X
  subst hp
  obtain ⟨s₂, o, hs, r⟩ := K
  exact ⟨s₂, o, XS.ladd Y.here hx rfl (hb hby hd) rfl hs, r⟩
theorem ow_lsub (X : oSt Z ω γ κ T h cs ss) (pc' : Nat) {x y : Int64} (hd : decode κ.1 pc = .ok (.lsub, 1)) (hp : pc + 1 = pc') 
    (K : oWP ω γ κ Q T pc' L (.long (x - y) :: S)) : oWP ω γ κ Q T pc L (.long y :: .long x :: S) := by
  obtain ⟨hx, hby, -, -, -, -, -, -, -, -, -, locs, Y, -⟩ := X
  subst hp
  obtain ⟨s₂, o, hs, r⟩ := K
  exact ⟨s₂, o, XS.lsub Y.here hx rfl (hb hby hd) rfl hs, r⟩
theorem ow_lmul (X : oSt Z ω γ κ T h cs ss) (pc' : Nat) {x y : Int64} (hd : decode κ.1 pc = .ok (.lmul, 1)) (hp : pc + 1 = pc') 
    (K : oWP ω γ κ Q T pc' L (.long (x * y) :: S)) : oWP ω γ κ Q T pc L (.long y :: .long x :: S) := by
  obtain ⟨hx, hby, -, -, -, -, -, -, -, -, -, locs, Y, -⟩ := X
  subst hp
  obtain ⟨s₂, o, hs, r⟩ := K
  exact ⟨s₂, o, XS.lmul Y.here hx rfl (hb hby hd) rfl hs, r⟩
theorem ow_land (X : oSt Z ω γ κ T h cs ss) (pc' : Nat) {x y : Int64} (hd : decode κ.1 pc = .ok (.land, 1)) (hp : pc + 1 = pc') 
    (K : oWP ω γ κ Q T pc' L (.long (x &&& y) :: S)) : oWP ω γ κ Q T pc L (.long y :: .long x :: S) := by
  obtain ⟨hx, hby, -, -, -, -, -, -, -, -, -, locs, Y, -⟩ := X
  subst hp
  obtain ⟨s₂, o, hs, r⟩ := K
  exact ⟨s₂, o, XS.land Y.here hx rfl (hb hby hd) rfl hs, r⟩
theorem ow_lor (X : oSt Z ω γ κ T h cs ss) (pc' : Nat) {x y : Int64} (hd : decode κ.1 pc = .ok (.lor, 1)) (hp : pc + 1 = pc') 
    (K : oWP ω γ κ Q T pc' L (.long (x ||| y) :: S)) : oWP ω γ κ Q T pc L (.long y :: .long x :: S) := by
  obtain ⟨hx, hby, -, -, -, -, -, -, -, -, -, locs, Y, -⟩ := X
  subst hp
  obtain ⟨s₂, o, hs, r⟩ := K
  exact ⟨s₂, o, XS.lor Y.here hx rfl (hb hby hd) rfl hs, r⟩
theorem ow_lxor (X : oSt Z ω γ κ T h cs ss) (pc' : Nat) {x y : Int64} (hd : decode κ.1 pc = .ok (.lxor, 1)) (hp : pc + 1 = pc') 
    (K : oWP ω γ κ Q T pc' L (.long (x ^^^ y) :: S)) : oWP ω γ κ Q T pc L (.long y :: .long x :: S) := by
  obtain ⟨hx, hby, -, -, -, -, -, -, -, -, -, locs, Y, -⟩ := X
  subst hp
  obtain ⟨s₂, o, hs, r⟩ := K
  exact ⟨s₂, o, XS.lxor Y.here hx rfl (hb hby hd) rfl hs, r⟩
theorem ow_lshl (X : oSt Z ω γ κ T h cs ss) (pc' : Nat) {x : Int64} {y : Int32} (hd : decode κ.1 pc = .ok (.lshl, 1)) (hp : pc + 1 = pc') 
    (K : oWP ω γ κ Q T pc' L (.long (x <<< (y &&& 0x3f).toInt64) :: S)) : oWP ω γ κ Q T pc L (.int y :: .long x :: S) := by
  obtain ⟨hx, hby, -, -, -, -, -, -, -, -, -, locs, Y, -⟩ := X
  subst hp
  obtain ⟨s₂, o, hs, r⟩ := K
  exact ⟨s₂, o, XS.lshl Y.here hx rfl (hb hby hd) rfl hs, r⟩
theorem ow_lshr (X : oSt Z ω γ κ T h cs ss) (pc' : Nat) {x : Int64} {y : Int32} (hd : decode κ.1 pc = .ok (.lshr, 1)) (hp : pc + 1 = pc') 
    (K : oWP ω γ κ Q T pc' L (.long (x >>> (y &&& 0x3f).toInt64) :: S)) : oWP ω γ κ Q T pc L (.int y :: .long x :: S) := by
  obtain ⟨hx, hby, -, -, -, -, -, -, -, -, -, locs, Y, -⟩ := X
  subst hp
  obtain ⟨s₂, o, hs, r⟩ := K
  exact ⟨s₂, o, XS.lshr Y.here hx rfl (hb hby hd) rfl hs, r⟩
theorem ow_lushr (X : oSt Z ω γ κ T h cs ss) (pc' : Nat) {x : Int64} {y : Int32} (hd : decode κ.1 pc = .ok (.lushr, 1)) (hp : pc + 1 = pc') 
    (K : oWP ω γ κ Q T pc' L (.long ((x.toUInt64 >>> (y &&& 0x3f).toInt64.toUInt64).toInt64) :: S)) : oWP ω γ κ Q T pc L (.int y :: .long x :: S) := by
  obtain ⟨hx, hby, -, -, -, -, -, -, -, -, -, locs, Y, -⟩ := X
  subst hp
  obtain ⟨s₂, o, hs, r⟩ := K
  exact ⟨s₂, o, XS.lushr Y.here hx rfl (hb hby hd) rfl hs, r⟩
theorem ow_ldiv (X : oSt Z ω γ κ T h cs ss) (pc' : Nat) {x y : Int64} (hd : decode κ.1 pc = .ok (.ldiv, 1)) (hp : pc + 1 = pc') (hy : y ≠ 0)
    (K : oWP ω γ κ Q T pc' L (.long (x / y) :: S)) : oWP ω γ κ Q T pc L (.long y :: .long x :: S) := by
  obtain ⟨hx, hby, -, -, -, -, -, -, -, -, -, locs, Y, -⟩ := X
  subst hp
  obtain ⟨s₂, o, hs, r⟩ := K
  exact ⟨s₂, o, XS.ldiv Y.here hx rfl (hb hby hd) rfl hy hs, r⟩
theorem ow_lrem (X : oSt Z ω γ κ T h cs ss) (pc' : Nat) {x y : Int64} (hd : decode κ.1 pc = .ok (.lrem, 1)) (hp : pc + 1 = pc') (hy : y ≠ 0)
    (K : oWP ω γ κ Q T pc' L (.long (x % y) :: S)) : oWP ω γ κ Q T pc L (.long y :: .long x :: S) := by
  obtain ⟨hx, hby, -, -, -, -, -, -, -, -, -, locs, Y, -⟩ := X
  subst hp
  obtain ⟨s₂, o, hs, r⟩ := K
  rw [← lrem_mod] at hs; exact ⟨s₂, o, XS.lrem Y.here hx rfl (hb hby hd) rfl hy hs, r⟩
theorem ow_i2l (X : oSt Z ω γ κ T h cs ss) (pc' : Nat) {x : Int32} (hd : decode κ.1 pc = .ok (.i2l, 1)) (hp : pc + 1 = pc') 
    (K : oWP ω γ κ Q T pc' L (.long x.toInt64 :: S)) : oWP ω γ κ Q T pc L (.int x :: S) := by
  obtain ⟨hx, hby, -, -, -, -, -, -, -, -, -, locs, Y, -⟩ := X
  subst hp
  obtain ⟨s₂, o, hs, r⟩ := K
  exact ⟨s₂, o, XS.i2l Y.here hx rfl (hb hby hd) rfl hs, r⟩
theorem ow_l2i (X : oSt Z ω γ κ T h cs ss) (pc' : Nat) {x : Int64} (hd : decode κ.1 pc = .ok (.l2i, 1)) (hp : pc + 1 = pc') 
    (K : oWP ω γ κ Q T pc' L (.int x.toInt32 :: S)) : oWP ω γ κ Q T pc L (.long x :: S) := by
  obtain ⟨hx, hby, -, -, -, -, -, -, -, -, -, locs, Y, -⟩ := X
  subst hp
  obtain ⟨s₂, o, hs, r⟩ := K
  exact ⟨s₂, o, XS.l2i Y.here hx rfl (hb hby hd) rfl hs, r⟩
theorem ow_i2b (X : oSt Z ω γ κ T h cs ss) (pc' : Nat) {x : Int32} (hd : decode κ.1 pc = .ok (.i2b, 1)) (hp : pc + 1 = pc') 
    (K : oWP ω γ κ Q T pc' L (.int x.toInt8.toInt32 :: S)) : oWP ω γ κ Q T pc L (.int x :: S) := by
  obtain ⟨hx, hby, -, -, -, -, -, -, -, -, -, locs, Y, -⟩ := X
  subst hp
  obtain ⟨s₂, o, hs, r⟩ := K
  exact ⟨s₂, o, XS.i2b Y.here hx rfl (hb hby hd) rfl hs, r⟩
theorem ow_i2c (X : oSt Z ω γ κ T h cs ss) (pc' : Nat) {x : Int32} (hd : decode κ.1 pc = .ok (.i2c, 1)) (hp : pc + 1 = pc') 
    (K : oWP ω γ κ Q T pc' L (.int x.toUInt32.toUInt16.toUInt32.toInt32 :: S)) : oWP ω γ κ Q T pc L (.int x :: S) := by
  obtain ⟨hx, hby, -, -, -, -, -, -, -, -, -, locs, Y, -⟩ := X
  subst hp
  obtain ⟨s₂, o, hs, r⟩ := K
  exact ⟨s₂, o, XS.i2c Y.here hx rfl (hb hby hd) rfl hs, r⟩
theorem ow_i2s (X : oSt Z ω γ κ T h cs ss) (pc' : Nat) {x : Int32} (hd : decode κ.1 pc = .ok (.i2s, 1)) (hp : pc + 1 = pc') 
    (K : oWP ω γ κ Q T pc' L (.int x.toInt16.toInt32 :: S)) : oWP ω γ κ Q T pc L (.int x :: S) := by
  obtain ⟨hx, hby, -, -, -, -, -, -, -, -, -, locs, Y, -⟩ := X
  subst hp
  obtain ⟨s₂, o, hs, r⟩ := K
  exact ⟨s₂, o, XS.i2s Y.here hx rfl (hb hby hd) rfl hs, r⟩
theorem ow_dup (X : oSt Z ω γ κ T h cs ss) (pc' : Nat) {x : Value} (hd : decode κ.1 pc = .ok (.dup, 1)) (hp : pc + 1 = pc') (hc : x.category = 1)
    (K : oWP ω γ κ Q T pc' L (x :: x :: S)) : oWP ω γ κ Q T pc L (x :: S) := by
  obtain ⟨hx, hby, -, -, -, -, -, -, -, -, -, locs, Y, -⟩ := X
  subst hp
  obtain ⟨s₂, o, hs, r⟩ := K
  exact ⟨s₂, o, XS.dup Y.here hx rfl (hb hby hd) rfl hc hs, r⟩
theorem ow_pop (X : oSt Z ω γ κ T h cs ss) (pc' : Nat) {x : Value} (hd : decode κ.1 pc = .ok (.pop, 1)) (hp : pc + 1 = pc') (hc : x.category = 1)
    (K : oWP ω γ κ Q T pc' L (S)) : oWP ω γ κ Q T pc L (x :: S) := by
  obtain ⟨hx, hby, -, -, -, -, -, -, -, -, -, locs, Y, -⟩ := X
  subst hp
  obtain ⟨s₂, o, hs, r⟩ := K
  exact ⟨s₂, o, XS.pop Y.here hx rfl (hb hby hd) rfl hc hs, r⟩
theorem ow_dupX1 (X : oSt Z ω γ κ T h cs ss) (pc' : Nat) {x y : Value} (hd : decode κ.1 pc = .ok (.dup_x1, 1)) (hp : pc + 1 = pc') (hc : x.category = 1) (hc' : y.category = 1)
    (K : oWP ω γ κ Q T pc' L (x :: y :: x :: S)) : oWP ω γ κ Q T pc L (x :: y :: S) := by
  obtain ⟨hx, hby, -, -, -, -, -, -, -, -, -, locs, Y, -⟩ := X
  subst hp
  obtain ⟨s₂, o, hs, r⟩ := K
  exact ⟨s₂, o, XS.dupX1 Y.here hx rfl (hb hby hd) rfl hc hc' hs, r⟩
theorem ow_dup2 (X : oSt Z ω γ κ T h cs ss) (pc' : Nat) {x y : Value} (hd : decode κ.1 pc = .ok (.dup2, 1)) (hp : pc + 1 = pc') (hc : x.category = 1) (hc' : y.category = 1)
    (K : oWP ω γ κ Q T pc' L (x :: y :: x :: y :: S)) : oWP ω γ κ Q T pc L (x :: y :: S) := by
  obtain ⟨hx, hby, -, -, -, -, -, -, -, -, -, locs, Y, -⟩ := X
  subst hp
  obtain ⟨s₂, o, hs, r⟩ := K
  exact ⟨s₂, o, XT.dup2 Y.here hx rfl (hb hby hd) rfl hc hc' hs, r⟩
theorem oXpop2L {tb : Tables} [Ours tb] {e : Env} {below : List Frame} {T target : State} {m : MethodId} {c : Code} {g : JFrame} (h : At T m c below) (hx : tb.exec = Jvm.exec) (hg : g.method = m) {x : Int64} {rest : List Value} (hd : decode c.code g.pc = .ok (.pop2, 1)) (hs : g.stack = .long x :: rest)
    (hr : Steps tb e below (T.setTop { g with pc := g.pc + 1, stack := rest }) target) : Steps tb e below (T.setTop g) target := by
  subst hg
  jvm_step h [h.top, hx, hd, hs, Value.category]
  exact hr
theorem ow_pop2L (X : oSt Z ω γ κ T h cs ss) (pc' : Nat) {x : Int64} (hd : decode κ.1 pc = .ok (.pop2, 1)) (hp : pc + 1 = pc') 
    (K : oWP ω γ κ Q T pc' L (S)) : oWP ω γ κ Q T pc L (.long x :: S) := by
  obtain ⟨hx, hby, -, -, -, -, -, -, -, -, -, locs, Y, -⟩ := X
  subst hp
  obtain ⟨s₂, o, hs, r⟩ := K
  exact ⟨s₂, o, oXpop2L Y.here hx rfl (hb hby hd) rfl hs, r⟩
theorem ow_ldcI (X : oSt Z ω γ κ T h cs ss) (pc' i : Nat) {own : String} {idx : Nat} {v : Int32} (hw : tables_1[i]? = some (.constant own idx v)) (ho : κ.2.2.1 = own) (hd : decode κ.1 pc = .ok (.ldc idx, 2)) (hp : pc + 2 = pc')
    (K : oWP ω γ κ Q T pc' L (.int v :: S)) : oWP ω γ κ Q T pc L S := by
  have hw' := oSt_at X i hw
  obtain ⟨hx, hby, -, hown, -, -, -, hZ, -, -, -, locs, Y, -⟩ := X
  subst hp ho
  obtain ⟨s₂, o, hs, r⟩ := K
  exact ⟨s₂, o, Stand.ldcI Y hx hown (mv hZ hw') rfl (hb hby hd) hs, r⟩
theorem ow_ldcWI (X : oSt Z ω γ κ T h cs ss) (pc' i : Nat) {own : String} {idx : Nat} {v : Int32} (hw : tables_1[i]? = some (.constant own idx v)) (ho : κ.2.2.1 = own) (hd : decode κ.1 pc = .ok (.ldc_w idx, 3)) (hp : pc + 3 = pc')
    (K : oWP ω γ κ Q T pc' L (.int v :: S)) : oWP ω γ κ Q T pc L S := by
  have hw' := oSt_at X i hw
  obtain ⟨hx, hby, -, hown, -, -, -, hZ, -, -, -, locs, Y, -⟩ := X
  subst hp ho
  obtain ⟨s₂, o, hs, r⟩ := K
  exact ⟨s₂, o, Stand.ldcWI Y hx hown (mv hZ hw') rfl (hb hby hd) hs, r⟩
theorem ow_ldc2J (X : oSt Z ω γ κ T h cs ss) (pc' i : Nat) {own : String} {idx : Nat} {v : Int64} (hw : tables_1[i]? = some (.constantLong own idx v)) (ho : κ.2.2.1 = own) (hd : decode κ.1 pc = .ok (.ldc2_w idx, 3)) (hp : pc + 3 = pc')
    (K : oWP ω γ κ Q T pc' L (.long v :: S)) : oWP ω γ κ Q T pc L S := by
  have hw' := oSt_at X i hw
  obtain ⟨hx, hby, -, hown, -, -, -, hZ, -, -, -, locs, Y, -⟩ := X
  subst hp ho
  obtain ⟨s₂, o, hs, r⟩ := K
  exact ⟨s₂, o, Stand.ldc2J Y hx hown (mv hZ hw') rfl (hb hby hd) hs, r⟩
theorem ow_goto (X : oSt Z ω γ κ T h cs ss) (pc' : Nat) {o : Int} (hd : decode κ.1 pc = .ok (.goto o, 3)) (hp : (pc : Int) + o = (pc' : Int))
    (K : oWP ω γ κ Q T pc' L S) : oWP ω γ κ Q T pc L S := by
  obtain ⟨hx, hby, -, -, -, -, -, -, -, -, -, locs, Y, -⟩ := X
  obtain ⟨s₂, o, hs, r⟩ := K
  exact ⟨s₂, o, XS.goto Y.here hx rfl (pc0 := pc) rfl (hb hby hd) (by omega) (by omega) hs, r⟩
theorem ow_if (X : oSt Z ω γ κ T h cs ss) (pc' pq : Nat) {cd : ClassFile.Cond} {x : Int32} {o : Int} (hd : decode κ.1 pc = .ok (.ifCond cd o, 3)) (hp : pc + 3 = pc') (hq : (pc : Int) + o = (pq : Int))
    (Ky : ifCond.holds cd x = true → oWP ω γ κ Q T pq L S) (Kn : ifCond.holds cd x = false → oWP ω γ κ Q T pc' L S) : oWP ω γ κ Q T pc L (.int x :: S) := by
  obtain ⟨hx, hby, -, -, -, -, -, -, -, -, -, locs, Y, -⟩ := X
  subst hp
  cases hc : ifCond.holds cd x
  · obtain ⟨s₂, o, hs, r⟩ := Kn hc
    exact ⟨s₂, o, XS.ifNo Y.here hx rfl (hb hby hd) rfl hc hs, r⟩
  · obtain ⟨s₂, o, hs, r⟩ := Ky hc
    exact ⟨s₂, o, XS.ifYes Y.here hx rfl (pc0 := pc) rfl (hb hby hd) rfl hc (by omega) (by omega) hs, r⟩
theorem ow_icmp (X : oSt Z ω γ κ T h cs ss) (pc' pq : Nat) {cd : ClassFile.Cond} {x y : Int32} {o : Int} (hd : decode κ.1 pc = .ok (.if_icmp cd o, 3)) (hp : pc + 3 = pc') (hq : (pc : Int) + o = (pq : Int))
    (Ky : if_icmp.holds cd x y = true → oWP ω γ κ Q T pq L S) (Kn : if_icmp.holds cd x y = false → oWP ω γ κ Q T pc' L S) : oWP ω γ κ Q T pc L (.int y :: .int x :: S) := by
  obtain ⟨hx, hby, -, -, -, -, -, -, -, -, -, locs, Y, -⟩ := X
  subst hp
  cases hc : if_icmp.holds cd x y
  · obtain ⟨s₂, o, hs, r⟩ := Kn hc
    exact ⟨s₂, o, XS.icmpNo Y.here hx rfl (hb hby hd) rfl hc hs, r⟩
  · obtain ⟨s₂, o, hs, r⟩ := Ky hc
    exact ⟨s₂, o, XS.icmpYes Y.here hx rfl (pc0 := pc) rfl (hb hby hd) rfl hc (by omega) (by omega) hs, r⟩
theorem o0 : (0 : Int32).toInt = 0 := rfl
theorem ow_if_eq (X : oSt Z ω γ κ T h cs ss) (pc' pq : Nat) {x : Int32} {o : Int} (hd : decode κ.1 pc = .ok (.ifCond .eq o, 3)) (hp : pc + 3 = pc') (hq : (pc : Int) + o = (pq : Int))
    (Ky : x.toInt = 0 → oWP ω γ κ Q T pq L S) (Kn : x.toInt ≠ 0 → oWP ω γ κ Q T pc' L S) : oWP ω γ κ Q T pc L (.int x :: S) :=
  ow_if X pc' pq hd hp hq (fun q => Ky (by simp only [ifCond.holds, decide_eq_true_eq, decide_eq_false_iff_not, beq_iff_eq, bne_iff_ne, ne_eq, Int32.lt_iff_toInt_lt, Int32.le_iff_toInt_le, ← Int32.toInt_inj, o0, GT.gt, GE.ge, beq_eq_false_iff_ne, bne_eq_false_iff_eq, Decidable.not_not] at q; omega)) (fun q => Kn (by simp only [ifCond.holds, decide_eq_true_eq, decide_eq_false_iff_not, beq_iff_eq, bne_iff_ne, ne_eq, Int32.lt_iff_toInt_lt, Int32.le_iff_toInt_le, ← Int32.toInt_inj, o0, GT.gt, GE.ge, beq_eq_false_iff_ne, bne_eq_false_iff_eq, Decidable.not_not] at q; omega))
theorem ow_icmp_eq (X : oSt Z ω γ κ T h cs ss) (pc' pq : Nat) {x y : Int32} {o : Int} (hd : decode κ.1 pc = .ok (.if_icmp .eq o, 3)) (hp : pc + 3 = pc') (hq : (pc : Int) + o = (pq : Int))
    (Ky : x.toInt = y.toInt → oWP ω γ κ Q T pq L S) (Kn : x.toInt ≠ y.toInt → oWP ω γ κ Q T pc' L S) : oWP ω γ κ Q T pc L (.int y :: .int x :: S) :=
  ow_icmp X pc' pq hd hp hq (fun q => Ky (by simp only [if_icmp.holds, decide_eq_true_eq, decide_eq_false_iff_not, beq_iff_eq, bne_iff_ne, ne_eq, Int32.lt_iff_toInt_lt, Int32.le_iff_toInt_le, ← Int32.toInt_inj, o0, GT.gt, GE.ge, beq_eq_false_iff_ne, bne_eq_false_iff_eq, Decidable.not_not] at q; omega)) (fun q => Kn (by simp only [if_icmp.holds, decide_eq_true_eq, decide_eq_false_iff_not, beq_iff_eq, bne_iff_ne, ne_eq, Int32.lt_iff_toInt_lt, Int32.le_iff_toInt_le, ← Int32.toInt_inj, o0, GT.gt, GE.ge, beq_eq_false_iff_ne, bne_eq_false_iff_eq, Decidable.not_not] at q; omega))
theorem ow_if_ne (X : oSt Z ω γ κ T h cs ss) (pc' pq : Nat) {x : Int32} {o : Int} (hd : decode κ.1 pc = .ok (.ifCond .ne o, 3)) (hp : pc + 3 = pc') (hq : (pc : Int) + o = (pq : Int))
    (Ky : x.toInt ≠ 0 → oWP ω γ κ Q T pq L S) (Kn : x.toInt = 0 → oWP ω γ κ Q T pc' L S) : oWP ω γ κ Q T pc L (.int x :: S) :=
  ow_if X pc' pq hd hp hq (fun q => Ky (by simp only [ifCond.holds, decide_eq_true_eq, decide_eq_false_iff_not, beq_iff_eq, bne_iff_ne, ne_eq, Int32.lt_iff_toInt_lt, Int32.le_iff_toInt_le, ← Int32.toInt_inj, o0, GT.gt, GE.ge, beq_eq_false_iff_ne, bne_eq_false_iff_eq, Decidable.not_not] at q; omega)) (fun q => Kn (by simp only [ifCond.holds, decide_eq_true_eq, decide_eq_false_iff_not, beq_iff_eq, bne_iff_ne, ne_eq, Int32.lt_iff_toInt_lt, Int32.le_iff_toInt_le, ← Int32.toInt_inj, o0, GT.gt, GE.ge, beq_eq_false_iff_ne, bne_eq_false_iff_eq, Decidable.not_not] at q; omega))
theorem ow_icmp_ne (X : oSt Z ω γ κ T h cs ss) (pc' pq : Nat) {x y : Int32} {o : Int} (hd : decode κ.1 pc = .ok (.if_icmp .ne o, 3)) (hp : pc + 3 = pc') (hq : (pc : Int) + o = (pq : Int))
    (Ky : x.toInt ≠ y.toInt → oWP ω γ κ Q T pq L S) (Kn : x.toInt = y.toInt → oWP ω γ κ Q T pc' L S) : oWP ω γ κ Q T pc L (.int y :: .int x :: S) :=
  ow_icmp X pc' pq hd hp hq (fun q => Ky (by simp only [if_icmp.holds, decide_eq_true_eq, decide_eq_false_iff_not, beq_iff_eq, bne_iff_ne, ne_eq, Int32.lt_iff_toInt_lt, Int32.le_iff_toInt_le, ← Int32.toInt_inj, o0, GT.gt, GE.ge, beq_eq_false_iff_ne, bne_eq_false_iff_eq, Decidable.not_not] at q; omega)) (fun q => Kn (by simp only [if_icmp.holds, decide_eq_true_eq, decide_eq_false_iff_not, beq_iff_eq, bne_iff_ne, ne_eq, Int32.lt_iff_toInt_lt, Int32.le_iff_toInt_le, ← Int32.toInt_inj, o0, GT.gt, GE.ge, beq_eq_false_iff_ne, bne_eq_false_iff_eq, Decidable.not_not] at q; omega))
theorem ow_if_lt (X : oSt Z ω γ κ T h cs ss) (pc' pq : Nat) {x : Int32} {o : Int} (hd : decode κ.1 pc = .ok (.ifCond .lt o, 3)) (hp : pc + 3 = pc') (hq : (pc : Int) + o = (pq : Int))
    (Ky : x.toInt < 0 → oWP ω γ κ Q T pq L S) (Kn : 0 ≤ x.toInt → oWP ω γ κ Q T pc' L S) : oWP ω γ κ Q T pc L (.int x :: S) :=
  ow_if X pc' pq hd hp hq (fun q => Ky (by simp only [ifCond.holds, decide_eq_true_eq, decide_eq_false_iff_not, beq_iff_eq, bne_iff_ne, ne_eq, Int32.lt_iff_toInt_lt, Int32.le_iff_toInt_le, ← Int32.toInt_inj, o0, GT.gt, GE.ge, beq_eq_false_iff_ne, bne_eq_false_iff_eq, Decidable.not_not] at q; omega)) (fun q => Kn (by simp only [ifCond.holds, decide_eq_true_eq, decide_eq_false_iff_not, beq_iff_eq, bne_iff_ne, ne_eq, Int32.lt_iff_toInt_lt, Int32.le_iff_toInt_le, ← Int32.toInt_inj, o0, GT.gt, GE.ge, beq_eq_false_iff_ne, bne_eq_false_iff_eq, Decidable.not_not] at q; omega))
theorem ow_icmp_lt (X : oSt Z ω γ κ T h cs ss) (pc' pq : Nat) {x y : Int32} {o : Int} (hd : decode κ.1 pc = .ok (.if_icmp .lt o, 3)) (hp : pc + 3 = pc') (hq : (pc : Int) + o = (pq : Int))
    (Ky : x.toInt < y.toInt → oWP ω γ κ Q T pq L S) (Kn : y.toInt ≤ x.toInt → oWP ω γ κ Q T pc' L S) : oWP ω γ κ Q T pc L (.int y :: .int x :: S) :=
  ow_icmp X pc' pq hd hp hq (fun q => Ky (by simp only [if_icmp.holds, decide_eq_true_eq, decide_eq_false_iff_not, beq_iff_eq, bne_iff_ne, ne_eq, Int32.lt_iff_toInt_lt, Int32.le_iff_toInt_le, ← Int32.toInt_inj, o0, GT.gt, GE.ge, beq_eq_false_iff_ne, bne_eq_false_iff_eq, Decidable.not_not] at q; omega)) (fun q => Kn (by simp only [if_icmp.holds, decide_eq_true_eq, decide_eq_false_iff_not, beq_iff_eq, bne_iff_ne, ne_eq, Int32.lt_iff_toInt_lt, Int32.le_iff_toInt_le, ← Int32.toInt_inj, o0, GT.gt, GE.ge, beq_eq_false_iff_ne, bne_eq_false_iff_eq, Decidable.not_not] at q; omega))
theorem ow_if_ge (X : oSt Z ω γ κ T h cs ss) (pc' pq : Nat) {x : Int32} {o : Int} (hd : decode κ.1 pc = .ok (.ifCond .ge o, 3)) (hp : pc + 3 = pc') (hq : (pc : Int) + o = (pq : Int))
    (Ky : 0 ≤ x.toInt → oWP ω γ κ Q T pq L S) (Kn : x.toInt < 0 → oWP ω γ κ Q T pc' L S) : oWP ω γ κ Q T pc L (.int x :: S) :=
  ow_if X pc' pq hd hp hq (fun q => Ky (by simp only [ifCond.holds, decide_eq_true_eq, decide_eq_false_iff_not, beq_iff_eq, bne_iff_ne, ne_eq, Int32.lt_iff_toInt_lt, Int32.le_iff_toInt_le, ← Int32.toInt_inj, o0, GT.gt, GE.ge, beq_eq_false_iff_ne, bne_eq_false_iff_eq, Decidable.not_not] at q; omega)) (fun q => Kn (by simp only [ifCond.holds, decide_eq_true_eq, decide_eq_false_iff_not, beq_iff_eq, bne_iff_ne, ne_eq, Int32.lt_iff_toInt_lt, Int32.le_iff_toInt_le, ← Int32.toInt_inj, o0, GT.gt, GE.ge, beq_eq_false_iff_ne, bne_eq_false_iff_eq, Decidable.not_not] at q; omega))
theorem ow_icmp_ge (X : oSt Z ω γ κ T h cs ss) (pc' pq : Nat) {x y : Int32} {o : Int} (hd : decode κ.1 pc = .ok (.if_icmp .ge o, 3)) (hp : pc + 3 = pc') (hq : (pc : Int) + o = (pq : Int))
    (Ky : y.toInt ≤ x.toInt → oWP ω γ κ Q T pq L S) (Kn : x.toInt < y.toInt → oWP ω γ κ Q T pc' L S) : oWP ω γ κ Q T pc L (.int y :: .int x :: S) :=
  ow_icmp X pc' pq hd hp hq (fun q => Ky (by simp only [if_icmp.holds, decide_eq_true_eq, decide_eq_false_iff_not, beq_iff_eq, bne_iff_ne, ne_eq, Int32.lt_iff_toInt_lt, Int32.le_iff_toInt_le, ← Int32.toInt_inj, o0, GT.gt, GE.ge, beq_eq_false_iff_ne, bne_eq_false_iff_eq, Decidable.not_not] at q; omega)) (fun q => Kn (by simp only [if_icmp.holds, decide_eq_true_eq, decide_eq_false_iff_not, beq_iff_eq, bne_iff_ne, ne_eq, Int32.lt_iff_toInt_lt, Int32.le_iff_toInt_le, ← Int32.toInt_inj, o0, GT.gt, GE.ge, beq_eq_false_iff_ne, bne_eq_false_iff_eq, Decidable.not_not] at q; omega))
theorem ow_if_gt (X : oSt Z ω γ κ T h cs ss) (pc' pq : Nat) {x : Int32} {o : Int} (hd : decode κ.1 pc = .ok (.ifCond .gt o, 3)) (hp : pc + 3 = pc') (hq : (pc : Int) + o = (pq : Int))
    (Ky : 0 < x.toInt → oWP ω γ κ Q T pq L S) (Kn : x.toInt ≤ 0 → oWP ω γ κ Q T pc' L S) : oWP ω γ κ Q T pc L (.int x :: S) :=
  ow_if X pc' pq hd hp hq (fun q => Ky (by simp only [ifCond.holds, decide_eq_true_eq, decide_eq_false_iff_not, beq_iff_eq, bne_iff_ne, ne_eq, Int32.lt_iff_toInt_lt, Int32.le_iff_toInt_le, ← Int32.toInt_inj, o0, GT.gt, GE.ge, beq_eq_false_iff_ne, bne_eq_false_iff_eq, Decidable.not_not] at q; omega)) (fun q => Kn (by simp only [ifCond.holds, decide_eq_true_eq, decide_eq_false_iff_not, beq_iff_eq, bne_iff_ne, ne_eq, Int32.lt_iff_toInt_lt, Int32.le_iff_toInt_le, ← Int32.toInt_inj, o0, GT.gt, GE.ge, beq_eq_false_iff_ne, bne_eq_false_iff_eq, Decidable.not_not] at q; omega))
theorem ow_icmp_gt (X : oSt Z ω γ κ T h cs ss) (pc' pq : Nat) {x y : Int32} {o : Int} (hd : decode κ.1 pc = .ok (.if_icmp .gt o, 3)) (hp : pc + 3 = pc') (hq : (pc : Int) + o = (pq : Int))
    (Ky : y.toInt < x.toInt → oWP ω γ κ Q T pq L S) (Kn : x.toInt ≤ y.toInt → oWP ω γ κ Q T pc' L S) : oWP ω γ κ Q T pc L (.int y :: .int x :: S) :=
  ow_icmp X pc' pq hd hp hq (fun q => Ky (by simp only [if_icmp.holds, decide_eq_true_eq, decide_eq_false_iff_not, beq_iff_eq, bne_iff_ne, ne_eq, Int32.lt_iff_toInt_lt, Int32.le_iff_toInt_le, ← Int32.toInt_inj, o0, GT.gt, GE.ge, beq_eq_false_iff_ne, bne_eq_false_iff_eq, Decidable.not_not] at q; omega)) (fun q => Kn (by simp only [if_icmp.holds, decide_eq_true_eq, decide_eq_false_iff_not, beq_iff_eq, bne_iff_ne, ne_eq, Int32.lt_iff_toInt_lt, Int32.le_iff_toInt_le, ← Int32.toInt_inj, o0, GT.gt, GE.ge, beq_eq_false_iff_ne, bne_eq_false_iff_eq, Decidable.not_not] at q; omega))
theorem ow_if_le (X : oSt Z ω γ κ T h cs ss) (pc' pq : Nat) {x : Int32} {o : Int} (hd : decode κ.1 pc = .ok (.ifCond .le o, 3)) (hp : pc + 3 = pc') (hq : (pc : Int) + o = (pq : Int))
    (Ky : x.toInt ≤ 0 → oWP ω γ κ Q T pq L S) (Kn : 0 < x.toInt → oWP ω γ κ Q T pc' L S) : oWP ω γ κ Q T pc L (.int x :: S) :=
  ow_if X pc' pq hd hp hq (fun q => Ky (by simp only [ifCond.holds, decide_eq_true_eq, decide_eq_false_iff_not, beq_iff_eq, bne_iff_ne, ne_eq, Int32.lt_iff_toInt_lt, Int32.le_iff_toInt_le, ← Int32.toInt_inj, o0, GT.gt, GE.ge, beq_eq_false_iff_ne, bne_eq_false_iff_eq, Decidable.not_not] at q; omega)) (fun q => Kn (by simp only [ifCond.holds, decide_eq_true_eq, decide_eq_false_iff_not, beq_iff_eq, bne_iff_ne, ne_eq, Int32.lt_iff_toInt_lt, Int32.le_iff_toInt_le, ← Int32.toInt_inj, o0, GT.gt, GE.ge, beq_eq_false_iff_ne, bne_eq_false_iff_eq, Decidable.not_not] at q; omega))
theorem ow_icmp_le (X : oSt Z ω γ κ T h cs ss) (pc' pq : Nat) {x y : Int32} {o : Int} (hd : decode κ.1 pc = .ok (.if_icmp .le o, 3)) (hp : pc + 3 = pc') (hq : (pc : Int) + o = (pq : Int))
    (Ky : x.toInt ≤ y.toInt → oWP ω γ κ Q T pq L S) (Kn : y.toInt < x.toInt → oWP ω γ κ Q T pc' L S) : oWP ω γ κ Q T pc L (.int y :: .int x :: S) :=
  ow_icmp X pc' pq hd hp hq (fun q => Ky (by simp only [if_icmp.holds, decide_eq_true_eq, decide_eq_false_iff_not, beq_iff_eq, bne_iff_ne, ne_eq, Int32.lt_iff_toInt_lt, Int32.le_iff_toInt_le, ← Int32.toInt_inj, o0, GT.gt, GE.ge, beq_eq_false_iff_ne, bne_eq_false_iff_eq, Decidable.not_not] at q; omega)) (fun q => Kn (by simp only [if_icmp.holds, decide_eq_true_eq, decide_eq_false_iff_not, beq_iff_eq, bne_iff_ne, ne_eq, Int32.lt_iff_toInt_lt, Int32.le_iff_toInt_le, ← Int32.toInt_inj, o0, GT.gt, GE.ge, beq_eq_false_iff_ne, bne_eq_false_iff_eq, Decidable.not_not] at q; omega))
theorem ow_lcmp (X : oSt Z ω γ κ T h cs ss) (pc' : Nat) {x y : Int64} (hd : decode κ.1 pc = .ok (.lcmp, 1)) (hp : pc + 1 = pc')
    (K : oWP ω γ κ Q T pc' L (.int (lcmpW x y) :: S)) : oWP ω γ κ Q T pc L (.long y :: .long x :: S) := by
  obtain ⟨hx, hby, -, -, -, -, -, -, -, -, -, locs, Y, -⟩ := X
  subst hp
  obtain ⟨s₂, o, hs, r⟩ := K
  exact ⟨s₂, o, XS.lcmp Y.here hx rfl (hb hby hd) rfl hs, r⟩
theorem ow_lcmp_eq (X : oSt Z ω γ κ T h cs ss) (pc1 pc' pq : Nat) {x y : Int64} {o : Int} (hd : decode κ.1 pc = .ok (.lcmp, 1)) (hp1 : pc + 1 = pc1) (hd' : decode κ.1 pc1 = .ok (.ifCond .eq o, 3)) (hp : pc1 + 3 = pc') (hq : (pc1 : Int) + o = (pq : Int))
    (Ky : x.toInt = y.toInt → oWP ω γ κ Q T pq L S) (Kn : x.toInt ≠ y.toInt → oWP ω γ κ Q T pc' L S) : oWP ω γ κ Q T pc L (.long y :: .long x :: S) := by
  refine ow_lcmp X pc1 hd hp1 (ow_if_eq X pc' pq hd' hp hq (fun q => Ky ?_) (fun q => Kn ?_))
  · obtain ⟨c1, c2, c3⟩ := c_lcmp x y
    rcases Int.lt_trichotomy x.toInt y.toInt with a | a | a
    · have := c1 a; omega
    · have := c2 a; omega
    · have := c3 a; omega
  · obtain ⟨c1, c2, c3⟩ := c_lcmp x y
    rcases Int.lt_trichotomy x.toInt y.toInt with a | a | a
    · have := c1 a; omega
    · have := c2 a; omega
    · have := c3 a; omega
theorem ow_lcmp_ne (X : oSt Z ω γ κ T h cs ss) (pc1 pc' pq : Nat) {x y : Int64} {o : Int} (hd : decode κ.1 pc = .ok (.lcmp, 1)) (hp1 : pc + 1 = pc1) (hd' : decode κ.1 pc1 = .ok (.ifCond .ne o, 3)) (hp : pc1 + 3 = pc') (hq : (pc1 : Int) + o = (pq : Int))
    (Ky : x.toInt ≠ y.toInt → oWP ω γ κ Q T pq L S) (Kn : x.toInt = y.toInt → oWP ω γ κ Q T pc' L S) : oWP ω γ κ Q T pc L (.long y :: .long x :: S) := by
  refine ow_lcmp X pc1 hd hp1 (ow_if_ne X pc' pq hd' hp hq (fun q => Ky ?_) (fun q => Kn ?_))
  · obtain ⟨c1, c2, c3⟩ := c_lcmp x y
    rcases Int.lt_trichotomy x.toInt y.toInt with a | a | a
    · have := c1 a; omega
    · have := c2 a; omega
    · have := c3 a; omega
  · obtain ⟨c1, c2, c3⟩ := c_lcmp x y
    rcases Int.lt_trichotomy x.toInt y.toInt with a | a | a
    · have := c1 a; omega
    · have := c2 a; omega
    · have := c3 a; omega
theorem ow_lcmp_lt (X : oSt Z ω γ κ T h cs ss) (pc1 pc' pq : Nat) {x y : Int64} {o : Int} (hd : decode κ.1 pc = .ok (.lcmp, 1)) (hp1 : pc + 1 = pc1) (hd' : decode κ.1 pc1 = .ok (.ifCond .lt o, 3)) (hp : pc1 + 3 = pc') (hq : (pc1 : Int) + o = (pq : Int))
    (Ky : x.toInt < y.toInt → oWP ω γ κ Q T pq L S) (Kn : y.toInt ≤ x.toInt → oWP ω γ κ Q T pc' L S) : oWP ω γ κ Q T pc L (.long y :: .long x :: S) := by
  refine ow_lcmp X pc1 hd hp1 (ow_if_lt X pc' pq hd' hp hq (fun q => Ky ?_) (fun q => Kn ?_))
  · obtain ⟨c1, c2, c3⟩ := c_lcmp x y
    rcases Int.lt_trichotomy x.toInt y.toInt with a | a | a
    · have := c1 a; omega
    · have := c2 a; omega
    · have := c3 a; omega
  · obtain ⟨c1, c2, c3⟩ := c_lcmp x y
    rcases Int.lt_trichotomy x.toInt y.toInt with a | a | a
    · have := c1 a; omega
    · have := c2 a; omega
    · have := c3 a; omega
theorem ow_lcmp_ge (X : oSt Z ω γ κ T h cs ss) (pc1 pc' pq : Nat) {x y : Int64} {o : Int} (hd : decode κ.1 pc = .ok (.lcmp, 1)) (hp1 : pc + 1 = pc1) (hd' : decode κ.1 pc1 = .ok (.ifCond .ge o, 3)) (hp : pc1 + 3 = pc') (hq : (pc1 : Int) + o = (pq : Int))
    (Ky : y.toInt ≤ x.toInt → oWP ω γ κ Q T pq L S) (Kn : x.toInt < y.toInt → oWP ω γ κ Q T pc' L S) : oWP ω γ κ Q T pc L (.long y :: .long x :: S) := by
  refine ow_lcmp X pc1 hd hp1 (ow_if_ge X pc' pq hd' hp hq (fun q => Ky ?_) (fun q => Kn ?_))
  · obtain ⟨c1, c2, c3⟩ := c_lcmp x y
    rcases Int.lt_trichotomy x.toInt y.toInt with a | a | a
    · have := c1 a; omega
    · have := c2 a; omega
    · have := c3 a; omega
  · obtain ⟨c1, c2, c3⟩ := c_lcmp x y
    rcases Int.lt_trichotomy x.toInt y.toInt with a | a | a
    · have := c1 a; omega
    · have := c2 a; omega
    · have := c3 a; omega
theorem ow_lcmp_gt (X : oSt Z ω γ κ T h cs ss) (pc1 pc' pq : Nat) {x y : Int64} {o : Int} (hd : decode κ.1 pc = .ok (.lcmp, 1)) (hp1 : pc + 1 = pc1) (hd' : decode κ.1 pc1 = .ok (.ifCond .gt o, 3)) (hp : pc1 + 3 = pc') (hq : (pc1 : Int) + o = (pq : Int))
    (Ky : y.toInt < x.toInt → oWP ω γ κ Q T pq L S) (Kn : x.toInt ≤ y.toInt → oWP ω γ κ Q T pc' L S) : oWP ω γ κ Q T pc L (.long y :: .long x :: S) := by
  refine ow_lcmp X pc1 hd hp1 (ow_if_gt X pc' pq hd' hp hq (fun q => Ky ?_) (fun q => Kn ?_))
  · obtain ⟨c1, c2, c3⟩ := c_lcmp x y
    rcases Int.lt_trichotomy x.toInt y.toInt with a | a | a
    · have := c1 a; omega
    · have := c2 a; omega
    · have := c3 a; omega
  · obtain ⟨c1, c2, c3⟩ := c_lcmp x y
    rcases Int.lt_trichotomy x.toInt y.toInt with a | a | a
    · have := c1 a; omega
    · have := c2 a; omega
    · have := c3 a; omega
theorem ow_lcmp_le (X : oSt Z ω γ κ T h cs ss) (pc1 pc' pq : Nat) {x y : Int64} {o : Int} (hd : decode κ.1 pc = .ok (.lcmp, 1)) (hp1 : pc + 1 = pc1) (hd' : decode κ.1 pc1 = .ok (.ifCond .le o, 3)) (hp : pc1 + 3 = pc') (hq : (pc1 : Int) + o = (pq : Int))
    (Ky : x.toInt ≤ y.toInt → oWP ω γ κ Q T pq L S) (Kn : y.toInt < x.toInt → oWP ω γ κ Q T pc' L S) : oWP ω γ κ Q T pc L (.long y :: .long x :: S) := by
  refine ow_lcmp X pc1 hd hp1 (ow_if_le X pc' pq hd' hp hq (fun q => Ky ?_) (fun q => Kn ?_))
  · obtain ⟨c1, c2, c3⟩ := c_lcmp x y
    rcases Int.lt_trichotomy x.toInt y.toInt with a | a | a
    · have := c1 a; omega
    · have := c2 a; omega
    · have := c3 a; omega
  · obtain ⟨c1, c2, c3⟩ := c_lcmp x y
    rcases Int.lt_trichotomy x.toInt y.toInt with a | a | a
    · have := c1 a; omega
    · have := c2 a; omega
    · have := c3 a; omega
theorem ow_ifnull (X : oSt Z ω γ κ T h cs ss) (pc' pq : Nat) {v : Value} {o : Int} (hv : v.isRef = true) (hd : decode κ.1 pc = .ok (.ifnull o, 3)) (hp : pc + 3 = pc') (hq : (pc : Int) + o = (pq : Int))
    (Ky : v = .null → oWP ω γ κ Q T pq L S) (Kn : v ≠ .null → oWP ω γ κ Q T pc' L S) : oWP ω γ κ Q T pc L (v :: S) := by
  obtain ⟨hx, hby, -, -, -, -, -, -, -, -, -, locs, Y, -⟩ := X
  subst hp
  rcases ref_cases hv with rfl | ⟨a, rfl⟩
  · obtain ⟨s₂, o, hs, r⟩ := Ky rfl
    exact ⟨s₂, o, XS.ifnullYes Y.here hx rfl (pc0 := pc) rfl (hb hby hd) rfl (by omega) (by omega) hs, r⟩
  · obtain ⟨s₂, o, hs, r⟩ := Kn (by simp)
    exact ⟨s₂, o, XS.ifnullNo Y.here hx rfl (hb hby hd) rfl hs, r⟩
theorem ow_ifnonnull (X : oSt Z ω γ κ T h cs ss) (pc' pq : Nat) {v : Value} {o : Int} (hv : v.isRef = true) (hd : decode κ.1 pc = .ok (.ifnonnull o, 3)) (hp : pc + 3 = pc') (hq : (pc : Int) + o = (pq : Int))
    (Ky : v ≠ .null → oWP ω γ κ Q T pq L S) (Kn : v = .null → oWP ω γ κ Q T pc' L S) : oWP ω γ κ Q T pc L (v :: S) := by
  obtain ⟨hx, hby, -, -, -, -, -, -, -, -, -, locs, Y, -⟩ := X
  subst hp
  rcases ref_cases hv with rfl | ⟨a, rfl⟩
  · obtain ⟨s₂, o, hs, r⟩ := Kn rfl
    exact ⟨s₂, o, XS.ifnonnullNo Y.here hx rfl (hb hby hd) rfl hs, r⟩
  · obtain ⟨s₂, o, hs, r⟩ := Ky (by simp)
    exact ⟨s₂, o, XS.ifnonnullYes Y.here hx rfl (pc0 := pc) rfl (hb hby hd) rfl (by omega) (by omega) hs, r⟩
theorem ow_acmp_eq (X : oSt Z ω γ κ T h cs ss) (pc' pq : Nat) {v w : Value} {o : Int} (hv : v.isRef = true) (hw : w.isRef = true) (hd : decode κ.1 pc = .ok (.if_acmp .eq o, 3)) (hp : pc + 3 = pc') (hq : (pc : Int) + o = (pq : Int))
    (Ky : v = w → oWP ω γ κ Q T pq L S) (Kn : v ≠ w → oWP ω γ κ Q T pc' L S) : oWP ω γ κ Q T pc L (w :: v :: S) := by
  obtain ⟨hx, hby, -, -, -, -, -, -, -, -, -, locs, Y, -⟩ := X
  subst hp
  by_cases e : v = w
  · obtain ⟨s₂, o, hs, r⟩ := Ky e
    exact ⟨s₂, o, RoadKit.acmp Y hx rfl hv hw (pc0 := pc) rfl (hb hby hd) rfl (same := true) (by simp [e]) (by omega) (by simp [acV]; omega) hs, r⟩
  · obtain ⟨s₂, o, hs, r⟩ := Kn e
    exact ⟨s₂, o, RoadKit.acmp Y hx rfl hv hw (pc0 := pc) rfl (hb hby hd) rfl (same := false) (by simp [e]) (by omega) (by simp [acV]) hs, r⟩
theorem ow_acmp_ne (X : oSt Z ω γ κ T h cs ss) (pc' pq : Nat) {v w : Value} {o : Int} (hv : v.isRef = true) (hw : w.isRef = true) (hd : decode κ.1 pc = .ok (.if_acmp .ne o, 3)) (hp : pc + 3 = pc') (hq : (pc : Int) + o = (pq : Int))
    (Ky : v ≠ w → oWP ω γ κ Q T pq L S) (Kn : v = w → oWP ω γ κ Q T pc' L S) : oWP ω γ κ Q T pc L (w :: v :: S) := by
  obtain ⟨hx, hby, -, -, -, -, -, -, -, -, -, locs, Y, -⟩ := X
  subst hp
  by_cases e : v = w
  · obtain ⟨s₂, o, hs, r⟩ := Kn e
    exact ⟨s₂, o, RoadKit.acmp Y hx rfl hv hw (pc0 := pc) rfl (hb hby hd) rfl (same := true) (by simp [e]) (by omega) (by simp [acV]) hs, r⟩
  · obtain ⟨s₂, o, hs, r⟩ := Ky e
    exact ⟨s₂, o, RoadKit.acmp Y hx rfl hv hw (pc0 := pc) rfl (hb hby hd) rfl (same := false) (by simp [e]) (by omega) (by simp [acV]; omega) hs, r⟩
theorem ow_ret (X : oSt Z ω γ κ T h cs ss) {w : Value} {t : FieldType} {i : Instr} (hret : κ.2.2.2.2.1 = some t) (hn : narrow t w = w)
    (hi : (i = .ireturn ∧ (t = .int ∨ t = .boolean ∨ t = .byte ∨ t = .char ∨ t = .short) ∧ ∃ z, w = .int z) ∨ (i = .lreturn ∧ t = .long ∧ ∃ z, w = .long z) ∨ (i = .dreturn ∧ t = .double ∧ ∃ z, w = .double z) ∨ (i = .freturn ∧ t = .float ∧ ∃ z, w = .float z) ∨ (i = .areturn ∧ t.isReference = true ∧ w.isRef = true))
    (hd : decode κ.1 pc = .ok (i, 1)) (hc : cs ≤ κ.2.2.2.2.2.cells) (hsl : ss ≤ κ.2.2.2.2.2.slots) (hQ : Q (some w) h) : oWP ω γ κ Q T pc L (w :: S) := by
  obtain ⟨hx, hby, -, -, -, hr, hlk, -, -, -, hT, locs, Y, N⟩ := X
  obtain ⟨fs, hl, hrun, hended, hW, hsame⟩ := Y.leave (v := some w) (fun q => by rw [hr, hret] at q; cases q) hlk
  refine ⟨_, _, retOut Y hx (hr.trans hret) hn hi (hb hby hd) hl, hrun, hended, _, locs, rfl, ⟨N, ?_⟩, ⟨_, rfl⟩, hW, hsame.mono hc hsl⟩
  show Q (some w) T.heap
  rw [hT]; exact hQ
theorem ow_retI (X : oSt Z ω γ κ T h cs ss) {z : Int32} (hret : κ.2.2.2.2.1 = some .int) (hd : decode κ.1 pc = .ok (.ireturn, 1)) (hc : cs ≤ κ.2.2.2.2.2.cells) (hsl : ss ≤ κ.2.2.2.2.2.slots) (hQ : Q (some (.int z)) h) : oWP ω γ κ Q T pc L (.int z :: S) :=
  ow_ret X hret rfl (Or.inl ⟨rfl, Or.inl rfl, z, rfl⟩) hd hc hsl hQ
theorem ow_retZ (X : oSt Z ω γ κ T h cs ss) {z : Int32} (hret : κ.2.2.2.2.1 = some .boolean) (hd : decode κ.1 pc = .ok (.ireturn, 1)) (hc : cs ≤ κ.2.2.2.2.2.cells) (hsl : ss ≤ κ.2.2.2.2.2.slots) (hz : z = 0 ∨ z = 1) (hQ : Q (some (.int z)) h) : oWP ω γ κ Q T pc L (.int z :: S) :=
  ow_ret X hret (by rcases hz with rfl | rfl <;> rfl) (Or.inl ⟨rfl, Or.inr (Or.inl rfl), z, rfl⟩) hd hc hsl hQ
theorem ow_retC (X : oSt Z ω γ κ T h cs ss) {z : Int32} (hret : κ.2.2.2.2.1 = some .char) (hd : decode κ.1 pc = .ok (.ireturn, 1)) (hc : cs ≤ κ.2.2.2.2.2.cells) (hsl : ss ≤ κ.2.2.2.2.2.slots) (hz : z.toUInt32.toUInt16.toUInt32.toInt32 = z) (hQ : Q (some (.int z)) h) : oWP ω γ κ Q T pc L (.int z :: S) :=
  ow_ret X hret (by show Value.int z.toUInt32.toUInt16.toUInt32.toInt32 = _; rw [hz]) (Or.inl ⟨rfl, Or.inr (Or.inr (Or.inr (Or.inl rfl))), z, rfl⟩) hd hc hsl hQ
theorem ow_retJ (X : oSt Z ω γ κ T h cs ss) {z : Int64} (hret : κ.2.2.2.2.1 = some .long) (hd : decode κ.1 pc = .ok (.lreturn, 1)) (hc : cs ≤ κ.2.2.2.2.2.cells) (hsl : ss ≤ κ.2.2.2.2.2.slots) (hQ : Q (some (.long z)) h) : oWP ω γ κ Q T pc L (.long z :: S) :=
  ow_ret X hret rfl (Or.inr (Or.inl ⟨rfl, rfl, z, rfl⟩)) hd hc hsl hQ
theorem ow_retA (X : oSt Z ω γ κ T h cs ss) {v : Value} {t : FieldType} (hret : κ.2.2.2.2.1 = some t) (ht : t.isReference = true) (hv : v.isRef = true) (hd : decode κ.1 pc = .ok (.areturn, 1)) (hc : cs ≤ κ.2.2.2.2.2.cells) (hsl : ss ≤ κ.2.2.2.2.2.slots) (hQ : Q (some v) h) : oWP ω γ κ Q T pc L (v :: S) :=
  ow_ret X hret (by cases t <;> first | rfl | cases ht) (Or.inr (Or.inr (Or.inr (Or.inr ⟨rfl, ht, hv⟩)))) hd hc hsl hQ
theorem ow_retV (X : oSt Z ω γ κ T h cs ss) (hret : κ.2.2.2.2.1 = none) (hd : decode κ.1 pc = .ok (.return_, 1)) (hc : cs ≤ κ.2.2.2.2.2.cells) (hsl : ss ≤ κ.2.2.2.2.2.slots) (hQ : Q none h) : oWP ω γ κ Q T pc L [] := by
  obtain ⟨hx, hby, -, -, -, hr, hlk, -, -, -, hT, locs, Y, N⟩ := X
  obtain ⟨fs, hl, hrun, hended, hW, hsame⟩ := Y.leave (v := none) (fun _ => rfl) hlk
  refine ⟨_, _, Y.returnOut hx (hr.trans hret) (hb hby hd) hl, hrun, hended, _, locs, rfl, ⟨N, ?_⟩, ⟨_, rfl⟩, hW, hsame.mono hc hsl⟩
  show Q none T.heap
  rw [hT]; exact hQ
theorem ow_getF (X : oSt Z ω γ κ T h cs ss) (pc' i : Nat) {own O n d : String} {idx : Nat} {a : Addr} {v : Value} (hw : tables_1[i]? = some (.fieldLink own idx O n d)) (ho : κ.2.2.1 = own) (F : Fld Z h a O n d v) (hd : decode κ.1 pc = .ok (.getfield idx, 3)) (hp : pc + 3 = pc')
    (K : ∀ T', oSt Z ω γ κ T' h cs ss → oWP ω γ κ Q T' pc' L (v :: S)) : oWP ω γ κ Q T pc L (.ref a :: S) := by
  have hw' := oSt_at X i hw
  obtain ⟨hx, hby, hml, hown, hnm, hr, hlk, hZ, hT1, hn0, hT, locs, Y, N⟩ := X
  subst hp ho
  obtain ⟨T', Y', e', st⟩ := getF Y hx hZ hown (host := "") (Or.inl hw') Via.refl hT F (g := mkF γ.2.2.2.1 pc L (.ref a :: S)) rfl rfl (hb hby hd)
  obtain ⟨s₂, o, hs, r⟩ := K T' ⟨hx, hby, hml, hown, hnm, hr, hlk, hZ, hT1, hn0, e', locs, Y', N⟩
  exact ⟨s₂, o, st _ hs, r⟩
theorem ow_getS (X : oSt Z ω γ κ T h cs ss) (pc' i : Nat) {own O n d : String} {idx : Nat} {v : Value} (hw : tables_1[i]? = some (.fieldLink own idx O n d)) (ho : κ.2.2.1 = own) (F : Sta Z h O n d v) (hd : decode κ.1 pc = .ok (.getstatic idx, 3)) (hp : pc + 3 = pc')
    (K : ∀ T', oSt Z ω γ κ T' h cs ss → oWP ω γ κ Q T' pc' L (v :: S)) : oWP ω γ κ Q T pc L S := by
  have hw' := oSt_at X i hw
  obtain ⟨hx, hby, hml, hown, hnm, hr, hlk, hZ, hT1, hn0, hT, locs, Y, N⟩ := X
  subst hp ho
  obtain ⟨T', Y', e', st⟩ := getS Y hx hZ hown hw' Via.refl hT F (g := mkF γ.2.2.2.1 pc L S) rfl (hb hby hd) (host := "")
  obtain ⟨s₂, o, hs, r⟩ := K T' ⟨hx, hby, hml, hown, hnm, hr, hlk, hZ, hT1, hn0, e', locs, Y', N⟩
  exact ⟨s₂, o, st _ hs, r⟩
theorem ow_cast (X : oSt Z ω γ κ T h cs ss) (pc' i : Nat) {own K : String} {idx : Nat} {a : Addr} (hw : tables_1[i]? = some (.classLink own idx K)) (ho : κ.2.2.1 = own) (F : Ins Z h a K true) (hd : decode κ.1 pc = .ok (.checkcast idx, 3)) (hp : pc + 3 = pc')
    (K' : ∀ T', oSt Z ω γ κ T' h cs ss → oWP ω γ κ Q T' pc' L (.ref a :: S)) : oWP ω γ κ Q T pc L (.ref a :: S) := by
  have hw' := oSt_at X i hw
  obtain ⟨hx, hby, hml, hown, hnm, hr, hlk, hZ, hT1, hn0, hT, locs, Y, N⟩ := X
  subst hp ho
  obtain ⟨T', Y', e', st⟩ := castY Y hx hZ hown hw' hT F (g := mkF γ.2.2.2.1 pc L (.ref a :: S)) rfl rfl (hb hby hd)
  obtain ⟨s₂, o, hs, r⟩ := K' T' ⟨hx, hby, hml, hown, hnm, hr, hlk, hZ, hT1, hn0, e', locs, Y', N⟩
  exact ⟨s₂, o, st _ hs, r⟩
theorem ow_putF (X : oSt Z ω γ κ T h cs ss) (pc' i k : Nat) {own O n d C : String} {idx kk : Nat} {a : Addr} {v old : Value} {ty : FieldType} (hw : tables_1[i]? = some (.fieldLink own idx O n d)) (ho : κ.2.2.1 = own) (F : Fld Z h a O n d old) (E : Exa Z h a C)
    (hl : (Jvm.Cond.lays C O n d).before ω.2.2 Z = true ∨ ((Jvm.Cond.laysFinal C O n d).before ω.2.2 Z = true ∧ κ.2.2.1 = O ∧ κ.2.2.2.1 = "<init>")) (hi : tables_1[k]? = some (.instantiable C kk)) (hty : parseFieldDescriptor d = some ty) (hn : narrow ty v = v) (hf : fits ty v = true) (ha : ω.2.1 ≤ a)
    (hd : decode κ.1 pc = .ok (.putfield idx, 3)) (hp : pc + 3 = pc')
    (K : ∀ T' h', oSt Z ω γ κ T' h' cs ss → Wr h h' a (RoadKit.slotOf Z O n d) v → oWP ω γ κ Q T' pc' L S) : oWP ω γ κ Q T pc L (v :: .ref a :: S) := by
  have hw' := oSt_at X i hw
  have hi' := oSt_at X k hi
  obtain ⟨hx, hby, hml, hown, hnm, hr, hlk, hZ, hT1, hn0, hT, locs, Y, N⟩ := X
  subst hp ho
  obtain ⟨T', h', Y', e', W, st⟩ := putF Y hx hZ hown (host := "") (Or.inl hw') Via.refl hT F E (hl.imp id fun q => ⟨q.1, q.2.1, hnm.trans q.2.2⟩) hi' hty hn hf (g := mkF γ.2.2.2.1 pc L (v :: .ref a :: S)) rfl rfl (hb hby hd)
  obtain ⟨s₂, o, hs, r⟩ := K T' h' ⟨hx, hby, hml, hown, hnm, hr, hlk, hZ, hT1, hn0, e', _, Y', Fr.snoc Y' N ha⟩ W
  exact ⟨s₂, o, st _ hs, r⟩
theorem ow_new (X : oSt Z ω γ κ T h cs ss) (pc' i1 i2 i3 : Nat) {own C : String} {idx n : Nat} (w1 : tables_1[i1]? = some (.classLink own idx C)) (ho : κ.2.2.1 = own) (w2 : tables_1[i2]? = some (.instantiable C n)) (w3 : tables_1[i3]? = some (.initialized C))
    (hd : decode κ.1 pc = .ok (.new idx, 3)) (hp : pc + 3 = pc') (hc : cs + 1 ≤ κ.2.2.2.2.2.cells) (hsl : ss + n ≤ κ.2.2.2.2.2.slots)
    (K : ∀ T' h' a, a = h.size → oSt Z ω γ κ T' h' (cs + 1) (ss + n) → Ext h h' → Exa Z h' a C → (∀ {O nm d : String} {ty : FieldType}, Laid Z ω.2.2 C O nm d → parseFieldDescriptor d = some ty → Fld Z h' a O nm d (defaultValue ty)) → ω.2.1 ≤ a → oWP ω γ κ Q T' pc' L (.ref a :: S)) : oWP ω γ κ Q T pc L S := by
  have w1' := oSt_at X i1 w1
  have w2' := oSt_at X i2 w2
  have w3' := oSt_at X i3 w3
  have hN := oSt_n0 X
  obtain ⟨hx, hby, hml, hown, hnm, hr, hlk, hZ, hT1, hn0, hT, locs, Y, N⟩ := X
  subst hp ho
  obtain ⟨T', h', Y', e', E, A, D, -, st⟩ := newO Y hx hZ hown w1' w2' w3' hT (g := mkF γ.2.2.2.1 pc L S) rfl (hb hby hd) hc hsl
  obtain ⟨s₂, o, hs, r⟩ := K T' h' h.size rfl ⟨hx, hby, hml, hown, hnm, hr, hlk, hZ, hT1, hn0, e', _, Y', N⟩ E A D hN
  exact ⟨s₂, o, st _ hs, r⟩
theorem ow_initO (X : oSt Z ω γ κ T h cs ss) (pc' i1 i2 i3 : Nat) {own : String} {idx : Nat} {a : Addr} (w1 : tables_1[i1]? = some (.methodLink own idx Lib.objectInit)) (ho : κ.2.2.1 = own) (w2 : tables_1[i2]? = some (.instanceMethod Lib.objectInit)) (w3 : tables_1[i3]? = some (.code Lib.objectInit ⟨#[0xb1]⟩ 1 none))
    (hd : decode κ.1 pc = .ok (.invokespecial idx, 3)) (hp : pc + 3 = pc') (hL : L.size = κ.2.1) (hf : 1 ≤ κ.2.2.2.2.2.frames) {W : Nat} (hW : (S.map fun v => v.category).sum ≤ W) (hl : W + 12 ≤ κ.2.2.2.2.2.locals)
    (K : ∀ T', oSt Z ω γ κ T' h cs ss → oWP ω γ κ Q T' pc' L S) : oWP ω γ κ Q T pc L (.ref a :: S) := by
  have w1' := oSt_at X i1 w1
  have w2' := oSt_at X i2 w2
  have w3' := oSt_at X i3 w3
  obtain ⟨hx, hby, hml, hown, hnm, hr, hlk, hZ, hT1, hn0, hT, locs, Y, N⟩ := X
  subst hp ho
  obtain ⟨T', Y', e', st⟩ := initO Y hx hZ hown w1' w2' w3' hT (g := mkF γ.2.2.2.1 pc L (.ref a :: S)) rfl (by rw [hml]; exact hL) rfl (hb hby hd) hf (W := W) (by show 2 * 0 + _ ≤ _; omega) hl
  obtain ⟨s₂, o, hs, r⟩ := K T' ⟨hx, hby, hml, hown, hnm, hr, hlk, hZ, hT1, hn0, e', _, Y', N⟩
  exact ⟨s₂, o, st _ hs, r⟩
theorem ow_callS (X : oSt Z ω γ κ T h cs ss) (pc' i1 i2 i3 i4 : Nat) {own : String} {idx : Nat} {y : MethodName} {κ' : OM} {Q' : Option Value → Heap → Prop} {as : List Value} {ps : List FieldType} {rt : Option FieldType} {W : Nat} {S0 : List Value}
    (w1 : tables_1[i1]? = some (.methodLink own idx y)) (ho : κ.2.2.1 = own) (w2 : tables_1[i2]? = some (.static y)) (w3 : tables_1[i3]? = some (.initialized y.cls)) (w4 : tables_1[i4]? = some (.code y κ'.1 κ'.2.1 κ'.2.2.2.2.1)) (hy : y.cls ≠ "java/lang/invoke/MethodHandle" ∧ y.cls ≠ "java/lang/invoke/VarHandle")
    (C : oC Z ω y κ' [] as.toArray h Q') (hf : κ'.2.2.2.2.2.frames + 1 ≤ κ.2.2.2.2.2.frames) (hl : W + (κ'.2.1 + 11) + κ'.2.2.2.2.2.locals ≤ κ.2.2.2.2.2.locals) (hW : (S.map fun v => v.category).sum ≤ W) (hc : cs + κ'.2.2.2.2.2.cells ≤ κ.2.2.2.2.2.cells) (hs : ss + κ'.2.2.2.2.2.slots ≤ κ.2.2.2.2.2.slots)
    (hpd : parseMethodDescriptor y.desc = some ⟨ps, rt⟩) (hlen : as.length = ps.length) (hS : S0 = as.reverse ++ S) (hL : L.size = κ.2.1) (hd : decode κ.1 pc = .ok (.invokestatic idx, 3)) (hp : pc + 3 = pc')
    (K : ∀ v T' h', oSt Z ω γ κ T' h' (cs + κ'.2.2.2.2.2.cells) (ss + κ'.2.2.2.2.2.slots) → Q' v h' → oWP ω γ κ Q T' pc' L (v.toList ++ S)) : oWP ω γ κ Q T pc L S0 := by
  have w1' := oSt_at X i1 w1
  have w2' := oSt_at X i2 w2
  have w3' := oSt_at X i3 w3
  have w4' := oSt_at X i4 w4
  obtain ⟨hx, hby, hml, hown, hnm, hr, hlk, hZ, hT1, hn0, hT, locs, Y, N⟩ := X
  subst hp ho hS
  obtain ⟨v, vm₁, ⟨T', L', k', n'⟩, -, Y', ⟨Lc, ⟨hF, hQ⟩, q1, q2, q3⟩, st⟩ := Jvm.LawKit.callS Y hx (y := y) hown (mvT hZ w1') (mvT hZ w2') (mvT hZ w3') (mvT hZ w4') hy (backOf (W := W) (Q := fun v hh Lc => Fr ω.2.1 Lc ∧ Q' v hh) (bytes := κ'.1) (maxL := κ'.2.1) (ret := κ'.2.2.2.2.1) (rm := κ'.2.2.2.2.2) C hZ w4' w3' hf hl) (g := mkF γ.2.2.2.1 pc L (as.reverse ++ S)) rfl (by rw [hml]; exact hL) (argsL := as) (rest := S) (lenOf hpd hlen) rfl (by show 2 * 0 + _ ≤ _; omega) (hb hby hd) (fun _ _ => ⟨rfl, hT, hc, hs⟩)
  dsimp only [Pt.U, Pt.locs, Pt.cells, Pt.slots] at Y' q1 q2 q3 st hQ
  subst q1 q2 q3
  obtain ⟨s₂, o, hs, r⟩ := K v T' T'.heap ⟨hx, hby, hml, hown, hnm, hr, hlk, hZ, hT1, hn0, rfl, _, Y', N.app hF⟩ hQ
  exact ⟨s₂, o, st _ hs, r⟩
theorem ow_callC (X : oSt Z ω γ κ T h cs ss) (pc' i1 i2 i3 i4 : Nat) {own : String} {idx : Nat} {y : MethodName} {κ' : OM} {Q' : Option Value → Heap → Prop} {a : Addr} {as : List Value} {ps : List FieldType} {rt : Option FieldType} {W : Nat} {S0 : List Value}
    (hy1 : y.name = "<init>") (w1 : tables_1[i1]? = some (.methodLink own idx y)) (ho : κ.2.2.1 = own) (w2 : tables_1[i2]? = some (.instanceMethod y)) (w3 : tables_1[i3]? = some (.initialized y.cls)) (w4 : tables_1[i4]? = some (.code y κ'.1 κ'.2.1 κ'.2.2.2.2.1)) (hr0 : κ'.2.2.2.2.1 = none) (hy : y.cls ≠ "java/lang/invoke/MethodHandle" ∧ y.cls ≠ "java/lang/invoke/VarHandle")
    (C : oC Z ω y κ' [] (.ref a :: as).toArray h Q') (hf : κ'.2.2.2.2.2.frames + 1 ≤ κ.2.2.2.2.2.frames) (hl : W + (κ'.2.1 + 11) + κ'.2.2.2.2.2.locals ≤ κ.2.2.2.2.2.locals) (hW : (S.map fun v => v.category).sum ≤ W) (hc : cs + κ'.2.2.2.2.2.cells ≤ κ.2.2.2.2.2.cells) (hs : ss + κ'.2.2.2.2.2.slots ≤ κ.2.2.2.2.2.slots)
    (hpd : parseMethodDescriptor y.desc = some ⟨ps, rt⟩) (hlen : as.length = ps.length) (hS : S0 = as.reverse ++ .ref a :: S) (hL : L.size = κ.2.1) (hd : decode κ.1 pc = .ok (.invokespecial idx, 3)) (hp : pc + 3 = pc')
    (K : ∀ v T' h', oSt Z ω γ κ T' h' (cs + κ'.2.2.2.2.2.cells) (ss + κ'.2.2.2.2.2.slots) → Q' v h' → oWP ω γ κ Q T' pc' L (v.toList ++ S)) : oWP ω γ κ Q T pc L S0 := by
  have w1' := oSt_at X i1 w1
  have w2' := oSt_at X i2 w2
  have w3' := oSt_at X i3 w3
  have w4' := oSt_at X i4 w4
  obtain ⟨hx, hby, hml, hown, hnm, hr, hlk, hZ, hT1, hn0, hT, locs, Y, N⟩ := X
  subst hp ho hS
  obtain ⟨v, vm₁, ⟨T', L', k', n'⟩, -, Y', ⟨Lc, ⟨hF, hQ⟩, q1, q2, q3⟩, st⟩ := Y.specialBack hx (y := y) hy1 hown (mvT hZ w1') (mvT hZ w2') (mvT hZ (hr0 ▸ w4')) hy (backOf (W := W) (Q := fun v hh Lc => Fr ω.2.1 Lc ∧ Q' v hh) (bytes := κ'.1) (maxL := κ'.2.1) (ret := κ'.2.2.2.2.1) (rm := κ'.2.2.2.2.2) C hZ w4' w3' hf hl) (g := mkF γ.2.2.2.1 pc L (as.reverse ++ .ref a :: S)) rfl (by rw [hml]; exact hL) (Steps.refl _) (a := a) (argsL := as) (rest := S) (lenOf hpd hlen) rfl (by show 2 * 0 + _ ≤ _; omega) (hb hby hd) (fun _ _ => ⟨rfl, hT, hc, hs⟩)
  dsimp only [Pt.U, Pt.locs, Pt.cells, Pt.slots] at Y' q1 q2 q3 st hQ
  subst q1 q2 q3
  obtain ⟨s₂, o, hs, r⟩ := K v T' T'.heap ⟨hx, hby, hml, hown, hnm, hr, hlk, hZ, hT1, hn0, rfl, _, Y', N.app hF⟩ hQ
  exact ⟨s₂, o, st.trans hs, r⟩
theorem ow_callV (X : oSt Z ω γ κ T h cs ss) (pc' i1 i2 i3 i4 i5 i6 : Nat) {own C0 : String} {idx : Nat} {y : MethodName} {κ' : OM} {Q' : Option Value → Heap → Prop} {a : Addr} {as : List Value} {ps : List FieldType} {rt : Option FieldType} {W : Nat} {S0 : List Value}
    (w1 : tables_1[i1]? = some (.methodLink own idx y)) (ho : κ.2.2.1 = own) (w2 : tables_1[i2]? = some (.declares y)) (w3 : tables_1[i3]? = some (.selects C0 y y)) (w4 : tables_1[i4]? = some (.instanceMethod y)) (w5 : tables_1[i5]? = some (.code y κ'.1 κ'.2.1 κ'.2.2.2.2.1)) (w6 : tables_1[i6]? = some (.initialized y.cls)) (hy : y.cls ≠ "java/lang/invoke/MethodHandle" ∧ y.cls ≠ "java/lang/invoke/VarHandle")
    (E : Exa Z h a C0) (C : oC Z ω y κ' [] (.ref a :: as).toArray h Q') (hf : κ'.2.2.2.2.2.frames + 1 ≤ κ.2.2.2.2.2.frames) (hl : W + (κ'.2.1 + 11) + κ'.2.2.2.2.2.locals ≤ κ.2.2.2.2.2.locals) (hW : (S.map fun v => v.category).sum ≤ W) (hc : cs + κ'.2.2.2.2.2.cells ≤ κ.2.2.2.2.2.cells) (hs : ss + κ'.2.2.2.2.2.slots ≤ κ.2.2.2.2.2.slots)
    (hpd : parseMethodDescriptor y.desc = some ⟨ps, rt⟩) (hlen : as.length = ps.length) (hS : S0 = as.reverse ++ .ref a :: S) (hL : L.size = κ.2.1) (hd : decode κ.1 pc = .ok (.invokevirtual idx, 3)) (hp : pc + 3 = pc')
    (K : ∀ v T' h', oSt Z ω γ κ T' h' (cs + κ'.2.2.2.2.2.cells) (ss + κ'.2.2.2.2.2.slots) → Q' v h' → oWP ω γ κ Q T' pc' L (v.toList ++ S)) : oWP ω γ κ Q T pc L S0 := by
  have w1' := oSt_at X i1 w1
  have w2' := oSt_at X i2 w2
  have w3' := oSt_at X i3 w3
  have w4' := oSt_at X i4 w4
  have w5' := oSt_at X i5 w5
  have w6' := oSt_at X i6 w6
  obtain ⟨hx, hby, hml, hown, hnm, hr, hlk, hZ, hT1, hn0, hT, locs, Y, N⟩ := X
  subst hp ho hS
  obtain ⟨cq, kq, qa, qb, qc⟩ := isOf hZ hT E
  obtain ⟨v, vm₁, ⟨T', L', k', n'⟩, -, Y', ⟨Lc, ⟨hF, hQ⟩, q1, q2, q3⟩, st⟩ := Y.virtualBack hx (y := y) (z := y) hown (mvT hZ w1') (mvT hZ w2') (notFace_of_selects (args := #[]) (mvT hZ w3')) (mvT hZ w3') (mvT hZ w4') hy (backOf (W := W) (Q := fun v hh Lc => Fr ω.2.1 Lc ∧ Q' v hh) (bytes := κ'.1) (maxL := κ'.2.1) (ret := κ'.2.2.2.2.1) (rm := κ'.2.2.2.2.2) C hZ w5' w6' hf hl) qa qc (g := mkF γ.2.2.2.1 pc L (as.reverse ++ .ref a :: S)) rfl (by rw [hml]; exact hL) (Steps.refl _) (argsL := as) (rest := S) (lenOf hpd hlen) rfl (by show 2 * 0 + _ ≤ _; omega) (hb hby hd) (fun _ _ => ⟨rfl, hT, hc, hs⟩)
  dsimp only [Pt.U, Pt.locs, Pt.cells, Pt.slots] at Y' q1 q2 q3 st hQ
  subst q1 q2 q3
  obtain ⟨s₂, o, hs, r⟩ := K v T' T'.heap ⟨hx, hby, hml, hown, hnm, hr, hlk, hZ, hT1, hn0, rfl, _, Y', N.app hF⟩ hQ
  exact ⟨s₂, o, st.trans hs, r⟩
theorem ow_callP (X : oSt Z ω γ κ T h cs ss) (pc' i1 i2 i3 i4 i5 i6 : Nat) {own C0 : String} {idx nn : Nat} {y : MethodName} {κ' : OM} {Q' : Option Value → Heap → Prop} {a : Addr} {as : List Value} {ps : List FieldType} {rt : Option FieldType} {W : Nat} {S0 : List Value}
    (w1 : tables_1[i1]? = some (.methodLink own idx y)) (ho : κ.2.2.1 = own) (w2 : tables_1[i2]? = some (.instanceMethod y)) (w3 : tables_1[i3]? = some (.privateMethod y)) (w4 : tables_1[i4]? = some (.initialized y.cls)) (w5 : tables_1[i5]? = some (.code y κ'.1 κ'.2.1 κ'.2.2.2.2.1)) (w6 : tables_1[i6]? = some (.instantiable y.cls nn)) (hy : y.cls ≠ "java/lang/invoke/MethodHandle" ∧ y.cls ≠ "java/lang/invoke/VarHandle")
    (E : Exa Z h a C0) (C : oC Z ω y κ' [] (.ref a :: as).toArray h Q') (hf : κ'.2.2.2.2.2.frames + 1 ≤ κ.2.2.2.2.2.frames) (hl : W + (κ'.2.1 + 11) + κ'.2.2.2.2.2.locals ≤ κ.2.2.2.2.2.locals) (hW : (S.map fun v => v.category).sum ≤ W) (hc : cs + κ'.2.2.2.2.2.cells ≤ κ.2.2.2.2.2.cells) (hs : ss + κ'.2.2.2.2.2.slots ≤ κ.2.2.2.2.2.slots)
    (hpd : parseMethodDescriptor y.desc = some ⟨ps, rt⟩) (hlen : as.length = ps.length) (hS : S0 = as.reverse ++ .ref a :: S) (hL : L.size = κ.2.1) (hd : decode κ.1 pc = .ok (.invokevirtual idx, 3)) (hp : pc + 3 = pc')
    (K : ∀ v T' h', oSt Z ω γ κ T' h' (cs + κ'.2.2.2.2.2.cells) (ss + κ'.2.2.2.2.2.slots) → Q' v h' → oWP ω γ κ Q T' pc' L (v.toList ++ S)) : oWP ω γ κ Q T pc L S0 := by
  have w1' := oSt_at X i1 w1
  have w2' := oSt_at X i2 w2
  have w3' := oSt_at X i3 w3
  have w4' := oSt_at X i4 w4
  have w5' := oSt_at X i5 w5
  have w6' := oSt_at X i6 w6
  obtain ⟨hx, hby, hml, hown, hnm, hr, hlk, hZ, hT1, hn0, hT, locs, Y, N⟩ := X
  subst hp ho hS
  obtain ⟨cq, q1, q2⟩ := E.cell
  obtain ⟨ck, kk, i1, i2, -, i4, -⟩ := Cond.instantiable_spec (mvT (args := #[]) hZ w6')
  have hni : kk.isInterface = false := (Bool.or_eq_false_iff.mp i4).1
  have hpr := Cond.privateMethod_at (mvP (args := #[]) hZ w3')
  obtain ⟨v, vm₁, ⟨T', L', k', n'⟩, -, Y', ⟨Lc, ⟨hF, hQ⟩, q1, q2, q3⟩, st⟩ := Y.privateBack hx (y := y) hown (mvT hZ w1') (mvT hZ w2') (selects_self_of_private i1 i2 hni hpr (mvT hZ w2') hy) hpr (mvT hZ w5') hy (backOf (W := W) (Q := fun v hh Lc => Fr ω.2.1 Lc ∧ Q' v hh) (bytes := κ'.1) (maxL := κ'.2.1) (ret := κ'.2.2.2.2.1) (rm := κ'.2.2.2.2.2) C hZ w5' w4' hf hl) (g := mkF γ.2.2.2.1 pc L (as.reverse ++ .ref a :: S)) rfl (by rw [hml]; exact hL) (Steps.refl _) (a := a) (by rw [hT]; exact q1) q2 (argsL := as) (rest := S) (lenOf hpd hlen) rfl (by show 2 * 0 + _ ≤ _; omega) (hb hby hd) (fun _ _ => ⟨rfl, hT, hc, hs⟩)
  dsimp only [Pt.U, Pt.locs, Pt.cells, Pt.slots] at Y' q1 q2 q3 st hQ
  subst q1 q2 q3
  obtain ⟨s₂, o, hs, r⟩ := K v T' T'.heap ⟨hx, hby, hml, hown, hnm, hr, hlk, hZ, hT1, hn0, rfl, _, Y', N.app hF⟩ hQ
  exact ⟨s₂, o, st.trans hs, r⟩
end Walk
/-- an array: its component type, its length, what it holds -/
def oA (Z : State) (h : Heap) (a : Addr) (ty : FieldType) (n : Nat) (f : Nat → Value) : Prop := ∃ c : Cell, Arr Z h a c ty ∧ c.slots.size = n ∧ n < 2147483648 ∧ ∀ i, i < n → c.slots[i]? = some (f i)
section Arrays
variable {Z : State} {h h' : Heap} {a b : Addr} {ty : FieldType} {n sl : Nat} {f g : Nat → Value} {v : Value} {ws : List Addr}
theorem oA.lt (A : oA Z h a ty n f) : a < h.size := by obtain ⟨c, A, -⟩ := A; exact A.lt
theorem oA.small (A : oA Z h a ty n f) : n < 2147483648 := by obtain ⟨c, -, -, q, -⟩ := A; exact q
theorem oA.ext (A : oA Z h a ty n f) (E : Ext h h') : oA Z h' a ty n f := by obtain ⟨c, A, r⟩ := A; exact ⟨c, A.ext E, r⟩
theorem oA.other (A : oA Z h b ty n f) (W : Wr h h' a sl v) (q : b ≠ a) : oA Z h' b ty n f := by obtain ⟨c, A, r⟩ := A; exact ⟨c, A.other W q, r⟩
theorem oA.keep (A : oA Z h a ty n f) (K : Keep h h' ws) (q : a ∉ ws) : oA Z h' a ty n f := by obtain ⟨c, A, r⟩ := A; exact ⟨c, ⟨K.2.1 a c A.1 q, A.2⟩, r⟩
theorem oA.congr (A : oA Z h a ty n f) (q : ∀ i, i < n → f i = g i) : oA Z h a ty n g := by obtain ⟨c, A, r1, r2, r3⟩ := A; exact ⟨c, A, r1, r2, fun i hi => by rw [← q i hi]; exact r3 i hi⟩
theorem oA.set (A : oA Z h a ty n f) (W : Wr h h' a sl v) : oA Z h' a ty n (fun i => if i = sl then v else f i) := by
  obtain ⟨c, A, r1, r2, r3⟩ := A
  have hlt : sl < n := by
    obtain ⟨c', h1, -, h3, -⟩ := W
    cases A.1.symm.trans h1
    omega
  refine ⟨c.setSlot sl v, A.same W, (sz_set _ _ _).trans r1, r2, fun i hi => ?_⟩
  by_cases e : i = sl
  · subst e; simp [Cell.setSlot, r1, hlt]
  · simp only [e, if_false]
    rw [← r3 i hi]
    exact Array.getElem?_setIfInBounds_ne (Ne.symm e)
/-- one place changed -/
def oUpd {α : Type} (g : Nat → α) (k : Nat) (v : α) : Nat → α := fun i => if i = k then v else g i
theorem oUpd_hit {α : Type} (g : Nat → α) (k : Nat) (v : α) : oUpd g k v k = v := if_pos rfl
theorem oUpd_miss {α : Type} (g : Nat → α) {k i : Nat} (v : α) (q : i ≠ k) : oUpd g k v i = g i := if_neg q
def oZI : Nat → Int32 := fun _ => 0
def oZJ : Nat → Int64 := fun _ => 0
theorem oA.setI {g : Nat → Int32} {x : Int32} (A : oA Z h a ty n (fun i => .int (g i))) (W : Wr h h' a sl (.int x)) : oA Z h' a ty n (fun i => .int (oUpd g sl x i)) :=
  (A.set W).congr fun i _ => by unfold oUpd; split <;> rfl
theorem oA.setJ {g : Nat → Int64} {x : Int64} (A : oA Z h a ty n (fun i => .long (g i))) (W : Wr h h' a sl (.long x)) : oA Z h' a ty n (fun i => .long (oUpd g sl x i)) :=
  (A.set W).congr fun i _ => by unfold oUpd; split <;> rfl
theorem oNd {l : List Addr} (h : l.Nodup) (i j : Nat) (hij : i ≠ j) {a b : Addr} (ha : l[i]? = some a) (hb : l[j]? = some b) : a ≠ b := by
  intro e; subst e
  obtain ⟨h1, h2⟩ := List.getElem?_eq_some_iff.mp ha
  obtain ⟨h3, h4⟩ := List.getElem?_eq_some_iff.mp hb
  have q := List.pairwise_iff_getElem.mp h
  rcases Nat.lt_or_gt_of_ne hij with r | r
  · exact q i j h1 h3 r (h2.trans h4.symm)
  · exact q j i h3 h1 r (h4.trans h2.symm)
theorem oA.new {cA : ClassId} {k : Int32} (A : Arr Z h a (newA cA ty k) ty) (q : 0 ≤ k.toInt) : oA Z h a ty k.toInt.toNat (fun _ => defaultValue ty) := by
  have e : k.toNatClampNeg = k.toInt.toNat := rfl
  have := k.toInt_lt
  refine ⟨_, A, (sz_new _ _ _).trans e, by omega, fun i hi => ?_⟩
  have : i < k.toNatClampNeg := by rw [e]; exact hi
  simp [newA, this]
theorem oInb {j : Int32} {c : Cell} (r1 : c.slots.size = n) (q : 0 ≤ j.toInt) (q' : j.toInt < n) : ¬ (j < 0 ∨ c.slots.size ≤ j.toNatClampNeg) := by
  have e : j.toNatClampNeg = j.toInt.toNat := rfl
  rw [Int32.lt_iff_toInt_lt, r1, e, o0]; omega
end Arrays
section Walk2
variable {Z : State} {ω : OW} {γ : OG} {κ : OM} {Q : Option Value → Heap → Prop} {T : State} {h : Heap} {cs ss : Nat} {pc : Nat} {L : Array Slot} {S : List Value}
theorem ow_alen (X : oSt Z ω γ κ T h cs ss) (pc' : Nat) {a : Addr} {ty : FieldType} {n : Nat} {f : Nat → Value} {v : Int32} (A : oA Z h a ty n f) (hd : decode κ.1 pc = .ok (.arraylength, 1)) (hp : pc + 1 = pc') (hv : v.toInt = n)
    (K : oWP ω γ κ Q T pc' L (.int v :: S)) : oWP ω γ κ Q T pc L (.ref a :: S) := by
  obtain ⟨hx, hby, -, -, -, -, -, hZ, -, -, hT, locs, Y, -⟩ := X
  obtain ⟨c, A, r1, r2, -⟩ := A
  subst hp
  obtain ⟨s₂, o, hs, r⟩ := K
  have e : c.slots.size.toInt32 = v := Int32.toInt_inj.mp (by rw [hv, len_toInt (by omega), r1])
  exact ⟨s₂, o, Y.arraylength hx (by rw [hT]; exact A.1) (State.isArrayOf_alike hZ.alike A.2.1) (g := mkF γ.2.2.2.1 pc L (.ref a :: S)) rfl rfl (hb hby hd) _ (by rw [e]; exact hs), r⟩
theorem ow_iaload (X : oSt Z ω γ κ T h cs ss) (pc' : Nat) {a : Addr} {n : Nat} {f : Nat → Value} {j : Int32} {v : Value} (A : oA Z h a .int n f) (hd : decode κ.1 pc = .ok (.iaload, 1)) (hp : pc + 1 = pc') (h0 : 0 ≤ j.toInt) (h1 : j.toInt < n) (hv : f j.toInt.toNat = v)
    (K : oWP ω γ κ Q T pc' L (v :: S)) : oWP ω γ κ Q T pc L (.int j :: .ref a :: S) := by
  obtain ⟨hx, hby, -, -, -, -, -, hZ, -, -, hT, locs, Y, -⟩ := X
  obtain ⟨c, A, r1, r2, r3⟩ := A
  subst hp hv
  obtain ⟨s₂, o, hs, r⟩ := K
  exact ⟨s₂, o, Y.iaload hx (by rw [hT]; exact A.1) (State.isArrayOf_alike hZ.alike A.2.1) A.2.2 (oInb r1 h0 h1) (r3 _ (by show j.toInt.toNat < _; omega)) (g := mkF γ.2.2.2.1 pc L (.int j :: .ref a :: S)) rfl rfl (hb hby hd) _ hs, r⟩
theorem ow_laload (X : oSt Z ω γ κ T h cs ss) (pc' : Nat) {a : Addr} {n : Nat} {f : Nat → Value} {j : Int32} {v : Value} (A : oA Z h a .long n f) (hd : decode κ.1 pc = .ok (.laload, 1)) (hp : pc + 1 = pc') (h0 : 0 ≤ j.toInt) (h1 : j.toInt < n) (hv : f j.toInt.toNat = v)
    (K : oWP ω γ κ Q T pc' L (v :: S)) : oWP ω γ κ Q T pc L (.int j :: .ref a :: S) := by
  obtain ⟨hx, hby, -, -, -, -, -, hZ, -, -, hT, locs, Y, -⟩ := X
  obtain ⟨c, A, r1, r2, r3⟩ := A
  subst hp hv
  obtain ⟨s₂, o, hs, r⟩ := K
  exact ⟨s₂, o, Y.laload hx (by rw [hT]; exact A.1) (State.isArrayOf_alike hZ.alike A.2.1) A.2.2 (oInb r1 h0 h1) (r3 _ (by show j.toInt.toNat < _; omega)) (g := mkF γ.2.2.2.1 pc L (.int j :: .ref a :: S)) rfl rfl (hb hby hd) _ hs, r⟩
theorem ow_caload (X : oSt Z ω γ κ T h cs ss) (pc' : Nat) {a : Addr} {n : Nat} {f : Nat → Value} {j : Int32} {v : Value} (A : oA Z h a .char n f) (hd : decode κ.1 pc = .ok (.caload, 1)) (hp : pc + 1 = pc') (h0 : 0 ≤ j.toInt) (h1 : j.toInt < n) (hv : f j.toInt.toNat = v)
    (K : oWP ω γ κ Q T pc' L (v :: S)) : oWP ω γ κ Q T pc L (.int j :: .ref a :: S) := by
  obtain ⟨hx, hby, -, -, -, -, -, hZ, -, -, hT, locs, Y, -⟩ := X
  obtain ⟨c, A, r1, r2, r3⟩ := A
  subst hp hv
  obtain ⟨s₂, o, hs, r⟩ := K
  exact ⟨s₂, o, Y.caload hx (by rw [hT]; exact A.1) (State.isArrayOf_alike hZ.alike A.2.1) A.2.2 (oInb r1 h0 h1) (r3 _ (by show j.toInt.toNat < _; omega)) (g := mkF γ.2.2.2.1 pc L (.int j :: .ref a :: S)) rfl rfl (hb hby hd) _ hs, r⟩
theorem ow_baload (X : oSt Z ω γ κ T h cs ss) (pc' : Nat) {a : Addr} {n : Nat} {f : Nat → Value} {j : Int32} {v : Value} (A : oA Z h a .byte n f) (hd : decode κ.1 pc = .ok (.baload, 1)) (hp : pc + 1 = pc') (h0 : 0 ≤ j.toInt) (h1 : j.toInt < n) (hv : f j.toInt.toNat = v)
    (K : oWP ω γ κ Q T pc' L (v :: S)) : oWP ω γ κ Q T pc L (.int j :: .ref a :: S) := by
  obtain ⟨hx, hby, -, -, -, -, -, hZ, -, -, hT, locs, Y, -⟩ := X
  obtain ⟨c, A, r1, r2, r3⟩ := A
  subst hp hv
  obtain ⟨s₂, o, hs, r⟩ := K
  exact ⟨s₂, o, Y.baloadBytes hx (by rw [hT]; exact A.1) (State.isArrayOf_alike hZ.alike A.2.1) A.2.2 (oInb r1 h0 h1) (r3 _ (by show j.toInt.toNat < _; omega)) (g := mkF γ.2.2.2.1 pc L (.int j :: .ref a :: S)) rfl rfl (hb hby hd) _ hs, r⟩
theorem ow_baloadZ (X : oSt Z ω γ κ T h cs ss) (pc' : Nat) {a : Addr} {n : Nat} {f : Nat → Value} {j : Int32} {v : Value} (A : oA Z h a .boolean n f) (hd : decode κ.1 pc = .ok (.baload, 1)) (hp : pc + 1 = pc') (h0 : 0 ≤ j.toInt) (h1 : j.toInt < n) (hv : f j.toInt.toNat = v)
    (K : oWP ω γ κ Q T pc' L (v :: S)) : oWP ω γ κ Q T pc L (.int j :: .ref a :: S) := by
  obtain ⟨hx, hby, -, -, -, -, -, hZ, -, -, hT, locs, Y, -⟩ := X
  obtain ⟨c, A, r1, r2, r3⟩ := A
  subst hp hv
  obtain ⟨s₂, o, hs, r⟩ := K
  exact ⟨s₂, o, Y.baloadBooleans hx (by rw [hT]; exact A.1) (State.isArrayOf_alike hZ.alike A.2.1) A.2.2 (oInb r1 h0 h1) (r3 _ (by show j.toInt.toNat < _; omega)) (g := mkF γ.2.2.2.1 pc L (.int j :: .ref a :: S)) rfl rfl (hb hby hd) _ hs, r⟩
theorem ow_aaload (X : oSt Z ω γ κ T h cs ss) (pc' : Nat) {a : Addr} {ty : FieldType} {n : Nat} {f : Nat → Value} {j : Int32} {v : Value} (A : oA Z h a ty n f) (ht : ty.isReference = true) (hd : decode κ.1 pc = .ok (.aaload, 1)) (hp : pc + 1 = pc') (h0 : 0 ≤ j.toInt) (h1 : j.toInt < n) (hv : f j.toInt.toNat = v)
    (K : oWP ω γ κ Q T pc' L (v :: S)) : oWP ω γ κ Q T pc L (.int j :: .ref a :: S) := by
  obtain ⟨hx, hby, -, -, -, -, -, hZ, -, -, hT, locs, Y, -⟩ := X
  obtain ⟨c, A, r1, r2, r3⟩ := A
  subst hp hv
  obtain ⟨s₂, o, hs, r⟩ := K
  exact ⟨s₂, o, Y.aaload hx (by rw [hT]; exact A.1) (State.isArrayOf_alike hZ.alike A.2.1) ht A.2.2 (oInb r1 h0 h1) (r3 _ (by show j.toInt.toNat < _; omega)) (g := mkF γ.2.2.2.1 pc L (.int j :: .ref a :: S)) rfl rfl (hb hby hd) _ hs, r⟩
theorem ow_iastore (X : oSt Z ω γ κ T h cs ss) (pc' : Nat) {a : Addr} {n : Nat} {f : Nat → Value} {j : Int32} {x : Int32} (A : oA Z h a .int n f) (ha : ω.2.1 ≤ a) (hd : decode κ.1 pc = .ok (.iastore, 1)) (hp : pc + 1 = pc') (h0 : 0 ≤ j.toInt) (h1 : j.toInt < n)
    (K : ∀ T' h', oSt Z ω γ κ T' h' cs ss → Wr h h' a j.toInt.toNat (.int x) → oWP ω γ κ Q T' pc' L S) : oWP ω γ κ Q T pc L (.int x :: .int j :: .ref a :: S) := by
  obtain ⟨hx, hby, hml, hown, hnm, hr, hlk, hZ, hT1, hn0, hT, locs, Y, N⟩ := X
  obtain ⟨c, A, r1, r2, r3⟩ := A
  subst hp
  obtain ⟨T', h', Y', e', W, st⟩ := stI Y hx hZ hT A (oInb r1 h0 h1) (g := mkF γ.2.2.2.1 pc L (.int x :: .int j :: .ref a :: S)) rfl rfl (hb hby hd)
  obtain ⟨s₂, o, hs, r⟩ := K T' h' ⟨hx, hby, hml, hown, hnm, hr, hlk, hZ, hT1, hn0, e', _, Y', Fr.snoc Y' N ha⟩ W
  exact ⟨s₂, o, st _ hs, r⟩
theorem ow_lastore (X : oSt Z ω γ κ T h cs ss) (pc' : Nat) {a : Addr} {n : Nat} {f : Nat → Value} {j : Int32} {x : Int64} (A : oA Z h a .long n f) (ha : ω.2.1 ≤ a) (hd : decode κ.1 pc = .ok (.lastore, 1)) (hp : pc + 1 = pc') (h0 : 0 ≤ j.toInt) (h1 : j.toInt < n)
    (K : ∀ T' h', oSt Z ω γ κ T' h' cs ss → Wr h h' a j.toInt.toNat (.long x) → oWP ω γ κ Q T' pc' L S) : oWP ω γ κ Q T pc L (.long x :: .int j :: .ref a :: S) := by
  obtain ⟨hx, hby, hml, hown, hnm, hr, hlk, hZ, hT1, hn0, hT, locs, Y, N⟩ := X
  obtain ⟨c, A, r1, r2, r3⟩ := A
  subst hp
  obtain ⟨T', h', Y', e', W, st⟩ := stJ Y hx hZ hT A (oInb r1 h0 h1) (g := mkF γ.2.2.2.1 pc L (.long x :: .int j :: .ref a :: S)) rfl rfl (hb hby hd)
  obtain ⟨s₂, o, hs, r⟩ := K T' h' ⟨hx, hby, hml, hown, hnm, hr, hlk, hZ, hT1, hn0, e', _, Y', Fr.snoc Y' N ha⟩ W
  exact ⟨s₂, o, st _ hs, r⟩
theorem ow_castore (X : oSt Z ω γ κ T h cs ss) (pc' : Nat) {a : Addr} {n : Nat} {f : Nat → Value} {j : Int32} {x : Int32} (A : oA Z h a .char n f) (ha : ω.2.1 ≤ a) (hd : decode κ.1 pc = .ok (.castore, 1)) (hp : pc + 1 = pc') (h0 : 0 ≤ j.toInt) (h1 : j.toInt < n)
    (K : ∀ T' h', oSt Z ω γ κ T' h' cs ss → Wr h h' a j.toInt.toNat (.int (nar .char x)) → oWP ω γ κ Q T' pc' L S) : oWP ω γ κ Q T pc L (.int x :: .int j :: .ref a :: S) := by
  obtain ⟨hx, hby, hml, hown, hnm, hr, hlk, hZ, hT1, hn0, hT, locs, Y, N⟩ := X
  obtain ⟨c, A, r1, r2, r3⟩ := A
  subst hp
  obtain ⟨T', h', Y', e', W, st⟩ := stC Y hx hZ hT A (oInb r1 h0 h1) (g := mkF γ.2.2.2.1 pc L (.int x :: .int j :: .ref a :: S)) rfl rfl (hb hby hd)
  obtain ⟨s₂, o, hs, r⟩ := K T' h' ⟨hx, hby, hml, hown, hnm, hr, hlk, hZ, hT1, hn0, e', _, Y', Fr.snoc Y' N ha⟩ W
  exact ⟨s₂, o, st _ hs, r⟩
theorem ow_bastore (X : oSt Z ω γ κ T h cs ss) (pc' : Nat) {a : Addr} {n : Nat} {f : Nat → Value} {j : Int32} {x : Int32} (A : oA Z h a .byte n f) (ha : ω.2.1 ≤ a) (hd : decode κ.1 pc = .ok (.bastore, 1)) (hp : pc + 1 = pc') (h0 : 0 ≤ j.toInt) (h1 : j.toInt < n)
    (K : ∀ T' h', oSt Z ω γ κ T' h' cs ss → Wr h h' a j.toInt.toNat (.int x.toInt8.toInt32) → oWP ω γ κ Q T' pc' L S) : oWP ω γ κ Q T pc L (.int x :: .int j :: .ref a :: S) := by
  obtain ⟨hx, hby, hml, hown, hnm, hr, hlk, hZ, hT1, hn0, hT, locs, Y, N⟩ := X
  obtain ⟨c, A, r1, r2, r3⟩ := A
  subst hp
  obtain ⟨T', h', Y', e', W, st⟩ := stB Y hx hZ hT A (oInb r1 h0 h1) (g := mkF γ.2.2.2.1 pc L (.int x :: .int j :: .ref a :: S)) rfl rfl (hb hby hd)
  obtain ⟨s₂, o, hs, r⟩ := K T' h' ⟨hx, hby, hml, hown, hnm, hr, hlk, hZ, hT1, hn0, e', _, Y', Fr.snoc Y' N ha⟩ W
  exact ⟨s₂, o, st _ hs, r⟩
theorem ow_bastoreZ (X : oSt Z ω γ κ T h cs ss) (pc' : Nat) {a : Addr} {n : Nat} {f : Nat → Value} {j : Int32} {x : Int32} (A : oA Z h a .boolean n f) (ha : ω.2.1 ≤ a) (hd : decode κ.1 pc = .ok (.bastore, 1)) (hp : pc + 1 = pc') (h0 : 0 ≤ j.toInt) (h1 : j.toInt < n)
    (K : ∀ T' h', oSt Z ω γ κ T' h' cs ss → Wr h h' a j.toInt.toNat (.int (nar .boolean x)) → oWP ω γ κ Q T' pc' L S) : oWP ω γ κ Q T pc L (.int x :: .int j :: .ref a :: S) := by
  obtain ⟨hx, hby, hml, hown, hnm, hr, hlk, hZ, hT1, hn0, hT, locs, Y, N⟩ := X
  obtain ⟨c, A, r1, r2, r3⟩ := A
  subst hp
  obtain ⟨T', h', Y', e', W, st⟩ := stZ Y hx hZ hT A (oInb r1 h0 h1) (g := mkF γ.2.2.2.1 pc L (.int x :: .int j :: .ref a :: S)) rfl rfl (hb hby hd)
  obtain ⟨s₂, o, hs, r⟩ := K T' h' ⟨hx, hby, hml, hown, hnm, hr, hlk, hZ, hT1, hn0, e', _, Y', Fr.snoc Y' N ha⟩ W
  exact ⟨s₂, o, st _ hs, r⟩
theorem ow_aastore (X : oSt Z ω γ κ T h cs ss) (pc' : Nat) {a : Addr} {ty : FieldType} {n : Nat} {f : Nat → Value} {j : Int32} {v : Value} (A : oA Z h a ty n f) (ht : ty.isReference = true) (F : Sto Z h a v) (ha : ω.2.1 ≤ a) (hd : decode κ.1 pc = .ok (.aastore, 1)) (hp : pc + 1 = pc') (h0 : 0 ≤ j.toInt) (h1 : j.toInt < n)
    (K : ∀ T' h', oSt Z ω γ κ T' h' cs ss → Wr h h' a j.toInt.toNat v → oWP ω γ κ Q T' pc' L S) : oWP ω γ κ Q T pc L (v :: .int j :: .ref a :: S) := by
  obtain ⟨hx, hby, hml, hown, hnm, hr, hlk, hZ, hT1, hn0, hT, locs, Y, N⟩ := X
  obtain ⟨c, A, r1, r2, r3⟩ := A
  subst hp
  obtain ⟨T', h', Y', e', W, st⟩ := stR Y hx hZ hT A (oInb r1 h0 h1) ht F (g := mkF γ.2.2.2.1 pc L (v :: .int j :: .ref a :: S)) rfl rfl (hb hby hd)
  obtain ⟨s₂, o, hs, r⟩ := K T' h' ⟨hx, hby, hml, hown, hnm, hr, hlk, hZ, hT1, hn0, e', _, Y', Fr.snoc Y' N ha⟩ W
  exact ⟨s₂, o, st _ hs, r⟩
theorem ow_newP (X : oSt Z ω γ κ T h cs ss) (pc' i : Nat) {aty : ArrayType} {k : Int32} {cap : Nat} (hw : tables_1[i]? = some (.arrayClass (newarray.typeOf aty))) (hd : decode κ.1 pc = .ok (.newarray aty, 2)) (hp : pc + 2 = pc') (h0 : 0 ≤ k.toInt) (h1 : k.toInt ≤ cap) (hb1 : cap * 8 ≤ 536870912) (hc : cs + 1 ≤ κ.2.2.2.2.2.cells) (hsl : ss + cap ≤ κ.2.2.2.2.2.slots)
    (K : ∀ T' h' a, a = h.size → oSt Z ω γ κ T' h' (cs + 1) (ss + cap) → Ext h h' → oA Z h' a (newarray.typeOf aty) k.toInt.toNat (fun _ => defaultValue (newarray.typeOf aty)) → ω.2.1 ≤ a → oWP ω γ κ Q T' pc' L (.ref a :: S)) : oWP ω γ κ Q T pc L (.int k :: S) := by
  have hw' := oSt_at X i hw
  have hN := oSt_n0 X
  obtain ⟨hx, hby, hml, hown, hnm, hr, hlk, hZ, hT1, hn0, hT, locs, Y, N⟩ := X
  subst hp
  have hk : ¬ k < 0 := by rw [Int32.lt_iff_toInt_lt, o0]; omega
  have hk' : k.toNatClampNeg ≤ cap := by show k.toInt.toNat ≤ cap; omega
  obtain ⟨T', h', cA, Y', e', E, A, st⟩ := newP Y hx hZ hw' hT (g := mkF γ.2.2.2.1 pc L (.int k :: S)) rfl (hb hby hd) rfl hk hk' hb1 hc hsl
  obtain ⟨s₂, o, hs, r⟩ := K T' h' h.size rfl ⟨hx, hby, hml, hown, hnm, hr, hlk, hZ, hT1, hn0, e', _, Y', N⟩ E (oA.new A h0) hN
  exact ⟨s₂, o, st _ hs, r⟩
/-- a new array's class takes objects of C -/
def oOv (Z : State) (h : Heap) (a : Addr) (C : String) : Prop := ∃ (c : Cell) (ty : FieldType), Arr Z h a c ty ∧ Ovr Z c.cls C
theorem oOv.ext {h' : Heap} {a : Addr} {C : String} (O : oOv Z h a C) (E : Ext h h') : oOv Z h' a C := by obtain ⟨c, ty, A, O⟩ := O; exact ⟨c, ty, A.ext E, O⟩
theorem oOv.wr {h' : Heap} {a b : Addr} {C : String} {sl : Nat} {v : Value} (O : oOv Z h a C) (W : Wr h h' b sl v) : oOv Z h' a C := by
  obtain ⟨c, ty, A, O⟩ := O
  by_cases e : a = b
  · subst e; exact ⟨_, ty, A.same W, O⟩
  · exact ⟨c, ty, A.other W e, O⟩
theorem oOv.keep {h' : Heap} {a : Addr} {C : String} {ws : List Addr} (O : oOv Z h a C) (K : Keep h h' ws) (q : a ∉ ws) : oOv Z h' a C := by
  obtain ⟨c, ty, A, O⟩ := O; exact ⟨c, ty, ⟨K.2.1 a c A.1 q, A.2⟩, O⟩
theorem oOv.sto {a y : Addr} {C : String} (O : oOv Z h a C) (I : Ins Z h y C true) : Sto Z h a (.ref y) := by obtain ⟨c, ty, A, O⟩ := O; exact Sto.of A O I
theorem ow_newR (X : oSt Z ω γ κ T h cs ss) (pc' i1 i2 : Nat) {own C : String} {idx : Nat} {k : Int32} {cap : Nat} (w1 : tables_1[i1]? = some (.classLink own idx C)) (ho : κ.2.2.1 = own) (w2 : tables_1[i2]? = some (.arrayOver (.object C))) (hd : decode κ.1 pc = .ok (.anewarray idx, 3)) (hp : pc + 3 = pc') (h0 : 0 ≤ k.toInt) (h1 : k.toInt ≤ cap) (hb1 : cap * 8 ≤ 536870912) (hc : cs + 1 ≤ κ.2.2.2.2.2.cells) (hsl : ss + cap ≤ κ.2.2.2.2.2.slots)
    (K : ∀ T' h' a, a = h.size → oSt Z ω γ κ T' h' (cs + 1) (ss + cap) → Ext h h' → oA Z h' a (.object C) k.toInt.toNat (fun _ => .null) → oOv Z h' a C → ω.2.1 ≤ a → oWP ω γ κ Q T' pc' L (.ref a :: S)) : oWP ω γ κ Q T pc L (.int k :: S) := by
  have w1' := oSt_at X i1 w1
  have w2' := oSt_at X i2 w2
  have hN := oSt_n0 X
  obtain ⟨hx, hby, hml, hown, hnm, hr, hlk, hZ, hT1, hn0, hT, locs, Y, N⟩ := X
  subst hp ho
  have hk : ¬ k < 0 := by rw [Int32.lt_iff_toInt_lt, o0]; omega
  have hk' : k.toNatClampNeg ≤ cap := by show k.toInt.toNat ≤ cap; omega
  obtain ⟨T', h', cA, Y', e', E, A, O, st⟩ := newR Y hx hZ hown w1' w2' hT (g := mkF γ.2.2.2.1 pc L (.int k :: S)) rfl (hb hby hd) rfl hk hk' hb1 hc hsl
  obtain ⟨s₂, o, hs, r⟩ := K T' h' h.size rfl ⟨hx, hby, hml, hown, hnm, hr, hlk, hZ, hT1, hn0, e', _, Y', N⟩ E (oA.new A h0) ⟨_, _, A, O⟩ hN
  exact ⟨s₂, o, st _ hs, r⟩
end Walk2
def own_nm : Nat → String
  | 0 => "PRODUCE"
  | 1 => "FETCH"
  | 2 => "LIST_OFFSETS"
  | 3 => "METADATA"
  | 4 => "OFFSET_COMMIT"
  | 5 => "OFFSET_FETCH"
  | 6 => "FIND_COORDINATOR"
  | 7 => "JOIN_GROUP"
  | 8 => "HEARTBEAT"
  | 9 => "LEAVE_GROUP"
  | 10 => "SYNC_GROUP"
  | 11 => "DESCRIBE_GROUPS"
  | 12 => "LIST_GROUPS"
  | 13 => "API_VERSIONS"
  | 14 => "CREATE_TOPICS"
  | 15 => "DELETE_TOPICS"
  | _ => "INIT_PRODUCER_ID"
def own_lo : Nat → Int32
  | 0 => 0
  | 1 => 4
  | 2 => 1
  | 3 => 0
  | 4 => 1
  | 5 => 1
  | 6 => 0
  | 7 => 0
  | 8 => 0
  | 9 => 0
  | 10 => 0
  | 11 => 3
  | 12 => 1
  | 13 => 0
  | 14 => 2
  | 15 => 1
  | _ => 0
def own_hi : Nat → Int32
  | 0 => 7
  | 1 => 10
  | 2 => 2
  | 3 => 6
  | 4 => 2
  | 5 => 1
  | 6 => 0
  | 7 => 2
  | 8 => 1
  | 9 => 1
  | 10 => 1
  | 11 => 3
  | 12 => 1
  | 13 => 3
  | 14 => 3
  | 15 => 3
  | _ => 1
def own_S (Z : State) (h : Heap) (n0 : Nat) (x : Nat → Addr) : Prop := ∀ i, i < 17 → x i < n0 ∧ Sta Z h "com/example/hesl/hesl/api/ServedApi" (own_nm i) "Lcom/example/hesl/hesl/api/ServedApi;" (.ref (x i)) ∧ Exa Z h (x i) "com/example/hesl/hesl/api/ServedApi" ∧ Fld Z h (x i) "com/example/hesl/hesl/api/ServedApi" "minVersion" "S" (.int (own_lo i)) ∧ Fld Z h (x i) "com/example/hesl/hesl/api/ServedApi" "maxVersion" "S" (.int (own_hi i))
theorem own_S.ext {Z : State} {h h' : Heap} {n0 : Nat} {x : Nat → Addr} (B : own_S Z h n0 x) (W : Ext h h') : own_S Z h' n0 x := by
  intro i hi
  obtain ⟨q, S, E, F, G⟩ := B i hi
  exact ⟨q, Sta.ext W S, Exa.ext W E, Fld.ext W F, Fld.ext W G⟩
theorem own_S.wr {Z : State} {h h' : Heap} {n0 : Nat} {x : Nat → Addr} {a : Addr} {sl : Nat} {v : Value} (B : own_S Z h n0 x) (W : Wr h h' a sl v) (ha : n0 ≤ a) : own_S Z h' n0 x := by
  intro i hi
  obtain ⟨q, S, E, F, G⟩ := B i hi
  exact ⟨q, Sta.wr W S, Exa.wr W E, Fld.other W F (Or.inl (Nat.ne_of_lt (Nat.lt_of_lt_of_le q ha))), Fld.other W G (Or.inl (Nat.ne_of_lt (Nat.lt_of_lt_of_le q ha)))⟩
theorem own_n17 (c : Int32) : 0 ≤ ((c &&& (2147483647 : Int32)) % (17 : Int32)).toInt ∧ ((c &&& (2147483647 : Int32)) % (17 : Int32)).toInt < 17 := by
  have h := (c_andS c 2147483647).2.2 (by decide)
  have := (c_irem (c &&& 2147483647) 17 17 rfl).1 h
  omega
theorem own_17 {i : Nat} (hi : i < (17 : Int32).toInt.toNat) : i = 0 ∨ i = 1 ∨ i = 2 ∨ i = 3 ∨ i = 4 ∨ i = 5 ∨ i = 6 ∨ i = 7 ∨ i = 8 ∨ i = 9 ∨ i = 10 ∨ i = 11 ∨ i = 12 ∨ i = 13 ∨ i = 14 ∨ i = 15 ∨ i = 16 := by
  have e : (17 : Int32).toInt.toNat = 17 := rfl
  omega
theorem d1_0 : decode prog_3_method_8_code 0 = .ok (.iload_n 1, 1) := by decide +kernel
theorem d1_1 : decode prog_3_method_8_code 1 = .ok (.aload_n 0, 1) := by decide +kernel
theorem d1_2 : decode prog_3_method_8_code 2 = .ok (.getfield 78, 3) := by decide +kernel
theorem d1_5 : decode prog_3_method_8_code 5 = .ok (.if_icmp .lt 15, 3) := by decide +kernel
theorem d1_8 : decode prog_3_method_8_code 8 = .ok (.iload_n 1, 1) := by decide +kernel
theorem d1_9 : decode prog_3_method_8_code 9 = .ok (.aload_n 0, 1) := by decide +kernel
theorem d1_10 : decode prog_3_method_8_code 10 = .ok (.getfield 81, 3) := by decide +kernel
theorem d1_13 : decode prog_3_method_8_code 13 = .ok (.if_icmp .gt 7, 3) := by decide +kernel
theorem d1_16 : decode prog_3_method_8_code 16 = .ok (.iconst 1, 1) := by decide +kernel
theorem d1_17 : decode prog_3_method_8_code 17 = .ok (.goto 4, 3) := by decide +kernel
theorem d1_20 : decode prog_3_method_8_code 20 = .ok (.iconst 0, 1) := by decide +kernel
theorem d1_21 : decode prog_3_method_8_code 21 = .ok (.ireturn, 1) := by decide +kernel
def k1 : OM := (prog_3_method_8_code, 2, "com/example/hesl/hesl/api/ServedApi", "serves", (some .boolean), { frames := 0, cells := 0, slots := 0, locals := 0 })
theorem pn1 : plainFor (⟨"com/example/hesl/hesl/api/ServedApi", "serves", "(S)Z"⟩ : MethodName) = true := plainFor_of_name (by first | (simp [plainName, overriddenIn]; done) | decide +kernel)
theorem pd1 : parseMethodDescriptor "(S)Z" = some ⟨[.short], (some .boolean)⟩ := by decide +kernel
set_option maxRecDepth 65536 in
set_option maxHeartbeats 4000000 in
theorem C_serves {Z : State} {ω : OW} {h : Heap} (hw_ : ∀ d ∈ tables_1, d.before ω.2.2 Z = true) (hn_ : ω.2.1 ≤ h.size) (a : Addr) (ver lo hi : Int32) (F : Fld Z h a "com/example/hesl/hesl/api/ServedApi" "minVersion" "S" (.int lo)) (G : Fld Z h a "com/example/hesl/hesl/api/ServedApi" "maxVersion" "S" (.int hi)) :
    oC Z ω (⟨"com/example/hesl/hesl/api/ServedApi", "serves", "(S)Z"⟩ : MethodName) k1 [] #[.ref a, .int ver] h (fun v h' => v = some (.int (if lo.toInt ≤ ver.toInt ∧ ver.toInt ≤ hi.toInt then 1 else 0)) ∧ h = h') := by
  refine oC_of hw_ hn_ pn1 rfl rfl (L := #[.val (.ref a), .val (.int ver)]) (fun m => by first | (simp [entryFrame, mkF, argsToLocals, Value.category, k1]; done) | rfl) ?_
  intro γ T X
  refine ow_iloadN X 1 d1_0 rfl rfl ?_
  refine ow_aloadN X 2 d1_1 rfl rfl rfl ?_
  refine ow_getF X 5 45 rfl rfl F d1_2 rfl ?_
  intro T_1 X_1
  refine ow_icmp_lt X_1 8 20 d1_5 rfl rfl (fun (c5 : ver.toInt < lo.toInt) => ?_) (fun (c5 : lo.toInt ≤ ver.toInt) => ?_)
  · refine ow_iconst X_1 21 (0 : Int32) d1_20 rfl rfl ?_
    refine ow_retZ X_1 rfl d1_21 (by decide) (by decide) (by decide) ?_
    have hF : ¬ (lo.toInt ≤ ver.toInt ∧ ver.toInt ≤ hi.toInt) := fun q => by omega
    exact ⟨by rw [if_neg hF], rfl⟩
  · refine ow_iloadN X_1 9 d1_8 rfl rfl ?_
    refine ow_aloadN X_1 10 d1_9 rfl rfl rfl ?_
    refine ow_getF X_1 13 47 rfl rfl G d1_10 rfl ?_
    intro T_2 X_2
    refine ow_icmp_gt X_2 16 20 d1_13 rfl rfl (fun (c13 : hi.toInt < ver.toInt) => ?_) (fun (c13 : ver.toInt ≤ hi.toInt) => ?_)
    · refine ow_iconst X_2 21 (0 : Int32) d1_20 rfl rfl ?_
      refine ow_retZ X_2 rfl d1_21 (by decide) (by decide) (by decide) ?_
      have hF : ¬ (lo.toInt ≤ ver.toInt ∧ ver.toInt ≤ hi.toInt) := fun q => by omega
      exact ⟨by rw [if_neg hF], rfl⟩
    · refine ow_iconst X_2 17 (1 : Int32) d1_16 rfl rfl ?_
      refine ow_goto X_2 21 d1_17 rfl ?_
      refine ow_retZ X_2 rfl d1_21 (by decide) (by decide) (by decide) ?_
      exact ⟨by rw [if_pos ⟨c5, c13⟩], rfl⟩
def k0 : OM := (code, maxLocals, "com/example/hesl/hesl/api/ServedApiServesPinLaw", "law", ret, room_1)
theorem pn0 : plainFor Jvm.Pilot.@@N@@.x = true := plainFor_of_name (by first | (simp [plainName, overriddenIn]; done) | decide +kernel)
theorem pd0 : parseMethodDescriptor "(III)Z" = some ⟨[.int, .int, .int], (some .boolean)⟩ := by decide +kernel
set_option maxRecDepth 65536 in
set_option maxHeartbeats 4000000 in
theorem C_law {Z : State} {ω : OW} {h : Heap} (hw_ : ∀ d ∈ tables_1, d.before ω.2.2 Z = true) (hn_ : ω.2.1 ≤ h.size) (which v mode : Int32) (x : Nat → Addr) (B : own_S Z h ω.2.1 x) :
    oC Z ω Jvm.Pilot.@@N@@.x k0 tables_1 #[.int which, .int v, .int mode] h (fun v _ => v = some (.int 1)) := by
  refine oC_of hw_ hn_ pn0 rfl rfl (L := #[.val (.int which), .val (.int v), .val (.int mode), .unset, .unset, .unset, .unset, .unset, .unset, .unset]) (fun m => by first | (simp [entryFrame, mkF, argsToLocals, Value.category, k0, maxLocals]; done) | rfl) ?_
  intro γ T X
  refine ow_bipush X 2 (17 : Int32) at_0 rfl rfl ?_
  refine ow_newR X 5 0 1 (cap := 17) rfl rfl rfl at_2 rfl (by decide) (by decide) (by decide) (by decide) (by decide) ?_
  intro T_3 h_3 a_3 q_3 X_3 E_3 A_3 O_3 g_3
  have f4_0 : own_S Z h_3 ω.2.1 x := B.ext E_3
  refine ow_dup X_3 6 at_5 rfl rfl ?_
  refine ow_iconst X_3 7 (0 : Int32) at_6 rfl rfl ?_
  refine ow_getS X_3 10 2 rfl rfl (f4_0 0 (by decide)).2.1 at_7 rfl ?_
  intro T_5 X_5
  refine ow_aastore X_5 11 A_3 rfl (O_3.sto (Ins.self (f4_0 0 (by decide)).2.2.1)) g_3 at_10 rfl (by decide) (by decide) ?_
  intro T_6 h_6 X_6 W_6
  have f7_0 : own_S Z h_6 ω.2.1 x := f4_0.wr W_6 g_3
  have f7_1 : oA Z h_6 a_3 (.object "com/example/hesl/hesl/api/ServedApi") ((17 : Int32).toInt.toNat) (fun i => if i = (0 : Int32).toInt.toNat then .ref (x 0) else (fun _ => .null) i) := A_3.set W_6
  have f7_2 : oOv Z h_6 a_3 "com/example/hesl/hesl/api/ServedApi" := O_3.wr W_6
  refine ow_dup X_6 12 at_11 rfl rfl ?_
  refine ow_iconst X_6 13 (1 : Int32) at_12 rfl rfl ?_
  refine ow_getS X_6 16 6 rfl rfl (f7_0 1 (by decide)).2.1 at_13 rfl ?_
  intro T_8 X_8
  refine ow_aastore X_8 17 f7_1 rfl (f7_2.sto (Ins.self (f7_0 1 (by decide)).2.2.1)) g_3 at_16 rfl (by decide) (by decide) ?_
  intro T_9 h_9 X_9 W_9
  have f10_0 : own_S Z h_9 ω.2.1 x := f7_0.wr W_9 g_3
  have f10_1 : oA Z h_9 a_3 (.object "com/example/hesl/hesl/api/ServedApi") ((17 : Int32).toInt.toNat) (fun i => if i = (1 : Int32).toInt.toNat then .ref (x 1) else (fun i => if i = (0 : Int32).toInt.toNat then .ref (x 0) else (fun _ => .null) i) i) := f7_1.set W_9
  have f10_2 : oOv Z h_9 a_3 "com/example/hesl/hesl/api/ServedApi" := f7_2.wr W_9
  refine ow_dup X_9 18 at_17 rfl rfl ?_
  refine ow_iconst X_9 19 (2 : Int32) at_18 rfl rfl ?_
  refine ow_getS X_9 22 8 rfl rfl (f10_0 2 (by decide)).2.1 at_19 rfl ?_
  intro T_11 X_11
  refine ow_aastore X_11 23 f10_1 rfl (f10_2.sto (Ins.self (f10_0 2 (by decide)).2.2.1)) g_3 at_22 rfl (by decide) (by decide) ?_
  intro T_12 h_12 X_12 W_12
  have f13_0 : own_S Z h_12 ω.2.1 x := f10_0.wr W_12 g_3
  have f13_1 : oA Z h_12 a_3 (.object "com/example/hesl/hesl/api/ServedApi") ((17 : Int32).toInt.toNat) (fun i => if i = (2 : Int32).toInt.toNat then .ref (x 2) else (fun i => if i = (1 : Int32).toInt.toNat then .ref (x 1) else (fun i => if i = (0 : Int32).toInt.toNat then .ref (x 0) else (fun _ => .null) i) i) i) := f10_1.set W_12
  have f13_2 : oOv Z h_12 a_3 "com/example/hesl/hesl/api/ServedApi" := f10_2.wr W_12
  refine ow_dup X_12 24 at_23 rfl rfl ?_
  refine ow_iconst X_12 25 (3 : Int32) at_24 rfl rfl ?_
  refine ow_getS X_12 28 10 rfl rfl (f13_0 3 (by decide)).2.1 at_25 rfl ?_
  intro T_14 X_14
  refine ow_aastore X_14 29 f13_1 rfl (f13_2.sto (Ins.self (f13_0 3 (by decide)).2.2.1)) g_3 at_28 rfl (by decide) (by decide) ?_
  intro T_15 h_15 X_15 W_15
  have f16_0 : own_S Z h_15 ω.2.1 x := f13_0.wr W_15 g_3
  have f16_1 : oA Z h_15 a_3 (.object "com/example/hesl/hesl/api/ServedApi") ((17 : Int32).toInt.toNat) (fun i => if i = (3 : Int32).toInt.toNat then .ref (x 3) else (fun i => if i = (2 : Int32).toInt.toNat then .ref (x 2) else (fun i => if i = (1 : Int32).toInt.toNat then .ref (x 1) else (fun i => if i = (0 : Int32).toInt.toNat then .ref (x 0) else (fun _ => .null) i) i) i) i) := f13_1.set W_15
  have f16_2 : oOv Z h_15 a_3 "com/example/hesl/hesl/api/ServedApi" := f13_2.wr W_15
  refine ow_dup X_15 30 at_29 rfl rfl ?_
  refine ow_iconst X_15 31 (4 : Int32) at_30 rfl rfl ?_
  refine ow_getS X_15 34 12 rfl rfl (f16_0 4 (by decide)).2.1 at_31 rfl ?_
  intro T_17 X_17
  refine ow_aastore X_17 35 f16_1 rfl (f16_2.sto (Ins.self (f16_0 4 (by decide)).2.2.1)) g_3 at_34 rfl (by decide) (by decide) ?_
  intro T_18 h_18 X_18 W_18
  have f19_0 : own_S Z h_18 ω.2.1 x := f16_0.wr W_18 g_3
  have f19_1 : oA Z h_18 a_3 (.object "com/example/hesl/hesl/api/ServedApi") ((17 : Int32).toInt.toNat) (fun i => if i = (4 : Int32).toInt.toNat then .ref (x 4) else (fun i => if i = (3 : Int32).toInt.toNat then .ref (x 3) else (fun i => if i = (2 : Int32).toInt.toNat then .ref (x 2) else (fun i => if i = (1 : Int32).toInt.toNat then .ref (x 1) else (fun i => if i = (0 : Int32).toInt.toNat then .ref (x 0) else (fun _ => .null) i) i) i) i) i) := f16_1.set W_18
  have f19_2 : oOv Z h_18 a_3 "com/example/hesl/hesl/api/ServedApi" := f16_2.wr W_18
  refine ow_dup X_18 36 at_35 rfl rfl ?_
  refine ow_iconst X_18 37 (5 : Int32) at_36 rfl rfl ?_
  refine ow_getS X_18 40 14 rfl rfl (f19_0 5 (by decide)).2.1 at_37 rfl ?_
  intro T_20 X_20
  refine ow_aastore X_20 41 f19_1 rfl (f19_2.sto (Ins.self (f19_0 5 (by decide)).2.2.1)) g_3 at_40 rfl (by decide) (by decide) ?_
  intro T_21 h_21 X_21 W_21
  have f22_0 : own_S Z h_21 ω.2.1 x := f19_0.wr W_21 g_3
  have f22_1 : oA Z h_21 a_3 (.object "com/example/hesl/hesl/api/ServedApi") ((17 : Int32).toInt.toNat) (fun i => if i = (5 : Int32).toInt.toNat then .ref (x 5) else (fun i => if i = (4 : Int32).toInt.toNat then .ref (x 4) else (fun i => if i = (3 : Int32).toInt.toNat then .ref (x 3) else (fun i => if i = (2 : Int32).toInt.toNat then .ref (x 2) else (fun i => if i = (1 : Int32).toInt.toNat then .ref (x 1) else (fun i => if i = (0 : Int32).toInt.toNat then .ref (x 0) else (fun _ => .null) i) i) i) i) i) i) := f19_1.set W_21
  have f22_2 : oOv Z h_21 a_3 "com/example/hesl/hesl/api/ServedApi" := f19_2.wr W_21
  refine ow_dup X_21 42 at_41 rfl rfl ?_
  refine ow_bipush X_21 44 (6 : Int32) at_42 rfl rfl ?_
  refine ow_getS X_21 47 16 rfl rfl (f22_0 6 (by decide)).2.1 at_44 rfl ?_
  intro T_23 X_23
  refine ow_aastore X_23 48 f22_1 rfl (f22_2.sto (Ins.self (f22_0 6 (by decide)).2.2.1)) g_3 at_47 rfl (by decide) (by decide) ?_
  intro T_24 h_24 X_24 W_24
  have f25_0 : own_S Z h_24 ω.2.1 x := f22_0.wr W_24 g_3
  have f25_1 : oA Z h_24 a_3 (.object "com/example/hesl/hesl/api/ServedApi") ((17 : Int32).toInt.toNat) (fun i => if i = (6 : Int32).toInt.toNat then .ref (x 6) else (fun i => if i = (5 : Int32).toInt.toNat then .ref (x 5) else (fun i => if i = (4 : Int32).toInt.toNat then .ref (x 4) else (fun i => if i = (3 : Int32).toInt.toNat then .ref (x 3) else (fun i => if i = (2 : Int32).toInt.toNat then .ref (x 2) else (fun i => if i = (1 : Int32).toInt.toNat then .ref (x 1) else (fun i => if i = (0 : Int32).toInt.toNat then .ref (x 0) else (fun _ => .null) i) i) i) i) i) i) i) := f22_1.set W_24
  have f25_2 : oOv Z h_24 a_3 "com/example/hesl/hesl/api/ServedApi" := f22_2.wr W_24
  refine ow_dup X_24 49 at_48 rfl rfl ?_
  refine ow_bipush X_24 51 (7 : Int32) at_49 rfl rfl ?_
  refine ow_getS X_24 54 18 rfl rfl (f25_0 7 (by decide)).2.1 at_51 rfl ?_
  intro T_26 X_26
  refine ow_aastore X_26 55 f25_1 rfl (f25_2.sto (Ins.self (f25_0 7 (by decide)).2.2.1)) g_3 at_54 rfl (by decide) (by decide) ?_
  intro T_27 h_27 X_27 W_27
  have f28_0 : own_S Z h_27 ω.2.1 x := f25_0.wr W_27 g_3
  have f28_1 : oA Z h_27 a_3 (.object "com/example/hesl/hesl/api/ServedApi") ((17 : Int32).toInt.toNat) (fun i => if i = (7 : Int32).toInt.toNat then .ref (x 7) else (fun i => if i = (6 : Int32).toInt.toNat then .ref (x 6) else (fun i => if i = (5 : Int32).toInt.toNat then .ref (x 5) else (fun i => if i = (4 : Int32).toInt.toNat then .ref (x 4) else (fun i => if i = (3 : Int32).toInt.toNat then .ref (x 3) else (fun i => if i = (2 : Int32).toInt.toNat then .ref (x 2) else (fun i => if i = (1 : Int32).toInt.toNat then .ref (x 1) else (fun i => if i = (0 : Int32).toInt.toNat then .ref (x 0) else (fun _ => .null) i) i) i) i) i) i) i) i) := f25_1.set W_27
  have f28_2 : oOv Z h_27 a_3 "com/example/hesl/hesl/api/ServedApi" := f25_2.wr W_27
  refine ow_dup X_27 56 at_55 rfl rfl ?_
  refine ow_bipush X_27 58 (8 : Int32) at_56 rfl rfl ?_
  refine ow_getS X_27 61 20 rfl rfl (f28_0 8 (by decide)).2.1 at_58 rfl ?_
  intro T_29 X_29
  refine ow_aastore X_29 62 f28_1 rfl (f28_2.sto (Ins.self (f28_0 8 (by decide)).2.2.1)) g_3 at_61 rfl (by decide) (by decide) ?_
  intro T_30 h_30 X_30 W_30
  have f31_0 : own_S Z h_30 ω.2.1 x := f28_0.wr W_30 g_3
  have f31_1 : oA Z h_30 a_3 (.object "com/example/hesl/hesl/api/ServedApi") ((17 : Int32).toInt.toNat) (fun i => if i = (8 : Int32).toInt.toNat then .ref (x 8) else (fun i => if i = (7 : Int32).toInt.toNat then .ref (x 7) else (fun i => if i = (6 : Int32).toInt.toNat then .ref (x 6) else (fun i => if i = (5 : Int32).toInt.toNat then .ref (x 5) else (fun i => if i = (4 : Int32).toInt.toNat then .ref (x 4) else (fun i => if i = (3 : Int32).toInt.toNat then .ref (x 3) else (fun i => if i = (2 : Int32).toInt.toNat then .ref (x 2) else (fun i => if i = (1 : Int32).toInt.toNat then .ref (x 1) else (fun i => if i = (0 : Int32).toInt.toNat then .ref (x 0) else (fun _ => .null) i) i) i) i) i) i) i) i) i) := f28_1.set W_30
  have f31_2 : oOv Z h_30 a_3 "com/example/hesl/hesl/api/ServedApi" := f28_2.wr W_30
  refine ow_dup X_30 63 at_62 rfl rfl ?_
  refine ow_bipush X_30 65 (9 : Int32) at_63 rfl rfl ?_
  refine ow_getS X_30 68 22 rfl rfl (f31_0 9 (by decide)).2.1 at_65 rfl ?_
  intro T_32 X_32
  refine ow_aastore X_32 69 f31_1 rfl (f31_2.sto (Ins.self (f31_0 9 (by decide)).2.2.1)) g_3 at_68 rfl (by decide) (by decide) ?_
  intro T_33 h_33 X_33 W_33
  have f34_0 : own_S Z h_33 ω.2.1 x := f31_0.wr W_33 g_3
  have f34_1 : oA Z h_33 a_3 (.object "com/example/hesl/hesl/api/ServedApi") ((17 : Int32).toInt.toNat) (fun i => if i = (9 : Int32).toInt.toNat then .ref (x 9) else (fun i => if i = (8 : Int32).toInt.toNat then .ref (x 8) else (fun i => if i = (7 : Int32).toInt.toNat then .ref (x 7) else (fun i => if i = (6 : Int32).toInt.toNat then .ref (x 6) else (fun i => if i = (5 : Int32).toInt.toNat then .ref (x 5) else (fun i => if i = (4 : Int32).toInt.toNat then .ref (x 4) else (fun i => if i = (3 : Int32).toInt.toNat then .ref (x 3) else (fun i => if i = (2 : Int32).toInt.toNat then .ref (x 2) else (fun i => if i = (1 : Int32).toInt.toNat then .ref (x 1) else (fun i => if i = (0 : Int32).toInt.toNat then .ref (x 0) else (fun _ => .null) i) i) i) i) i) i) i) i) i) i) := f31_1.set W_33
  have f34_2 : oOv Z h_33 a_3 "com/example/hesl/hesl/api/ServedApi" := f31_2.wr W_33
  refine ow_dup X_33 70 at_69 rfl rfl ?_
  refine ow_bipush X_33 72 (10 : Int32) at_70 rfl rfl ?_
  refine ow_getS X_33 75 24 rfl rfl (f34_0 10 (by decide)).2.1 at_72 rfl ?_
  intro T_35 X_35
  refine ow_aastore X_35 76 f34_1 rfl (f34_2.sto (Ins.self (f34_0 10 (by decide)).2.2.1)) g_3 at_75 rfl (by decide) (by decide) ?_
  intro T_36 h_36 X_36 W_36
  have f37_0 : own_S Z h_36 ω.2.1 x := f34_0.wr W_36 g_3
  have f37_1 : oA Z h_36 a_3 (.object "com/example/hesl/hesl/api/ServedApi") ((17 : Int32).toInt.toNat) (fun i => if i = (10 : Int32).toInt.toNat then .ref (x 10) else (fun i => if i = (9 : Int32).toInt.toNat then .ref (x 9) else (fun i => if i = (8 : Int32).toInt.toNat then .ref (x 8) else (fun i => if i = (7 : Int32).toInt.toNat then .ref (x 7) else (fun i => if i = (6 : Int32).toInt.toNat then .ref (x 6) else (fun i => if i = (5 : Int32).toInt.toNat then .ref (x 5) else (fun i => if i = (4 : Int32).toInt.toNat then .ref (x 4) else (fun i => if i = (3 : Int32).toInt.toNat then .ref (x 3) else (fun i => if i = (2 : Int32).toInt.toNat then .ref (x 2) else (fun i => if i = (1 : Int32).toInt.toNat then .ref (x 1) else (fun i => if i = (0 : Int32).toInt.toNat then .ref (x 0) else (fun _ => .null) i) i) i) i) i) i) i) i) i) i) i) := f34_1.set W_36
  have f37_2 : oOv Z h_36 a_3 "com/example/hesl/hesl/api/ServedApi" := f34_2.wr W_36
  refine ow_dup X_36 77 at_76 rfl rfl ?_
  refine ow_bipush X_36 79 (11 : Int32) at_77 rfl rfl ?_
  refine ow_getS X_36 82 26 rfl rfl (f37_0 11 (by decide)).2.1 at_79 rfl ?_
  intro T_38 X_38
  refine ow_aastore X_38 83 f37_1 rfl (f37_2.sto (Ins.self (f37_0 11 (by decide)).2.2.1)) g_3 at_82 rfl (by decide) (by decide) ?_
  intro T_39 h_39 X_39 W_39
  have f40_0 : own_S Z h_39 ω.2.1 x := f37_0.wr W_39 g_3
  have f40_1 : oA Z h_39 a_3 (.object "com/example/hesl/hesl/api/ServedApi") ((17 : Int32).toInt.toNat) (fun i => if i = (11 : Int32).toInt.toNat then .ref (x 11) else (fun i => if i = (10 : Int32).toInt.toNat then .ref (x 10) else (fun i => if i = (9 : Int32).toInt.toNat then .ref (x 9) else (fun i => if i = (8 : Int32).toInt.toNat then .ref (x 8) else (fun i => if i = (7 : Int32).toInt.toNat then .ref (x 7) else (fun i => if i = (6 : Int32).toInt.toNat then .ref (x 6) else (fun i => if i = (5 : Int32).toInt.toNat then .ref (x 5) else (fun i => if i = (4 : Int32).toInt.toNat then .ref (x 4) else (fun i => if i = (3 : Int32).toInt.toNat then .ref (x 3) else (fun i => if i = (2 : Int32).toInt.toNat then .ref (x 2) else (fun i => if i = (1 : Int32).toInt.toNat then .ref (x 1) else (fun i => if i = (0 : Int32).toInt.toNat then .ref (x 0) else (fun _ => .null) i) i) i) i) i) i) i) i) i) i) i) i) := f37_1.set W_39
  have f40_2 : oOv Z h_39 a_3 "com/example/hesl/hesl/api/ServedApi" := f37_2.wr W_39
  refine ow_dup X_39 84 at_83 rfl rfl ?_
  refine ow_bipush X_39 86 (12 : Int32) at_84 rfl rfl ?_
  refine ow_getS X_39 89 28 rfl rfl (f40_0 12 (by decide)).2.1 at_86 rfl ?_
  intro T_41 X_41
  refine ow_aastore X_41 90 f40_1 rfl (f40_2.sto (Ins.self (f40_0 12 (by decide)).2.2.1)) g_3 at_89 rfl (by decide) (by decide) ?_
  intro T_42 h_42 X_42 W_42
  have f43_0 : own_S Z h_42 ω.2.1 x := f40_0.wr W_42 g_3
  have f43_1 : oA Z h_42 a_3 (.object "com/example/hesl/hesl/api/ServedApi") ((17 : Int32).toInt.toNat) (fun i => if i = (12 : Int32).toInt.toNat then .ref (x 12) else (fun i => if i = (11 : Int32).toInt.toNat then .ref (x 11) else (fun i => if i = (10 : Int32).toInt.toNat then .ref (x 10) else (fun i => if i = (9 : Int32).toInt.toNat then .ref (x 9) else (fun i => if i = (8 : Int32).toInt.toNat then .ref (x 8) else (fun i => if i = (7 : Int32).toInt.toNat then .ref (x 7) else (fun i => if i = (6 : Int32).toInt.toNat then .ref (x 6) else (fun i => if i = (5 : Int32).toInt.toNat then .ref (x 5) else (fun i => if i = (4 : Int32).toInt.toNat then .ref (x 4) else (fun i => if i = (3 : Int32).toInt.toNat then .ref (x 3) else (fun i => if i = (2 : Int32).toInt.toNat then .ref (x 2) else (fun i => if i = (1 : Int32).toInt.toNat then .ref (x 1) else (fun i => if i = (0 : Int32).toInt.toNat then .ref (x 0) else (fun _ => .null) i) i) i) i) i) i) i) i) i) i) i) i) i) := f40_1.set W_42
  have f43_2 : oOv Z h_42 a_3 "com/example/hesl/hesl/api/ServedApi" := f40_2.wr W_42
  refine ow_dup X_42 91 at_90 rfl rfl ?_
  refine ow_bipush X_42 93 (13 : Int32) at_91 rfl rfl ?_
  refine ow_getS X_42 96 30 rfl rfl (f43_0 13 (by decide)).2.1 at_93 rfl ?_
  intro T_44 X_44
  refine ow_aastore X_44 97 f43_1 rfl (f43_2.sto (Ins.self (f43_0 13 (by decide)).2.2.1)) g_3 at_96 rfl (by decide) (by decide) ?_
  intro T_45 h_45 X_45 W_45
  have f46_0 : own_S Z h_45 ω.2.1 x := f43_0.wr W_45 g_3
  have f46_1 : oA Z h_45 a_3 (.object "com/example/hesl/hesl/api/ServedApi") ((17 : Int32).toInt.toNat) (fun i => if i = (13 : Int32).toInt.toNat then .ref (x 13) else (fun i => if i = (12 : Int32).toInt.toNat then .ref (x 12) else (fun i => if i = (11 : Int32).toInt.toNat then .ref (x 11) else (fun i => if i = (10 : Int32).toInt.toNat then .ref (x 10) else (fun i => if i = (9 : Int32).toInt.toNat then .ref (x 9) else (fun i => if i = (8 : Int32).toInt.toNat then .ref (x 8) else (fun i => if i = (7 : Int32).toInt.toNat then .ref (x 7) else (fun i => if i = (6 : Int32).toInt.toNat then .ref (x 6) else (fun i => if i = (5 : Int32).toInt.toNat then .ref (x 5) else (fun i => if i = (4 : Int32).toInt.toNat then .ref (x 4) else (fun i => if i = (3 : Int32).toInt.toNat then .ref (x 3) else (fun i => if i = (2 : Int32).toInt.toNat then .ref (x 2) else (fun i => if i = (1 : Int32).toInt.toNat then .ref (x 1) else (fun i => if i = (0 : Int32).toInt.toNat then .ref (x 0) else (fun _ => .null) i) i) i) i) i) i) i) i) i) i) i) i) i) i) := f43_1.set W_45
  have f46_2 : oOv Z h_45 a_3 "com/example/hesl/hesl/api/ServedApi" := f43_2.wr W_45
  refine ow_dup X_45 98 at_97 rfl rfl ?_
  refine ow_bipush X_45 100 (14 : Int32) at_98 rfl rfl ?_
  refine ow_getS X_45 103 32 rfl rfl (f46_0 14 (by decide)).2.1 at_100 rfl ?_
  intro T_47 X_47
  refine ow_aastore X_47 104 f46_1 rfl (f46_2.sto (Ins.self (f46_0 14 (by decide)).2.2.1)) g_3 at_103 rfl (by decide) (by decide) ?_
  intro T_48 h_48 X_48 W_48
  have f49_0 : own_S Z h_48 ω.2.1 x := f46_0.wr W_48 g_3
  have f49_1 : oA Z h_48 a_3 (.object "com/example/hesl/hesl/api/ServedApi") ((17 : Int32).toInt.toNat) (fun i => if i = (14 : Int32).toInt.toNat then .ref (x 14) else (fun i => if i = (13 : Int32).toInt.toNat then .ref (x 13) else (fun i => if i = (12 : Int32).toInt.toNat then .ref (x 12) else (fun i => if i = (11 : Int32).toInt.toNat then .ref (x 11) else (fun i => if i = (10 : Int32).toInt.toNat then .ref (x 10) else (fun i => if i = (9 : Int32).toInt.toNat then .ref (x 9) else (fun i => if i = (8 : Int32).toInt.toNat then .ref (x 8) else (fun i => if i = (7 : Int32).toInt.toNat then .ref (x 7) else (fun i => if i = (6 : Int32).toInt.toNat then .ref (x 6) else (fun i => if i = (5 : Int32).toInt.toNat then .ref (x 5) else (fun i => if i = (4 : Int32).toInt.toNat then .ref (x 4) else (fun i => if i = (3 : Int32).toInt.toNat then .ref (x 3) else (fun i => if i = (2 : Int32).toInt.toNat then .ref (x 2) else (fun i => if i = (1 : Int32).toInt.toNat then .ref (x 1) else (fun i => if i = (0 : Int32).toInt.toNat then .ref (x 0) else (fun _ => .null) i) i) i) i) i) i) i) i) i) i) i) i) i) i) i) := f46_1.set W_48
  have f49_2 : oOv Z h_48 a_3 "com/example/hesl/hesl/api/ServedApi" := f46_2.wr W_48
  refine ow_dup X_48 105 at_104 rfl rfl ?_
  refine ow_bipush X_48 107 (15 : Int32) at_105 rfl rfl ?_
  refine ow_getS X_48 110 34 rfl rfl (f49_0 15 (by decide)).2.1 at_107 rfl ?_
  intro T_50 X_50
  refine ow_aastore X_50 111 f49_1 rfl (f49_2.sto (Ins.self (f49_0 15 (by decide)).2.2.1)) g_3 at_110 rfl (by decide) (by decide) ?_
  intro T_51 h_51 X_51 W_51
  have f52_0 : own_S Z h_51 ω.2.1 x := f49_0.wr W_51 g_3
  have f52_1 : oA Z h_51 a_3 (.object "com/example/hesl/hesl/api/ServedApi") ((17 : Int32).toInt.toNat) (fun i => if i = (15 : Int32).toInt.toNat then .ref (x 15) else (fun i => if i = (14 : Int32).toInt.toNat then .ref (x 14) else (fun i => if i = (13 : Int32).toInt.toNat then .ref (x 13) else (fun i => if i = (12 : Int32).toInt.toNat then .ref (x 12) else (fun i => if i = (11 : Int32).toInt.toNat then .ref (x 11) else (fun i => if i = (10 : Int32).toInt.toNat then .ref (x 10) else (fun i => if i = (9 : Int32).toInt.toNat then .ref (x 9) else (fun i => if i = (8 : Int32).toInt.toNat then .ref (x 8) else (fun i => if i = (7 : Int32).toInt.toNat then .ref (x 7) else (fun i => if i = (6 : Int32).toInt.toNat then .ref (x 6) else (fun i => if i = (5 : Int32).toInt.toNat then .ref (x 5) else (fun i => if i = (4 : Int32).toInt.toNat then .ref (x 4) else (fun i => if i = (3 : Int32).toInt.toNat then .ref (x 3) else (fun i => if i = (2 : Int32).toInt.toNat then .ref (x 2) else (fun i => if i = (1 : Int32).toInt.toNat then .ref (x 1) else (fun i => if i = (0 : Int32).toInt.toNat then .ref (x 0) else (fun _ => .null) i) i) i) i) i) i) i) i) i) i) i) i) i) i) i) i) := f49_1.set W_51
  have f52_2 : oOv Z h_51 a_3 "com/example/hesl/hesl/api/ServedApi" := f49_2.wr W_51
  refine ow_dup X_51 112 at_111 rfl rfl ?_
  refine ow_bipush X_51 114 (16 : Int32) at_112 rfl rfl ?_
  refine ow_getS X_51 117 36 rfl rfl (f52_0 16 (by decide)).2.1 at_114 rfl ?_
  intro T_53 X_53
  refine ow_aastore X_53 118 f52_1 rfl (f52_2.sto (Ins.self (f52_0 16 (by decide)).2.2.1)) g_3 at_117 rfl (by decide) (by decide) ?_
  intro T_54 h_54 X_54 W_54
  have f55_0 : own_S Z h_54 ω.2.1 x := f52_0.wr W_54 g_3
  have f55_1 : oA Z h_54 a_3 (.object "com/example/hesl/hesl/api/ServedApi") ((17 : Int32).toInt.toNat) (fun i => if i = (16 : Int32).toInt.toNat then .ref (x 16) else (fun i => if i = (15 : Int32).toInt.toNat then .ref (x 15) else (fun i => if i = (14 : Int32).toInt.toNat then .ref (x 14) else (fun i => if i = (13 : Int32).toInt.toNat then .ref (x 13) else (fun i => if i = (12 : Int32).toInt.toNat then .ref (x 12) else (fun i => if i = (11 : Int32).toInt.toNat then .ref (x 11) else (fun i => if i = (10 : Int32).toInt.toNat then .ref (x 10) else (fun i => if i = (9 : Int32).toInt.toNat then .ref (x 9) else (fun i => if i = (8 : Int32).toInt.toNat then .ref (x 8) else (fun i => if i = (7 : Int32).toInt.toNat then .ref (x 7) else (fun i => if i = (6 : Int32).toInt.toNat then .ref (x 6) else (fun i => if i = (5 : Int32).toInt.toNat then .ref (x 5) else (fun i => if i = (4 : Int32).toInt.toNat then .ref (x 4) else (fun i => if i = (3 : Int32).toInt.toNat then .ref (x 3) else (fun i => if i = (2 : Int32).toInt.toNat then .ref (x 2) else (fun i => if i = (1 : Int32).toInt.toNat then .ref (x 1) else (fun i => if i = (0 : Int32).toInt.toNat then .ref (x 0) else (fun _ => .null) i) i) i) i) i) i) i) i) i) i) i) i) i) i) i) i) i) := f52_1.set W_54
  have f55_2 : oOv Z h_54 a_3 "com/example/hesl/hesl/api/ServedApi" := f52_2.wr W_54
  have Aap : oA Z h_54 a_3 (.object "com/example/hesl/hesl/api/ServedApi") 17 (fun i_ => .ref (x i_)) := f55_1.congr (fun i hi => by
    rcases own_17 hi with rfl | rfl | rfl | rfl | rfl | rfl | rfl | rfl | rfl | rfl | rfl | rfl | rfl | rfl | rfl | rfl | rfl <;> rfl)
  refine ow_astoreN X_54 119 (L' := #[.val (.int which), .val (.int v), .val (.int mode), .val (.ref a_3), .unset, .unset, .unset, .unset, .unset, .unset]) at_118 rfl rfl rfl ?_
  refine ow_bipush X_54 121 (17 : Int32) at_119 rfl rfl ?_
  refine ow_newP X_54 123 38 (cap := 17) rfl at_121 rfl (by decide) (by decide) (by decide) (by decide) (by decide) ?_
  intro T_56 h_56 a_56 q_56 X_56 E_56 A_56 g_56
  have ne_a_3_a_56 : a_3 ≠ a_56 := by rw [q_56]; exact Nat.ne_of_lt Aap.lt
  have f57_0 : own_S Z h_56 ω.2.1 x := f55_0.ext E_56
  have f57_1 : oOv Z h_56 a_3 "com/example/hesl/hesl/api/ServedApi" := f55_2.ext E_56
  have f57_2 : oA Z h_56 a_3 (.object "com/example/hesl/hesl/api/ServedApi") 17 (fun i_ => .ref (x i_)) := Aap.ext E_56
  have A_56 : oA Z h_56 a_56 .int ((17 : Int32).toInt.toNat) (fun i_ => .int (oZI i_)) := A_56
  refine ow_dup X_56 124 at_123 rfl rfl ?_
  refine ow_iconst X_56 125 (0 : Int32) at_124 rfl rfl ?_
  refine ow_iconst X_56 126 (0 : Int32) at_125 rfl rfl ?_
  refine ow_iastore X_56 127 A_56 g_56 at_126 rfl (by decide) (by decide) ?_
  intro T_58 h_58 X_58 W_58
  have f59_0 : own_S Z h_58 ω.2.1 x := f57_0.wr W_58 g_56
  have f59_1 : oOv Z h_58 a_3 "com/example/hesl/hesl/api/ServedApi" := f57_1.wr W_58
  have f59_2 : oA Z h_58 a_3 (.object "com/example/hesl/hesl/api/ServedApi") 17 (fun i_ => .ref (x i_)) := f57_2.other W_58 ne_a_3_a_56
  have f59_3 : oA Z h_58 a_56 .int ((17 : Int32).toInt.toNat) (fun i_ => .int ((oUpd oZI ((0 : Int32).toInt.toNat) (0 : Int32)) i_)) := A_56.setI W_58
  refine ow_dup X_58 128 at_127 rfl rfl ?_
  refine ow_iconst X_58 129 (1 : Int32) at_128 rfl rfl ?_
  refine ow_iconst X_58 130 (4 : Int32) at_129 rfl rfl ?_
  refine ow_iastore X_58 131 f59_3 g_56 at_130 rfl (by decide) (by decide) ?_
  intro T_60 h_60 X_60 W_60
  have f61_0 : own_S Z h_60 ω.2.1 x := f59_0.wr W_60 g_56
  have f61_1 : oOv Z h_60 a_3 "com/example/hesl/hesl/api/ServedApi" := f59_1.wr W_60
  have f61_2 : oA Z h_60 a_3 (.object "com/example/hesl/hesl/api/ServedApi") 17 (fun i_ => .ref (x i_)) := f59_2.other W_60 ne_a_3_a_56
  have f61_3 : oA Z h_60 a_56 .int ((17 : Int32).toInt.toNat) (fun i_ => .int ((oUpd (oUpd oZI ((0 : Int32).toInt.toNat) (0 : Int32)) ((1 : Int32).toInt.toNat) (4 : Int32)) i_)) := f59_3.setI W_60
  refine ow_dup X_60 132 at_131 rfl rfl ?_
  refine ow_iconst X_60 133 (2 : Int32) at_132 rfl rfl ?_
  refine ow_iconst X_60 134 (1 : Int32) at_133 rfl rfl ?_
  refine ow_iastore X_60 135 f61_3 g_56 at_134 rfl (by decide) (by decide) ?_
  intro T_62 h_62 X_62 W_62
  have f63_0 : own_S Z h_62 ω.2.1 x := f61_0.wr W_62 g_56
  have f63_1 : oOv Z h_62 a_3 "com/example/hesl/hesl/api/ServedApi" := f61_1.wr W_62
  have f63_2 : oA Z h_62 a_3 (.object "com/example/hesl/hesl/api/ServedApi") 17 (fun i_ => .ref (x i_)) := f61_2.other W_62 ne_a_3_a_56
  have f63_3 : oA Z h_62 a_56 .int ((17 : Int32).toInt.toNat) (fun i_ => .int ((oUpd (oUpd (oUpd oZI ((0 : Int32).toInt.toNat) (0 : Int32)) ((1 : Int32).toInt.toNat) (4 : Int32)) ((2 : Int32).toInt.toNat) (1 : Int32)) i_)) := f61_3.setI W_62
  refine ow_dup X_62 136 at_135 rfl rfl ?_
  refine ow_iconst X_62 137 (3 : Int32) at_136 rfl rfl ?_
  refine ow_iconst X_62 138 (0 : Int32) at_137 rfl rfl ?_
  refine ow_iastore X_62 139 f63_3 g_56 at_138 rfl (by decide) (by decide) ?_
  intro T_64 h_64 X_64 W_64
  have f65_0 : own_S Z h_64 ω.2.1 x := f63_0.wr W_64 g_56
  have f65_1 : oOv Z h_64 a_3 "com/example/hesl/hesl/api/ServedApi" := f63_1.wr W_64
  have f65_2 : oA Z h_64 a_3 (.object "com/example/hesl/hesl/api/ServedApi") 17 (fun i_ => .ref (x i_)) := f63_2.other W_64 ne_a_3_a_56
  have f65_3 : oA Z h_64 a_56 .int ((17 : Int32).toInt.toNat) (fun i_ => .int ((oUpd (oUpd (oUpd (oUpd oZI ((0 : Int32).toInt.toNat) (0 : Int32)) ((1 : Int32).toInt.toNat) (4 : Int32)) ((2 : Int32).toInt.toNat) (1 : Int32)) ((3 : Int32).toInt.toNat) (0 : Int32)) i_)) := f63_3.setI W_64
  refine ow_dup X_64 140 at_139 rfl rfl ?_
  refine ow_iconst X_64 141 (4 : Int32) at_140 rfl rfl ?_
  refine ow_iconst X_64 142 (1 : Int32) at_141 rfl rfl ?_
  refine ow_iastore X_64 143 f65_3 g_56 at_142 rfl (by decide) (by decide) ?_
  intro T_66 h_66 X_66 W_66
  have f67_0 : own_S Z h_66 ω.2.1 x := f65_0.wr W_66 g_56
  have f67_1 : oOv Z h_66 a_3 "com/example/hesl/hesl/api/ServedApi" := f65_1.wr W_66
  have f67_2 : oA Z h_66 a_3 (.object "com/example/hesl/hesl/api/ServedApi") 17 (fun i_ => .ref (x i_)) := f65_2.other W_66 ne_a_3_a_56
  have f67_3 : oA Z h_66 a_56 .int ((17 : Int32).toInt.toNat) (fun i_ => .int ((oUpd (oUpd (oUpd (oUpd (oUpd oZI ((0 : Int32).toInt.toNat) (0 : Int32)) ((1 : Int32).toInt.toNat) (4 : Int32)) ((2 : Int32).toInt.toNat) (1 : Int32)) ((3 : Int32).toInt.toNat) (0 : Int32)) ((4 : Int32).toInt.toNat) (1 : Int32)) i_)) := f65_3.setI W_66
  refine ow_dup X_66 144 at_143 rfl rfl ?_
  refine ow_iconst X_66 145 (5 : Int32) at_144 rfl rfl ?_
  refine ow_iconst X_66 146 (1 : Int32) at_145 rfl rfl ?_
  refine ow_iastore X_66 147 f67_3 g_56 at_146 rfl (by decide) (by decide) ?_
  intro T_68 h_68 X_68 W_68
  have f69_0 : own_S Z h_68 ω.2.1 x := f67_0.wr W_68 g_56
  have f69_1 : oOv Z h_68 a_3 "com/example/hesl/hesl/api/ServedApi" := f67_1.wr W_68
  have f69_2 : oA Z h_68 a_3 (.object "com/example/hesl/hesl/api/ServedApi") 17 (fun i_ => .ref (x i_)) := f67_2.other W_68 ne_a_3_a_56
  have f69_3 : oA Z h_68 a_56 .int ((17 : Int32).toInt.toNat) (fun i_ => .int ((oUpd (oUpd (oUpd (oUpd (oUpd (oUpd oZI ((0 : Int32).toInt.toNat) (0 : Int32)) ((1 : Int32).toInt.toNat) (4 : Int32)) ((2 : Int32).toInt.toNat) (1 : Int32)) ((3 : Int32).toInt.toNat) (0 : Int32)) ((4 : Int32).toInt.toNat) (1 : Int32)) ((5 : Int32).toInt.toNat) (1 : Int32)) i_)) := f67_3.setI W_68
  refine ow_dup X_68 148 at_147 rfl rfl ?_
  refine ow_bipush X_68 150 (6 : Int32) at_148 rfl rfl ?_
  refine ow_iconst X_68 151 (0 : Int32) at_150 rfl rfl ?_
  refine ow_iastore X_68 152 f69_3 g_56 at_151 rfl (by decide) (by decide) ?_
  intro T_70 h_70 X_70 W_70
  have f71_0 : own_S Z h_70 ω.2.1 x := f69_0.wr W_70 g_56
  have f71_1 : oOv Z h_70 a_3 "com/example/hesl/hesl/api/ServedApi" := f69_1.wr W_70
  have f71_2 : oA Z h_70 a_3 (.object "com/example/hesl/hesl/api/ServedApi") 17 (fun i_ => .ref (x i_)) := f69_2.other W_70 ne_a_3_a_56
  have f71_3 : oA Z h_70 a_56 .int ((17 : Int32).toInt.toNat) (fun i_ => .int ((oUpd (oUpd (oUpd (oUpd (oUpd (oUpd (oUpd oZI ((0 : Int32).toInt.toNat) (0 : Int32)) ((1 : Int32).toInt.toNat) (4 : Int32)) ((2 : Int32).toInt.toNat) (1 : Int32)) ((3 : Int32).toInt.toNat) (0 : Int32)) ((4 : Int32).toInt.toNat) (1 : Int32)) ((5 : Int32).toInt.toNat) (1 : Int32)) ((6 : Int32).toInt.toNat) (0 : Int32)) i_)) := f69_3.setI W_70
  refine ow_dup X_70 153 at_152 rfl rfl ?_
  refine ow_bipush X_70 155 (7 : Int32) at_153 rfl rfl ?_
  refine ow_iconst X_70 156 (0 : Int32) at_155 rfl rfl ?_
  refine ow_iastore X_70 157 f71_3 g_56 at_156 rfl (by decide) (by decide) ?_
  intro T_72 h_72 X_72 W_72
  have f73_0 : own_S Z h_72 ω.2.1 x := f71_0.wr W_72 g_56
  have f73_1 : oOv Z h_72 a_3 "com/example/hesl/hesl/api/ServedApi" := f71_1.wr W_72
  have f73_2 : oA Z h_72 a_3 (.object "com/example/hesl/hesl/api/ServedApi") 17 (fun i_ => .ref (x i_)) := f71_2.other W_72 ne_a_3_a_56
  have f73_3 : oA Z h_72 a_56 .int ((17 : Int32).toInt.toNat) (fun i_ => .int ((oUpd (oUpd (oUpd (oUpd (oUpd (oUpd (oUpd (oUpd oZI ((0 : Int32).toInt.toNat) (0 : Int32)) ((1 : Int32).toInt.toNat) (4 : Int32)) ((2 : Int32).toInt.toNat) (1 : Int32)) ((3 : Int32).toInt.toNat) (0 : Int32)) ((4 : Int32).toInt.toNat) (1 : Int32)) ((5 : Int32).toInt.toNat) (1 : Int32)) ((6 : Int32).toInt.toNat) (0 : Int32)) ((7 : Int32).toInt.toNat) (0 : Int32)) i_)) := f71_3.setI W_72
  refine ow_dup X_72 158 at_157 rfl rfl ?_
  refine ow_bipush X_72 160 (8 : Int32) at_158 rfl rfl ?_
  refine ow_iconst X_72 161 (0 : Int32) at_160 rfl rfl ?_
  refine ow_iastore X_72 162 f73_3 g_56 at_161 rfl (by decide) (by decide) ?_
  intro T_74 h_74 X_74 W_74
  have f75_0 : own_S Z h_74 ω.2.1 x := f73_0.wr W_74 g_56
  have f75_1 : oOv Z h_74 a_3 "com/example/hesl/hesl/api/ServedApi" := f73_1.wr W_74
  have f75_2 : oA Z h_74 a_3 (.object "com/example/hesl/hesl/api/ServedApi") 17 (fun i_ => .ref (x i_)) := f73_2.other W_74 ne_a_3_a_56
  have f75_3 : oA Z h_74 a_56 .int ((17 : Int32).toInt.toNat) (fun i_ => .int ((oUpd (oUpd (oUpd (oUpd (oUpd (oUpd (oUpd (oUpd (oUpd oZI ((0 : Int32).toInt.toNat) (0 : Int32)) ((1 : Int32).toInt.toNat) (4 : Int32)) ((2 : Int32).toInt.toNat) (1 : Int32)) ((3 : Int32).toInt.toNat) (0 : Int32)) ((4 : Int32).toInt.toNat) (1 : Int32)) ((5 : Int32).toInt.toNat) (1 : Int32)) ((6 : Int32).toInt.toNat) (0 : Int32)) ((7 : Int32).toInt.toNat) (0 : Int32)) ((8 : Int32).toInt.toNat) (0 : Int32)) i_)) := f73_3.setI W_74
  refine ow_dup X_74 163 at_162 rfl rfl ?_
  refine ow_bipush X_74 165 (9 : Int32) at_163 rfl rfl ?_
  refine ow_iconst X_74 166 (0 : Int32) at_165 rfl rfl ?_
  refine ow_iastore X_74 167 f75_3 g_56 at_166 rfl (by decide) (by decide) ?_
  intro T_76 h_76 X_76 W_76
  have f77_0 : own_S Z h_76 ω.2.1 x := f75_0.wr W_76 g_56
  have f77_1 : oOv Z h_76 a_3 "com/example/hesl/hesl/api/ServedApi" := f75_1.wr W_76
  have f77_2 : oA Z h_76 a_3 (.object "com/example/hesl/hesl/api/ServedApi") 17 (fun i_ => .ref (x i_)) := f75_2.other W_76 ne_a_3_a_56
  have f77_3 : oA Z h_76 a_56 .int ((17 : Int32).toInt.toNat) (fun i_ => .int ((oUpd (oUpd (oUpd (oUpd (oUpd (oUpd (oUpd (oUpd (oUpd (oUpd oZI ((0 : Int32).toInt.toNat) (0 : Int32)) ((1 : Int32).toInt.toNat) (4 : Int32)) ((2 : Int32).toInt.toNat) (1 : Int32)) ((3 : Int32).toInt.toNat) (0 : Int32)) ((4 : Int32).toInt.toNat) (1 : Int32)) ((5 : Int32).toInt.toNat) (1 : Int32)) ((6 : Int32).toInt.toNat) (0 : Int32)) ((7 : Int32).toInt.toNat) (0 : Int32)) ((8 : Int32).toInt.toNat) (0 : Int32)) ((9 : Int32).toInt.toNat) (0 : Int32)) i_)) := f75_3.setI W_76
  refine ow_dup X_76 168 at_167 rfl rfl ?_
  refine ow_bipush X_76 170 (10 : Int32) at_168 rfl rfl ?_
  refine ow_iconst X_76 171 (0 : Int32) at_170 rfl rfl ?_
  refine ow_iastore X_76 172 f77_3 g_56 at_171 rfl (by decide) (by decide) ?_
  intro T_78 h_78 X_78 W_78
  have f79_0 : own_S Z h_78 ω.2.1 x := f77_0.wr W_78 g_56
  have f79_1 : oOv Z h_78 a_3 "com/example/hesl/hesl/api/ServedApi" := f77_1.wr W_78
  have f79_2 : oA Z h_78 a_3 (.object "com/example/hesl/hesl/api/ServedApi") 17 (fun i_ => .ref (x i_)) := f77_2.other W_78 ne_a_3_a_56
  have f79_3 : oA Z h_78 a_56 .int ((17 : Int32).toInt.toNat) (fun i_ => .int ((oUpd (oUpd (oUpd (oUpd (oUpd (oUpd (oUpd (oUpd (oUpd (oUpd (oUpd oZI ((0 : Int32).toInt.toNat) (0 : Int32)) ((1 : Int32).toInt.toNat) (4 : Int32)) ((2 : Int32).toInt.toNat) (1 : Int32)) ((3 : Int32).toInt.toNat) (0 : Int32)) ((4 : Int32).toInt.toNat) (1 : Int32)) ((5 : Int32).toInt.toNat) (1 : Int32)) ((6 : Int32).toInt.toNat) (0 : Int32)) ((7 : Int32).toInt.toNat) (0 : Int32)) ((8 : Int32).toInt.toNat) (0 : Int32)) ((9 : Int32).toInt.toNat) (0 : Int32)) ((10 : Int32).toInt.toNat) (0 : Int32)) i_)) := f77_3.setI W_78
  refine ow_dup X_78 173 at_172 rfl rfl ?_
  refine ow_bipush X_78 175 (11 : Int32) at_173 rfl rfl ?_
  refine ow_iconst X_78 176 (3 : Int32) at_175 rfl rfl ?_
  refine ow_iastore X_78 177 f79_3 g_56 at_176 rfl (by decide) (by decide) ?_
  intro T_80 h_80 X_80 W_80
  have f81_0 : own_S Z h_80 ω.2.1 x := f79_0.wr W_80 g_56
  have f81_1 : oOv Z h_80 a_3 "com/example/hesl/hesl/api/ServedApi" := f79_1.wr W_80
  have f81_2 : oA Z h_80 a_3 (.object "com/example/hesl/hesl/api/ServedApi") 17 (fun i_ => .ref (x i_)) := f79_2.other W_80 ne_a_3_a_56
  have f81_3 : oA Z h_80 a_56 .int ((17 : Int32).toInt.toNat) (fun i_ => .int ((oUpd (oUpd (oUpd (oUpd (oUpd (oUpd (oUpd (oUpd (oUpd (oUpd (oUpd (oUpd oZI ((0 : Int32).toInt.toNat) (0 : Int32)) ((1 : Int32).toInt.toNat) (4 : Int32)) ((2 : Int32).toInt.toNat) (1 : Int32)) ((3 : Int32).toInt.toNat) (0 : Int32)) ((4 : Int32).toInt.toNat) (1 : Int32)) ((5 : Int32).toInt.toNat) (1 : Int32)) ((6 : Int32).toInt.toNat) (0 : Int32)) ((7 : Int32).toInt.toNat) (0 : Int32)) ((8 : Int32).toInt.toNat) (0 : Int32)) ((9 : Int32).toInt.toNat) (0 : Int32)) ((10 : Int32).toInt.toNat) (0 : Int32)) ((11 : Int32).toInt.toNat) (3 : Int32)) i_)) := f79_3.setI W_80
  refine ow_dup X_80 178 at_177 rfl rfl ?_
  refine ow_bipush X_80 180 (12 : Int32) at_178 rfl rfl ?_
  refine ow_iconst X_80 181 (1 : Int32) at_180 rfl rfl ?_
  refine ow_iastore X_80 182 f81_3 g_56 at_181 rfl (by decide) (by decide) ?_
  intro T_82 h_82 X_82 W_82
  have f83_0 : own_S Z h_82 ω.2.1 x := f81_0.wr W_82 g_56
  have f83_1 : oOv Z h_82 a_3 "com/example/hesl/hesl/api/ServedApi" := f81_1.wr W_82
  have f83_2 : oA Z h_82 a_3 (.object "com/example/hesl/hesl/api/ServedApi") 17 (fun i_ => .ref (x i_)) := f81_2.other W_82 ne_a_3_a_56
  have f83_3 : oA Z h_82 a_56 .int ((17 : Int32).toInt.toNat) (fun i_ => .int ((oUpd (oUpd (oUpd (oUpd (oUpd (oUpd (oUpd (oUpd (oUpd (oUpd (oUpd (oUpd (oUpd oZI ((0 : Int32).toInt.toNat) (0 : Int32)) ((1 : Int32).toInt.toNat) (4 : Int32)) ((2 : Int32).toInt.toNat) (1 : Int32)) ((3 : Int32).toInt.toNat) (0 : Int32)) ((4 : Int32).toInt.toNat) (1 : Int32)) ((5 : Int32).toInt.toNat) (1 : Int32)) ((6 : Int32).toInt.toNat) (0 : Int32)) ((7 : Int32).toInt.toNat) (0 : Int32)) ((8 : Int32).toInt.toNat) (0 : Int32)) ((9 : Int32).toInt.toNat) (0 : Int32)) ((10 : Int32).toInt.toNat) (0 : Int32)) ((11 : Int32).toInt.toNat) (3 : Int32)) ((12 : Int32).toInt.toNat) (1 : Int32)) i_)) := f81_3.setI W_82
  refine ow_dup X_82 183 at_182 rfl rfl ?_
  refine ow_bipush X_82 185 (13 : Int32) at_183 rfl rfl ?_
  refine ow_iconst X_82 186 (0 : Int32) at_185 rfl rfl ?_
  refine ow_iastore X_82 187 f83_3 g_56 at_186 rfl (by decide) (by decide) ?_
  intro T_84 h_84 X_84 W_84
  have f85_0 : own_S Z h_84 ω.2.1 x := f83_0.wr W_84 g_56
  have f85_1 : oOv Z h_84 a_3 "com/example/hesl/hesl/api/ServedApi" := f83_1.wr W_84
  have f85_2 : oA Z h_84 a_3 (.object "com/example/hesl/hesl/api/ServedApi") 17 (fun i_ => .ref (x i_)) := f83_2.other W_84 ne_a_3_a_56
  have f85_3 : oA Z h_84 a_56 .int ((17 : Int32).toInt.toNat) (fun i_ => .int ((oUpd (oUpd (oUpd (oUpd (oUpd (oUpd (oUpd (oUpd (oUpd (oUpd (oUpd (oUpd (oUpd (oUpd oZI ((0 : Int32).toInt.toNat) (0 : Int32)) ((1 : Int32).toInt.toNat) (4 : Int32)) ((2 : Int32).toInt.toNat) (1 : Int32)) ((3 : Int32).toInt.toNat) (0 : Int32)) ((4 : Int32).toInt.toNat) (1 : Int32)) ((5 : Int32).toInt.toNat) (1 : Int32)) ((6 : Int32).toInt.toNat) (0 : Int32)) ((7 : Int32).toInt.toNat) (0 : Int32)) ((8 : Int32).toInt.toNat) (0 : Int32)) ((9 : Int32).toInt.toNat) (0 : Int32)) ((10 : Int32).toInt.toNat) (0 : Int32)) ((11 : Int32).toInt.toNat) (3 : Int32)) ((12 : Int32).toInt.toNat) (1 : Int32)) ((13 : Int32).toInt.toNat) (0 : Int32)) i_)) := f83_3.setI W_84
  refine ow_dup X_84 188 at_187 rfl rfl ?_
  refine ow_bipush X_84 190 (14 : Int32) at_188 rfl rfl ?_
  refine ow_iconst X_84 191 (2 : Int32) at_190 rfl rfl ?_
  refine ow_iastore X_84 192 f85_3 g_56 at_191 rfl (by decide) (by decide) ?_
  intro T_86 h_86 X_86 W_86
  have f87_0 : own_S Z h_86 ω.2.1 x := f85_0.wr W_86 g_56
  have f87_1 : oOv Z h_86 a_3 "com/example/hesl/hesl/api/ServedApi" := f85_1.wr W_86
  have f87_2 : oA Z h_86 a_3 (.object "com/example/hesl/hesl/api/ServedApi") 17 (fun i_ => .ref (x i_)) := f85_2.other W_86 ne_a_3_a_56
  have f87_3 : oA Z h_86 a_56 .int ((17 : Int32).toInt.toNat) (fun i_ => .int ((oUpd (oUpd (oUpd (oUpd (oUpd (oUpd (oUpd (oUpd (oUpd (oUpd (oUpd (oUpd (oUpd (oUpd (oUpd oZI ((0 : Int32).toInt.toNat) (0 : Int32)) ((1 : Int32).toInt.toNat) (4 : Int32)) ((2 : Int32).toInt.toNat) (1 : Int32)) ((3 : Int32).toInt.toNat) (0 : Int32)) ((4 : Int32).toInt.toNat) (1 : Int32)) ((5 : Int32).toInt.toNat) (1 : Int32)) ((6 : Int32).toInt.toNat) (0 : Int32)) ((7 : Int32).toInt.toNat) (0 : Int32)) ((8 : Int32).toInt.toNat) (0 : Int32)) ((9 : Int32).toInt.toNat) (0 : Int32)) ((10 : Int32).toInt.toNat) (0 : Int32)) ((11 : Int32).toInt.toNat) (3 : Int32)) ((12 : Int32).toInt.toNat) (1 : Int32)) ((13 : Int32).toInt.toNat) (0 : Int32)) ((14 : Int32).toInt.toNat) (2 : Int32)) i_)) := f85_3.setI W_86
  refine ow_dup X_86 193 at_192 rfl rfl ?_
  refine ow_bipush X_86 195 (15 : Int32) at_193 rfl rfl ?_
  refine ow_iconst X_86 196 (1 : Int32) at_195 rfl rfl ?_
  refine ow_iastore X_86 197 f87_3 g_56 at_196 rfl (by decide) (by decide) ?_
  intro T_88 h_88 X_88 W_88
  have f89_0 : own_S Z h_88 ω.2.1 x := f87_0.wr W_88 g_56
  have f89_1 : oOv Z h_88 a_3 "com/example/hesl/hesl/api/ServedApi" := f87_1.wr W_88
  have f89_2 : oA Z h_88 a_3 (.object "com/example/hesl/hesl/api/ServedApi") 17 (fun i_ => .ref (x i_)) := f87_2.other W_88 ne_a_3_a_56
  have f89_3 : oA Z h_88 a_56 .int ((17 : Int32).toInt.toNat) (fun i_ => .int ((oUpd (oUpd (oUpd (oUpd (oUpd (oUpd (oUpd (oUpd (oUpd (oUpd (oUpd (oUpd (oUpd (oUpd (oUpd (oUpd oZI ((0 : Int32).toInt.toNat) (0 : Int32)) ((1 : Int32).toInt.toNat) (4 : Int32)) ((2 : Int32).toInt.toNat) (1 : Int32)) ((3 : Int32).toInt.toNat) (0 : Int32)) ((4 : Int32).toInt.toNat) (1 : Int32)) ((5 : Int32).toInt.toNat) (1 : Int32)) ((6 : Int32).toInt.toNat) (0 : Int32)) ((7 : Int32).toInt.toNat) (0 : Int32)) ((8 : Int32).toInt.toNat) (0 : Int32)) ((9 : Int32).toInt.toNat) (0 : Int32)) ((10 : Int32).toInt.toNat) (0 : Int32)) ((11 : Int32).toInt.toNat) (3 : Int32)) ((12 : Int32).toInt.toNat) (1 : Int32)) ((13 : Int32).toInt.toNat) (0 : Int32)) ((14 : Int32).toInt.toNat) (2 : Int32)) ((15 : Int32).toInt.toNat) (1 : Int32)) i_)) := f87_3.setI W_88
  refine ow_dup X_88 198 at_197 rfl rfl ?_
  refine ow_bipush X_88 200 (16 : Int32) at_198 rfl rfl ?_
  refine ow_iconst X_88 201 (0 : Int32) at_200 rfl rfl ?_
  refine ow_iastore X_88 202 f89_3 g_56 at_201 rfl (by decide) (by decide) ?_
  intro T_90 h_90 X_90 W_90
  have f91_0 : own_S Z h_90 ω.2.1 x := f89_0.wr W_90 g_56
  have f91_1 : oOv Z h_90 a_3 "com/example/hesl/hesl/api/ServedApi" := f89_1.wr W_90
  have f91_2 : oA Z h_90 a_3 (.object "com/example/hesl/hesl/api/ServedApi") 17 (fun i_ => .ref (x i_)) := f89_2.other W_90 ne_a_3_a_56
  have f91_3 : oA Z h_90 a_56 .int ((17 : Int32).toInt.toNat) (fun i_ => .int ((oUpd (oUpd (oUpd (oUpd (oUpd (oUpd (oUpd (oUpd (oUpd (oUpd (oUpd (oUpd (oUpd (oUpd (oUpd (oUpd (oUpd oZI ((0 : Int32).toInt.toNat) (0 : Int32)) ((1 : Int32).toInt.toNat) (4 : Int32)) ((2 : Int32).toInt.toNat) (1 : Int32)) ((3 : Int32).toInt.toNat) (0 : Int32)) ((4 : Int32).toInt.toNat) (1 : Int32)) ((5 : Int32).toInt.toNat) (1 : Int32)) ((6 : Int32).toInt.toNat) (0 : Int32)) ((7 : Int32).toInt.toNat) (0 : Int32)) ((8 : Int32).toInt.toNat) (0 : Int32)) ((9 : Int32).toInt.toNat) (0 : Int32)) ((10 : Int32).toInt.toNat) (0 : Int32)) ((11 : Int32).toInt.toNat) (3 : Int32)) ((12 : Int32).toInt.toNat) (1 : Int32)) ((13 : Int32).toInt.toNat) (0 : Int32)) ((14 : Int32).toInt.toNat) (2 : Int32)) ((15 : Int32).toInt.toNat) (1 : Int32)) ((16 : Int32).toInt.toNat) (0 : Int32)) i_)) := f89_3.setI W_90
  have Alo : oA Z h_90 a_56 .int 17 (fun i_ => .int (own_lo i_)) := f91_3.congr (fun i hi => by
    rcases own_17 hi with rfl | rfl | rfl | rfl | rfl | rfl | rfl | rfl | rfl | rfl | rfl | rfl | rfl | rfl | rfl | rfl | rfl <;> rfl)
  refine ow_astore X_90 204 (L' := #[.val (.int which), .val (.int v), .val (.int mode), .val (.ref a_3), .val (.ref a_56), .unset, .unset, .unset, .unset, .unset]) at_202 rfl rfl rfl ?_
  refine ow_bipush X_90 206 (17 : Int32) at_204 rfl rfl ?_
  refine ow_newP X_90 208 38 (cap := 17) rfl at_206 rfl (by decide) (by decide) (by decide) (by decide) (by decide) ?_
  intro T_92 h_92 a_92 q_92 X_92 E_92 A_92 g_92
  have ne_a_3_a_92 : a_3 ≠ a_92 := by rw [q_92]; exact Nat.ne_of_lt f91_2.lt
  have ne_a_56_a_92 : a_56 ≠ a_92 := by rw [q_92]; exact Nat.ne_of_lt Alo.lt
  have f93_0 : own_S Z h_92 ω.2.1 x := f91_0.ext E_92
  have f93_1 : oOv Z h_92 a_3 "com/example/hesl/hesl/api/ServedApi" := f91_1.ext E_92
  have f93_2 : oA Z h_92 a_3 (.object "com/example/hesl/hesl/api/ServedApi") 17 (fun i_ => .ref (x i_)) := f91_2.ext E_92
  have f93_3 : oA Z h_92 a_56 .int 17 (fun i_ => .int (own_lo i_)) := Alo.ext E_92
  have A_92 : oA Z h_92 a_92 .int ((17 : Int32).toInt.toNat) (fun i_ => .int (oZI i_)) := A_92
  refine ow_dup X_92 209 at_208 rfl rfl ?_
  refine ow_iconst X_92 210 (0 : Int32) at_209 rfl rfl ?_
  refine ow_bipush X_92 212 (7 : Int32) at_210 rfl rfl ?_
  refine ow_iastore X_92 213 A_92 g_92 at_212 rfl (by decide) (by decide) ?_
  intro T_94 h_94 X_94 W_94
  have f95_0 : own_S Z h_94 ω.2.1 x := f93_0.wr W_94 g_92
  have f95_1 : oOv Z h_94 a_3 "com/example/hesl/hesl/api/ServedApi" := f93_1.wr W_94
  have f95_2 : oA Z h_94 a_3 (.object "com/example/hesl/hesl/api/ServedApi") 17 (fun i_ => .ref (x i_)) := f93_2.other W_94 ne_a_3_a_92
  have f95_3 : oA Z h_94 a_56 .int 17 (fun i_ => .int (own_lo i_)) := f93_3.other W_94 ne_a_56_a_92
  have f95_4 : oA Z h_94 a_92 .int ((17 : Int32).toInt.toNat) (fun i_ => .int ((oUpd oZI ((0 : Int32).toInt.toNat) (7 : Int32)) i_)) := A_92.setI W_94
  refine ow_dup X_94 214 at_213 rfl rfl ?_
  refine ow_iconst X_94 215 (1 : Int32) at_214 rfl rfl ?_
  refine ow_bipush X_94 217 (10 : Int32) at_215 rfl rfl ?_
  refine ow_iastore X_94 218 f95_4 g_92 at_217 rfl (by decide) (by decide) ?_
  intro T_96 h_96 X_96 W_96
  have f97_0 : own_S Z h_96 ω.2.1 x := f95_0.wr W_96 g_92
  have f97_1 : oOv Z h_96 a_3 "com/example/hesl/hesl/api/ServedApi" := f95_1.wr W_96
  have f97_2 : oA Z h_96 a_3 (.object "com/example/hesl/hesl/api/ServedApi") 17 (fun i_ => .ref (x i_)) := f95_2.other W_96 ne_a_3_a_92
  have f97_3 : oA Z h_96 a_56 .int 17 (fun i_ => .int (own_lo i_)) := f95_3.other W_96 ne_a_56_a_92
  have f97_4 : oA Z h_96 a_92 .int ((17 : Int32).toInt.toNat) (fun i_ => .int ((oUpd (oUpd oZI ((0 : Int32).toInt.toNat) (7 : Int32)) ((1 : Int32).toInt.toNat) (10 : Int32)) i_)) := f95_4.setI W_96
  refine ow_dup X_96 219 at_218 rfl rfl ?_
  refine ow_iconst X_96 220 (2 : Int32) at_219 rfl rfl ?_
  refine ow_iconst X_96 221 (2 : Int32) at_220 rfl rfl ?_
  refine ow_iastore X_96 222 f97_4 g_92 at_221 rfl (by decide) (by decide) ?_
  intro T_98 h_98 X_98 W_98
  have f99_0 : own_S Z h_98 ω.2.1 x := f97_0.wr W_98 g_92
  have f99_1 : oOv Z h_98 a_3 "com/example/hesl/hesl/api/ServedApi" := f97_1.wr W_98
  have f99_2 : oA Z h_98 a_3 (.object "com/example/hesl/hesl/api/ServedApi") 17 (fun i_ => .ref (x i_)) := f97_2.other W_98 ne_a_3_a_92
  have f99_3 : oA Z h_98 a_56 .int 17 (fun i_ => .int (own_lo i_)) := f97_3.other W_98 ne_a_56_a_92
  have f99_4 : oA Z h_98 a_92 .int ((17 : Int32).toInt.toNat) (fun i_ => .int ((oUpd (oUpd (oUpd oZI ((0 : Int32).toInt.toNat) (7 : Int32)) ((1 : Int32).toInt.toNat) (10 : Int32)) ((2 : Int32).toInt.toNat) (2 : Int32)) i_)) := f97_4.setI W_98
  refine ow_dup X_98 223 at_222 rfl rfl ?_
  refine ow_iconst X_98 224 (3 : Int32) at_223 rfl rfl ?_
  refine ow_bipush X_98 226 (6 : Int32) at_224 rfl rfl ?_
  refine ow_iastore X_98 227 f99_4 g_92 at_226 rfl (by decide) (by decide) ?_
  intro T_100 h_100 X_100 W_100
  have f101_0 : own_S Z h_100 ω.2.1 x := f99_0.wr W_100 g_92
  have f101_1 : oOv Z h_100 a_3 "com/example/hesl/hesl/api/ServedApi" := f99_1.wr W_100
  have f101_2 : oA Z h_100 a_3 (.object "com/example/hesl/hesl/api/ServedApi") 17 (fun i_ => .ref (x i_)) := f99_2.other W_100 ne_a_3_a_92
  have f101_3 : oA Z h_100 a_56 .int 17 (fun i_ => .int (own_lo i_)) := f99_3.other W_100 ne_a_56_a_92
  have f101_4 : oA Z h_100 a_92 .int ((17 : Int32).toInt.toNat) (fun i_ => .int ((oUpd (oUpd (oUpd (oUpd oZI ((0 : Int32).toInt.toNat) (7 : Int32)) ((1 : Int32).toInt.toNat) (10 : Int32)) ((2 : Int32).toInt.toNat) (2 : Int32)) ((3 : Int32).toInt.toNat) (6 : Int32)) i_)) := f99_4.setI W_100
  refine ow_dup X_100 228 at_227 rfl rfl ?_
  refine ow_iconst X_100 229 (4 : Int32) at_228 rfl rfl ?_
  refine ow_iconst X_100 230 (2 : Int32) at_229 rfl rfl ?_
  refine ow_iastore X_100 231 f101_4 g_92 at_230 rfl (by decide) (by decide) ?_
  intro T_102 h_102 X_102 W_102
  have f103_0 : own_S Z h_102 ω.2.1 x := f101_0.wr W_102 g_92
  have f103_1 : oOv Z h_102 a_3 "com/example/hesl/hesl/api/ServedApi" := f101_1.wr W_102
  have f103_2 : oA Z h_102 a_3 (.object "com/example/hesl/hesl/api/ServedApi") 17 (fun i_ => .ref (x i_)) := f101_2.other W_102 ne_a_3_a_92
  have f103_3 : oA Z h_102 a_56 .int 17 (fun i_ => .int (own_lo i_)) := f101_3.other W_102 ne_a_56_a_92
  have f103_4 : oA Z h_102 a_92 .int ((17 : Int32).toInt.toNat) (fun i_ => .int ((oUpd (oUpd (oUpd (oUpd (oUpd oZI ((0 : Int32).toInt.toNat) (7 : Int32)) ((1 : Int32).toInt.toNat) (10 : Int32)) ((2 : Int32).toInt.toNat) (2 : Int32)) ((3 : Int32).toInt.toNat) (6 : Int32)) ((4 : Int32).toInt.toNat) (2 : Int32)) i_)) := f101_4.setI W_102
  refine ow_dup X_102 232 at_231 rfl rfl ?_
  refine ow_iconst X_102 233 (5 : Int32) at_232 rfl rfl ?_
  refine ow_iconst X_102 234 (1 : Int32) at_233 rfl rfl ?_
  refine ow_iastore X_102 235 f103_4 g_92 at_234 rfl (by decide) (by decide) ?_
  intro T_104 h_104 X_104 W_104
  have f105_0 : own_S Z h_104 ω.2.1 x := f103_0.wr W_104 g_92
  have f105_1 : oOv Z h_104 a_3 "com/example/hesl/hesl/api/ServedApi" := f103_1.wr W_104
  have f105_2 : oA Z h_104 a_3 (.object "com/example/hesl/hesl/api/ServedApi") 17 (fun i_ => .ref (x i_)) := f103_2.other W_104 ne_a_3_a_92
  have f105_3 : oA Z h_104 a_56 .int 17 (fun i_ => .int (own_lo i_)) := f103_3.other W_104 ne_a_56_a_92
  have f105_4 : oA Z h_104 a_92 .int ((17 : Int32).toInt.toNat) (fun i_ => .int ((oUpd (oUpd (oUpd (oUpd (oUpd (oUpd oZI ((0 : Int32).toInt.toNat) (7 : Int32)) ((1 : Int32).toInt.toNat) (10 : Int32)) ((2 : Int32).toInt.toNat) (2 : Int32)) ((3 : Int32).toInt.toNat) (6 : Int32)) ((4 : Int32).toInt.toNat) (2 : Int32)) ((5 : Int32).toInt.toNat) (1 : Int32)) i_)) := f103_4.setI W_104
  refine ow_dup X_104 236 at_235 rfl rfl ?_
  refine ow_bipush X_104 238 (6 : Int32) at_236 rfl rfl ?_
  refine ow_iconst X_104 239 (0 : Int32) at_238 rfl rfl ?_
  refine ow_iastore X_104 240 f105_4 g_92 at_239 rfl (by decide) (by decide) ?_
  intro T_106 h_106 X_106 W_106
  have f107_0 : own_S Z h_106 ω.2.1 x := f105_0.wr W_106 g_92
  have f107_1 : oOv Z h_106 a_3 "com/example/hesl/hesl/api/ServedApi" := f105_1.wr W_106
  have f107_2 : oA Z h_106 a_3 (.object "com/example/hesl/hesl/api/ServedApi") 17 (fun i_ => .ref (x i_)) := f105_2.other W_106 ne_a_3_a_92
  have f107_3 : oA Z h_106 a_56 .int 17 (fun i_ => .int (own_lo i_)) := f105_3.other W_106 ne_a_56_a_92
  have f107_4 : oA Z h_106 a_92 .int ((17 : Int32).toInt.toNat) (fun i_ => .int ((oUpd (oUpd (oUpd (oUpd (oUpd (oUpd (oUpd oZI ((0 : Int32).toInt.toNat) (7 : Int32)) ((1 : Int32).toInt.toNat) (10 : Int32)) ((2 : Int32).toInt.toNat) (2 : Int32)) ((3 : Int32).toInt.toNat) (6 : Int32)) ((4 : Int32).toInt.toNat) (2 : Int32)) ((5 : Int32).toInt.toNat) (1 : Int32)) ((6 : Int32).toInt.toNat) (0 : Int32)) i_)) := f105_4.setI W_106
  refine ow_dup X_106 241 at_240 rfl rfl ?_
  refine ow_bipush X_106 243 (7 : Int32) at_241 rfl rfl ?_
  refine ow_iconst X_106 244 (2 : Int32) at_243 rfl rfl ?_
  refine ow_iastore X_106 245 f107_4 g_92 at_244 rfl (by decide) (by decide) ?_
  intro T_108 h_108 X_108 W_108
  have f109_0 : own_S Z h_108 ω.2.1 x := f107_0.wr W_108 g_92
  have f109_1 : oOv Z h_108 a_3 "com/example/hesl/hesl/api/ServedApi" := f107_1.wr W_108
  have f109_2 : oA Z h_108 a_3 (.object "com/example/hesl/hesl/api/ServedApi") 17 (fun i_ => .ref (x i_)) := f107_2.other W_108 ne_a_3_a_92
  have f109_3 : oA Z h_108 a_56 .int 17 (fun i_ => .int (own_lo i_)) := f107_3.other W_108 ne_a_56_a_92
  have f109_4 : oA Z h_108 a_92 .int ((17 : Int32).toInt.toNat) (fun i_ => .int ((oUpd (oUpd (oUpd (oUpd (oUpd (oUpd (oUpd (oUpd oZI ((0 : Int32).toInt.toNat) (7 : Int32)) ((1 : Int32).toInt.toNat) (10 : Int32)) ((2 : Int32).toInt.toNat) (2 : Int32)) ((3 : Int32).toInt.toNat) (6 : Int32)) ((4 : Int32).toInt.toNat) (2 : Int32)) ((5 : Int32).toInt.toNat) (1 : Int32)) ((6 : Int32).toInt.toNat) (0 : Int32)) ((7 : Int32).toInt.toNat) (2 : Int32)) i_)) := f107_4.setI W_108
  refine ow_dup X_108 246 at_245 rfl rfl ?_
  refine ow_bipush X_108 248 (8 : Int32) at_246 rfl rfl ?_
  refine ow_iconst X_108 249 (1 : Int32) at_248 rfl rfl ?_
  refine ow_iastore X_108 250 f109_4 g_92 at_249 rfl (by decide) (by decide) ?_
  intro T_110 h_110 X_110 W_110
  have f111_0 : own_S Z h_110 ω.2.1 x := f109_0.wr W_110 g_92
  have f111_1 : oOv Z h_110 a_3 "com/example/hesl/hesl/api/ServedApi" := f109_1.wr W_110
  have f111_2 : oA Z h_110 a_3 (.object "com/example/hesl/hesl/api/ServedApi") 17 (fun i_ => .ref (x i_)) := f109_2.other W_110 ne_a_3_a_92
  have f111_3 : oA Z h_110 a_56 .int 17 (fun i_ => .int (own_lo i_)) := f109_3.other W_110 ne_a_56_a_92
  have f111_4 : oA Z h_110 a_92 .int ((17 : Int32).toInt.toNat) (fun i_ => .int ((oUpd (oUpd (oUpd (oUpd (oUpd (oUpd (oUpd (oUpd (oUpd oZI ((0 : Int32).toInt.toNat) (7 : Int32)) ((1 : Int32).toInt.toNat) (10 : Int32)) ((2 : Int32).toInt.toNat) (2 : Int32)) ((3 : Int32).toInt.toNat) (6 : Int32)) ((4 : Int32).toInt.toNat) (2 : Int32)) ((5 : Int32).toInt.toNat) (1 : Int32)) ((6 : Int32).toInt.toNat) (0 : Int32)) ((7 : Int32).toInt.toNat) (2 : Int32)) ((8 : Int32).toInt.toNat) (1 : Int32)) i_)) := f109_4.setI W_110
  refine ow_dup X_110 251 at_250 rfl rfl ?_
  refine ow_bipush X_110 253 (9 : Int32) at_251 rfl rfl ?_
  refine ow_iconst X_110 254 (1 : Int32) at_253 rfl rfl ?_
  refine ow_iastore X_110 255 f111_4 g_92 at_254 rfl (by decide) (by decide) ?_
  intro T_112 h_112 X_112 W_112
  have f113_0 : own_S Z h_112 ω.2.1 x := f111_0.wr W_112 g_92
  have f113_1 : oOv Z h_112 a_3 "com/example/hesl/hesl/api/ServedApi" := f111_1.wr W_112
  have f113_2 : oA Z h_112 a_3 (.object "com/example/hesl/hesl/api/ServedApi") 17 (fun i_ => .ref (x i_)) := f111_2.other W_112 ne_a_3_a_92
  have f113_3 : oA Z h_112 a_56 .int 17 (fun i_ => .int (own_lo i_)) := f111_3.other W_112 ne_a_56_a_92
  have f113_4 : oA Z h_112 a_92 .int ((17 : Int32).toInt.toNat) (fun i_ => .int ((oUpd (oUpd (oUpd (oUpd (oUpd (oUpd (oUpd (oUpd (oUpd (oUpd oZI ((0 : Int32).toInt.toNat) (7 : Int32)) ((1 : Int32).toInt.toNat) (10 : Int32)) ((2 : Int32).toInt.toNat) (2 : Int32)) ((3 : Int32).toInt.toNat) (6 : Int32)) ((4 : Int32).toInt.toNat) (2 : Int32)) ((5 : Int32).toInt.toNat) (1 : Int32)) ((6 : Int32).toInt.toNat) (0 : Int32)) ((7 : Int32).toInt.toNat) (2 : Int32)) ((8 : Int32).toInt.toNat) (1 : Int32)) ((9 : Int32).toInt.toNat) (1 : Int32)) i_)) := f111_4.setI W_112
  refine ow_dup X_112 256 at_255 rfl rfl ?_
  refine ow_bipush X_112 258 (10 : Int32) at_256 rfl rfl ?_
  refine ow_iconst X_112 259 (1 : Int32) at_258 rfl rfl ?_
  refine ow_iastore X_112 260 f113_4 g_92 at_259 rfl (by decide) (by decide) ?_
  intro T_114 h_114 X_114 W_114
  have f115_0 : own_S Z h_114 ω.2.1 x := f113_0.wr W_114 g_92
  have f115_1 : oOv Z h_114 a_3 "com/example/hesl/hesl/api/ServedApi" := f113_1.wr W_114
  have f115_2 : oA Z h_114 a_3 (.object "com/example/hesl/hesl/api/ServedApi") 17 (fun i_ => .ref (x i_)) := f113_2.other W_114 ne_a_3_a_92
  have f115_3 : oA Z h_114 a_56 .int 17 (fun i_ => .int (own_lo i_)) := f113_3.other W_114 ne_a_56_a_92
  have f115_4 : oA Z h_114 a_92 .int ((17 : Int32).toInt.toNat) (fun i_ => .int ((oUpd (oUpd (oUpd (oUpd (oUpd (oUpd (oUpd (oUpd (oUpd (oUpd (oUpd oZI ((0 : Int32).toInt.toNat) (7 : Int32)) ((1 : Int32).toInt.toNat) (10 : Int32)) ((2 : Int32).toInt.toNat) (2 : Int32)) ((3 : Int32).toInt.toNat) (6 : Int32)) ((4 : Int32).toInt.toNat) (2 : Int32)) ((5 : Int32).toInt.toNat) (1 : Int32)) ((6 : Int32).toInt.toNat) (0 : Int32)) ((7 : Int32).toInt.toNat) (2 : Int32)) ((8 : Int32).toInt.toNat) (1 : Int32)) ((9 : Int32).toInt.toNat) (1 : Int32)) ((10 : Int32).toInt.toNat) (1 : Int32)) i_)) := f113_4.setI W_114
  refine ow_dup X_114 261 at_260 rfl rfl ?_
  refine ow_bipush X_114 263 (11 : Int32) at_261 rfl rfl ?_
  refine ow_iconst X_114 264 (3 : Int32) at_263 rfl rfl ?_
  refine ow_iastore X_114 265 f115_4 g_92 at_264 rfl (by decide) (by decide) ?_
  intro T_116 h_116 X_116 W_116
  have f117_0 : own_S Z h_116 ω.2.1 x := f115_0.wr W_116 g_92
  have f117_1 : oOv Z h_116 a_3 "com/example/hesl/hesl/api/ServedApi" := f115_1.wr W_116
  have f117_2 : oA Z h_116 a_3 (.object "com/example/hesl/hesl/api/ServedApi") 17 (fun i_ => .ref (x i_)) := f115_2.other W_116 ne_a_3_a_92
  have f117_3 : oA Z h_116 a_56 .int 17 (fun i_ => .int (own_lo i_)) := f115_3.other W_116 ne_a_56_a_92
  have f117_4 : oA Z h_116 a_92 .int ((17 : Int32).toInt.toNat) (fun i_ => .int ((oUpd (oUpd (oUpd (oUpd (oUpd (oUpd (oUpd (oUpd (oUpd (oUpd (oUpd (oUpd oZI ((0 : Int32).toInt.toNat) (7 : Int32)) ((1 : Int32).toInt.toNat) (10 : Int32)) ((2 : Int32).toInt.toNat) (2 : Int32)) ((3 : Int32).toInt.toNat) (6 : Int32)) ((4 : Int32).toInt.toNat) (2 : Int32)) ((5 : Int32).toInt.toNat) (1 : Int32)) ((6 : Int32).toInt.toNat) (0 : Int32)) ((7 : Int32).toInt.toNat) (2 : Int32)) ((8 : Int32).toInt.toNat) (1 : Int32)) ((9 : Int32).toInt.toNat) (1 : Int32)) ((10 : Int32).toInt.toNat) (1 : Int32)) ((11 : Int32).toInt.toNat) (3 : Int32)) i_)) := f115_4.setI W_116
  refine ow_dup X_116 266 at_265 rfl rfl ?_
  refine ow_bipush X_116 268 (12 : Int32) at_266 rfl rfl ?_
  refine ow_iconst X_116 269 (1 : Int32) at_268 rfl rfl ?_
  refine ow_iastore X_116 270 f117_4 g_92 at_269 rfl (by decide) (by decide) ?_
  intro T_118 h_118 X_118 W_118
  have f119_0 : own_S Z h_118 ω.2.1 x := f117_0.wr W_118 g_92
  have f119_1 : oOv Z h_118 a_3 "com/example/hesl/hesl/api/ServedApi" := f117_1.wr W_118
  have f119_2 : oA Z h_118 a_3 (.object "com/example/hesl/hesl/api/ServedApi") 17 (fun i_ => .ref (x i_)) := f117_2.other W_118 ne_a_3_a_92
  have f119_3 : oA Z h_118 a_56 .int 17 (fun i_ => .int (own_lo i_)) := f117_3.other W_118 ne_a_56_a_92
  have f119_4 : oA Z h_118 a_92 .int ((17 : Int32).toInt.toNat) (fun i_ => .int ((oUpd (oUpd (oUpd (oUpd (oUpd (oUpd (oUpd (oUpd (oUpd (oUpd (oUpd (oUpd (oUpd oZI ((0 : Int32).toInt.toNat) (7 : Int32)) ((1 : Int32).toInt.toNat) (10 : Int32)) ((2 : Int32).toInt.toNat) (2 : Int32)) ((3 : Int32).toInt.toNat) (6 : Int32)) ((4 : Int32).toInt.toNat) (2 : Int32)) ((5 : Int32).toInt.toNat) (1 : Int32)) ((6 : Int32).toInt.toNat) (0 : Int32)) ((7 : Int32).toInt.toNat) (2 : Int32)) ((8 : Int32).toInt.toNat) (1 : Int32)) ((9 : Int32).toInt.toNat) (1 : Int32)) ((10 : Int32).toInt.toNat) (1 : Int32)) ((11 : Int32).toInt.toNat) (3 : Int32)) ((12 : Int32).toInt.toNat) (1 : Int32)) i_)) := f117_4.setI W_118
  refine ow_dup X_118 271 at_270 rfl rfl ?_
  refine ow_bipush X_118 273 (13 : Int32) at_271 rfl rfl ?_
  refine ow_iconst X_118 274 (3 : Int32) at_273 rfl rfl ?_
  refine ow_iastore X_118 275 f119_4 g_92 at_274 rfl (by decide) (by decide) ?_
  intro T_120 h_120 X_120 W_120
  have f121_0 : own_S Z h_120 ω.2.1 x := f119_0.wr W_120 g_92
  have f121_1 : oOv Z h_120 a_3 "com/example/hesl/hesl/api/ServedApi" := f119_1.wr W_120
  have f121_2 : oA Z h_120 a_3 (.object "com/example/hesl/hesl/api/ServedApi") 17 (fun i_ => .ref (x i_)) := f119_2.other W_120 ne_a_3_a_92
  have f121_3 : oA Z h_120 a_56 .int 17 (fun i_ => .int (own_lo i_)) := f119_3.other W_120 ne_a_56_a_92
  have f121_4 : oA Z h_120 a_92 .int ((17 : Int32).toInt.toNat) (fun i_ => .int ((oUpd (oUpd (oUpd (oUpd (oUpd (oUpd (oUpd (oUpd (oUpd (oUpd (oUpd (oUpd (oUpd (oUpd oZI ((0 : Int32).toInt.toNat) (7 : Int32)) ((1 : Int32).toInt.toNat) (10 : Int32)) ((2 : Int32).toInt.toNat) (2 : Int32)) ((3 : Int32).toInt.toNat) (6 : Int32)) ((4 : Int32).toInt.toNat) (2 : Int32)) ((5 : Int32).toInt.toNat) (1 : Int32)) ((6 : Int32).toInt.toNat) (0 : Int32)) ((7 : Int32).toInt.toNat) (2 : Int32)) ((8 : Int32).toInt.toNat) (1 : Int32)) ((9 : Int32).toInt.toNat) (1 : Int32)) ((10 : Int32).toInt.toNat) (1 : Int32)) ((11 : Int32).toInt.toNat) (3 : Int32)) ((12 : Int32).toInt.toNat) (1 : Int32)) ((13 : Int32).toInt.toNat) (3 : Int32)) i_)) := f119_4.setI W_120
  refine ow_dup X_120 276 at_275 rfl rfl ?_
  refine ow_bipush X_120 278 (14 : Int32) at_276 rfl rfl ?_
  refine ow_iconst X_120 279 (3 : Int32) at_278 rfl rfl ?_
  refine ow_iastore X_120 280 f121_4 g_92 at_279 rfl (by decide) (by decide) ?_
  intro T_122 h_122 X_122 W_122
  have f123_0 : own_S Z h_122 ω.2.1 x := f121_0.wr W_122 g_92
  have f123_1 : oOv Z h_122 a_3 "com/example/hesl/hesl/api/ServedApi" := f121_1.wr W_122
  have f123_2 : oA Z h_122 a_3 (.object "com/example/hesl/hesl/api/ServedApi") 17 (fun i_ => .ref (x i_)) := f121_2.other W_122 ne_a_3_a_92
  have f123_3 : oA Z h_122 a_56 .int 17 (fun i_ => .int (own_lo i_)) := f121_3.other W_122 ne_a_56_a_92
  have f123_4 : oA Z h_122 a_92 .int ((17 : Int32).toInt.toNat) (fun i_ => .int ((oUpd (oUpd (oUpd (oUpd (oUpd (oUpd (oUpd (oUpd (oUpd (oUpd (oUpd (oUpd (oUpd (oUpd (oUpd oZI ((0 : Int32).toInt.toNat) (7 : Int32)) ((1 : Int32).toInt.toNat) (10 : Int32)) ((2 : Int32).toInt.toNat) (2 : Int32)) ((3 : Int32).toInt.toNat) (6 : Int32)) ((4 : Int32).toInt.toNat) (2 : Int32)) ((5 : Int32).toInt.toNat) (1 : Int32)) ((6 : Int32).toInt.toNat) (0 : Int32)) ((7 : Int32).toInt.toNat) (2 : Int32)) ((8 : Int32).toInt.toNat) (1 : Int32)) ((9 : Int32).toInt.toNat) (1 : Int32)) ((10 : Int32).toInt.toNat) (1 : Int32)) ((11 : Int32).toInt.toNat) (3 : Int32)) ((12 : Int32).toInt.toNat) (1 : Int32)) ((13 : Int32).toInt.toNat) (3 : Int32)) ((14 : Int32).toInt.toNat) (3 : Int32)) i_)) := f121_4.setI W_122
  refine ow_dup X_122 281 at_280 rfl rfl ?_
  refine ow_bipush X_122 283 (15 : Int32) at_281 rfl rfl ?_
  refine ow_iconst X_122 284 (3 : Int32) at_283 rfl rfl ?_
  refine ow_iastore X_122 285 f123_4 g_92 at_284 rfl (by decide) (by decide) ?_
  intro T_124 h_124 X_124 W_124
  have f125_0 : own_S Z h_124 ω.2.1 x := f123_0.wr W_124 g_92
  have f125_1 : oOv Z h_124 a_3 "com/example/hesl/hesl/api/ServedApi" := f123_1.wr W_124
  have f125_2 : oA Z h_124 a_3 (.object "com/example/hesl/hesl/api/ServedApi") 17 (fun i_ => .ref (x i_)) := f123_2.other W_124 ne_a_3_a_92
  have f125_3 : oA Z h_124 a_56 .int 17 (fun i_ => .int (own_lo i_)) := f123_3.other W_124 ne_a_56_a_92
  have f125_4 : oA Z h_124 a_92 .int ((17 : Int32).toInt.toNat) (fun i_ => .int ((oUpd (oUpd (oUpd (oUpd (oUpd (oUpd (oUpd (oUpd (oUpd (oUpd (oUpd (oUpd (oUpd (oUpd (oUpd (oUpd oZI ((0 : Int32).toInt.toNat) (7 : Int32)) ((1 : Int32).toInt.toNat) (10 : Int32)) ((2 : Int32).toInt.toNat) (2 : Int32)) ((3 : Int32).toInt.toNat) (6 : Int32)) ((4 : Int32).toInt.toNat) (2 : Int32)) ((5 : Int32).toInt.toNat) (1 : Int32)) ((6 : Int32).toInt.toNat) (0 : Int32)) ((7 : Int32).toInt.toNat) (2 : Int32)) ((8 : Int32).toInt.toNat) (1 : Int32)) ((9 : Int32).toInt.toNat) (1 : Int32)) ((10 : Int32).toInt.toNat) (1 : Int32)) ((11 : Int32).toInt.toNat) (3 : Int32)) ((12 : Int32).toInt.toNat) (1 : Int32)) ((13 : Int32).toInt.toNat) (3 : Int32)) ((14 : Int32).toInt.toNat) (3 : Int32)) ((15 : Int32).toInt.toNat) (3 : Int32)) i_)) := f123_4.setI W_124
  refine ow_dup X_124 286 at_285 rfl rfl ?_
  refine ow_bipush X_124 288 (16 : Int32) at_286 rfl rfl ?_
  refine ow_iconst X_124 289 (1 : Int32) at_288 rfl rfl ?_
  refine ow_iastore X_124 290 f125_4 g_92 at_289 rfl (by decide) (by decide) ?_
  intro T_126 h_126 X_126 W_126
  have f127_0 : own_S Z h_126 ω.2.1 x := f125_0.wr W_126 g_92
  have f127_1 : oOv Z h_126 a_3 "com/example/hesl/hesl/api/ServedApi" := f125_1.wr W_126
  have f127_2 : oA Z h_126 a_3 (.object "com/example/hesl/hesl/api/ServedApi") 17 (fun i_ => .ref (x i_)) := f125_2.other W_126 ne_a_3_a_92
  have f127_3 : oA Z h_126 a_56 .int 17 (fun i_ => .int (own_lo i_)) := f125_3.other W_126 ne_a_56_a_92
  have f127_4 : oA Z h_126 a_92 .int ((17 : Int32).toInt.toNat) (fun i_ => .int ((oUpd (oUpd (oUpd (oUpd (oUpd (oUpd (oUpd (oUpd (oUpd (oUpd (oUpd (oUpd (oUpd (oUpd (oUpd (oUpd (oUpd oZI ((0 : Int32).toInt.toNat) (7 : Int32)) ((1 : Int32).toInt.toNat) (10 : Int32)) ((2 : Int32).toInt.toNat) (2 : Int32)) ((3 : Int32).toInt.toNat) (6 : Int32)) ((4 : Int32).toInt.toNat) (2 : Int32)) ((5 : Int32).toInt.toNat) (1 : Int32)) ((6 : Int32).toInt.toNat) (0 : Int32)) ((7 : Int32).toInt.toNat) (2 : Int32)) ((8 : Int32).toInt.toNat) (1 : Int32)) ((9 : Int32).toInt.toNat) (1 : Int32)) ((10 : Int32).toInt.toNat) (1 : Int32)) ((11 : Int32).toInt.toNat) (3 : Int32)) ((12 : Int32).toInt.toNat) (1 : Int32)) ((13 : Int32).toInt.toNat) (3 : Int32)) ((14 : Int32).toInt.toNat) (3 : Int32)) ((15 : Int32).toInt.toNat) (3 : Int32)) ((16 : Int32).toInt.toNat) (1 : Int32)) i_)) := f125_4.setI W_126
  have Ahi : oA Z h_126 a_92 .int 17 (fun i_ => .int (own_hi i_)) := f127_4.congr (fun i hi => by
    rcases own_17 hi with rfl | rfl | rfl | rfl | rfl | rfl | rfl | rfl | rfl | rfl | rfl | rfl | rfl | rfl | rfl | rfl | rfl <;> rfl)
  refine ow_astore X_126 292 (L' := #[.val (.int which), .val (.int v), .val (.int mode), .val (.ref a_3), .val (.ref a_56), .val (.ref a_92), .unset, .unset, .unset, .unset]) at_290 rfl rfl rfl ?_
  refine ow_iloadN X_126 293 at_292 rfl rfl ?_
  refine ow_ldcI X_126 295 39 rfl rfl at_293 rfl ?_
  refine ow_iand X_126 296 at_295 rfl ?_
  refine ow_bipush X_126 298 (17 : Int32) at_296 rfl rfl ?_
  refine ow_irem X_126 299 at_298 rfl (by decide) ?_
  refine ow_istore X_126 301 (L' := #[.val (.int which), .val (.int v), .val (.int mode), .val (.ref a_3), .val (.ref a_56), .val (.ref a_92), .val (.int ((which &&& (2147483647 : Int32)) % (17 : Int32))), .unset, .unset, .unset]) at_299 rfl rfl ?_
  have hs := own_n17 which
  generalize (which &&& (2147483647 : Int32)) % (17 : Int32) = sel at hs ⊢
  refine ow_iloadN X_126 302 at_301 rfl rfl ?_
  refine ow_iconst X_126 303 (1 : Int32) at_302 rfl rfl ?_
  refine ow_iand X_126 304 at_303 rfl ?_
  refine ow_if_ne X_126 307 314 at_304 rfl rfl (fun (c304 : (mode &&& (1 : Int32)).toInt ≠ 0) => ?_) (fun (c304 : (mode &&& (1 : Int32)).toInt = 0) => ?_)
  · refine ow_aload X_126 316 at_314 rfl rfl rfl ?_
    refine ow_iload X_126 318 at_316 rfl rfl ?_
    refine ow_iaload X_126 319 f127_3 at_318 rfl hs.1 (by omega) rfl ?_
    refine ow_iloadN X_126 320 at_319 rfl rfl ?_
    refine ow_ldcI X_126 322 39 rfl rfl at_320 rfl ?_
    refine ow_iand X_126 323 at_322 rfl ?_
    refine ow_bipush X_126 325 (12 : Int32) at_323 rfl rfl ?_
    refine ow_irem X_126 326 at_325 rfl (by decide) ?_
    refine ow_iadd X_126 327 at_326 rfl ?_
    refine ow_iconst X_126 328 (3 : Int32) at_327 rfl rfl ?_
    refine ow_isub X_126 329 at_328 rfl ?_
    refine ow_i2s X_126 330 at_329 rfl ?_
    refine ow_istore X_126 332 (L' := #[.val (.int which), .val (.int v), .val (.int mode), .val (.ref a_3), .val (.ref a_56), .val (.ref a_92), .val (.int sel), .val (.int ((((own_lo sel.toInt.toNat) + ((v &&& (2147483647 : Int32)) % (12 : Int32))) - (3 : Int32)).toInt16.toInt32)), .unset, .unset]) at_330 rfl rfl ?_
    generalize (((own_lo sel.toInt.toNat) + ((v &&& (2147483647 : Int32)) % (12 : Int32))) - (3 : Int32)).toInt16.toInt32 = ver
    refine ow_iload X_126 334 at_332 rfl rfl ?_
    refine ow_istore X_126 336 (L' := #[.val (.int which), .val (.int v), .val (.int mode), .val (.ref a_3), .val (.ref a_56), .val (.ref a_92), .val (.int sel), .val (.int ver), .val (.int ver), .unset]) at_334 rfl rfl ?_
    refine ow_iload X_126 338 at_336 rfl rfl ?_
    refine ow_aload X_126 340 at_338 rfl rfl rfl ?_
    refine ow_iload X_126 342 at_340 rfl rfl ?_
    refine ow_iaload X_126 343 f127_3 at_342 rfl hs.1 (by omega) rfl ?_
    refine ow_icmp_ge X_126 346 352 at_343 rfl rfl (fun (c343 : (own_lo sel.toInt.toNat).toInt ≤ ver.toInt) => ?_) (fun (c343 : ver.toInt < (own_lo sel.toInt.toNat).toInt) => ?_)
    · refine ow_iload X_126 354 at_352 rfl rfl ?_
      refine ow_aload X_126 356 at_354 rfl rfl rfl ?_
      refine ow_iload X_126 358 at_356 rfl rfl ?_
      refine ow_iaload X_126 359 Ahi at_358 rfl hs.1 (by omega) rfl ?_
      refine ow_icmp_le X_126 362 368 at_359 rfl rfl (fun (c359 : ver.toInt ≤ (own_hi sel.toInt.toNat).toInt) => ?_) (fun (c359 : (own_hi sel.toInt.toNat).toInt < ver.toInt) => ?_)
      · refine ow_iconst X_126 369 (1 : Int32) at_368 rfl rfl ?_
        refine ow_istore X_126 371 (L' := #[.val (.int which), .val (.int v), .val (.int mode), .val (.ref a_3), .val (.ref a_56), .val (.ref a_92), .val (.int sel), .val (.int ver), .val (.int ver), .val (.int (1 : Int32))]) at_369 rfl rfl ?_
        refine ow_aloadN X_126 372 at_371 rfl rfl rfl ?_
        refine ow_iload X_126 374 at_372 rfl rfl ?_
        refine ow_aaload X_126 375 f127_2 rfl at_374 rfl hs.1 (by omega) rfl ?_
        refine ow_iload X_126 377 at_375 rfl rfl ?_
        have Bs := f127_0 sel.toInt.toNat (by omega)
        refine ow_callV X_126 380 40 41 43 42 44 3 (κ' := k1) (as := [.int ver]) (S := []) (W := 0) rfl rfl rfl rfl rfl rfl rfl (by decide) Bs.2.2.1 (C_serves (oSt_w X_126) (oSt_n0 X_126) (x sel.toInt.toNat) ver (own_lo sel.toInt.toNat) (own_hi sel.toInt.toNat) Bs.2.2.2.1 Bs.2.2.2.2) (by decide) (by decide) (Nat.le_of_eq rfl) (by decide) (by decide) pd1 rfl rfl rfl at_377 rfl ?_
        intro v_128 T_128 h_128 X_128 q_128
        obtain ⟨rfl, rfl⟩ := q_128
        rw [if_pos ⟨c343, c359⟩]
        show oWP ω γ k0 _ T_128 380 #[.val (.int which), .val (.int v), .val (.int mode), .val (.ref a_3), .val (.ref a_56), .val (.ref a_92), .val (.int sel), .val (.int ver), .val (.int ver), .val (.int (1 : Int32))] [.int (1 : Int32)]
        refine ow_iload X_128 382 at_380 rfl rfl ?_
        refine ow_icmp_ne X_128 385 389 at_382 rfl rfl (fun (c382 : 1 ≠ 1) => absurd rfl c382) (fun (c382 : 1 = 1) => ?_)
        refine ow_iconst X_128 386 (1 : Int32) at_385 rfl rfl ?_
        refine ow_goto X_128 390 at_386 rfl ?_
        refine ow_retZ X_128 rfl at_390 (by decide) (by decide) (by decide) ?_
        rfl
      · refine ow_iconst X_126 363 (0 : Int32) at_362 rfl rfl ?_
        refine ow_istore X_126 365 (L' := #[.val (.int which), .val (.int v), .val (.int mode), .val (.ref a_3), .val (.ref a_56), .val (.ref a_92), .val (.int sel), .val (.int ver), .val (.int ver), .val (.int (0 : Int32))]) at_363 rfl rfl ?_
        refine ow_goto X_126 371 at_365 rfl ?_
        refine ow_aloadN X_126 372 at_371 rfl rfl rfl ?_
        refine ow_iload X_126 374 at_372 rfl rfl ?_
        refine ow_aaload X_126 375 f127_2 rfl at_374 rfl hs.1 (by omega) rfl ?_
        refine ow_iload X_126 377 at_375 rfl rfl ?_
        have Bs := f127_0 sel.toInt.toNat (by omega)
        refine ow_callV X_126 380 40 41 43 42 44 3 (κ' := k1) (as := [.int ver]) (S := []) (W := 0) rfl rfl rfl rfl rfl rfl rfl (by decide) Bs.2.2.1 (C_serves (oSt_w X_126) (oSt_n0 X_126) (x sel.toInt.toNat) ver (own_lo sel.toInt.toNat) (own_hi sel.toInt.toNat) Bs.2.2.2.1 Bs.2.2.2.2) (by decide) (by decide) (Nat.le_of_eq rfl) (by decide) (by decide) pd1 rfl rfl rfl at_377 rfl ?_
        intro v_129 T_129 h_129 X_129 q_129
        obtain ⟨rfl, rfl⟩ := q_129
        have hF : ¬ ((own_lo sel.toInt.toNat).toInt ≤ ver.toInt ∧ ver.toInt ≤ (own_hi sel.toInt.toNat).toInt) := fun q => by omega
        rw [if_neg hF]
        show oWP ω γ k0 _ T_129 380 #[.val (.int which), .val (.int v), .val (.int mode), .val (.ref a_3), .val (.ref a_56), .val (.ref a_92), .val (.int sel), .val (.int ver), .val (.int ver), .val (.int (0 : Int32))] [.int (0 : Int32)]
        refine ow_iload X_129 382 at_380 rfl rfl ?_
        refine ow_icmp_ne X_129 385 389 at_382 rfl rfl (fun (c382 : 0 ≠ 0) => absurd rfl c382) (fun (c382 : 0 = 0) => ?_)
        refine ow_iconst X_129 386 (1 : Int32) at_385 rfl rfl ?_
        refine ow_goto X_129 390 at_386 rfl ?_
        refine ow_retZ X_129 rfl at_390 (by decide) (by decide) (by decide) ?_
        rfl
    · refine ow_iconst X_126 347 (0 : Int32) at_346 rfl rfl ?_
      refine ow_istore X_126 349 (L' := #[.val (.int which), .val (.int v), .val (.int mode), .val (.ref a_3), .val (.ref a_56), .val (.ref a_92), .val (.int sel), .val (.int ver), .val (.int ver), .val (.int (0 : Int32))]) at_347 rfl rfl ?_
      refine ow_goto X_126 371 at_349 rfl ?_
      refine ow_aloadN X_126 372 at_371 rfl rfl rfl ?_
      refine ow_iload X_126 374 at_372 rfl rfl ?_
      refine ow_aaload X_126 375 f127_2 rfl at_374 rfl hs.1 (by omega) rfl ?_
      refine ow_iload X_126 377 at_375 rfl rfl ?_
      have Bs := f127_0 sel.toInt.toNat (by omega)
      refine ow_callV X_126 380 40 41 43 42 44 3 (κ' := k1) (as := [.int ver]) (S := []) (W := 0) rfl rfl rfl rfl rfl rfl rfl (by decide) Bs.2.2.1 (C_serves (oSt_w X_126) (oSt_n0 X_126) (x sel.toInt.toNat) ver (own_lo sel.toInt.toNat) (own_hi sel.toInt.toNat) Bs.2.2.2.1 Bs.2.2.2.2) (by decide) (by decide) (Nat.le_of_eq rfl) (by decide) (by decide) pd1 rfl rfl rfl at_377 rfl ?_
      intro v_130 T_130 h_130 X_130 q_130
      obtain ⟨rfl, rfl⟩ := q_130
      have hF : ¬ ((own_lo sel.toInt.toNat).toInt ≤ ver.toInt ∧ ver.toInt ≤ (own_hi sel.toInt.toNat).toInt) := fun q => by omega
      rw [if_neg hF]
      show oWP ω γ k0 _ T_130 380 #[.val (.int which), .val (.int v), .val (.int mode), .val (.ref a_3), .val (.ref a_56), .val (.ref a_92), .val (.int sel), .val (.int ver), .val (.int ver), .val (.int (0 : Int32))] [.int (0 : Int32)]
      refine ow_iload X_130 382 at_380 rfl rfl ?_
      refine ow_icmp_ne X_130 385 389 at_382 rfl rfl (fun (c382 : 0 ≠ 0) => absurd rfl c382) (fun (c382 : 0 = 0) => ?_)
      refine ow_iconst X_130 386 (1 : Int32) at_385 rfl rfl ?_
      refine ow_goto X_130 390 at_386 rfl ?_
      refine ow_retZ X_130 rfl at_390 (by decide) (by decide) (by decide) ?_
      rfl
  · refine ow_iloadN X_126 308 at_307 rfl rfl ?_
    refine ow_i2s X_126 309 at_308 rfl ?_
    refine ow_istore X_126 311 (L' := #[.val (.int which), .val (.int v), .val (.int mode), .val (.ref a_3), .val (.ref a_56), .val (.ref a_92), .val (.int sel), .val (.int v.toInt16.toInt32), .unset, .unset]) at_309 rfl rfl ?_
    refine ow_goto X_126 332 at_311 rfl ?_
    generalize v.toInt16.toInt32 = ver
    refine ow_iload X_126 334 at_332 rfl rfl ?_
    refine ow_istore X_126 336 (L' := #[.val (.int which), .val (.int v), .val (.int mode), .val (.ref a_3), .val (.ref a_56), .val (.ref a_92), .val (.int sel), .val (.int ver), .val (.int ver), .unset]) at_334 rfl rfl ?_
    refine ow_iload X_126 338 at_336 rfl rfl ?_
    refine ow_aload X_126 340 at_338 rfl rfl rfl ?_
    refine ow_iload X_126 342 at_340 rfl rfl ?_
    refine ow_iaload X_126 343 f127_3 at_342 rfl hs.1 (by omega) rfl ?_
    refine ow_icmp_ge X_126 346 352 at_343 rfl rfl (fun (c343 : (own_lo sel.toInt.toNat).toInt ≤ ver.toInt) => ?_) (fun (c343 : ver.toInt < (own_lo sel.toInt.toNat).toInt) => ?_)
    · refine ow_iload X_126 354 at_352 rfl rfl ?_
      refine ow_aload X_126 356 at_354 rfl rfl rfl ?_
      refine ow_iload X_126 358 at_356 rfl rfl ?_
      refine ow_iaload X_126 359 Ahi at_358 rfl hs.1 (by omega) rfl ?_
      refine ow_icmp_le X_126 362 368 at_359 rfl rfl (fun (c359 : ver.toInt ≤ (own_hi sel.toInt.toNat).toInt) => ?_) (fun (c359 : (own_hi sel.toInt.toNat).toInt < ver.toInt) => ?_)
      · refine ow_iconst X_126 369 (1 : Int32) at_368 rfl rfl ?_
        refine ow_istore X_126 371 (L' := #[.val (.int which), .val (.int v), .val (.int mode), .val (.ref a_3), .val (.ref a_56), .val (.ref a_92), .val (.int sel), .val (.int ver), .val (.int ver), .val (.int (1 : Int32))]) at_369 rfl rfl ?_
        refine ow_aloadN X_126 372 at_371 rfl rfl rfl ?_
        refine ow_iload X_126 374 at_372 rfl rfl ?_
        refine ow_aaload X_126 375 f127_2 rfl at_374 rfl hs.1 (by omega) rfl ?_
        refine ow_iload X_126 377 at_375 rfl rfl ?_
        have Bs := f127_0 sel.toInt.toNat (by omega)
        refine ow_callV X_126 380 40 41 43 42 44 3 (κ' := k1) (as := [.int ver]) (S := []) (W := 0) rfl rfl rfl rfl rfl rfl rfl (by decide) Bs.2.2.1 (C_serves (oSt_w X_126) (oSt_n0 X_126) (x sel.toInt.toNat) ver (own_lo sel.toInt.toNat) (own_hi sel.toInt.toNat) Bs.2.2.2.1 Bs.2.2.2.2) (by decide) (by decide) (Nat.le_of_eq rfl) (by decide) (by decide) pd1 rfl rfl rfl at_377 rfl ?_
        intro v_131 T_131 h_131 X_131 q_131
        obtain ⟨rfl, rfl⟩ := q_131
        rw [if_pos ⟨c343, c359⟩]
        show oWP ω γ k0 _ T_131 380 #[.val (.int which), .val (.int v), .val (.int mode), .val (.ref a_3), .val (.ref a_56), .val (.ref a_92), .val (.int sel), .val (.int ver), .val (.int ver), .val (.int (1 : Int32))] [.int (1 : Int32)]
        refine ow_iload X_131 382 at_380 rfl rfl ?_
        refine ow_icmp_ne X_131 385 389 at_382 rfl rfl (fun (c382 : 1 ≠ 1) => absurd rfl c382) (fun (c382 : 1 = 1) => ?_)
        refine ow_iconst X_131 386 (1 : Int32) at_385 rfl rfl ?_
        refine ow_goto X_131 390 at_386 rfl ?_
        refine ow_retZ X_131 rfl at_390 (by decide) (by decide) (by decide) ?_
        rfl
      · refine ow_iconst X_126 363 (0 : Int32) at_362 rfl rfl ?_
        refine ow_istore X_126 365 (L' := #[.val (.int which), .val (.int v), .val (.int mode), .val (.ref a_3), .val (.ref a_56), .val (.ref a_92), .val (.int sel), .val (.int ver), .val (.int ver), .val (.int (0 : Int32))]) at_363 rfl rfl ?_
        refine ow_goto X_126 371 at_365 rfl ?_
        refine ow_aloadN X_126 372 at_371 rfl rfl rfl ?_
        refine ow_iload X_126 374 at_372 rfl rfl ?_
        refine ow_aaload X_126 375 f127_2 rfl at_374 rfl hs.1 (by omega) rfl ?_
        refine ow_iload X_126 377 at_375 rfl rfl ?_
        have Bs := f127_0 sel.toInt.toNat (by omega)
        refine ow_callV X_126 380 40 41 43 42 44 3 (κ' := k1) (as := [.int ver]) (S := []) (W := 0) rfl rfl rfl rfl rfl rfl rfl (by decide) Bs.2.2.1 (C_serves (oSt_w X_126) (oSt_n0 X_126) (x sel.toInt.toNat) ver (own_lo sel.toInt.toNat) (own_hi sel.toInt.toNat) Bs.2.2.2.1 Bs.2.2.2.2) (by decide) (by decide) (Nat.le_of_eq rfl) (by decide) (by decide) pd1 rfl rfl rfl at_377 rfl ?_
        intro v_132 T_132 h_132 X_132 q_132
        obtain ⟨rfl, rfl⟩ := q_132
        have hF : ¬ ((own_lo sel.toInt.toNat).toInt ≤ ver.toInt ∧ ver.toInt ≤ (own_hi sel.toInt.toNat).toInt) := fun q => by omega
        rw [if_neg hF]
        show oWP ω γ k0 _ T_132 380 #[.val (.int which), .val (.int v), .val (.int mode), .val (.ref a_3), .val (.ref a_56), .val (.ref a_92), .val (.int sel), .val (.int ver), .val (.int ver), .val (.int (0 : Int32))] [.int (0 : Int32)]
        refine ow_iload X_132 382 at_380 rfl rfl ?_
        refine ow_icmp_ne X_132 385 389 at_382 rfl rfl (fun (c382 : 0 ≠ 0) => absurd rfl c382) (fun (c382 : 0 = 0) => ?_)
        refine ow_iconst X_132 386 (1 : Int32) at_385 rfl rfl ?_
        refine ow_goto X_132 390 at_386 rfl ?_
        refine ow_retZ X_132 rfl at_390 (by decide) (by decide) (by decide) ?_
        rfl
    · refine ow_iconst X_126 347 (0 : Int32) at_346 rfl rfl ?_
      refine ow_istore X_126 349 (L' := #[.val (.int which), .val (.int v), .val (.int mode), .val (.ref a_3), .val (.ref a_56), .val (.ref a_92), .val (.int sel), .val (.int ver), .val (.int ver), .val (.int (0 : Int32))]) at_347 rfl rfl ?_
      refine ow_goto X_126 371 at_349 rfl ?_
      refine ow_aloadN X_126 372 at_371 rfl rfl rfl ?_
      refine ow_iload X_126 374 at_372 rfl rfl ?_
      refine ow_aaload X_126 375 f127_2 rfl at_374 rfl hs.1 (by omega) rfl ?_
      refine ow_iload X_126 377 at_375 rfl rfl ?_
      have Bs := f127_0 sel.toInt.toNat (by omega)
      refine ow_callV X_126 380 40 41 43 42 44 3 (κ' := k1) (as := [.int ver]) (S := []) (W := 0) rfl rfl rfl rfl rfl rfl rfl (by decide) Bs.2.2.1 (C_serves (oSt_w X_126) (oSt_n0 X_126) (x sel.toInt.toNat) ver (own_lo sel.toInt.toNat) (own_hi sel.toInt.toNat) Bs.2.2.2.1 Bs.2.2.2.2) (by decide) (by decide) (Nat.le_of_eq rfl) (by decide) (by decide) pd1 rfl rfl rfl at_377 rfl ?_
      intro v_133 T_133 h_133 X_133 q_133
      obtain ⟨rfl, rfl⟩ := q_133
      have hF : ¬ ((own_lo sel.toInt.toNat).toInt ≤ ver.toInt ∧ ver.toInt ≤ (own_hi sel.toInt.toNat).toInt) := fun q => by omega
      rw [if_neg hF]
      show oWP ω γ k0 _ T_133 380 #[.val (.int which), .val (.int v), .val (.int mode), .val (.ref a_3), .val (.ref a_56), .val (.ref a_92), .val (.int sel), .val (.int ver), .val (.int ver), .val (.int (0 : Int32))] [.int (0 : Int32)]
      refine ow_iload X_133 382 at_380 rfl rfl ?_
      refine ow_icmp_ne X_133 385 389 at_382 rfl rfl (fun (c382 : 0 ≠ 0) => absurd rfl c382) (fun (c382 : 0 = 0) => ?_)
      refine ow_iconst X_133 386 (1 : Int32) at_385 rfl rfl ?_
      refine ow_goto X_133 390 at_386 rfl ?_
      refine ow_retZ X_133 rfl at_390 (by decide) (by decide) (by decide) ?_
      rfl
def own_sel (x0 x1 x2 x3 x4 x5 x6 x7 x8 x9 x10 x11 x12 x13 x14 x15 x16 : Addr) : Nat → Addr
  | 0 => x0
  | 1 => x1
  | 2 => x2
  | 3 => x3
  | 4 => x4
  | 5 => x5
  | 6 => x6
  | 7 => x7
  | 8 => x8
  | 9 => x9
  | 10 => x10
  | 11 => x11
  | 12 => x12
  | 13 => x13
  | 14 => x14
  | 15 => x15
  | _ => x16
theorem own_fld {s : State} {args : Array Value} {t : Term} {a : Addr} {k : Int32} {C n d : String} (ht : t.eval args s none [] s = some (.ref a)) (h : (Jvm.Cond.eq (Jvm.Term.field t C n d) (Jvm.Term.int k)).value args s none s [] = some true) : Fld s s.heap a C n d (.int k) := by
  obtain ⟨x, y, h1, h2, h3, h4⟩ := cmp_v (Or.inl h)
  have e2 : y = .int k := Option.some.inj (h2.symm.trans (Term.int_eval k))
  subst e2
  have e1 : ∃ z, x = .int z := h4
  obtain ⟨z, rfl⟩ := e1
  have q := gotT (Cond.eq_ints h1 h2) h
  subst q
  rw [fld_at ht] at h1
  exact Fld.start h1
set_option maxRecDepth 65536 in
set_option maxHeartbeats 4000000 in
theorem comes_1 {Post : Tables → Env → Array Value → State → Outcome → State → Prop} (hpost : ∀ tb e args s v u, (limb_1_1.after args s (.returned v) u = true ∧ limb_1_2.after args s (.returned v) u = true ∧ True) → FrameEnd s (.returned v) u (Jvm.fieldLocs frame_1_writes args s ++ Jvm.arrayLocs frame_1_arrays args s ++ Jvm.staticLocs frame_1_statics s) 16 192 → Post tb e args s (.returned v) u) :
    ArmFor flags0 classFile x code maxLocals ret World_1 tables_1 room_1 Calls_1 rest_1 Pre_1 Post := by
  intro l hfl _ _ p e ha hc hk s m args below hf hA hF happ hP
  obtain ⟨hcalls, hrest, hpre⟩ := hP
  obtain ⟨-, -, -, hnamed, -, -, -, hat⟩ := (Spec.applies_iff hf).mp happ
  obtain ⟨hg, hn⟩ := and_e (Cond.before_iff.mp (show (Jvm.Cond.and given_1 narrow_1).before args s = true from hpre))
  obtain ⟨hcount, hg0⟩ := and_e hg
  obtain ⟨ha0, hg1⟩ := and_e hg0
  obtain ⟨ha1, hg2⟩ := and_e hg1
  have ha2 := hg2
  obtain ⟨w0, w1, w2, rfl⟩ : ∃ w0 w1 w2 : Value, args = #[w0, w1, w2] := by
    have hs : args.size = 3 := by simpa [Cond.value, given_1] using hcount
    obtain ⟨L⟩ := args
    match L, hs with
    | [w0, w1, w2], _ => exact ⟨w0, w1, w2, rfl⟩
  have hw := fun d (hd : d ∈ tables_1) => atoms_spec (ws := Jvm.Cond.code x code maxLocals ret :: tables_1) hat d (List.mem_cons_of_mem _ hd)
  have hfit : Fit s := fun {y c} hc i hi => by
    obtain ⟨ha, rfl⟩ := Array.getElem?_eq_some_iff.mp hc
    have q := List.all_eq_true.mp ((Array.all_eq_true_iff_forall_mem.mp hF) _ (Array.getElem_mem ha)) i (List.mem_range.mpr hi)
    simpa [Array.getElem?_eq_getElem hi] using q
  obtain ⟨i0, e0⟩ := is_v ha0
  obtain rfl : w0 = (.int i0) := Option.some.inj e0
  obtain ⟨i1, e1⟩ := is_v ha1
  obtain rfl : w1 = (.int i1) := Option.some.inj e1
  obtain ⟨i2, e2⟩ := is_v ha2
  obtain rfl : w2 = (.int i2) := Option.some.inj e2
  obtain ⟨h_x_PRODUCE, hn0⟩ := and_e hn
  obtain ⟨h_x_FETCH, hn1⟩ := and_e hn0
  obtain ⟨h_x_LIST_OFFSETS, hn2⟩ := and_e hn1
  obtain ⟨h_x_METADATA, hn3⟩ := and_e hn2
  obtain ⟨h_x_OFFSET_COMMIT, hn4⟩ := and_e hn3
  obtain ⟨h_x_OFFSET_FETCH, hn5⟩ := and_e hn4
  obtain ⟨h_x_FIND_COORDINATOR, hn6⟩ := and_e hn5
  obtain ⟨h_x_JOIN_GROUP, hn7⟩ := and_e hn6
  obtain ⟨h_x_HEARTBEAT, hn8⟩ := and_e hn7
  obtain ⟨h_x_LEAVE_GROUP, hn9⟩ := and_e hn8
  obtain ⟨h_x_SYNC_GROUP, hn10⟩ := and_e hn9
  obtain ⟨h_x_DESCRIBE_GROUPS, hn11⟩ := and_e hn10
  obtain ⟨h_x_LIST_GROUPS, hn12⟩ := and_e hn11
  obtain ⟨h_x_API_VERSIONS, hn13⟩ := and_e hn12
  obtain ⟨h_x_CREATE_TOPICS, hn14⟩ := and_e hn13
  obtain ⟨h_x_DELETE_TOPICS, hn15⟩ := and_e hn14
  obtain ⟨h_x_INIT_PRODUCER_ID, hn16⟩ := and_e hn15
  obtain ⟨h_minVersion_PRODUCE, hn17⟩ := and_e hn16
  obtain ⟨h_maxVersion_PRODUCE, hn18⟩ := and_e hn17
  obtain ⟨h_minVersion_FETCH, hn19⟩ := and_e hn18
  obtain ⟨h_minVersion_DESCRIBE_GROUPS, hn20⟩ := and_e hn19
  obtain ⟨h_minVersion_HEARTBEAT, hn21⟩ := and_e hn20
  obtain ⟨h_minVersion_LIST_GROUPS, hn22⟩ := and_e hn21
  obtain ⟨h_maxVersion_LIST_GROUPS, hn23⟩ := and_e hn22
  obtain ⟨h_maxVersion_HEARTBEAT, hn24⟩ := and_e hn23
  obtain ⟨h_minVersion_API_VERSIONS, hn25⟩ := and_e hn24
  obtain ⟨h_maxVersion_API_VERSIONS, hn26⟩ := and_e hn25
  obtain ⟨h_minVersion_METADATA, hn27⟩ := and_e hn26
  obtain ⟨h_minVersion_SYNC_GROUP, hn28⟩ := and_e hn27
  obtain ⟨h_maxVersion_SYNC_GROUP, hn29⟩ := and_e hn28
  obtain ⟨h_minVersion_INIT_PRODUCER_ID, hn30⟩ := and_e hn29
  obtain ⟨h_minVersion_JOIN_GROUP, hn31⟩ := and_e hn30
  obtain ⟨h_minVersion_LIST_OFFSETS, hn32⟩ := and_e hn31
  obtain ⟨h_maxVersion_LIST_OFFSETS, hn33⟩ := and_e hn32
  obtain ⟨h_maxVersion_FETCH, hn34⟩ := and_e hn33
  obtain ⟨h_minVersion_OFFSET_COMMIT, hn35⟩ := and_e hn34
  obtain ⟨h_minVersion_OFFSET_FETCH, hn36⟩ := and_e hn35
  obtain ⟨h_maxVersion_OFFSET_FETCH, hn37⟩ := and_e hn36
  obtain ⟨h_maxVersion_JOIN_GROUP, hn38⟩ := and_e hn37
  obtain ⟨h_minVersion_CREATE_TOPICS, hn39⟩ := and_e hn38
  obtain ⟨h_maxVersion_CREATE_TOPICS, hn40⟩ := and_e hn39
  obtain ⟨h_minVersion_FIND_COORDINATOR, hn41⟩ := and_e hn40
  obtain ⟨h_maxVersion_FIND_COORDINATOR, hn42⟩ := and_e hn41
  obtain ⟨h_minVersion_LEAVE_GROUP, hn43⟩ := and_e hn42
  obtain ⟨h_maxVersion_LEAVE_GROUP, hn44⟩ := and_e hn43
  obtain ⟨h_maxVersion_INIT_PRODUCER_ID, hn45⟩ := and_e hn44
  obtain ⟨h_minVersion_DELETE_TOPICS, hn46⟩ := and_e hn45
  obtain ⟨h_maxVersion_DELETE_TOPICS, hn47⟩ := and_e hn46
  obtain ⟨h_maxVersion_METADATA, hn48⟩ := and_e hn47
  obtain ⟨h_maxVersion_OFFSET_COMMIT, hn49⟩ := and_e hn48
  have h_maxVersion_DESCRIBE_GROUPS := hn49
  obtain ⟨x0, v0⟩ := exa_v h_x_PRODUCE
  have E0 := Exa.start v0 h_x_PRODUCE
  have S0 : Sta s s.heap "com/example/hesl/hesl/api/ServedApi" "PRODUCE" "Lcom/example/hesl/hesl/api/ServedApi;" (.ref x0) := Sta.start v0 (Or.inr ⟨hw _ (List.mem_of_getElem? (i := 3) rfl), hw _ (List.mem_of_getElem? (i := 4) rfl)⟩)
  have F0 := own_fld v0 h_minVersion_PRODUCE
  have G0 := own_fld v0 h_maxVersion_PRODUCE
  obtain ⟨x1, v1⟩ := exa_v h_x_FETCH
  have E1 := Exa.start v1 h_x_FETCH
  have S1 : Sta s s.heap "com/example/hesl/hesl/api/ServedApi" "FETCH" "Lcom/example/hesl/hesl/api/ServedApi;" (.ref x1) := Sta.start v1 (Or.inr ⟨hw _ (List.mem_of_getElem? (i := 3) rfl), hw _ (List.mem_of_getElem? (i := 7) rfl)⟩)
  have F1 := own_fld v1 h_minVersion_FETCH
  have G1 := own_fld v1 h_maxVersion_FETCH
  obtain ⟨x2, v2⟩ := exa_v h_x_LIST_OFFSETS
  have E2 := Exa.start v2 h_x_LIST_OFFSETS
  have S2 : Sta s s.heap "com/example/hesl/hesl/api/ServedApi" "LIST_OFFSETS" "Lcom/example/hesl/hesl/api/ServedApi;" (.ref x2) := Sta.start v2 (Or.inr ⟨hw _ (List.mem_of_getElem? (i := 3) rfl), hw _ (List.mem_of_getElem? (i := 9) rfl)⟩)
  have F2 := own_fld v2 h_minVersion_LIST_OFFSETS
  have G2 := own_fld v2 h_maxVersion_LIST_OFFSETS
  obtain ⟨x3, v3⟩ := exa_v h_x_METADATA
  have E3 := Exa.start v3 h_x_METADATA
  have S3 : Sta s s.heap "com/example/hesl/hesl/api/ServedApi" "METADATA" "Lcom/example/hesl/hesl/api/ServedApi;" (.ref x3) := Sta.start v3 (Or.inr ⟨hw _ (List.mem_of_getElem? (i := 3) rfl), hw _ (List.mem_of_getElem? (i := 11) rfl)⟩)
  have F3 := own_fld v3 h_minVersion_METADATA
  have G3 := own_fld v3 h_maxVersion_METADATA
  obtain ⟨x4, v4⟩ := exa_v h_x_OFFSET_COMMIT
  have E4 := Exa.start v4 h_x_OFFSET_COMMIT
  have S4 : Sta s s.heap "com/example/hesl/hesl/api/ServedApi" "OFFSET_COMMIT" "Lcom/example/hesl/hesl/api/ServedApi;" (.ref x4) := Sta.start v4 (Or.inr ⟨hw _ (List.mem_of_getElem? (i := 3) rfl), hw _ (List.mem_of_getElem? (i := 13) rfl)⟩)
  have F4 := own_fld v4 h_minVersion_OFFSET_COMMIT
  have G4 := own_fld v4 h_maxVersion_OFFSET_COMMIT
  obtain ⟨x5, v5⟩ := exa_v h_x_OFFSET_FETCH
  have E5 := Exa.start v5 h_x_OFFSET_FETCH
  have S5 : Sta s s.heap "com/example/hesl/hesl/api/ServedApi" "OFFSET_FETCH" "Lcom/example/hesl/hesl/api/ServedApi;" (.ref x5) := Sta.start v5 (Or.inr ⟨hw _ (List.mem_of_getElem? (i := 3) rfl), hw _ (List.mem_of_getElem? (i := 15) rfl)⟩)
  have F5 := own_fld v5 h_minVersion_OFFSET_FETCH
  have G5 := own_fld v5 h_maxVersion_OFFSET_FETCH
  obtain ⟨x6, v6⟩ := exa_v h_x_FIND_COORDINATOR
  have E6 := Exa.start v6 h_x_FIND_COORDINATOR
  have S6 : Sta s s.heap "com/example/hesl/hesl/api/ServedApi" "FIND_COORDINATOR" "Lcom/example/hesl/hesl/api/ServedApi;" (.ref x6) := Sta.start v6 (Or.inr ⟨hw _ (List.mem_of_getElem? (i := 3) rfl), hw _ (List.mem_of_getElem? (i := 17) rfl)⟩)
  have F6 := own_fld v6 h_minVersion_FIND_COORDINATOR
  have G6 := own_fld v6 h_maxVersion_FIND_COORDINATOR
  obtain ⟨x7, v7⟩ := exa_v h_x_JOIN_GROUP
  have E7 := Exa.start v7 h_x_JOIN_GROUP
  have S7 : Sta s s.heap "com/example/hesl/hesl/api/ServedApi" "JOIN_GROUP" "Lcom/example/hesl/hesl/api/ServedApi;" (.ref x7) := Sta.start v7 (Or.inr ⟨hw _ (List.mem_of_getElem? (i := 3) rfl), hw _ (List.mem_of_getElem? (i := 19) rfl)⟩)
  have F7 := own_fld v7 h_minVersion_JOIN_GROUP
  have G7 := own_fld v7 h_maxVersion_JOIN_GROUP
  obtain ⟨x8, v8⟩ := exa_v h_x_HEARTBEAT
  have E8 := Exa.start v8 h_x_HEARTBEAT
  have S8 : Sta s s.heap "com/example/hesl/hesl/api/ServedApi" "HEARTBEAT" "Lcom/example/hesl/hesl/api/ServedApi;" (.ref x8) := Sta.start v8 (Or.inr ⟨hw _ (List.mem_of_getElem? (i := 3) rfl), hw _ (List.mem_of_getElem? (i := 21) rfl)⟩)
  have F8 := own_fld v8 h_minVersion_HEARTBEAT
  have G8 := own_fld v8 h_maxVersion_HEARTBEAT
  obtain ⟨x9, v9⟩ := exa_v h_x_LEAVE_GROUP
  have E9 := Exa.start v9 h_x_LEAVE_GROUP
  have S9 : Sta s s.heap "com/example/hesl/hesl/api/ServedApi" "LEAVE_GROUP" "Lcom/example/hesl/hesl/api/ServedApi;" (.ref x9) := Sta.start v9 (Or.inr ⟨hw _ (List.mem_of_getElem? (i := 3) rfl), hw _ (List.mem_of_getElem? (i := 23) rfl)⟩)
  have F9 := own_fld v9 h_minVersion_LEAVE_GROUP
  have G9 := own_fld v9 h_maxVersion_LEAVE_GROUP
  obtain ⟨x10, v10⟩ := exa_v h_x_SYNC_GROUP
  have E10 := Exa.start v10 h_x_SYNC_GROUP
  have S10 : Sta s s.heap "com/example/hesl/hesl/api/ServedApi" "SYNC_GROUP" "Lcom/example/hesl/hesl/api/ServedApi;" (.ref x10) := Sta.start v10 (Or.inr ⟨hw _ (List.mem_of_getElem? (i := 3) rfl), hw _ (List.mem_of_getElem? (i := 25) rfl)⟩)
  have F10 := own_fld v10 h_minVersion_SYNC_GROUP
  have G10 := own_fld v10 h_maxVersion_SYNC_GROUP
  obtain ⟨x11, v11⟩ := exa_v h_x_DESCRIBE_GROUPS
  have E11 := Exa.start v11 h_x_DESCRIBE_GROUPS
  have S11 : Sta s s.heap "com/example/hesl/hesl/api/ServedApi" "DESCRIBE_GROUPS" "Lcom/example/hesl/hesl/api/ServedApi;" (.ref x11) := Sta.start v11 (Or.inr ⟨hw _ (List.mem_of_getElem? (i := 3) rfl), hw _ (List.mem_of_getElem? (i := 27) rfl)⟩)
  have F11 := own_fld v11 h_minVersion_DESCRIBE_GROUPS
  have G11 := own_fld v11 h_maxVersion_DESCRIBE_GROUPS
  obtain ⟨x12, v12⟩ := exa_v h_x_LIST_GROUPS
  have E12 := Exa.start v12 h_x_LIST_GROUPS
  have S12 : Sta s s.heap "com/example/hesl/hesl/api/ServedApi" "LIST_GROUPS" "Lcom/example/hesl/hesl/api/ServedApi;" (.ref x12) := Sta.start v12 (Or.inr ⟨hw _ (List.mem_of_getElem? (i := 3) rfl), hw _ (List.mem_of_getElem? (i := 29) rfl)⟩)
  have F12 := own_fld v12 h_minVersion_LIST_GROUPS
  have G12 := own_fld v12 h_maxVersion_LIST_GROUPS
  obtain ⟨x13, v13⟩ := exa_v h_x_API_VERSIONS
  have E13 := Exa.start v13 h_x_API_VERSIONS
  have S13 : Sta s s.heap "com/example/hesl/hesl/api/ServedApi" "API_VERSIONS" "Lcom/example/hesl/hesl/api/ServedApi;" (.ref x13) := Sta.start v13 (Or.inr ⟨hw _ (List.mem_of_getElem? (i := 3) rfl), hw _ (List.mem_of_getElem? (i := 31) rfl)⟩)
  have F13 := own_fld v13 h_minVersion_API_VERSIONS
  have G13 := own_fld v13 h_maxVersion_API_VERSIONS
  obtain ⟨x14, v14⟩ := exa_v h_x_CREATE_TOPICS
  have E14 := Exa.start v14 h_x_CREATE_TOPICS
  have S14 : Sta s s.heap "com/example/hesl/hesl/api/ServedApi" "CREATE_TOPICS" "Lcom/example/hesl/hesl/api/ServedApi;" (.ref x14) := Sta.start v14 (Or.inr ⟨hw _ (List.mem_of_getElem? (i := 3) rfl), hw _ (List.mem_of_getElem? (i := 33) rfl)⟩)
  have F14 := own_fld v14 h_minVersion_CREATE_TOPICS
  have G14 := own_fld v14 h_maxVersion_CREATE_TOPICS
  obtain ⟨x15, v15⟩ := exa_v h_x_DELETE_TOPICS
  have E15 := Exa.start v15 h_x_DELETE_TOPICS
  have S15 : Sta s s.heap "com/example/hesl/hesl/api/ServedApi" "DELETE_TOPICS" "Lcom/example/hesl/hesl/api/ServedApi;" (.ref x15) := Sta.start v15 (Or.inr ⟨hw _ (List.mem_of_getElem? (i := 3) rfl), hw _ (List.mem_of_getElem? (i := 35) rfl)⟩)
  have F15 := own_fld v15 h_minVersion_DELETE_TOPICS
  have G15 := own_fld v15 h_maxVersion_DELETE_TOPICS
  obtain ⟨x16, v16⟩ := exa_v h_x_INIT_PRODUCER_ID
  have E16 := Exa.start v16 h_x_INIT_PRODUCER_ID
  have S16 : Sta s s.heap "com/example/hesl/hesl/api/ServedApi" "INIT_PRODUCER_ID" "Lcom/example/hesl/hesl/api/ServedApi;" (.ref x16) := Sta.start v16 (Or.inr ⟨hw _ (List.mem_of_getElem? (i := 3) rfl), hw _ (List.mem_of_getElem? (i := 37) rfl)⟩)
  have F16 := own_fld v16 h_minVersion_INIT_PRODUCER_ID
  have G16 := own_fld v16 h_maxVersion_INIT_PRODUCER_ID
  have B : own_S s s.heap s.heap.size (own_sel x0 x1 x2 x3 x4 x5 x6 x7 x8 x9 x10 x11 x12 x13 x14 x15 x16) := by
    intro i hi
    match i, hi with
    | 0, _ => exact ⟨E0.lt, S0, E0, F0, G0⟩
    | 1, _ => exact ⟨E1.lt, S1, E1, F1, G1⟩
    | 2, _ => exact ⟨E2.lt, S2, E2, F2, G2⟩
    | 3, _ => exact ⟨E3.lt, S3, E3, F3, G3⟩
    | 4, _ => exact ⟨E4.lt, S4, E4, F4, G4⟩
    | 5, _ => exact ⟨E5.lt, S5, E5, F5, G5⟩
    | 6, _ => exact ⟨E6.lt, S6, E6, F6, G6⟩
    | 7, _ => exact ⟨E7.lt, S7, E7, F7, G7⟩
    | 8, _ => exact ⟨E8.lt, S8, E8, F8, G8⟩
    | 9, _ => exact ⟨E9.lt, S9, E9, F9, G9⟩
    | 10, _ => exact ⟨E10.lt, S10, E10, F10, G10⟩
    | 11, _ => exact ⟨E11.lt, S11, E11, F11, G11⟩
    | 12, _ => exact ⟨E12.lt, S12, E12, F12, G12⟩
    | 13, _ => exact ⟨E13.lt, S13, E13, F13, G13⟩
    | 14, _ => exact ⟨E14.lt, S14, E14, F14, G14⟩
    | 15, _ => exact ⟨E15.lt, S15, E15, F15, G15⟩
    | 16, _ => exact ⟨E16.lt, S16, E16, F16, G16⟩
    | n + 17, hi => exact absurd hi (by omega)
  obtain ⟨n, o, h1, h2, h3, _, L, rfl, ⟨N, rfl⟩, hq⟩ := C_law (Z := s) (ω := (l, s.heap.size, _)) hw (Nat.le_refl _) i0 i1 i2 (own_sel x0 x1 x2 x3 x4 x5 x6 x7 x8 x9 x10 x11 x12 x13 x14 x15 x16) B p e ha hc hk s m _ below hf ((Spec.applies_iff_loose hf).mp happ).1 ⟨rfl, State.Warmed39.refl s, rfl⟩ trivial
  refine ⟨n, _, h1, h2, h3, hpost _ _ _ _ _ _ ⟨Cond.after_iff.mpr rfl, Cond.after_iff.mpr (eq_i res_at (Term.int_eval (1)) rfl), trivial⟩ ⟨hq.1, hq.2.1, (hq.2.2.sift fun y hy => Or.inr (N y hy)).mono (by decide) (by decide)⟩⟩
theorem main_1_1 : Claimed_1_1 := comes_1 fun _ _ _ _ _ _ h hF => ⟨h.1, hF⟩
theorem main_1_2 : Claimed_1_2 := comes_1 fun _ _ _ _ _ _ h hF => ⟨h.2.1, hF⟩
end Jvm.Pilot.@@N@@
namespace Jvm.Pilot.@@N@@
open Jvm Jvm.ClassFile Sem Op Lib Jvm.Free Jvm.Stand Jvm.Pilot.@@N@@.Jvm.D
/-! MADE BY PROGRAM (witnessworld.py) out of the Statement's table words and the real class files: 13 classes; the members and pool entries that the words name. The judged class is class 1, her method 1. -/
namespace start1
open Jvm.ClassFile
def u (s : String) : CpInfo := .utf8 (stringToUtf16 s)
/-- a pool by its gaps: so many unusable entries, then the entry; so many at the end -/
def gap : Nat → List CpInfo → List CpInfo
  | 0, r => r
  | n + 1, r => .unusable :: gap n r
def poolList (es : List (Nat × CpInfo)) (last : Nat) : List CpInfo := es.foldr (fun e r => gap e.1 (e.2 :: r)) (gap last [])
def pool (es : List (Nat × CpInfo)) (last : Nat) : Array CpInfo := ⟨poolList es last⟩
def fileOf (pool : Array CpInfo) (this : Nat) (attrs : Array Attribute := #[]) (ms : Array MethodInfo := #[]) (fl : Nat := 33) (sup : Nat := 0) (ifs : Array Nat := #[]) (fds : Array FieldInfo := #[]) : ClassFile where
  minorVersion := 0
  majorVersion := 65
  constantPool := pool
  accessFlags := fl
  thisClass := this
  superClass := sup
  interfaces := ifs
  fields := fds
  methods := ms
  attributes := attrs
def plain (name : String) (sup : Option ClassId) : Class where
  name := name
  kind := .ordinary
  loader := none
  accessFlags := 33
  super := sup
  interfaces := #[]
  cf := none
  fields := #[]
  methods := #[]
  instanceTypes := #[]
  staticTypes := #[]
  resolved := #[]
  callSites := []
  init := .initialized
  statics := none
  mirror := none

def pool0 : Array CpInfo := pool [(5, u "<init>"), (0, u "()V"), (1, .class_ 10), (1, u "java/lang/Object")] 113

def k0m0 : Method := { name := "<init>", desc := "()V", sig := { parameters := [], returnType := none }, accessFlags := 1, code := none }
/-- java/lang/Object -/
def k0 : Class := { plain "java/lang/Object" none with
  accessFlags := 33
  interfaces := #[]
  cf := some (fileOf pool0 8 #[] #[{ accessFlags := 1, nameIndex := 5, descriptorIndex := 6, attributes := #[] }] 33 0 #[] #[])
  fields := #[]
  methods := #[k0m0]
  instanceTypes := #[]
  staticTypes := #[]
  resolved := Array.replicate 124 none
  statics := none }

def pool1 : Array CpInfo := pool [(2, .class_ 4), (1, u "java/lang/Object"), (0, u "<init>"), (0, u "()V"), (0, .class_ 8), (0, u "com/example/hesl/hesl/api/ServedApi"), (0, .fieldref 7 10), (0, .nameAndType 11 12), (0, u "PRODUCE"), (0, u "Lcom/example/hesl/hesl/api/ServedApi;"), (0, .fieldref 7 14), (0, .nameAndType 15 12), (0, u "FETCH"), (0, .fieldref 7 17), (0, .nameAndType 18 12), (0, u "LIST_OFFSETS"), (0, .fieldref 7 20), (0, .nameAndType 21 12), (0, u "METADATA"), (0, .fieldref 7 23), (0, .nameAndType 24 12), (0, u "OFFSET_COMMIT"), (0, .fieldref 7 26), (0, .nameAndType 27 12), (0, u "OFFSET_FETCH"), (0, .fieldref 7 29), (0, .nameAndType 30 12), (0, u "FIND_COORDINATOR"), (0, .fieldref 7 32), (0, .nameAndType 33 12), (0, u "JOIN_GROUP"), (0, .fieldref 7 35), (0, .nameAndType 36 12), (0, u "HEARTBEAT"), (0, .fieldref 7 38), (0, .nameAndType 39 12), (0, u "LEAVE_GROUP"), (0, .fieldref 7 41), (0, .nameAndType 42 12), (0, u "SYNC_GROUP"), (0, .fieldref 7 44), (0, .nameAndType 45 12), (0, u "DESCRIBE_GROUPS"), (0, .fieldref 7 47), (0, .nameAndType 48 12), (0, u "LIST_GROUPS"), (0, .fieldref 7 50), (0, .nameAndType 51 12), (0, u "API_VERSIONS"), (0, .fieldref 7 53), (0, .nameAndType 54 12), (0, u "CREATE_TOPICS"), (0, .fieldref 7 56), (0, .nameAndType 57 12), (0, u "DELETE_TOPICS"), (0, .fieldref 7 59), (0, .nameAndType 60 12), (0, u "INIT_PRODUCER_ID"), (0, .integer 2147483647), (0, .methodref 7 63), (0, .nameAndType 64 65), (0, u "serves"), (0, u "(S)Z"), (0, .class_ 67), (0, u "com/example/hesl/hesl/api/ServedApiServesPinLaw"), (2, u "law"), (0, u "(III)Z")] 7

def k1m0 : Method := { name := "<init>", desc := "()V", sig := { parameters := [], returnType := none }, accessFlags := 1, code := none }
def k1c1 : Code := { maxStack := 4, maxLocals := 10, code := code, exceptionTable := #[], attributes := #[] }
def k1m1 : Method := { name := "law", desc := "(III)Z", sig := { parameters := [.int, .int, .int], returnType := some .boolean }, accessFlags := 9, code := some k1c1 }
/-- com/example/hesl/hesl/api/ServedApiServesPinLaw -/
def k1 : Class := { plain "com/example/hesl/hesl/api/ServedApiServesPinLaw" (some 0) with
  accessFlags := 49
  interfaces := #[]
  cf := some (fileOf pool1 66 #[] #[{ accessFlags := 1, nameIndex := 5, descriptorIndex := 6, attributes := #[] }, { accessFlags := 9, nameIndex := 70, descriptorIndex := 71, attributes := #[] }] 49 2 #[] #[])
  fields := #[]
  methods := #[k1m0, k1m1]
  instanceTypes := #[]
  staticTypes := #[]
  resolved := Array.replicate 79 none
  statics := none }

def pool2 : Array CpInfo := pool [(1, .class_ 2), (0, u "java/lang/constant/Constable"), (0, .class_ 4), (0, u "java/lang/Object")] 6

/-- java/lang/constant/Constable -/
def k2 : Class := { plain "java/lang/constant/Constable" (some 0) with
  accessFlags := 1537
  interfaces := #[]
  cf := some (fileOf pool2 1 #[] #[] 1537 3 #[] #[])
  fields := #[]
  methods := #[]
  instanceTypes := #[]
  staticTypes := #[]
  resolved := Array.replicate 11 none
  statics := none }

def pool3 : Array CpInfo := pool [(1, .class_ 2), (0, u "java/lang/Comparable"), (0, .class_ 4), (0, u "java/lang/Object")] 7

/-- java/lang/Comparable -/
def k3 : Class := { plain "java/lang/Comparable" (some 0) with
  accessFlags := 1537
  interfaces := #[]
  cf := some (fileOf pool3 1 #[] #[] 1537 3 #[] #[])
  fields := #[]
  methods := #[]
  instanceTypes := #[]
  staticTypes := #[]
  resolved := Array.replicate 12 none
  statics := none }

def pool4 : Array CpInfo := pool [(1, .class_ 2), (0, u "java/io/Serializable"), (0, .class_ 4), (0, u "java/lang/Object")] 2

/-- java/io/Serializable -/
def k4 : Class := { plain "java/io/Serializable" (some 0) with
  accessFlags := 1537
  interfaces := #[]
  cf := some (fileOf pool4 1 #[] #[] 1537 3 #[] #[])
  fields := #[]
  methods := #[]
  instanceTypes := #[]
  staticTypes := #[]
  resolved := Array.replicate 7 none
  statics := none }

def pool5 : Array CpInfo := pool [(2, .class_ 4), (1, u "java/lang/Enum"), (0, u "name"), (0, u "Ljava/lang/String;"), (2, u "ordinal"), (0, u "I"), (1, .class_ 14), (1, u "java/lang/Object"), (4, u "hash"), (86, .class_ 108), (1, u "java/lang/Enum$EnumDesc"), (2, .class_ 112), (0, u "java/lang/constant/Constable"), (0, .class_ 114), (0, u "java/lang/Comparable"), (0, .class_ 116), (0, u "java/io/Serializable")] 87

/-- java/lang/Enum -/
def k5 : Class := { plain "java/lang/Enum" (some 0) with
  accessFlags := 1057
  interfaces := #[2, 3, 4]
  cf := some (fileOf pool5 2 #[.nestMembers #[106]] #[] 1057 12 #[111, 113, 115] #[{ accessFlags := 18, nameIndex := 5, descriptorIndex := 6, attributes := #[] }, { accessFlags := 18, nameIndex := 9, descriptorIndex := 10, attributes := #[] }, { accessFlags := 2, nameIndex := 19, descriptorIndex := 10, attributes := #[] }])
  fields := #[{ name := "name", type := (.object "java/lang/String"), accessFlags := 18, slot := 0, constantValue := 0 }, { name := "ordinal", type := .int, accessFlags := 18, slot := 1, constantValue := 0 }, { name := "hash", type := .int, accessFlags := 2, slot := 2, constantValue := 0 }]
  methods := #[]
  instanceTypes := #[(.object "java/lang/String"), .int, .int]
  staticTypes := #[]
  resolved := Array.replicate 204 none
  statics := none }

def pool6 : Array CpInfo := pool [(1, .class_ 2), (0, u "com/example/hesl/hesl/api/ServedApi"), (2, u "PRODUCE"), (0, u "Lcom/example/hesl/hesl/api/ServedApi;"), (2, u "FETCH"), (2, u "LIST_OFFSETS"), (2, u "METADATA"), (2, u "OFFSET_COMMIT"), (2, u "OFFSET_FETCH"), (2, u "FIND_COORDINATOR"), (2, u "JOIN_GROUP"), (2, u "HEARTBEAT"), (2, u "LEAVE_GROUP"), (2, u "SYNC_GROUP"), (2, u "DESCRIBE_GROUPS"), (2, u "LIST_GROUPS"), (2, u "API_VERSIONS"), (2, u "CREATE_TOPICS"), (2, u "DELETE_TOPICS"), (2, u "INIT_PRODUCER_ID"), (2, u "$VALUES"), (0, u "[Lcom/example/hesl/hesl/api/ServedApi;"), (6, .class_ 67), (1, u "java/lang/Enum"), (8, u "key"), (0, u "S"), (0, .fieldref 1 79), (0, .nameAndType 80 77), (0, u "minVersion"), (0, .fieldref 1 82), (0, .nameAndType 83 77), (0, u "maxVersion"), (2, u "firstFlexibleVersion"), (17, u "(S)Z"), (34, u "serves")] 6

def k6c0 : Code := { maxStack := 2, maxLocals := 2, code := prog_3_method_8_code, exceptionTable := #[], attributes := #[] }
def k6m0 : Method := { name := "serves", desc := "(S)Z", sig := { parameters := [.short], returnType := some .boolean }, accessFlags := 0, code := some k6c0 }
/-- com/example/hesl/hesl/api/ServedApi -/
def k6 : Class := { plain "com/example/hesl/hesl/api/ServedApi" (some 5) with
  accessFlags := 16432
  interfaces := #[]
  cf := some (fileOf pool6 1 #[] #[{ accessFlags := 0, nameIndex := 139, descriptorIndex := 104, attributes := #[] }] 16432 65 #[] #[{ accessFlags := 16409, nameIndex := 5, descriptorIndex := 6, attributes := #[] }, { accessFlags := 16409, nameIndex := 9, descriptorIndex := 6, attributes := #[] }, { accessFlags := 16409, nameIndex := 12, descriptorIndex := 6, attributes := #[] }, { accessFlags := 16409, nameIndex := 15, descriptorIndex := 6, attributes := #[] }, { accessFlags := 16409, nameIndex := 18, descriptorIndex := 6, attributes := #[] }, { accessFlags := 16409, nameIndex := 21, descriptorIndex := 6, attributes := #[] }, { accessFlags := 16409, nameIndex := 24, descriptorIndex := 6, attributes := #[] }, { accessFlags := 16409, nameIndex := 27, descriptorIndex := 6, attributes := #[] }, { accessFlags := 16409, nameIndex := 30, descriptorIndex := 6, attributes := #[] }, { accessFlags := 16409, nameIndex := 33, descriptorIndex := 6, attributes := #[] }, { accessFlags := 16409, nameIndex := 36, descriptorIndex := 6, attributes := #[] }, { accessFlags := 16409, nameIndex := 39, descriptorIndex := 6, attributes := #[] }, { accessFlags := 16409, nameIndex := 42, descriptorIndex := 6, attributes := #[] }, { accessFlags := 16409, nameIndex := 45, descriptorIndex := 6, attributes := #[] }, { accessFlags := 16409, nameIndex := 48, descriptorIndex := 6, attributes := #[] }, { accessFlags := 16409, nameIndex := 51, descriptorIndex := 6, attributes := #[] }, { accessFlags := 16409, nameIndex := 54, descriptorIndex := 6, attributes := #[] }, { accessFlags := 18, nameIndex := 76, descriptorIndex := 77, attributes := #[] }, { accessFlags := 18, nameIndex := 80, descriptorIndex := 77, attributes := #[] }, { accessFlags := 18, nameIndex := 83, descriptorIndex := 77, attributes := #[] }, { accessFlags := 18, nameIndex := 86, descriptorIndex := 77, attributes := #[] }, { accessFlags := 4122, nameIndex := 57, descriptorIndex := 58, attributes := #[] }])
  fields := #[{ name := "PRODUCE", type := (.object "com/example/hesl/hesl/api/ServedApi"), accessFlags := 16409, slot := 0, constantValue := 0 }, { name := "FETCH", type := (.object "com/example/hesl/hesl/api/ServedApi"), accessFlags := 16409, slot := 1, constantValue := 0 }, { name := "LIST_OFFSETS", type := (.object "com/example/hesl/hesl/api/ServedApi"), accessFlags := 16409, slot := 2, constantValue := 0 }, { name := "METADATA", type := (.object "com/example/hesl/hesl/api/ServedApi"), accessFlags := 16409, slot := 3, constantValue := 0 }, { name := "OFFSET_COMMIT", type := (.object "com/example/hesl/hesl/api/ServedApi"), accessFlags := 16409, slot := 4, constantValue := 0 }, { name := "OFFSET_FETCH", type := (.object "com/example/hesl/hesl/api/ServedApi"), accessFlags := 16409, slot := 5, constantValue := 0 }, { name := "FIND_COORDINATOR", type := (.object "com/example/hesl/hesl/api/ServedApi"), accessFlags := 16409, slot := 6, constantValue := 0 }, { name := "JOIN_GROUP", type := (.object "com/example/hesl/hesl/api/ServedApi"), accessFlags := 16409, slot := 7, constantValue := 0 }, { name := "HEARTBEAT", type := (.object "com/example/hesl/hesl/api/ServedApi"), accessFlags := 16409, slot := 8, constantValue := 0 }, { name := "LEAVE_GROUP", type := (.object "com/example/hesl/hesl/api/ServedApi"), accessFlags := 16409, slot := 9, constantValue := 0 }, { name := "SYNC_GROUP", type := (.object "com/example/hesl/hesl/api/ServedApi"), accessFlags := 16409, slot := 10, constantValue := 0 }, { name := "DESCRIBE_GROUPS", type := (.object "com/example/hesl/hesl/api/ServedApi"), accessFlags := 16409, slot := 11, constantValue := 0 }, { name := "LIST_GROUPS", type := (.object "com/example/hesl/hesl/api/ServedApi"), accessFlags := 16409, slot := 12, constantValue := 0 }, { name := "API_VERSIONS", type := (.object "com/example/hesl/hesl/api/ServedApi"), accessFlags := 16409, slot := 13, constantValue := 0 }, { name := "CREATE_TOPICS", type := (.object "com/example/hesl/hesl/api/ServedApi"), accessFlags := 16409, slot := 14, constantValue := 0 }, { name := "DELETE_TOPICS", type := (.object "com/example/hesl/hesl/api/ServedApi"), accessFlags := 16409, slot := 15, constantValue := 0 }, { name := "INIT_PRODUCER_ID", type := (.object "com/example/hesl/hesl/api/ServedApi"), accessFlags := 16409, slot := 16, constantValue := 0 }, { name := "key", type := .short, accessFlags := 18, slot := 3, constantValue := 0 }, { name := "minVersion", type := .short, accessFlags := 18, slot := 4, constantValue := 0 }, { name := "maxVersion", type := .short, accessFlags := 18, slot := 5, constantValue := 0 }, { name := "firstFlexibleVersion", type := .short, accessFlags := 18, slot := 6, constantValue := 0 }, { name := "$VALUES", type := (.array (.object "com/example/hesl/hesl/api/ServedApi")), accessFlags := 4122, slot := 17, constantValue := 0 }]
  methods := #[k6m0]
  instanceTypes := #[(.object "java/lang/String"), .int, .int, .short, .short, .short, .short]
  staticTypes := #[(.object "com/example/hesl/hesl/api/ServedApi"), (.object "com/example/hesl/hesl/api/ServedApi"), (.object "com/example/hesl/hesl/api/ServedApi"), (.object "com/example/hesl/hesl/api/ServedApi"), (.object "com/example/hesl/hesl/api/ServedApi"), (.object "com/example/hesl/hesl/api/ServedApi"), (.object "com/example/hesl/hesl/api/ServedApi"), (.object "com/example/hesl/hesl/api/ServedApi"), (.object "com/example/hesl/hesl/api/ServedApi"), (.object "com/example/hesl/hesl/api/ServedApi"), (.object "com/example/hesl/hesl/api/ServedApi"), (.object "com/example/hesl/hesl/api/ServedApi"), (.object "com/example/hesl/hesl/api/ServedApi"), (.object "com/example/hesl/hesl/api/ServedApi"), (.object "com/example/hesl/hesl/api/ServedApi"), (.object "com/example/hesl/hesl/api/ServedApi"), (.object "com/example/hesl/hesl/api/ServedApi"), (.array (.object "com/example/hesl/hesl/api/ServedApi"))]
  resolved := Array.replicate 146 none
  statics := some 0 }

def pool7 : Array CpInfo := pool [(1, u "java/lang/Cloneable"), (0, .class_ 1), (0, u "java/lang/Object"), (0, .class_ 3)] 3

/-- java/lang/Cloneable -/
def k7 : Class := { plain "java/lang/Cloneable" (some 0) with
  accessFlags := 1537
  interfaces := #[]
  cf := some (fileOf pool7 2 #[] #[] 1537 4 #[] #[])
  fields := #[]
  methods := #[]
  instanceTypes := #[]
  staticTypes := #[]
  resolved := Array.replicate 8 none
  statics := none }

/-- the primitive byte -/
def k8 : Class := { plain "byte" none with kind := .primitive 'B', accessFlags := 0x411 }
/-- [B -/
def k9 : Class := { plain "[B" (some 0) with kind := .array 8 .byte, interfaces := #[7, 4], accessFlags := 1041 }

/-- the primitive int -/
def k10 : Class := { plain "int" none with kind := .primitive 'I', accessFlags := 0x411 }
/-- [I -/
def k11 : Class := { plain "[I" (some 0) with kind := .array 10 .int, interfaces := #[7, 4], accessFlags := 1041 }

/-- [Lcom/example/hesl/hesl/api/ServedApi; -/
def k12 : Class := { plain "[Lcom/example/hesl/hesl/api/ServedApi;" (some 0) with kind := .array 6 (.object "com/example/hesl/hesl/api/ServedApi"), interfaces := #[7, 4], accessFlags := 1041 }

def heap : Heap := #[{ cls := 6, slots := #[.ref 1, .ref 2, .ref 3, .ref 4, .ref 5, .ref 6, .ref 7, .ref 8, .ref 9, .ref 10, .ref 11, .ref 12, .ref 13, .ref 14, .ref 15, .ref 16, .ref 17, .null], vm := .statics 6 },
  { cls := 6, slots := #[.null, .int 0, .int 0, .int 0, .int 0, .int 7, .int 0], vm := .none },
  { cls := 6, slots := #[.null, .int 1, .int 0, .int 0, .int 4, .int 10, .int 0], vm := .none },
  { cls := 6, slots := #[.null, .int 2, .int 0, .int 0, .int 1, .int 2, .int 0], vm := .none },
  { cls := 6, slots := #[.null, .int 3, .int 0, .int 0, .int 0, .int 6, .int 0], vm := .none },
  { cls := 6, slots := #[.null, .int 4, .int 0, .int 0, .int 1, .int 2, .int 0], vm := .none },
  { cls := 6, slots := #[.null, .int 5, .int 0, .int 0, .int 1, .int 1, .int 0], vm := .none },
  { cls := 6, slots := #[.null, .int 6, .int 0, .int 0, .int 0, .int 0, .int 0], vm := .none },
  { cls := 6, slots := #[.null, .int 7, .int 0, .int 0, .int 0, .int 2, .int 0], vm := .none },
  { cls := 6, slots := #[.null, .int 8, .int 0, .int 0, .int 0, .int 1, .int 0], vm := .none },
  { cls := 6, slots := #[.null, .int 9, .int 0, .int 0, .int 0, .int 1, .int 0], vm := .none },
  { cls := 6, slots := #[.null, .int 10, .int 0, .int 0, .int 0, .int 1, .int 0], vm := .none },
  { cls := 6, slots := #[.null, .int 11, .int 0, .int 0, .int 3, .int 3, .int 0], vm := .none },
  { cls := 6, slots := #[.null, .int 12, .int 0, .int 0, .int 1, .int 1, .int 0], vm := .none },
  { cls := 6, slots := #[.null, .int 13, .int 0, .int 0, .int 0, .int 3, .int 0], vm := .none },
  { cls := 6, slots := #[.null, .int 14, .int 0, .int 0, .int 2, .int 3, .int 0], vm := .none },
  { cls := 6, slots := #[.null, .int 15, .int 0, .int 0, .int 1, .int 3, .int 0], vm := .none },
  { cls := 6, slots := #[.null, .int 16, .int 0, .int 0, .int 0, .int 1, .int 0], vm := .none }]
def classes : Array Class := #[k0, k1, k2, k3, k4, k5, k6, k7, k8, k9, k10, k11, k12]
def interned : List (Array UInt16 × Addr) := []
def slotsUsed : Nat := 137
def theMethod : MethodId := ⟨1, 1⟩
def args0 : Array Value := #[.int 3, .int 1, .int 0]
def aboutOver (below : List Frame) : State where
  vm := { classes := classes, interned := interned.toArray }
  heap := heap
  slotsUsed := slotsUsed
  threads := #[{ frames := .invoking theMethod args0 :: below }]
def below0 : List Frame := [.native { method := ⟨0, 0⟩, args := #[] }]
def about1 : State := aboutOver below0
def p0 : Program := .bare "" "" ""
def e0 : Env := launch0.env 0 0 0
theorem w_frames : about1.frames = Frame.invoking theMethod args0 :: below0 := rfl
set_option maxRecDepth 65536 in
theorem w_args : argsFit about1.vm theMethod args0 = true := by decide +kernel
set_option maxRecDepth 65536 in
theorem w_heap : heapFits about1 = true := by decide +kernel
set_option maxRecDepth 65536 in
theorem w_runnable : about1.curStatus? = some .runnable := by decide +kernel
set_option maxRecDepth 65536 in
theorem w_alone : about1.alone = true := by decide +kernel
set_option maxRecDepth 65536 in
theorem w_named : about1.methodNamed? x = some theMethod := by decide +kernel
set_option maxRecDepth 65536 in
theorem w_hears : about1.hears theMethod below0 = true := by decide +kernel
set_option maxRecDepth 65536 in
theorem w_ripe : about1.ripe theMethod args0 below0 = true := by decide +kernel
theorem w_running : about1.status = .running := rfl
set_option maxRecDepth 65536 in
theorem w_room : about1.hasRoom e0.platform room_1 = true :=
  launch0.hasRoom_least _ room_1 (by decide +kernel) (by decide +kernel) (by decide +kernel) (by decide +kernel) (by decide +kernel) (by decide +kernel)
theorem allAtoms_all (ts : List Jvm.Cond) (a : Array Jvm.Value) (st : Jvm.State) : (allAtoms ts).before a st = ts.all (fun c => c.before a st) := by
  induction ts with
  | nil => rfl
  | cons c t ih =>
    show (Jvm.Cond.and c (allAtoms t)).before a st = _
    rw [Jvm.Cond.before_and, ih, List.all_cons]
def words1 : List Jvm.Cond := Jvm.Cond.code x code maxLocals ret :: tables_1
/-- a 'code' word, met by the world's own term for the bytes: nothing is compared byte by byte -/
theorem code_word {y : MethodName} {bytes : ByteArray} {mx : Nat} {rt : Option FieldType} {a : Array Value} {s : State} {m : MethodId} {meth : Method} {c : Code} (h1 : s.methodNamed? y = some m) (h2 : s.vm.method? m = some meth) (h3 : meth.code = some c) (h4 : c.code = bytes)
    (h5 : (c.maxLocals == mx && c.exceptionTable.isEmpty && decide (c.maxStack ≤ mostOperands) && decide (meth.sig.returnType = rt) && !meth.locks && decide (parseMethodDescriptor y.desc = some meth.sig)) = true) : (Jvm.Cond.code y bytes mx rt).before a s = true := by
  simp only [Bool.and_eq_true, beq_iff_eq, Bool.not_eq_true', decide_eq_true_eq] at h5
  obtain ⟨⟨⟨⟨⟨g1, g2⟩, g3⟩, g4⟩, g5⟩, g6⟩ := h5
  simp [Cond.before, Cond.holds, Cond.value, h1, h2, h3, h4, g1, g2, g3, g4, g5, g6]
def isCode : Jvm.Cond → Bool
  | .code _ _ _ _ => true
  | _ => false
theorem all_split {L : List Jvm.Cond} {P : Jvm.Cond → Bool} (h1 : L.all (fun c => isCode c || P c) = true) (h2 : ∀ c ∈ L.filter isCode, P c = true) : L.all P = true := by
  refine List.all_eq_true.mpr fun c hc => ?_
  have h := List.all_eq_true.mp h1 c hc
  rcases Bool.eq_false_or_eq_true (isCode c) with hi | hi
  · exact h2 c (List.mem_filter.mpr ⟨hc, hi⟩)
  · simpa [hi] using h
set_option maxRecDepth 65536 in
theorem w_c0 : (Jvm.Cond.code x code maxLocals ret).before args0 about1 = true := code_word (m := ⟨1, 1⟩) (meth := k1m1) (c := k1c1) (by decide +kernel) rfl rfl rfl (by decide +kernel)
set_option maxRecDepth 65536 in
theorem w_c1 : (Jvm.Cond.code ({ cls := "com/example/hesl/hesl/api/ServedApi", name := "serves", desc := "(S)Z" } : Jvm.MethodName) prog_3_method_8_code (2 : Nat) (Option.some Jvm.ClassFile.FieldType.boolean)).before args0 about1 = true := code_word (m := ⟨6, 0⟩) (meth := k6m0) (c := k6c0) (by decide +kernel) rfl rfl rfl (by decide +kernel)
def codes1 : List Jvm.Cond := [Jvm.Cond.code x code maxLocals ret, Jvm.Cond.code ({ cls := "com/example/hesl/hesl/api/ServedApi", name := "serves", desc := "(S)Z" } : Jvm.MethodName) prog_3_method_8_code (2 : Nat) (Option.some Jvm.ClassFile.FieldType.boolean)]
set_option maxRecDepth 65536 in
theorem codes_eq : words1.filter isCode = codes1 := rfl
theorem w_codes : ∀ c ∈ words1.filter isCode, c.before args0 about1 = true := by
  rw [codes_eq]
  intro c hc
  simp only [codes1, List.mem_cons, List.not_mem_nil, or_false] at hc
  rcases hc with rfl | rfl
  · exact w_c0
  · exact w_c1
set_option maxRecDepth 65536 in
theorem w_t1 : (words1.take 24).all (fun c => isCode c || c.before args0 about1) = true := by decide +kernel
set_option maxRecDepth 65536 in
theorem w_t2 : ((words1.drop 24).take 24).all (fun c => isCode c || c.before args0 about1) = true := by decide +kernel
set_option maxRecDepth 65536 in
theorem w_t3 : ((words1.drop 24).drop 24).all (fun c => isCode c || c.before args0 about1) = true := by decide +kernel
theorem w_tables : (allAtoms (Jvm.Cond.code x code maxLocals ret :: tables_1)).before args0 about1 = true := by
  rw [allAtoms_all]
  show words1.all (fun c => c.before args0 about1) = true
  refine all_split ?_ w_codes
  rw [← List.take_append_drop 24 words1, List.all_append, w_t1, ← List.take_append_drop 24 (words1.drop 24), List.all_append, w_t2, w_t3]
  rfl
set_option maxRecDepth 65536 in
theorem w_case : (Jvm.Cond.and given_1 narrow_1).before args0 about1 = true := by decide +kernel
theorem w_applies : (headSpec (Jvm.Cond.code x code maxLocals ret :: tables_1) room_1).applies x e0.platform about1 = true :=
  (Spec.applies_iff w_frames).mpr ⟨w_running, w_runnable, w_alone, w_named, w_hears, w_ripe, w_room, w_tables⟩
theorem atStart : AtStart classFile x code maxLocals ret World_1 tables_1 room_1 Calls_1 rest_1 Pre_1 launch0 p0 e0 about1 theMethod args0 below0 :=
  ⟨lists_1, trivial, launch0.admits_env _ _ _, launch0.least_env, fairChoices_fair.cas, fairChoices_fair.clock, w_frames, w_args, w_heap, w_applies, trivial, trivial, w_case⟩
end start1
theorem witness_1 : WitnessClaimed_1 := ⟨start1.p0, start1.e0, start1.about1, start1.theMethod, start1.args0, start1.below0, start1.atStart⟩
end Jvm.Pilot.@@N@@
