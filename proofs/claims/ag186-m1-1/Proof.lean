import JvmDerived
import JvmDerived.Pilot.@@N@@Statement
import JvmDerived.Pilot.@@N@@Code
set_option linter.unusedVariables false
set_option linter.unusedSimpArgs false
namespace Jvm.Pilot.@@N@@
open Jvm Jvm.ClassFile Sem Op Lib Jvm.Free Jvm.Stand Jvm.LawKit Jvm.RoadKit Bundle Jvm.Pilot.@@N@@.Jvm.D
/-- one invocation: program, environment, the state at the invocation, method, arguments, the frames below, the method's record, its code, the tables at its true start -/
abbrev OG := Program × Env × State × MethodId × Array Value × List Frame × Method × Code × Vm
/-- the whole run: the launch, the heap's size at the law's start, the law's arguments -/
abbrev OW := Launch × Nat × Array Value
/-- one method: its bytes, its number of locals, its class, its name, what it returns, the room it asks -/
abbrev OM := ByteArray × Nat × String × String × Option FieldType × Room
/-- where a walk stands -/
def oSt (Z : State) (ω : OW) (γ : OG) (κ : OM) (T : State) (h : Heap) (cs ss : Nat) : Prop :=
  γ.1.tables.exec = Jvm.exec ∧ γ.2.2.2.2.2.2.2.1.code = κ.1 ∧ γ.2.2.2.2.2.2.2.1.maxLocals = κ.2.1 ∧ γ.2.2.1.vm.findClass κ.2.2.1 = some γ.2.2.2.1.cls ∧ γ.2.2.2.2.2.2.1.name = κ.2.2.2.1 ∧
  γ.2.2.2.2.2.2.1.sig.returnType = κ.2.2.2.2.1 ∧ γ.2.2.2.2.2.2.1.locks = false ∧ Z.Warmed39 γ.2.2.1.vm ∧ (∀ d ∈ tables_1, d.before ω.2.2 Z = true) ∧ (ω.2.1 ≤ γ.2.2.1.heap.size ∧ ∃ k0, (γ.2.2.1.setVm γ.2.2.2.2.2.2.2.2).Since γ.2.2.1.vm k0 ∧ k0 ≤ h.size) ∧ T.heap = h ∧
  ∃ locs, Stand γ.1 ω.1 γ.2.1 κ.2.2.2.2.2 γ.2.2.1 γ.2.2.2.1 γ.2.2.2.2.1 γ.2.2.2.2.2.1 γ.2.2.2.2.2.2.1 γ.2.2.2.2.2.2.2.1 T locs cs ss ∧ Fr ω.2.1 locs
/-- from here the method returns, and Q holds of what it returns and of the heap it leaves -/
def oWP (ω : OW) (γ : OG) (κ : OM) (Q : Option Value → Heap → Prop) (T : State) (pc : Nat) (L : Array Slot) (S : List Value) : Prop :=
  ∃ s₂ o, Steps γ.1.tables γ.2.1 γ.2.2.2.2.2.1 (T.setTop (mkF γ.2.2.2.1 pc L S)) s₂ ∧ s₂.status = .running ∧ Ended s₂ γ.2.2.2.2.2.1 o ∧
    ∃ v Lc, o = .returned v ∧ (Fr ω.2.1 Lc ∧ Q v s₂.heap) ∧ ReturnedEndW (γ.2.2.1.setVm γ.2.2.2.2.2.2.2.2) o s₂ Lc κ.2.2.2.2.2.cells κ.2.2.2.2.2.slots
/-- a method's contract -/
def oC (Z : State) (ω : OW) (y : MethodName) (κ : OM) (ws : List Jvm.Cond) (as : Array Value) (h : Heap) (Q : Option Value → Heap → Prop) : Prop :=
  MetFree ω.1 y (head1 (Jvm.Cond.code y κ.1 κ.2.1 κ.2.2.2.2.1 :: ws) κ.2.2.2.2.2) (fun a U => a = as ∧ Z.Warmed39 U.vm ∧ U.heap = h) (fun _ _ _ _ _ => True)
    (fun _ U o U' => ∃ v Lc, o = .returned v ∧ (Fr ω.2.1 Lc ∧ Q v U'.heap) ∧ ReturnedEndW U o U' Lc κ.2.2.2.2.2.cells κ.2.2.2.2.2.slots)
theorem oC_of {Z : State} {ω : OW} {y : MethodName} {κ : OM} {ws : List Jvm.Cond} {as : Array Value} {h : Heap} {Q : Option Value → Heap → Prop} {L : Array Slot} (hw : ∀ d ∈ tables_1, d.before ω.2.2 Z = true) (hn0 : ω.2.1 ≤ h.size)
    (hpn : plainFor y = true) (hcl : κ.2.2.1 = y.cls) (hnm : κ.2.2.2.1 = y.name) (hef : ∀ m, entryFrame m as κ.2.1 = mkF m 0 L []) (body : ∀ γ T, oSt Z ω γ κ T h 0 0 → oWP ω γ κ Q T 0 L []) : oC Z ω y κ ws as h Q := by
  refine MetFree.of_bodySF hpn hisR ?_
  intro p e s m args below meth c s₁ Bd hml0 hP hK
  obtain ⟨rfl, hZ, hh⟩ := hP
  have hown : s.vm.findClass y.cls = some m.cls := findClass_of_methodNamed Bd.named
  have hnm' := (name_of_methodNamed Bd.named Bd.method).1
  have X0 := Stand.of_body Bd
  have e0 : s₁.heap = h := by rw [← hh, Bd.state]; rfl
  have hlk : meth.locks = false := BodyLoose.notSynchronized Bd
  obtain ⟨s₂, o, h1, h2, h3, h4⟩ := body (p, e, s, m, args, below, meth, c, s.vm) s₁ ⟨Bd.exec, Bd.bytes, hml0, by rw [hcl]; exact hown, by rw [hnm]; exact hnm', Bd.returns, hlk, hZ, hw, ⟨by rw [hh]; exact hn0, 0, (State.WarmedH.refl s).since 0, Nat.zero_le _⟩, e0, [], X0, Fr.nil _⟩
  exact ⟨s₂, o, castTop (hef m) h1, h2, h3, h4⟩
section Walk
variable {Z : State} {ω : OW} {γ : OG} {κ : OM} {Q : Option Value → Heap → Prop} {T : State} {h : Heap} {cs ss : Nat} {pc : Nat} {L : Array Slot} {S : List Value}
theorem oSt_n0 (X : oSt Z ω γ κ T h cs ss) : ω.2.1 ≤ h.size := by
  obtain ⟨-, -, -, -, -, -, -, -, -, hn0, hT, locs, Y, -⟩ := X
  have q : γ.2.2.1.heap.size ≤ T.heap.size := Y.same.2.1
  rw [hT] at q
  exact Nat.le_trans hn0.1 q
theorem oSt_w (X : oSt Z ω γ κ T h cs ss) : ∀ d ∈ tables_1, d.before ω.2.2 Z = true := by
  obtain ⟨-, -, -, -, -, -, -, -, hw, -⟩ := X; exact hw
theorem oSt_at (X : oSt Z ω γ κ T h cs ss) (i : Nat) {d : Jvm.Cond} (hi : tables_1[i]? = some d) : d.before ω.2.2 Z = true := oSt_w X _ (List.mem_of_getElem? hi)
theorem oSnE {A : Prop} {B : Nat → Prop} {h h' : Heap} (H : A ∧ ∃ k0, B k0 ∧ k0 ≤ h.size) (E : Ext h h') : A ∧ ∃ k0, B k0 ∧ k0 ≤ h'.size := by
  obtain ⟨a, k, b, c⟩ := H; exact ⟨a, k, b, Nat.le_trans c E.1⟩
theorem oSnW {A : Prop} {B : Nat → Prop} {h h' : Heap} {a : Addr} {sl : Nat} {v : Value} (H : A ∧ ∃ k0, B k0 ∧ k0 ≤ h.size) (W : Wr h h' a sl v) : A ∧ ∃ k0, B k0 ∧ k0 ≤ h'.size := by
  obtain ⟨x, k, b, c⟩ := H
  refine ⟨x, k, b, Nat.le_trans c ?_⟩
  obtain ⟨c0, -, -, -, rfl⟩ := W; simp
/-- behind a step that may have interned: the walk stands over the start with the tables at hand -/
theorem oReb (X : oSt Z ω γ κ T h cs ss) {T' : State} {locs' : List Loc} {cs' ss' : Nat} (Y' : Stand γ.1 ω.1 γ.2.1 κ.2.2.2.2.2 (γ.2.2.1.setVm T'.vm) γ.2.2.2.1 γ.2.2.2.2.1 γ.2.2.2.2.2.1 γ.2.2.2.2.2.2.1 γ.2.2.2.2.2.2.2.1 T' locs' cs' ss')
    (h2 : γ.2.2.1.Since T'.vm T'.heap.size) (hg : T.heap.size ≤ T'.heap.size) (N' : Fr ω.2.1 locs') :
    oSt Z ω (γ.1, γ.2.1, γ.2.2.1.setVm T'.vm, γ.2.2.2.1, γ.2.2.2.2.1, γ.2.2.2.2.2.1, γ.2.2.2.2.2.2.1, γ.2.2.2.2.2.2.2.1, γ.2.2.2.2.2.2.2.2) κ T' T'.heap cs' ss' := by
  obtain ⟨hx, hby, hml, hown, hnm, hr, hlk, hZ, hT1, ⟨hn0, k0, hS, hk⟩, hT, locs, Y, N⟩ := X
  subst hT
  exact ⟨hx, hby, hml, (h2.1.alike.findClass _ _).trans hown, hnm, hr, hlk, State.Warmed39.trans (t := γ.2.2.1) hZ h2.1, hT1, ⟨hn0, _, State.Since.trans (s := γ.2.2.1.setVm γ.2.2.2.2.2.2.2.2) (vm₁ := γ.2.2.1.vm) hS h2 (Nat.le_trans hk hg), Nat.le_refl _⟩, rfl, locs', Y', N'⟩
theorem ow_iload (X : oSt Z ω γ κ T h cs ss) (pc' : Nat) {k : Nat} {v : Int32} (hd : decode κ.1 pc = .ok (.iload k, 2)) (hp : pc + 2 = pc') (hl : L[k]? = some (.val (.int v)))
    (K : oWP ω γ κ Q T pc' L (.int v :: S)) : oWP ω γ κ Q T pc L (S) := by
  obtain ⟨hx, hby, -, -, -, -, -, -, -, -, -, locs, Y, -⟩ := X
  subst hp
  obtain ⟨s₂, o, hs, r⟩ := K
  exact ⟨s₂, o, XS.iload Y.here hx rfl (hb hby hd) hl hs, r⟩
theorem ow_iloadN (X : oSt Z ω γ κ T h cs ss) (pc' : Nat) {k : Fin 4} {v : Int32} (hd : decode κ.1 pc = .ok (.iload_n k, 1)) (hp : pc + 1 = pc') (hl : L[k.val]? = some (.val (.int v)))
    (K : oWP ω γ κ Q T pc' L (.int v :: S)) : oWP ω γ κ Q T pc L (S) := by
  obtain ⟨hx, hby, -, -, -, -, -, -, -, -, -, locs, Y, -⟩ := X
  subst hp
  obtain ⟨s₂, o, hs, r⟩ := K
  exact ⟨s₂, o, XS.iloadN Y.here hx rfl (hb hby hd) hl hs, r⟩
theorem ow_istore (X : oSt Z ω γ κ T h cs ss) (pc' : Nat) {k : Nat} {v : Int32} {L' : Array Slot} (hd : decode κ.1 pc = .ok (.istore k, 2)) (hp : pc + 2 = pc') (hl : storeLocals L k (.int v) = some L')
    (K : oWP ω γ κ Q T pc' L' (S)) : oWP ω γ κ Q T pc L (.int v :: S) := by
  obtain ⟨hx, hby, -, -, -, -, -, -, -, -, -, locs, Y, -⟩ := X
  subst hp
  obtain ⟨s₂, o, hs, r⟩ := K
  exact ⟨s₂, o, XS.istore Y.here hx rfl (hb hby hd) rfl hl hs, r⟩
theorem ow_istoreN (X : oSt Z ω γ κ T h cs ss) (pc' : Nat) {k : Fin 4} {v : Int32} {L' : Array Slot} (hd : decode κ.1 pc = .ok (.istore_n k, 1)) (hp : pc + 1 = pc') (hl : storeLocals L k.val (.int v) = some L')
    (K : oWP ω γ κ Q T pc' L' (S)) : oWP ω γ κ Q T pc L (.int v :: S) := by
  obtain ⟨hx, hby, -, -, -, -, -, -, -, -, -, locs, Y, -⟩ := X
  subst hp
  obtain ⟨s₂, o, hs, r⟩ := K
  exact ⟨s₂, o, XS.istoreN Y.here hx rfl (hb hby hd) rfl hl hs, r⟩
theorem ow_lload (X : oSt Z ω γ κ T h cs ss) (pc' : Nat) {k : Nat} {v : Int64} (hd : decode κ.1 pc = .ok (.lload k, 2)) (hp : pc + 2 = pc') (hl : L[k]? = some (.val (.long v)))
    (K : oWP ω γ κ Q T pc' L (.long v :: S)) : oWP ω γ κ Q T pc L (S) := by
  obtain ⟨hx, hby, -, -, -, -, -, -, -, -, -, locs, Y, -⟩ := X
  subst hp
  obtain ⟨s₂, o, hs, r⟩ := K
  exact ⟨s₂, o, XS.lload Y.here hx rfl (hb hby hd) hl hs, r⟩
theorem ow_lloadN (X : oSt Z ω γ κ T h cs ss) (pc' : Nat) {k : Fin 4} {v : Int64} (hd : decode κ.1 pc = .ok (.lload_n k, 1)) (hp : pc + 1 = pc') (hl : L[k.val]? = some (.val (.long v)))
    (K : oWP ω γ κ Q T pc' L (.long v :: S)) : oWP ω γ κ Q T pc L (S) := by
  obtain ⟨hx, hby, -, -, -, -, -, -, -, -, -, locs, Y, -⟩ := X
  subst hp
  obtain ⟨s₂, o, hs, r⟩ := K
  exact ⟨s₂, o, XS.lloadN Y.here hx rfl (hb hby hd) hl hs, r⟩
theorem ow_lstore (X : oSt Z ω γ κ T h cs ss) (pc' : Nat) {k : Nat} {v : Int64} {L' : Array Slot} (hd : decode κ.1 pc = .ok (.lstore k, 2)) (hp : pc + 2 = pc') (hl : storeLocals L k (.long v) = some L')
    (K : oWP ω γ κ Q T pc' L' (S)) : oWP ω γ κ Q T pc L (.long v :: S) := by
  obtain ⟨hx, hby, -, -, -, -, -, -, -, -, -, locs, Y, -⟩ := X
  subst hp
  obtain ⟨s₂, o, hs, r⟩ := K
  exact ⟨s₂, o, XS.lstore Y.here hx rfl (hb hby hd) rfl hl hs, r⟩
theorem ow_lstoreN (X : oSt Z ω γ κ T h cs ss) (pc' : Nat) {k : Fin 4} {v : Int64} {L' : Array Slot} (hd : decode κ.1 pc = .ok (.lstore_n k, 1)) (hp : pc + 1 = pc') (hl : storeLocals L k.val (.long v) = some L')
    (K : oWP ω γ κ Q T pc' L' (S)) : oWP ω γ κ Q T pc L (.long v :: S) := by
  obtain ⟨hx, hby, -, -, -, -, -, -, -, -, -, locs, Y, -⟩ := X
  subst hp
  obtain ⟨s₂, o, hs, r⟩ := K
  exact ⟨s₂, o, XS.lstoreN Y.here hx rfl (hb hby hd) rfl hl hs, r⟩
theorem ow_aload (X : oSt Z ω γ κ T h cs ss) (pc' : Nat) {k : Nat} {v : Value} (hd : decode κ.1 pc = .ok (.aload k, 2)) (hp : pc + 2 = pc') (hl : L[k]? = some (.val v)) (hv : v.isRef = true)
    (K : oWP ω γ κ Q T pc' L (v :: S)) : oWP ω γ κ Q T pc L (S) := by
  obtain ⟨hx, hby, -, -, -, -, -, -, -, -, -, locs, Y, -⟩ := X
  subst hp
  obtain ⟨s₂, o, hs, r⟩ := K
  exact ⟨s₂, o, XS.aload Y.here hx rfl (hb hby hd) hl hv hs, r⟩
theorem ow_aloadN (X : oSt Z ω γ κ T h cs ss) (pc' : Nat) {k : Fin 4} {v : Value} (hd : decode κ.1 pc = .ok (.aload_n k, 1)) (hp : pc + 1 = pc') (hl : L[k.val]? = some (.val v)) (hv : v.isRef = true)
    (K : oWP ω γ κ Q T pc' L (v :: S)) : oWP ω γ κ Q T pc L (S) := by
  obtain ⟨hx, hby, -, -, -, -, -, -, -, -, -, locs, Y, -⟩ := X
  subst hp
  obtain ⟨s₂, o, hs, r⟩ := K
  exact ⟨s₂, o, XS.aloadN Y.here hx rfl (hb hby hd) hl hv hs, r⟩
theorem ow_astore (X : oSt Z ω γ κ T h cs ss) (pc' : Nat) {k : Nat} {v : Value} {L' : Array Slot} (hd : decode κ.1 pc = .ok (.astore k, 2)) (hp : pc + 2 = pc') (hv : v.isRef = true) (hl : storeLocals L k v = some L')
    (K : oWP ω γ κ Q T pc' L' (S)) : oWP ω γ κ Q T pc L (v :: S) := by
  obtain ⟨hx, hby, -, -, -, -, -, -, -, -, -, locs, Y, -⟩ := X
  subst hp
  obtain ⟨s₂, o, hs, r⟩ := K
  exact ⟨s₂, o, XS.astore Y.here hx rfl (hb hby hd) rfl hv hl hs, r⟩
theorem ow_astoreN (X : oSt Z ω γ κ T h cs ss) (pc' : Nat) {k : Fin 4} {v : Value} {L' : Array Slot} (hd : decode κ.1 pc = .ok (.astore_n k, 1)) (hp : pc + 1 = pc') (hv : v.isRef = true) (hl : storeLocals L k.val v = some L')
    (K : oWP ω γ κ Q T pc' L' (S)) : oWP ω γ κ Q T pc L (v :: S) := by
  obtain ⟨hx, hby, -, -, -, -, -, -, -, -, -, locs, Y, -⟩ := X
  subst hp
  obtain ⟨s₂, o, hs, r⟩ := K
  exact ⟨s₂, o, XS.astoreN Y.here hx rfl (hb hby hd) rfl hv hl hs, r⟩
theorem ow_iconst (X : oSt Z ω γ κ T h cs ss) (pc' : Nat) {i : Int} (v : Int32) (hd : decode κ.1 pc = .ok (.iconst i, 1)) (hp : pc + 1 = pc') (hv : Int32.ofInt i = v)
    (K : oWP ω γ κ Q T pc' L (.int v :: S)) : oWP ω γ κ Q T pc L (S) := by
  obtain ⟨hx, hby, -, -, -, -, -, -, -, -, -, locs, Y, -⟩ := X
  subst hp
  obtain ⟨s₂, o, hs, r⟩ := K
  subst hv; exact ⟨s₂, o, XS.iconst Y.here hx rfl (hb hby hd) hs, r⟩
theorem ow_bipush (X : oSt Z ω γ κ T h cs ss) (pc' : Nat) {i : Int} (v : Int32) (hd : decode κ.1 pc = .ok (.bipush i, 2)) (hp : pc + 2 = pc') (hv : (Int8.ofInt i).toInt32 = v)
    (K : oWP ω γ κ Q T pc' L (.int v :: S)) : oWP ω γ κ Q T pc L (S) := by
  obtain ⟨hx, hby, -, -, -, -, -, -, -, -, -, locs, Y, -⟩ := X
  subst hp
  obtain ⟨s₂, o, hs, r⟩ := K
  subst hv; exact ⟨s₂, o, XS.bipush Y.here hx rfl (hb hby hd) hs, r⟩
theorem ow_sipush (X : oSt Z ω γ κ T h cs ss) (pc' : Nat) {i : Int} (v : Int32) (hd : decode κ.1 pc = .ok (.sipush i, 3)) (hp : pc + 3 = pc') (hv : (Int16.ofInt i).toInt32 = v)
    (K : oWP ω γ κ Q T pc' L (.int v :: S)) : oWP ω γ κ Q T pc L (S) := by
  obtain ⟨hx, hby, -, -, -, -, -, -, -, -, -, locs, Y, -⟩ := X
  subst hp
  obtain ⟨s₂, o, hs, r⟩ := K
  subst hv; exact ⟨s₂, o, XS.sipush Y.here hx rfl (hb hby hd) hs, r⟩
theorem ow_lconst (X : oSt Z ω γ κ T h cs ss) (pc' : Nat) {k : Fin 2} (v : Int64) (hd : decode κ.1 pc = .ok (.lconst k, 1)) (hp : pc + 1 = pc') (hv : Int64.ofNat k = v)
    (K : oWP ω γ κ Q T pc' L (.long v :: S)) : oWP ω γ κ Q T pc L (S) := by
  obtain ⟨hx, hby, -, -, -, -, -, -, -, -, -, locs, Y, -⟩ := X
  subst hp
  obtain ⟨s₂, o, hs, r⟩ := K
  subst hv; exact ⟨s₂, o, XS.lconst Y.here hx rfl (hb hby hd) hs, r⟩
theorem ow_anull (X : oSt Z ω γ κ T h cs ss) (pc' : Nat)  (hd : decode κ.1 pc = .ok (.aconst_null, 1)) (hp : pc + 1 = pc') 
    (K : oWP ω γ κ Q T pc' L (.null :: S)) : oWP ω γ κ Q T pc L (S) := by
  obtain ⟨hx, hby, -, -, -, -, -, -, -, -, -, locs, Y, -⟩ := X
  subst hp
  obtain ⟨s₂, o, hs, r⟩ := K
  exact ⟨s₂, o, XS.aconstNull Y.here hx rfl (hb hby hd) hs, r⟩
theorem ow_iinc (X : oSt Z ω γ κ T h cs ss) (pc' : Nat) {k : Nat} {i : Int} {x : Int32} {L' : Array Slot} (v : Int32) (hd : decode κ.1 pc = .ok (.iinc k i, 3)) (hp : pc + 3 = pc') (hv : Int32.ofInt i = v) (hl : L[k]? = some (.val (.int x))) (hl' : storeLocals L k (.int (x + v)) = some L')
    (K : oWP ω γ κ Q T pc' L' (S)) : oWP ω γ κ Q T pc L (S) := by
  obtain ⟨hx, hby, -, -, -, -, -, -, -, -, -, locs, Y, -⟩ := X
  subst hp
  obtain ⟨s₂, o, hs, r⟩ := K
  subst hv; exact ⟨s₂, o, XS.iinc Y.here hx rfl (hb hby hd) hl hl' hs, r⟩
theorem ow_iadd (X : oSt Z ω γ κ T h cs ss) (pc' : Nat) {x y : Int32} (hd : decode κ.1 pc = .ok (.iadd, 1)) (hp : pc + 1 = pc') 
    (K : oWP ω γ κ Q T pc' L (.int (x + y) :: S)) : oWP ω γ κ Q T pc L (.int y :: .int x :: S) := by
  obtain ⟨hx, hby, -, -, -, -, -, -, -, -, -, locs, Y, -⟩ := X
  subst hp
  obtain ⟨s₂, o, hs, r⟩ := K
  exact ⟨s₂, o, XS.iadd Y.here hx rfl (hb hby hd) rfl hs, r⟩
theorem ow_isub (X : oSt Z ω γ κ T h cs ss) (pc' : Nat) {x y : Int32} (hd : decode κ.1 pc = .ok (.isub, 1)) (hp : pc + 1 = pc') 
    (K : oWP ω γ κ Q T pc' L (.int (x - y) :: S)) : oWP ω γ κ Q T pc L (.int y :: .int x :: S) := by
  obtain ⟨hx, hby, -, -, -, -, -, -, -, -, -, locs, Y, -⟩ := X
  subst hp
  obtain ⟨s₂, o, hs, r⟩ := K
  exact ⟨s₂, o, XS.isub Y.here hx rfl (hb hby hd) rfl hs, r⟩
theorem ow_imul (X : oSt Z ω γ κ T h cs ss) (pc' : Nat) {x y : Int32} (hd : decode κ.1 pc = .ok (.imul, 1)) (hp : pc + 1 = pc') 
    (K : oWP ω γ κ Q T pc' L (.int (x * y) :: S)) : oWP ω γ κ Q T pc L (.int y :: .int x :: S) := by
  obtain ⟨hx, hby, -, -, -, -, -, -, -, -, -, locs, Y, -⟩ := X
  subst hp
  obtain ⟨s₂, o, hs, r⟩ := K
  exact ⟨s₂, o, XS.imul Y.here hx rfl (hb hby hd) rfl hs, r⟩
theorem ow_iand (X : oSt Z ω γ κ T h cs ss) (pc' : Nat) {x y : Int32} (hd : decode κ.1 pc = .ok (.iand, 1)) (hp : pc + 1 = pc') 
    (K : oWP ω γ κ Q T pc' L (.int (x &&& y) :: S)) : oWP ω γ κ Q T pc L (.int y :: .int x :: S) := by
  obtain ⟨hx, hby, -, -, -, -, -, -, -, -, -, locs, Y, -⟩ := X
  subst hp
  obtain ⟨s₂, o, hs, r⟩ := K
  exact ⟨s₂, o, XS.iand Y.here hx rfl (hb hby hd) rfl hs, r⟩
theorem ow_ior (X : oSt Z ω γ κ T h cs ss) (pc' : Nat) {x y : Int32} (hd : decode κ.1 pc = .ok (.ior, 1)) (hp : pc + 1 = pc') 
    (K : oWP ω γ κ Q T pc' L (.int (x ||| y) :: S)) : oWP ω γ κ Q T pc L (.int y :: .int x :: S) := by
  obtain ⟨hx, hby, -, -, -, -, -, -, -, -, -, locs, Y, -⟩ := X
  subst hp
  obtain ⟨s₂, o, hs, r⟩ := K
  exact ⟨s₂, o, XS.ior Y.here hx rfl (hb hby hd) rfl hs, r⟩
theorem ow_ixor (X : oSt Z ω γ κ T h cs ss) (pc' : Nat) {x y : Int32} (hd : decode κ.1 pc = .ok (.ixor, 1)) (hp : pc + 1 = pc') 
    (K : oWP ω γ κ Q T pc' L (.int (x ^^^ y) :: S)) : oWP ω γ κ Q T pc L (.int y :: .int x :: S) := by
  obtain ⟨hx, hby, -, -, -, -, -, -, -, -, -, locs, Y, -⟩ := X
  subst hp
  obtain ⟨s₂, o, hs, r⟩ := K
  exact ⟨s₂, o, XS.ixor Y.here hx rfl (hb hby hd) rfl hs, r⟩
theorem ow_ishl (X : oSt Z ω γ κ T h cs ss) (pc' : Nat) {x y : Int32} (hd : decode κ.1 pc = .ok (.ishl, 1)) (hp : pc + 1 = pc') 
    (K : oWP ω γ κ Q T pc' L (.int (x <<< (y &&& 31)) :: S)) : oWP ω γ κ Q T pc L (.int y :: .int x :: S) := by
  obtain ⟨hx, hby, -, -, -, -, -, -, -, -, -, locs, Y, -⟩ := X
  subst hp
  obtain ⟨s₂, o, hs, r⟩ := K
  exact ⟨s₂, o, XS.ishl Y.here hx rfl (hb hby hd) rfl hs, r⟩
theorem ow_ishr (X : oSt Z ω γ κ T h cs ss) (pc' : Nat) {x y : Int32} (hd : decode κ.1 pc = .ok (.ishr, 1)) (hp : pc + 1 = pc') 
    (K : oWP ω γ κ Q T pc' L (.int (x >>> (y &&& 31)) :: S)) : oWP ω γ κ Q T pc L (.int y :: .int x :: S) := by
  obtain ⟨hx, hby, -, -, -, -, -, -, -, -, -, locs, Y, -⟩ := X
  subst hp
  obtain ⟨s₂, o, hs, r⟩ := K
  exact ⟨s₂, o, XS.ishr Y.here hx rfl (hb hby hd) rfl hs, r⟩
theorem ow_iushr (X : oSt Z ω γ κ T h cs ss) (pc' : Nat) {x y : Int32} (hd : decode κ.1 pc = .ok (.iushr, 1)) (hp : pc + 1 = pc') 
    (K : oWP ω γ κ Q T pc' L (.int ((x.toUInt32 >>> (y &&& 31).toUInt32).toInt32) :: S)) : oWP ω γ κ Q T pc L (.int y :: .int x :: S) := by
  obtain ⟨hx, hby, -, -, -, -, -, -, -, -, -, locs, Y, -⟩ := X
  subst hp
  obtain ⟨s₂, o, hs, r⟩ := K
  exact ⟨s₂, o, XS.iushr Y.here hx rfl (hb hby hd) rfl hs, r⟩
theorem ow_ineg (X : oSt Z ω γ κ T h cs ss) (pc' : Nat) {x : Int32} (hd : decode κ.1 pc = .ok (.ineg, 1)) (hp : pc + 1 = pc') 
    (K : oWP ω γ κ Q T pc' L (.int (-x) :: S)) : oWP ω γ κ Q T pc L (.int x :: S) := by
  obtain ⟨hx, hby, -, -, -, -, -, -, -, -, -, locs, Y, -⟩ := X
  subst hp
  obtain ⟨s₂, o, hs, r⟩ := K
  exact ⟨s₂, o, XS.ineg Y.here hx rfl (hb hby hd) rfl hs, r⟩
theorem ow_idiv (X : oSt Z ω γ κ T h cs ss) (pc' : Nat) {x y : Int32} (hd : decode κ.1 pc = .ok (.idiv, 1)) (hp : pc + 1 = pc') (hy : y ≠ 0)
    (K : oWP ω γ κ Q T pc' L (.int (x / y) :: S)) : oWP ω γ κ Q T pc L (.int y :: .int x :: S) := by
  obtain ⟨hx, hby, -, -, -, -, -, -, -, -, -, locs, Y, -⟩ := X
  subst hp
  obtain ⟨s₂, o, hs, r⟩ := K
  exact ⟨s₂, o, XS.idiv Y.here hx rfl (hb hby hd) rfl hy hs, r⟩
theorem ow_irem (X : oSt Z ω γ κ T h cs ss) (pc' : Nat) {x y : Int32} (hd : decode κ.1 pc = .ok (.irem, 1)) (hp : pc + 1 = pc') (hy : y ≠ 0)
    (K : oWP ω γ κ Q T pc' L (.int (x % y) :: S)) : oWP ω γ κ Q T pc L (.int y :: .int x :: S) := by
  obtain ⟨hx, hby, -, -, -, -, -, -, -, -, -, locs, Y, -⟩ := X
  subst hp
  obtain ⟨s₂, o, hs, r⟩ := K
  exact ⟨s₂, o, iremM Y hx rfl (hb hby hd) rfl hy hs, r⟩
theorem ow_ladd (X : oSt Z ω γ κ T h cs ss) (pc' : Nat) {x y : Int64} (hd : decode κ.1 pc = .ok (.ladd, 1)) (hp : pc + 1 = pc') 
    (K : oWP ω γ κ Q T pc' L (.long (x + y) :: S)) : oWP ω γ κ Q T pc L (.long y :: .long x :: S) := by
  obtain ⟨hx, hby, -, -, -, -, -, -, -, -, -, locs, Y, -⟩ := X
  subst hp
  obtain ⟨s₂, o, hs, r⟩ := K
  exact ⟨s₂, o, XS.ladd Y.here hx rfl (hb hby hd) rfl hs, r⟩
theorem ow_lsub (X : oSt Z ω γ κ T h cs ss) (pc' : Nat) {x y : Int64} (hd : decode κ.1 pc = .ok (.lsub, 1)) (hp : pc + 1 = pc') 
    (K : oWP ω γ κ Q T pc' L (.long (x - y) :: S)) : oWP ω γ κ Q T pc L (.long y :: .long x :: S) := by
  obtain ⟨hx, hby, -, -, -, -, -, -, -, -, -, locs, Y, -⟩ := X
  subst hp
  obtain ⟨s₂, o, hs, r⟩ := K
  exact ⟨s₂, o, XS.lsub Y.here hx rfl (hb hby hd) rfl hs, r⟩
theorem ow_lmul (X : oSt Z ω γ κ T h cs ss) (pc' : Nat) {x y : Int64} (hd : decode κ.1 pc = .ok (.lmul, 1)) (hp : pc + 1 = pc') 
    (K : oWP ω γ κ Q T pc' L (.long (x * y) :: S)) : oWP ω γ κ Q T pc L (.long y :: .long x :: S) := by
  obtain ⟨hx, hby, -, -, -, -, -, -, -, -, -, locs, Y, -⟩ := X
  subst hp
  obtain ⟨s₂, o, hs, r⟩ := K
  exact ⟨s₂, o, XS.lmul Y.here hx rfl (hb hby hd) rfl hs, r⟩
theorem ow_land (X : oSt Z ω γ κ T h cs ss) (pc' : Nat) {x y : Int64} (hd : decode κ.1 pc = .ok (.land, 1)) (hp : pc + 1 = pc') 
    (K : oWP ω γ κ Q T pc' L (.long (x &&& y) :: S)) : oWP ω γ κ Q T pc L (.long y :: .long x :: S) := by
  obtain ⟨hx, hby, -, -, -, -, -, -, -, -, -, locs, Y, -⟩ := X
  subst hp
  obtain ⟨s₂, o, hs, r⟩ := K
  exact ⟨s₂, o, XS.land Y.here hx rfl (hb hby hd) rfl hs, r⟩
theorem ow_lor (X : oSt Z ω γ κ T h cs ss) (pc' : Nat) {x y : Int64} (hd : decode κ.1 pc = .ok (.lor, 1)) (hp : pc + 1 = pc') 
    (K : oWP ω γ κ Q T pc' L (.long (x ||| y) :: S)) : oWP ω γ κ Q T pc L (.long y :: .long x :: S) := by
  obtain ⟨hx, hby, -, -, -, -, -, -, -, -, -, locs, Y, -⟩ := X
  subst hp
  obtain ⟨s₂, o, hs, r⟩ := K
  exact ⟨s₂, o, XS.lor Y.here hx rfl (hb hby hd) rfl hs, r⟩
theorem ow_lxor (X : oSt Z ω γ κ T h cs ss) (pc' : Nat) {x y : Int64} (hd : decode κ.1 pc = .ok (.lxor, 1)) (hp : pc + 1 = pc') 
    (K : oWP ω γ κ Q T pc' L (.long (x ^^^ y) :: S)) : oWP ω γ κ Q T pc L (.long y :: .long x :: S) := by
  obtain ⟨hx, hby, -, -, -, -, -, -, -, -, -, locs, Y, -⟩ := X
  subst hp
  obtain ⟨s₂, o, hs, r⟩ := K
  exact ⟨s₂, o, XS.lxor Y.here hx rfl (hb hby hd) rfl hs, r⟩
theorem ow_lshl (X : oSt Z ω γ κ T h cs ss) (pc' : Nat) {x : Int64} {y : Int32} (hd : decode κ.1 pc = .ok (.lshl, 1)) (hp : pc + 1 = pc') 
    (K : oWP ω γ κ Q T pc' L (.long (x <<< (y &&& 0x3f).toInt64) :: S)) : oWP ω γ κ Q T pc L (.int y :: .long x :: S) := by
  obtain ⟨hx, hby, -, -, -, -, -, -, -, -, -, locs, Y, -⟩ := X
  subst hp
  obtain ⟨s₂, o, hs, r⟩ := K
  exact ⟨s₂, o, XS.lshl Y.here hx rfl (hb hby hd) rfl hs, r⟩
theorem ow_lshr (X : oSt Z ω γ κ T h cs ss) (pc' : Nat) {x : Int64} {y : Int32} (hd : decode κ.1 pc = .ok (.lshr, 1)) (hp : pc + 1 = pc') 
    (K : oWP ω γ κ Q T pc' L (.long (x >>> (y &&& 0x3f).toInt64) :: S)) : oWP ω γ κ Q T pc L (.int y :: .long x :: S) := by
  obtain ⟨hx, hby, -, -, -, -, -, -, -, -, -, locs, Y, -⟩ := X
  subst hp
  obtain ⟨s₂, o, hs, r⟩ := K
  exact ⟨s₂, o, XS.lshr Y.here hx rfl (hb hby hd) rfl hs, r⟩
theorem ow_lushr (X : oSt Z ω γ κ T h cs ss) (pc' : Nat) {x : Int64} {y : Int32} (hd : decode κ.1 pc = .ok (.lushr, 1)) (hp : pc + 1 = pc') 
    (K : oWP ω γ κ Q T pc' L (.long ((x.toUInt64 >>> (y &&& 0x3f).toInt64.toUInt64).toInt64) :: S)) : oWP ω γ κ Q T pc L (.int y :: .long x :: S) := by
  obtain ⟨hx, hby, -, -, -, -, -, -, -, -, -, locs, Y, -⟩ := X
  subst hp
  obtain ⟨s₂, o, hs, r⟩ := K
  exact ⟨s₂, o, XS.lushr Y.here hx rfl (hb hby hd) rfl hs, r⟩
theorem ow_ldiv (X : oSt Z ω γ κ T h cs ss) (pc' : Nat) {x y : Int64} (hd : decode κ.1 pc = .ok (.ldiv, 1)) (hp : pc + 1 = pc') (hy : y ≠ 0)
    (K : oWP ω γ κ Q T pc' L (.long (x / y) :: S)) : oWP ω γ κ Q T pc L (.long y :: .long x :: S) := by
  obtain ⟨hx, hby, -, -, -, -, -, -, -, -, -, locs, Y, -⟩ := X
  subst hp
  obtain ⟨s₂, o, hs, r⟩ := K
  exact ⟨s₂, o, XS.ldiv Y.here hx rfl (hb hby hd) rfl hy hs, r⟩
theorem ow_lrem (X : oSt Z ω γ κ T h cs ss) (pc' : Nat) {x y : Int64} (hd : decode κ.1 pc = .ok (.lrem, 1)) (hp : pc + 1 = pc') (hy : y ≠ 0)
    (K : oWP ω γ κ Q T pc' L (.long (x % y) :: S)) : oWP ω γ κ Q T pc L (.long y :: .long x :: S) := by
  obtain ⟨hx, hby, -, -, -, -, -, -, -, -, -, locs, Y, -⟩ := X
  subst hp
  obtain ⟨s₂, o, hs, r⟩ := K
  rw [← lrem_mod] at hs; exact ⟨s₂, o, XS.lrem Y.here hx rfl (hb hby hd) rfl hy hs, r⟩
theorem ow_i2l (X : oSt Z ω γ κ T h cs ss) (pc' : Nat) {x : Int32} (hd : decode κ.1 pc = .ok (.i2l, 1)) (hp : pc + 1 = pc') 
    (K : oWP ω γ κ Q T pc' L (.long x.toInt64 :: S)) : oWP ω γ κ Q T pc L (.int x :: S) := by
  obtain ⟨hx, hby, -, -, -, -, -, -, -, -, -, locs, Y, -⟩ := X
  subst hp
  obtain ⟨s₂, o, hs, r⟩ := K
  exact ⟨s₂, o, XS.i2l Y.here hx rfl (hb hby hd) rfl hs, r⟩
theorem ow_l2i (X : oSt Z ω γ κ T h cs ss) (pc' : Nat) {x : Int64} (hd : decode κ.1 pc = .ok (.l2i, 1)) (hp : pc + 1 = pc') 
    (K : oWP ω γ κ Q T pc' L (.int x.toInt32 :: S)) : oWP ω γ κ Q T pc L (.long x :: S) := by
  obtain ⟨hx, hby, -, -, -, -, -, -, -, -, -, locs, Y, -⟩ := X
  subst hp
  obtain ⟨s₂, o, hs, r⟩ := K
  exact ⟨s₂, o, XS.l2i Y.here hx rfl (hb hby hd) rfl hs, r⟩
theorem ow_i2b (X : oSt Z ω γ κ T h cs ss) (pc' : Nat) {x : Int32} (hd : decode κ.1 pc = .ok (.i2b, 1)) (hp : pc + 1 = pc') 
    (K : oWP ω γ κ Q T pc' L (.int x.toInt8.toInt32 :: S)) : oWP ω γ κ Q T pc L (.int x :: S) := by
  obtain ⟨hx, hby, -, -, -, -, -, -, -, -, -, locs, Y, -⟩ := X
  subst hp
  obtain ⟨s₂, o, hs, r⟩ := K
  exact ⟨s₂, o, XS.i2b Y.here hx rfl (hb hby hd) rfl hs, r⟩
theorem ow_i2c (X : oSt Z ω γ κ T h cs ss) (pc' : Nat) {x : Int32} (hd : decode κ.1 pc = .ok (.i2c, 1)) (hp : pc + 1 = pc') 
    (K : oWP ω γ κ Q T pc' L (.int x.toUInt32.toUInt16.toUInt32.toInt32 :: S)) : oWP ω γ κ Q T pc L (.int x :: S) := by
  obtain ⟨hx, hby, -, -, -, -, -, -, -, -, -, locs, Y, -⟩ := X
  subst hp
  obtain ⟨s₂, o, hs, r⟩ := K
  exact ⟨s₂, o, XS.i2c Y.here hx rfl (hb hby hd) rfl hs, r⟩
theorem ow_i2s (X : oSt Z ω γ κ T h cs ss) (pc' : Nat) {x : Int32} (hd : decode κ.1 pc = .ok (.i2s, 1)) (hp : pc + 1 = pc') 
    (K : oWP ω γ κ Q T pc' L (.int x.toInt16.toInt32 :: S)) : oWP ω γ κ Q T pc L (.int x :: S) := by
  obtain ⟨hx, hby, -, -, -, -, -, -, -, -, -, locs, Y, -⟩ := X
  subst hp
  obtain ⟨s₂, o, hs, r⟩ := K
  exact ⟨s₂, o, XS.i2s Y.here hx rfl (hb hby hd) rfl hs, r⟩
theorem ow_dup (X : oSt Z ω γ κ T h cs ss) (pc' : Nat) {x : Value} (hd : decode κ.1 pc = .ok (.dup, 1)) (hp : pc + 1 = pc') (hc : x.category = 1)
    (K : oWP ω γ κ Q T pc' L (x :: x :: S)) : oWP ω γ κ Q T pc L (x :: S) := by
  obtain ⟨hx, hby, -, -, -, -, -, -, -, -, -, locs, Y, -⟩ := X
  subst hp
  obtain ⟨s₂, o, hs, r⟩ := K
  exact ⟨s₂, o, XS.dup Y.here hx rfl (hb hby hd) rfl hc hs, r⟩
theorem ow_pop (X : oSt Z ω γ κ T h cs ss) (pc' : Nat) {x : Value} (hd : decode κ.1 pc = .ok (.pop, 1)) (hp : pc + 1 = pc') (hc : x.category = 1)
    (K : oWP ω γ κ Q T pc' L (S)) : oWP ω γ κ Q T pc L (x :: S) := by
  obtain ⟨hx, hby, -, -, -, -, -, -, -, -, -, locs, Y, -⟩ := X
  subst hp
  obtain ⟨s₂, o, hs, r⟩ := K
  exact ⟨s₂, o, XS.pop Y.here hx rfl (hb hby hd) rfl hc hs, r⟩
theorem ow_dupX1 (X : oSt Z ω γ κ T h cs ss) (pc' : Nat) {x y : Value} (hd : decode κ.1 pc = .ok (.dup_x1, 1)) (hp : pc + 1 = pc') (hc : x.category = 1) (hc' : y.category = 1)
    (K : oWP ω γ κ Q T pc' L (x :: y :: x :: S)) : oWP ω γ κ Q T pc L (x :: y :: S) := by
  obtain ⟨hx, hby, -, -, -, -, -, -, -, -, -, locs, Y, -⟩ := X
  subst hp
  obtain ⟨s₂, o, hs, r⟩ := K
  exact ⟨s₂, o, XS.dupX1 Y.here hx rfl (hb hby hd) rfl hc hc' hs, r⟩
theorem ow_dup2 (X : oSt Z ω γ κ T h cs ss) (pc' : Nat) {x y : Value} (hd : decode κ.1 pc = .ok (.dup2, 1)) (hp : pc + 1 = pc') (hc : x.category = 1) (hc' : y.category = 1)
    (K : oWP ω γ κ Q T pc' L (x :: y :: x :: y :: S)) : oWP ω γ κ Q T pc L (x :: y :: S) := by
  obtain ⟨hx, hby, -, -, -, -, -, -, -, -, -, locs, Y, -⟩ := X
  subst hp
  obtain ⟨s₂, o, hs, r⟩ := K
  exact ⟨s₂, o, XT.dup2 Y.here hx rfl (hb hby hd) rfl hc hc' hs, r⟩
theorem oXpop2L {tb : Tables} [Ours tb] {e : Env} {below : List Frame} {T target : State} {m : MethodId} {c : Code} {g : JFrame} (h : At T m c below) (hx : tb.exec = Jvm.exec) (hg : g.method = m) {x : Int64} {rest : List Value} (hd : decode c.code g.pc = .ok (.pop2, 1)) (hs : g.stack = .long x :: rest)
    (hr : Steps tb e below (T.setTop { g with pc := g.pc + 1, stack := rest }) target) : Steps tb e below (T.setTop g) target := by
  subst hg
  jvm_step h [h.top, hx, hd, hs, Value.category]
  exact hr
theorem ow_pop2L (X : oSt Z ω γ κ T h cs ss) (pc' : Nat) {x : Int64} (hd : decode κ.1 pc = .ok (.pop2, 1)) (hp : pc + 1 = pc') 
    (K : oWP ω γ κ Q T pc' L (S)) : oWP ω γ κ Q T pc L (.long x :: S) := by
  obtain ⟨hx, hby, -, -, -, -, -, -, -, -, -, locs, Y, -⟩ := X
  subst hp
  obtain ⟨s₂, o, hs, r⟩ := K
  exact ⟨s₂, o, oXpop2L Y.here hx rfl (hb hby hd) rfl hs, r⟩
theorem ow_ldcI (X : oSt Z ω γ κ T h cs ss) (pc' i : Nat) {own : String} {idx : Nat} {v : Int32} (hw : tables_1[i]? = some (.constant own idx v)) (ho : κ.2.2.1 = own) (hd : decode κ.1 pc = .ok (.ldc idx, 2)) (hp : pc + 2 = pc')
    (K : oWP ω γ κ Q T pc' L (.int v :: S)) : oWP ω γ κ Q T pc L S := by
  have hw' := oSt_at X i hw
  obtain ⟨hx, hby, -, hown, -, -, -, hZ, -, -, -, locs, Y, -⟩ := X
  subst hp ho
  obtain ⟨s₂, o, hs, r⟩ := K
  exact ⟨s₂, o, Stand.ldcI Y hx hown (mv hZ hw') rfl (hb hby hd) hs, r⟩
theorem ow_ldcWI (X : oSt Z ω γ κ T h cs ss) (pc' i : Nat) {own : String} {idx : Nat} {v : Int32} (hw : tables_1[i]? = some (.constant own idx v)) (ho : κ.2.2.1 = own) (hd : decode κ.1 pc = .ok (.ldc_w idx, 3)) (hp : pc + 3 = pc')
    (K : oWP ω γ κ Q T pc' L (.int v :: S)) : oWP ω γ κ Q T pc L S := by
  have hw' := oSt_at X i hw
  obtain ⟨hx, hby, -, hown, -, -, -, hZ, -, -, -, locs, Y, -⟩ := X
  subst hp ho
  obtain ⟨s₂, o, hs, r⟩ := K
  exact ⟨s₂, o, Stand.ldcWI Y hx hown (mv hZ hw') rfl (hb hby hd) hs, r⟩
theorem ow_ldc2J (X : oSt Z ω γ κ T h cs ss) (pc' i : Nat) {own : String} {idx : Nat} {v : Int64} (hw : tables_1[i]? = some (.constantLong own idx v)) (ho : κ.2.2.1 = own) (hd : decode κ.1 pc = .ok (.ldc2_w idx, 3)) (hp : pc + 3 = pc')
    (K : oWP ω γ κ Q T pc' L (.long v :: S)) : oWP ω γ κ Q T pc L S := by
  have hw' := oSt_at X i hw
  obtain ⟨hx, hby, -, hown, -, -, -, hZ, -, -, -, locs, Y, -⟩ := X
  subst hp ho
  obtain ⟨s₂, o, hs, r⟩ := K
  exact ⟨s₂, o, Stand.ldc2J Y hx hown (mv hZ hw') rfl (hb hby hd) hs, r⟩
theorem ow_goto (X : oSt Z ω γ κ T h cs ss) (pc' : Nat) {o : Int} (hd : decode κ.1 pc = .ok (.goto o, 3)) (hp : (pc : Int) + o = (pc' : Int))
    (K : oWP ω γ κ Q T pc' L S) : oWP ω γ κ Q T pc L S := by
  obtain ⟨hx, hby, -, -, -, -, -, -, -, -, -, locs, Y, -⟩ := X
  obtain ⟨s₂, o, hs, r⟩ := K
  exact ⟨s₂, o, XS.goto Y.here hx rfl (pc0 := pc) rfl (hb hby hd) (by omega) (by omega) hs, r⟩
theorem ow_if (X : oSt Z ω γ κ T h cs ss) (pc' pq : Nat) {cd : ClassFile.Cond} {x : Int32} {o : Int} (hd : decode κ.1 pc = .ok (.ifCond cd o, 3)) (hp : pc + 3 = pc') (hq : (pc : Int) + o = (pq : Int))
    (Ky : ifCond.holds cd x = true → oWP ω γ κ Q T pq L S) (Kn : ifCond.holds cd x = false → oWP ω γ κ Q T pc' L S) : oWP ω γ κ Q T pc L (.int x :: S) := by
  obtain ⟨hx, hby, -, -, -, -, -, -, -, -, -, locs, Y, -⟩ := X
  subst hp
  cases hc : ifCond.holds cd x
  · obtain ⟨s₂, o, hs, r⟩ := Kn hc
    exact ⟨s₂, o, XS.ifNo Y.here hx rfl (hb hby hd) rfl hc hs, r⟩
  · obtain ⟨s₂, o, hs, r⟩ := Ky hc
    exact ⟨s₂, o, XS.ifYes Y.here hx rfl (pc0 := pc) rfl (hb hby hd) rfl hc (by omega) (by omega) hs, r⟩
theorem ow_icmp (X : oSt Z ω γ κ T h cs ss) (pc' pq : Nat) {cd : ClassFile.Cond} {x y : Int32} {o : Int} (hd : decode κ.1 pc = .ok (.if_icmp cd o, 3)) (hp : pc + 3 = pc') (hq : (pc : Int) + o = (pq : Int))
    (Ky : if_icmp.holds cd x y = true → oWP ω γ κ Q T pq L S) (Kn : if_icmp.holds cd x y = false → oWP ω γ κ Q T pc' L S) : oWP ω γ κ Q T pc L (.int y :: .int x :: S) := by
  obtain ⟨hx, hby, -, -, -, -, -, -, -, -, -, locs, Y, -⟩ := X
  subst hp
  cases hc : if_icmp.holds cd x y
  · obtain ⟨s₂, o, hs, r⟩ := Kn hc
    exact ⟨s₂, o, XS.icmpNo Y.here hx rfl (hb hby hd) rfl hc hs, r⟩
  · obtain ⟨s₂, o, hs, r⟩ := Ky hc
    exact ⟨s₂, o, XS.icmpYes Y.here hx rfl (pc0 := pc) rfl (hb hby hd) rfl hc (by omega) (by omega) hs, r⟩
theorem o0 : (0 : Int32).toInt = 0 := rfl
theorem ow_if_eq (X : oSt Z ω γ κ T h cs ss) (pc' pq : Nat) {x : Int32} {o : Int} (hd : decode κ.1 pc = .ok (.ifCond .eq o, 3)) (hp : pc + 3 = pc') (hq : (pc : Int) + o = (pq : Int))
    (Ky : x.toInt = 0 → oWP ω γ κ Q T pq L S) (Kn : x.toInt ≠ 0 → oWP ω γ κ Q T pc' L S) : oWP ω γ κ Q T pc L (.int x :: S) :=
  ow_if X pc' pq hd hp hq (fun q => Ky (by simp only [ifCond.holds, decide_eq_true_eq, decide_eq_false_iff_not, beq_iff_eq, bne_iff_ne, ne_eq, Int32.lt_iff_toInt_lt, Int32.le_iff_toInt_le, ← Int32.toInt_inj, o0, GT.gt, GE.ge, beq_eq_false_iff_ne, bne_eq_false_iff_eq, Decidable.not_not] at q; omega)) (fun q => Kn (by simp only [ifCond.holds, decide_eq_true_eq, decide_eq_false_iff_not, beq_iff_eq, bne_iff_ne, ne_eq, Int32.lt_iff_toInt_lt, Int32.le_iff_toInt_le, ← Int32.toInt_inj, o0, GT.gt, GE.ge, beq_eq_false_iff_ne, bne_eq_false_iff_eq, Decidable.not_not] at q; omega))
theorem ow_icmp_eq (X : oSt Z ω γ κ T h cs ss) (pc' pq : Nat) {x y : Int32} {o : Int} (hd : decode κ.1 pc = .ok (.if_icmp .eq o, 3)) (hp : pc + 3 = pc') (hq : (pc : Int) + o = (pq : Int))
    (Ky : x.toInt = y.toInt → oWP ω γ κ Q T pq L S) (Kn : x.toInt ≠ y.toInt → oWP ω γ κ Q T pc' L S) : oWP ω γ κ Q T pc L (.int y :: .int x :: S) :=
  ow_icmp X pc' pq hd hp hq (fun q => Ky (by simp only [if_icmp.holds, decide_eq_true_eq, decide_eq_false_iff_not, beq_iff_eq, bne_iff_ne, ne_eq, Int32.lt_iff_toInt_lt, Int32.le_iff_toInt_le, ← Int32.toInt_inj, o0, GT.gt, GE.ge, beq_eq_false_iff_ne, bne_eq_false_iff_eq, Decidable.not_not] at q; omega)) (fun q => Kn (by simp only [if_icmp.holds, decide_eq_true_eq, decide_eq_false_iff_not, beq_iff_eq, bne_iff_ne, ne_eq, Int32.lt_iff_toInt_lt, Int32.le_iff_toInt_le, ← Int32.toInt_inj, o0, GT.gt, GE.ge, beq_eq_false_iff_ne, bne_eq_false_iff_eq, Decidable.not_not] at q; omega))
theorem ow_if_ne (X : oSt Z ω γ κ T h cs ss) (pc' pq : Nat) {x : Int32} {o : Int} (hd : decode κ.1 pc = .ok (.ifCond .ne o, 3)) (hp : pc + 3 = pc') (hq : (pc : Int) + o = (pq : Int))
    (Ky : x.toInt ≠ 0 → oWP ω γ κ Q T pq L S) (Kn : x.toInt = 0 → oWP ω γ κ Q T pc' L S) : oWP ω γ κ Q T pc L (.int x :: S) :=
  ow_if X pc' pq hd hp hq (fun q => Ky (by simp only [ifCond.holds, decide_eq_true_eq, decide_eq_false_iff_not, beq_iff_eq, bne_iff_ne, ne_eq, Int32.lt_iff_toInt_lt, Int32.le_iff_toInt_le, ← Int32.toInt_inj, o0, GT.gt, GE.ge, beq_eq_false_iff_ne, bne_eq_false_iff_eq, Decidable.not_not] at q; omega)) (fun q => Kn (by simp only [ifCond.holds, decide_eq_true_eq, decide_eq_false_iff_not, beq_iff_eq, bne_iff_ne, ne_eq, Int32.lt_iff_toInt_lt, Int32.le_iff_toInt_le, ← Int32.toInt_inj, o0, GT.gt, GE.ge, beq_eq_false_iff_ne, bne_eq_false_iff_eq, Decidable.not_not] at q; omega))
theorem ow_icmp_ne (X : oSt Z ω γ κ T h cs ss) (pc' pq : Nat) {x y : Int32} {o : Int} (hd : decode κ.1 pc = .ok (.if_icmp .ne o, 3)) (hp : pc + 3 = pc') (hq : (pc : Int) + o = (pq : Int))
    (Ky : x.toInt ≠ y.toInt → oWP ω γ κ Q T pq L S) (Kn : x.toInt = y.toInt → oWP ω γ κ Q T pc' L S) : oWP ω γ κ Q T pc L (.int y :: .int x :: S) :=
  ow_icmp X pc' pq hd hp hq (fun q => Ky (by simp only [if_icmp.holds, decide_eq_true_eq, decide_eq_false_iff_not, beq_iff_eq, bne_iff_ne, ne_eq, Int32.lt_iff_toInt_lt, Int32.le_iff_toInt_le, ← Int32.toInt_inj, o0, GT.gt, GE.ge, beq_eq_false_iff_ne, bne_eq_false_iff_eq, Decidable.not_not] at q; omega)) (fun q => Kn (by simp only [if_icmp.holds, decide_eq_true_eq, decide_eq_false_iff_not, beq_iff_eq, bne_iff_ne, ne_eq, Int32.lt_iff_toInt_lt, Int32.le_iff_toInt_le, ← Int32.toInt_inj, o0, GT.gt, GE.ge, beq_eq_false_iff_ne, bne_eq_false_iff_eq, Decidable.not_not] at q; omega))
theorem ow_if_lt (X : oSt Z ω γ κ T h cs ss) (pc' pq : Nat) {x : Int32} {o : Int} (hd : decode κ.1 pc = .ok (.ifCond .lt o, 3)) (hp : pc + 3 = pc') (hq : (pc : Int) + o = (pq : Int))
    (Ky : x.toInt < 0 → oWP ω γ κ Q T pq L S) (Kn : 0 ≤ x.toInt → oWP ω γ κ Q T pc' L S) : oWP ω γ κ Q T pc L (.int x :: S) :=
  ow_if X pc' pq hd hp hq (fun q => Ky (by simp only [ifCond.holds, decide_eq_true_eq, decide_eq_false_iff_not, beq_iff_eq, bne_iff_ne, ne_eq, Int32.lt_iff_toInt_lt, Int32.le_iff_toInt_le, ← Int32.toInt_inj, o0, GT.gt, GE.ge, beq_eq_false_iff_ne, bne_eq_false_iff_eq, Decidable.not_not] at q; omega)) (fun q => Kn (by simp only [ifCond.holds, decide_eq_true_eq, decide_eq_false_iff_not, beq_iff_eq, bne_iff_ne, ne_eq, Int32.lt_iff_toInt_lt, Int32.le_iff_toInt_le, ← Int32.toInt_inj, o0, GT.gt, GE.ge, beq_eq_false_iff_ne, bne_eq_false_iff_eq, Decidable.not_not] at q; omega))
theorem ow_icmp_lt (X : oSt Z ω γ κ T h cs ss) (pc' pq : Nat) {x y : Int32} {o : Int} (hd : decode κ.1 pc = .ok (.if_icmp .lt o, 3)) (hp : pc + 3 = pc') (hq : (pc : Int) + o = (pq : Int))
    (Ky : x.toInt < y.toInt → oWP ω γ κ Q T pq L S) (Kn : y.toInt ≤ x.toInt → oWP ω γ κ Q T pc' L S) : oWP ω γ κ Q T pc L (.int y :: .int x :: S) :=
  ow_icmp X pc' pq hd hp hq (fun q => Ky (by simp only [if_icmp.holds, decide_eq_true_eq, decide_eq_false_iff_not, beq_iff_eq, bne_iff_ne, ne_eq, Int32.lt_iff_toInt_lt, Int32.le_iff_toInt_le, ← Int32.toInt_inj, o0, GT.gt, GE.ge, beq_eq_false_iff_ne, bne_eq_false_iff_eq, Decidable.not_not] at q; omega)) (fun q => Kn (by simp only [if_icmp.holds, decide_eq_true_eq, decide_eq_false_iff_not, beq_iff_eq, bne_iff_ne, ne_eq, Int32.lt_iff_toInt_lt, Int32.le_iff_toInt_le, ← Int32.toInt_inj, o0, GT.gt, GE.ge, beq_eq_false_iff_ne, bne_eq_false_iff_eq, Decidable.not_not] at q; omega))
theorem ow_if_ge (X : oSt Z ω γ κ T h cs ss) (pc' pq : Nat) {x : Int32} {o : Int} (hd : decode κ.1 pc = .ok (.ifCond .ge o, 3)) (hp : pc + 3 = pc') (hq : (pc : Int) + o = (pq : Int))
    (Ky : 0 ≤ x.toInt → oWP ω γ κ Q T pq L S) (Kn : x.toInt < 0 → oWP ω γ κ Q T pc' L S) : oWP ω γ κ Q T pc L (.int x :: S) :=
  ow_if X pc' pq hd hp hq (fun q => Ky (by simp only [ifCond.holds, decide_eq_true_eq, decide_eq_false_iff_not, beq_iff_eq, bne_iff_ne, ne_eq, Int32.lt_iff_toInt_lt, Int32.le_iff_toInt_le, ← Int32.toInt_inj, o0, GT.gt, GE.ge, beq_eq_false_iff_ne, bne_eq_false_iff_eq, Decidable.not_not] at q; omega)) (fun q => Kn (by simp only [ifCond.holds, decide_eq_true_eq, decide_eq_false_iff_not, beq_iff_eq, bne_iff_ne, ne_eq, Int32.lt_iff_toInt_lt, Int32.le_iff_toInt_le, ← Int32.toInt_inj, o0, GT.gt, GE.ge, beq_eq_false_iff_ne, bne_eq_false_iff_eq, Decidable.not_not] at q; omega))
theorem ow_icmp_ge (X : oSt Z ω γ κ T h cs ss) (pc' pq : Nat) {x y : Int32} {o : Int} (hd : decode κ.1 pc = .ok (.if_icmp .ge o, 3)) (hp : pc + 3 = pc') (hq : (pc : Int) + o = (pq : Int))
    (Ky : y.toInt ≤ x.toInt → oWP ω γ κ Q T pq L S) (Kn : x.toInt < y.toInt → oWP ω γ κ Q T pc' L S) : oWP ω γ κ Q T pc L (.int y :: .int x :: S) :=
  ow_icmp X pc' pq hd hp hq (fun q => Ky (by simp only [if_icmp.holds, decide_eq_true_eq, decide_eq_false_iff_not, beq_iff_eq, bne_iff_ne, ne_eq, Int32.lt_iff_toInt_lt, Int32.le_iff_toInt_le, ← Int32.toInt_inj, o0, GT.gt, GE.ge, beq_eq_false_iff_ne, bne_eq_false_iff_eq, Decidable.not_not] at q; omega)) (fun q => Kn (by simp only [if_icmp.holds, decide_eq_true_eq, decide_eq_false_iff_not, beq_iff_eq, bne_iff_ne, ne_eq, Int32.lt_iff_toInt_lt, Int32.le_iff_toInt_le, ← Int32.toInt_inj, o0, GT.gt, GE.ge, beq_eq_false_iff_ne, bne_eq_false_iff_eq, Decidable.not_not] at q; omega))
theorem ow_if_gt (X : oSt Z ω γ κ T h cs ss) (pc' pq : Nat) {x : Int32} {o : Int} (hd : decode κ.1 pc = .ok (.ifCond .gt o, 3)) (hp : pc + 3 = pc') (hq : (pc : Int) + o = (pq : Int))
    (Ky : 0 < x.toInt → oWP ω γ κ Q T pq L S) (Kn : x.toInt ≤ 0 → oWP ω γ κ Q T pc' L S) : oWP ω γ κ Q T pc L (.int x :: S) :=
  ow_if X pc' pq hd hp hq (fun q => Ky (by simp only [ifCond.holds, decide_eq_true_eq, decide_eq_false_iff_not, beq_iff_eq, bne_iff_ne, ne_eq, Int32.lt_iff_toInt_lt, Int32.le_iff_toInt_le, ← Int32.toInt_inj, o0, GT.gt, GE.ge, beq_eq_false_iff_ne, bne_eq_false_iff_eq, Decidable.not_not] at q; omega)) (fun q => Kn (by simp only [ifCond.holds, decide_eq_true_eq, decide_eq_false_iff_not, beq_iff_eq, bne_iff_ne, ne_eq, Int32.lt_iff_toInt_lt, Int32.le_iff_toInt_le, ← Int32.toInt_inj, o0, GT.gt, GE.ge, beq_eq_false_iff_ne, bne_eq_false_iff_eq, Decidable.not_not] at q; omega))
theorem ow_icmp_gt (X : oSt Z ω γ κ T h cs ss) (pc' pq : Nat) {x y : Int32} {o : Int} (hd : decode κ.1 pc = .ok (.if_icmp .gt o, 3)) (hp : pc + 3 = pc') (hq : (pc : Int) + o = (pq : Int))
    (Ky : y.toInt < x.toInt → oWP ω γ κ Q T pq L S) (Kn : x.toInt ≤ y.toInt → oWP ω γ κ Q T pc' L S) : oWP ω γ κ Q T pc L (.int y :: .int x :: S) :=
  ow_icmp X pc' pq hd hp hq (fun q => Ky (by simp only [if_icmp.holds, decide_eq_true_eq, decide_eq_false_iff_not, beq_iff_eq, bne_iff_ne, ne_eq, Int32.lt_iff_toInt_lt, Int32.le_iff_toInt_le, ← Int32.toInt_inj, o0, GT.gt, GE.ge, beq_eq_false_iff_ne, bne_eq_false_iff_eq, Decidable.not_not] at q; omega)) (fun q => Kn (by simp only [if_icmp.holds, decide_eq_true_eq, decide_eq_false_iff_not, beq_iff_eq, bne_iff_ne, ne_eq, Int32.lt_iff_toInt_lt, Int32.le_iff_toInt_le, ← Int32.toInt_inj, o0, GT.gt, GE.ge, beq_eq_false_iff_ne, bne_eq_false_iff_eq, Decidable.not_not] at q; omega))
theorem ow_if_le (X : oSt Z ω γ κ T h cs ss) (pc' pq : Nat) {x : Int32} {o : Int} (hd : decode κ.1 pc = .ok (.ifCond .le o, 3)) (hp : pc + 3 = pc') (hq : (pc : Int) + o = (pq : Int))
    (Ky : x.toInt ≤ 0 → oWP ω γ κ Q T pq L S) (Kn : 0 < x.toInt → oWP ω γ κ Q T pc' L S) : oWP ω γ κ Q T pc L (.int x :: S) :=
  ow_if X pc' pq hd hp hq (fun q => Ky (by simp only [ifCond.holds, decide_eq_true_eq, decide_eq_false_iff_not, beq_iff_eq, bne_iff_ne, ne_eq, Int32.lt_iff_toInt_lt, Int32.le_iff_toInt_le, ← Int32.toInt_inj, o0, GT.gt, GE.ge, beq_eq_false_iff_ne, bne_eq_false_iff_eq, Decidable.not_not] at q; omega)) (fun q => Kn (by simp only [ifCond.holds, decide_eq_true_eq, decide_eq_false_iff_not, beq_iff_eq, bne_iff_ne, ne_eq, Int32.lt_iff_toInt_lt, Int32.le_iff_toInt_le, ← Int32.toInt_inj, o0, GT.gt, GE.ge, beq_eq_false_iff_ne, bne_eq_false_iff_eq, Decidable.not_not] at q; omega))
theorem ow_icmp_le (X : oSt Z ω γ κ T h cs ss) (pc' pq : Nat) {x y : Int32} {o : Int} (hd : decode κ.1 pc = .ok (.if_icmp .le o, 3)) (hp : pc + 3 = pc') (hq : (pc : Int) + o = (pq : Int))
    (Ky : x.toInt ≤ y.toInt → oWP ω γ κ Q T pq L S) (Kn : y.toInt < x.toInt → oWP ω γ κ Q T pc' L S) : oWP ω γ κ Q T pc L (.int y :: .int x :: S) :=
  ow_icmp X pc' pq hd hp hq (fun q => Ky (by simp only [if_icmp.holds, decide_eq_true_eq, decide_eq_false_iff_not, beq_iff_eq, bne_iff_ne, ne_eq, Int32.lt_iff_toInt_lt, Int32.le_iff_toInt_le, ← Int32.toInt_inj, o0, GT.gt, GE.ge, beq_eq_false_iff_ne, bne_eq_false_iff_eq, Decidable.not_not] at q; omega)) (fun q => Kn (by simp only [if_icmp.holds, decide_eq_true_eq, decide_eq_false_iff_not, beq_iff_eq, bne_iff_ne, ne_eq, Int32.lt_iff_toInt_lt, Int32.le_iff_toInt_le, ← Int32.toInt_inj, o0, GT.gt, GE.ge, beq_eq_false_iff_ne, bne_eq_false_iff_eq, Decidable.not_not] at q; omega))
theorem ow_lcmp (X : oSt Z ω γ κ T h cs ss) (pc' : Nat) {x y : Int64} (hd : decode κ.1 pc = .ok (.lcmp, 1)) (hp : pc + 1 = pc')
    (K : oWP ω γ κ Q T pc' L (.int (lcmpW x y) :: S)) : oWP ω γ κ Q T pc L (.long y :: .long x :: S) := by
  obtain ⟨hx, hby, -, -, -, -, -, -, -, -, -, locs, Y, -⟩ := X
  subst hp
  obtain ⟨s₂, o, hs, r⟩ := K
  exact ⟨s₂, o, XS.lcmp Y.here hx rfl (hb hby hd) rfl hs, r⟩
theorem ow_lcmp_eq (X : oSt Z ω γ κ T h cs ss) (pc1 pc' pq : Nat) {x y : Int64} {o : Int} (hd : decode κ.1 pc = .ok (.lcmp, 1)) (hp1 : pc + 1 = pc1) (hd' : decode κ.1 pc1 = .ok (.ifCond .eq o, 3)) (hp : pc1 + 3 = pc') (hq : (pc1 : Int) + o = (pq : Int))
    (Ky : x.toInt = y.toInt → oWP ω γ κ Q T pq L S) (Kn : x.toInt ≠ y.toInt → oWP ω γ κ Q T pc' L S) : oWP ω γ κ Q T pc L (.long y :: .long x :: S) := by
  refine ow_lcmp X pc1 hd hp1 (ow_if_eq X pc' pq hd' hp hq (fun q => Ky ?_) (fun q => Kn ?_))
  · obtain ⟨c1, c2, c3⟩ := c_lcmp x y
    rcases Int.lt_trichotomy x.toInt y.toInt with a | a | a
    · have := c1 a; omega
    · have := c2 a; omega
    · have := c3 a; omega
  · obtain ⟨c1, c2, c3⟩ := c_lcmp x y
    rcases Int.lt_trichotomy x.toInt y.toInt with a | a | a
    · have := c1 a; omega
    · have := c2 a; omega
    · have := c3 a; omega
theorem ow_lcmp_ne (X : oSt Z ω γ κ T h cs ss) (pc1 pc' pq : Nat) {x y : Int64} {o : Int} (hd : decode κ.1 pc = .ok (.lcmp, 1)) (hp1 : pc + 1 = pc1) (hd' : decode κ.1 pc1 = .ok (.ifCond .ne o, 3)) (hp : pc1 + 3 = pc') (hq : (pc1 : Int) + o = (pq : Int))
    (Ky : x.toInt ≠ y.toInt → oWP ω γ κ Q T pq L S) (Kn : x.toInt = y.toInt → oWP ω γ κ Q T pc' L S) : oWP ω γ κ Q T pc L (.long y :: .long x :: S) := by
  refine ow_lcmp X pc1 hd hp1 (ow_if_ne X pc' pq hd' hp hq (fun q => Ky ?_) (fun q => Kn ?_))
  · obtain ⟨c1, c2, c3⟩ := c_lcmp x y
    rcases Int.lt_trichotomy x.toInt y.toInt with a | a | a
    · have := c1 a; omega
    · have := c2 a; omega
    · have := c3 a; omega
  · obtain ⟨c1, c2, c3⟩ := c_lcmp x y
    rcases Int.lt_trichotomy x.toInt y.toInt with a | a | a
    · have := c1 a; omega
    · have := c2 a; omega
    · have := c3 a; omega
theorem ow_lcmp_lt (X : oSt Z ω γ κ T h cs ss) (pc1 pc' pq : Nat) {x y : Int64} {o : Int} (hd : decode κ.1 pc = .ok (.lcmp, 1)) (hp1 : pc + 1 = pc1) (hd' : decode κ.1 pc1 = .ok (.ifCond .lt o, 3)) (hp : pc1 + 3 = pc') (hq : (pc1 : Int) + o = (pq : Int))
    (Ky : x.toInt < y.toInt → oWP ω γ κ Q T pq L S) (Kn : y.toInt ≤ x.toInt → oWP ω γ κ Q T pc' L S) : oWP ω γ κ Q T pc L (.long y :: .long x :: S) := by
  refine ow_lcmp X pc1 hd hp1 (ow_if_lt X pc' pq hd' hp hq (fun q => Ky ?_) (fun q => Kn ?_))
  · obtain ⟨c1, c2, c3⟩ := c_lcmp x y
    rcases Int.lt_trichotomy x.toInt y.toInt with a | a | a
    · have := c1 a; omega
    · have := c2 a; omega
    · have := c3 a; omega
  · obtain ⟨c1, c2, c3⟩ := c_lcmp x y
    rcases Int.lt_trichotomy x.toInt y.toInt with a | a | a
    · have := c1 a; omega
    · have := c2 a; omega
    · have := c3 a; omega
theorem ow_lcmp_ge (X : oSt Z ω γ κ T h cs ss) (pc1 pc' pq : Nat) {x y : Int64} {o : Int} (hd : decode κ.1 pc = .ok (.lcmp, 1)) (hp1 : pc + 1 = pc1) (hd' : decode κ.1 pc1 = .ok (.ifCond .ge o, 3)) (hp : pc1 + 3 = pc') (hq : (pc1 : Int) + o = (pq : Int))
    (Ky : y.toInt ≤ x.toInt → oWP ω γ κ Q T pq L S) (Kn : x.toInt < y.toInt → oWP ω γ κ Q T pc' L S) : oWP ω γ κ Q T pc L (.long y :: .long x :: S) := by
  refine ow_lcmp X pc1 hd hp1 (ow_if_ge X pc' pq hd' hp hq (fun q => Ky ?_) (fun q => Kn ?_))
  · obtain ⟨c1, c2, c3⟩ := c_lcmp x y
    rcases Int.lt_trichotomy x.toInt y.toInt with a | a | a
    · have := c1 a; omega
    · have := c2 a; omega
    · have := c3 a; omega
  · obtain ⟨c1, c2, c3⟩ := c_lcmp x y
    rcases Int.lt_trichotomy x.toInt y.toInt with a | a | a
    · have := c1 a; omega
    · have := c2 a; omega
    · have := c3 a; omega
theorem ow_lcmp_gt (X : oSt Z ω γ κ T h cs ss) (pc1 pc' pq : Nat) {x y : Int64} {o : Int} (hd : decode κ.1 pc = .ok (.lcmp, 1)) (hp1 : pc + 1 = pc1) (hd' : decode κ.1 pc1 = .ok (.ifCond .gt o, 3)) (hp : pc1 + 3 = pc') (hq : (pc1 : Int) + o = (pq : Int))
    (Ky : y.toInt < x.toInt → oWP ω γ κ Q T pq L S) (Kn : x.toInt ≤ y.toInt → oWP ω γ κ Q T pc' L S) : oWP ω γ κ Q T pc L (.long y :: .long x :: S) := by
  refine ow_lcmp X pc1 hd hp1 (ow_if_gt X pc' pq hd' hp hq (fun q => Ky ?_) (fun q => Kn ?_))
  · obtain ⟨c1, c2, c3⟩ := c_lcmp x y
    rcases Int.lt_trichotomy x.toInt y.toInt with a | a | a
    · have := c1 a; omega
    · have := c2 a; omega
    · have := c3 a; omega
  · obtain ⟨c1, c2, c3⟩ := c_lcmp x y
    rcases Int.lt_trichotomy x.toInt y.toInt with a | a | a
    · have := c1 a; omega
    · have := c2 a; omega
    · have := c3 a; omega
theorem ow_lcmp_le (X : oSt Z ω γ κ T h cs ss) (pc1 pc' pq : Nat) {x y : Int64} {o : Int} (hd : decode κ.1 pc = .ok (.lcmp, 1)) (hp1 : pc + 1 = pc1) (hd' : decode κ.1 pc1 = .ok (.ifCond .le o, 3)) (hp : pc1 + 3 = pc') (hq : (pc1 : Int) + o = (pq : Int))
    (Ky : x.toInt ≤ y.toInt → oWP ω γ κ Q T pq L S) (Kn : y.toInt < x.toInt → oWP ω γ κ Q T pc' L S) : oWP ω γ κ Q T pc L (.long y :: .long x :: S) := by
  refine ow_lcmp X pc1 hd hp1 (ow_if_le X pc' pq hd' hp hq (fun q => Ky ?_) (fun q => Kn ?_))
  · obtain ⟨c1, c2, c3⟩ := c_lcmp x y
    rcases Int.lt_trichotomy x.toInt y.toInt with a | a | a
    · have := c1 a; omega
    · have := c2 a; omega
    · have := c3 a; omega
  · obtain ⟨c1, c2, c3⟩ := c_lcmp x y
    rcases Int.lt_trichotomy x.toInt y.toInt with a | a | a
    · have := c1 a; omega
    · have := c2 a; omega
    · have := c3 a; omega
theorem ow_ifnull (X : oSt Z ω γ κ T h cs ss) (pc' pq : Nat) {v : Value} {o : Int} (hv : v.isRef = true) (hd : decode κ.1 pc = .ok (.ifnull o, 3)) (hp : pc + 3 = pc') (hq : (pc : Int) + o = (pq : Int))
    (Ky : v = .null → oWP ω γ κ Q T pq L S) (Kn : v ≠ .null → oWP ω γ κ Q T pc' L S) : oWP ω γ κ Q T pc L (v :: S) := by
  obtain ⟨hx, hby, -, -, -, -, -, -, -, -, -, locs, Y, -⟩ := X
  subst hp
  rcases ref_cases hv with rfl | ⟨a, rfl⟩
  · obtain ⟨s₂, o, hs, r⟩ := Ky rfl
    exact ⟨s₂, o, XS.ifnullYes Y.here hx rfl (pc0 := pc) rfl (hb hby hd) rfl (by omega) (by omega) hs, r⟩
  · obtain ⟨s₂, o, hs, r⟩ := Kn (by simp)
    exact ⟨s₂, o, XS.ifnullNo Y.here hx rfl (hb hby hd) rfl hs, r⟩
theorem ow_ifnonnull (X : oSt Z ω γ κ T h cs ss) (pc' pq : Nat) {v : Value} {o : Int} (hv : v.isRef = true) (hd : decode κ.1 pc = .ok (.ifnonnull o, 3)) (hp : pc + 3 = pc') (hq : (pc : Int) + o = (pq : Int))
    (Ky : v ≠ .null → oWP ω γ κ Q T pq L S) (Kn : v = .null → oWP ω γ κ Q T pc' L S) : oWP ω γ κ Q T pc L (v :: S) := by
  obtain ⟨hx, hby, -, -, -, -, -, -, -, -, -, locs, Y, -⟩ := X
  subst hp
  rcases ref_cases hv with rfl | ⟨a, rfl⟩
  · obtain ⟨s₂, o, hs, r⟩ := Kn rfl
    exact ⟨s₂, o, XS.ifnonnullNo Y.here hx rfl (hb hby hd) rfl hs, r⟩
  · obtain ⟨s₂, o, hs, r⟩ := Ky (by simp)
    exact ⟨s₂, o, XS.ifnonnullYes Y.here hx rfl (pc0 := pc) rfl (hb hby hd) rfl (by omega) (by omega) hs, r⟩
theorem ow_acmp_eq (X : oSt Z ω γ κ T h cs ss) (pc' pq : Nat) {v w : Value} {o : Int} (hv : v.isRef = true) (hw : w.isRef = true) (hd : decode κ.1 pc = .ok (.if_acmp .eq o, 3)) (hp : pc + 3 = pc') (hq : (pc : Int) + o = (pq : Int))
    (Ky : v = w → oWP ω γ κ Q T pq L S) (Kn : v ≠ w → oWP ω γ κ Q T pc' L S) : oWP ω γ κ Q T pc L (w :: v :: S) := by
  obtain ⟨hx, hby, -, -, -, -, -, -, -, -, -, locs, Y, -⟩ := X
  subst hp
  by_cases e : v = w
  · obtain ⟨s₂, o, hs, r⟩ := Ky e
    exact ⟨s₂, o, RoadKit.acmp Y hx rfl hv hw (pc0 := pc) rfl (hb hby hd) rfl (same := true) (by simp [e]) (by omega) (by simp [acV]; omega) hs, r⟩
  · obtain ⟨s₂, o, hs, r⟩ := Kn e
    exact ⟨s₂, o, RoadKit.acmp Y hx rfl hv hw (pc0 := pc) rfl (hb hby hd) rfl (same := false) (by simp [e]) (by omega) (by simp [acV]) hs, r⟩
theorem ow_acmp_ne (X : oSt Z ω γ κ T h cs ss) (pc' pq : Nat) {v w : Value} {o : Int} (hv : v.isRef = true) (hw : w.isRef = true) (hd : decode κ.1 pc = .ok (.if_acmp .ne o, 3)) (hp : pc + 3 = pc') (hq : (pc : Int) + o = (pq : Int))
    (Ky : v ≠ w → oWP ω γ κ Q T pq L S) (Kn : v = w → oWP ω γ κ Q T pc' L S) : oWP ω γ κ Q T pc L (w :: v :: S) := by
  obtain ⟨hx, hby, -, -, -, -, -, -, -, -, -, locs, Y, -⟩ := X
  subst hp
  by_cases e : v = w
  · obtain ⟨s₂, o, hs, r⟩ := Kn e
    exact ⟨s₂, o, RoadKit.acmp Y hx rfl hv hw (pc0 := pc) rfl (hb hby hd) rfl (same := true) (by simp [e]) (by omega) (by simp [acV]) hs, r⟩
  · obtain ⟨s₂, o, hs, r⟩ := Ky e
    exact ⟨s₂, o, RoadKit.acmp Y hx rfl hv hw (pc0 := pc) rfl (hb hby hd) rfl (same := false) (by simp [e]) (by omega) (by simp [acV]; omega) hs, r⟩
theorem ow_ret (X : oSt Z ω γ κ T h cs ss) {w : Value} {t : FieldType} {i : Instr} (hret : κ.2.2.2.2.1 = some t) (hn : narrow t w = w)
    (hi : (i = .ireturn ∧ (t = .int ∨ t = .boolean ∨ t = .byte ∨ t = .char ∨ t = .short) ∧ ∃ z, w = .int z) ∨ (i = .lreturn ∧ t = .long ∧ ∃ z, w = .long z) ∨ (i = .dreturn ∧ t = .double ∧ ∃ z, w = .double z) ∨ (i = .freturn ∧ t = .float ∧ ∃ z, w = .float z) ∨ (i = .areturn ∧ t.isReference = true ∧ w.isRef = true))
    (hd : decode κ.1 pc = .ok (i, 1)) (hc : cs ≤ κ.2.2.2.2.2.cells) (hsl : ss ≤ κ.2.2.2.2.2.slots) (hQ : Q (some w) h) : oWP ω γ κ Q T pc L (w :: S) := by
  obtain ⟨hx, hby, -, -, -, hr, hlk, -, -, ⟨-, k0, hS, hk⟩, hT, locs, Y, N⟩ := X
  obtain ⟨fs, hl, hrun, hended, -, hW, hB, hsame⟩ := Stand.leaveW (s := γ.2.2.1.setVm γ.2.2.2.2.2.2.2.2) (vm₁ := γ.2.2.1.vm) Y hS (by rw [hT]; exact hk) (v := some w) (fun q => by rw [hr, hret] at q; cases q) hlk
  refine ⟨_, _, retOut Y hx (hr.trans hret) hn hi (hb hby hd) hl, hrun, hended, _, locs, rfl, ⟨N, ?_⟩, ⟨_, rfl⟩, hW, hB, hsame.mono hc hsl⟩
  show Q (some w) T.heap
  rw [hT]; exact hQ
theorem ow_retI (X : oSt Z ω γ κ T h cs ss) {z : Int32} (hret : κ.2.2.2.2.1 = some .int) (hd : decode κ.1 pc = .ok (.ireturn, 1)) (hc : cs ≤ κ.2.2.2.2.2.cells) (hsl : ss ≤ κ.2.2.2.2.2.slots) (hQ : Q (some (.int z)) h) : oWP ω γ κ Q T pc L (.int z :: S) :=
  ow_ret X hret rfl (Or.inl ⟨rfl, Or.inl rfl, z, rfl⟩) hd hc hsl hQ
theorem ow_retZ (X : oSt Z ω γ κ T h cs ss) {z : Int32} (hret : κ.2.2.2.2.1 = some .boolean) (hd : decode κ.1 pc = .ok (.ireturn, 1)) (hc : cs ≤ κ.2.2.2.2.2.cells) (hsl : ss ≤ κ.2.2.2.2.2.slots) (hz : z = 0 ∨ z = 1) (hQ : Q (some (.int z)) h) : oWP ω γ κ Q T pc L (.int z :: S) :=
  ow_ret X hret (by rcases hz with rfl | rfl <;> rfl) (Or.inl ⟨rfl, Or.inr (Or.inl rfl), z, rfl⟩) hd hc hsl hQ
theorem ow_retC (X : oSt Z ω γ κ T h cs ss) {z : Int32} (hret : κ.2.2.2.2.1 = some .char) (hd : decode κ.1 pc = .ok (.ireturn, 1)) (hc : cs ≤ κ.2.2.2.2.2.cells) (hsl : ss ≤ κ.2.2.2.2.2.slots) (hz : z.toUInt32.toUInt16.toUInt32.toInt32 = z) (hQ : Q (some (.int z)) h) : oWP ω γ κ Q T pc L (.int z :: S) :=
  ow_ret X hret (by show Value.int z.toUInt32.toUInt16.toUInt32.toInt32 = _; rw [hz]) (Or.inl ⟨rfl, Or.inr (Or.inr (Or.inr (Or.inl rfl))), z, rfl⟩) hd hc hsl hQ
theorem ow_retJ (X : oSt Z ω γ κ T h cs ss) {z : Int64} (hret : κ.2.2.2.2.1 = some .long) (hd : decode κ.1 pc = .ok (.lreturn, 1)) (hc : cs ≤ κ.2.2.2.2.2.cells) (hsl : ss ≤ κ.2.2.2.2.2.slots) (hQ : Q (some (.long z)) h) : oWP ω γ κ Q T pc L (.long z :: S) :=
  ow_ret X hret rfl (Or.inr (Or.inl ⟨rfl, rfl, z, rfl⟩)) hd hc hsl hQ
theorem ow_retA (X : oSt Z ω γ κ T h cs ss) {v : Value} {t : FieldType} (hret : κ.2.2.2.2.1 = some t) (ht : t.isReference = true) (hv : v.isRef = true) (hd : decode κ.1 pc = .ok (.areturn, 1)) (hc : cs ≤ κ.2.2.2.2.2.cells) (hsl : ss ≤ κ.2.2.2.2.2.slots) (hQ : Q (some v) h) : oWP ω γ κ Q T pc L (v :: S) :=
  ow_ret X hret (by cases t <;> first | rfl | cases ht) (Or.inr (Or.inr (Or.inr (Or.inr ⟨rfl, ht, hv⟩)))) hd hc hsl hQ
theorem ow_retV (X : oSt Z ω γ κ T h cs ss) (hret : κ.2.2.2.2.1 = none) (hd : decode κ.1 pc = .ok (.return_, 1)) (hc : cs ≤ κ.2.2.2.2.2.cells) (hsl : ss ≤ κ.2.2.2.2.2.slots) (hQ : Q none h) : oWP ω γ κ Q T pc L [] := by
  obtain ⟨hx, hby, -, -, -, hr, hlk, -, -, ⟨-, k0, hS, hk⟩, hT, locs, Y, N⟩ := X
  obtain ⟨fs, hl, hrun, hended, -, hW, hB, hsame⟩ := Stand.leaveW (s := γ.2.2.1.setVm γ.2.2.2.2.2.2.2.2) (vm₁ := γ.2.2.1.vm) Y hS (by rw [hT]; exact hk) (v := none) (fun _ => rfl) hlk
  refine ⟨_, _, Y.returnOut hx (hr.trans hret) (hb hby hd) hl, hrun, hended, _, locs, rfl, ⟨N, ?_⟩, ⟨_, rfl⟩, hW, hB, hsame.mono hc hsl⟩
  show Q none T.heap
  rw [hT]; exact hQ
theorem ow_getF (X : oSt Z ω γ κ T h cs ss) (pc' i : Nat) {own O n d : String} {idx : Nat} {a : Addr} {v : Value} (hw : tables_1[i]? = some (.fieldLink own idx O n d)) (ho : κ.2.2.1 = own) (F : Fld Z h a O n d v) (hd : decode κ.1 pc = .ok (.getfield idx, 3)) (hp : pc + 3 = pc')
    (K : ∀ T', oSt Z ω γ κ T' h cs ss → oWP ω γ κ Q T' pc' L (v :: S)) : oWP ω γ κ Q T pc L (.ref a :: S) := by
  have hw' := oSt_at X i hw
  obtain ⟨hx, hby, hml, hown, hnm, hr, hlk, hZ, hT1, hn0, hT, locs, Y, N⟩ := X
  subst hp ho
  obtain ⟨T', Y', e', st⟩ := getF Y hx hZ hown (host := "") (Or.inl hw') Via.refl hT F (g := mkF γ.2.2.2.1 pc L (.ref a :: S)) rfl rfl (hb hby hd)
  obtain ⟨s₂, o, hs, r⟩ := K T' ⟨hx, hby, hml, hown, hnm, hr, hlk, hZ, hT1, hn0, e', locs, Y', N⟩
  exact ⟨s₂, o, st _ hs, r⟩
theorem ow_getS (X : oSt Z ω γ κ T h cs ss) (pc' i : Nat) {own O n d : String} {idx : Nat} {v : Value} (hw : tables_1[i]? = some (.fieldLink own idx O n d)) (ho : κ.2.2.1 = own) (F : Sta Z h O n d v) (hd : decode κ.1 pc = .ok (.getstatic idx, 3)) (hp : pc + 3 = pc')
    (K : ∀ T', oSt Z ω γ κ T' h cs ss → oWP ω γ κ Q T' pc' L (v :: S)) : oWP ω γ κ Q T pc L S := by
  have hw' := oSt_at X i hw
  obtain ⟨hx, hby, hml, hown, hnm, hr, hlk, hZ, hT1, hn0, hT, locs, Y, N⟩ := X
  subst hp ho
  obtain ⟨T', Y', e', st⟩ := getS Y hx hZ hown hw' Via.refl hT F (g := mkF γ.2.2.2.1 pc L S) rfl (hb hby hd) (host := "")
  obtain ⟨s₂, o, hs, r⟩ := K T' ⟨hx, hby, hml, hown, hnm, hr, hlk, hZ, hT1, hn0, e', locs, Y', N⟩
  exact ⟨s₂, o, st _ hs, r⟩
theorem ow_cast (X : oSt Z ω γ κ T h cs ss) (pc' i : Nat) {own K : String} {idx : Nat} {a : Addr} (hw : tables_1[i]? = some (.classLink own idx K)) (ho : κ.2.2.1 = own) (F : Ins Z h a K true) (hd : decode κ.1 pc = .ok (.checkcast idx, 3)) (hp : pc + 3 = pc')
    (K' : ∀ T', oSt Z ω γ κ T' h cs ss → oWP ω γ κ Q T' pc' L (.ref a :: S)) : oWP ω γ κ Q T pc L (.ref a :: S) := by
  have hw' := oSt_at X i hw
  obtain ⟨hx, hby, hml, hown, hnm, hr, hlk, hZ, hT1, hn0, hT, locs, Y, N⟩ := X
  subst hp ho
  obtain ⟨T', Y', e', st⟩ := castY Y hx hZ hown hw' hT F (g := mkF γ.2.2.2.1 pc L (.ref a :: S)) rfl rfl (hb hby hd)
  obtain ⟨s₂, o, hs, r⟩ := K' T' ⟨hx, hby, hml, hown, hnm, hr, hlk, hZ, hT1, hn0, e', locs, Y', N⟩
  exact ⟨s₂, o, st _ hs, r⟩
theorem ow_putF (X : oSt Z ω γ κ T h cs ss) (pc' i k : Nat) {own O n d C : String} {idx kk : Nat} {a : Addr} {v old : Value} {ty : FieldType} (hw : tables_1[i]? = some (.fieldLink own idx O n d)) (ho : κ.2.2.1 = own) (F : Fld Z h a O n d old) (E : Exa Z h a C)
    (hl : (Jvm.Cond.lays C O n d).before ω.2.2 Z = true ∨ ((Jvm.Cond.laysFinal C O n d).before ω.2.2 Z = true ∧ κ.2.2.1 = O ∧ κ.2.2.2.1 = "<init>")) (hi : tables_1[k]? = some (.instantiable C kk)) (hty : parseFieldDescriptor d = some ty) (hn : narrow ty v = v) (hf : fits ty v = true) (ha : ω.2.1 ≤ a)
    (hd : decode κ.1 pc = .ok (.putfield idx, 3)) (hp : pc + 3 = pc')
    (K : ∀ T' h', oSt Z ω γ κ T' h' cs ss → Wr h h' a (RoadKit.slotOf Z O n d) v → oWP ω γ κ Q T' pc' L S) : oWP ω γ κ Q T pc L (v :: .ref a :: S) := by
  have hw' := oSt_at X i hw
  have hi' := oSt_at X k hi
  obtain ⟨hx, hby, hml, hown, hnm, hr, hlk, hZ, hT1, hn0, hT, locs, Y, N⟩ := X
  subst hp ho
  obtain ⟨T', h', Y', e', W, st⟩ := putF Y hx hZ hown (host := "") (Or.inl hw') Via.refl hT F E (hl.imp id fun q => ⟨q.1, q.2.1, hnm.trans q.2.2⟩) hi' hty hn hf (g := mkF γ.2.2.2.1 pc L (v :: .ref a :: S)) rfl rfl (hb hby hd)
  obtain ⟨s₂, o, hs, r⟩ := K T' h' ⟨hx, hby, hml, hown, hnm, hr, hlk, hZ, hT1, oSnW hn0 W, e', _, Y', Fr.snoc Y' N ha⟩ W
  exact ⟨s₂, o, st _ hs, r⟩
theorem ow_new (X : oSt Z ω γ κ T h cs ss) (pc' i1 i2 i3 : Nat) {own C : String} {idx n : Nat} (w1 : tables_1[i1]? = some (.classLink own idx C)) (ho : κ.2.2.1 = own) (w2 : tables_1[i2]? = some (.instantiable C n)) (w3 : tables_1[i3]? = some (.initialized C))
    (hd : decode κ.1 pc = .ok (.new idx, 3)) (hp : pc + 3 = pc') (hc : cs + 1 ≤ κ.2.2.2.2.2.cells) (hsl : ss + n ≤ κ.2.2.2.2.2.slots)
    (K : ∀ T' h' a, a = h.size → oSt Z ω γ κ T' h' (cs + 1) (ss + n) → Ext h h' → Exa Z h' a C → (∀ {O nm d : String} {ty : FieldType}, Laid Z ω.2.2 C O nm d → parseFieldDescriptor d = some ty → Fld Z h' a O nm d (defaultValue ty)) → ω.2.1 ≤ a → oWP ω γ κ Q T' pc' L (.ref a :: S)) : oWP ω γ κ Q T pc L S := by
  have w1' := oSt_at X i1 w1
  have w2' := oSt_at X i2 w2
  have w3' := oSt_at X i3 w3
  have hN := oSt_n0 X
  obtain ⟨hx, hby, hml, hown, hnm, hr, hlk, hZ, hT1, hn0, hT, locs, Y, N⟩ := X
  subst hp ho
  obtain ⟨T', h', Y', e', E, A, D, -, st⟩ := newO Y hx hZ hown w1' w2' w3' hT (g := mkF γ.2.2.2.1 pc L S) rfl (hb hby hd) hc hsl
  obtain ⟨s₂, o, hs, r⟩ := K T' h' h.size rfl ⟨hx, hby, hml, hown, hnm, hr, hlk, hZ, hT1, oSnE hn0 E, e', _, Y', N⟩ E A D hN
  exact ⟨s₂, o, st _ hs, r⟩
theorem ow_initO (X : oSt Z ω γ κ T h cs ss) (pc' i1 i2 i3 : Nat) {own : String} {idx : Nat} {a : Addr} (w1 : tables_1[i1]? = some (.methodLink own idx Lib.objectInit)) (ho : κ.2.2.1 = own) (w2 : tables_1[i2]? = some (.instanceMethod Lib.objectInit)) (w3 : tables_1[i3]? = some (.code Lib.objectInit ⟨#[0xb1]⟩ 1 none))
    (hd : decode κ.1 pc = .ok (.invokespecial idx, 3)) (hp : pc + 3 = pc') (hL : L.size = κ.2.1) (hf : 1 ≤ κ.2.2.2.2.2.frames) {W : Nat} (hW : (S.map fun v => v.category).sum ≤ W) (hl : W + 12 ≤ κ.2.2.2.2.2.locals)
    (K : ∀ T', oSt Z ω γ κ T' h cs ss → oWP ω γ κ Q T' pc' L S) : oWP ω γ κ Q T pc L (.ref a :: S) := by
  have w1' := oSt_at X i1 w1
  have w2' := oSt_at X i2 w2
  have w3' := oSt_at X i3 w3
  obtain ⟨hx, hby, hml, hown, hnm, hr, hlk, hZ, hT1, hn0, hT, locs, Y, N⟩ := X
  subst hp ho
  obtain ⟨T', Y', e', st⟩ := initO Y hx hZ hown w1' w2' w3' hT (g := mkF γ.2.2.2.1 pc L (.ref a :: S)) rfl (by rw [hml]; exact hL) rfl (hb hby hd) hf (W := W) (by show 2 * 0 + _ ≤ _; omega) hl
  obtain ⟨s₂, o, hs, r⟩ := K T' ⟨hx, hby, hml, hown, hnm, hr, hlk, hZ, hT1, hn0, e', _, Y', N⟩
  exact ⟨s₂, o, st _ hs, r⟩
theorem ow_callS (X : oSt Z ω γ κ T h cs ss) (pc' i1 i2 i3 i4 : Nat) {own : String} {idx : Nat} {y : MethodName} {κ' : OM} {Q' : Option Value → Heap → Prop} {as : List Value} {ps : List FieldType} {rt : Option FieldType} {W : Nat} {S0 : List Value}
    (w1 : tables_1[i1]? = some (.methodLink own idx y)) (ho : κ.2.2.1 = own) (w2 : tables_1[i2]? = some (.static y)) (w3 : tables_1[i3]? = some (.initialized y.cls)) (w4 : tables_1[i4]? = some (.code y κ'.1 κ'.2.1 κ'.2.2.2.2.1)) (hy : y.cls ≠ "java/lang/invoke/MethodHandle" ∧ y.cls ≠ "java/lang/invoke/VarHandle")
    (C : oC Z ω y κ' [] as.toArray h Q') (hf : κ'.2.2.2.2.2.frames + 1 ≤ κ.2.2.2.2.2.frames) (hl : W + (κ'.2.1 + 11) + κ'.2.2.2.2.2.locals ≤ κ.2.2.2.2.2.locals) (hW : (S.map fun v => v.category).sum ≤ W) (hc : cs + κ'.2.2.2.2.2.cells ≤ κ.2.2.2.2.2.cells) (hs : ss + κ'.2.2.2.2.2.slots ≤ κ.2.2.2.2.2.slots)
    (hpd : parseMethodDescriptor y.desc = some ⟨ps, rt⟩) (hlen : as.length = ps.length) (hS : S0 = as.reverse ++ S) (hL : L.size = κ.2.1) (hd : decode κ.1 pc = .ok (.invokestatic idx, 3)) (hp : pc + 3 = pc')
    (K : ∀ (γ : OG) v T' h', oSt Z ω γ κ T' h' (cs + κ'.2.2.2.2.2.cells) (ss + κ'.2.2.2.2.2.slots) → Q' v h' → oWP ω γ κ Q T' pc' L (v.toList ++ S)) : oWP ω γ κ Q T pc L S0 := by
  have w1' := oSt_at X i1 w1
  have w2' := oSt_at X i2 w2
  have w3' := oSt_at X i3 w3
  have w4' := oSt_at X i4 w4
  have X_ := X
  obtain ⟨hx, hby, hml, hown, hnm, hr, hlk, hZ, hT1, hn0, hT, locs, Y, N⟩ := X
  subst hp ho hS
  obtain ⟨v, vm₁, ⟨T', L', k', n'⟩, -, Y', hS2, hgr, ⟨Lc, ⟨hF, hQ⟩, q1, q2, q3⟩, st⟩ := RoadKit.callSS Y hx (y := y) hown (mvT hZ w1') (mvT hZ w2') (mvT hZ w3') (mvT hZ w4') hy (backOfS (W := W) (Q := fun v hh Lc => Fr ω.2.1 Lc ∧ Q' v hh) (bytes := κ'.1) (maxL := κ'.2.1) (ret := κ'.2.2.2.2.1) (rm := κ'.2.2.2.2.2) C hZ w4' w3' hf hl) (g := mkF γ.2.2.2.1 pc L (as.reverse ++ S)) rfl (by rw [hml]; exact hL) (argsL := as) (rest := S) (lenOf hpd hlen) rfl (by show 2 * 0 + _ ≤ _; omega) (hb hby hd) (fun _ _ => ⟨rfl, hT, hc, hs⟩)
  dsimp only [Pt.U, Pt.locs, Pt.cells, Pt.slots] at Y' hS2 hgr q1 q2 q3 st hQ
  subst q1 q2 q3
  obtain ⟨s₂, o, hs, r⟩ := K _ v T' T'.heap (oReb X_ Y' hS2 hgr (N.app hF)) hQ
  exact ⟨s₂, o, st.trans hs, r⟩
theorem ow_callC (X : oSt Z ω γ κ T h cs ss) (pc' i1 i2 i3 i4 : Nat) {own : String} {idx : Nat} {y : MethodName} {κ' : OM} {Q' : Option Value → Heap → Prop} {a : Addr} {as : List Value} {ps : List FieldType} {rt : Option FieldType} {W : Nat} {S0 : List Value}
    (hy1 : y.name = "<init>") (w1 : tables_1[i1]? = some (.methodLink own idx y)) (ho : κ.2.2.1 = own) (w2 : tables_1[i2]? = some (.instanceMethod y)) (w3 : tables_1[i3]? = some (.initialized y.cls)) (w4 : tables_1[i4]? = some (.code y κ'.1 κ'.2.1 κ'.2.2.2.2.1)) (hr0 : κ'.2.2.2.2.1 = none) (hy : y.cls ≠ "java/lang/invoke/MethodHandle" ∧ y.cls ≠ "java/lang/invoke/VarHandle")
    (C : oC Z ω y κ' [] (.ref a :: as).toArray h Q') (hf : κ'.2.2.2.2.2.frames + 1 ≤ κ.2.2.2.2.2.frames) (hl : W + (κ'.2.1 + 11) + κ'.2.2.2.2.2.locals ≤ κ.2.2.2.2.2.locals) (hW : (S.map fun v => v.category).sum ≤ W) (hc : cs + κ'.2.2.2.2.2.cells ≤ κ.2.2.2.2.2.cells) (hs : ss + κ'.2.2.2.2.2.slots ≤ κ.2.2.2.2.2.slots)
    (hpd : parseMethodDescriptor y.desc = some ⟨ps, rt⟩) (hlen : as.length = ps.length) (hS : S0 = as.reverse ++ .ref a :: S) (hL : L.size = κ.2.1) (hd : decode κ.1 pc = .ok (.invokespecial idx, 3)) (hp : pc + 3 = pc')
    (K : ∀ (γ : OG) v T' h', oSt Z ω γ κ T' h' (cs + κ'.2.2.2.2.2.cells) (ss + κ'.2.2.2.2.2.slots) → Q' v h' → oWP ω γ κ Q T' pc' L (v.toList ++ S)) : oWP ω γ κ Q T pc L S0 := by
  have w1' := oSt_at X i1 w1
  have w2' := oSt_at X i2 w2
  have w3' := oSt_at X i3 w3
  have w4' := oSt_at X i4 w4
  have X_ := X
  obtain ⟨hx, hby, hml, hown, hnm, hr, hlk, hZ, hT1, hn0, hT, locs, Y, N⟩ := X
  subst hp ho hS
  obtain ⟨v, vm₁, ⟨T', L', k', n'⟩, -, Y', hS2, hgr, ⟨Lc, ⟨hF, hQ⟩, q1, q2, q3⟩, st⟩ := Y.specialBackS hx (y := y) hy1 hown (mvT hZ w1') (mvT hZ w2') (mvT hZ (hr0 ▸ w4')) hy (backOfS (W := W) (Q := fun v hh Lc => Fr ω.2.1 Lc ∧ Q' v hh) (bytes := κ'.1) (maxL := κ'.2.1) (ret := κ'.2.2.2.2.1) (rm := κ'.2.2.2.2.2) C hZ w4' w3' hf hl) (g := mkF γ.2.2.2.1 pc L (as.reverse ++ .ref a :: S)) rfl (by rw [hml]; exact hL) (Steps.refl _) (a := a) (argsL := as) (rest := S) (lenOf hpd hlen) rfl (by show 2 * 0 + _ ≤ _; omega) (hb hby hd) (fun _ _ => ⟨rfl, hT, hc, hs⟩)
  dsimp only [Pt.U, Pt.locs, Pt.cells, Pt.slots] at Y' hS2 hgr q1 q2 q3 st hQ
  subst q1 q2 q3
  obtain ⟨s₂, o, hs, r⟩ := K _ v T' T'.heap (oReb X_ Y' hS2 hgr (N.app hF)) hQ
  exact ⟨s₂, o, st.trans hs, r⟩
theorem ow_callV (X : oSt Z ω γ κ T h cs ss) (pc' i1 i2 i3 i4 i5 i6 : Nat) {own C0 : String} {idx : Nat} {y : MethodName} {κ' : OM} {Q' : Option Value → Heap → Prop} {a : Addr} {as : List Value} {ps : List FieldType} {rt : Option FieldType} {W : Nat} {S0 : List Value}
    (w1 : tables_1[i1]? = some (.methodLink own idx y)) (ho : κ.2.2.1 = own) (w2 : tables_1[i2]? = some (.declares y)) (w3 : tables_1[i3]? = some (.selects C0 y y)) (w4 : tables_1[i4]? = some (.instanceMethod y)) (w5 : tables_1[i5]? = some (.code y κ'.1 κ'.2.1 κ'.2.2.2.2.1)) (w6 : tables_1[i6]? = some (.initialized y.cls)) (hy : y.cls ≠ "java/lang/invoke/MethodHandle" ∧ y.cls ≠ "java/lang/invoke/VarHandle")
    (E : Exa Z h a C0) (C : oC Z ω y κ' [] (.ref a :: as).toArray h Q') (hf : κ'.2.2.2.2.2.frames + 1 ≤ κ.2.2.2.2.2.frames) (hl : W + (κ'.2.1 + 11) + κ'.2.2.2.2.2.locals ≤ κ.2.2.2.2.2.locals) (hW : (S.map fun v => v.category).sum ≤ W) (hc : cs + κ'.2.2.2.2.2.cells ≤ κ.2.2.2.2.2.cells) (hs : ss + κ'.2.2.2.2.2.slots ≤ κ.2.2.2.2.2.slots)
    (hpd : parseMethodDescriptor y.desc = some ⟨ps, rt⟩) (hlen : as.length = ps.length) (hS : S0 = as.reverse ++ .ref a :: S) (hL : L.size = κ.2.1) (hd : decode κ.1 pc = .ok (.invokevirtual idx, 3)) (hp : pc + 3 = pc')
    (K : ∀ (γ : OG) v T' h', oSt Z ω γ κ T' h' (cs + κ'.2.2.2.2.2.cells) (ss + κ'.2.2.2.2.2.slots) → Q' v h' → oWP ω γ κ Q T' pc' L (v.toList ++ S)) : oWP ω γ κ Q T pc L S0 := by
  have w1' := oSt_at X i1 w1
  have w2' := oSt_at X i2 w2
  have w3' := oSt_at X i3 w3
  have w4' := oSt_at X i4 w4
  have w5' := oSt_at X i5 w5
  have w6' := oSt_at X i6 w6
  have X_ := X
  obtain ⟨hx, hby, hml, hown, hnm, hr, hlk, hZ, hT1, hn0, hT, locs, Y, N⟩ := X
  subst hp ho hS
  obtain ⟨cq, kq, qa, qb, qc⟩ := isOf hZ hT E
  obtain ⟨v, vm₁, ⟨T', L', k', n'⟩, -, Y', hS2, hgr, ⟨Lc, ⟨hF, hQ⟩, q1, q2, q3⟩, st⟩ := Y.virtualBackS hx (y := y) (z := y) hown (mvT hZ w1') (mvT hZ w2') (notFace_of_selects (args := #[]) (mvT hZ w3')) (mvT hZ w3') (mvT hZ w4') hy (backOfS (W := W) (Q := fun v hh Lc => Fr ω.2.1 Lc ∧ Q' v hh) (bytes := κ'.1) (maxL := κ'.2.1) (ret := κ'.2.2.2.2.1) (rm := κ'.2.2.2.2.2) C hZ w5' w6' hf hl) qa qc (g := mkF γ.2.2.2.1 pc L (as.reverse ++ .ref a :: S)) rfl (by rw [hml]; exact hL) (Steps.refl _) (argsL := as) (rest := S) (lenOf hpd hlen) rfl (by show 2 * 0 + _ ≤ _; omega) (hb hby hd) (fun _ _ => ⟨rfl, hT, hc, hs⟩)
  dsimp only [Pt.U, Pt.locs, Pt.cells, Pt.slots] at Y' hS2 hgr q1 q2 q3 st hQ
  subst q1 q2 q3
  obtain ⟨s₂, o, hs, r⟩ := K _ v T' T'.heap (oReb X_ Y' hS2 hgr (N.app hF)) hQ
  exact ⟨s₂, o, st.trans hs, r⟩
theorem ow_callP (X : oSt Z ω γ κ T h cs ss) (pc' i1 i2 i3 i4 i5 i6 : Nat) {own C0 : String} {idx nn : Nat} {y : MethodName} {κ' : OM} {Q' : Option Value → Heap → Prop} {a : Addr} {as : List Value} {ps : List FieldType} {rt : Option FieldType} {W : Nat} {S0 : List Value}
    (w1 : tables_1[i1]? = some (.methodLink own idx y)) (ho : κ.2.2.1 = own) (w2 : tables_1[i2]? = some (.instanceMethod y)) (w3 : tables_1[i3]? = some (.privateMethod y)) (w4 : tables_1[i4]? = some (.initialized y.cls)) (w5 : tables_1[i5]? = some (.code y κ'.1 κ'.2.1 κ'.2.2.2.2.1)) (w6 : tables_1[i6]? = some (.instantiable y.cls nn)) (hy : y.cls ≠ "java/lang/invoke/MethodHandle" ∧ y.cls ≠ "java/lang/invoke/VarHandle")
    (E : Exa Z h a C0) (C : oC Z ω y κ' [] (.ref a :: as).toArray h Q') (hf : κ'.2.2.2.2.2.frames + 1 ≤ κ.2.2.2.2.2.frames) (hl : W + (κ'.2.1 + 11) + κ'.2.2.2.2.2.locals ≤ κ.2.2.2.2.2.locals) (hW : (S.map fun v => v.category).sum ≤ W) (hc : cs + κ'.2.2.2.2.2.cells ≤ κ.2.2.2.2.2.cells) (hs : ss + κ'.2.2.2.2.2.slots ≤ κ.2.2.2.2.2.slots)
    (hpd : parseMethodDescriptor y.desc = some ⟨ps, rt⟩) (hlen : as.length = ps.length) (hS : S0 = as.reverse ++ .ref a :: S) (hL : L.size = κ.2.1) (hd : decode κ.1 pc = .ok (.invokevirtual idx, 3)) (hp : pc + 3 = pc')
    (K : ∀ (γ : OG) v T' h', oSt Z ω γ κ T' h' (cs + κ'.2.2.2.2.2.cells) (ss + κ'.2.2.2.2.2.slots) → Q' v h' → oWP ω γ κ Q T' pc' L (v.toList ++ S)) : oWP ω γ κ Q T pc L S0 := by
  have w1' := oSt_at X i1 w1
  have w2' := oSt_at X i2 w2
  have w3' := oSt_at X i3 w3
  have w4' := oSt_at X i4 w4
  have w5' := oSt_at X i5 w5
  have w6' := oSt_at X i6 w6
  have X_ := X
  obtain ⟨hx, hby, hml, hown, hnm, hr, hlk, hZ, hT1, hn0, hT, locs, Y, N⟩ := X
  subst hp ho hS
  obtain ⟨cq, q1, q2⟩ := E.cell
  obtain ⟨ck, kk, i1, i2, -, i4, -⟩ := Cond.instantiable_spec (mvT (args := #[]) hZ w6')
  have hni : kk.isInterface = false := (Bool.or_eq_false_iff.mp i4).1
  have hpr := Cond.privateMethod_at (mvP (args := #[]) hZ w3')
  obtain ⟨v, vm₁, ⟨T', L', k', n'⟩, -, Y', hS2, hgr, ⟨Lc, ⟨hF, hQ⟩, q1, q2, q3⟩, st⟩ := Y.privateBackS hx (y := y) hown (mvT hZ w1') (mvT hZ w2') (selects_self_of_private i1 i2 hni hpr (mvT hZ w2') hy) hpr (mvT hZ w5') hy (backOfS (W := W) (Q := fun v hh Lc => Fr ω.2.1 Lc ∧ Q' v hh) (bytes := κ'.1) (maxL := κ'.2.1) (ret := κ'.2.2.2.2.1) (rm := κ'.2.2.2.2.2) C hZ w5' w4' hf hl) (g := mkF γ.2.2.2.1 pc L (as.reverse ++ .ref a :: S)) rfl (by rw [hml]; exact hL) (Steps.refl _) (a := a) (by rw [hT]; exact q1) q2 (argsL := as) (rest := S) (lenOf hpd hlen) rfl (by show 2 * 0 + _ ≤ _; omega) (hb hby hd) (fun _ _ => ⟨rfl, hT, hc, hs⟩)
  dsimp only [Pt.U, Pt.locs, Pt.cells, Pt.slots] at Y' hS2 hgr q1 q2 q3 st hQ
  subst q1 q2 q3
  obtain ⟨s₂, o, hs, r⟩ := K _ v T' T'.heap (oReb X_ Y' hS2 hgr (N.app hF)) hQ
  exact ⟨s₂, o, st.trans hs, r⟩
end Walk
/-- an array: its component type, its length, what it holds -/
def oA (Z : State) (h : Heap) (a : Addr) (ty : FieldType) (n : Nat) (f : Nat → Value) : Prop := ∃ c : Cell, Arr Z h a c ty ∧ c.slots.size = n ∧ n < 2147483648 ∧ ∀ i, i < n → c.slots[i]? = some (f i)
section Arrays
variable {Z : State} {h h' : Heap} {a b : Addr} {ty : FieldType} {n sl : Nat} {f g : Nat → Value} {v : Value} {ws : List Addr}
theorem oA.lt (A : oA Z h a ty n f) : a < h.size := by obtain ⟨c, A, -⟩ := A; exact A.lt
theorem oA.small (A : oA Z h a ty n f) : n < 2147483648 := by obtain ⟨c, -, -, q, -⟩ := A; exact q
theorem oA.ext (A : oA Z h a ty n f) (E : Ext h h') : oA Z h' a ty n f := by obtain ⟨c, A, r⟩ := A; exact ⟨c, A.ext E, r⟩
theorem oA.other (A : oA Z h b ty n f) (W : Wr h h' a sl v) (q : b ≠ a) : oA Z h' b ty n f := by obtain ⟨c, A, r⟩ := A; exact ⟨c, A.other W q, r⟩
theorem oA.keep (A : oA Z h a ty n f) (K : Keep h h' ws) (q : a ∉ ws) : oA Z h' a ty n f := by obtain ⟨c, A, r⟩ := A; exact ⟨c, ⟨K.2.1 a c A.1 q, A.2⟩, r⟩
theorem oA.congr (A : oA Z h a ty n f) (q : ∀ i, i < n → f i = g i) : oA Z h a ty n g := by obtain ⟨c, A, r1, r2, r3⟩ := A; exact ⟨c, A, r1, r2, fun i hi => by rw [← q i hi]; exact r3 i hi⟩
theorem oA.set (A : oA Z h a ty n f) (W : Wr h h' a sl v) : oA Z h' a ty n (fun i => if i = sl then v else f i) := by
  obtain ⟨c, A, r1, r2, r3⟩ := A
  have hlt : sl < n := by
    obtain ⟨c', h1, -, h3, -⟩ := W
    cases A.1.symm.trans h1
    omega
  refine ⟨c.setSlot sl v, A.same W, (sz_set _ _ _).trans r1, r2, fun i hi => ?_⟩
  by_cases e : i = sl
  · subst e; simp [Cell.setSlot, r1, hlt]
  · simp only [e, if_false]
    rw [← r3 i hi]
    exact Array.getElem?_setIfInBounds_ne (Ne.symm e)
/-- one place changed -/
def oUpd {α : Type} (g : Nat → α) (k : Nat) (v : α) : Nat → α := fun i => if i = k then v else g i
theorem oUpd_hit {α : Type} (g : Nat → α) (k : Nat) (v : α) : oUpd g k v k = v := if_pos rfl
theorem oUpd_miss {α : Type} (g : Nat → α) {k i : Nat} (v : α) (q : i ≠ k) : oUpd g k v i = g i := if_neg q
def oZI : Nat → Int32 := fun _ => 0
def oZJ : Nat → Int64 := fun _ => 0
theorem oA.setI {g : Nat → Int32} {x : Int32} (A : oA Z h a ty n (fun i => .int (g i))) (W : Wr h h' a sl (.int x)) : oA Z h' a ty n (fun i => .int (oUpd g sl x i)) :=
  (A.set W).congr fun i _ => by unfold oUpd; split <;> rfl
theorem oA.setJ {g : Nat → Int64} {x : Int64} (A : oA Z h a ty n (fun i => .long (g i))) (W : Wr h h' a sl (.long x)) : oA Z h' a ty n (fun i => .long (oUpd g sl x i)) :=
  (A.set W).congr fun i _ => by unfold oUpd; split <;> rfl
theorem oNd {l : List Addr} (h : l.Nodup) (i j : Nat) (hij : i ≠ j) {a b : Addr} (ha : l[i]? = some a) (hb : l[j]? = some b) : a ≠ b := by
  intro e; subst e
  obtain ⟨h1, h2⟩ := List.getElem?_eq_some_iff.mp ha
  obtain ⟨h3, h4⟩ := List.getElem?_eq_some_iff.mp hb
  have q := List.pairwise_iff_getElem.mp h
  rcases Nat.lt_or_gt_of_ne hij with r | r
  · exact q i j h1 h3 r (h2.trans h4.symm)
  · exact q j i h3 h1 r (h4.trans h2.symm)
theorem oA.new {cA : ClassId} {k : Int32} (A : Arr Z h a (newA cA ty k) ty) (q : 0 ≤ k.toInt) : oA Z h a ty k.toInt.toNat (fun _ => defaultValue ty) := by
  have e : k.toNatClampNeg = k.toInt.toNat := rfl
  have := k.toInt_lt
  refine ⟨_, A, (sz_new _ _ _).trans e, by omega, fun i hi => ?_⟩
  have : i < k.toNatClampNeg := by rw [e]; exact hi
  simp [newA, this]
theorem oInb {j : Int32} {c : Cell} (r1 : c.slots.size = n) (q : 0 ≤ j.toInt) (q' : j.toInt < n) : ¬ (j < 0 ∨ c.slots.size ≤ j.toNatClampNeg) := by
  have e : j.toNatClampNeg = j.toInt.toNat := rfl
  rw [Int32.lt_iff_toInt_lt, r1, e, o0]; omega
end Arrays
section Walk2
variable {Z : State} {ω : OW} {γ : OG} {κ : OM} {Q : Option Value → Heap → Prop} {T : State} {h : Heap} {cs ss : Nat} {pc : Nat} {L : Array Slot} {S : List Value}
theorem ow_alen (X : oSt Z ω γ κ T h cs ss) (pc' : Nat) {a : Addr} {ty : FieldType} {n : Nat} {f : Nat → Value} {v : Int32} (A : oA Z h a ty n f) (hd : decode κ.1 pc = .ok (.arraylength, 1)) (hp : pc + 1 = pc') (hv : v.toInt = n)
    (K : oWP ω γ κ Q T pc' L (.int v :: S)) : oWP ω γ κ Q T pc L (.ref a :: S) := by
  obtain ⟨hx, hby, -, -, -, -, -, hZ, -, -, hT, locs, Y, -⟩ := X
  obtain ⟨c, A, r1, r2, -⟩ := A
  subst hp
  obtain ⟨s₂, o, hs, r⟩ := K
  have e : c.slots.size.toInt32 = v := Int32.toInt_inj.mp (by rw [hv, len_toInt (by omega), r1])
  exact ⟨s₂, o, Y.arraylength hx (by rw [hT]; exact A.1) (State.isArrayOf_alike hZ.alike A.2.1) (g := mkF γ.2.2.2.1 pc L (.ref a :: S)) rfl rfl (hb hby hd) _ (by rw [e]; exact hs), r⟩
theorem ow_iaload (X : oSt Z ω γ κ T h cs ss) (pc' : Nat) {a : Addr} {n : Nat} {f : Nat → Value} {j : Int32} {v : Value} (A : oA Z h a .int n f) (hd : decode κ.1 pc = .ok (.iaload, 1)) (hp : pc + 1 = pc') (h0 : 0 ≤ j.toInt) (h1 : j.toInt < n) (hv : f j.toInt.toNat = v)
    (K : oWP ω γ κ Q T pc' L (v :: S)) : oWP ω γ κ Q T pc L (.int j :: .ref a :: S) := by
  obtain ⟨hx, hby, -, -, -, -, -, hZ, -, -, hT, locs, Y, -⟩ := X
  obtain ⟨c, A, r1, r2, r3⟩ := A
  subst hp hv
  obtain ⟨s₂, o, hs, r⟩ := K
  exact ⟨s₂, o, Y.iaload hx (by rw [hT]; exact A.1) (State.isArrayOf_alike hZ.alike A.2.1) A.2.2 (oInb r1 h0 h1) (r3 _ (by show j.toInt.toNat < _; omega)) (g := mkF γ.2.2.2.1 pc L (.int j :: .ref a :: S)) rfl rfl (hb hby hd) _ hs, r⟩
theorem ow_laload (X : oSt Z ω γ κ T h cs ss) (pc' : Nat) {a : Addr} {n : Nat} {f : Nat → Value} {j : Int32} {v : Value} (A : oA Z h a .long n f) (hd : decode κ.1 pc = .ok (.laload, 1)) (hp : pc + 1 = pc') (h0 : 0 ≤ j.toInt) (h1 : j.toInt < n) (hv : f j.toInt.toNat = v)
    (K : oWP ω γ κ Q T pc' L (v :: S)) : oWP ω γ κ Q T pc L (.int j :: .ref a :: S) := by
  obtain ⟨hx, hby, -, -, -, -, -, hZ, -, -, hT, locs, Y, -⟩ := X
  obtain ⟨c, A, r1, r2, r3⟩ := A
  subst hp hv
  obtain ⟨s₂, o, hs, r⟩ := K
  exact ⟨s₂, o, Y.laload hx (by rw [hT]; exact A.1) (State.isArrayOf_alike hZ.alike A.2.1) A.2.2 (oInb r1 h0 h1) (r3 _ (by show j.toInt.toNat < _; omega)) (g := mkF γ.2.2.2.1 pc L (.int j :: .ref a :: S)) rfl rfl (hb hby hd) _ hs, r⟩
theorem ow_caload (X : oSt Z ω γ κ T h cs ss) (pc' : Nat) {a : Addr} {n : Nat} {f : Nat → Value} {j : Int32} {v : Value} (A : oA Z h a .char n f) (hd : decode κ.1 pc = .ok (.caload, 1)) (hp : pc + 1 = pc') (h0 : 0 ≤ j.toInt) (h1 : j.toInt < n) (hv : f j.toInt.toNat = v)
    (K : oWP ω γ κ Q T pc' L (v :: S)) : oWP ω γ κ Q T pc L (.int j :: .ref a :: S) := by
  obtain ⟨hx, hby, -, -, -, -, -, hZ, -, -, hT, locs, Y, -⟩ := X
  obtain ⟨c, A, r1, r2, r3⟩ := A
  subst hp hv
  obtain ⟨s₂, o, hs, r⟩ := K
  exact ⟨s₂, o, Y.caload hx (by rw [hT]; exact A.1) (State.isArrayOf_alike hZ.alike A.2.1) A.2.2 (oInb r1 h0 h1) (r3 _ (by show j.toInt.toNat < _; omega)) (g := mkF γ.2.2.2.1 pc L (.int j :: .ref a :: S)) rfl rfl (hb hby hd) _ hs, r⟩
theorem ow_baload (X : oSt Z ω γ κ T h cs ss) (pc' : Nat) {a : Addr} {n : Nat} {f : Nat → Value} {j : Int32} {v : Value} (A : oA Z h a .byte n f) (hd : decode κ.1 pc = .ok (.baload, 1)) (hp : pc + 1 = pc') (h0 : 0 ≤ j.toInt) (h1 : j.toInt < n) (hv : f j.toInt.toNat = v)
    (K : oWP ω γ κ Q T pc' L (v :: S)) : oWP ω γ κ Q T pc L (.int j :: .ref a :: S) := by
  obtain ⟨hx, hby, -, -, -, -, -, hZ, -, -, hT, locs, Y, -⟩ := X
  obtain ⟨c, A, r1, r2, r3⟩ := A
  subst hp hv
  obtain ⟨s₂, o, hs, r⟩ := K
  exact ⟨s₂, o, Y.baloadBytes hx (by rw [hT]; exact A.1) (State.isArrayOf_alike hZ.alike A.2.1) A.2.2 (oInb r1 h0 h1) (r3 _ (by show j.toInt.toNat < _; omega)) (g := mkF γ.2.2.2.1 pc L (.int j :: .ref a :: S)) rfl rfl (hb hby hd) _ hs, r⟩
theorem ow_baloadZ (X : oSt Z ω γ κ T h cs ss) (pc' : Nat) {a : Addr} {n : Nat} {f : Nat → Value} {j : Int32} {v : Value} (A : oA Z h a .boolean n f) (hd : decode κ.1 pc = .ok (.baload, 1)) (hp : pc + 1 = pc') (h0 : 0 ≤ j.toInt) (h1 : j.toInt < n) (hv : f j.toInt.toNat = v)
    (K : oWP ω γ κ Q T pc' L (v :: S)) : oWP ω γ κ Q T pc L (.int j :: .ref a :: S) := by
  obtain ⟨hx, hby, -, -, -, -, -, hZ, -, -, hT, locs, Y, -⟩ := X
  obtain ⟨c, A, r1, r2, r3⟩ := A
  subst hp hv
  obtain ⟨s₂, o, hs, r⟩ := K
  exact ⟨s₂, o, Y.baloadBooleans hx (by rw [hT]; exact A.1) (State.isArrayOf_alike hZ.alike A.2.1) A.2.2 (oInb r1 h0 h1) (r3 _ (by show j.toInt.toNat < _; omega)) (g := mkF γ.2.2.2.1 pc L (.int j :: .ref a :: S)) rfl rfl (hb hby hd) _ hs, r⟩
theorem ow_aaload (X : oSt Z ω γ κ T h cs ss) (pc' : Nat) {a : Addr} {ty : FieldType} {n : Nat} {f : Nat → Value} {j : Int32} {v : Value} (A : oA Z h a ty n f) (ht : ty.isReference = true) (hd : decode κ.1 pc = .ok (.aaload, 1)) (hp : pc + 1 = pc') (h0 : 0 ≤ j.toInt) (h1 : j.toInt < n) (hv : f j.toInt.toNat = v)
    (K : oWP ω γ κ Q T pc' L (v :: S)) : oWP ω γ κ Q T pc L (.int j :: .ref a :: S) := by
  obtain ⟨hx, hby, -, -, -, -, -, hZ, -, -, hT, locs, Y, -⟩ := X
  obtain ⟨c, A, r1, r2, r3⟩ := A
  subst hp hv
  obtain ⟨s₂, o, hs, r⟩ := K
  exact ⟨s₂, o, Y.aaload hx (by rw [hT]; exact A.1) (State.isArrayOf_alike hZ.alike A.2.1) ht A.2.2 (oInb r1 h0 h1) (r3 _ (by show j.toInt.toNat < _; omega)) (g := mkF γ.2.2.2.1 pc L (.int j :: .ref a :: S)) rfl rfl (hb hby hd) _ hs, r⟩
theorem ow_iastore (X : oSt Z ω γ κ T h cs ss) (pc' : Nat) {a : Addr} {n : Nat} {f : Nat → Value} {j : Int32} {x : Int32} (A : oA Z h a .int n f) (ha : ω.2.1 ≤ a) (hd : decode κ.1 pc = .ok (.iastore, 1)) (hp : pc + 1 = pc') (h0 : 0 ≤ j.toInt) (h1 : j.toInt < n)
    (K : ∀ T' h', oSt Z ω γ κ T' h' cs ss → Wr h h' a j.toInt.toNat (.int x) → oWP ω γ κ Q T' pc' L S) : oWP ω γ κ Q T pc L (.int x :: .int j :: .ref a :: S) := by
  obtain ⟨hx, hby, hml, hown, hnm, hr, hlk, hZ, hT1, hn0, hT, locs, Y, N⟩ := X
  obtain ⟨c, A, r1, r2, r3⟩ := A
  subst hp
  obtain ⟨T', h', Y', e', W, st⟩ := stI Y hx hZ hT A (oInb r1 h0 h1) (g := mkF γ.2.2.2.1 pc L (.int x :: .int j :: .ref a :: S)) rfl rfl (hb hby hd)
  obtain ⟨s₂, o, hs, r⟩ := K T' h' ⟨hx, hby, hml, hown, hnm, hr, hlk, hZ, hT1, oSnW hn0 W, e', _, Y', Fr.snoc Y' N ha⟩ W
  exact ⟨s₂, o, st _ hs, r⟩
theorem ow_lastore (X : oSt Z ω γ κ T h cs ss) (pc' : Nat) {a : Addr} {n : Nat} {f : Nat → Value} {j : Int32} {x : Int64} (A : oA Z h a .long n f) (ha : ω.2.1 ≤ a) (hd : decode κ.1 pc = .ok (.lastore, 1)) (hp : pc + 1 = pc') (h0 : 0 ≤ j.toInt) (h1 : j.toInt < n)
    (K : ∀ T' h', oSt Z ω γ κ T' h' cs ss → Wr h h' a j.toInt.toNat (.long x) → oWP ω γ κ Q T' pc' L S) : oWP ω γ κ Q T pc L (.long x :: .int j :: .ref a :: S) := by
  obtain ⟨hx, hby, hml, hown, hnm, hr, hlk, hZ, hT1, hn0, hT, locs, Y, N⟩ := X
  obtain ⟨c, A, r1, r2, r3⟩ := A
  subst hp
  obtain ⟨T', h', Y', e', W, st⟩ := stJ Y hx hZ hT A (oInb r1 h0 h1) (g := mkF γ.2.2.2.1 pc L (.long x :: .int j :: .ref a :: S)) rfl rfl (hb hby hd)
  obtain ⟨s₂, o, hs, r⟩ := K T' h' ⟨hx, hby, hml, hown, hnm, hr, hlk, hZ, hT1, oSnW hn0 W, e', _, Y', Fr.snoc Y' N ha⟩ W
  exact ⟨s₂, o, st _ hs, r⟩
theorem ow_castore (X : oSt Z ω γ κ T h cs ss) (pc' : Nat) {a : Addr} {n : Nat} {f : Nat → Value} {j : Int32} {x : Int32} (A : oA Z h a .char n f) (ha : ω.2.1 ≤ a) (hd : decode κ.1 pc = .ok (.castore, 1)) (hp : pc + 1 = pc') (h0 : 0 ≤ j.toInt) (h1 : j.toInt < n)
    (K : ∀ T' h', oSt Z ω γ κ T' h' cs ss → Wr h h' a j.toInt.toNat (.int (nar .char x)) → oWP ω γ κ Q T' pc' L S) : oWP ω γ κ Q T pc L (.int x :: .int j :: .ref a :: S) := by
  obtain ⟨hx, hby, hml, hown, hnm, hr, hlk, hZ, hT1, hn0, hT, locs, Y, N⟩ := X
  obtain ⟨c, A, r1, r2, r3⟩ := A
  subst hp
  obtain ⟨T', h', Y', e', W, st⟩ := stC Y hx hZ hT A (oInb r1 h0 h1) (g := mkF γ.2.2.2.1 pc L (.int x :: .int j :: .ref a :: S)) rfl rfl (hb hby hd)
  obtain ⟨s₂, o, hs, r⟩ := K T' h' ⟨hx, hby, hml, hown, hnm, hr, hlk, hZ, hT1, oSnW hn0 W, e', _, Y', Fr.snoc Y' N ha⟩ W
  exact ⟨s₂, o, st _ hs, r⟩
theorem ow_bastore (X : oSt Z ω γ κ T h cs ss) (pc' : Nat) {a : Addr} {n : Nat} {f : Nat → Value} {j : Int32} {x : Int32} (A : oA Z h a .byte n f) (ha : ω.2.1 ≤ a) (hd : decode κ.1 pc = .ok (.bastore, 1)) (hp : pc + 1 = pc') (h0 : 0 ≤ j.toInt) (h1 : j.toInt < n)
    (K : ∀ T' h', oSt Z ω γ κ T' h' cs ss → Wr h h' a j.toInt.toNat (.int x.toInt8.toInt32) → oWP ω γ κ Q T' pc' L S) : oWP ω γ κ Q T pc L (.int x :: .int j :: .ref a :: S) := by
  obtain ⟨hx, hby, hml, hown, hnm, hr, hlk, hZ, hT1, hn0, hT, locs, Y, N⟩ := X
  obtain ⟨c, A, r1, r2, r3⟩ := A
  subst hp
  obtain ⟨T', h', Y', e', W, st⟩ := stB Y hx hZ hT A (oInb r1 h0 h1) (g := mkF γ.2.2.2.1 pc L (.int x :: .int j :: .ref a :: S)) rfl rfl (hb hby hd)
  obtain ⟨s₂, o, hs, r⟩ := K T' h' ⟨hx, hby, hml, hown, hnm, hr, hlk, hZ, hT1, oSnW hn0 W, e', _, Y', Fr.snoc Y' N ha⟩ W
  exact ⟨s₂, o, st _ hs, r⟩
theorem ow_bastoreZ (X : oSt Z ω γ κ T h cs ss) (pc' : Nat) {a : Addr} {n : Nat} {f : Nat → Value} {j : Int32} {x : Int32} (A : oA Z h a .boolean n f) (ha : ω.2.1 ≤ a) (hd : decode κ.1 pc = .ok (.bastore, 1)) (hp : pc + 1 = pc') (h0 : 0 ≤ j.toInt) (h1 : j.toInt < n)
    (K : ∀ T' h', oSt Z ω γ κ T' h' cs ss → Wr h h' a j.toInt.toNat (.int (nar .boolean x)) → oWP ω γ κ Q T' pc' L S) : oWP ω γ κ Q T pc L (.int x :: .int j :: .ref a :: S) := by
  obtain ⟨hx, hby, hml, hown, hnm, hr, hlk, hZ, hT1, hn0, hT, locs, Y, N⟩ := X
  obtain ⟨c, A, r1, r2, r3⟩ := A
  subst hp
  obtain ⟨T', h', Y', e', W, st⟩ := stZ Y hx hZ hT A (oInb r1 h0 h1) (g := mkF γ.2.2.2.1 pc L (.int x :: .int j :: .ref a :: S)) rfl rfl (hb hby hd)
  obtain ⟨s₂, o, hs, r⟩ := K T' h' ⟨hx, hby, hml, hown, hnm, hr, hlk, hZ, hT1, oSnW hn0 W, e', _, Y', Fr.snoc Y' N ha⟩ W
  exact ⟨s₂, o, st _ hs, r⟩
theorem ow_aastore (X : oSt Z ω γ κ T h cs ss) (pc' : Nat) {a : Addr} {ty : FieldType} {n : Nat} {f : Nat → Value} {j : Int32} {v : Value} (A : oA Z h a ty n f) (ht : ty.isReference = true) (F : Sto Z h a v) (ha : ω.2.1 ≤ a) (hd : decode κ.1 pc = .ok (.aastore, 1)) (hp : pc + 1 = pc') (h0 : 0 ≤ j.toInt) (h1 : j.toInt < n)
    (K : ∀ T' h', oSt Z ω γ κ T' h' cs ss → Wr h h' a j.toInt.toNat v → oWP ω γ κ Q T' pc' L S) : oWP ω γ κ Q T pc L (v :: .int j :: .ref a :: S) := by
  obtain ⟨hx, hby, hml, hown, hnm, hr, hlk, hZ, hT1, hn0, hT, locs, Y, N⟩ := X
  obtain ⟨c, A, r1, r2, r3⟩ := A
  subst hp
  obtain ⟨T', h', Y', e', W, st⟩ := stR Y hx hZ hT A (oInb r1 h0 h1) ht F (g := mkF γ.2.2.2.1 pc L (v :: .int j :: .ref a :: S)) rfl rfl (hb hby hd)
  obtain ⟨s₂, o, hs, r⟩ := K T' h' ⟨hx, hby, hml, hown, hnm, hr, hlk, hZ, hT1, oSnW hn0 W, e', _, Y', Fr.snoc Y' N ha⟩ W
  exact ⟨s₂, o, st _ hs, r⟩
theorem ow_newP (X : oSt Z ω γ κ T h cs ss) (pc' i : Nat) {aty : ArrayType} {k : Int32} {cap : Nat} (hw : tables_1[i]? = some (.arrayClass (newarray.typeOf aty))) (hd : decode κ.1 pc = .ok (.newarray aty, 2)) (hp : pc + 2 = pc') (h0 : 0 ≤ k.toInt) (h1 : k.toInt ≤ cap) (hb1 : cap * 8 ≤ 536870912) (hc : cs + 1 ≤ κ.2.2.2.2.2.cells) (hsl : ss + cap ≤ κ.2.2.2.2.2.slots)
    (K : ∀ T' h' a, a = h.size → oSt Z ω γ κ T' h' (cs + 1) (ss + cap) → Ext h h' → oA Z h' a (newarray.typeOf aty) k.toInt.toNat (fun _ => defaultValue (newarray.typeOf aty)) → ω.2.1 ≤ a → oWP ω γ κ Q T' pc' L (.ref a :: S)) : oWP ω γ κ Q T pc L (.int k :: S) := by
  have hw' := oSt_at X i hw
  have hN := oSt_n0 X
  obtain ⟨hx, hby, hml, hown, hnm, hr, hlk, hZ, hT1, hn0, hT, locs, Y, N⟩ := X
  subst hp
  have hk : ¬ k < 0 := by rw [Int32.lt_iff_toInt_lt, o0]; omega
  have hk' : k.toNatClampNeg ≤ cap := by show k.toInt.toNat ≤ cap; omega
  obtain ⟨T', h', cA, Y', e', E, A, st⟩ := newP Y hx hZ hw' hT (g := mkF γ.2.2.2.1 pc L (.int k :: S)) rfl (hb hby hd) rfl hk hk' hb1 hc hsl
  obtain ⟨s₂, o, hs, r⟩ := K T' h' h.size rfl ⟨hx, hby, hml, hown, hnm, hr, hlk, hZ, hT1, oSnE hn0 E, e', _, Y', N⟩ E (oA.new A h0) hN
  exact ⟨s₂, o, st _ hs, r⟩
/-- a new array's class takes objects of C -/
def oOv (Z : State) (h : Heap) (a : Addr) (C : String) : Prop := ∃ (c : Cell) (ty : FieldType), Arr Z h a c ty ∧ Ovr Z c.cls C
theorem oOv.ext {h' : Heap} {a : Addr} {C : String} (O : oOv Z h a C) (E : Ext h h') : oOv Z h' a C := by obtain ⟨c, ty, A, O⟩ := O; exact ⟨c, ty, A.ext E, O⟩
theorem oOv.wr {h' : Heap} {a b : Addr} {C : String} {sl : Nat} {v : Value} (O : oOv Z h a C) (W : Wr h h' b sl v) : oOv Z h' a C := by
  obtain ⟨c, ty, A, O⟩ := O
  by_cases e : a = b
  · subst e; exact ⟨_, ty, A.same W, O⟩
  · exact ⟨c, ty, A.other W e, O⟩
theorem oOv.keep {h' : Heap} {a : Addr} {C : String} {ws : List Addr} (O : oOv Z h a C) (K : Keep h h' ws) (q : a ∉ ws) : oOv Z h' a C := by
  obtain ⟨c, ty, A, O⟩ := O; exact ⟨c, ty, ⟨K.2.1 a c A.1 q, A.2⟩, O⟩
theorem oOv.sto {a y : Addr} {C : String} (O : oOv Z h a C) (I : Ins Z h y C true) : Sto Z h a (.ref y) := by obtain ⟨c, ty, A, O⟩ := O; exact Sto.of A O I
theorem ow_newR (X : oSt Z ω γ κ T h cs ss) (pc' i1 i2 : Nat) {own C : String} {idx : Nat} {k : Int32} {cap : Nat} (w1 : tables_1[i1]? = some (.classLink own idx C)) (ho : κ.2.2.1 = own) (w2 : tables_1[i2]? = some (.arrayOver (.object C))) (hd : decode κ.1 pc = .ok (.anewarray idx, 3)) (hp : pc + 3 = pc') (h0 : 0 ≤ k.toInt) (h1 : k.toInt ≤ cap) (hb1 : cap * 8 ≤ 536870912) (hc : cs + 1 ≤ κ.2.2.2.2.2.cells) (hsl : ss + cap ≤ κ.2.2.2.2.2.slots)
    (K : ∀ T' h' a, a = h.size → oSt Z ω γ κ T' h' (cs + 1) (ss + cap) → Ext h h' → oA Z h' a (.object C) k.toInt.toNat (fun _ => .null) → oOv Z h' a C → ω.2.1 ≤ a → oWP ω γ κ Q T' pc' L (.ref a :: S)) : oWP ω γ κ Q T pc L (.int k :: S) := by
  have w1' := oSt_at X i1 w1
  have w2' := oSt_at X i2 w2
  have hN := oSt_n0 X
  obtain ⟨hx, hby, hml, hown, hnm, hr, hlk, hZ, hT1, hn0, hT, locs, Y, N⟩ := X
  subst hp ho
  have hk : ¬ k < 0 := by rw [Int32.lt_iff_toInt_lt, o0]; omega
  have hk' : k.toNatClampNeg ≤ cap := by show k.toInt.toNat ≤ cap; omega
  obtain ⟨T', h', cA, Y', e', E, A, O, st⟩ := newR Y hx hZ hown w1' w2' hT (g := mkF γ.2.2.2.1 pc L (.int k :: S)) rfl (hb hby hd) rfl hk hk' hb1 hc hsl
  obtain ⟨s₂, o, hs, r⟩ := K T' h' h.size rfl ⟨hx, hby, hml, hown, hnm, hr, hlk, hZ, hT1, oSnE hn0 E, e', _, Y', N⟩ E (oA.new A h0) ⟨_, _, A, O⟩ hN
  exact ⟨s₂, o, st _ hs, r⟩
end Walk2
section WalkS
variable {Z : State} {ω : OW} {γ : OG} {κ : OM} {Q : Option Value → Heap → Prop} {T : State} {h : Heap} {cs ss : Nat} {pc : Nat} {L : Array Slot} {S : List Value}
/-- a String constant, opaque -/
theorem ow_ldcStr (X : oSt Z ω γ κ T h cs ss) (pc' i : Nat) {own text : String} {idx : Nat} (n : Nat) (hw : tables_1[i]? = some (.stringLink own idx text)) (ho : κ.2.2.1 = own) (hA : ∀ a ∈ Bundle.stringAtoms, a ∈ tables_1) (hn : 4 * text.toList.length ≤ n) (hbig : n ≤ 536870912) (hc : cs + 2 ≤ κ.2.2.2.2.2.cells) (hsl : ss + (n + 4) ≤ κ.2.2.2.2.2.slots)
    (hd : decode κ.1 pc = .ok (.ldc idx, 2)) (hp : pc + 2 = pc') (K : ∀ (γ : OG) T' h' a, oSt Z ω γ κ T' h' (cs + 2) (ss + (n + 4)) → Ext h h' → oWP ω γ κ Q T' pc' L (.ref a :: S)) : oWP ω γ κ Q T pc L S := by
  have hw' := oSt_at X i hw
  have hall := oSt_w X
  obtain ⟨hx, hby, hml, hown, hnm, hr, hlk, hZ, hT1, ⟨hn0, k0, hS, hk⟩, hT, locs, Y, N⟩ := X
  subst hp ho
  obtain ⟨a, T', h', k1, Y', e', E, hS', hk1, hZ', hown', st⟩ := RoadKit.ldcS (s := γ.2.2.1.setVm γ.2.2.2.2.2.2.2.2) (vm0 := γ.2.2.1.vm) Y hx hZ hown hw' (fun d hd' => hall d (hA d hd')) hT hS hk (g := mkF γ.2.2.2.1 pc L S) rfl (hb hby hd) hn hbig hc hsl
  obtain ⟨s₂, o, hs, r⟩ := K (γ.1, γ.2.1, γ.2.2.1.setVm T'.vm, γ.2.2.2.1, γ.2.2.2.2.1, γ.2.2.2.2.2.1, γ.2.2.2.2.2.2.1, γ.2.2.2.2.2.2.2.1, γ.2.2.2.2.2.2.2.2) T' h' a ⟨hx, hby, hml, hown', hnm, hr, hlk, hZ', hT1, ⟨hn0, k1, hS', hk1⟩, e', locs, Y', N⟩ E
  exact ⟨s₂, o, st _ hs, r⟩
end WalkS
section WalkC
variable {Z : State} {ω : OW} {γ : OG} {κ : OM} {Q : Option Value → Heap → Prop} {T : State} {h : Heap} {cs ss : Nat} {pc : Nat} {L : Array Slot} {S : List Value}
theorem ow_retB (X : oSt Z ω γ κ T h cs ss) {z : Int32} (hret : κ.2.2.2.2.1 = some .byte) (hd : decode κ.1 pc = .ok (.ireturn, 1)) (hc : cs ≤ κ.2.2.2.2.2.cells) (hsl : ss ≤ κ.2.2.2.2.2.slots) (hn : narrow .byte (.int z) = .int z) (hQ : Q (some (.int z)) h) : oWP ω γ κ Q T pc L (.int z :: S) :=
  ow_ret X hret hn (Or.inl ⟨rfl, Or.inr (Or.inr (Or.inl rfl)), z, rfl⟩) hd hc hsl hQ
theorem ow_newPE (X : oSt Z ω γ κ T h cs ss) (pc' i : Nat) {aty : ArrayType} {k : Int32} {cap : Nat} {ad : String} (hw : tables_1[i]? = some (.arrayClass (newarray.typeOf aty))) (had : "[" ++ (newarray.typeOf aty).toString = ad) (hd : decode κ.1 pc = .ok (.newarray aty, 2)) (hp : pc + 2 = pc') (h0 : 0 ≤ k.toInt) (h1 : k.toInt ≤ cap) (hb1 : cap * 8 ≤ 536870912) (hc : cs + 1 ≤ κ.2.2.2.2.2.cells) (hsl : ss + cap ≤ κ.2.2.2.2.2.slots)
    (K : ∀ T' h' a, a = h.size → oSt Z ω γ κ T' h' (cs + 1) (ss + cap) → Ext h h' → oA Z h' a (newarray.typeOf aty) k.toInt.toNat (fun _ => defaultValue (newarray.typeOf aty)) → ω.2.1 ≤ a → Exa Z h' a ad → oWP ω γ κ Q T' pc' L (.ref a :: S)) : oWP ω γ κ Q T pc L (.int k :: S) := by
  have hw' := oSt_at X i hw
  have hN := oSt_n0 X
  obtain ⟨hx, hby, hml, hown, hnm, hr, hlk, hZ, hT1, hn0, hT, locs, Y, N⟩ := X
  subst hp
  have hk : ¬ k < 0 := by rw [Int32.lt_iff_toInt_lt, o0]; omega
  have hk' : k.toNatClampNeg ≤ cap := by show k.toInt.toNat ≤ cap; omega
  obtain ⟨T', h', cA, Y', e', E, A, Ea, st⟩ := newPE Y hx hZ hw' hT (g := mkF γ.2.2.2.1 pc L (.int k :: S)) rfl (hb hby hd) rfl hk hk' hb1 hc hsl had
  obtain ⟨s₂, o, hs, r⟩ := K T' h' h.size rfl ⟨hx, hby, hml, hown, hnm, hr, hlk, hZ, hT1, oSnE hn0 E, e', _, Y', N⟩ E (oA.new A h0) hN Ea
  exact ⟨s₂, o, st _ hs, r⟩
theorem ow_clone (X : oSt Z ω γ κ T h cs ss) (pc' i1 i2 i3 i4 i5 i6 : Nat) {own ad : String} {idx : Nat} {a : Addr} {ty : FieldType} {n : Nat} {f : Nat → Value} {W cap : Nat}
    (w1 : tables_1[i1]? = some (.methodLink own idx ⟨ad, "clone", "()Ljava/lang/Object;"⟩)) (ho : κ.2.2.1 = own) (w2 : tables_1[i2]? = some (.sameMethod ad "java/lang/Object" "clone" "()Ljava/lang/Object;")) (w3 : tables_1[i3]? = some (.native ⟨"java/lang/Object", "clone", "()Ljava/lang/Object;"⟩)) (w4 : tables_1[i4]? = some (.instanceMethod ⟨"java/lang/Object", "clone", "()Ljava/lang/Object;"⟩))
    (w5 : tables_1[i5]? = some (.selects ad ⟨ad, "clone", "()Ljava/lang/Object;"⟩ ⟨"java/lang/Object", "clone", "()Ljava/lang/Object;"⟩)) (w6 : tables_1[i6]? = some (.castable ad "java/lang/Cloneable")) (A : oA Z h a ty n f) (Ea : Exa Z h a ad) (hfit : ∀ i, i < n → fits ty (f i) = true) (hn : n ≤ cap) (hf : 1 ≤ κ.2.2.2.2.2.frames) (hW : (S.map fun v => v.category).sum ≤ W) (hl : W + 14 ≤ κ.2.2.2.2.2.locals) (hc : cs + 1 ≤ κ.2.2.2.2.2.cells) (hsl : ss + cap ≤ κ.2.2.2.2.2.slots) (hL : L.size = κ.2.1)
    (hd : decode κ.1 pc = .ok (.invokevirtual idx, 3)) (hp : pc + 3 = pc') (K : ∀ T' h' b, b = h.size → oSt Z ω γ κ T' h' (cs + 1) (ss + cap) → Ext h h' → oA Z h' b ty n f → Exa Z h' b ad → ω.2.1 ≤ b → oWP ω γ κ Q T' pc' L (.ref b :: S)) : oWP ω γ κ Q T pc L (.ref a :: S) := by
  have w1' := oSt_at X i1 w1
  have w2' := oSt_at X i2 w2
  have w3' := oSt_at X i3 w3
  have w4' := oSt_at X i4 w4
  have w5' := oSt_at X i5 w5
  have w6' := oSt_at X i6 w6
  have hN := oSt_n0 X
  obtain ⟨hx, hby, hml, hown, hnm, hr, hlk, hZ, hT1, hn0, hT, locs, Y, N⟩ := X
  obtain ⟨c, A, r1, r2, r3⟩ := A
  subst hp ho
  have FC : FitC Z c := fitC_of A fun i hi v hv => by
    rw [r3 i (by omega)] at hv; cases hv; exact hfit i (by omega)
  obtain ⟨T', h', Y', e', E, A', E', st⟩ := cloneA Y hx hZ hown w1' w2' w3' w4' w5' w6' hT A Ea FC (g := mkF γ.2.2.2.1 pc L (.ref a :: S)) rfl (by rw [hml]; exact hL) rfl (hb hby hd) hf (W := W) (cap := cap) (by show 2 * 0 + _ ≤ _; omega) hl (by rw [r1]; exact hn) hc hsl
  obtain ⟨s₂, o, hs, r⟩ := K T' h' h.size rfl ⟨hx, hby, hml, hown, hnm, hr, hlk, hZ, hT1, oSnE hn0 E, e', _, Y', N⟩ E ⟨_, A', r1, r2, r3⟩ E' hN
  exact ⟨s₂, o, st _ hs, r⟩
end WalkC
section WalkV
variable {Z : State} {ω : OW} {γ : OG} {κ : OM} {Q : Option Value → Heap → Prop} {T : State} {h : Heap} {cs ss : Nat} {pc : Nat} {L : Array Slot} {S : List Value}
theorem ow_getFV (X : oSt Z ω γ κ T h cs ss) (pc' i j : Nat) {own R0 O n d : String} {idx : Nat} {a : Addr} {v : Value} (hw : tables_1[i]? = some (.fieldLink own idx R0 n d)) (hv : tables_1[j]? = some (.sameField R0 O n d)) (ho : κ.2.2.1 = own) (F : Fld Z h a O n d v) (hd : decode κ.1 pc = .ok (.getfield idx, 3)) (hp : pc + 3 = pc')
    (K : ∀ T', oSt Z ω γ κ T' h cs ss → oWP ω γ κ Q T' pc' L (v :: S)) : oWP ω γ κ Q T pc L (.ref a :: S) := by
  have hw' := oSt_at X i hw
  have hv' := oSt_at X j hv
  obtain ⟨hx, hby, hml, hown, hnm, hr, hlk, hZ, hT1, hn0, hT, locs, Y, N⟩ := X
  subst hp ho
  obtain ⟨T', Y', e', st⟩ := getF Y hx hZ hown (host := "") (Or.inl hw') (Via.of hv') hT F (g := mkF γ.2.2.2.1 pc L (.ref a :: S)) rfl rfl (hb hby hd)
  obtain ⟨s₂, o, hs, r⟩ := K T' ⟨hx, hby, hml, hown, hnm, hr, hlk, hZ, hT1, hn0, e', locs, Y', N⟩
  exact ⟨s₂, o, st _ hs, r⟩
theorem ow_putFV (X : oSt Z ω γ κ T h cs ss) (pc' i j k : Nat) {own R0 O n d C : String} {idx kk : Nat} {a : Addr} {v old : Value} {ty : FieldType} (hw : tables_1[i]? = some (.fieldLink own idx R0 n d)) (hv : tables_1[j]? = some (.sameField R0 O n d)) (ho : κ.2.2.1 = own) (F : Fld Z h a O n d old) (E : Exa Z h a C)
    (hl : (Jvm.Cond.lays C O n d).before ω.2.2 Z = true ∨ ((Jvm.Cond.laysFinal C O n d).before ω.2.2 Z = true ∧ κ.2.2.1 = O ∧ κ.2.2.2.1 = "<init>")) (hi : tables_1[k]? = some (.instantiable C kk)) (hty : parseFieldDescriptor d = some ty) (hn : narrow ty v = v) (hf : fits ty v = true) (ha : ω.2.1 ≤ a)
    (hd : decode κ.1 pc = .ok (.putfield idx, 3)) (hp : pc + 3 = pc')
    (K : ∀ T' h', oSt Z ω γ κ T' h' cs ss → Wr h h' a (RoadKit.slotOf Z O n d) v → oWP ω γ κ Q T' pc' L S) : oWP ω γ κ Q T pc L (v :: .ref a :: S) := by
  have hw' := oSt_at X i hw
  have hv' := oSt_at X j hv
  have hi' := oSt_at X k hi
  obtain ⟨hx, hby, hml, hown, hnm, hr, hlk, hZ, hT1, hn0, hT, locs, Y, N⟩ := X
  subst hp ho
  obtain ⟨T', h', Y', e', W, st⟩ := putF Y hx hZ hown (host := "") (Or.inl hw') (Via.of hv') hT F E (hl.imp id fun q => ⟨q.1, q.2.1, hnm.trans q.2.2⟩) hi' hty hn hf (g := mkF γ.2.2.2.1 pc L (v :: .ref a :: S)) rfl rfl (hb hby hd)
  obtain ⟨s₂, o, hs, r⟩ := K T' h' ⟨hx, hby, hml, hown, hnm, hr, hlk, hZ, hT1, oSnW hn0 W, e', _, Y', Fr.snoc Y' N ha⟩ W
  exact ⟨s₂, o, st _ hs, r⟩
end WalkV
section Held
variable {Z : State} {ω : OW} {γ : OG} {κ : OM} {Q : Option Value → Heap → Prop} {T : State} {h : Heap} {cs ss : Nat} {pc : Nat} {L : Array Slot} {S : List Value}
/-- a contract that knows the constants held at its start -/
def oCH (Z : State) (ω : OW) (y : MethodName) (κ : OM) (ws : List Jvm.Cond) (as : Array Value) (h : Heap) (Q : Option Value → Heap → Prop) : Prop :=
  MetFree ω.1 y (head1 (Jvm.Cond.code y κ.1 κ.2.1 κ.2.2.2.2.1 :: ws) κ.2.2.2.2.2) (fun a U => a = as ∧ Z.Warmed39 U.vm ∧ U.heap = h ∧ CHv Z consts_1 U.vm h) (fun _ _ _ _ _ => True)
    (fun _ U o U' => ∃ v Lc, o = .returned v ∧ (Fr ω.2.1 Lc ∧ Q v U'.heap) ∧ ReturnedEndW U o U' Lc κ.2.2.2.2.2.cells κ.2.2.2.2.2.slots)
theorem oCH_of {y : MethodName} {ws : List Jvm.Cond} {as : Array Value} (hw : ∀ d ∈ tables_1, d.before ω.2.2 Z = true) (hn0 : ω.2.1 ≤ h.size)
    (hpn : plainFor y = true) (hcl : κ.2.2.1 = y.cls) (hnm : κ.2.2.2.1 = y.name) (hef : ∀ m, entryFrame m as κ.2.1 = mkF m 0 L []) (body : ∀ γ T, oSt Z ω γ κ T h 0 0 → CHv Z consts_1 γ.2.2.1.vm h → oWP ω γ κ Q T 0 L []) : oCH Z ω y κ ws as h Q := by
  refine MetFree.of_bodySF hpn hisR ?_
  intro p e s m args below meth c s₁ Bd hml0 hP hK
  obtain ⟨rfl, hZ, hh, hC⟩ := hP
  have hown : s.vm.findClass y.cls = some m.cls := findClass_of_methodNamed Bd.named
  have hnm' := (name_of_methodNamed Bd.named Bd.method).1
  have X0 := Stand.of_body Bd
  have e0 : s₁.heap = h := by rw [← hh, Bd.state]; rfl
  have hlk : meth.locks = false := BodyLoose.notSynchronized Bd
  obtain ⟨s₂, o, h1, h2, h3, h4⟩ := body (p, e, s, m, args, below, meth, c, s.vm) s₁ ⟨Bd.exec, Bd.bytes, hml0, by rw [hcl]; exact hown, by rw [hnm]; exact hnm', Bd.returns, hlk, hZ, hw, ⟨by rw [hh]; exact hn0, 0, (State.WarmedH.refl s).since 0, Nat.zero_le _⟩, e0, [], X0, Fr.nil _⟩ hC
  exact ⟨s₂, o, castTop (hef m) h1, h2, h3, h4⟩
theorem oBackX {l : Launch} {R : Room} {p : Program} {e : Env} {below : List Frame} {s : State} {args a0 : Array Value} {y : MethodName} {bytes : ByteArray} {maxL : Nat} {ret : Option FieldType} {rm : Room} {len W : Nat} {as' : Array Value} {Q : Option Value → Heap → List Loc → Prop}
    (hM : MetFree l y (head1 [Jvm.Cond.code y bytes maxL ret] rm) (fun a U => a = as' ∧ Z.Warmed39 U.vm ∧ U.heap = h ∧ CHv Z consts_1 U.vm h) (fun _ _ _ _ _ => True) (fun _ U o U' => ∃ v L, o = .returned v ∧ Q v U'.heap L ∧ ReturnedEndW U o U' L rm.cells rm.slots))
    (hZ : Z.Warmed39 s.vm) (wc : (Jvm.Cond.code y bytes maxL ret).before a0 Z = true) (wz : (Jvm.Cond.initialized y.cls).before a0 Z = true) (hf : rm.frames + 1 ≤ R.frames) (hl : W + (maxL + 11) + rm.locals ≤ R.locals) (hEL : EW Z a0 consts_1) (H : CHv Z consts_1 s.vm h) :
    BackS l R p e below s args y len W (fun A a => a = as' ∧ A.U.heap = h ∧ A.cells + rm.cells ≤ R.cells ∧ A.slots + rm.slots ≤ R.slots)
      (fun A _ v B => ∃ L, Q v B.U.heap L ∧ B.locs = A.locs ++ L ∧ B.cells = A.cells + rm.cells ∧ B.slots = A.slots + rm.slots) :=
  BackS.of_freeW (bytes := bytes) (maxL := maxL) (ret := ret) (E := fun _ _ o t L k n => k = rm.cells ∧ n = rm.slots ∧ ∃ v, o = .returned v ∧ Q v t.heap L) hM hf hl
    (fun m meth c A a Y hp => have hU : Z.Warmed39 A.U.vm := wtrans hZ Y.warmed
      ⟨by show (Jvm.Cond.and _ .tt).before a A.U = true; rw [Cond.before_and, mv hU wc]; rfl, mv hU wc, mv hU wz, hp.2.2.1, hp.2.2.2⟩)
    (fun m meth c A a g mk Y hp => ⟨hp.1, wtrans hZ Y.warmed, hp.2.1, (CHv.at (s := s) (vm0 := s.vm) Y hZ hEL H).1⟩) (fun _ _ _ _ _ _ _ _ _ => trivial)
    (fun _ _ _ _ ⟨v, L, h1, h2, h3⟩ => ⟨L, _, _, h3, rfl, rfl, v, h1, h2⟩)
    (fun m meth c A a g mk v t L k n Y hp _ _ ⟨e1, e2, v', e3, e4⟩ => by cases e3; subst e1 e2; exact ⟨L, e4, rfl, rfl, rfl⟩)
/-- a literal's bytes -/
def own_bt (text : String) (i : Nat) : Int32 := (text.toList.map fun c => Jvm.Lit.byteI c.toNat.toUInt16).getD i 0
theorem own_gd (l : List Char) (f : Char → Int32) (i : Nat) : (l.map fun c => Value.int (f c)).getD i (.int 0) = .int ((l.map f).getD i 0) := by
  induction l generalizing i with
  | nil => rfl
  | cons c l ih =>
    cases i with
    | zero => rfl
    | succ i => exact ih i
/-- a String constant, read -/
theorem ow_ldcCH (X : oSt Z ω γ κ T h cs ss) (pc' i : Nat) {own text : String} {idx : Nat} (n : Nat) (z : Int32) (hw : tables_1[i]? = some (.stringLink own idx text)) (ho : κ.2.2.1 = own) (hA : ∀ a ∈ Bundle.stringAtoms, a ∈ tables_1) (hEL : EW Z ω.2.2 consts_1) (hmem : (own, idx) ∈ consts_1) (H : CHv Z consts_1 γ.2.2.1.vm h)
    (hch : ∀ c ∈ text.toList, c.toNat < 256) (hz : ¬ z < 0) (hl : z.toNatClampNeg = text.toList.length) (hn : 4 * text.toList.length ≤ n) (hbig : n ≤ 536870912) (hc : cs + 2 ≤ κ.2.2.2.2.2.cells) (hsl : ss + (n + 4) ≤ κ.2.2.2.2.2.slots) (hd : decode κ.1 pc = .ok (.ldc idx, 2)) (hp : pc + 2 = pc')
    (K : ∀ (γ : OG) T' h' a b, oSt Z ω γ κ T' h' (cs + 2) (ss + (n + 4)) → Ext h h' → Exa Z h' a "java/lang/String" → Fld Z h' a "java/lang/String" "value" "[B" (.ref b) → Fld Z h' a "java/lang/String" "coder" "B" (.int 0) → oA Z h' b .byte text.toList.length (fun i => .int (own_bt text i)) → oWP ω γ κ Q T' pc' L (.ref a :: S)) : oWP ω γ κ Q T pc L S := by
  have hw' := oSt_at X i hw
  have hall := oSt_w X
  obtain ⟨hx, hby, hml, hown, hnm, hr, hlk, hZ, hT1, ⟨hn0, k0, hS, hk⟩, hT, locs, Y, N⟩ := X
  subst hp ho
  obtain ⟨a, T', h', k1, b, k, Y', e', E, hS', hk1, hZ', hown', Ea, Fc, Fv, Ar, -, -, -, -, -, st⟩ := RoadKit.ldcCH (s := γ.2.2.1.setVm γ.2.2.2.2.2.2.2.2) (vm0 := γ.2.2.1.vm) Y hx hZ hown hw' (fun d hd' => hall d (hA d hd')) hT hS hk hEL hmem H (z := z) ⟨hch, rfl⟩ hz (by rw [List.length_map]; exact hl) (g := mkF γ.2.2.2.1 pc L S) rfl (hb hby hd) hn hbig hc hsl
  have A : oA Z h' b .byte text.toList.length (fun i => .int (own_bt text i)) := by
    obtain ⟨c, A, -, q3, q4, Hs, -⟩ := Ar
    have q := z.toInt_lt
    have q' : z.toNatClampNeg = z.toInt.toNat := rfl
    refine ⟨c, A, q3.trans hl, by omega, fun i hi => ?_⟩
    rw [Hs i (by rw [q3, hl]; exact hi)]
    exact congrArg some (own_gd _ _ i)
  obtain ⟨s₂, o, hs, r⟩ := K (γ.1, γ.2.1, γ.2.2.1.setVm T'.vm, γ.2.2.2.1, γ.2.2.2.2.1, γ.2.2.2.2.2.1, γ.2.2.2.2.2.2.1, γ.2.2.2.2.2.2.2.1, γ.2.2.2.2.2.2.2.2) T' h' a b ⟨hx, hby, hml, hown', hnm, hr, hlk, hZ', hT1, ⟨hn0, k1, hS', hk1⟩, e', locs, Y', N⟩ E Ea Fv Fc A
  exact ⟨s₂, o, st _ hs, r⟩
theorem ow_callSH (X : oSt Z ω γ κ T h cs ss) (pc' i1 i2 i3 i4 : Nat) {own : String} {idx : Nat} {y : MethodName} {κ' : OM} {Q' : Option Value → Heap → Prop} {as : List Value} {ps : List FieldType} {rt : Option FieldType} {W : Nat} {S0 : List Value}
    (w1 : tables_1[i1]? = some (.methodLink own idx y)) (ho : κ.2.2.1 = own) (w2 : tables_1[i2]? = some (.static y)) (w3 : tables_1[i3]? = some (.initialized y.cls)) (w4 : tables_1[i4]? = some (.code y κ'.1 κ'.2.1 κ'.2.2.2.2.1)) (hy : y.cls ≠ "java/lang/invoke/MethodHandle" ∧ y.cls ≠ "java/lang/invoke/VarHandle")
    (C : oCH Z ω y κ' [] as.toArray h Q') (hEL : EW Z ω.2.2 consts_1) (H : CHv Z consts_1 γ.2.2.1.vm h) (hf : κ'.2.2.2.2.2.frames + 1 ≤ κ.2.2.2.2.2.frames) (hl : W + (κ'.2.1 + 11) + κ'.2.2.2.2.2.locals ≤ κ.2.2.2.2.2.locals) (hW : (S.map fun v => v.category).sum ≤ W) (hc : cs + κ'.2.2.2.2.2.cells ≤ κ.2.2.2.2.2.cells) (hs : ss + κ'.2.2.2.2.2.slots ≤ κ.2.2.2.2.2.slots)
    (hpd : parseMethodDescriptor y.desc = some ⟨ps, rt⟩) (hlen : as.length = ps.length) (hS : S0 = as.reverse ++ S) (hL : L.size = κ.2.1) (hd : decode κ.1 pc = .ok (.invokestatic idx, 3)) (hp : pc + 3 = pc')
    (K : ∀ (γ : OG) v T' h', oSt Z ω γ κ T' h' (cs + κ'.2.2.2.2.2.cells) (ss + κ'.2.2.2.2.2.slots) → Q' v h' → oWP ω γ κ Q T' pc' L (v.toList ++ S)) : oWP ω γ κ Q T pc L S0 := by
  have w1' := oSt_at X i1 w1
  have w2' := oSt_at X i2 w2
  have w3' := oSt_at X i3 w3
  have w4' := oSt_at X i4 w4
  have X_ := X
  obtain ⟨hx, hby, hml, hown, hnm, hr, hlk, hZ, hT1, hn0, hT, locs, Y, N⟩ := X
  subst hp ho hS
  obtain ⟨v, vm₁, ⟨T', L', k', n'⟩, -, Y', hS2, hgr, ⟨Lc, ⟨hF, hQ⟩, q1, q2, q3⟩, st⟩ := RoadKit.callSS Y hx (y := y) hown (mvT hZ w1') (mvT hZ w2') (mvT hZ w3') (mvT hZ w4') hy (oBackX (W := W) (Q := fun v hh Lc => Fr ω.2.1 Lc ∧ Q' v hh) (bytes := κ'.1) (maxL := κ'.2.1) (ret := κ'.2.2.2.2.1) (rm := κ'.2.2.2.2.2) C hZ w4' w3' hf hl hEL H) (g := mkF γ.2.2.2.1 pc L (as.reverse ++ S)) rfl (by rw [hml]; exact hL) (argsL := as) (rest := S) (lenOf hpd hlen) rfl (by show 2 * 0 + _ ≤ _; omega) (hb hby hd) (fun _ _ => ⟨rfl, hT, hc, hs⟩)
  dsimp only [Pt.U, Pt.locs, Pt.cells, Pt.slots] at Y' hS2 hgr q1 q2 q3 st hQ
  subst q1 q2 q3
  obtain ⟨s₂, o, hs, r⟩ := K _ v T' T'.heap (oReb X_ Y' hS2 hgr (N.app hF)) hQ
  exact ⟨s₂, o, st.trans hs, r⟩
theorem ow_callI (X : oSt Z ω γ κ T h cs ss) (pc' i1 i2 i3 i4 i5 i6 i7 i8 i9 i10 : Nat) {own C0 : String} {idx count : Nat} {xi y : MethodName} {κ' : OM} {Q' : Option Value → Heap → Prop} {a : Addr} {as : List Value} {ps : List FieldType} {rt : Option FieldType} {W : Nat} {S0 : List Value}
    (w1 : tables_1[i1]? = some (.methodLink own idx xi)) (ho : κ.2.2.1 = own) (w2 : tables_1[i2]? = some (.declares xi)) (w3 : tables_1[i3]? = some (.interfaceMethod xi.cls xi.cls xi.name xi.desc)) (w4 : tables_1[i4]? = some (.selects C0 xi y)) (w5 : tables_1[i5]? = some (.instanceMethod y)) (w6 : tables_1[i6]? = some (.publicMethod y)) (w7 : tables_1[i7]? = some (.unhidden C0 xi.name xi.desc)) (w8 : tables_1[i8]? = some (.castable C0 xi.cls)) (w9 : tables_1[i9]? = some (.code y κ'.1 κ'.2.1 κ'.2.2.2.2.1)) (w10 : tables_1[i10]? = some (.initialized y.cls)) (hk3 : ((Jvm.Cond.interfaceMethod xi.cls xi.cls xi.name xi.desc).onTables && (Jvm.Cond.interfaceMethod xi.cls xi.cls xi.name xi.desc).keepsFace) = true) (hy : xi.cls ≠ "java/lang/invoke/MethodHandle" ∧ xi.cls ≠ "java/lang/invoke/VarHandle")
    (E : Exa Z h a C0) (C : oC Z ω y κ' [] (.ref a :: as).toArray h Q') (hf : κ'.2.2.2.2.2.frames + 1 ≤ κ.2.2.2.2.2.frames) (hl : W + (κ'.2.1 + 11) + κ'.2.2.2.2.2.locals ≤ κ.2.2.2.2.2.locals) (hW : (S.map fun v => v.category).sum ≤ W) (hc : cs + κ'.2.2.2.2.2.cells ≤ κ.2.2.2.2.2.cells) (hs : ss + κ'.2.2.2.2.2.slots ≤ κ.2.2.2.2.2.slots)
    (hpd : parseMethodDescriptor xi.desc = some ⟨ps, rt⟩) (hlen : as.length = ps.length) (hS : S0 = as.reverse ++ .ref a :: S) (hL : L.size = κ.2.1) (hd : decode κ.1 pc = .ok (.invokeinterface idx count, 5)) (hp : pc + 5 = pc')
    (K : ∀ (γ : OG) v T' h', oSt Z ω γ κ T' h' (cs + κ'.2.2.2.2.2.cells) (ss + κ'.2.2.2.2.2.slots) → Q' v h' → oWP ω γ κ Q T' pc' L (v.toList ++ S)) : oWP ω γ κ Q T pc L S0 := by
  have w1' := oSt_at X i1 w1
  have w2' := oSt_at X i2 w2
  have w3' := oSt_at X i3 w3
  have w4' := oSt_at X i4 w4
  have w5' := oSt_at X i5 w5
  have w6' := oSt_at X i6 w6
  have w7' := oSt_at X i7 w7
  have w8' := oSt_at X i8 w8
  have w9' := oSt_at X i9 w9
  have w10' := oSt_at X i10 w10
  have X_ := X
  obtain ⟨hx, hby, hml, hown, hnm, hr, hlk, hZ, hT1, hn0, hT, locs, Y, N⟩ := X
  subst hp ho hS
  obtain ⟨cq, kq, qa, qb, qc⟩ := isOf hZ hT E
  obtain ⟨v, vm₁, ⟨T', L', k', n'⟩, -, Y', hS2, hgr, ⟨Lc, ⟨hF, hQ⟩, q1, q2, q3⟩, st⟩ := Y.interfaceBackS hx (xi := xi) (y := y) hown (mvT hZ w1') (mvT hZ w2') (mvT hZ w3' hk3) (mvT hZ w4') (mvT hZ w5') (mvT hZ w6') (mvT hZ w7') (mvT hZ w8') hy (backOfS (W := W) (Q := fun v hh Lc => Fr ω.2.1 Lc ∧ Q' v hh) (bytes := κ'.1) (maxL := κ'.2.1) (ret := κ'.2.2.2.2.1) (rm := κ'.2.2.2.2.2) C hZ w9' w10' hf hl) qa qb qc (g := mkF γ.2.2.2.1 pc L (as.reverse ++ .ref a :: S)) rfl (by rw [hml]; exact hL) (Steps.refl _) (argsL := as) (rest := S) (lenOf hpd hlen) rfl (by show 2 * 0 + _ ≤ _; omega) (hb hby hd) (fun _ _ => ⟨rfl, hT, hc, hs⟩)
  dsimp only [Pt.U, Pt.locs, Pt.cells, Pt.slots] at Y' hS2 hgr q1 q2 q3 st hQ
  subst q1 q2 q3
  obtain ⟨s₂, o, hs, r⟩ := K _ v T' T'.heap (oReb X_ Y' hS2 hgr (N.app hF)) hQ
  exact ⟨s₂, o, st.trans hs, r⟩
end Held
theorem oSta_keep {Z : State} {h h' : Heap} {C n d : String} {v : Value} {ws : List Addr} (S : Sta Z h C n d v) (K : Keep h h' ws) (hs : ∀ x ∈ ws, ∃ c : Cell, h[x]? = some c ∧ c.vm.isStatics = false) : Sta Z h' C n d v := by
  obtain ⟨cf, i, k, f, st, cell, h1, h2, h3, h4, h5, h6, h7⟩ := S
  refine ⟨cf, i, k, f, st, cell, h1, h2, h3, h4, K.2.1 st cell h5 (fun hm => ?_), h6, h7⟩
  obtain ⟨c, e1, e2⟩ := hs st hm
  cases h5.symm.trans e1
  rw [h6] at e2; cases e2
theorem oExS {Z : State} {h : Heap} {a : Addr} {C : String} (E : Exa Z h a C) : ∃ c : Cell, h[a]? = some c ∧ c.vm.isStatics = false := by
  obtain ⟨cell, k, h1, -, -, h4, -⟩ := E; exact ⟨cell, h1, h4⟩
theorem oArS {Z : State} {h : Heap} {a : Addr} {ty : FieldType} {n : Nat} {f : Nat → Value} (A : oA Z h a ty n f) : ∃ c : Cell, h[a]? = some c ∧ c.vm.isStatics = false := by
  obtain ⟨c, A, -⟩ := A; exact ⟨c, A.1, Arr.plain A⟩
theorem own_fold {args : Array Value} {s : State} : ∀ (L : List Jvm.Cond) (r : Jvm.Cond), (L.foldr Jvm.Cond.and r).before args s = true → ∀ d ∈ L, d.before args s = true
  | [], _, _, d, hd => by cases hd
  | c :: L, r, h, d, hd => by
    have h' : (Jvm.Cond.and c (L.foldr Jvm.Cond.and r)).before args s = true := h
    rw [Cond.before_and, Bool.and_eq_true] at h'
    cases hd with
    | head => exact h'.1
    | tail _ q => exact own_fold L r h'.2 d q
theorem own_sA : ∀ a ∈ Bundle.stringAtoms, a ∈ tables_1 := by
  intro a ha
  simp only [Bundle.stringAtoms, Bundle.sN, List.mem_cons, List.not_mem_nil, or_false] at ha
  rcases ha with rfl | rfl | rfl | rfl | rfl | rfl | rfl
  · exact List.mem_of_getElem? (i := 6) rfl
  · exact List.mem_of_getElem? (i := 7) rfl
  · exact List.mem_of_getElem? (i := 8) rfl
  · exact List.mem_of_getElem? (i := 9) rfl
  · exact List.mem_of_getElem? (i := 10) rfl
  · exact List.mem_of_getElem? (i := 11) rfl
  · exact List.mem_of_getElem? (i := 12) rfl
theorem oSt_mono {Z : State} {ω : OW} {γ : OG} {κ : OM} {T : State} {h : Heap} {cs ss cs' ss' : Nat} (X : oSt Z ω γ κ T h cs ss) (h1 : cs ≤ cs') (h2 : ss ≤ ss') : oSt Z ω γ κ T h cs' ss' := by
  obtain ⟨hx, hby, hml, hown, hnm, hr, hlk, hZ, hT1, hn0, hT, locs, Y, N⟩ := X
  exact ⟨hx, hby, hml, hown, hnm, hr, hlk, hZ, hT1, hn0, hT, locs, Y.mono h1 h2, N⟩
theorem own_EW {Z : State} {a0 : Array Value} (hw : ∀ d ∈ tables_1, d.before a0 Z = true) : EW Z a0 consts_1 :=
  EW.cons (hw _ (List.mem_of_getElem? (i := 5) rfl)) (by decide +kernel) (EW.cons (hw _ (List.mem_of_getElem? (i := 169) rfl)) (by decide +kernel) (EW.cons (hw _ (List.mem_of_getElem? (i := 170) rfl)) (by decide +kernel) EW.nil))
theorem own_i2c2 (x : Int32) : (x.toUInt32.toUInt16.toUInt32.toInt32).toUInt32.toUInt16.toUInt32.toInt32 = x.toUInt32.toUInt16.toUInt32.toInt32 := by
  apply Int32.toInt_inj.mp
  have a := c_i2c x; have b := c_i2c (x.toUInt32.toUInt16.toUInt32.toInt32)
  omega
theorem own_sh0 (w : Int32) : (w >>> ((0 : Int32) &&& 31)).toInt = w.toInt := by
  have e := c_ishr w 0 0 (by decide)
  have p : ((2 ^ 0 : Nat) : Int) = 1 := by decide
  rw [p] at e; omega
theorem own_13 (k : Int32) : 1 ≤ ((1 : Int32) + ((k &&& (2147483647 : Int32)) % (3 : Int32))).toInt ∧ ((1 : Int32) + ((k &&& (2147483647 : Int32)) % (3 : Int32))).toInt ≤ 3 := by
  have h := (c_andS k 2147483647).2.2 (by decide)
  have m := (c_irem (k &&& 2147483647) 3 3 rfl).1 h
  have a := c_iadd 1 ((k &&& 2147483647) % 3); have r := rng32 ((1 : Int32) + ((k &&& (2147483647 : Int32)) % (3 : Int32))); have e : (1 : Int32).toInt = 1 := rfl
  omega
theorem own_mx (w h : Int32) (hw : 1 ≤ w.toInt ∧ w.toInt ≤ 3) (hh : 1 ≤ h.toInt ∧ h.toInt ≤ 3) : ((w.toInt64 * h.toInt64).toInt32).toInt = w.toInt * h.toInt ∧ (((w.toInt64 * h.toInt64).toInt32).toInt64).toInt = (w.toInt64 * h.toInt64).toInt ∧ 1 ≤ w.toInt * h.toInt ∧ w.toInt * h.toInt ≤ 9 := by
  have e := c_lmul w.toInt64 h.toInt64; have f := c_i2l w; have g := c_i2l h; have r := rng64 (w.toInt64 * h.toInt64)
  have l := c_l2i (w.toInt64 * h.toInt64); have r2 := rng32 ((w.toInt64 * h.toInt64).toInt32); have b := c_i2l ((w.toInt64 * h.toInt64).toInt32)
  rw [f, g] at e
  rw [b]
  generalize (w.toInt64 * h.toInt64).toInt32.toInt = p at *
  generalize (w.toInt64 * h.toInt64).toInt = m at *
  have hp : 1 ≤ w.toInt * h.toInt ∧ w.toInt * h.toInt ≤ 9 := by
    have hc : h.toInt = 1 ∨ h.toInt = 2 ∨ h.toInt = 3 := by omega
    rcases hc with q | q | q <;> rw [q] <;> omega
  generalize w.toInt * h.toInt = k at *
  have x1 : m = k := by clear l r2 b f g; omega
  subst x1
  have x2 : p = m := by clear e r f g; omega
  exact ⟨x2, x2, hp.1, hp.2⟩
theorem own_ix (i w j h z : Int32) (hi : 0 ≤ i.toInt ∧ i.toInt < h.toInt) (hj : 0 ≤ j.toInt ∧ j.toInt < w.toInt) (hw : 1 ≤ w.toInt ∧ w.toInt ≤ 3) (hh : 1 ≤ h.toInt ∧ h.toInt ≤ 3) (hz : z.toInt = w.toInt * h.toInt) : 0 ≤ (i * w + j).toInt ∧ (i * w + j).toInt < z.toInt := by
  have e := c_imul i w; have f := c_iadd (i * w) j; have r1 := rng32 (i * w); have r2 := rng32 (i * w + j)
  generalize (i * w + j).toInt = t at *
  generalize (i * w).toInt = u at *
  have hp : 0 ≤ i.toInt * w.toInt ∧ i.toInt * w.toInt ≤ 6 ∧ i.toInt * w.toInt + w.toInt ≤ w.toInt * h.toInt := by
    have hc : w.toInt = 1 ∨ w.toInt = 2 ∨ w.toInt = 3 := by omega
    rcases hc with q | q | q <;> rw [q] <;> omega
  rw [hz]
  generalize i.toInt * w.toInt = k at *
  generalize w.toInt * h.toInt = n at *
  have x1 : u = k := by clear f r2 hz; omega
  subst x1
  have x2 : t = u + j.toInt := by clear e r1 hz; omega
  omega
theorem own_i1 (i : Int32) (h0 : 0 ≤ i.toInt) (h1 : i.toInt ≤ 3) : (i + (1 : Int32)).toInt = i.toInt + 1 := by
  have := c_iadd i 1; have := rng32 (i + 1); have e : (1 : Int32).toInt = 1 := rfl; omega
def STR (Z : State) (h : Heap) (a : Addr) (v0 v1 : Value) : Prop := Exa Z h a "java/lang/String" ∧ Fld Z h a "java/lang/String" "value" "[B" v0 ∧ Fld Z h a "java/lang/String" "coder" "B" v1
theorem STR.lt {Z : State} {h : Heap} {a : Addr} {v0 v1 : Value} (R : STR Z h a v0 v1) : a < h.size := R.1.lt
theorem STR.ext {Z : State} {h h' : Heap} {a : Addr} {v0 v1 : Value} (R : STR Z h a v0 v1) (W : Ext h h') : STR Z h' a v0 v1 := by
  obtain ⟨E, F0, F1⟩ := R
  exact ⟨E.ext W, F0.ext W, F1.ext W⟩
theorem STR.other {Z : State} {h h' : Heap} {a b : Addr} {sl : Nat} {w : Value} {v0 v1 : Value} (R : STR Z h a v0 v1) (W : Wr h h' b sl w) (q : a ≠ b) : STR Z h' a v0 v1 := by
  obtain ⟨E, F0, F1⟩ := R
  exact ⟨E.wr W, F0.other W (Or.inl q), F1.other W (Or.inl q)⟩
theorem STR.keep {Z : State} {h h' : Heap} {a : Addr} {ws : List Addr} {v0 v1 : Value} (R : STR Z h a v0 v1) (K : Keep h h' ws) (q : a ∉ ws) : STR Z h' a v0 v1 := by
  obtain ⟨E, F0, F1⟩ := R
  exact ⟨E.keep K, F0.keep K q, F1.keep K q⟩
theorem STR.set_value {Z : State} {h h' : Heap} {a : Addr} {a0 : Array Value} {w : Value} {v0 v1 : Value} (hw : ∀ d ∈ tables_1, d.before a0 Z = true) (R : STR Z h a v0 v1) (W : Wr h h' a (RoadKit.slotOf Z "java/lang/String" "value" "[B") w) : STR Z h' a w v1 := by
  obtain ⟨E, F0, F1⟩ := R
  exact ⟨E.wr W, F0.same W, F1.other W (Or.inr (slot_ne (C := "java/lang/String") (Or.inr (hw _ (List.mem_of_getElem? (i := 10) rfl))) (Or.inr (hw _ (List.mem_of_getElem? (i := 9) rfl))) (by decide) (t := .byte) (t' := (.array .byte)) (by decide) (by decide)))⟩
theorem STR.set_coder {Z : State} {h h' : Heap} {a : Addr} {a0 : Array Value} {w : Value} {v0 v1 : Value} (hw : ∀ d ∈ tables_1, d.before a0 Z = true) (R : STR Z h a v0 v1) (W : Wr h h' a (RoadKit.slotOf Z "java/lang/String" "coder" "B") w) : STR Z h' a v0 w := by
  obtain ⟨E, F0, F1⟩ := R
  exact ⟨E.wr W, F0.other W (Or.inr (slot_ne (C := "java/lang/String") (Or.inr (hw _ (List.mem_of_getElem? (i := 9) rfl))) (Or.inr (hw _ (List.mem_of_getElem? (i := 10) rfl))) (by decide) (t := (.array .byte)) (t' := .byte) (by decide) (by decide))), F1.same W⟩
def ALR (Z : State) (h : Heap) (a : Addr) (v0 v1 v2 : Value) : Prop := Exa Z h a "java/util/ArrayList" ∧ Fld Z h a "java/util/ArrayList" "elementData" "[Ljava/lang/Object;" v0 ∧ Fld Z h a "java/util/ArrayList" "size" "I" v1 ∧ Fld Z h a "java/util/AbstractList" "modCount" "I" v2
theorem ALR.lt {Z : State} {h : Heap} {a : Addr} {v0 v1 v2 : Value} (R : ALR Z h a v0 v1 v2) : a < h.size := R.1.lt
theorem ALR.ext {Z : State} {h h' : Heap} {a : Addr} {v0 v1 v2 : Value} (R : ALR Z h a v0 v1 v2) (W : Ext h h') : ALR Z h' a v0 v1 v2 := by
  obtain ⟨E, F0, F1, F2⟩ := R
  exact ⟨E.ext W, F0.ext W, F1.ext W, F2.ext W⟩
theorem ALR.other {Z : State} {h h' : Heap} {a b : Addr} {sl : Nat} {w : Value} {v0 v1 v2 : Value} (R : ALR Z h a v0 v1 v2) (W : Wr h h' b sl w) (q : a ≠ b) : ALR Z h' a v0 v1 v2 := by
  obtain ⟨E, F0, F1, F2⟩ := R
  exact ⟨E.wr W, F0.other W (Or.inl q), F1.other W (Or.inl q), F2.other W (Or.inl q)⟩
theorem ALR.keep {Z : State} {h h' : Heap} {a : Addr} {ws : List Addr} {v0 v1 v2 : Value} (R : ALR Z h a v0 v1 v2) (K : Keep h h' ws) (q : a ∉ ws) : ALR Z h' a v0 v1 v2 := by
  obtain ⟨E, F0, F1, F2⟩ := R
  exact ⟨E.keep K, F0.keep K q, F1.keep K q, F2.keep K q⟩
theorem ALR.set_elementData {Z : State} {h h' : Heap} {a : Addr} {a0 : Array Value} {w : Value} {v0 v1 v2 : Value} (hw : ∀ d ∈ tables_1, d.before a0 Z = true) (R : ALR Z h a v0 v1 v2) (W : Wr h h' a (RoadKit.slotOf Z "java/util/ArrayList" "elementData" "[Ljava/lang/Object;") w) : ALR Z h' a w v1 v2 := by
  obtain ⟨E, F0, F1, F2⟩ := R
  exact ⟨E.wr W, F0.same W, F1.other W (Or.inr (slot_ne (C := "java/util/ArrayList") (Or.inl (hw _ (List.mem_of_getElem? (i := 47) rfl))) (Or.inl (hw _ (List.mem_of_getElem? (i := 38) rfl))) (by decide) (t := .int) (t' := (.array (.object "java/lang/Object"))) (by decide) (by decide))), F2.other W (Or.inr (slot_ne (C := "java/util/ArrayList") (Or.inl (hw _ (List.mem_of_getElem? (i := 35) rfl))) (Or.inl (hw _ (List.mem_of_getElem? (i := 38) rfl))) (by decide) (t := .int) (t' := (.array (.object "java/lang/Object"))) (by decide) (by decide)))⟩
theorem ALR.set_size {Z : State} {h h' : Heap} {a : Addr} {a0 : Array Value} {w : Value} {v0 v1 v2 : Value} (hw : ∀ d ∈ tables_1, d.before a0 Z = true) (R : ALR Z h a v0 v1 v2) (W : Wr h h' a (RoadKit.slotOf Z "java/util/ArrayList" "size" "I") w) : ALR Z h' a v0 w v2 := by
  obtain ⟨E, F0, F1, F2⟩ := R
  exact ⟨E.wr W, F0.other W (Or.inr (slot_ne (C := "java/util/ArrayList") (Or.inl (hw _ (List.mem_of_getElem? (i := 38) rfl))) (Or.inl (hw _ (List.mem_of_getElem? (i := 47) rfl))) (by decide) (t := (.array (.object "java/lang/Object"))) (t' := .int) (by decide) (by decide))), F1.same W, F2.other W (Or.inr (slot_ne (C := "java/util/ArrayList") (Or.inl (hw _ (List.mem_of_getElem? (i := 35) rfl))) (Or.inl (hw _ (List.mem_of_getElem? (i := 47) rfl))) (by decide) (t := .int) (t' := .int) (by decide) (by decide)))⟩
theorem ALR.set_modCount {Z : State} {h h' : Heap} {a : Addr} {a0 : Array Value} {w : Value} {v0 v1 v2 : Value} (hw : ∀ d ∈ tables_1, d.before a0 Z = true) (R : ALR Z h a v0 v1 v2) (W : Wr h h' a (RoadKit.slotOf Z "java/util/AbstractList" "modCount" "I") w) : ALR Z h' a v0 v1 w := by
  obtain ⟨E, F0, F1, F2⟩ := R
  exact ⟨E.wr W, F0.other W (Or.inr (slot_ne (C := "java/util/ArrayList") (Or.inl (hw _ (List.mem_of_getElem? (i := 38) rfl))) (Or.inl (hw _ (List.mem_of_getElem? (i := 35) rfl))) (by decide) (t := (.array (.object "java/lang/Object"))) (t' := .int) (by decide) (by decide))), F1.other W (Or.inr (slot_ne (C := "java/util/ArrayList") (Or.inl (hw _ (List.mem_of_getElem? (i := 47) rfl))) (Or.inl (hw _ (List.mem_of_getElem? (i := 35) rfl))) (by decide) (t := .int) (t' := .int) (by decide) (by decide))), F2.same W⟩
def GMR (Z : State) (h : Heap) (a : Addr) (v0 v1 v2 : Value) : Prop := Exa Z h a "com/example/muster/muster/model/GridMap" ∧ Fld Z h a "com/example/muster/muster/model/GridMap" "height" "I" v0 ∧ Fld Z h a "com/example/muster/muster/model/GridMap" "width" "I" v1 ∧ Fld Z h a "com/example/muster/muster/model/GridMap" "free" "[Z" v2
theorem GMR.lt {Z : State} {h : Heap} {a : Addr} {v0 v1 v2 : Value} (R : GMR Z h a v0 v1 v2) : a < h.size := R.1.lt
theorem GMR.ext {Z : State} {h h' : Heap} {a : Addr} {v0 v1 v2 : Value} (R : GMR Z h a v0 v1 v2) (W : Ext h h') : GMR Z h' a v0 v1 v2 := by
  obtain ⟨E, F0, F1, F2⟩ := R
  exact ⟨E.ext W, F0.ext W, F1.ext W, F2.ext W⟩
theorem GMR.other {Z : State} {h h' : Heap} {a b : Addr} {sl : Nat} {w : Value} {v0 v1 v2 : Value} (R : GMR Z h a v0 v1 v2) (W : Wr h h' b sl w) (q : a ≠ b) : GMR Z h' a v0 v1 v2 := by
  obtain ⟨E, F0, F1, F2⟩ := R
  exact ⟨E.wr W, F0.other W (Or.inl q), F1.other W (Or.inl q), F2.other W (Or.inl q)⟩
theorem GMR.keep {Z : State} {h h' : Heap} {a : Addr} {ws : List Addr} {v0 v1 v2 : Value} (R : GMR Z h a v0 v1 v2) (K : Keep h h' ws) (q : a ∉ ws) : GMR Z h' a v0 v1 v2 := by
  obtain ⟨E, F0, F1, F2⟩ := R
  exact ⟨E.keep K, F0.keep K q, F1.keep K q, F2.keep K q⟩
theorem GMR.set_height {Z : State} {h h' : Heap} {a : Addr} {a0 : Array Value} {w : Value} {v0 v1 v2 : Value} (hw : ∀ d ∈ tables_1, d.before a0 Z = true) (R : GMR Z h a v0 v1 v2) (W : Wr h h' a (RoadKit.slotOf Z "com/example/muster/muster/model/GridMap" "height" "I") w) : GMR Z h' a w v1 v2 := by
  obtain ⟨E, F0, F1, F2⟩ := R
  exact ⟨E.wr W, F0.same W, F1.other W (Or.inr (slot_ne (C := "com/example/muster/muster/model/GridMap") (Or.inr (hw _ (List.mem_of_getElem? (i := 138) rfl))) (Or.inr (hw _ (List.mem_of_getElem? (i := 124) rfl))) (by decide) (t := .int) (t' := .int) (by decide) (by decide))), F2.other W (Or.inr (slot_ne (C := "com/example/muster/muster/model/GridMap") (Or.inr (hw _ (List.mem_of_getElem? (i := 144) rfl))) (Or.inr (hw _ (List.mem_of_getElem? (i := 124) rfl))) (by decide) (t := (.array .boolean)) (t' := .int) (by decide) (by decide)))⟩
theorem GMR.set_width {Z : State} {h h' : Heap} {a : Addr} {a0 : Array Value} {w : Value} {v0 v1 v2 : Value} (hw : ∀ d ∈ tables_1, d.before a0 Z = true) (R : GMR Z h a v0 v1 v2) (W : Wr h h' a (RoadKit.slotOf Z "com/example/muster/muster/model/GridMap" "width" "I") w) : GMR Z h' a v0 w v2 := by
  obtain ⟨E, F0, F1, F2⟩ := R
  exact ⟨E.wr W, F0.other W (Or.inr (slot_ne (C := "com/example/muster/muster/model/GridMap") (Or.inr (hw _ (List.mem_of_getElem? (i := 124) rfl))) (Or.inr (hw _ (List.mem_of_getElem? (i := 138) rfl))) (by decide) (t := .int) (t' := .int) (by decide) (by decide))), F1.same W, F2.other W (Or.inr (slot_ne (C := "com/example/muster/muster/model/GridMap") (Or.inr (hw _ (List.mem_of_getElem? (i := 144) rfl))) (Or.inr (hw _ (List.mem_of_getElem? (i := 138) rfl))) (by decide) (t := (.array .boolean)) (t' := .int) (by decide) (by decide)))⟩
theorem GMR.set_free {Z : State} {h h' : Heap} {a : Addr} {a0 : Array Value} {w : Value} {v0 v1 v2 : Value} (hw : ∀ d ∈ tables_1, d.before a0 Z = true) (R : GMR Z h a v0 v1 v2) (W : Wr h h' a (RoadKit.slotOf Z "com/example/muster/muster/model/GridMap" "free" "[Z") w) : GMR Z h' a v0 v1 w := by
  obtain ⟨E, F0, F1, F2⟩ := R
  exact ⟨E.wr W, F0.other W (Or.inr (slot_ne (C := "com/example/muster/muster/model/GridMap") (Or.inr (hw _ (List.mem_of_getElem? (i := 124) rfl))) (Or.inr (hw _ (List.mem_of_getElem? (i := 144) rfl))) (by decide) (t := .int) (t' := (.array .boolean)) (by decide) (by decide))), F1.other W (Or.inr (slot_ne (C := "com/example/muster/muster/model/GridMap") (Or.inr (hw _ (List.mem_of_getElem? (i := 138) rfl))) (Or.inr (hw _ (List.mem_of_getElem? (i := 144) rfl))) (by decide) (t := .int) (t' := (.array .boolean)) (by decide) (by decide))), F2.same W⟩
theorem d1_0 : decode method_2_code 0 = .ok (.iload_n 0, 1) := by decide +kernel
theorem d1_1 : decode method_2_code 1 = .ok (.iconst 1, 1) := by decide +kernel
theorem d1_2 : decode method_2_code 2 = .ok (.if_icmp .ne 6, 3) := by decide +kernel
theorem d1_5 : decode method_2_code 5 = .ok (.ldc 7, 2) := by decide +kernel
theorem d1_7 : decode method_2_code 7 = .ok (.areturn, 1) := by decide +kernel
theorem d1_8 : decode method_2_code 8 = .ok (.iload_n 0, 1) := by decide +kernel
theorem d1_9 : decode method_2_code 9 = .ok (.iconst 2, 1) := by decide +kernel
theorem d1_10 : decode method_2_code 10 = .ok (.if_icmp .ne 6, 3) := by decide +kernel
theorem d1_13 : decode method_2_code 13 = .ok (.ldc 9, 2) := by decide +kernel
theorem d1_15 : decode method_2_code 15 = .ok (.areturn, 1) := by decide +kernel
theorem d1_16 : decode method_2_code 16 = .ok (.ldc 11, 2) := by decide +kernel
theorem d1_18 : decode method_2_code 18 = .ok (.areturn, 1) := by decide +kernel
def k1 : OM := (method_2_code, 1, "com/example/muster/muster/model/GridMapContainsPinLaw", "row", (some (.object "java/lang/String")), { frames := 0, cells := 2, slots := 16, locals := 0 })
theorem pn1 : plainFor (⟨"com/example/muster/muster/model/GridMapContainsPinLaw", "row", "(I)Ljava/lang/String;"⟩ : MethodName) = true := plainFor_of_name (by first | (simp [plainName, overriddenIn]; done) | decide +kernel)
theorem pd1 : parseMethodDescriptor "(I)Ljava/lang/String;" = some ⟨[.int], (some (.object "java/lang/String"))⟩ := by decide +kernel
set_option maxRecDepth 65536 in
set_option maxHeartbeats 4000000 in
theorem C_row {Z : State} {ω : OW} {h : Heap} (hw_ : ∀ d ∈ tables_1, d.before ω.2.2 Z = true) (hn_ : ω.2.1 ≤ h.size) (w : Int32) (hw : 1 ≤ w.toInt ∧ w.toInt ≤ 3) :
    oCH Z ω (⟨"com/example/muster/muster/model/GridMapContainsPinLaw", "row", "(I)Ljava/lang/String;"⟩ : MethodName) k1 [] #[.int w] h (fun v h' => ∃ (a b : Addr) (g : Nat → Int32), v = some (.ref a) ∧ Keep h h' [] ∧ STR Z h' a (.ref b) (.int (0 : Int32)) ∧ oA Z h' b .byte w.toInt.toNat (fun i_ => .int (g i_))) := by
  refine oCH_of hw_ hn_ pn1 rfl rfl (L := #[.val (.int w)]) (fun m => by first | (simp [entryFrame, mkF, argsToLocals, Value.category, k1]; done) | rfl) ?_
  intro γ T X HH
  refine ow_iloadN X 1 d1_0 rfl rfl ?_
  refine ow_iconst X 2 (1 : Int32) d1_1 rfl rfl ?_
  refine ow_icmp_ne X 5 8 d1_2 rfl rfl (fun (c2 : w.toInt ≠ 1) => ?_) (fun (c2 : w.toInt = 1) => ?_)
  · refine ow_iloadN X 9 d1_8 rfl rfl ?_
    refine ow_iconst X 10 (2 : Int32) d1_9 rfl rfl ?_
    refine ow_icmp_ne X 13 16 d1_10 rfl rfl (fun (c10 : w.toInt ≠ 2) => ?_) (fun (c10 : w.toInt = 2) => ?_)
    · refine ow_ldcCH X 18 170 12 (3 : Int32) rfl rfl own_sA (own_EW (oSt_w X)) (List.mem_of_getElem? (i := 2) rfl) HH (by decide +kernel) (by decide) (by decide +kernel) (by decide +kernel) (by decide) (by decide) (by decide) d1_16 rfl ?_
      intro γ T_1 h_1 a_1 b_1 X_1 E_1 Ex_1 Fv_1 Fc_1 Ab_1
      have f2_0 : Keep h h_1 [] := (Keep.refl h []).ext E_1
      refine ow_retA X_1 rfl rfl rfl d1_18 (by decide) (by decide) ?_
      have en : w.toInt.toNat = 3 := by omega
      have el : "S.#".toList.length = 3 := by decide +kernel
      rw [el] at Ab_1
      have Ab : oA Z h_1 b_1 .byte w.toInt.toNat (fun i => .int (own_bt "S.#" i)) := by rw [en]; exact Ab_1
      exact ⟨a_1, b_1, own_bt "S.#", rfl, f2_0, ⟨Ex_1, Fv_1, Fc_1⟩, Ab⟩
    · refine ow_ldcCH X 15 169 8 (2 : Int32) rfl rfl own_sA (own_EW (oSt_w X)) (List.mem_of_getElem? (i := 1) rfl) HH (by decide +kernel) (by decide) (by decide +kernel) (by decide +kernel) (by decide) (by decide) (by decide) d1_13 rfl ?_
      intro γ T_3 h_3 a_3 b_3 X_3 E_3 Ex_3 Fv_3 Fc_3 Ab_3
      have f4_0 : Keep h h_3 [] := (Keep.refl h []).ext E_3
      refine ow_retA X_3 rfl rfl rfl d1_15 (by decide) (by decide) ?_
      have en : w.toInt.toNat = 2 := by omega
      have el : "#G".toList.length = 2 := by decide +kernel
      rw [el] at Ab_3
      have Ab : oA Z h_3 b_3 .byte w.toInt.toNat (fun i => .int (own_bt "#G" i)) := by rw [en]; exact Ab_3
      exact ⟨a_3, b_3, own_bt "#G", rfl, f4_0, ⟨Ex_3, Fv_3, Fc_3⟩, Ab⟩
  · refine ow_ldcCH X 7 5 4 (1 : Int32) rfl rfl own_sA (own_EW (oSt_w X)) (List.mem_of_getElem? (i := 0) rfl) HH (by decide +kernel) (by decide) (by decide +kernel) (by decide +kernel) (by decide) (by decide) (by decide) d1_5 rfl ?_
    intro γ T_5 h_5 a_5 b_5 X_5 E_5 Ex_5 Fv_5 Fc_5 Ab_5
    have f6_0 : Keep h h_5 [] := (Keep.refl h []).ext E_5
    refine ow_retA X_5 rfl rfl rfl d1_7 (by decide) (by decide) ?_
    have en : w.toInt.toNat = 1 := by omega
    have el : ".".toList.length = 1 := by decide +kernel
    rw [el] at Ab_5
    have Ab : oA Z h_5 b_5 .byte w.toInt.toNat (fun i => .int (own_bt "." i)) := by rw [en]; exact Ab_5
    exact ⟨a_5, b_5, own_bt ".", rfl, f6_0, ⟨Ex_5, Fv_5, Fc_5⟩, Ab⟩
theorem d4_0 : decode jdk_22_method_1_code 0 = .ok (.aload_n 0, 1) := by decide +kernel
theorem d4_1 : decode jdk_22_method_1_code 1 = .ok (.invokespecial 1, 3) := by decide +kernel
theorem d4_4 : decode jdk_22_method_1_code 4 = .ok (.return_, 1) := by decide +kernel
def k4 : OM := (jdk_22_method_1_code, 1, "java/util/AbstractCollection", "<init>", none, { frames := 1, cells := 0, slots := 0, locals := 12 })
theorem pn4 : plainFor (⟨"java/util/AbstractCollection", "<init>", "()V"⟩ : MethodName) = true := plainFor_of_name (by first | (simp [plainName, overriddenIn]; done) | decide +kernel)
theorem pd4 : parseMethodDescriptor "()V" = some ⟨[], none⟩ := by decide +kernel
set_option maxRecDepth 65536 in
set_option maxHeartbeats 4000000 in
theorem C_ac {Z : State} {ω : OW} {h : Heap} (hw_ : ∀ d ∈ tables_1, d.before ω.2.2 Z = true) (hn_ : ω.2.1 ≤ h.size) (r : Addr) :
    oC Z ω (⟨"java/util/AbstractCollection", "<init>", "()V"⟩ : MethodName) k4 [] #[.ref r] h (fun v h' => v = none ∧ h = h') := by
  refine oC_of hw_ hn_ pn4 rfl rfl (L := #[.val (.ref r)]) (fun m => by first | (simp [entryFrame, mkF, argsToLocals, Value.category, k4]; done) | rfl) ?_
  intro γ T X
  refine ow_aloadN X 1 d4_0 rfl rfl rfl ?_
  refine ow_initO X 4 31 32 33 rfl rfl rfl rfl d4_1 rfl rfl (by decide) (W := 0) (Nat.le_of_eq rfl) (by decide) ?_
  intro T_7 X_7
  refine ow_retV X_7 rfl d4_4 (by decide) (by decide) ?_
  exact ⟨rfl, rfl⟩
theorem d3_0 : decode jdk_39_method_1_code 0 = .ok (.aload_n 0, 1) := by decide +kernel
theorem d3_1 : decode jdk_39_method_1_code 1 = .ok (.invokespecial 1, 3) := by decide +kernel
theorem d3_4 : decode jdk_39_method_1_code 4 = .ok (.aload_n 0, 1) := by decide +kernel
theorem d3_5 : decode jdk_39_method_1_code 5 = .ok (.iconst 0, 1) := by decide +kernel
theorem d3_6 : decode jdk_39_method_1_code 6 = .ok (.putfield 7, 3) := by decide +kernel
theorem d3_9 : decode jdk_39_method_1_code 9 = .ok (.return_, 1) := by decide +kernel
def k3 : OM := (jdk_39_method_1_code, 1, "java/util/AbstractList", "<init>", none, { frames := 2, cells := 0, slots := 0, locals := 24 })
theorem pn3 : plainFor (⟨"java/util/AbstractList", "<init>", "()V"⟩ : MethodName) = true := plainFor_of_name (by first | (simp [plainName, overriddenIn]; done) | decide +kernel)
theorem pd3 : parseMethodDescriptor "()V" = some ⟨[], none⟩ := by decide +kernel
set_option maxRecDepth 65536 in
set_option maxHeartbeats 4000000 in
theorem C_al {Z : State} {ω : OW} {h : Heap} (hw_ : ∀ d ∈ tables_1, d.before ω.2.2 Z = true) (hn_ : ω.2.1 ≤ h.size) (r : Addr) (R0 : ALR Z h r .null (.int (0 : Int32)) (.int (0 : Int32))) (gr : ω.2.1 ≤ r) :
    oC Z ω (⟨"java/util/AbstractList", "<init>", "()V"⟩ : MethodName) k3 [] #[.ref r] h (fun v h' => v = none ∧ Keep h h' [r] ∧ ALR Z h' r .null (.int (0 : Int32)) (.int (0 : Int32))) := by
  refine oC_of hw_ hn_ pn3 rfl rfl (L := #[.val (.ref r)]) (fun m => by first | (simp [entryFrame, mkF, argsToLocals, Value.category, k3]; done) | rfl) ?_
  intro γ T X
  refine ow_aloadN X 1 d3_0 rfl rfl rfl ?_
  refine ow_callC X 4 25 26 29 30 (κ' := k4) (as := []) (S := []) (W := 0) rfl rfl rfl rfl rfl rfl rfl (by decide) (C_ac (oSt_w X) (oSt_n0 X) r) (by decide) (by decide) (Nat.le_of_eq rfl) (by decide) (by decide) pd4 rfl rfl rfl d3_1 rfl ?_
  intro γ v_8 T_8 h_8 X_8 q_8
  obtain ⟨rfl, rfl⟩ := q_8
  show oWP ω γ k3 _ T_8 4 #[.val (.ref r)] []
  refine ow_aloadN X_8 5 d3_4 rfl rfl rfl ?_
  refine ow_iconst X_8 6 (0 : Int32) d3_5 rfl rfl ?_
  refine ow_putF X_8 9 34 14 rfl rfl R0.2.2.2 R0.1 (Or.inl (oSt_at X_8 35 rfl)) rfl (ty := .int) (by decide) rfl rfl gr d3_6 rfl ?_
  intro T_9 h_9 X_9 W_9
  have f10_0 : ALR Z h_9 r .null (.int (0 : Int32)) (.int (0 : Int32)) := ALR.set_modCount (oSt_w X_9) R0 W_9
  have f10_1 : Keep h h_9 [r] := (Keep.refl h [r]).wr W_9 (Or.inl (List.mem_of_getElem? (i := 0) rfl))
  refine ow_retV X_9 rfl d3_9 (by decide) (by decide) ?_
  exact ⟨rfl, f10_1, f10_0⟩
theorem d2_0 : decode jdk_38_method_2_code 0 = .ok (.aload_n 0, 1) := by decide +kernel
theorem d2_1 : decode jdk_38_method_2_code 1 = .ok (.invokespecial 1, 3) := by decide +kernel
theorem d2_4 : decode jdk_38_method_2_code 4 = .ok (.aload_n 0, 1) := by decide +kernel
theorem d2_5 : decode jdk_38_method_2_code 5 = .ok (.getstatic 39, 3) := by decide +kernel
theorem d2_8 : decode jdk_38_method_2_code 8 = .ok (.putfield 9, 3) := by decide +kernel
theorem d2_11 : decode jdk_38_method_2_code 11 = .ok (.return_, 1) := by decide +kernel
def k2 : OM := (jdk_38_method_2_code, 1, "java/util/ArrayList", "<init>", none, { frames := 3, cells := 0, slots := 0, locals := 36 })
theorem pn2 : plainFor (⟨"java/util/ArrayList", "<init>", "()V"⟩ : MethodName) = true := plainFor_of_name (by first | (simp [plainName, overriddenIn]; done) | decide +kernel)
theorem pd2 : parseMethodDescriptor "()V" = some ⟨[], none⟩ := by decide +kernel
set_option maxRecDepth 65536 in
set_option maxHeartbeats 4000000 in
theorem C_ali {Z : State} {ω : OW} {h : Heap} (hw_ : ∀ d ∈ tables_1, d.before ω.2.2 Z = true) (hn_ : ω.2.1 ≤ h.size) (r xD : Addr) (R0 : ALR Z h r .null (.int (0 : Int32)) (.int (0 : Int32))) (SD : Sta Z h "java/util/ArrayList" "DEFAULTCAPACITY_EMPTY_ELEMENTDATA" "[Ljava/lang/Object;" (.ref xD)) (gr : ω.2.1 ≤ r) :
    oC Z ω (⟨"java/util/ArrayList", "<init>", "()V"⟩ : MethodName) k2 [] #[.ref r] h (fun v h' => v = none ∧ Keep h h' [r] ∧ ALR Z h' r (.ref xD) (.int (0 : Int32)) (.int (0 : Int32))) := by
  refine oC_of hw_ hn_ pn2 rfl rfl (L := #[.val (.ref r)]) (fun m => by first | (simp [entryFrame, mkF, argsToLocals, Value.category, k2]; done) | rfl) ?_
  intro γ T X
  refine ow_aloadN X 1 d2_0 rfl rfl rfl ?_
  refine ow_callC X 4 19 20 23 24 (κ' := k3) (as := []) (S := []) (W := 0) rfl rfl rfl rfl rfl rfl rfl (by decide) (C_al (oSt_w X) (oSt_n0 X) r R0 gr) (by decide) (by decide) (Nat.le_of_eq rfl) (by decide) (by decide) pd3 rfl rfl rfl d2_1 rfl ?_
  intro γ v_11 T_11 h_11 X_11 q_11
  obtain ⟨rfl, K11, R11⟩ := q_11
  have f12_1 : Sta Z h_11 "java/util/ArrayList" "DEFAULTCAPACITY_EMPTY_ELEMENTDATA" "[Ljava/lang/Object;" (.ref xD) := oSta_keep SD K11 (allS (oExS R0.1) all0)
  have f12_2 : Keep h h_11 [r] := (Keep.refl h [r]).trans K11 (allS (Or.inl (List.mem_of_getElem? (i := 0) rfl)) all0)
  show oWP ω γ k2 _ T_11 4 #[.val (.ref r)] []
  refine ow_aloadN X_11 5 d2_4 rfl rfl rfl ?_
  refine ow_getS X_11 8 36 rfl rfl f12_1 d2_5 rfl ?_
  intro T_13 X_13
  refine ow_putF X_13 11 37 14 rfl rfl R11.2.1 R11.1 (Or.inl (oSt_at X_13 38 rfl)) rfl (ty := (.array (.object "java/lang/Object"))) (by decide) rfl rfl gr d2_8 rfl ?_
  intro T_14 h_14 X_14 W_14
  have f15_0 : Sta Z h_14 "java/util/ArrayList" "DEFAULTCAPACITY_EMPTY_ELEMENTDATA" "[Ljava/lang/Object;" (.ref xD) := f12_1.wr W_14
  have f15_1 : Keep h h_14 [r] := f12_2.wr W_14 (Or.inl (List.mem_of_getElem? (i := 0) rfl))
  have f15_2 : ALR Z h_14 r (.ref xD) (.int (0 : Int32)) (.int (0 : Int32)) := ALR.set_elementData (oSt_w X_14) R11 W_14
  refine ow_retV X_14 rfl d2_11 (by decide) (by decide) ?_
  exact ⟨rfl, f15_1, f15_2⟩
theorem d10_0 : decode jdk_29_method_65_code 0 = .ok (.iload_n 0, 1) := by decide +kernel
theorem d10_1 : decode jdk_29_method_65_code 1 = .ok (.iload_n 1, 1) := by decide +kernel
theorem d10_2 : decode jdk_29_method_65_code 2 = .ok (.if_icmp .lt 7, 3) := by decide +kernel
theorem d10_5 : decode jdk_29_method_65_code 5 = .ok (.iload_n 0, 1) := by decide +kernel
theorem d10_6 : decode jdk_29_method_65_code 6 = .ok (.goto 4, 3) := by decide +kernel
theorem d10_9 : decode jdk_29_method_65_code 9 = .ok (.iload_n 1, 1) := by decide +kernel
theorem d10_10 : decode jdk_29_method_65_code 10 = .ok (.ireturn, 1) := by decide +kernel
def k10 : OM := (jdk_29_method_65_code, 2, "java/lang/Math", "max", (some .int), { frames := 0, cells := 0, slots := 0, locals := 0 })
theorem pn10 : plainFor (⟨"java/lang/Math", "max", "(II)I"⟩ : MethodName) = true := by decide +kernel
theorem pd10 : parseMethodDescriptor "(II)I" = some ⟨[.int, .int], (some .int)⟩ := by decide +kernel
set_option maxRecDepth 65536 in
set_option maxHeartbeats 4000000 in
theorem C_max {Z : State} {ω : OW} {h : Heap} (hw_ : ∀ d ∈ tables_1, d.before ω.2.2 Z = true) (hn_ : ω.2.1 ≤ h.size) (x y : Int32) (hx : y.toInt ≤ x.toInt) :
    oC Z ω (⟨"java/lang/Math", "max", "(II)I"⟩ : MethodName) k10 [] #[.int x, .int y] h (fun v h' => v = some (.int x) ∧ h = h') := by
  refine oC_of hw_ hn_ pn10 rfl rfl (L := #[.val (.int x), .val (.int y)]) (fun m => by first | (simp [entryFrame, mkF, argsToLocals, Value.category, k10]; done) | rfl) ?_
  intro γ T X
  refine ow_iloadN X 1 d10_0 rfl rfl ?_
  refine ow_iloadN X 2 d10_1 rfl rfl ?_
  refine ow_icmp_lt X 5 9 d10_2 rfl rfl (fun (c2 : x.toInt < y.toInt) => by exfalso; omega) (fun (c2 : y.toInt ≤ x.toInt) => ?_)
  refine ow_iloadN X 6 d10_5 rfl rfl ?_
  refine ow_goto X 10 d10_6 rfl ?_
  refine ow_retI X rfl d10_10 (by decide) (by decide) ?_
  exact ⟨rfl, rfl⟩
theorem d9_0 : decode jdk_38_method_6_code 0 = .ok (.aload_n 0, 1) := by decide +kernel
theorem d9_1 : decode jdk_38_method_6_code 1 = .ok (.getfield 9, 3) := by decide +kernel
theorem d9_4 : decode jdk_38_method_6_code 4 = .ok (.arraylength, 1) := by decide +kernel
theorem d9_5 : decode jdk_38_method_6_code 5 = .ok (.istore_n 2, 1) := by decide +kernel
theorem d9_6 : decode jdk_38_method_6_code 6 = .ok (.iload_n 2, 1) := by decide +kernel
theorem d9_7 : decode jdk_38_method_6_code 7 = .ok (.ifCond .gt 13, 3) := by decide +kernel
theorem d9_10 : decode jdk_38_method_6_code 10 = .ok (.aload_n 0, 1) := by decide +kernel
theorem d9_11 : decode jdk_38_method_6_code 11 = .ok (.getfield 9, 3) := by decide +kernel
theorem d9_14 : decode jdk_38_method_6_code 14 = .ok (.getstatic 39, 3) := by decide +kernel
theorem d9_17 : decode jdk_38_method_6_code 17 = .ok (.if_acmp .eq 28, 3) := by decide +kernel
theorem d9_20 : decode jdk_38_method_6_code 20 = .ok (.iload_n 2, 1) := by decide +kernel
theorem d9_21 : decode jdk_38_method_6_code 21 = .ok (.iload_n 1, 1) := by decide +kernel
theorem d9_22 : decode jdk_38_method_6_code 22 = .ok (.iload_n 2, 1) := by decide +kernel
theorem d9_23 : decode jdk_38_method_6_code 23 = .ok (.isub, 1) := by decide +kernel
theorem d9_24 : decode jdk_38_method_6_code 24 = .ok (.iload_n 2, 1) := by decide +kernel
theorem d9_25 : decode jdk_38_method_6_code 25 = .ok (.iconst 1, 1) := by decide +kernel
theorem d9_26 : decode jdk_38_method_6_code 26 = .ok (.ishr, 1) := by decide +kernel
theorem d9_27 : decode jdk_38_method_6_code 27 = .ok (.invokestatic 73, 3) := by decide +kernel
theorem d9_30 : decode jdk_38_method_6_code 30 = .ok (.istore_n 3, 1) := by decide +kernel
theorem d9_31 : decode jdk_38_method_6_code 31 = .ok (.aload_n 0, 1) := by decide +kernel
theorem d9_32 : decode jdk_38_method_6_code 32 = .ok (.aload_n 0, 1) := by decide +kernel
theorem d9_33 : decode jdk_38_method_6_code 33 = .ok (.getfield 9, 3) := by decide +kernel
theorem d9_36 : decode jdk_38_method_6_code 36 = .ok (.iload_n 3, 1) := by decide +kernel
theorem d9_37 : decode jdk_38_method_6_code 37 = .ok (.invokestatic 66, 3) := by decide +kernel
theorem d9_40 : decode jdk_38_method_6_code 40 = .ok (.dup_x1, 1) := by decide +kernel
theorem d9_41 : decode jdk_38_method_6_code 41 = .ok (.putfield 9, 3) := by decide +kernel
theorem d9_44 : decode jdk_38_method_6_code 44 = .ok (.areturn, 1) := by decide +kernel
theorem d9_45 : decode jdk_38_method_6_code 45 = .ok (.aload_n 0, 1) := by decide +kernel
theorem d9_46 : decode jdk_38_method_6_code 46 = .ok (.bipush 10, 2) := by decide +kernel
theorem d9_48 : decode jdk_38_method_6_code 48 = .ok (.iload_n 1, 1) := by decide +kernel
theorem d9_49 : decode jdk_38_method_6_code 49 = .ok (.invokestatic 79, 3) := by decide +kernel
theorem d9_52 : decode jdk_38_method_6_code 52 = .ok (.anewarray 7, 3) := by decide +kernel
theorem d9_55 : decode jdk_38_method_6_code 55 = .ok (.dup_x1, 1) := by decide +kernel
theorem d9_56 : decode jdk_38_method_6_code 56 = .ok (.putfield 9, 3) := by decide +kernel
theorem d9_59 : decode jdk_38_method_6_code 59 = .ok (.areturn, 1) := by decide +kernel
def k9 : OM := (jdk_38_method_6_code, 4, "java/util/ArrayList", "grow", (some (.array (.object "java/lang/Object"))), { frames := 1, cells := 1, slots := 10, locals := 14 })
theorem pn9 : plainFor (⟨"java/util/ArrayList", "grow", "(I)[Ljava/lang/Object;"⟩ : MethodName) = true := plainFor_of_name (by first | (simp [plainName, overriddenIn]; done) | decide +kernel)
theorem pd9 : parseMethodDescriptor "(I)[Ljava/lang/Object;" = some ⟨[.int], (some (.array (.object "java/lang/Object")))⟩ := by decide +kernel
set_option maxRecDepth 65536 in
set_option maxHeartbeats 4000000 in
theorem C_grow1 {Z : State} {ω : OW} {h : Heap} (hw_ : ∀ d ∈ tables_1, d.before ω.2.2 Z = true) (hn_ : ω.2.1 ≤ h.size) (r xD : Addr) (mc : Int32) (fD : Nat → Value) (R0 : ALR Z h r (.ref xD) (.int (0 : Int32)) (.int mc)) (Ad : oA Z h xD (.object "java/lang/Object") 0 fD) (SD : Sta Z h "java/util/ArrayList" "DEFAULTCAPACITY_EMPTY_ELEMENTDATA" "[Ljava/lang/Object;" (.ref xD)) (gr : ω.2.1 ≤ r) (nrd : r ≠ xD) :
    oC Z ω (⟨"java/util/ArrayList", "grow", "(I)[Ljava/lang/Object;"⟩ : MethodName) k9 [] #[.ref r, .int ((0 : Int32) + (1 : Int32))] h (fun v h' => ∃ ed : Addr, v = some (.ref ed) ∧ Keep h h' [r] ∧ ω.2.1 ≤ ed ∧ h.size ≤ ed ∧ ALR Z h' r (.ref ed) (.int (0 : Int32)) (.int mc) ∧ oA Z h' ed (.object "java/lang/Object") 10 (fun _ => .null) ∧ oOv Z h' ed "java/lang/Object") := by
  refine oC_of hw_ hn_ pn9 rfl rfl (L := #[.val (.ref r), .val (.int ((0 : Int32) + (1 : Int32))), .unset, .unset]) (fun m => by first | (simp [entryFrame, mkF, argsToLocals, Value.category, k9]; done) | rfl) ?_
  intro γ T X
  refine ow_aloadN X 1 d9_0 rfl rfl rfl ?_
  refine ow_getF X 4 37 rfl rfl R0.2.1 d9_1 rfl ?_
  intro T_16 X_16
  refine ow_alen X_16 5 (v := (0 : Int32)) Ad d9_4 rfl rfl ?_
  refine ow_istoreN X_16 6 (L' := #[.val (.ref r), .val (.int ((0 : Int32) + (1 : Int32))), .val (.int (0 : Int32)), .unset]) d9_5 rfl rfl ?_
  refine ow_iloadN X_16 7 d9_6 rfl rfl ?_
  refine ow_if_gt X_16 10 20 d9_7 rfl rfl (fun (c7 : 0 < 0) => absurd c7 (by decide)) (fun (c7 : 0 ≤ 0) => ?_)
  refine ow_aloadN X_16 11 d9_10 rfl rfl rfl ?_
  refine ow_getF X_16 14 37 rfl rfl R0.2.1 d9_11 rfl ?_
  intro T_17 X_17
  refine ow_getS X_17 17 36 rfl rfl SD d9_14 rfl ?_
  intro T_18 X_18
  refine ow_acmp_eq X_18 20 45 rfl rfl d9_17 rfl rfl (fun c17 => ?_) (fun c17 => absurd rfl c17)
  refine ow_aloadN X_18 46 d9_45 rfl rfl rfl ?_
  refine ow_bipush X_18 48 (10 : Int32) d9_46 rfl rfl ?_
  refine ow_iloadN X_18 49 d9_48 rfl rfl ?_
  refine ow_callS X_18 52 63 64 65 66 (κ' := k10) (as := [.int (10 : Int32), .int ((0 : Int32) + (1 : Int32))]) (S := [.ref r]) (W := 1) rfl rfl rfl rfl rfl (by decide) (C_max (oSt_w X_18) (oSt_n0 X_18) (10 : Int32) ((0 : Int32) + (1 : Int32)) (by decide)) (by decide) (by decide) (Nat.le_of_eq rfl) (by decide) (by decide) pd10 rfl rfl rfl d9_49 rfl ?_
  intro γ v_19 T_19 h_19 X_19 q_19
  obtain ⟨rfl, rfl⟩ := q_19
  show oWP ω γ k9 _ T_19 52 #[.val (.ref r), .val (.int ((0 : Int32) + (1 : Int32))), .val (.int (0 : Int32)), .unset] [.int (10 : Int32), .ref r]
  refine ow_newR X_19 55 67 68 (cap := 10) rfl rfl rfl d9_52 rfl (by decide) (by decide) (by decide) (by decide) (by decide) ?_
  intro T_20 h_20 a_20 q_20 X_20 E_20 A_20 O_20 g_20
  have ne_r_a_20 : r ≠ a_20 := by rw [q_20]; exact Nat.ne_of_lt R0.lt
  have ne_xD_a_20 : xD ≠ a_20 := by rw [q_20]; exact Nat.ne_of_lt Ad.lt
  have ge_h_a_20 : h.size ≤ a_20 := by rw [q_20]; exact (Keep.refl h [r]).1
  have f21_0 : ALR Z h_20 r (.ref xD) (.int (0 : Int32)) (.int mc) := R0.ext E_20
  have f21_1 : oA Z h_20 xD (.object "java/lang/Object") 0 fD := Ad.ext E_20
  have f21_2 : Sta Z h_20 "java/util/ArrayList" "DEFAULTCAPACITY_EMPTY_ELEMENTDATA" "[Ljava/lang/Object;" (.ref xD) := Sta.ext E_20 SD
  have f21_3 : Keep h h_20 [r] := (Keep.refl h [r]).ext E_20
  refine ow_dupX1 X_20 56 d9_55 rfl rfl rfl ?_
  refine ow_putF X_20 59 37 14 rfl rfl f21_0.2.1 f21_0.1 (Or.inl (oSt_at X_20 38 rfl)) rfl (ty := (.array (.object "java/lang/Object"))) (by decide) rfl rfl gr d9_56 rfl ?_
  intro T_22 h_22 X_22 W_22
  have f23_0 : ALR Z h_22 r (.ref a_20) (.int (0 : Int32)) (.int mc) := ALR.set_elementData (oSt_w X_22) f21_0 W_22
  have f23_1 : oA Z h_22 xD (.object "java/lang/Object") 0 fD := f21_1.other W_22 (Ne.symm nrd)
  have f23_2 : Sta Z h_22 "java/util/ArrayList" "DEFAULTCAPACITY_EMPTY_ELEMENTDATA" "[Ljava/lang/Object;" (.ref xD) := f21_2.wr W_22
  have f23_3 : Keep h h_22 [r] := f21_3.wr W_22 (Or.inl (List.mem_of_getElem? (i := 0) rfl))
  have f23_4 : oA Z h_22 a_20 (.object "java/lang/Object") ((10 : Int32).toInt.toNat) (fun _ => .null) := A_20.other W_22 (Ne.symm ne_r_a_20)
  have f23_5 : oOv Z h_22 a_20 "java/lang/Object" := O_20.wr W_22
  refine ow_retA X_22 rfl rfl rfl d9_59 (by decide) (by decide) ?_
  exact ⟨a_20, rfl, f23_3, g_20, ge_h_a_20, f23_0, f23_4, f23_5⟩
theorem d8_0 : decode jdk_38_method_7_code 0 = .ok (.aload_n 0, 1) := by decide +kernel
theorem d8_1 : decode jdk_38_method_7_code 1 = .ok (.aload_n 0, 1) := by decide +kernel
theorem d8_2 : decode jdk_38_method_7_code 2 = .ok (.getfield 48, 3) := by decide +kernel
theorem d8_5 : decode jdk_38_method_7_code 5 = .ok (.iconst 1, 1) := by decide +kernel
theorem d8_6 : decode jdk_38_method_7_code 6 = .ok (.iadd, 1) := by decide +kernel
theorem d8_7 : decode jdk_38_method_7_code 7 = .ok (.invokevirtual 69, 3) := by decide +kernel
theorem d8_10 : decode jdk_38_method_7_code 10 = .ok (.areturn, 1) := by decide +kernel
def k8 : OM := (jdk_38_method_7_code, 1, "java/util/ArrayList", "grow", (some (.array (.object "java/lang/Object"))), { frames := 2, cells := 1, slots := 10, locals := 29 })
theorem pn8 : plainFor (⟨"java/util/ArrayList", "grow", "()[Ljava/lang/Object;"⟩ : MethodName) = true := plainFor_of_name (by first | (simp [plainName, overriddenIn]; done) | decide +kernel)
theorem pd8 : parseMethodDescriptor "()[Ljava/lang/Object;" = some ⟨[], (some (.array (.object "java/lang/Object")))⟩ := by decide +kernel
set_option maxRecDepth 65536 in
set_option maxHeartbeats 4000000 in
theorem C_grow0 {Z : State} {ω : OW} {h : Heap} (hw_ : ∀ d ∈ tables_1, d.before ω.2.2 Z = true) (hn_ : ω.2.1 ≤ h.size) (r xD : Addr) (mc : Int32) (fD : Nat → Value) (R0 : ALR Z h r (.ref xD) (.int (0 : Int32)) (.int mc)) (Ad : oA Z h xD (.object "java/lang/Object") 0 fD) (SD : Sta Z h "java/util/ArrayList" "DEFAULTCAPACITY_EMPTY_ELEMENTDATA" "[Ljava/lang/Object;" (.ref xD)) (gr : ω.2.1 ≤ r) (nrd : r ≠ xD) :
    oC Z ω (⟨"java/util/ArrayList", "grow", "()[Ljava/lang/Object;"⟩ : MethodName) k8 [] #[.ref r] h (fun v h' => ∃ ed : Addr, v = some (.ref ed) ∧ Keep h h' [r] ∧ ω.2.1 ≤ ed ∧ h.size ≤ ed ∧ ALR Z h' r (.ref ed) (.int (0 : Int32)) (.int mc) ∧ oA Z h' ed (.object "java/lang/Object") 10 (fun _ => .null) ∧ oOv Z h' ed "java/lang/Object") := by
  refine oC_of hw_ hn_ pn8 rfl rfl (L := #[.val (.ref r)]) (fun m => by first | (simp [entryFrame, mkF, argsToLocals, Value.category, k8]; done) | rfl) ?_
  intro γ T X
  refine ow_aloadN X 1 d8_0 rfl rfl rfl ?_
  refine ow_aloadN X 2 d8_1 rfl rfl rfl ?_
  refine ow_getF X 5 46 rfl rfl R0.2.2.1 d8_2 rfl ?_
  intro T_24 X_24
  refine ow_iconst X_24 6 (1 : Int32) d8_5 rfl rfl ?_
  refine ow_iadd X_24 7 d8_6 rfl ?_
  refine ow_callP X_24 10 58 59 60 15 62 14 (κ' := k9) (as := [.int ((0 : Int32) + (1 : Int32))]) (S := []) (W := 0) rfl rfl rfl rfl rfl rfl rfl (by decide) R0.1 (C_grow1 (oSt_w X_24) (oSt_n0 X_24) r xD mc fD R0 Ad SD gr nrd) (by decide) (by decide) (Nat.le_of_eq rfl) (by decide) (by decide) pd9 rfl rfl rfl d8_7 rfl ?_
  intro γ v_25 T_25 h_25 X_25 q_25
  obtain ⟨ed25, rfl, K25, gn25, gh25, R25, A25, O25⟩ := q_25
  have ne_r_ed25 : r ≠ ed25 := Nat.ne_of_lt (Nat.lt_of_lt_of_le R0.lt gh25)
  have ne_xD_ed25 : xD ≠ ed25 := Nat.ne_of_lt (Nat.lt_of_lt_of_le Ad.lt gh25)
  have f26_1 : oA Z h_25 xD (.object "java/lang/Object") 0 fD := Ad.keep K25 (ninS (Ne.symm nrd) nin0)
  have f26_2 : Sta Z h_25 "java/util/ArrayList" "DEFAULTCAPACITY_EMPTY_ELEMENTDATA" "[Ljava/lang/Object;" (.ref xD) := oSta_keep SD K25 (allS (oExS R0.1) all0)
  have f26_3 : Keep h h_25 [r] := (Keep.refl h [r]).trans K25 (allS (Or.inl (List.mem_of_getElem? (i := 0) rfl)) all0)
  show oWP ω γ k8 _ T_25 10 #[.val (.ref r)] [.ref ed25]
  refine ow_retA X_25 rfl rfl rfl d8_10 (by decide) (by decide) ?_
  exact ⟨ed25, rfl, f26_3, gn25, (Nat.le_trans (Keep.refl h [r]).1 gh25), R25, A25, O25⟩
theorem d7_0 : decode jdk_38_method_24_code 0 = .ok (.iload_n 3, 1) := by decide +kernel
theorem d7_1 : decode jdk_38_method_24_code 1 = .ok (.aload_n 2, 1) := by decide +kernel
theorem d7_2 : decode jdk_38_method_24_code 2 = .ok (.arraylength, 1) := by decide +kernel
theorem d7_3 : decode jdk_38_method_24_code 3 = .ok (.if_icmp .ne 8, 3) := by decide +kernel
theorem d7_6 : decode jdk_38_method_24_code 6 = .ok (.aload_n 0, 1) := by decide +kernel
theorem d7_7 : decode jdk_38_method_24_code 7 = .ok (.invokevirtual 129, 3) := by decide +kernel
theorem d7_10 : decode jdk_38_method_24_code 10 = .ok (.astore_n 2, 1) := by decide +kernel
theorem d7_11 : decode jdk_38_method_24_code 11 = .ok (.aload_n 2, 1) := by decide +kernel
theorem d7_12 : decode jdk_38_method_24_code 12 = .ok (.iload_n 3, 1) := by decide +kernel
theorem d7_13 : decode jdk_38_method_24_code 13 = .ok (.aload_n 1, 1) := by decide +kernel
theorem d7_14 : decode jdk_38_method_24_code 14 = .ok (.aastore, 1) := by decide +kernel
theorem d7_15 : decode jdk_38_method_24_code 15 = .ok (.aload_n 0, 1) := by decide +kernel
theorem d7_16 : decode jdk_38_method_24_code 16 = .ok (.iload_n 3, 1) := by decide +kernel
theorem d7_17 : decode jdk_38_method_24_code 17 = .ok (.iconst 1, 1) := by decide +kernel
theorem d7_18 : decode jdk_38_method_24_code 18 = .ok (.iadd, 1) := by decide +kernel
theorem d7_19 : decode jdk_38_method_24_code 19 = .ok (.putfield 48, 3) := by decide +kernel
theorem d7_22 : decode jdk_38_method_24_code 22 = .ok (.return_, 1) := by decide +kernel
def k7 : OM := (jdk_38_method_24_code, 4, "java/util/ArrayList", "add", none, { frames := 3, cells := 1, slots := 10, locals := 41 })
theorem pn7 : plainFor (⟨"java/util/ArrayList", "add", "(Ljava/lang/Object;[Ljava/lang/Object;I)V"⟩ : MethodName) = true := plainFor_of_name (by first | (simp [plainName, overriddenIn]; done) | decide +kernel)
theorem pd7 : parseMethodDescriptor "(Ljava/lang/Object;[Ljava/lang/Object;I)V" = some ⟨[(.object "java/lang/Object"), (.array (.object "java/lang/Object")), .int], none⟩ := by decide +kernel
def own_f0 : Nat → Value := fun _ => .null
def own_f1 (x : Addr) (k : Nat) (f : Nat → Value) : Nat → Value := fun i => if i = k then .ref x else f i
set_option maxRecDepth 65536 in
set_option maxHeartbeats 4000000 in
theorem C_add3G {Z : State} {ω : OW} {h : Heap} (hw_ : ∀ d ∈ tables_1, d.before ω.2.2 Z = true) (hn_ : ω.2.1 ≤ h.size) (r x xD : Addr) (mc : Int32) (fD : Nat → Value) (R0 : ALR Z h r (.ref xD) (.int (0 : Int32)) (.int mc)) (Ad : oA Z h xD (.object "java/lang/Object") 0 fD) (SD : Sta Z h "java/util/ArrayList" "DEFAULTCAPACITY_EMPTY_ELEMENTDATA" "[Ljava/lang/Object;" (.ref xD)) (Ex : Exa Z h x "java/lang/String") (gr : ω.2.1 ≤ r) (nrd : r ≠ xD) :
    oC Z ω (⟨"java/util/ArrayList", "add", "(Ljava/lang/Object;[Ljava/lang/Object;I)V"⟩ : MethodName) k7 [] #[.ref r, .ref x, .ref xD, .int (0 : Int32)] h (fun v h' => v = none ∧ ∃ ed : Addr, Keep h h' [r] ∧ ω.2.1 ≤ ed ∧ r ≠ ed ∧ h.size ≤ ed ∧ ALR Z h' r (.ref ed) (.int ((0 : Int32) + (1 : Int32))) (.int mc) ∧ oA Z h' ed (.object "java/lang/Object") 10 (own_f1 x (0 : Int32).toInt.toNat own_f0) ∧ oOv Z h' ed "java/lang/Object") := by
  refine oC_of hw_ hn_ pn7 rfl rfl (L := #[.val (.ref r), .val (.ref x), .val (.ref xD), .val (.int (0 : Int32))]) (fun m => by first | (simp [entryFrame, mkF, argsToLocals, Value.category, k7]; done) | rfl) ?_
  intro γ T X
  refine ow_iloadN X 1 d7_0 rfl rfl ?_
  refine ow_aloadN X 2 d7_1 rfl rfl rfl ?_
  refine ow_alen X 3 (v := (0 : Int32)) Ad d7_2 rfl rfl ?_
  refine ow_icmp_ne X 6 11 d7_3 rfl rfl (fun (c3 : 0 ≠ 0) => absurd rfl c3) (fun (c3 : 0 = 0) => ?_)
  refine ow_aloadN X 7 d7_6 rfl rfl rfl ?_
  refine ow_callP X 10 53 54 55 15 57 14 (κ' := k8) (as := []) (S := []) (W := 0) rfl rfl rfl rfl rfl rfl rfl (by decide) R0.1 (C_grow0 (oSt_w X) (oSt_n0 X) r xD mc fD R0 Ad SD gr nrd) (by decide) (by decide) (Nat.le_of_eq rfl) (by decide) (by decide) pd8 rfl rfl rfl d7_7 rfl ?_
  intro γ v_27 T_27 h_27 X_27 q_27
  obtain ⟨ed27, rfl, K27, gn27, gh27, R27, A27, O27⟩ := q_27
  have ne_r_ed27 : r ≠ ed27 := Nat.ne_of_lt (Nat.lt_of_lt_of_le R0.lt gh27)
  have ne_xD_ed27 : xD ≠ ed27 := Nat.ne_of_lt (Nat.lt_of_lt_of_le Ad.lt gh27)
  have f28_1 : oA Z h_27 xD (.object "java/lang/Object") 0 fD := Ad.keep K27 (ninS (Ne.symm nrd) nin0)
  have f28_2 : Sta Z h_27 "java/util/ArrayList" "DEFAULTCAPACITY_EMPTY_ELEMENTDATA" "[Ljava/lang/Object;" (.ref xD) := oSta_keep SD K27 (allS (oExS R0.1) all0)
  have f28_3 : Exa Z h_27 x "java/lang/String" := Ex.keep K27
  have f28_4 : Keep h h_27 [r] := (Keep.refl h [r]).trans K27 (allS (Or.inl (List.mem_of_getElem? (i := 0) rfl)) all0)
  show oWP ω γ k7 _ T_27 10 #[.val (.ref r), .val (.ref x), .val (.ref xD), .val (.int (0 : Int32))] [.ref ed27]
  refine ow_astoreN X_27 11 (L' := #[.val (.ref r), .val (.ref x), .val (.ref ed27), .val (.int (0 : Int32))]) d7_10 rfl rfl rfl ?_
  refine ow_aloadN X_27 12 d7_11 rfl rfl rfl ?_
  refine ow_iloadN X_27 13 d7_12 rfl rfl ?_
  refine ow_aloadN X_27 14 d7_13 rfl rfl rfl ?_
  refine ow_aastore X_27 15 A27 rfl (O27.sto (Ins.of_exa f28_3 (oSt_at X_27 69 rfl))) gn27 d7_14 rfl (by decide) (by decide) ?_
  intro T_29 h_29 X_29 W_29
  have f30_0 : oA Z h_29 xD (.object "java/lang/Object") 0 fD := f28_1.other W_29 ne_xD_ed27
  have f30_1 : Sta Z h_29 "java/util/ArrayList" "DEFAULTCAPACITY_EMPTY_ELEMENTDATA" "[Ljava/lang/Object;" (.ref xD) := f28_2.wr W_29
  have f30_2 : Exa Z h_29 x "java/lang/String" := f28_3.wr W_29
  have f30_3 : Keep h h_29 [r] := f28_4.wr W_29 (Or.inr (Nat.le_trans (Keep.refl h [r]).1 gh27))
  have f30_4 : ALR Z h_29 r (.ref ed27) (.int (0 : Int32)) (.int mc) := R27.other W_29 ne_r_ed27
  have f30_5 : oA Z h_29 ed27 (.object "java/lang/Object") 10 (fun i => if i = (0 : Int32).toInt.toNat then .ref x else (fun _ => .null) i) := A27.set W_29
  have f30_6 : oOv Z h_29 ed27 "java/lang/Object" := O27.wr W_29
  refine ow_aloadN X_29 16 d7_15 rfl rfl rfl ?_
  refine ow_iloadN X_29 17 d7_16 rfl rfl ?_
  refine ow_iconst X_29 18 (1 : Int32) d7_17 rfl rfl ?_
  refine ow_iadd X_29 19 d7_18 rfl ?_
  refine ow_putF X_29 22 46 14 rfl rfl f30_4.2.2.1 f30_4.1 (Or.inl (oSt_at X_29 47 rfl)) rfl (ty := .int) (by decide) rfl rfl gr d7_19 rfl ?_
  intro T_31 h_31 X_31 W_31
  have f32_0 : oA Z h_31 xD (.object "java/lang/Object") 0 fD := f30_0.other W_31 (Ne.symm nrd)
  have f32_1 : Sta Z h_31 "java/util/ArrayList" "DEFAULTCAPACITY_EMPTY_ELEMENTDATA" "[Ljava/lang/Object;" (.ref xD) := f30_1.wr W_31
  have f32_2 : Exa Z h_31 x "java/lang/String" := f30_2.wr W_31
  have f32_3 : Keep h h_31 [r] := f30_3.wr W_31 (Or.inl (List.mem_of_getElem? (i := 0) rfl))
  have f32_4 : ALR Z h_31 r (.ref ed27) (.int ((0 : Int32) + (1 : Int32))) (.int mc) := ALR.set_size (oSt_w X_31) f30_4 W_31
  have f32_5 : oA Z h_31 ed27 (.object "java/lang/Object") 10 (fun i => if i = (0 : Int32).toInt.toNat then .ref x else (fun _ => .null) i) := f30_5.other W_31 (Ne.symm ne_r_ed27)
  have f32_6 : oOv Z h_31 ed27 "java/lang/Object" := f30_6.wr W_31
  refine ow_retV X_31 rfl d7_22 (by decide) (by decide) ?_
  exact ⟨rfl, ed27, f32_3, gn27, ne_r_ed27, (Nat.le_trans (Keep.refl h [r]).1 gh27), f32_4, f32_5, f32_6⟩
theorem d6_0 : decode jdk_38_method_25_code 0 = .ok (.aload_n 0, 1) := by decide +kernel
theorem d6_1 : decode jdk_38_method_25_code 1 = .ok (.dup, 1) := by decide +kernel
theorem d6_2 : decode jdk_38_method_25_code 2 = .ok (.getfield 63, 3) := by decide +kernel
theorem d6_5 : decode jdk_38_method_25_code 5 = .ok (.iconst 1, 1) := by decide +kernel
theorem d6_6 : decode jdk_38_method_25_code 6 = .ok (.iadd, 1) := by decide +kernel
theorem d6_7 : decode jdk_38_method_25_code 7 = .ok (.putfield 63, 3) := by decide +kernel
theorem d6_10 : decode jdk_38_method_25_code 10 = .ok (.aload_n 0, 1) := by decide +kernel
theorem d6_11 : decode jdk_38_method_25_code 11 = .ok (.aload_n 1, 1) := by decide +kernel
theorem d6_12 : decode jdk_38_method_25_code 12 = .ok (.aload_n 0, 1) := by decide +kernel
theorem d6_13 : decode jdk_38_method_25_code 13 = .ok (.getfield 9, 3) := by decide +kernel
theorem d6_16 : decode jdk_38_method_25_code 16 = .ok (.aload_n 0, 1) := by decide +kernel
theorem d6_17 : decode jdk_38_method_25_code 17 = .ok (.getfield 48, 3) := by decide +kernel
theorem d6_20 : decode jdk_38_method_25_code 20 = .ok (.invokevirtual 131, 3) := by decide +kernel
theorem d6_23 : decode jdk_38_method_25_code 23 = .ok (.iconst 1, 1) := by decide +kernel
theorem d6_24 : decode jdk_38_method_25_code 24 = .ok (.ireturn, 1) := by decide +kernel
def k6 : OM := (jdk_38_method_25_code, 2, "java/util/ArrayList", "add", (some .boolean), { frames := 4, cells := 1, slots := 10, locals := 60 })
theorem pn6 : plainFor (⟨"java/util/ArrayList", "add", "(Ljava/lang/Object;)Z"⟩ : MethodName) = true := plainFor_of_name (by first | (simp [plainName, overriddenIn]; done) | decide +kernel)
theorem pd6 : parseMethodDescriptor "(Ljava/lang/Object;)Z" = some ⟨[(.object "java/lang/Object")], (some .boolean)⟩ := by decide +kernel
set_option maxRecDepth 65536 in
set_option maxHeartbeats 4000000 in
theorem C_addG {Z : State} {ω : OW} {h : Heap} (hw_ : ∀ d ∈ tables_1, d.before ω.2.2 Z = true) (hn_ : ω.2.1 ≤ h.size) (r x xD : Addr) (mc : Int32) (fD : Nat → Value) (R0 : ALR Z h r (.ref xD) (.int (0 : Int32)) (.int mc)) (Ad : oA Z h xD (.object "java/lang/Object") 0 fD) (SD : Sta Z h "java/util/ArrayList" "DEFAULTCAPACITY_EMPTY_ELEMENTDATA" "[Ljava/lang/Object;" (.ref xD)) (Ex : Exa Z h x "java/lang/String") (gr : ω.2.1 ≤ r) (nrd : r ≠ xD) :
    oC Z ω (⟨"java/util/ArrayList", "add", "(Ljava/lang/Object;)Z"⟩ : MethodName) k6 [] #[.ref r, .ref x] h (fun v h' => v = some (.int 1) ∧ ∃ ed : Addr, Keep h h' [r] ∧ ω.2.1 ≤ ed ∧ r ≠ ed ∧ h.size ≤ ed ∧ ALR Z h' r (.ref ed) (.int ((0 : Int32) + (1 : Int32))) (.int (mc + (1 : Int32))) ∧ oA Z h' ed (.object "java/lang/Object") 10 (own_f1 x (0 : Int32).toInt.toNat own_f0) ∧ oOv Z h' ed "java/lang/Object") := by
  refine oC_of hw_ hn_ pn6 rfl rfl (L := #[.val (.ref r), .val (.ref x)]) (fun m => by first | (simp [entryFrame, mkF, argsToLocals, Value.category, k6]; done) | rfl) ?_
  intro γ T X
  refine ow_aloadN X 1 d6_0 rfl rfl rfl ?_
  refine ow_dup X 2 d6_1 rfl rfl ?_
  refine ow_getFV X 5 44 45 rfl rfl rfl R0.2.2.2 d6_2 rfl ?_
  intro T_33 X_33
  refine ow_iconst X_33 6 (1 : Int32) d6_5 rfl rfl ?_
  refine ow_iadd X_33 7 d6_6 rfl ?_
  refine ow_putFV X_33 10 44 45 14 rfl rfl rfl R0.2.2.2 R0.1 (Or.inl (oSt_at X_33 35 rfl)) rfl (ty := .int) (by decide) rfl rfl gr d6_7 rfl ?_
  intro T_34 h_34 X_34 W_34
  have f35_0 : ALR Z h_34 r (.ref xD) (.int (0 : Int32)) (.int (mc + (1 : Int32))) := ALR.set_modCount (oSt_w X_34) R0 W_34
  have f35_1 : oA Z h_34 xD (.object "java/lang/Object") 0 fD := Ad.other W_34 (Ne.symm nrd)
  have f35_2 : Sta Z h_34 "java/util/ArrayList" "DEFAULTCAPACITY_EMPTY_ELEMENTDATA" "[Ljava/lang/Object;" (.ref xD) := SD.wr W_34
  have f35_3 : Exa Z h_34 x "java/lang/String" := Ex.wr W_34
  have f35_4 : Keep h h_34 [r] := (Keep.refl h [r]).wr W_34 (Or.inl (List.mem_of_getElem? (i := 0) rfl))
  refine ow_aloadN X_34 11 d6_10 rfl rfl rfl ?_
  refine ow_aloadN X_34 12 d6_11 rfl rfl rfl ?_
  refine ow_aloadN X_34 13 d6_12 rfl rfl rfl ?_
  refine ow_getF X_34 16 37 rfl rfl f35_0.2.1 d6_13 rfl ?_
  intro T_36 X_36
  refine ow_aloadN X_36 17 d6_16 rfl rfl rfl ?_
  refine ow_getF X_36 20 46 rfl rfl f35_0.2.2.1 d6_17 rfl ?_
  intro T_37 X_37
  refine ow_callP X_37 23 48 49 50 15 52 14 (κ' := k7) (as := [.ref x, .ref xD, .int (0 : Int32)]) (S := []) (W := 0) rfl rfl rfl rfl rfl rfl rfl (by decide) f35_0.1 (C_add3G (oSt_w X_37) (oSt_n0 X_37) r x xD (mc + (1 : Int32)) fD f35_0 f35_1 f35_2 f35_3 gr nrd) (by decide) (by decide) (Nat.le_of_eq rfl) (by decide) (by decide) pd7 rfl rfl rfl d6_20 rfl ?_
  intro γ v_38 T_38 h_38 X_38 q_38
  obtain ⟨rfl, ed38, K38, gn38, nr38, gh38, R38, A38, O38⟩ := q_38
  have f39_1 : Sta Z h_38 "java/util/ArrayList" "DEFAULTCAPACITY_EMPTY_ELEMENTDATA" "[Ljava/lang/Object;" (.ref xD) := oSta_keep f35_2 K38 (allS (oExS f35_0.1) all0)
  have f39_2 : Exa Z h_38 x "java/lang/String" := f35_3.keep K38
  have f39_3 : Keep h h_38 [r] := f35_4.trans K38 (allS (Or.inl (List.mem_of_getElem? (i := 0) rfl)) all0)
  show oWP ω γ k6 _ T_38 23 #[.val (.ref r), .val (.ref x)] []
  refine ow_iconst X_38 24 (1 : Int32) d6_23 rfl rfl ?_
  refine ow_retZ X_38 rfl d6_24 (by decide) (by decide) (by decide) ?_
  exact ⟨rfl, ed38, f39_3, gn38, nr38, (Nat.le_trans f35_4.1 gh38), R38, A38, O38⟩
set_option maxRecDepth 65536 in
set_option maxHeartbeats 4000000 in
theorem C_add3N {Z : State} {ω : OW} {h : Heap} (hw_ : ∀ d ∈ tables_1, d.before ω.2.2 Z = true) (hn_ : ω.2.1 ≤ h.size) (r x ed : Addr) (k mc : Int32) (f : Nat → Value) (R0 : ALR Z h r (.ref ed) (.int k) (.int mc)) (Ae : oA Z h ed (.object "java/lang/Object") 10 f) (Oe : oOv Z h ed "java/lang/Object") (Ex : Exa Z h x "java/lang/String") (gr : ω.2.1 ≤ r) (ge_ : ω.2.1 ≤ ed) (nre : r ≠ ed) (hk0 : 0 ≤ k.toInt) (hk1 : k.toInt < 10) :
    oC Z ω (⟨"java/util/ArrayList", "add", "(Ljava/lang/Object;[Ljava/lang/Object;I)V"⟩ : MethodName) k7 [] #[.ref r, .ref x, .ref ed, .int k] h (fun v h' => v = none ∧ Keep h h' [r, ed] ∧ ALR Z h' r (.ref ed) (.int (k + (1 : Int32))) (.int mc) ∧ oA Z h' ed (.object "java/lang/Object") 10 (own_f1 x k.toInt.toNat f) ∧ oOv Z h' ed "java/lang/Object") := by
  refine oC_of hw_ hn_ pn7 rfl rfl (L := #[.val (.ref r), .val (.ref x), .val (.ref ed), .val (.int k)]) (fun m => by first | (simp [entryFrame, mkF, argsToLocals, Value.category, k7]; done) | rfl) ?_
  intro γ T X
  refine ow_iloadN X 1 d7_0 rfl rfl ?_
  refine ow_aloadN X 2 d7_1 rfl rfl rfl ?_
  refine ow_alen X 3 (v := (10 : Int32)) Ae d7_2 rfl rfl ?_
  refine ow_icmp_ne X 6 11 d7_3 rfl rfl (fun (c3 : k.toInt ≠ 10) => ?_) (fun (c3 : k.toInt = 10) => by exfalso; omega)
  refine ow_aloadN X 12 d7_11 rfl rfl rfl ?_
  refine ow_iloadN X 13 d7_12 rfl rfl ?_
  refine ow_aloadN X 14 d7_13 rfl rfl rfl ?_
  refine ow_aastore X 15 Ae rfl (Oe.sto (Ins.of_exa Ex (oSt_at X 69 rfl))) ge_ d7_14 rfl hk0 (by omega) ?_
  intro T_40 h_40 X_40 W_40
  have f41_0 : ALR Z h_40 r (.ref ed) (.int k) (.int mc) := R0.other W_40 nre
  have f41_1 : oA Z h_40 ed (.object "java/lang/Object") 10 (fun i => if i = k.toInt.toNat then .ref x else f i) := Ae.set W_40
  have f41_2 : oOv Z h_40 ed "java/lang/Object" := Oe.wr W_40
  have f41_3 : Exa Z h_40 x "java/lang/String" := Ex.wr W_40
  have f41_4 : Keep h h_40 [r, ed] := (Keep.refl h [r, ed]).wr W_40 (Or.inl (List.mem_of_getElem? (i := 1) rfl))
  refine ow_aloadN X_40 16 d7_15 rfl rfl rfl ?_
  refine ow_iloadN X_40 17 d7_16 rfl rfl ?_
  refine ow_iconst X_40 18 (1 : Int32) d7_17 rfl rfl ?_
  refine ow_iadd X_40 19 d7_18 rfl ?_
  refine ow_putF X_40 22 46 14 rfl rfl f41_0.2.2.1 f41_0.1 (Or.inl (oSt_at X_40 47 rfl)) rfl (ty := .int) (by decide) rfl rfl gr d7_19 rfl ?_
  intro T_42 h_42 X_42 W_42
  have f43_0 : ALR Z h_42 r (.ref ed) (.int (k + (1 : Int32))) (.int mc) := ALR.set_size (oSt_w X_42) f41_0 W_42
  have f43_1 : oA Z h_42 ed (.object "java/lang/Object") 10 (fun i => if i = k.toInt.toNat then .ref x else f i) := f41_1.other W_42 (Ne.symm nre)
  have f43_2 : oOv Z h_42 ed "java/lang/Object" := f41_2.wr W_42
  have f43_3 : Exa Z h_42 x "java/lang/String" := f41_3.wr W_42
  have f43_4 : Keep h h_42 [r, ed] := f41_4.wr W_42 (Or.inl (List.mem_of_getElem? (i := 0) rfl))
  refine ow_retV X_42 rfl d7_22 (by decide) (by decide) ?_
  exact ⟨rfl, f43_4, f43_0, f43_1, f43_2⟩
set_option maxRecDepth 65536 in
set_option maxHeartbeats 4000000 in
theorem C_addN {Z : State} {ω : OW} {h : Heap} (hw_ : ∀ d ∈ tables_1, d.before ω.2.2 Z = true) (hn_ : ω.2.1 ≤ h.size) (r x ed : Addr) (k mc : Int32) (f : Nat → Value) (R0 : ALR Z h r (.ref ed) (.int k) (.int mc)) (Ae : oA Z h ed (.object "java/lang/Object") 10 f) (Oe : oOv Z h ed "java/lang/Object") (Ex : Exa Z h x "java/lang/String") (gr : ω.2.1 ≤ r) (ge_ : ω.2.1 ≤ ed) (nre : r ≠ ed) (hk0 : 0 ≤ k.toInt) (hk1 : k.toInt < 10) :
    oC Z ω (⟨"java/util/ArrayList", "add", "(Ljava/lang/Object;)Z"⟩ : MethodName) k6 [] #[.ref r, .ref x] h (fun v h' => v = some (.int 1) ∧ Keep h h' [r, ed] ∧ ALR Z h' r (.ref ed) (.int (k + (1 : Int32))) (.int (mc + (1 : Int32))) ∧ oA Z h' ed (.object "java/lang/Object") 10 (own_f1 x k.toInt.toNat f) ∧ oOv Z h' ed "java/lang/Object") := by
  refine oC_of hw_ hn_ pn6 rfl rfl (L := #[.val (.ref r), .val (.ref x)]) (fun m => by first | (simp [entryFrame, mkF, argsToLocals, Value.category, k6]; done) | rfl) ?_
  intro γ T X
  refine ow_aloadN X 1 d6_0 rfl rfl rfl ?_
  refine ow_dup X 2 d6_1 rfl rfl ?_
  refine ow_getFV X 5 44 45 rfl rfl rfl R0.2.2.2 d6_2 rfl ?_
  intro T_44 X_44
  refine ow_iconst X_44 6 (1 : Int32) d6_5 rfl rfl ?_
  refine ow_iadd X_44 7 d6_6 rfl ?_
  refine ow_putFV X_44 10 44 45 14 rfl rfl rfl R0.2.2.2 R0.1 (Or.inl (oSt_at X_44 35 rfl)) rfl (ty := .int) (by decide) rfl rfl gr d6_7 rfl ?_
  intro T_45 h_45 X_45 W_45
  have f46_0 : ALR Z h_45 r (.ref ed) (.int k) (.int (mc + (1 : Int32))) := ALR.set_modCount (oSt_w X_45) R0 W_45
  have f46_1 : oA Z h_45 ed (.object "java/lang/Object") 10 f := Ae.other W_45 (Ne.symm nre)
  have f46_2 : oOv Z h_45 ed "java/lang/Object" := Oe.wr W_45
  have f46_3 : Exa Z h_45 x "java/lang/String" := Ex.wr W_45
  have f46_4 : Keep h h_45 [r, ed] := (Keep.refl h [r, ed]).wr W_45 (Or.inl (List.mem_of_getElem? (i := 0) rfl))
  refine ow_aloadN X_45 11 d6_10 rfl rfl rfl ?_
  refine ow_aloadN X_45 12 d6_11 rfl rfl rfl ?_
  refine ow_aloadN X_45 13 d6_12 rfl rfl rfl ?_
  refine ow_getF X_45 16 37 rfl rfl f46_0.2.1 d6_13 rfl ?_
  intro T_47 X_47
  refine ow_aloadN X_47 17 d6_16 rfl rfl rfl ?_
  refine ow_getF X_47 20 46 rfl rfl f46_0.2.2.1 d6_17 rfl ?_
  intro T_48 X_48
  refine ow_callP X_48 23 48 49 50 15 52 14 (κ' := k7) (as := [.ref x, .ref ed, .int k]) (S := []) (W := 0) rfl rfl rfl rfl rfl rfl rfl (by decide) f46_0.1 (C_add3N (oSt_w X_48) (oSt_n0 X_48) r x ed k (mc + (1 : Int32)) f f46_0 f46_1 f46_2 f46_3 gr ge_ nre hk0 hk1) (by decide) (by decide) (Nat.le_of_eq rfl) (by decide) (by decide) pd7 rfl rfl rfl d6_20 rfl ?_
  intro γ v_49 T_49 h_49 X_49 q_49
  obtain ⟨rfl, K49, R49, A49, O49⟩ := q_49
  have f50_3 : Exa Z h_49 x "java/lang/String" := f46_3.keep K49
  have f50_4 : Keep h h_49 [r, ed] := f46_4.trans K49 (allS (Or.inl (List.mem_of_getElem? (i := 0) rfl)) (allS (Or.inl (List.mem_of_getElem? (i := 1) rfl)) all0))
  show oWP ω γ k6 _ T_49 23 #[.val (.ref r), .val (.ref x)] []
  refine ow_iconst X_49 24 (1 : Int32) d6_23 rfl rfl ?_
  refine ow_retZ X_49 rfl d6_24 (by decide) (by decide) (by decide) ?_
  exact ⟨rfl, f50_4, R49, A49, O49⟩
theorem d12_0 : decode jdk_38_method_9_code 0 = .ok (.aload_n 0, 1) := by decide +kernel
theorem d12_1 : decode jdk_38_method_9_code 1 = .ok (.getfield 48, 3) := by decide +kernel
theorem d12_4 : decode jdk_38_method_9_code 4 = .ok (.ifCond .ne 7, 3) := by decide +kernel
theorem d12_7 : decode jdk_38_method_9_code 7 = .ok (.iconst 1, 1) := by decide +kernel
theorem d12_8 : decode jdk_38_method_9_code 8 = .ok (.goto 4, 3) := by decide +kernel
theorem d12_11 : decode jdk_38_method_9_code 11 = .ok (.iconst 0, 1) := by decide +kernel
theorem d12_12 : decode jdk_38_method_9_code 12 = .ok (.ireturn, 1) := by decide +kernel
def k12 : OM := (jdk_38_method_9_code, 1, "java/util/ArrayList", "isEmpty", (some .boolean), { frames := 0, cells := 0, slots := 0, locals := 0 })
theorem pn12 : plainFor (⟨"java/util/ArrayList", "isEmpty", "()Z"⟩ : MethodName) = true := plainFor_of_name (by first | (simp [plainName, overriddenIn]; done) | decide +kernel)
theorem pd12 : parseMethodDescriptor "()Z" = some ⟨[], (some .boolean)⟩ := by decide +kernel
set_option maxRecDepth 65536 in
set_option maxHeartbeats 4000000 in
theorem C_lem {Z : State} {ω : OW} {h : Heap} (hw_ : ∀ d ∈ tables_1, d.before ω.2.2 Z = true) (hn_ : ω.2.1 ≤ h.size) (r ed : Addr) (sz mc : Int32) (R0 : ALR Z h r (.ref ed) (.int sz) (.int mc)) (hs : 1 ≤ sz.toInt) :
    oC Z ω (⟨"java/util/ArrayList", "isEmpty", "()Z"⟩ : MethodName) k12 [] #[.ref r] h (fun v h' => v = some (.int 0) ∧ h = h') := by
  refine oC_of hw_ hn_ pn12 rfl rfl (L := #[.val (.ref r)]) (fun m => by first | (simp [entryFrame, mkF, argsToLocals, Value.category, k12]; done) | rfl) ?_
  intro γ T X
  refine ow_aloadN X 1 d12_0 rfl rfl rfl ?_
  refine ow_getF X 4 46 rfl rfl R0.2.2.1 d12_1 rfl ?_
  intro T_51 X_51
  refine ow_if_ne X_51 7 11 d12_4 rfl rfl (fun (c4 : sz.toInt ≠ 0) => ?_) (fun (c4 : sz.toInt = 0) => by exfalso; omega)
  refine ow_iconst X_51 12 (0 : Int32) d12_11 rfl rfl ?_
  refine ow_retZ X_51 rfl d12_12 (by decide) (by decide) (by decide) ?_
  exact ⟨rfl, rfl⟩
theorem d18_0 : decode jdk_38_method_8_code 0 = .ok (.aload_n 0, 1) := by decide +kernel
theorem d18_1 : decode jdk_38_method_8_code 1 = .ok (.getfield 48, 3) := by decide +kernel
theorem d18_4 : decode jdk_38_method_8_code 4 = .ok (.ireturn, 1) := by decide +kernel
def k18 : OM := (jdk_38_method_8_code, 1, "java/util/ArrayList", "size", (some .int), { frames := 0, cells := 0, slots := 0, locals := 0 })
theorem pn18 : plainFor (⟨"java/util/ArrayList", "size", "()I"⟩ : MethodName) = true := plainFor_of_name (by first | (simp [plainName, overriddenIn]; done) | decide +kernel)
theorem pd18 : parseMethodDescriptor "()I" = some ⟨[], (some .int)⟩ := by decide +kernel
set_option maxRecDepth 65536 in
set_option maxHeartbeats 4000000 in
theorem C_lsz {Z : State} {ω : OW} {h : Heap} (hw_ : ∀ d ∈ tables_1, d.before ω.2.2 Z = true) (hn_ : ω.2.1 ≤ h.size) (r ed : Addr) (sz mc : Int32) (R0 : ALR Z h r (.ref ed) (.int sz) (.int mc)) :
    oC Z ω (⟨"java/util/ArrayList", "size", "()I"⟩ : MethodName) k18 [] #[.ref r] h (fun v h' => v = some (.int sz) ∧ h = h') := by
  refine oC_of hw_ hn_ pn18 rfl rfl (L := #[.val (.ref r)]) (fun m => by first | (simp [entryFrame, mkF, argsToLocals, Value.category, k18]; done) | rfl) ?_
  intro γ T X
  refine ow_aloadN X 1 d18_0 rfl rfl rfl ?_
  refine ow_getF X 4 46 rfl rfl R0.2.2.1 d18_1 rfl ?_
  intro T_52 X_52
  refine ow_retI X_52 rfl d18_4 (by decide) (by decide) ?_
  exact ⟨rfl, rfl⟩
theorem d15_0 : decode jdk_41_method_11_code 0 = .ok (.iload_n 0, 1) := by decide +kernel
theorem d15_1 : decode jdk_41_method_11_code 1 = .ok (.ifCond .lt 8, 3) := by decide +kernel
theorem d15_4 : decode jdk_41_method_11_code 4 = .ok (.iload_n 0, 1) := by decide +kernel
theorem d15_5 : decode jdk_41_method_11_code 5 = .ok (.iload_n 1, 1) := by decide +kernel
theorem d15_6 : decode jdk_41_method_11_code 6 = .ok (.if_icmp .lt 10, 3) := by decide +kernel
theorem d15_9 : decode jdk_41_method_11_code 9 = .ok (.aload_n 2, 1) := by decide +kernel
theorem d15_10 : decode jdk_41_method_11_code 10 = .ok (.iload_n 0, 1) := by decide +kernel
theorem d15_11 : decode jdk_41_method_11_code 11 = .ok (.iload_n 1, 1) := by decide +kernel
theorem d15_12 : decode jdk_41_method_11_code 12 = .ok (.invokestatic 95, 3) := by decide +kernel
theorem d15_15 : decode jdk_41_method_11_code 15 = .ok (.athrow, 1) := by decide +kernel
theorem d15_16 : decode jdk_41_method_11_code 16 = .ok (.iload_n 0, 1) := by decide +kernel
theorem d15_17 : decode jdk_41_method_11_code 17 = .ok (.ireturn, 1) := by decide +kernel
def k15 : OM := (jdk_41_method_11_code, 3, "jdk/internal/util/Preconditions", "checkIndex", (some .int), { frames := 0, cells := 0, slots := 0, locals := 0 })
theorem pn15 : plainFor (⟨"jdk/internal/util/Preconditions", "checkIndex", "(IILjava/util/function/BiFunction;)I"⟩ : MethodName) = true := plainFor_of_name (by first | (simp [plainName, overriddenIn]; done) | decide +kernel)
theorem pd15 : parseMethodDescriptor "(IILjava/util/function/BiFunction;)I" = some ⟨[.int, .int, (.object "java/util/function/BiFunction")], (some .int)⟩ := by decide +kernel
set_option maxRecDepth 65536 in
set_option maxHeartbeats 4000000 in
theorem C_pci {Z : State} {ω : OW} {h : Heap} (hw_ : ∀ d ∈ tables_1, d.before ω.2.2 Z = true) (hn_ : ω.2.1 ≤ h.size) (i n : Int32) (fm : Value) (hi0 : 0 ≤ i.toInt) (hi1 : i.toInt < n.toInt) (hfm : fm.isRef = true) :
    oC Z ω (⟨"jdk/internal/util/Preconditions", "checkIndex", "(IILjava/util/function/BiFunction;)I"⟩ : MethodName) k15 [] #[.int i, .int n, fm] h (fun v h' => v = some (.int i) ∧ h = h') := by
  refine oC_of hw_ hn_ pn15 rfl rfl (L := #[.val (.int i), .val (.int n), .val fm]) (fun m => by rcases ref_cases hfm with rfl | ⟨a, rfl⟩ <;> (simp [entryFrame, mkF, argsToLocals, Value.category, k15]; done)) ?_
  intro γ T X
  refine ow_iloadN X 1 d15_0 rfl rfl ?_
  refine ow_if_lt X 4 9 d15_1 rfl rfl (fun (c1 : i.toInt < 0) => by exfalso; omega) (fun (c1 : 0 ≤ i.toInt) => ?_)
  refine ow_iloadN X 5 d15_4 rfl rfl ?_
  refine ow_iloadN X 6 d15_5 rfl rfl ?_
  refine ow_icmp_lt X 9 16 d15_6 rfl rfl (fun (c6 : i.toInt < n.toInt) => ?_) (fun (c6 : n.toInt ≤ i.toInt) => by exfalso; omega)
  refine ow_iloadN X 17 d15_16 rfl rfl ?_
  refine ow_retI X rfl d15_17 (by decide) (by decide) ?_
  exact ⟨rfl, rfl⟩
theorem d14_0 : decode jdk_31_method_17_code 0 = .ok (.iload_n 0, 1) := by decide +kernel
theorem d14_1 : decode jdk_31_method_17_code 1 = .ok (.iload_n 1, 1) := by decide +kernel
theorem d14_2 : decode jdk_31_method_17_code 2 = .ok (.aconst_null, 1) := by decide +kernel
theorem d14_3 : decode jdk_31_method_17_code 3 = .ok (.invokestatic 105, 3) := by decide +kernel
theorem d14_6 : decode jdk_31_method_17_code 6 = .ok (.ireturn, 1) := by decide +kernel
def k14 : OM := (jdk_31_method_17_code, 2, "java/util/Objects", "checkIndex", (some .int), { frames := 1, cells := 0, slots := 0, locals := 14 })
theorem pn14 : plainFor (⟨"java/util/Objects", "checkIndex", "(II)I"⟩ : MethodName) = true := plainFor_of_name (by first | (simp [plainName, overriddenIn]; done) | decide +kernel)
theorem pd14 : parseMethodDescriptor "(II)I" = some ⟨[.int, .int], (some .int)⟩ := by decide +kernel
set_option maxRecDepth 65536 in
set_option maxHeartbeats 4000000 in
theorem C_oci {Z : State} {ω : OW} {h : Heap} (hw_ : ∀ d ∈ tables_1, d.before ω.2.2 Z = true) (hn_ : ω.2.1 ≤ h.size) (i n : Int32) (hi0 : 0 ≤ i.toInt) (hi1 : i.toInt < n.toInt) :
    oC Z ω (⟨"java/util/Objects", "checkIndex", "(II)I"⟩ : MethodName) k14 [] #[.int i, .int n] h (fun v h' => v = some (.int i) ∧ h = h') := by
  refine oC_of hw_ hn_ pn14 rfl rfl (L := #[.val (.int i), .val (.int n)]) (fun m => by first | (simp [entryFrame, mkF, argsToLocals, Value.category, k14]; done) | rfl) ?_
  intro γ T X
  refine ow_iloadN X 1 d14_0 rfl rfl ?_
  refine ow_iloadN X 2 d14_1 rfl rfl ?_
  refine ow_anull X 3 d14_2 rfl ?_
  refine ow_callS X 6 98 99 100 101 (κ' := k15) (as := [.int i, .int n, .null]) (S := []) (W := 0) rfl rfl rfl rfl rfl (by decide) (C_pci (oSt_w X) (oSt_n0 X) i n .null hi0 hi1 rfl) (by decide) (by decide) (Nat.le_of_eq rfl) (by decide) (by decide) pd15 rfl rfl rfl d14_3 rfl ?_
  intro γ v_53 T_53 h_53 X_53 q_53
  obtain ⟨rfl, rfl⟩ := q_53
  show oWP ω γ k14 _ T_53 6 #[.val (.int i), .val (.int n)] [.int i]
  refine ow_retI X_53 rfl d14_6 (by decide) (by decide) ?_
  exact ⟨rfl, rfl⟩
theorem d16_0 : decode jdk_38_method_18_code 0 = .ok (.aload_n 0, 1) := by decide +kernel
theorem d16_1 : decode jdk_38_method_18_code 1 = .ok (.getfield 9, 3) := by decide +kernel
theorem d16_4 : decode jdk_38_method_18_code 4 = .ok (.iload_n 1, 1) := by decide +kernel
theorem d16_5 : decode jdk_38_method_18_code 5 = .ok (.aaload, 1) := by decide +kernel
theorem d16_6 : decode jdk_38_method_18_code 6 = .ok (.areturn, 1) := by decide +kernel
def k16 : OM := (jdk_38_method_18_code, 2, "java/util/ArrayList", "elementData", (some (.object "java/lang/Object")), { frames := 0, cells := 0, slots := 0, locals := 0 })
theorem pn16 : plainFor (⟨"java/util/ArrayList", "elementData", "(I)Ljava/lang/Object;"⟩ : MethodName) = true := plainFor_of_name (by first | (simp [plainName, overriddenIn]; done) | decide +kernel)
theorem pd16 : parseMethodDescriptor "(I)Ljava/lang/Object;" = some ⟨[.int], (some (.object "java/lang/Object"))⟩ := by decide +kernel
set_option maxRecDepth 65536 in
set_option maxHeartbeats 4000000 in
theorem C_eld {Z : State} {ω : OW} {h : Heap} (hw_ : ∀ d ∈ tables_1, d.before ω.2.2 Z = true) (hn_ : ω.2.1 ≤ h.size) (r ed x : Addr) (i sz mc : Int32) (f : Nat → Value) (R0 : ALR Z h r (.ref ed) (.int sz) (.int mc)) (Ae : oA Z h ed (.object "java/lang/Object") 10 f) (hi0 : 0 ≤ i.toInt) (hi1 : i.toInt < sz.toInt) (hs : sz.toInt ≤ 3) (hel : f i.toInt.toNat = .ref x) :
    oC Z ω (⟨"java/util/ArrayList", "elementData", "(I)Ljava/lang/Object;"⟩ : MethodName) k16 [] #[.ref r, .int i] h (fun v h' => v = some (.ref x) ∧ h = h') := by
  refine oC_of hw_ hn_ pn16 rfl rfl (L := #[.val (.ref r), .val (.int i)]) (fun m => by first | (simp [entryFrame, mkF, argsToLocals, Value.category, k16]; done) | rfl) ?_
  intro γ T X
  refine ow_aloadN X 1 d16_0 rfl rfl rfl ?_
  refine ow_getF X 4 37 rfl rfl R0.2.1 d16_1 rfl ?_
  intro T_54 X_54
  refine ow_iloadN X_54 5 d16_4 rfl rfl ?_
  refine ow_aaload X_54 6 Ae rfl d16_5 rfl hi0 (by omega) hel ?_
  refine ow_retA X_54 rfl rfl rfl d16_6 (by decide) (by decide) ?_
  exact ⟨rfl, rfl⟩
theorem d13_0 : decode jdk_38_method_20_code 0 = .ok (.iload_n 1, 1) := by decide +kernel
theorem d13_1 : decode jdk_38_method_20_code 1 = .ok (.aload_n 0, 1) := by decide +kernel
theorem d13_2 : decode jdk_38_method_20_code 2 = .ok (.getfield 48, 3) := by decide +kernel
theorem d13_5 : decode jdk_38_method_20_code 5 = .ok (.invokestatic 118, 3) := by decide +kernel
theorem d13_8 : decode jdk_38_method_20_code 8 = .ok (.pop, 1) := by decide +kernel
theorem d13_9 : decode jdk_38_method_20_code 9 = .ok (.aload_n 0, 1) := by decide +kernel
theorem d13_10 : decode jdk_38_method_20_code 10 = .ok (.iload_n 1, 1) := by decide +kernel
theorem d13_11 : decode jdk_38_method_20_code 11 = .ok (.invokevirtual 123, 3) := by decide +kernel
theorem d13_14 : decode jdk_38_method_20_code 14 = .ok (.areturn, 1) := by decide +kernel
def k13 : OM := (jdk_38_method_20_code, 2, "java/util/ArrayList", "get", (some (.object "java/lang/Object")), { frames := 2, cells := 0, slots := 0, locals := 28 })
theorem pn13 : plainFor (⟨"java/util/ArrayList", "get", "(I)Ljava/lang/Object;"⟩ : MethodName) = true := plainFor_of_name (by first | (simp [plainName, overriddenIn]; done) | decide +kernel)
theorem pd13 : parseMethodDescriptor "(I)Ljava/lang/Object;" = some ⟨[.int], (some (.object "java/lang/Object"))⟩ := by decide +kernel
set_option maxRecDepth 65536 in
set_option maxHeartbeats 4000000 in
theorem C_get {Z : State} {ω : OW} {h : Heap} (hw_ : ∀ d ∈ tables_1, d.before ω.2.2 Z = true) (hn_ : ω.2.1 ≤ h.size) (r ed x : Addr) (i sz mc : Int32) (f : Nat → Value) (R0 : ALR Z h r (.ref ed) (.int sz) (.int mc)) (Ae : oA Z h ed (.object "java/lang/Object") 10 f) (hi0 : 0 ≤ i.toInt) (hi1 : i.toInt < sz.toInt) (hs : sz.toInt ≤ 3) (hel : f i.toInt.toNat = .ref x) :
    oC Z ω (⟨"java/util/ArrayList", "get", "(I)Ljava/lang/Object;"⟩ : MethodName) k13 [] #[.ref r, .int i] h (fun v h' => v = some (.ref x) ∧ h = h') := by
  refine oC_of hw_ hn_ pn13 rfl rfl (L := #[.val (.ref r), .val (.int i)]) (fun m => by first | (simp [entryFrame, mkF, argsToLocals, Value.category, k13]; done) | rfl) ?_
  intro γ T X
  refine ow_iloadN X 1 d13_0 rfl rfl ?_
  refine ow_aloadN X 2 d13_1 rfl rfl rfl ?_
  refine ow_getF X 5 46 rfl rfl R0.2.2.1 d13_2 rfl ?_
  intro T_55 X_55
  refine ow_callS X_55 8 94 95 96 97 (κ' := k14) (as := [.int i, .int sz]) (S := []) (W := 0) rfl rfl rfl rfl rfl (by decide) (C_oci (oSt_w X_55) (oSt_n0 X_55) i sz hi0 hi1) (by decide) (by decide) (Nat.le_of_eq rfl) (by decide) (by decide) pd14 rfl rfl rfl d13_5 rfl ?_
  intro γ v_56 T_56 h_56 X_56 q_56
  obtain ⟨rfl, rfl⟩ := q_56
  show oWP ω γ k13 _ T_56 8 #[.val (.ref r), .val (.int i)] [.int i]
  refine ow_pop X_56 9 d13_8 rfl rfl ?_
  refine ow_aloadN X_56 10 d13_9 rfl rfl rfl ?_
  refine ow_iloadN X_56 11 d13_10 rfl rfl ?_
  refine ow_callV X_56 14 102 103 105 104 106 15 (κ' := k16) (as := [.int i]) (S := []) (W := 0) rfl rfl rfl rfl rfl rfl rfl (by decide) R0.1 (C_eld (oSt_w X_56) (oSt_n0 X_56) r ed x i sz mc f R0 Ae hi0 hi1 hs hel) (by decide) (by decide) (Nat.le_of_eq rfl) (by decide) (by decide) pd16 rfl rfl rfl d13_11 rfl ?_
  intro γ v_57 T_57 h_57 X_57 q_57
  obtain ⟨rfl, rfl⟩ := q_57
  show oWP ω γ k13 _ T_57 14 #[.val (.ref r), .val (.int i)] [.ref x]
  refine ow_retA X_57 rfl rfl rfl d13_14 (by decide) (by decide) ?_
  exact ⟨rfl, rfl⟩
theorem d17_0 : decode jdk_42_method_55_code 0 = .ok (.aload_n 0, 1) := by decide +kernel
theorem d17_1 : decode jdk_42_method_55_code 1 = .ok (.getfield 9, 3) := by decide +kernel
theorem d17_4 : decode jdk_42_method_55_code 4 = .ok (.arraylength, 1) := by decide +kernel
theorem d17_5 : decode jdk_42_method_55_code 5 = .ok (.ifCond .ne 7, 3) := by decide +kernel
theorem d17_8 : decode jdk_42_method_55_code 8 = .ok (.iconst 1, 1) := by decide +kernel
theorem d17_9 : decode jdk_42_method_55_code 9 = .ok (.goto 4, 3) := by decide +kernel
theorem d17_12 : decode jdk_42_method_55_code 12 = .ok (.iconst 0, 1) := by decide +kernel
theorem d17_13 : decode jdk_42_method_55_code 13 = .ok (.ireturn, 1) := by decide +kernel
def k17 : OM := (jdk_42_method_55_code, 1, "java/lang/String", "isEmpty", (some .boolean), { frames := 0, cells := 0, slots := 0, locals := 0 })
theorem pn17 : plainFor (⟨"java/lang/String", "isEmpty", "()Z"⟩ : MethodName) = true := plainFor_of_name (by first | (simp [plainName, overriddenIn]; done) | decide +kernel)
theorem pd17 : parseMethodDescriptor "()Z" = some ⟨[], (some .boolean)⟩ := by decide +kernel
set_option maxRecDepth 65536 in
set_option maxHeartbeats 4000000 in
theorem C_sem {Z : State} {ω : OW} {h : Heap} (hw_ : ∀ d ∈ tables_1, d.before ω.2.2 Z = true) (hn_ : ω.2.1 ≤ h.size) (sa sb : Addr) (ww : Int32) (g : Nat → Int32) (R0 : STR Z h sa (.ref sb) (.int (0 : Int32))) (Ab : oA Z h sb .byte ww.toInt.toNat (fun i_ => .int (g i_))) (hw : 1 ≤ ww.toInt ∧ ww.toInt ≤ 3) :
    oC Z ω (⟨"java/lang/String", "isEmpty", "()Z"⟩ : MethodName) k17 [] #[.ref sa] h (fun v h' => v = some (.int 0) ∧ h = h') := by
  refine oC_of hw_ hn_ pn17 rfl rfl (L := #[.val (.ref sa)]) (fun m => by first | (simp [entryFrame, mkF, argsToLocals, Value.category, k17]; done) | rfl) ?_
  intro γ T X
  refine ow_aloadN X 1 d17_0 rfl rfl rfl ?_
  refine ow_getF X 4 114 rfl rfl R0.2.1 d17_1 rfl ?_
  intro T_58 X_58
  refine ow_alen X_58 5 (v := ww) Ab d17_4 rfl (Int.toNat_of_nonneg (by omega)).symm ?_
  refine ow_if_ne X_58 8 12 d17_5 rfl rfl (fun (c5 : ww.toInt ≠ 0) => ?_) (fun (c5 : ww.toInt = 0) => by exfalso; omega)
  refine ow_iconst X_58 13 (0 : Int32) d17_12 rfl rfl ?_
  refine ow_retZ X_58 rfl d17_13 (by decide) (by decide) (by decide) ?_
  exact ⟨rfl, rfl⟩
theorem d20_0 : decode jdk_42_method_152_code 0 = .ok (.getstatic 38, 3) := by decide +kernel
theorem d20_3 : decode jdk_42_method_152_code 3 = .ok (.ifCond .eq 10, 3) := by decide +kernel
theorem d20_6 : decode jdk_42_method_152_code 6 = .ok (.aload_n 0, 1) := by decide +kernel
theorem d20_7 : decode jdk_42_method_152_code 7 = .ok (.getfield 15, 3) := by decide +kernel
theorem d20_10 : decode jdk_42_method_152_code 10 = .ok (.goto 4, 3) := by decide +kernel
theorem d20_13 : decode jdk_42_method_152_code 13 = .ok (.iconst 1, 1) := by decide +kernel
theorem d20_14 : decode jdk_42_method_152_code 14 = .ok (.ireturn, 1) := by decide +kernel
def k20 : OM := (jdk_42_method_152_code, 1, "java/lang/String", "coder", (some .byte), { frames := 0, cells := 0, slots := 0, locals := 0 })
theorem pn20 : plainFor (⟨"java/lang/String", "coder", "()B"⟩ : MethodName) = true := plainFor_of_name (by first | (simp [plainName, overriddenIn]; done) | decide +kernel)
theorem pd20 : parseMethodDescriptor "()B" = some ⟨[], (some .byte)⟩ := by decide +kernel
set_option maxRecDepth 65536 in
set_option maxHeartbeats 4000000 in
theorem C_cod {Z : State} {ω : OW} {h : Heap} (hw_ : ∀ d ∈ tables_1, d.before ω.2.2 Z = true) (hn_ : ω.2.1 ≤ h.size) (sa sb : Addr) (zc : Int32) (R0 : STR Z h sa (.ref sb) (.int (0 : Int32))) (SC : Sta Z h "java/lang/String" "COMPACT_STRINGS" "Z" (.int zc)) (hz : zc.toInt ≠ 0) :
    oC Z ω (⟨"java/lang/String", "coder", "()B"⟩ : MethodName) k20 [] #[.ref sa] h (fun v h' => v = some (.int 0) ∧ h = h') := by
  refine oC_of hw_ hn_ pn20 rfl rfl (L := #[.val (.ref sa)]) (fun m => by first | (simp [entryFrame, mkF, argsToLocals, Value.category, k20]; done) | rfl) ?_
  intro γ T X
  refine ow_getS X 3 135 rfl rfl SC d20_0 rfl ?_
  intro T_59 X_59
  refine ow_if_eq X_59 6 13 d20_3 rfl rfl (fun (c3 : zc.toInt = 0) => absurd c3 hz) (fun (c3 : zc.toInt ≠ 0) => ?_)
  refine ow_aloadN X_59 7 d20_6 rfl rfl rfl ?_
  refine ow_getF X_59 10 136 rfl rfl R0.2.2 d20_7 rfl ?_
  intro T_60 X_60
  refine ow_goto X_60 14 d20_10 rfl ?_
  refine ow_retB X_60 rfl d20_14 (by decide) (by decide) rfl ?_
  exact ⟨rfl, rfl⟩
theorem d19_0 : decode jdk_42_method_54_code 0 = .ok (.aload_n 0, 1) := by decide +kernel
theorem d19_1 : decode jdk_42_method_54_code 1 = .ok (.getfield 9, 3) := by decide +kernel
theorem d19_4 : decode jdk_42_method_54_code 4 = .ok (.arraylength, 1) := by decide +kernel
theorem d19_5 : decode jdk_42_method_54_code 5 = .ok (.aload_n 0, 1) := by decide +kernel
theorem d19_6 : decode jdk_42_method_54_code 6 = .ok (.invokevirtual 335, 3) := by decide +kernel
theorem d19_9 : decode jdk_42_method_54_code 9 = .ok (.ishr, 1) := by decide +kernel
theorem d19_10 : decode jdk_42_method_54_code 10 = .ok (.ireturn, 1) := by decide +kernel
def k19 : OM := (jdk_42_method_54_code, 1, "java/lang/String", "length", (some .int), { frames := 1, cells := 0, slots := 0, locals := 13 })
theorem pn19 : plainFor (⟨"java/lang/String", "length", "()I"⟩ : MethodName) = true := plainFor_of_name (by first | (simp [plainName, overriddenIn]; done) | decide +kernel)
theorem pd19 : parseMethodDescriptor "()I" = some ⟨[], (some .int)⟩ := by decide +kernel
set_option maxRecDepth 65536 in
set_option maxHeartbeats 4000000 in
theorem C_len {Z : State} {ω : OW} {h : Heap} (hw_ : ∀ d ∈ tables_1, d.before ω.2.2 Z = true) (hn_ : ω.2.1 ≤ h.size) (sa sb : Addr) (ww zc : Int32) (g : Nat → Int32) (R0 : STR Z h sa (.ref sb) (.int (0 : Int32))) (Ab : oA Z h sb .byte ww.toInt.toNat (fun i_ => .int (g i_))) (SC : Sta Z h "java/lang/String" "COMPACT_STRINGS" "Z" (.int zc)) (hw : 1 ≤ ww.toInt ∧ ww.toInt ≤ 3) (hz : zc.toInt ≠ 0) :
    oC Z ω (⟨"java/lang/String", "length", "()I"⟩ : MethodName) k19 [] #[.ref sa] h (fun v h' => ∃ z : Int32, v = some (.int z) ∧ h = h' ∧ z.toInt = ww.toInt) := by
  refine oC_of hw_ hn_ pn19 rfl rfl (L := #[.val (.ref sa)]) (fun m => by first | (simp [entryFrame, mkF, argsToLocals, Value.category, k19]; done) | rfl) ?_
  intro γ T X
  refine ow_aloadN X 1 d19_0 rfl rfl rfl ?_
  refine ow_getF X 4 114 rfl rfl R0.2.1 d19_1 rfl ?_
  intro T_61 X_61
  refine ow_alen X_61 5 (v := ww) Ab d19_4 rfl (Int.toNat_of_nonneg (by omega)).symm ?_
  refine ow_aloadN X_61 6 d19_5 rfl rfl rfl ?_
  refine ow_callV X_61 9 130 131 133 132 134 6 (κ' := k20) (as := []) (S := [.int ww]) (W := 1) rfl rfl rfl rfl rfl rfl rfl (by decide) R0.1 (C_cod (oSt_w X_61) (oSt_n0 X_61) sa sb zc R0 SC hz) (by decide) (by decide) (Nat.le_of_eq rfl) (by decide) (by decide) pd20 rfl rfl rfl d19_6 rfl ?_
  intro γ v_62 T_62 h_62 X_62 q_62
  obtain ⟨rfl, rfl⟩ := q_62
  show oWP ω γ k19 _ T_62 9 #[.val (.ref sa)] [.int (0 : Int32), .int ww]
  refine ow_ishr X_62 10 d19_9 rfl ?_
  refine ow_retI X_62 rfl d19_10 (by decide) (by decide) ?_
  exact ⟨_, rfl, rfl, own_sh0 ww⟩
theorem d23_0 : decode jdk_42_method_154_code 0 = .ok (.getstatic 38, 3) := by decide +kernel
theorem d23_3 : decode jdk_42_method_154_code 3 = .ok (.ifCond .eq 14, 3) := by decide +kernel
theorem d23_6 : decode jdk_42_method_154_code 6 = .ok (.aload_n 0, 1) := by decide +kernel
theorem d23_7 : decode jdk_42_method_154_code 7 = .ok (.getfield 15, 3) := by decide +kernel
theorem d23_10 : decode jdk_42_method_154_code 10 = .ok (.ifCond .ne 7, 3) := by decide +kernel
theorem d23_13 : decode jdk_42_method_154_code 13 = .ok (.iconst 1, 1) := by decide +kernel
theorem d23_14 : decode jdk_42_method_154_code 14 = .ok (.goto 4, 3) := by decide +kernel
theorem d23_17 : decode jdk_42_method_154_code 17 = .ok (.iconst 0, 1) := by decide +kernel
theorem d23_18 : decode jdk_42_method_154_code 18 = .ok (.ireturn, 1) := by decide +kernel
def k23 : OM := (jdk_42_method_154_code, 1, "java/lang/String", "isLatin1", (some .boolean), { frames := 0, cells := 0, slots := 0, locals := 0 })
theorem pn23 : plainFor (⟨"java/lang/String", "isLatin1", "()Z"⟩ : MethodName) = true := plainFor_of_name (by first | (simp [plainName, overriddenIn]; done) | decide +kernel)
theorem pd23 : parseMethodDescriptor "()Z" = some ⟨[], (some .boolean)⟩ := by decide +kernel
set_option maxRecDepth 65536 in
set_option maxHeartbeats 4000000 in
theorem C_lat {Z : State} {ω : OW} {h : Heap} (hw_ : ∀ d ∈ tables_1, d.before ω.2.2 Z = true) (hn_ : ω.2.1 ≤ h.size) (sa sb : Addr) (zc : Int32) (R0 : STR Z h sa (.ref sb) (.int (0 : Int32))) (SC : Sta Z h "java/lang/String" "COMPACT_STRINGS" "Z" (.int zc)) (hz : zc.toInt ≠ 0) :
    oC Z ω (⟨"java/lang/String", "isLatin1", "()Z"⟩ : MethodName) k23 [] #[.ref sa] h (fun v h' => v = some (.int 1) ∧ h = h') := by
  refine oC_of hw_ hn_ pn23 rfl rfl (L := #[.val (.ref sa)]) (fun m => by first | (simp [entryFrame, mkF, argsToLocals, Value.category, k23]; done) | rfl) ?_
  intro γ T X
  refine ow_getS X 3 135 rfl rfl SC d23_0 rfl ?_
  intro T_63 X_63
  refine ow_if_eq X_63 6 17 d23_3 rfl rfl (fun (c3 : zc.toInt = 0) => absurd c3 hz) (fun (c3 : zc.toInt ≠ 0) => ?_)
  refine ow_aloadN X_63 7 d23_6 rfl rfl rfl ?_
  refine ow_getF X_63 10 136 rfl rfl R0.2.2 d23_7 rfl ?_
  intro T_64 X_64
  refine ow_if_ne X_64 13 17 d23_10 rfl rfl (fun (c10 : 0 ≠ 0) => absurd rfl c10) (fun (c10 : 0 = 0) => ?_)
  refine ow_iconst X_64 14 (1 : Int32) d23_13 rfl rfl ?_
  refine ow_goto X_64 18 d23_14 rfl ?_
  refine ow_retZ X_64 rfl d23_18 (by decide) (by decide) (by decide) ?_
  exact ⟨rfl, rfl⟩
theorem d25_0 : decode jdk_42_method_155_code 0 = .ok (.iload_n 0, 1) := by decide +kernel
theorem d25_1 : decode jdk_42_method_155_code 1 = .ok (.iload_n 1, 1) := by decide +kernel
theorem d25_2 : decode jdk_42_method_155_code 2 = .ok (.getstatic 1053, 3) := by decide +kernel
theorem d25_5 : decode jdk_42_method_155_code 5 = .ok (.invokestatic 1059, 3) := by decide +kernel
theorem d25_8 : decode jdk_42_method_155_code 8 = .ok (.pop, 1) := by decide +kernel
theorem d25_9 : decode jdk_42_method_155_code 9 = .ok (.return_, 1) := by decide +kernel
def k25 : OM := (jdk_42_method_155_code, 2, "java/lang/String", "checkIndex", none, { frames := 1, cells := 0, slots := 0, locals := 14 })
theorem pn25 : plainFor (⟨"java/lang/String", "checkIndex", "(II)V"⟩ : MethodName) = true := plainFor_of_name (by first | (simp [plainName, overriddenIn]; done) | decide +kernel)
theorem pd25 : parseMethodDescriptor "(II)V" = some ⟨[.int, .int], none⟩ := by decide +kernel
set_option maxRecDepth 65536 in
set_option maxHeartbeats 4000000 in
theorem C_sci {Z : State} {ω : OW} {h : Heap} (hw_ : ∀ d ∈ tables_1, d.before ω.2.2 Z = true) (hn_ : ω.2.1 ≤ h.size) (i n : Int32) (vF : Value) (SF : Sta Z h "jdk/internal/util/Preconditions" "SIOOBE_FORMATTER" "Ljava/util/function/BiFunction;" vF) (hi0 : 0 ≤ i.toInt) (hi1 : i.toInt < n.toInt) (hvF : vF.isRef = true) :
    oC Z ω (⟨"java/lang/String", "checkIndex", "(II)V"⟩ : MethodName) k25 [] #[.int i, .int n] h (fun v h' => v = none ∧ h = h') := by
  refine oC_of hw_ hn_ pn25 rfl rfl (L := #[.val (.int i), .val (.int n)]) (fun m => by first | (simp [entryFrame, mkF, argsToLocals, Value.category, k25]; done) | rfl) ?_
  intro γ T X
  refine ow_iloadN X 1 d25_0 rfl rfl ?_
  refine ow_iloadN X 2 d25_1 rfl rfl ?_
  refine ow_getS X 5 162 rfl rfl SF d25_2 rfl ?_
  intro T_65 X_65
  refine ow_callS X_65 8 163 99 100 101 (κ' := k15) (as := [.int i, .int n, vF]) (S := []) (W := 0) rfl rfl rfl rfl rfl (by decide) (C_pci (oSt_w X_65) (oSt_n0 X_65) i n vF hi0 hi1 hvF) (by decide) (by decide) (Nat.le_of_eq rfl) (by decide) (by decide) pd15 rfl rfl rfl d25_5 rfl ?_
  intro γ v_66 T_66 h_66 X_66 q_66
  obtain ⟨rfl, rfl⟩ := q_66
  show oWP ω γ k25 _ T_66 8 #[.val (.int i), .val (.int n)] [.int i]
  refine ow_pop X_66 9 d25_8 rfl rfl ?_
  refine ow_retV X_66 rfl d25_9 (by decide) (by decide) ?_
  exact ⟨rfl, rfl⟩
theorem d24_0 : decode jdk_43_method_2_code 0 = .ok (.iload_n 1, 1) := by decide +kernel
theorem d24_1 : decode jdk_43_method_2_code 1 = .ok (.aload_n 0, 1) := by decide +kernel
theorem d24_2 : decode jdk_43_method_2_code 2 = .ok (.arraylength, 1) := by decide +kernel
theorem d24_3 : decode jdk_43_method_2_code 3 = .ok (.invokestatic 9, 3) := by decide +kernel
theorem d24_6 : decode jdk_43_method_2_code 6 = .ok (.aload_n 0, 1) := by decide +kernel
theorem d24_7 : decode jdk_43_method_2_code 7 = .ok (.iload_n 1, 1) := by decide +kernel
theorem d24_8 : decode jdk_43_method_2_code 8 = .ok (.baload, 1) := by decide +kernel
theorem d24_9 : decode jdk_43_method_2_code 9 = .ok (.sipush 255, 3) := by decide +kernel
theorem d24_12 : decode jdk_43_method_2_code 12 = .ok (.iand, 1) := by decide +kernel
theorem d24_13 : decode jdk_43_method_2_code 13 = .ok (.i2c, 1) := by decide +kernel
theorem d24_14 : decode jdk_43_method_2_code 14 = .ok (.ireturn, 1) := by decide +kernel
def k24 : OM := (jdk_43_method_2_code, 2, "java/lang/StringLatin1", "charAt", (some .char), { frames := 2, cells := 0, slots := 0, locals := 27 })
theorem pn24 : plainFor (⟨"java/lang/StringLatin1", "charAt", "([BI)C"⟩ : MethodName) = true := plainFor_of_name (by first | (simp [plainName, overriddenIn]; done) | decide +kernel)
theorem pd24 : parseMethodDescriptor "([BI)C" = some ⟨[(.array .byte), .int], (some .char)⟩ := by decide +kernel
set_option maxRecDepth 65536 in
set_option maxHeartbeats 4000000 in
theorem C_lch {Z : State} {ω : OW} {h : Heap} (hw_ : ∀ d ∈ tables_1, d.before ω.2.2 Z = true) (hn_ : ω.2.1 ≤ h.size) (sb : Addr) (i ww : Int32) (g : Nat → Int32) (vF : Value) (Ab : oA Z h sb .byte ww.toInt.toNat (fun i_ => .int (g i_))) (SF : Sta Z h "jdk/internal/util/Preconditions" "SIOOBE_FORMATTER" "Ljava/util/function/BiFunction;" vF) (hw : 1 ≤ ww.toInt ∧ ww.toInt ≤ 3) (hi0 : 0 ≤ i.toInt) (hi1 : i.toInt < ww.toInt) (hvF : vF.isRef = true) :
    oC Z ω (⟨"java/lang/StringLatin1", "charAt", "([BI)C"⟩ : MethodName) k24 [] #[.ref sb, .int i] h (fun v h' => ∃ z : Int32, v = some (.int z) ∧ h = h' ∧ z.toUInt32.toUInt16.toUInt32.toInt32 = z) := by
  refine oC_of hw_ hn_ pn24 rfl rfl (L := #[.val (.ref sb), .val (.int i)]) (fun m => by first | (simp [entryFrame, mkF, argsToLocals, Value.category, k24]; done) | rfl) ?_
  intro γ T X
  refine ow_iloadN X 1 d24_0 rfl rfl ?_
  refine ow_aloadN X 2 d24_1 rfl rfl rfl ?_
  refine ow_alen X 3 (v := ww) Ab d24_2 rfl (Int.toNat_of_nonneg (by omega)).symm ?_
  refine ow_callS X 6 159 160 6 161 (κ' := k25) (as := [.int i, .int ww]) (S := []) (W := 0) rfl rfl rfl rfl rfl (by decide) (C_sci (oSt_w X) (oSt_n0 X) i ww vF SF hi0 hi1 hvF) (by decide) (by decide) (Nat.le_of_eq rfl) (by decide) (by decide) pd25 rfl rfl rfl d24_3 rfl ?_
  intro γ v_67 T_67 h_67 X_67 q_67
  obtain ⟨rfl, rfl⟩ := q_67
  show oWP ω γ k24 _ T_67 6 #[.val (.ref sb), .val (.int i)] []
  refine ow_aloadN X_67 7 d24_6 rfl rfl rfl ?_
  refine ow_iloadN X_67 8 d24_7 rfl rfl ?_
  refine ow_baload X_67 9 Ab d24_8 rfl hi0 (by omega) rfl ?_
  refine ow_sipush X_67 12 (255 : Int32) d24_9 rfl rfl ?_
  refine ow_iand X_67 13 d24_12 rfl ?_
  refine ow_i2c X_67 14 d24_13 rfl ?_
  refine ow_retC X_67 rfl d24_14 (by decide) (by decide) (own_i2c2 _) ?_
  exact ⟨_, rfl, rfl, own_i2c2 _⟩
theorem d22_0 : decode jdk_42_method_56_code 0 = .ok (.aload_n 0, 1) := by decide +kernel
theorem d22_1 : decode jdk_42_method_56_code 1 = .ok (.invokevirtual 492, 3) := by decide +kernel
theorem d22_4 : decode jdk_42_method_56_code 4 = .ok (.ifCond .eq 12, 3) := by decide +kernel
theorem d22_7 : decode jdk_42_method_56_code 7 = .ok (.aload_n 0, 1) := by decide +kernel
theorem d22_8 : decode jdk_42_method_56_code 8 = .ok (.getfield 9, 3) := by decide +kernel
theorem d22_11 : decode jdk_42_method_56_code 11 = .ok (.iload_n 1, 1) := by decide +kernel
theorem d22_12 : decode jdk_42_method_56_code 12 = .ok (.invokestatic 495, 3) := by decide +kernel
theorem d22_15 : decode jdk_42_method_56_code 15 = .ok (.ireturn, 1) := by decide +kernel
theorem d22_16 : decode jdk_42_method_56_code 16 = .ok (.aload_n 0, 1) := by decide +kernel
theorem d22_17 : decode jdk_42_method_56_code 17 = .ok (.getfield 9, 3) := by decide +kernel
theorem d22_20 : decode jdk_42_method_56_code 20 = .ok (.iload_n 1, 1) := by decide +kernel
theorem d22_21 : decode jdk_42_method_56_code 21 = .ok (.invokestatic 498, 3) := by decide +kernel
theorem d22_24 : decode jdk_42_method_56_code 24 = .ok (.ireturn, 1) := by decide +kernel
def k22 : OM := (jdk_42_method_56_code, 2, "java/lang/String", "charAt", (some .char), { frames := 3, cells := 0, slots := 0, locals := 40 })
theorem pn22 : plainFor (⟨"java/lang/String", "charAt", "(I)C"⟩ : MethodName) = true := plainFor_of_name (by first | (simp [plainName, overriddenIn]; done) | decide +kernel)
theorem pd22 : parseMethodDescriptor "(I)C" = some ⟨[.int], (some .char)⟩ := by decide +kernel
set_option maxRecDepth 65536 in
set_option maxHeartbeats 4000000 in
theorem C_chr {Z : State} {ω : OW} {h : Heap} (hw_ : ∀ d ∈ tables_1, d.before ω.2.2 Z = true) (hn_ : ω.2.1 ≤ h.size) (sa sb : Addr) (i ww zc : Int32) (g : Nat → Int32) (vF : Value) (R0 : STR Z h sa (.ref sb) (.int (0 : Int32))) (Ab : oA Z h sb .byte ww.toInt.toNat (fun i_ => .int (g i_))) (SC : Sta Z h "java/lang/String" "COMPACT_STRINGS" "Z" (.int zc)) (SF : Sta Z h "jdk/internal/util/Preconditions" "SIOOBE_FORMATTER" "Ljava/util/function/BiFunction;" vF) (hw : 1 ≤ ww.toInt ∧ ww.toInt ≤ 3) (hz : zc.toInt ≠ 0) (hi0 : 0 ≤ i.toInt) (hi1 : i.toInt < ww.toInt) (hvF : vF.isRef = true) :
    oC Z ω (⟨"java/lang/String", "charAt", "(I)C"⟩ : MethodName) k22 [] #[.ref sa, .int i] h (fun v h' => ∃ z : Int32, v = some (.int z) ∧ h = h') := by
  refine oC_of hw_ hn_ pn22 rfl rfl (L := #[.val (.ref sa), .val (.int i)]) (fun m => by first | (simp [entryFrame, mkF, argsToLocals, Value.category, k22]; done) | rfl) ?_
  intro γ T X
  refine ow_aloadN X 1 d22_0 rfl rfl rfl ?_
  refine ow_callV X 4 150 151 153 152 154 6 (κ' := k23) (as := []) (S := []) (W := 0) rfl rfl rfl rfl rfl rfl rfl (by decide) R0.1 (C_lat (oSt_w X) (oSt_n0 X) sa sb zc R0 SC hz) (by decide) (by decide) (Nat.le_of_eq rfl) (by decide) (by decide) pd23 rfl rfl rfl d22_1 rfl ?_
  intro γ v_68 T_68 h_68 X_68 q_68
  obtain ⟨rfl, rfl⟩ := q_68
  show oWP ω γ k22 _ T_68 4 #[.val (.ref sa), .val (.int i)] [.int (1 : Int32)]
  refine ow_if_eq X_68 7 16 d22_4 rfl rfl (fun (c4 : 1 = 0) => absurd c4 (by decide)) (fun (c4 : 1 ≠ 0) => ?_)
  refine ow_aloadN X_68 8 d22_7 rfl rfl rfl ?_
  refine ow_getF X_68 11 114 rfl rfl R0.2.1 d22_8 rfl ?_
  intro T_69 X_69
  refine ow_iloadN X_69 12 d22_11 rfl rfl ?_
  refine ow_callS X_69 15 155 156 157 158 (κ' := k24) (as := [.ref sb, .int i]) (S := []) (W := 0) rfl rfl rfl rfl rfl (by decide) (C_lch (oSt_w X_69) (oSt_n0 X_69) sb i ww g vF Ab SF hw hi0 hi1 hvF) (by decide) (by decide) (Nat.le_of_eq rfl) (by decide) (by decide) pd24 rfl rfl rfl d22_12 rfl ?_
  intro γ v_70 T_70 h_70 X_70 q_70
  obtain ⟨z70, rfl, rfl, hc70⟩ := q_70
  show oWP ω γ k22 _ T_70 15 #[.val (.ref sa), .val (.int i)] [.int z70]
  refine ow_retC X_70 rfl d22_15 (by decide) (by decide) hc70 ?_
  exact ⟨_, rfl, rfl⟩
theorem d21_0 : decode jdk_29_method_28_code 0 = .ok (.iload_n 0, 1) := by decide +kernel
theorem d21_1 : decode jdk_29_method_28_code 1 = .ok (.i2l, 1) := by decide +kernel
theorem d21_2 : decode jdk_29_method_28_code 2 = .ok (.iload_n 1, 1) := by decide +kernel
theorem d21_3 : decode jdk_29_method_28_code 3 = .ok (.i2l, 1) := by decide +kernel
theorem d21_4 : decode jdk_29_method_28_code 4 = .ok (.lmul, 1) := by decide +kernel
theorem d21_5 : decode jdk_29_method_28_code 5 = .ok (.lstore_n 2, 1) := by decide +kernel
theorem d21_6 : decode jdk_29_method_28_code 6 = .ok (.lload_n 2, 1) := by decide +kernel
theorem d21_7 : decode jdk_29_method_28_code 7 = .ok (.l2i, 1) := by decide +kernel
theorem d21_8 : decode jdk_29_method_28_code 8 = .ok (.i2l, 1) := by decide +kernel
theorem d21_9 : decode jdk_29_method_28_code 9 = .ok (.lload_n 2, 1) := by decide +kernel
theorem d21_10 : decode jdk_29_method_28_code 10 = .ok (.lcmp, 1) := by decide +kernel
theorem d21_11 : decode jdk_29_method_28_code 11 = .ok (.ifCond .eq 13, 3) := by decide +kernel
theorem d21_14 : decode jdk_29_method_28_code 14 = .ok (.new 109, 3) := by decide +kernel
theorem d21_17 : decode jdk_29_method_28_code 17 = .ok (.dup, 1) := by decide +kernel
theorem d21_18 : decode jdk_29_method_28_code 18 = .ok (.ldc 111, 2) := by decide +kernel
theorem d21_20 : decode jdk_29_method_28_code 20 = .ok (.invokespecial 113, 3) := by decide +kernel
theorem d21_23 : decode jdk_29_method_28_code 23 = .ok (.athrow, 1) := by decide +kernel
theorem d21_24 : decode jdk_29_method_28_code 24 = .ok (.lload_n 2, 1) := by decide +kernel
theorem d21_25 : decode jdk_29_method_28_code 25 = .ok (.l2i, 1) := by decide +kernel
theorem d21_26 : decode jdk_29_method_28_code 26 = .ok (.ireturn, 1) := by decide +kernel
def k21 : OM := (jdk_29_method_28_code, 4, "java/lang/Math", "multiplyExact", (some .int), { frames := 0, cells := 0, slots := 0, locals := 0 })
theorem pn21 : plainFor (⟨"java/lang/Math", "multiplyExact", "(II)I"⟩ : MethodName) = true := by decide +kernel
theorem pd21 : parseMethodDescriptor "(II)I" = some ⟨[.int, .int], (some .int)⟩ := by decide +kernel
set_option maxRecDepth 65536 in
set_option maxHeartbeats 4000000 in
theorem C_mul {Z : State} {ω : OW} {h : Heap} (hw_ : ∀ d ∈ tables_1, d.before ω.2.2 Z = true) (hn_ : ω.2.1 ≤ h.size) (x y : Int32) (hx : 1 ≤ x.toInt ∧ x.toInt ≤ 3) (hy : 1 ≤ y.toInt ∧ y.toInt ≤ 3) :
    oC Z ω (⟨"java/lang/Math", "multiplyExact", "(II)I"⟩ : MethodName) k21 [] #[.int x, .int y] h (fun v h' => ∃ z : Int32, v = some (.int z) ∧ h = h' ∧ z.toInt = x.toInt * y.toInt ∧ 1 ≤ z.toInt ∧ z.toInt ≤ 9) := by
  refine oC_of hw_ hn_ pn21 rfl rfl (L := #[.val (.int x), .val (.int y), .unset, .unset]) (fun m => by first | (simp [entryFrame, mkF, argsToLocals, Value.category, k21]; done) | rfl) ?_
  intro γ T X
  refine ow_iloadN X 1 d21_0 rfl rfl ?_
  refine ow_i2l X 2 d21_1 rfl ?_
  refine ow_iloadN X 3 d21_2 rfl rfl ?_
  refine ow_i2l X 4 d21_3 rfl ?_
  refine ow_lmul X 5 d21_4 rfl ?_
  refine ow_lstoreN X 6 (L' := #[.val (.int x), .val (.int y), .val (.long (x.toInt64 * y.toInt64)), .second]) d21_5 rfl rfl ?_
  refine ow_lloadN X 7 d21_6 rfl rfl ?_
  refine ow_l2i X 8 d21_7 rfl ?_
  refine ow_i2l X 9 d21_8 rfl ?_
  refine ow_lloadN X 10 d21_9 rfl rfl ?_
  refine ow_lcmp_eq X 11 14 24 d21_10 rfl d21_11 rfl rfl (fun (c10 : (((x.toInt64 * y.toInt64).toInt32).toInt64).toInt = (x.toInt64 * y.toInt64).toInt) => ?_) (fun (c10 : (((x.toInt64 * y.toInt64).toInt32).toInt64).toInt ≠ (x.toInt64 * y.toInt64).toInt) => absurd (own_mx x y hx hy).2.1 c10)
  refine ow_lloadN X 25 d21_24 rfl rfl ?_
  refine ow_l2i X 26 d21_25 rfl ?_
  refine ow_retI X rfl d21_26 (by decide) (by decide) ?_
  have q := own_mx x y hx hy
  exact ⟨_, rfl, rfl, q.1, by rw [q.1]; exact q.2.2.1, by rw [q.1]; exact q.2.2.2⟩
def oS : Option Int32 → Slot
  | none => .unset
  | some z => .val (.int z)
theorem d11_0 : decode prog_14_method_1_code 0 = .ok (.aload_n 0, 1) := by decide +kernel
theorem d11_1 : decode prog_14_method_1_code 1 = .ok (.invokespecial 1, 3) := by decide +kernel
theorem d11_4 : decode prog_14_method_1_code 4 = .ok (.aload_n 1, 1) := by decide +kernel
theorem d11_5 : decode prog_14_method_1_code 5 = .ok (.invokeinterface 7 1, 5) := by decide +kernel
theorem d11_10 : decode prog_14_method_1_code 10 = .ok (.ifCond .ne 19, 3) := by decide +kernel
theorem d11_13 : decode prog_14_method_1_code 13 = .ok (.aload_n 1, 1) := by decide +kernel
theorem d11_14 : decode prog_14_method_1_code 14 = .ok (.iconst 0, 1) := by decide +kernel
theorem d11_15 : decode prog_14_method_1_code 15 = .ok (.invokeinterface 13 2, 5) := by decide +kernel
theorem d11_20 : decode prog_14_method_1_code 20 = .ok (.checkcast 17, 3) := by decide +kernel
theorem d11_23 : decode prog_14_method_1_code 23 = .ok (.invokevirtual 19, 3) := by decide +kernel
theorem d11_26 : decode prog_14_method_1_code 26 = .ok (.ifCond .eq 13, 3) := by decide +kernel
theorem d11_29 : decode prog_14_method_1_code 29 = .ok (.new 20, 3) := by decide +kernel
theorem d11_32 : decode prog_14_method_1_code 32 = .ok (.dup, 1) := by decide +kernel
theorem d11_33 : decode prog_14_method_1_code 33 = .ok (.ldc 22, 2) := by decide +kernel
theorem d11_35 : decode prog_14_method_1_code 35 = .ok (.invokespecial 24, 3) := by decide +kernel
theorem d11_38 : decode prog_14_method_1_code 38 = .ok (.athrow, 1) := by decide +kernel
theorem d11_39 : decode prog_14_method_1_code 39 = .ok (.aload_n 0, 1) := by decide +kernel
theorem d11_40 : decode prog_14_method_1_code 40 = .ok (.aload_n 1, 1) := by decide +kernel
theorem d11_41 : decode prog_14_method_1_code 41 = .ok (.invokeinterface 27 1, 5) := by decide +kernel
theorem d11_46 : decode prog_14_method_1_code 46 = .ok (.putfield 31, 3) := by decide +kernel
theorem d11_49 : decode prog_14_method_1_code 49 = .ok (.aload_n 0, 1) := by decide +kernel
theorem d11_50 : decode prog_14_method_1_code 50 = .ok (.aload_n 1, 1) := by decide +kernel
theorem d11_51 : decode prog_14_method_1_code 51 = .ok (.iconst 0, 1) := by decide +kernel
theorem d11_52 : decode prog_14_method_1_code 52 = .ok (.invokeinterface 13 2, 5) := by decide +kernel
theorem d11_57 : decode prog_14_method_1_code 57 = .ok (.checkcast 17, 3) := by decide +kernel
theorem d11_60 : decode prog_14_method_1_code 60 = .ok (.invokevirtual 37, 3) := by decide +kernel
theorem d11_63 : decode prog_14_method_1_code 63 = .ok (.putfield 40, 3) := by decide +kernel
theorem d11_66 : decode prog_14_method_1_code 66 = .ok (.iconst 1, 1) := by decide +kernel
theorem d11_67 : decode prog_14_method_1_code 67 = .ok (.istore_n 2, 1) := by decide +kernel
theorem d11_68 : decode prog_14_method_1_code 68 = .ok (.iload_n 2, 1) := by decide +kernel
theorem d11_69 : decode prog_14_method_1_code 69 = .ok (.aload_n 0, 1) := by decide +kernel
theorem d11_70 : decode prog_14_method_1_code 70 = .ok (.getfield 31, 3) := by decide +kernel
theorem d11_73 : decode prog_14_method_1_code 73 = .ok (.if_icmp .ge 60, 3) := by decide +kernel
theorem d11_76 : decode prog_14_method_1_code 76 = .ok (.aload_n 1, 1) := by decide +kernel
theorem d11_77 : decode prog_14_method_1_code 77 = .ok (.iload_n 2, 1) := by decide +kernel
theorem d11_78 : decode prog_14_method_1_code 78 = .ok (.invokeinterface 13 2, 5) := by decide +kernel
theorem d11_83 : decode prog_14_method_1_code 83 = .ok (.checkcast 17, 3) := by decide +kernel
theorem d11_86 : decode prog_14_method_1_code 86 = .ok (.invokevirtual 37, 3) := by decide +kernel
theorem d11_89 : decode prog_14_method_1_code 89 = .ok (.aload_n 0, 1) := by decide +kernel
theorem d11_90 : decode prog_14_method_1_code 90 = .ok (.getfield 40, 3) := by decide +kernel
theorem d11_93 : decode prog_14_method_1_code 93 = .ok (.if_icmp .eq 34, 3) := by decide +kernel
theorem d11_96 : decode prog_14_method_1_code 96 = .ok (.new 20, 3) := by decide +kernel
theorem d11_99 : decode prog_14_method_1_code 99 = .ok (.dup, 1) := by decide +kernel
theorem d11_100 : decode prog_14_method_1_code 100 = .ok (.iload_n 2, 1) := by decide +kernel
theorem d11_101 : decode prog_14_method_1_code 101 = .ok (.aload_n 1, 1) := by decide +kernel
theorem d11_102 : decode prog_14_method_1_code 102 = .ok (.iload_n 2, 1) := by decide +kernel
theorem d11_103 : decode prog_14_method_1_code 103 = .ok (.invokeinterface 13 2, 5) := by decide +kernel
theorem d11_108 : decode prog_14_method_1_code 108 = .ok (.checkcast 17, 3) := by decide +kernel
theorem d11_111 : decode prog_14_method_1_code 111 = .ok (.invokevirtual 37, 3) := by decide +kernel
theorem d11_114 : decode prog_14_method_1_code 114 = .ok (.aload_n 0, 1) := by decide +kernel
theorem d11_115 : decode prog_14_method_1_code 115 = .ok (.getfield 40, 3) := by decide +kernel
theorem d11_118 : decode prog_14_method_1_code 118 = .ok (.invokedynamic 43, 5) := by decide +kernel
theorem d11_123 : decode prog_14_method_1_code 123 = .ok (.invokespecial 24, 3) := by decide +kernel
theorem d11_126 : decode prog_14_method_1_code 126 = .ok (.athrow, 1) := by decide +kernel
theorem d11_127 : decode prog_14_method_1_code 127 = .ok (.iinc 2 1, 3) := by decide +kernel
theorem d11_130 : decode prog_14_method_1_code 130 = .ok (.goto (-62), 3) := by decide +kernel
theorem d11_133 : decode prog_14_method_1_code 133 = .ok (.aload_n 0, 1) := by decide +kernel
theorem d11_134 : decode prog_14_method_1_code 134 = .ok (.aload_n 0, 1) := by decide +kernel
theorem d11_135 : decode prog_14_method_1_code 135 = .ok (.getfield 40, 3) := by decide +kernel
theorem d11_138 : decode prog_14_method_1_code 138 = .ok (.aload_n 0, 1) := by decide +kernel
theorem d11_139 : decode prog_14_method_1_code 139 = .ok (.getfield 31, 3) := by decide +kernel
theorem d11_142 : decode prog_14_method_1_code 142 = .ok (.invokestatic 47, 3) := by decide +kernel
theorem d11_145 : decode prog_14_method_1_code 145 = .ok (.newarray .boolean, 2) := by decide +kernel
theorem d11_147 : decode prog_14_method_1_code 147 = .ok (.putfield 53, 3) := by decide +kernel
theorem d11_150 : decode prog_14_method_1_code 150 = .ok (.iconst 0, 1) := by decide +kernel
theorem d11_151 : decode prog_14_method_1_code 151 = .ok (.istore_n 2, 1) := by decide +kernel
theorem d11_152 : decode prog_14_method_1_code 152 = .ok (.iload_n 2, 1) := by decide +kernel
theorem d11_153 : decode prog_14_method_1_code 153 = .ok (.aload_n 0, 1) := by decide +kernel
theorem d11_154 : decode prog_14_method_1_code 154 = .ok (.getfield 31, 3) := by decide +kernel
theorem d11_157 : decode prog_14_method_1_code 157 = .ok (.if_icmp .ge 86, 3) := by decide +kernel
theorem d11_160 : decode prog_14_method_1_code 160 = .ok (.aload_n 1, 1) := by decide +kernel
theorem d11_161 : decode prog_14_method_1_code 161 = .ok (.iload_n 2, 1) := by decide +kernel
theorem d11_162 : decode prog_14_method_1_code 162 = .ok (.invokeinterface 13 2, 5) := by decide +kernel
theorem d11_167 : decode prog_14_method_1_code 167 = .ok (.checkcast 17, 3) := by decide +kernel
theorem d11_170 : decode prog_14_method_1_code 170 = .ok (.astore_n 3, 1) := by decide +kernel
theorem d11_171 : decode prog_14_method_1_code 171 = .ok (.iconst 0, 1) := by decide +kernel
theorem d11_172 : decode prog_14_method_1_code 172 = .ok (.istore 4, 2) := by decide +kernel
theorem d11_174 : decode prog_14_method_1_code 174 = .ok (.iload 4, 2) := by decide +kernel
theorem d11_176 : decode prog_14_method_1_code 176 = .ok (.aload_n 0, 1) := by decide +kernel
theorem d11_177 : decode prog_14_method_1_code 177 = .ok (.getfield 40, 3) := by decide +kernel
theorem d11_180 : decode prog_14_method_1_code 180 = .ok (.if_icmp .ge 57, 3) := by decide +kernel
theorem d11_183 : decode prog_14_method_1_code 183 = .ok (.aload_n 3, 1) := by decide +kernel
theorem d11_184 : decode prog_14_method_1_code 184 = .ok (.iload 4, 2) := by decide +kernel
theorem d11_186 : decode prog_14_method_1_code 186 = .ok (.invokevirtual 57, 3) := by decide +kernel
theorem d11_189 : decode prog_14_method_1_code 189 = .ok (.istore 5, 2) := by decide +kernel
theorem d11_191 : decode prog_14_method_1_code 191 = .ok (.aload_n 0, 1) := by decide +kernel
theorem d11_192 : decode prog_14_method_1_code 192 = .ok (.getfield 53, 3) := by decide +kernel
theorem d11_195 : decode prog_14_method_1_code 195 = .ok (.iload_n 2, 1) := by decide +kernel
theorem d11_196 : decode prog_14_method_1_code 196 = .ok (.aload_n 0, 1) := by decide +kernel
theorem d11_197 : decode prog_14_method_1_code 197 = .ok (.getfield 40, 3) := by decide +kernel
theorem d11_200 : decode prog_14_method_1_code 200 = .ok (.imul, 1) := by decide +kernel
theorem d11_201 : decode prog_14_method_1_code 201 = .ok (.iload 4, 2) := by decide +kernel
theorem d11_203 : decode prog_14_method_1_code 203 = .ok (.iadd, 1) := by decide +kernel
theorem d11_204 : decode prog_14_method_1_code 204 = .ok (.iload 5, 2) := by decide +kernel
theorem d11_206 : decode prog_14_method_1_code 206 = .ok (.bipush 46, 2) := by decide +kernel
theorem d11_208 : decode prog_14_method_1_code 208 = .ok (.if_icmp .eq 17, 3) := by decide +kernel
theorem d11_211 : decode prog_14_method_1_code 211 = .ok (.iload 5, 2) := by decide +kernel
theorem d11_213 : decode prog_14_method_1_code 213 = .ok (.bipush 71, 2) := by decide +kernel
theorem d11_215 : decode prog_14_method_1_code 215 = .ok (.if_icmp .eq 10, 3) := by decide +kernel
theorem d11_218 : decode prog_14_method_1_code 218 = .ok (.iload 5, 2) := by decide +kernel
theorem d11_220 : decode prog_14_method_1_code 220 = .ok (.bipush 83, 2) := by decide +kernel
theorem d11_222 : decode prog_14_method_1_code 222 = .ok (.if_icmp .ne 7, 3) := by decide +kernel
theorem d11_225 : decode prog_14_method_1_code 225 = .ok (.iconst 1, 1) := by decide +kernel
theorem d11_226 : decode prog_14_method_1_code 226 = .ok (.goto 4, 3) := by decide +kernel
theorem d11_229 : decode prog_14_method_1_code 229 = .ok (.iconst 0, 1) := by decide +kernel
theorem d11_230 : decode prog_14_method_1_code 230 = .ok (.bastore, 1) := by decide +kernel
theorem d11_231 : decode prog_14_method_1_code 231 = .ok (.iinc 4 1, 3) := by decide +kernel
theorem d11_234 : decode prog_14_method_1_code 234 = .ok (.goto (-60), 3) := by decide +kernel
theorem d11_237 : decode prog_14_method_1_code 237 = .ok (.iinc 2 1, 3) := by decide +kernel
theorem d11_240 : decode prog_14_method_1_code 240 = .ok (.goto (-88), 3) := by decide +kernel
theorem d11_243 : decode prog_14_method_1_code 243 = .ok (.return_, 1) := by decide +kernel
def k11 : OM := (prog_14_method_1_code, 6, "com/example/muster/muster/model/GridMap", "<init>", none, { frames := 4, cells := 1, slots := 9, locals := 60 })
theorem pn11 : plainFor (⟨"com/example/muster/muster/model/GridMap", "<init>", "(Ljava/util/List;)V"⟩ : MethodName) = true := plainFor_of_name (by first | (simp [plainName, overriddenIn]; done) | decide +kernel)
theorem pd11 : parseMethodDescriptor "(Ljava/util/List;)V" = some ⟨[(.object "java/util/List")], none⟩ := by decide +kernel
set_option maxRecDepth 65536 in
set_option maxHeartbeats 4000000 in
theorem B174 {Z : State} {ω : OW} (m r ed sa sb : Addr) (sz mc ww zc : Int32) (f : Nat → Value) (g : Nat → Int32) (vF : Value) (wv z : Int32) (fr : Addr) (h0 : Heap) (d : Nat) : ∀ {γ : OG} {T : State} {h : Heap} (X : oSt Z ω γ k11 T h 1 9) (i j : Int32) (oc : Option Int32) (G : Nat → Int32) (Rm : GMR Z h m (.int sz) (.int wv) (.ref fr)) (Rr : ALR Z h r (.ref ed) (.int sz) (.int mc)) (Ae : oA Z h ed (.object "java/lang/Object") 10 f) (Rs : STR Z h sa (.ref sb) (.int (0 : Int32))) (Ab : oA Z h sb .byte ww.toInt.toNat (fun i_ => .int (g i_))) (SC : Sta Z h "java/lang/String" "COMPACT_STRINGS" "Z" (.int zc)) (SF : Sta Z h "jdk/internal/util/Preconditions" "SIOOBE_FORMATTER" "Ljava/util/function/BiFunction;" vF) (Af : oA Z h fr .boolean z.toInt.toNat (fun i_ => .int (G i_))) (K0 : Keep h0 h [m]) (gm : ω.2.1 ≤ m) (nmr : m ≠ r) (nme : m ≠ ed) (nms : m ≠ sa) (nmb : m ≠ sb) (hsz : 1 ≤ sz.toInt ∧ sz.toInt ≤ 3) (hw : 1 ≤ ww.toInt ∧ ww.toInt ≤ 3) (hz : zc.toInt ≠ 0) (hvF : vF.isRef = true) (hel : ∀ i : Nat, (i : Int) < sz.toInt → f i = .ref sa) (gf : ω.2.1 ≤ fr) (gfh : h0.size ≤ fr) (nmf : m ≠ fr) (nrf : r ≠ fr) (nef : ed ≠ fr) (nsf : sa ≠ fr) (nbf : sb ≠ fr) (hwv : wv.toInt = ww.toInt) (hzv : z.toInt = wv.toInt * sz.toInt ∧ z.toInt ≤ 9) (hi : 0 ≤ i.toInt ∧ i.toInt < sz.toInt) (hj : 0 ≤ j.toInt ∧ j.toInt ≤ ww.toInt) (hd_ : ((sz.toInt - i.toInt) * 4 + (ww.toInt - j.toInt)).toNat = d),
    oWP ω γ k11 (fun v h' => v = none ∧ ∃ (wv : Int32) (fr : Addr), Keep h0 h' [m] ∧ wv.toInt = ww.toInt ∧ GMR Z h' m (.int sz) (.int wv) (.ref fr)) T 174 #[.val (.ref m), .val (.ref r), .val (.int i), .val (.ref sa), .val (.int j), oS oc] [] := by
  induction d using Nat.strongRecOn with
  | _ d ih =>
    intro γ T h X i j oc G Rm Rr Ae Rs Ab SC SF Af K0 gm nmr nme nms nmb hsz hw hz hvF hel gf gfh nmf nrf nef nsf nbf hwv hzv hi hj hd_
    refine ow_iload X 176 d11_174 rfl rfl ?_
    refine ow_aloadN X 177 d11_176 rfl rfl rfl ?_
    refine ow_getF X 180 137 rfl rfl Rm.2.2.1 d11_177 rfl ?_
    intro T_71 X_71
    refine ow_icmp_ge X_71 183 237 d11_180 rfl rfl (fun (c180 : wv.toInt ≤ j.toInt) => ?_) (fun (c180 : j.toInt < wv.toInt) => ?_)
    · refine ow_iinc X_71 240 (L' := #[.val (.ref m), .val (.ref r), .val (.int (i + (1 : Int32))), .val (.ref sa), .val (.int j), oS oc]) (1 : Int32) d11_237 rfl rfl rfl rfl ?_
      refine ow_goto X_71 152 d11_240 rfl ?_
      refine ow_iloadN X_71 153 d11_152 rfl rfl ?_
      refine ow_aloadN X_71 154 d11_153 rfl rfl rfl ?_
      refine ow_getF X_71 157 123 rfl rfl Rm.2.1 d11_154 rfl ?_
      intro T_72 X_72
      refine ow_icmp_ge X_72 160 243 d11_157 rfl rfl (fun (c157 : sz.toInt ≤ (i + (1 : Int32)).toInt) => ?_) (fun (c157 : (i + (1 : Int32)).toInt < sz.toInt) => ?_)
      · refine ow_retV X_72 rfl d11_243 (by decide) (by decide) ?_
        exact ⟨rfl, wv, fr, K0, hwv, Rm⟩
      · refine ow_aloadN X_72 161 d11_160 rfl rfl rfl ?_
        refine ow_iloadN X_72 162 d11_161 rfl rfl ?_
        refine ow_callI X_72 167 86 87 88 89 90 91 92 84 93 15 (κ' := k13) (as := [.int (i + (1 : Int32))]) (S := []) (W := 0) rfl rfl rfl rfl rfl rfl rfl rfl rfl rfl rfl (by decide) (by decide) Rr.1 (C_get (oSt_w X_72) (oSt_n0 X_72) r ed sa (i + (1 : Int32)) sz mc f Rr Ae (by have e1 := own_i1 i (by omega) (by omega); omega) (by omega) hsz.2 (hel _ (by have e1 := own_i1 i (by omega) (by omega); omega))) (by decide) (by decide) (Nat.le_of_eq rfl) (by decide) (by decide) pd13 rfl rfl rfl d11_162 rfl ?_
        intro γ v_73 T_73 h_73 X_73 q_73
        obtain ⟨rfl, rfl⟩ := q_73
        show oWP ω γ k11 _ T_73 167 #[.val (.ref m), .val (.ref r), .val (.int (i + (1 : Int32))), .val (.ref sa), .val (.int j), oS oc] [.ref sa]
        refine ow_cast X_73 170 107 rfl rfl (Ins.self Rs.1) d11_167 rfl ?_
        intro T_74 X_74
        refine ow_astoreN X_74 171 (L' := #[.val (.ref m), .val (.ref r), .val (.int (i + (1 : Int32))), .val (.ref sa), .val (.int j), oS oc]) d11_170 rfl rfl rfl ?_
        refine ow_iconst X_74 172 (0 : Int32) d11_171 rfl rfl ?_
        refine ow_istore X_74 174 (L' := #[.val (.ref m), .val (.ref r), .val (.int (i + (1 : Int32))), .val (.ref sa), .val (.int (0 : Int32)), oS oc]) d11_172 rfl rfl ?_
        exact ih _ (by have k0 : (0 : Int32).toInt = 0 := rfl; have e1 := own_i1 i (by omega) (by omega); omega) X_74 (i + (1 : Int32)) (0 : Int32) oc (G) Rm Rr Ae Rs Ab SC SF Af K0 gm nmr nme nms nmb hsz hw hz hvF hel gf gfh nmf nrf nef nsf nbf hwv hzv (by have e1 := own_i1 i (by omega) (by omega); omega) (by have k0 : (0 : Int32).toInt = 0 := rfl; omega) rfl
    · refine ow_aloadN X_71 184 d11_183 rfl rfl rfl ?_
      refine ow_iload X_71 186 d11_184 rfl rfl ?_
      refine ow_callV X_71 189 145 146 148 147 149 6 (κ' := k22) (as := [.int j]) (S := []) (W := 0) rfl rfl rfl rfl rfl rfl rfl (by decide) Rs.1 (C_chr (oSt_w X_71) (oSt_n0 X_71) sa sb j ww zc g vF Rs Ab SC SF hw hz (by omega) (by omega) hvF) (by decide) (by decide) (Nat.le_of_eq rfl) (by decide) (by decide) pd22 rfl rfl rfl d11_186 rfl ?_
      intro γ v_75 T_75 h_75 X_75 q_75
      obtain ⟨ch75, rfl, rfl⟩ := q_75
      show oWP ω γ k11 _ T_75 189 #[.val (.ref m), .val (.ref r), .val (.int i), .val (.ref sa), .val (.int j), oS oc] [.int ch75]
      refine ow_istore X_75 191 (L' := #[.val (.ref m), .val (.ref r), .val (.int i), .val (.ref sa), .val (.int j), .val (.int ch75)]) d11_189 rfl (by cases oc <;> rfl) ?_
      refine ow_aloadN X_75 192 d11_191 rfl rfl rfl ?_
      refine ow_getF X_75 195 143 rfl rfl Rm.2.2.2 d11_192 rfl ?_
      intro T_76 X_76
      refine ow_iloadN X_76 196 d11_195 rfl rfl ?_
      refine ow_aloadN X_76 197 d11_196 rfl rfl rfl ?_
      refine ow_getF X_76 200 137 rfl rfl Rm.2.2.1 d11_197 rfl ?_
      intro T_77 X_77
      refine ow_imul X_77 201 d11_200 rfl ?_
      refine ow_iload X_77 203 d11_201 rfl rfl ?_
      refine ow_iadd X_77 204 d11_203 rfl ?_
      refine ow_iload X_77 206 d11_204 rfl rfl ?_
      refine ow_bipush X_77 208 (46 : Int32) d11_206 rfl rfl ?_
      refine ow_icmp_eq X_77 211 225 d11_208 rfl rfl (fun (c208 : ch75.toInt = 46) => ?_) (fun (c208 : ch75.toInt ≠ 46) => ?_)
      · refine ow_iconst X_77 226 (1 : Int32) d11_225 rfl rfl ?_
        refine ow_goto X_77 230 d11_226 rfl ?_
        refine ow_bastoreZ X_77 231 Af gf d11_230 rfl (own_ix i wv j sz z (by omega) (by omega) (by omega) hsz hzv.1).1 (by have q := (own_ix i wv j sz z (by omega) (by omega) (by omega) hsz hzv.1).2; omega) ?_
        intro T_78 h_78 X_78 W_78
        have f79_0 : GMR Z h_78 m (.int sz) (.int wv) (.ref fr) := Rm.other W_78 nmf
        have f79_1 : ALR Z h_78 r (.ref ed) (.int sz) (.int mc) := Rr.other W_78 nrf
        have f79_2 : oA Z h_78 ed (.object "java/lang/Object") 10 f := Ae.other W_78 nef
        have f79_3 : STR Z h_78 sa (.ref sb) (.int (0 : Int32)) := Rs.other W_78 nsf
        have f79_4 : oA Z h_78 sb .byte ww.toInt.toNat (fun i_ => .int (g i_)) := Ab.other W_78 nbf
        have f79_5 : Sta Z h_78 "java/lang/String" "COMPACT_STRINGS" "Z" (.int zc) := SC.wr W_78
        have f79_6 : Sta Z h_78 "jdk/internal/util/Preconditions" "SIOOBE_FORMATTER" "Ljava/util/function/BiFunction;" vF := SF.wr W_78
        have f79_7 : oA Z h_78 fr .boolean z.toInt.toNat (fun i_ => .int ((oUpd G (((i * wv) + j).toInt.toNat) (nar .boolean (1 : Int32))) i_)) := Af.setI W_78
        have f79_8 : Keep h0 h_78 [m] := K0.wr W_78 (Or.inr gfh)
        refine ow_iinc X_78 234 (L' := #[.val (.ref m), .val (.ref r), .val (.int i), .val (.ref sa), .val (.int (j + (1 : Int32))), .val (.int ch75)]) (1 : Int32) d11_231 rfl rfl rfl rfl ?_
        refine ow_goto X_78 174 d11_234 rfl ?_
        exact ih _ (by have e1 := own_i1 j (by omega) (by omega); omega) X_78 i (j + (1 : Int32)) (some ch75) (oUpd G (((i * wv) + j).toInt.toNat) (nar .boolean (1 : Int32))) f79_0 f79_1 f79_2 f79_3 f79_4 f79_5 f79_6 f79_7 f79_8 gm nmr nme nms nmb hsz hw hz hvF hel gf gfh nmf nrf nef nsf nbf hwv hzv hi (by have e1 := own_i1 j (by omega) (by omega); omega) rfl
      · refine ow_iload X_77 213 d11_211 rfl rfl ?_
        refine ow_bipush X_77 215 (71 : Int32) d11_213 rfl rfl ?_
        refine ow_icmp_eq X_77 218 225 d11_215 rfl rfl (fun (c215 : ch75.toInt = 71) => ?_) (fun (c215 : ch75.toInt ≠ 71) => ?_)
        · refine ow_iconst X_77 226 (1 : Int32) d11_225 rfl rfl ?_
          refine ow_goto X_77 230 d11_226 rfl ?_
          refine ow_bastoreZ X_77 231 Af gf d11_230 rfl (own_ix i wv j sz z (by omega) (by omega) (by omega) hsz hzv.1).1 (by have q := (own_ix i wv j sz z (by omega) (by omega) (by omega) hsz hzv.1).2; omega) ?_
          intro T_80 h_80 X_80 W_80
          have f81_0 : GMR Z h_80 m (.int sz) (.int wv) (.ref fr) := Rm.other W_80 nmf
          have f81_1 : ALR Z h_80 r (.ref ed) (.int sz) (.int mc) := Rr.other W_80 nrf
          have f81_2 : oA Z h_80 ed (.object "java/lang/Object") 10 f := Ae.other W_80 nef
          have f81_3 : STR Z h_80 sa (.ref sb) (.int (0 : Int32)) := Rs.other W_80 nsf
          have f81_4 : oA Z h_80 sb .byte ww.toInt.toNat (fun i_ => .int (g i_)) := Ab.other W_80 nbf
          have f81_5 : Sta Z h_80 "java/lang/String" "COMPACT_STRINGS" "Z" (.int zc) := SC.wr W_80
          have f81_6 : Sta Z h_80 "jdk/internal/util/Preconditions" "SIOOBE_FORMATTER" "Ljava/util/function/BiFunction;" vF := SF.wr W_80
          have f81_7 : oA Z h_80 fr .boolean z.toInt.toNat (fun i_ => .int ((oUpd G (((i * wv) + j).toInt.toNat) (nar .boolean (1 : Int32))) i_)) := Af.setI W_80
          have f81_8 : Keep h0 h_80 [m] := K0.wr W_80 (Or.inr gfh)
          refine ow_iinc X_80 234 (L' := #[.val (.ref m), .val (.ref r), .val (.int i), .val (.ref sa), .val (.int (j + (1 : Int32))), .val (.int ch75)]) (1 : Int32) d11_231 rfl rfl rfl rfl ?_
          refine ow_goto X_80 174 d11_234 rfl ?_
          exact ih _ (by have e1 := own_i1 j (by omega) (by omega); omega) X_80 i (j + (1 : Int32)) (some ch75) (oUpd G (((i * wv) + j).toInt.toNat) (nar .boolean (1 : Int32))) f81_0 f81_1 f81_2 f81_3 f81_4 f81_5 f81_6 f81_7 f81_8 gm nmr nme nms nmb hsz hw hz hvF hel gf gfh nmf nrf nef nsf nbf hwv hzv hi (by have e1 := own_i1 j (by omega) (by omega); omega) rfl
        · refine ow_iload X_77 220 d11_218 rfl rfl ?_
          refine ow_bipush X_77 222 (83 : Int32) d11_220 rfl rfl ?_
          refine ow_icmp_ne X_77 225 229 d11_222 rfl rfl (fun (c222 : ch75.toInt ≠ 83) => ?_) (fun (c222 : ch75.toInt = 83) => ?_)
          · refine ow_iconst X_77 230 (0 : Int32) d11_229 rfl rfl ?_
            refine ow_bastoreZ X_77 231 Af gf d11_230 rfl (own_ix i wv j sz z (by omega) (by omega) (by omega) hsz hzv.1).1 (by have q := (own_ix i wv j sz z (by omega) (by omega) (by omega) hsz hzv.1).2; omega) ?_
            intro T_82 h_82 X_82 W_82
            have f83_0 : GMR Z h_82 m (.int sz) (.int wv) (.ref fr) := Rm.other W_82 nmf
            have f83_1 : ALR Z h_82 r (.ref ed) (.int sz) (.int mc) := Rr.other W_82 nrf
            have f83_2 : oA Z h_82 ed (.object "java/lang/Object") 10 f := Ae.other W_82 nef
            have f83_3 : STR Z h_82 sa (.ref sb) (.int (0 : Int32)) := Rs.other W_82 nsf
            have f83_4 : oA Z h_82 sb .byte ww.toInt.toNat (fun i_ => .int (g i_)) := Ab.other W_82 nbf
            have f83_5 : Sta Z h_82 "java/lang/String" "COMPACT_STRINGS" "Z" (.int zc) := SC.wr W_82
            have f83_6 : Sta Z h_82 "jdk/internal/util/Preconditions" "SIOOBE_FORMATTER" "Ljava/util/function/BiFunction;" vF := SF.wr W_82
            have f83_7 : oA Z h_82 fr .boolean z.toInt.toNat (fun i_ => .int ((oUpd G (((i * wv) + j).toInt.toNat) (nar .boolean (0 : Int32))) i_)) := Af.setI W_82
            have f83_8 : Keep h0 h_82 [m] := K0.wr W_82 (Or.inr gfh)
            refine ow_iinc X_82 234 (L' := #[.val (.ref m), .val (.ref r), .val (.int i), .val (.ref sa), .val (.int (j + (1 : Int32))), .val (.int ch75)]) (1 : Int32) d11_231 rfl rfl rfl rfl ?_
            refine ow_goto X_82 174 d11_234 rfl ?_
            exact ih _ (by have e1 := own_i1 j (by omega) (by omega); omega) X_82 i (j + (1 : Int32)) (some ch75) (oUpd G (((i * wv) + j).toInt.toNat) (nar .boolean (0 : Int32))) f83_0 f83_1 f83_2 f83_3 f83_4 f83_5 f83_6 f83_7 f83_8 gm nmr nme nms nmb hsz hw hz hvF hel gf gfh nmf nrf nef nsf nbf hwv hzv hi (by have e1 := own_i1 j (by omega) (by omega); omega) rfl
          · refine ow_iconst X_77 226 (1 : Int32) d11_225 rfl rfl ?_
            refine ow_goto X_77 230 d11_226 rfl ?_
            refine ow_bastoreZ X_77 231 Af gf d11_230 rfl (own_ix i wv j sz z (by omega) (by omega) (by omega) hsz hzv.1).1 (by have q := (own_ix i wv j sz z (by omega) (by omega) (by omega) hsz hzv.1).2; omega) ?_
            intro T_84 h_84 X_84 W_84
            have f85_0 : GMR Z h_84 m (.int sz) (.int wv) (.ref fr) := Rm.other W_84 nmf
            have f85_1 : ALR Z h_84 r (.ref ed) (.int sz) (.int mc) := Rr.other W_84 nrf
            have f85_2 : oA Z h_84 ed (.object "java/lang/Object") 10 f := Ae.other W_84 nef
            have f85_3 : STR Z h_84 sa (.ref sb) (.int (0 : Int32)) := Rs.other W_84 nsf
            have f85_4 : oA Z h_84 sb .byte ww.toInt.toNat (fun i_ => .int (g i_)) := Ab.other W_84 nbf
            have f85_5 : Sta Z h_84 "java/lang/String" "COMPACT_STRINGS" "Z" (.int zc) := SC.wr W_84
            have f85_6 : Sta Z h_84 "jdk/internal/util/Preconditions" "SIOOBE_FORMATTER" "Ljava/util/function/BiFunction;" vF := SF.wr W_84
            have f85_7 : oA Z h_84 fr .boolean z.toInt.toNat (fun i_ => .int ((oUpd G (((i * wv) + j).toInt.toNat) (nar .boolean (1 : Int32))) i_)) := Af.setI W_84
            have f85_8 : Keep h0 h_84 [m] := K0.wr W_84 (Or.inr gfh)
            refine ow_iinc X_84 234 (L' := #[.val (.ref m), .val (.ref r), .val (.int i), .val (.ref sa), .val (.int (j + (1 : Int32))), .val (.int ch75)]) (1 : Int32) d11_231 rfl rfl rfl rfl ?_
            refine ow_goto X_84 174 d11_234 rfl ?_
            exact ih _ (by have e1 := own_i1 j (by omega) (by omega); omega) X_84 i (j + (1 : Int32)) (some ch75) (oUpd G (((i * wv) + j).toInt.toNat) (nar .boolean (1 : Int32))) f85_0 f85_1 f85_2 f85_3 f85_4 f85_5 f85_6 f85_7 f85_8 gm nmr nme nms nmb hsz hw hz hvF hel gf gfh nmf nrf nef nsf nbf hwv hzv hi (by have e1 := own_i1 j (by omega) (by omega); omega) rfl
set_option maxRecDepth 65536 in
set_option maxHeartbeats 4000000 in
theorem B133 {Z : State} {ω : OW} {γ : OG} {T : State} {h : Heap} (X : oSt Z ω γ k11 T h 0 0) (m r ed sa sb : Addr) (sz mc ww zc : Int32) (f : Nat → Value) (g : Nat → Int32) (vF : Value) (wv i : Int32) (h0 : Heap) (Rm : GMR Z h m (.int sz) (.int wv) .null) (Rr : ALR Z h r (.ref ed) (.int sz) (.int mc)) (Ae : oA Z h ed (.object "java/lang/Object") 10 f) (Rs : STR Z h sa (.ref sb) (.int (0 : Int32))) (Ab : oA Z h sb .byte ww.toInt.toNat (fun i_ => .int (g i_))) (SC : Sta Z h "java/lang/String" "COMPACT_STRINGS" "Z" (.int zc)) (SF : Sta Z h "jdk/internal/util/Preconditions" "SIOOBE_FORMATTER" "Ljava/util/function/BiFunction;" vF) (K0 : Keep h0 h [m]) (gm : ω.2.1 ≤ m) (nmr : m ≠ r) (nme : m ≠ ed) (nms : m ≠ sa) (nmb : m ≠ sb) (hsz : 1 ≤ sz.toInt ∧ sz.toInt ≤ 3) (hw : 1 ≤ ww.toInt ∧ ww.toInt ≤ 3) (hz : zc.toInt ≠ 0) (hvF : vF.isRef = true) (hel : ∀ i : Nat, (i : Int) < sz.toInt → f i = .ref sa) (hwv : wv.toInt = ww.toInt) :
    oWP ω γ k11 (fun v h' => v = none ∧ ∃ (wv : Int32) (fr : Addr), Keep h0 h' [m] ∧ wv.toInt = ww.toInt ∧ GMR Z h' m (.int sz) (.int wv) (.ref fr)) T 133 #[.val (.ref m), .val (.ref r), .val (.int i), .unset, .unset, .unset] [] := by
  refine ow_aloadN X 134 d11_133 rfl rfl rfl ?_
  refine ow_aloadN X 135 d11_134 rfl rfl rfl ?_
  refine ow_getF X 138 137 rfl rfl Rm.2.2.1 d11_135 rfl ?_
  intro T_86 X_86
  refine ow_aloadN X_86 139 d11_138 rfl rfl rfl ?_
  refine ow_getF X_86 142 123 rfl rfl Rm.2.1 d11_139 rfl ?_
  intro T_87 X_87
  refine ow_callS X_87 145 139 140 65 141 (κ' := k21) (as := [.int wv, .int sz]) (S := [.ref m]) (W := 1) rfl rfl rfl rfl rfl (by decide) (C_mul (oSt_w X_87) (oSt_n0 X_87) wv sz (by omega) hsz) (by decide) (by decide) (Nat.le_of_eq rfl) (by decide) (by decide) pd21 rfl rfl rfl d11_142 rfl ?_
  intro γ v_88 T_88 h_88 X_88 q_88
  obtain ⟨z, rfl, rfl, hzm, hz1, hz9⟩ := q_88
  show oWP ω γ k11 _ T_88 145 #[.val (.ref m), .val (.ref r), .val (.int i), .unset, .unset, .unset] [.int z, .ref m]
  refine ow_newP X_88 147 142 (cap := 9) rfl d11_145 rfl (by omega) (by omega) (by decide) (by decide) (by decide) ?_
  intro T_89 h_89 a_89 q_89 X_89 E_89 A_89 g_89
  have ne_m_a_89 : m ≠ a_89 := by rw [q_89]; exact Nat.ne_of_lt Rm.lt
  have ne_r_a_89 : r ≠ a_89 := by rw [q_89]; exact Nat.ne_of_lt Rr.lt
  have ne_ed_a_89 : ed ≠ a_89 := by rw [q_89]; exact Nat.ne_of_lt Ae.lt
  have ne_sa_a_89 : sa ≠ a_89 := by rw [q_89]; exact Nat.ne_of_lt Rs.lt
  have ne_sb_a_89 : sb ≠ a_89 := by rw [q_89]; exact Nat.ne_of_lt Ab.lt
  have ge_h0_a_89 : h0.size ≤ a_89 := by rw [q_89]; exact K0.1
  have f90_0 : GMR Z h_89 m (.int sz) (.int wv) .null := Rm.ext E_89
  have f90_1 : ALR Z h_89 r (.ref ed) (.int sz) (.int mc) := Rr.ext E_89
  have f90_2 : oA Z h_89 ed (.object "java/lang/Object") 10 f := Ae.ext E_89
  have f90_3 : STR Z h_89 sa (.ref sb) (.int (0 : Int32)) := Rs.ext E_89
  have f90_4 : oA Z h_89 sb .byte ww.toInt.toNat (fun i_ => .int (g i_)) := Ab.ext E_89
  have f90_5 : Sta Z h_89 "java/lang/String" "COMPACT_STRINGS" "Z" (.int zc) := Sta.ext E_89 SC
  have f90_6 : Sta Z h_89 "jdk/internal/util/Preconditions" "SIOOBE_FORMATTER" "Ljava/util/function/BiFunction;" vF := Sta.ext E_89 SF
  have f90_7 : Keep h0 h_89 [m] := K0.ext E_89
  have A_89 : oA Z h_89 a_89 .boolean z.toInt.toNat (fun i_ => .int (oZI i_)) := A_89
  refine ow_putF X_89 150 143 71 rfl rfl f90_0.2.2.2 f90_0.1 (Or.inr ⟨oSt_at X_89 144 rfl, rfl, rfl⟩) rfl (ty := (.array .boolean)) (by decide) rfl rfl gm d11_147 rfl ?_
  intro T_91 h_91 X_91 W_91
  have f92_0 : GMR Z h_91 m (.int sz) (.int wv) (.ref a_89) := GMR.set_free (oSt_w X_91) f90_0 W_91
  have f92_1 : ALR Z h_91 r (.ref ed) (.int sz) (.int mc) := f90_1.other W_91 (Ne.symm nmr)
  have f92_2 : oA Z h_91 ed (.object "java/lang/Object") 10 f := f90_2.other W_91 (Ne.symm nme)
  have f92_3 : STR Z h_91 sa (.ref sb) (.int (0 : Int32)) := f90_3.other W_91 (Ne.symm nms)
  have f92_4 : oA Z h_91 sb .byte ww.toInt.toNat (fun i_ => .int (g i_)) := f90_4.other W_91 (Ne.symm nmb)
  have f92_5 : Sta Z h_91 "java/lang/String" "COMPACT_STRINGS" "Z" (.int zc) := f90_5.wr W_91
  have f92_6 : Sta Z h_91 "jdk/internal/util/Preconditions" "SIOOBE_FORMATTER" "Ljava/util/function/BiFunction;" vF := f90_6.wr W_91
  have f92_7 : Keep h0 h_91 [m] := f90_7.wr W_91 (Or.inl (List.mem_of_getElem? (i := 0) rfl))
  have f92_8 : oA Z h_91 a_89 .boolean z.toInt.toNat (fun i_ => .int (oZI i_)) := A_89.other W_91 (Ne.symm ne_m_a_89)
  have hzv : z.toInt = wv.toInt * sz.toInt ∧ z.toInt ≤ 9 := ⟨hzm, hz9⟩
  have nmf : m ≠ a_89 := ne_m_a_89
  have nrf : r ≠ a_89 := ne_r_a_89
  have nef : ed ≠ a_89 := ne_ed_a_89
  have nsf : sa ≠ a_89 := ne_sa_a_89
  have nbf : sb ≠ a_89 := ne_sb_a_89
  have gf : ω.2.1 ≤ a_89 := g_89
  have gfh : h0.size ≤ a_89 := ge_h0_a_89
  refine ow_iconst X_91 151 (0 : Int32) d11_150 rfl rfl ?_
  refine ow_istoreN X_91 152 (L' := #[.val (.ref m), .val (.ref r), .val (.int (0 : Int32)), .unset, .unset, .unset]) d11_151 rfl rfl ?_
  refine ow_iloadN X_91 153 d11_152 rfl rfl ?_
  refine ow_aloadN X_91 154 d11_153 rfl rfl rfl ?_
  refine ow_getF X_91 157 123 rfl rfl f92_0.2.1 d11_154 rfl ?_
  intro T_93 X_93
  refine ow_icmp_ge X_93 160 243 d11_157 rfl rfl (fun (c157 : sz.toInt ≤ 0) => by exfalso; have k0 : (0 : Int32).toInt = 0 := rfl; omega) (fun (c157 : 0 < sz.toInt) => ?_)
  refine ow_aloadN X_93 161 d11_160 rfl rfl rfl ?_
  refine ow_iloadN X_93 162 d11_161 rfl rfl ?_
  refine ow_callI X_93 167 86 87 88 89 90 91 92 84 93 15 (κ' := k13) (as := [.int (0 : Int32)]) (S := []) (W := 0) rfl rfl rfl rfl rfl rfl rfl rfl rfl rfl rfl (by decide) (by decide) f92_1.1 (C_get (oSt_w X_93) (oSt_n0 X_93) r ed sa (0 : Int32) sz mc f f92_1 f92_2 (by decide) (by have k0 : (0 : Int32).toInt = 0 := rfl; omega) hsz.2 (hel _ (by have k0 : (0 : Int32).toInt = 0 := rfl; omega))) (by decide) (by decide) (Nat.le_of_eq rfl) (by decide) (by decide) pd13 rfl rfl rfl d11_162 rfl ?_
  intro γ v_94 T_94 h_94 X_94 q_94
  obtain ⟨rfl, rfl⟩ := q_94
  show oWP ω γ k11 _ T_94 167 #[.val (.ref m), .val (.ref r), .val (.int (0 : Int32)), .unset, .unset, .unset] [.ref sa]
  refine ow_cast X_94 170 107 rfl rfl (Ins.self f92_3.1) d11_167 rfl ?_
  intro T_95 X_95
  refine ow_astoreN X_95 171 (L' := #[.val (.ref m), .val (.ref r), .val (.int (0 : Int32)), .val (.ref sa), .unset, .unset]) d11_170 rfl rfl rfl ?_
  refine ow_iconst X_95 172 (0 : Int32) d11_171 rfl rfl ?_
  refine ow_istore X_95 174 (L' := #[.val (.ref m), .val (.ref r), .val (.int (0 : Int32)), .val (.ref sa), .val (.int (0 : Int32)), .unset]) d11_172 rfl rfl ?_
  exact B174 m r ed sa sb sz mc ww zc f g vF wv z a_89 h0 _ X_95 (0 : Int32) (0 : Int32) none oZI f92_0 f92_1 f92_2 f92_3 f92_4 f92_5 f92_6 f92_8 f92_7 gm nmr nme nms nmb hsz hw hz hvF hel gf gfh nmf nrf nef nsf nbf hwv hzv (by have k0 : (0 : Int32).toInt = 0 := rfl; omega) (by have k0 : (0 : Int32).toInt = 0 := rfl; omega) rfl
set_option maxRecDepth 65536 in
set_option maxHeartbeats 4000000 in
theorem B68 {Z : State} {ω : OW} (m r ed sa sb : Addr) (sz mc ww zc : Int32) (f : Nat → Value) (g : Nat → Int32) (vF : Value) (wv : Int32) (h0 : Heap) (d : Nat) : ∀ {γ : OG} {T : State} {h : Heap} (X : oSt Z ω γ k11 T h 0 0) (i : Int32) (Rm : GMR Z h m (.int sz) (.int wv) .null) (Rr : ALR Z h r (.ref ed) (.int sz) (.int mc)) (Ae : oA Z h ed (.object "java/lang/Object") 10 f) (Rs : STR Z h sa (.ref sb) (.int (0 : Int32))) (Ab : oA Z h sb .byte ww.toInt.toNat (fun i_ => .int (g i_))) (SC : Sta Z h "java/lang/String" "COMPACT_STRINGS" "Z" (.int zc)) (SF : Sta Z h "jdk/internal/util/Preconditions" "SIOOBE_FORMATTER" "Ljava/util/function/BiFunction;" vF) (K0 : Keep h0 h [m]) (gm : ω.2.1 ≤ m) (nmr : m ≠ r) (nme : m ≠ ed) (nms : m ≠ sa) (nmb : m ≠ sb) (hsz : 1 ≤ sz.toInt ∧ sz.toInt ≤ 3) (hw : 1 ≤ ww.toInt ∧ ww.toInt ≤ 3) (hz : zc.toInt ≠ 0) (hvF : vF.isRef = true) (hel : ∀ i : Nat, (i : Int) < sz.toInt → f i = .ref sa) (hwv : wv.toInt = ww.toInt) (hi : 1 ≤ i.toInt ∧ i.toInt ≤ sz.toInt) (hd_ : (sz.toInt - i.toInt).toNat = d),
    oWP ω γ k11 (fun v h' => v = none ∧ ∃ (wv : Int32) (fr : Addr), Keep h0 h' [m] ∧ wv.toInt = ww.toInt ∧ GMR Z h' m (.int sz) (.int wv) (.ref fr)) T 68 #[.val (.ref m), .val (.ref r), .val (.int i), .unset, .unset, .unset] [] := by
  induction d using Nat.strongRecOn with
  | _ d ih =>
    intro γ T h X i Rm Rr Ae Rs Ab SC SF K0 gm nmr nme nms nmb hsz hw hz hvF hel hwv hi hd_
    refine ow_iloadN X 69 d11_68 rfl rfl ?_
    refine ow_aloadN X 70 d11_69 rfl rfl rfl ?_
    refine ow_getF X 73 123 rfl rfl Rm.2.1 d11_70 rfl ?_
    intro T_96 X_96
    refine ow_icmp_ge X_96 76 133 d11_73 rfl rfl (fun (c73 : sz.toInt ≤ i.toInt) => ?_) (fun (c73 : i.toInt < sz.toInt) => ?_)
    · exact B133 X_96 m r ed sa sb sz mc ww zc f g vF wv i h0 Rm Rr Ae Rs Ab SC SF K0 gm nmr nme nms nmb hsz hw hz hvF hel hwv
    · refine ow_aloadN X_96 77 d11_76 rfl rfl rfl ?_
      refine ow_iloadN X_96 78 d11_77 rfl rfl ?_
      refine ow_callI X_96 83 86 87 88 89 90 91 92 84 93 15 (κ' := k13) (as := [.int i]) (S := []) (W := 0) rfl rfl rfl rfl rfl rfl rfl rfl rfl rfl rfl (by decide) (by decide) Rr.1 (C_get (oSt_w X_96) (oSt_n0 X_96) r ed sa i sz mc f Rr Ae (by omega) (by omega) hsz.2 (hel _ (by omega))) (by decide) (by decide) (Nat.le_of_eq rfl) (by decide) (by decide) pd13 rfl rfl rfl d11_78 rfl ?_
      intro γ v_97 T_97 h_97 X_97 q_97
      obtain ⟨rfl, rfl⟩ := q_97
      show oWP ω γ k11 _ T_97 83 #[.val (.ref m), .val (.ref r), .val (.int i), .unset, .unset, .unset] [.ref sa]
      refine ow_cast X_97 86 107 rfl rfl (Ins.self Rs.1) d11_83 rfl ?_
      intro T_98 X_98
      refine ow_callV X_98 89 125 126 128 127 129 6 (κ' := k19) (as := []) (S := []) (W := 0) rfl rfl rfl rfl rfl rfl rfl (by decide) Rs.1 (C_len (oSt_w X_98) (oSt_n0 X_98) sa sb ww zc g Rs Ab SC hw hz) (by decide) (by decide) (Nat.le_of_eq rfl) (by decide) (by decide) pd19 rfl rfl rfl d11_86 rfl ?_
      intro γ v_99 T_99 h_99 X_99 q_99
      obtain ⟨lz, rfl, rfl, hlz⟩ := q_99
      show oWP ω γ k11 _ T_99 89 #[.val (.ref m), .val (.ref r), .val (.int i), .unset, .unset, .unset] [.int lz]
      refine ow_aloadN X_99 90 d11_89 rfl rfl rfl ?_
      refine ow_getF X_99 93 137 rfl rfl Rm.2.2.1 d11_90 rfl ?_
      intro T_100 X_100
      refine ow_icmp_eq X_100 96 127 d11_93 rfl rfl (fun (c93 : lz.toInt = wv.toInt) => ?_) (fun (c93 : lz.toInt ≠ wv.toInt) => by exfalso; omega)
      refine ow_iinc X_100 130 (L' := #[.val (.ref m), .val (.ref r), .val (.int (i + (1 : Int32))), .unset, .unset, .unset]) (1 : Int32) d11_127 rfl rfl rfl rfl ?_
      refine ow_goto X_100 68 d11_130 rfl ?_
      exact ih _ (by have e1 := own_i1 i (by omega) (by omega); omega) X_100 (i + (1 : Int32)) Rm Rr Ae Rs Ab SC SF K0 gm nmr nme nms nmb hsz hw hz hvF hel hwv (by have e1 := own_i1 i (by omega) (by omega); omega) rfl
set_option maxRecDepth 65536 in
set_option maxHeartbeats 4000000 in
theorem C_gmi {Z : State} {ω : OW} {h : Heap} (hw_ : ∀ d ∈ tables_1, d.before ω.2.2 Z = true) (hn_ : ω.2.1 ≤ h.size) (m r ed sa sb : Addr) (sz mc ww zc : Int32) (f : Nat → Value) (g : Nat → Int32) (vF : Value) (Rm : GMR Z h m (.int (0 : Int32)) (.int (0 : Int32)) .null) (Rr : ALR Z h r (.ref ed) (.int sz) (.int mc)) (Ae : oA Z h ed (.object "java/lang/Object") 10 f) (Rs : STR Z h sa (.ref sb) (.int (0 : Int32))) (Ab : oA Z h sb .byte ww.toInt.toNat (fun i_ => .int (g i_))) (SC : Sta Z h "java/lang/String" "COMPACT_STRINGS" "Z" (.int zc)) (SF : Sta Z h "jdk/internal/util/Preconditions" "SIOOBE_FORMATTER" "Ljava/util/function/BiFunction;" vF) (gm : ω.2.1 ≤ m) (nmr : m ≠ r) (nme : m ≠ ed) (nms : m ≠ sa) (nmb : m ≠ sb) (hsz : 1 ≤ sz.toInt ∧ sz.toInt ≤ 3) (hw : 1 ≤ ww.toInt ∧ ww.toInt ≤ 3) (hz : zc.toInt ≠ 0) (hvF : vF.isRef = true) (hel : ∀ i : Nat, (i : Int) < sz.toInt → f i = .ref sa) :
    oC Z ω (⟨"com/example/muster/muster/model/GridMap", "<init>", "(Ljava/util/List;)V"⟩ : MethodName) k11 [] #[.ref m, .ref r] h (fun v h' => v = none ∧ ∃ (wv : Int32) (fr : Addr), Keep h h' [m] ∧ wv.toInt = ww.toInt ∧ GMR Z h' m (.int sz) (.int wv) (.ref fr)) := by
  refine oC_of hw_ hn_ pn11 rfl rfl (L := #[.val (.ref m), .val (.ref r), .unset, .unset, .unset, .unset]) (fun m => by first | (simp [entryFrame, mkF, argsToLocals, Value.category, k11]; done) | rfl) ?_
  intro γ T X
  refine ow_aloadN X 1 d11_0 rfl rfl rfl ?_
  refine ow_initO X 4 76 32 33 rfl rfl rfl rfl d11_1 rfl rfl (by decide) (W := 0) (Nat.le_of_eq rfl) (by decide) ?_
  intro T_101 X_101
  refine ow_aloadN X_101 5 d11_4 rfl rfl rfl ?_
  refine ow_callI X_101 10 77 78 79 80 81 82 83 84 85 15 (κ' := k12) (as := []) (S := []) (W := 0) rfl rfl rfl rfl rfl rfl rfl rfl rfl rfl rfl (by decide) (by decide) Rr.1 (C_lem (oSt_w X_101) (oSt_n0 X_101) r ed sz mc Rr hsz.1) (by decide) (by decide) (Nat.le_of_eq rfl) (by decide) (by decide) pd12 rfl rfl rfl d11_5 rfl ?_
  intro γ v_102 T_102 h_102 X_102 q_102
  obtain ⟨rfl, rfl⟩ := q_102
  show oWP ω γ k11 _ T_102 10 #[.val (.ref m), .val (.ref r), .unset, .unset, .unset, .unset] [.int (0 : Int32)]
  refine ow_if_ne X_102 13 29 d11_10 rfl rfl (fun (c10 : 0 ≠ 0) => absurd rfl c10) (fun (c10 : 0 = 0) => ?_)
  refine ow_aloadN X_102 14 d11_13 rfl rfl rfl ?_
  refine ow_iconst X_102 15 (0 : Int32) d11_14 rfl rfl ?_
  refine ow_callI X_102 20 86 87 88 89 90 91 92 84 93 15 (κ' := k13) (as := [.int (0 : Int32)]) (S := []) (W := 0) rfl rfl rfl rfl rfl rfl rfl rfl rfl rfl rfl (by decide) (by decide) Rr.1 (C_get (oSt_w X_102) (oSt_n0 X_102) r ed sa (0 : Int32) sz mc f Rr Ae (by decide) (by have k0 : (0 : Int32).toInt = 0 := rfl; omega) hsz.2 (hel _ (by have k0 : (0 : Int32).toInt = 0 := rfl; omega))) (by decide) (by decide) (Nat.le_of_eq rfl) (by decide) (by decide) pd13 rfl rfl rfl d11_15 rfl ?_
  intro γ v_103 T_103 h_103 X_103 q_103
  obtain ⟨rfl, rfl⟩ := q_103
  show oWP ω γ k11 _ T_103 20 #[.val (.ref m), .val (.ref r), .unset, .unset, .unset, .unset] [.ref sa]
  refine ow_cast X_103 23 107 rfl rfl (Ins.self Rs.1) d11_20 rfl ?_
  intro T_104 X_104
  refine ow_callV X_104 26 109 110 112 111 113 6 (κ' := k17) (as := []) (S := []) (W := 0) rfl rfl rfl rfl rfl rfl rfl (by decide) Rs.1 (C_sem (oSt_w X_104) (oSt_n0 X_104) sa sb ww g Rs Ab hw) (by decide) (by decide) (Nat.le_of_eq rfl) (by decide) (by decide) pd17 rfl rfl rfl d11_23 rfl ?_
  intro γ v_105 T_105 h_105 X_105 q_105
  obtain ⟨rfl, rfl⟩ := q_105
  show oWP ω γ k11 _ T_105 26 #[.val (.ref m), .val (.ref r), .unset, .unset, .unset, .unset] [.int (0 : Int32)]
  refine ow_if_eq X_105 29 39 d11_26 rfl rfl (fun (c26 : 0 = 0) => ?_) (fun (c26 : 0 ≠ 0) => absurd rfl c26)
  refine ow_aloadN X_105 40 d11_39 rfl rfl rfl ?_
  refine ow_aloadN X_105 41 d11_40 rfl rfl rfl ?_
  refine ow_callI X_105 46 115 116 117 118 119 120 121 84 122 15 (κ' := k18) (as := []) (S := [.ref m]) (W := 1) rfl rfl rfl rfl rfl rfl rfl rfl rfl rfl rfl (by decide) (by decide) Rr.1 (C_lsz (oSt_w X_105) (oSt_n0 X_105) r ed sz mc Rr) (by decide) (by decide) (Nat.le_of_eq rfl) (by decide) (by decide) pd18 rfl rfl rfl d11_41 rfl ?_
  intro γ v_106 T_106 h_106 X_106 q_106
  obtain ⟨rfl, rfl⟩ := q_106
  show oWP ω γ k11 _ T_106 46 #[.val (.ref m), .val (.ref r), .unset, .unset, .unset, .unset] [.int sz, .ref m]
  refine ow_putF X_106 49 123 71 rfl rfl Rm.2.1 Rm.1 (Or.inr ⟨oSt_at X_106 124 rfl, rfl, rfl⟩) rfl (ty := .int) (by decide) rfl rfl gm d11_46 rfl ?_
  intro T_107 h_107 X_107 W_107
  have f108_0 : GMR Z h_107 m (.int sz) (.int (0 : Int32)) .null := GMR.set_height (oSt_w X_107) Rm W_107
  have f108_1 : ALR Z h_107 r (.ref ed) (.int sz) (.int mc) := Rr.other W_107 (Ne.symm nmr)
  have f108_2 : oA Z h_107 ed (.object "java/lang/Object") 10 f := Ae.other W_107 (Ne.symm nme)
  have f108_3 : STR Z h_107 sa (.ref sb) (.int (0 : Int32)) := Rs.other W_107 (Ne.symm nms)
  have f108_4 : oA Z h_107 sb .byte ww.toInt.toNat (fun i_ => .int (g i_)) := Ab.other W_107 (Ne.symm nmb)
  have f108_5 : Sta Z h_107 "java/lang/String" "COMPACT_STRINGS" "Z" (.int zc) := SC.wr W_107
  have f108_6 : Sta Z h_107 "jdk/internal/util/Preconditions" "SIOOBE_FORMATTER" "Ljava/util/function/BiFunction;" vF := SF.wr W_107
  have f108_7 : Keep h h_107 [m] := (Keep.refl h [m]).wr W_107 (Or.inl (List.mem_of_getElem? (i := 0) rfl))
  refine ow_aloadN X_107 50 d11_49 rfl rfl rfl ?_
  refine ow_aloadN X_107 51 d11_50 rfl rfl rfl ?_
  refine ow_iconst X_107 52 (0 : Int32) d11_51 rfl rfl ?_
  refine ow_callI X_107 57 86 87 88 89 90 91 92 84 93 15 (κ' := k13) (as := [.int (0 : Int32)]) (S := [.ref m]) (W := 1) rfl rfl rfl rfl rfl rfl rfl rfl rfl rfl rfl (by decide) (by decide) f108_1.1 (C_get (oSt_w X_107) (oSt_n0 X_107) r ed sa (0 : Int32) sz mc f f108_1 f108_2 (by decide) (by have k0 : (0 : Int32).toInt = 0 := rfl; omega) hsz.2 (hel _ (by have k0 : (0 : Int32).toInt = 0 := rfl; omega))) (by decide) (by decide) (Nat.le_of_eq rfl) (by decide) (by decide) pd13 rfl rfl rfl d11_52 rfl ?_
  intro γ v_109 T_109 h_109 X_109 q_109
  obtain ⟨rfl, rfl⟩ := q_109
  show oWP ω γ k11 _ T_109 57 #[.val (.ref m), .val (.ref r), .unset, .unset, .unset, .unset] [.ref sa, .ref m]
  refine ow_cast X_109 60 107 rfl rfl (Ins.self f108_3.1) d11_57 rfl ?_
  intro T_110 X_110
  refine ow_callV X_110 63 125 126 128 127 129 6 (κ' := k19) (as := []) (S := [.ref m]) (W := 1) rfl rfl rfl rfl rfl rfl rfl (by decide) f108_3.1 (C_len (oSt_w X_110) (oSt_n0 X_110) sa sb ww zc g f108_3 f108_4 f108_5 hw hz) (by decide) (by decide) (Nat.le_of_eq rfl) (by decide) (by decide) pd19 rfl rfl rfl d11_60 rfl ?_
  intro γ v_111 T_111 h_111 X_111 q_111
  obtain ⟨wv, rfl, rfl, hwv⟩ := q_111
  show oWP ω γ k11 _ T_111 63 #[.val (.ref m), .val (.ref r), .unset, .unset, .unset, .unset] [.int wv, .ref m]
  refine ow_putF X_111 66 137 71 rfl rfl f108_0.2.2.1 f108_0.1 (Or.inr ⟨oSt_at X_111 138 rfl, rfl, rfl⟩) rfl (ty := .int) (by decide) rfl rfl gm d11_63 rfl ?_
  intro T_112 h_112 X_112 W_112
  have f113_0 : GMR Z h_112 m (.int sz) (.int wv) .null := GMR.set_width (oSt_w X_112) f108_0 W_112
  have f113_1 : ALR Z h_112 r (.ref ed) (.int sz) (.int mc) := f108_1.other W_112 (Ne.symm nmr)
  have f113_2 : oA Z h_112 ed (.object "java/lang/Object") 10 f := f108_2.other W_112 (Ne.symm nme)
  have f113_3 : STR Z h_112 sa (.ref sb) (.int (0 : Int32)) := f108_3.other W_112 (Ne.symm nms)
  have f113_4 : oA Z h_112 sb .byte ww.toInt.toNat (fun i_ => .int (g i_)) := f108_4.other W_112 (Ne.symm nmb)
  have f113_5 : Sta Z h_112 "java/lang/String" "COMPACT_STRINGS" "Z" (.int zc) := f108_5.wr W_112
  have f113_6 : Sta Z h_112 "jdk/internal/util/Preconditions" "SIOOBE_FORMATTER" "Ljava/util/function/BiFunction;" vF := f108_6.wr W_112
  have f113_7 : Keep h h_112 [m] := f108_7.wr W_112 (Or.inl (List.mem_of_getElem? (i := 0) rfl))
  refine ow_iconst X_112 67 (1 : Int32) d11_66 rfl rfl ?_
  refine ow_istoreN X_112 68 (L' := #[.val (.ref m), .val (.ref r), .val (.int (1 : Int32)), .unset, .unset, .unset]) d11_67 rfl rfl ?_
  exact B68 m r ed sa sb sz mc ww zc f g vF wv h _ X_112 (1 : Int32) f113_0 f113_1 f113_2 f113_3 f113_4 f113_5 f113_6 f113_7 gm nmr nme nms nmb hsz hw hz hvF hel hwv (by have k1 : (1 : Int32).toInt = 1 := rfl; omega) rfl
theorem d26_0 : decode prog_14_method_4_code 0 = .ok (.iload_n 1, 1) := by decide +kernel
theorem d26_1 : decode prog_14_method_4_code 1 = .ok (.ifCond .lt 27, 3) := by decide +kernel
theorem d26_4 : decode prog_14_method_4_code 4 = .ok (.iload_n 1, 1) := by decide +kernel
theorem d26_5 : decode prog_14_method_4_code 5 = .ok (.aload_n 0, 1) := by decide +kernel
theorem d26_6 : decode prog_14_method_4_code 6 = .ok (.getfield 40, 3) := by decide +kernel
theorem d26_9 : decode prog_14_method_4_code 9 = .ok (.if_icmp .ge 19, 3) := by decide +kernel
theorem d26_12 : decode prog_14_method_4_code 12 = .ok (.iload_n 2, 1) := by decide +kernel
theorem d26_13 : decode prog_14_method_4_code 13 = .ok (.ifCond .lt 15, 3) := by decide +kernel
theorem d26_16 : decode prog_14_method_4_code 16 = .ok (.iload_n 2, 1) := by decide +kernel
theorem d26_17 : decode prog_14_method_4_code 17 = .ok (.aload_n 0, 1) := by decide +kernel
theorem d26_18 : decode prog_14_method_4_code 18 = .ok (.getfield 31, 3) := by decide +kernel
theorem d26_21 : decode prog_14_method_4_code 21 = .ok (.if_icmp .ge 7, 3) := by decide +kernel
theorem d26_24 : decode prog_14_method_4_code 24 = .ok (.iconst 1, 1) := by decide +kernel
theorem d26_25 : decode prog_14_method_4_code 25 = .ok (.goto 4, 3) := by decide +kernel
theorem d26_28 : decode prog_14_method_4_code 28 = .ok (.iconst 0, 1) := by decide +kernel
theorem d26_29 : decode prog_14_method_4_code 29 = .ok (.ireturn, 1) := by decide +kernel
def k26 : OM := (prog_14_method_4_code, 3, "com/example/muster/muster/model/GridMap", "contains", (some .boolean), { frames := 0, cells := 0, slots := 0, locals := 0 })
theorem pn26 : plainFor (⟨"com/example/muster/muster/model/GridMap", "contains", "(II)Z"⟩ : MethodName) = true := plainFor_of_name (by first | (simp [plainName, overriddenIn]; done) | decide +kernel)
theorem pd26 : parseMethodDescriptor "(II)Z" = some ⟨[.int, .int], (some .boolean)⟩ := by decide +kernel
set_option maxRecDepth 65536 in
set_option maxHeartbeats 4000000 in
theorem C_con {Z : State} {ω : OW} {h : Heap} (hw_ : ∀ d ∈ tables_1, d.before ω.2.2 Z = true) (hn_ : ω.2.1 ≤ h.size) (m fr : Addr) (x y hh w : Int32) (Rm : GMR Z h m (.int hh) (.int w) (.ref fr)) :
    oC Z ω (⟨"com/example/muster/muster/model/GridMap", "contains", "(II)Z"⟩ : MethodName) k26 [] #[.ref m, .int x, .int y] h (fun v h' => v = some (.int (if 0 ≤ x.toInt ∧ x.toInt < w.toInt ∧ 0 ≤ y.toInt ∧ y.toInt < hh.toInt then 1 else 0)) ∧ h = h') := by
  refine oC_of hw_ hn_ pn26 rfl rfl (L := #[.val (.ref m), .val (.int x), .val (.int y)]) (fun m => by first | (simp [entryFrame, mkF, argsToLocals, Value.category, k26]; done) | rfl) ?_
  intro γ T X
  refine ow_iloadN X 1 d26_0 rfl rfl ?_
  refine ow_if_lt X 4 28 d26_1 rfl rfl (fun (c1 : x.toInt < 0) => ?_) (fun (c1 : 0 ≤ x.toInt) => ?_)
  · refine ow_iconst X 29 (0 : Int32) d26_28 rfl rfl ?_
    refine ow_retZ X rfl d26_29 (by decide) (by decide) (by decide) ?_
    have hF : ¬ (0 ≤ x.toInt ∧ x.toInt < w.toInt ∧ 0 ≤ y.toInt ∧ y.toInt < hh.toInt) := fun q => by omega
    exact ⟨by rw [if_neg hF], rfl⟩
  · refine ow_iloadN X 5 d26_4 rfl rfl ?_
    refine ow_aloadN X 6 d26_5 rfl rfl rfl ?_
    refine ow_getF X 9 137 rfl rfl Rm.2.2.1 d26_6 rfl ?_
    intro T_114 X_114
    refine ow_icmp_ge X_114 12 28 d26_9 rfl rfl (fun (c9 : w.toInt ≤ x.toInt) => ?_) (fun (c9 : x.toInt < w.toInt) => ?_)
    · refine ow_iconst X_114 29 (0 : Int32) d26_28 rfl rfl ?_
      refine ow_retZ X_114 rfl d26_29 (by decide) (by decide) (by decide) ?_
      have hF : ¬ (0 ≤ x.toInt ∧ x.toInt < w.toInt ∧ 0 ≤ y.toInt ∧ y.toInt < hh.toInt) := fun q => by omega
      exact ⟨by rw [if_neg hF], rfl⟩
    · refine ow_iloadN X_114 13 d26_12 rfl rfl ?_
      refine ow_if_lt X_114 16 28 d26_13 rfl rfl (fun (c13 : y.toInt < 0) => ?_) (fun (c13 : 0 ≤ y.toInt) => ?_)
      · refine ow_iconst X_114 29 (0 : Int32) d26_28 rfl rfl ?_
        refine ow_retZ X_114 rfl d26_29 (by decide) (by decide) (by decide) ?_
        have hF : ¬ (0 ≤ x.toInt ∧ x.toInt < w.toInt ∧ 0 ≤ y.toInt ∧ y.toInt < hh.toInt) := fun q => by omega
        exact ⟨by rw [if_neg hF], rfl⟩
      · refine ow_iloadN X_114 17 d26_16 rfl rfl ?_
        refine ow_aloadN X_114 18 d26_17 rfl rfl rfl ?_
        refine ow_getF X_114 21 123 rfl rfl Rm.2.1 d26_18 rfl ?_
        intro T_115 X_115
        refine ow_icmp_ge X_115 24 28 d26_21 rfl rfl (fun (c21 : hh.toInt ≤ y.toInt) => ?_) (fun (c21 : y.toInt < hh.toInt) => ?_)
        · refine ow_iconst X_115 29 (0 : Int32) d26_28 rfl rfl ?_
          refine ow_retZ X_115 rfl d26_29 (by decide) (by decide) (by decide) ?_
          have hF : ¬ (0 ≤ x.toInt ∧ x.toInt < w.toInt ∧ 0 ≤ y.toInt ∧ y.toInt < hh.toInt) := fun q => by omega
          exact ⟨by rw [if_neg hF], rfl⟩
        · refine ow_iconst X_115 25 (1 : Int32) d26_24 rfl rfl ?_
          refine ow_goto X_115 29 d26_25 rfl ?_
          refine ow_retZ X_115 rfl d26_29 (by decide) (by decide) (by decide) ?_
          exact ⟨by rw [if_pos ⟨by omega, by omega, by omega, by omega⟩], rfl⟩
def k0 : OM := (code, maxLocals, "com/example/muster/muster/model/GridMapContainsPinLaw", "law", ret, room_1)
theorem pn0 : plainFor Jvm.Pilot.@@N@@.x = true := plainFor_of_name (by first | (simp [plainName, overriddenIn]; done) | decide +kernel)
theorem pd0 : parseMethodDescriptor "(IIII)Z" = some ⟨[.int, .int, .int, .int], (some .boolean)⟩ := by decide +kernel
set_option maxRecDepth 65536 in
set_option maxHeartbeats 4000000 in
theorem B72 {Z : State} {ω : OW} {γ : OG} {T : State} {h : Heap} (X : oSt Z ω γ k0 T h 10 200) (pw ph x y w hh sz mc zc : Int32) (r ed sa sb : Addr) (f : Nat → Value) (g : Nat → Int32) (vF : Value) (Rr : ALR Z h r (.ref ed) (.int sz) (.int mc)) (Ae : oA Z h ed (.object "java/lang/Object") 10 f) (Rs : STR Z h sa (.ref sb) (.int (0 : Int32))) (Ab : oA Z h sb .byte w.toInt.toNat (fun i_ => .int (g i_))) (SC : Sta Z h "java/lang/String" "COMPACT_STRINGS" "Z" (.int zc)) (SF : Sta Z h "jdk/internal/util/Preconditions" "SIOOBE_FORMATTER" "Ljava/util/function/BiFunction;" vF) (hw : 1 ≤ w.toInt ∧ w.toInt ≤ 3) (hhh : 1 ≤ hh.toInt ∧ hh.toInt ≤ 3) (hsz : sz.toInt = hh.toInt) (hz : zc.toInt ≠ 0) (hvF : vF.isRef = true) (hel : ∀ i : Nat, (i : Int) < sz.toInt → f i = .ref sa) :
    oWP ω γ k0 (fun v _ => v = some (.int 1)) T 72 #[.val (.int pw), .val (.int ph), .val (.int x), .val (.int y), .val (.int w), .val (.int hh), .val (.ref sa), .val (.ref r), .unset, .unset] [] := by
  refine ow_new X 75 70 71 72 rfl rfl rfl rfl at_72 rfl (by decide) (by decide) ?_
  intro T_116 h_116 a_116 q_116 X_116 E_116 A_116 D_116 g_116
  have ne_r_a_116 : r ≠ a_116 := by rw [q_116]; exact Nat.ne_of_lt Rr.lt
  have ne_ed_a_116 : ed ≠ a_116 := by rw [q_116]; exact Nat.ne_of_lt Ae.lt
  have ne_sa_a_116 : sa ≠ a_116 := by rw [q_116]; exact Nat.ne_of_lt Rs.lt
  have ne_sb_a_116 : sb ≠ a_116 := by rw [q_116]; exact Nat.ne_of_lt Ab.lt
  have f117_0 : ALR Z h_116 r (.ref ed) (.int sz) (.int mc) := Rr.ext E_116
  have f117_1 : oA Z h_116 ed (.object "java/lang/Object") 10 f := Ae.ext E_116
  have f117_2 : STR Z h_116 sa (.ref sb) (.int (0 : Int32)) := Rs.ext E_116
  have f117_3 : oA Z h_116 sb .byte w.toInt.toNat (fun i_ => .int (g i_)) := Ab.ext E_116
  have f117_4 : Sta Z h_116 "java/lang/String" "COMPACT_STRINGS" "Z" (.int zc) := Sta.ext E_116 SC
  have f117_5 : Sta Z h_116 "jdk/internal/util/Preconditions" "SIOOBE_FORMATTER" "Ljava/util/function/BiFunction;" vF := Sta.ext E_116 SF
  have R_116 : GMR Z h_116 a_116 (.int (0 : Int32)) (.int (0 : Int32)) .null := ⟨A_116, D_116 (Or.inr (oSt_at X_116 124 rfl)) (ty := .int) (by decide), D_116 (Or.inr (oSt_at X_116 138 rfl)) (ty := .int) (by decide), D_116 (Or.inr (oSt_at X_116 144 rfl)) (ty := (.array .boolean)) (by decide)⟩
  refine ow_dup X_116 76 at_75 rfl rfl ?_
  refine ow_aload X_116 78 at_76 rfl rfl rfl ?_
  refine ow_callC X_116 81 73 74 72 75 (κ' := k11) (as := [.ref r]) (S := [.ref a_116]) (W := 1) rfl rfl rfl rfl rfl rfl rfl (by decide) (C_gmi (oSt_w X_116) (oSt_n0 X_116) a_116 r ed sa sb sz mc w zc f g vF R_116 f117_0 f117_1 f117_2 f117_3 f117_4 f117_5 g_116 (Ne.symm ne_r_a_116) (Ne.symm ne_ed_a_116) (Ne.symm ne_sa_a_116) (Ne.symm ne_sb_a_116) (by omega) hw hz hvF hel) (by decide) (by decide) (Nat.le_of_eq rfl) (by decide) (by decide) pd11 rfl rfl rfl at_78 rfl ?_
  intro γ v_118 T_118 h_118 X_118 q_118
  obtain ⟨rfl, wv, fr, Kg, hwv, Rg⟩ := q_118
  show oWP ω γ k0 _ T_118 81 #[.val (.int pw), .val (.int ph), .val (.int x), .val (.int y), .val (.int w), .val (.int hh), .val (.ref sa), .val (.ref r), .unset, .unset] [.ref a_116]
  refine ow_astore X_118 83 (L' := #[.val (.int pw), .val (.int ph), .val (.int x), .val (.int y), .val (.int w), .val (.int hh), .val (.ref sa), .val (.ref r), .val (.ref a_116), .unset]) at_81 rfl rfl rfl ?_
  refine ow_iconst X_118 84 (0 : Int32) at_83 rfl rfl ?_
  refine ow_istore X_118 86 (L' := #[.val (.int pw), .val (.int ph), .val (.int x), .val (.int y), .val (.int w), .val (.int hh), .val (.ref sa), .val (.ref r), .val (.ref a_116), .val (.int (0 : Int32))]) at_84 rfl rfl ?_
  refine ow_iloadN X_118 87 at_86 rfl rfl ?_
  refine ow_if_lt X_118 90 109 at_87 rfl rfl (fun (c87 : x.toInt < 0) => ?_) (fun (c87 : 0 ≤ x.toInt) => ?_)
  · refine ow_aload X_118 111 at_109 rfl rfl rfl ?_
    refine ow_iloadN X_118 112 at_111 rfl rfl ?_
    refine ow_iloadN X_118 113 at_112 rfl rfl ?_
    refine ow_callV X_118 116 164 165 167 166 168 72 (κ' := k26) (as := [.int x, .int y]) (S := []) (W := 0) rfl rfl rfl rfl rfl rfl rfl (by decide) Rg.1 (C_con (oSt_w X_118) (oSt_n0 X_118) a_116 fr x y sz wv Rg) (by decide) (by decide) (Nat.le_of_eq rfl) (by decide) (by decide) pd26 rfl rfl rfl at_113 rfl ?_
    intro γ v_119 T_119 h_119 X_119 q_119
    obtain ⟨rfl, rfl⟩ := q_119
    have hP : ¬ (0 ≤ x.toInt ∧ x.toInt < wv.toInt ∧ 0 ≤ y.toInt ∧ y.toInt < sz.toInt) := fun q => by omega
    rw [if_neg hP]
    show oWP ω γ k0 _ T_119 116 #[.val (.int pw), .val (.int ph), .val (.int x), .val (.int y), .val (.int w), .val (.int hh), .val (.ref sa), .val (.ref r), .val (.ref a_116), .val (.int (0 : Int32))] [.int (0 : Int32)]
    refine ow_iload X_119 118 at_116 rfl rfl ?_
    refine ow_icmp_ne X_119 121 125 at_118 rfl rfl (fun (c118 : 0 ≠ 0) => absurd rfl c118) (fun (c118 : 0 = 0) => ?_)
    refine ow_iconst X_119 122 (1 : Int32) at_121 rfl rfl ?_
    refine ow_goto X_119 126 at_122 rfl ?_
    refine ow_retZ X_119 rfl at_126 (by decide) (by decide) (by decide) ?_
    rfl
  · refine ow_iloadN X_118 91 at_90 rfl rfl ?_
    refine ow_iload X_118 93 at_91 rfl rfl ?_
    refine ow_icmp_ge X_118 96 109 at_93 rfl rfl (fun (c93 : w.toInt ≤ x.toInt) => ?_) (fun (c93 : x.toInt < w.toInt) => ?_)
    · refine ow_aload X_118 111 at_109 rfl rfl rfl ?_
      refine ow_iloadN X_118 112 at_111 rfl rfl ?_
      refine ow_iloadN X_118 113 at_112 rfl rfl ?_
      refine ow_callV X_118 116 164 165 167 166 168 72 (κ' := k26) (as := [.int x, .int y]) (S := []) (W := 0) rfl rfl rfl rfl rfl rfl rfl (by decide) Rg.1 (C_con (oSt_w X_118) (oSt_n0 X_118) a_116 fr x y sz wv Rg) (by decide) (by decide) (Nat.le_of_eq rfl) (by decide) (by decide) pd26 rfl rfl rfl at_113 rfl ?_
      intro γ v_120 T_120 h_120 X_120 q_120
      obtain ⟨rfl, rfl⟩ := q_120
      have hP : ¬ (0 ≤ x.toInt ∧ x.toInt < wv.toInt ∧ 0 ≤ y.toInt ∧ y.toInt < sz.toInt) := fun q => by omega
      rw [if_neg hP]
      show oWP ω γ k0 _ T_120 116 #[.val (.int pw), .val (.int ph), .val (.int x), .val (.int y), .val (.int w), .val (.int hh), .val (.ref sa), .val (.ref r), .val (.ref a_116), .val (.int (0 : Int32))] [.int (0 : Int32)]
      refine ow_iload X_120 118 at_116 rfl rfl ?_
      refine ow_icmp_ne X_120 121 125 at_118 rfl rfl (fun (c118 : 0 ≠ 0) => absurd rfl c118) (fun (c118 : 0 = 0) => ?_)
      refine ow_iconst X_120 122 (1 : Int32) at_121 rfl rfl ?_
      refine ow_goto X_120 126 at_122 rfl ?_
      refine ow_retZ X_120 rfl at_126 (by decide) (by decide) (by decide) ?_
      rfl
    · refine ow_iloadN X_118 97 at_96 rfl rfl ?_
      refine ow_if_lt X_118 100 109 at_97 rfl rfl (fun (c97 : y.toInt < 0) => ?_) (fun (c97 : 0 ≤ y.toInt) => ?_)
      · refine ow_aload X_118 111 at_109 rfl rfl rfl ?_
        refine ow_iloadN X_118 112 at_111 rfl rfl ?_
        refine ow_iloadN X_118 113 at_112 rfl rfl ?_
        refine ow_callV X_118 116 164 165 167 166 168 72 (κ' := k26) (as := [.int x, .int y]) (S := []) (W := 0) rfl rfl rfl rfl rfl rfl rfl (by decide) Rg.1 (C_con (oSt_w X_118) (oSt_n0 X_118) a_116 fr x y sz wv Rg) (by decide) (by decide) (Nat.le_of_eq rfl) (by decide) (by decide) pd26 rfl rfl rfl at_113 rfl ?_
        intro γ v_121 T_121 h_121 X_121 q_121
        obtain ⟨rfl, rfl⟩ := q_121
        have hP : ¬ (0 ≤ x.toInt ∧ x.toInt < wv.toInt ∧ 0 ≤ y.toInt ∧ y.toInt < sz.toInt) := fun q => by omega
        rw [if_neg hP]
        show oWP ω γ k0 _ T_121 116 #[.val (.int pw), .val (.int ph), .val (.int x), .val (.int y), .val (.int w), .val (.int hh), .val (.ref sa), .val (.ref r), .val (.ref a_116), .val (.int (0 : Int32))] [.int (0 : Int32)]
        refine ow_iload X_121 118 at_116 rfl rfl ?_
        refine ow_icmp_ne X_121 121 125 at_118 rfl rfl (fun (c118 : 0 ≠ 0) => absurd rfl c118) (fun (c118 : 0 = 0) => ?_)
        refine ow_iconst X_121 122 (1 : Int32) at_121 rfl rfl ?_
        refine ow_goto X_121 126 at_122 rfl ?_
        refine ow_retZ X_121 rfl at_126 (by decide) (by decide) (by decide) ?_
        rfl
      · refine ow_iloadN X_118 101 at_100 rfl rfl ?_
        refine ow_iload X_118 103 at_101 rfl rfl ?_
        refine ow_icmp_ge X_118 106 109 at_103 rfl rfl (fun (c103 : hh.toInt ≤ y.toInt) => ?_) (fun (c103 : y.toInt < hh.toInt) => ?_)
        · refine ow_aload X_118 111 at_109 rfl rfl rfl ?_
          refine ow_iloadN X_118 112 at_111 rfl rfl ?_
          refine ow_iloadN X_118 113 at_112 rfl rfl ?_
          refine ow_callV X_118 116 164 165 167 166 168 72 (κ' := k26) (as := [.int x, .int y]) (S := []) (W := 0) rfl rfl rfl rfl rfl rfl rfl (by decide) Rg.1 (C_con (oSt_w X_118) (oSt_n0 X_118) a_116 fr x y sz wv Rg) (by decide) (by decide) (Nat.le_of_eq rfl) (by decide) (by decide) pd26 rfl rfl rfl at_113 rfl ?_
          intro γ v_122 T_122 h_122 X_122 q_122
          obtain ⟨rfl, rfl⟩ := q_122
          have hP : ¬ (0 ≤ x.toInt ∧ x.toInt < wv.toInt ∧ 0 ≤ y.toInt ∧ y.toInt < sz.toInt) := fun q => by omega
          rw [if_neg hP]
          show oWP ω γ k0 _ T_122 116 #[.val (.int pw), .val (.int ph), .val (.int x), .val (.int y), .val (.int w), .val (.int hh), .val (.ref sa), .val (.ref r), .val (.ref a_116), .val (.int (0 : Int32))] [.int (0 : Int32)]
          refine ow_iload X_122 118 at_116 rfl rfl ?_
          refine ow_icmp_ne X_122 121 125 at_118 rfl rfl (fun (c118 : 0 ≠ 0) => absurd rfl c118) (fun (c118 : 0 = 0) => ?_)
          refine ow_iconst X_122 122 (1 : Int32) at_121 rfl rfl ?_
          refine ow_goto X_122 126 at_122 rfl ?_
          refine ow_retZ X_122 rfl at_126 (by decide) (by decide) (by decide) ?_
          rfl
        · refine ow_iconst X_118 107 (1 : Int32) at_106 rfl rfl ?_
          refine ow_istore X_118 109 (L' := #[.val (.int pw), .val (.int ph), .val (.int x), .val (.int y), .val (.int w), .val (.int hh), .val (.ref sa), .val (.ref r), .val (.ref a_116), .val (.int (1 : Int32))]) at_107 rfl rfl ?_
          refine ow_aload X_118 111 at_109 rfl rfl rfl ?_
          refine ow_iloadN X_118 112 at_111 rfl rfl ?_
          refine ow_iloadN X_118 113 at_112 rfl rfl ?_
          refine ow_callV X_118 116 164 165 167 166 168 72 (κ' := k26) (as := [.int x, .int y]) (S := []) (W := 0) rfl rfl rfl rfl rfl rfl rfl (by decide) Rg.1 (C_con (oSt_w X_118) (oSt_n0 X_118) a_116 fr x y sz wv Rg) (by decide) (by decide) (Nat.le_of_eq rfl) (by decide) (by decide) pd26 rfl rfl rfl at_113 rfl ?_
          intro γ v_123 T_123 h_123 X_123 q_123
          obtain ⟨rfl, rfl⟩ := q_123
          have hP : 0 ≤ x.toInt ∧ x.toInt < wv.toInt ∧ 0 ≤ y.toInt ∧ y.toInt < sz.toInt := ⟨by omega, by omega, by omega, by omega⟩
          rw [if_pos hP]
          show oWP ω γ k0 _ T_123 116 #[.val (.int pw), .val (.int ph), .val (.int x), .val (.int y), .val (.int w), .val (.int hh), .val (.ref sa), .val (.ref r), .val (.ref a_116), .val (.int (1 : Int32))] [.int (1 : Int32)]
          refine ow_iload X_123 118 at_116 rfl rfl ?_
          refine ow_icmp_ne X_123 121 125 at_118 rfl rfl (fun (c118 : 1 ≠ 1) => absurd rfl c118) (fun (c118 : 1 = 1) => ?_)
          refine ow_iconst X_123 122 (1 : Int32) at_121 rfl rfl ?_
          refine ow_goto X_123 126 at_122 rfl ?_
          refine ow_retZ X_123 rfl at_126 (by decide) (by decide) (by decide) ?_
          rfl
set_option maxRecDepth 65536 in
set_option maxHeartbeats 4000000 in
theorem C_law {Z : State} {ω : OW} {h : Heap} (hw_ : ∀ d ∈ tables_1, d.before ω.2.2 Z = true) (hn_ : ω.2.1 ≤ h.size) (pw ph x y : Int32) (xD : Addr) (zc : Int32) (fD : Nat → Value) (vF : Value) (Ad : oA Z h xD (.object "java/lang/Object") 0 fD) (SD : Sta Z h "java/util/ArrayList" "DEFAULTCAPACITY_EMPTY_ELEMENTDATA" "[Ljava/lang/Object;" (.ref xD)) (SC : Sta Z h "java/lang/String" "COMPACT_STRINGS" "Z" (.int zc)) (SF : Sta Z h "jdk/internal/util/Preconditions" "SIOOBE_FORMATTER" "Ljava/util/function/BiFunction;" vF) (hz : zc.toInt ≠ 0) (hvF : vF.isRef = true) :
    oCH Z ω Jvm.Pilot.@@N@@.x k0 tables_1 #[.int pw, .int ph, .int x, .int y] h (fun v _ => v = some (.int 1)) := by
  refine oCH_of hw_ hn_ pn0 rfl rfl (L := #[.val (.int pw), .val (.int ph), .val (.int x), .val (.int y), .unset, .unset, .unset, .unset, .unset, .unset]) (fun m => by first | (simp [entryFrame, mkF, argsToLocals, Value.category, k0, maxLocals]; done) | rfl) ?_
  intro γ T X HH
  refine ow_iconst X 1 (1 : Int32) at_0 rfl rfl ?_
  refine ow_iloadN X 2 at_1 rfl rfl ?_
  refine ow_ldcI X 4 0 rfl rfl at_2 rfl ?_
  refine ow_iand X 5 at_4 rfl ?_
  refine ow_iconst X 6 (3 : Int32) at_5 rfl rfl ?_
  refine ow_irem X 7 at_6 rfl (by decide) ?_
  refine ow_iadd X 8 at_7 rfl ?_
  refine ow_istore X 10 (L' := #[.val (.int pw), .val (.int ph), .val (.int x), .val (.int y), .val (.int ((1 : Int32) + ((pw &&& (2147483647 : Int32)) % (3 : Int32)))), .unset, .unset, .unset, .unset, .unset]) at_8 rfl rfl ?_
  have hw := own_13 pw
  generalize (1 : Int32) + ((pw &&& (2147483647 : Int32)) % (3 : Int32)) = w at hw ⊢
  refine ow_iconst X 11 (1 : Int32) at_10 rfl rfl ?_
  refine ow_iloadN X 12 at_11 rfl rfl ?_
  refine ow_ldcI X 14 0 rfl rfl at_12 rfl ?_
  refine ow_iand X 15 at_14 rfl ?_
  refine ow_iconst X 16 (3 : Int32) at_15 rfl rfl ?_
  refine ow_irem X 17 at_16 rfl (by decide) ?_
  refine ow_iadd X 18 at_17 rfl ?_
  refine ow_istore X 20 (L' := #[.val (.int pw), .val (.int ph), .val (.int x), .val (.int y), .val (.int w), .val (.int ((1 : Int32) + ((ph &&& (2147483647 : Int32)) % (3 : Int32)))), .unset, .unset, .unset, .unset]) at_18 rfl rfl ?_
  have hhh := own_13 ph
  generalize (1 : Int32) + ((ph &&& (2147483647 : Int32)) % (3 : Int32)) = hh at hhh ⊢
  refine ow_iload X 22 at_20 rfl rfl ?_
  refine ow_callSH X 25 1 2 3 4 (κ' := k1) (as := [.int w]) (S := []) (W := 0) rfl rfl rfl rfl rfl (by decide) (C_row (oSt_w X) (oSt_n0 X) w hw) (own_EW (oSt_w X)) HH (by decide) (by decide) (Nat.le_of_eq rfl) (by decide) (by decide) pd1 rfl rfl rfl at_22 rfl ?_
  intro γ v_124 T_124 h_124 X_124 q_124
  obtain ⟨sa, sb, g, rfl, K124, Rs, Ab⟩ := q_124
  have f125_0 : oA Z h_124 xD (.object "java/lang/Object") 0 fD := Ad.keep K124 nin0
  have f125_1 : Sta Z h_124 "java/util/ArrayList" "DEFAULTCAPACITY_EMPTY_ELEMENTDATA" "[Ljava/lang/Object;" (.ref xD) := oSta_keep SD K124 all0
  have f125_2 : Sta Z h_124 "java/lang/String" "COMPACT_STRINGS" "Z" (.int zc) := oSta_keep SC K124 all0
  have f125_3 : Sta Z h_124 "jdk/internal/util/Preconditions" "SIOOBE_FORMATTER" "Ljava/util/function/BiFunction;" vF := oSta_keep SF K124 all0
  show oWP ω γ k0 _ T_124 25 #[.val (.int pw), .val (.int ph), .val (.int x), .val (.int y), .val (.int w), .val (.int hh), .unset, .unset, .unset, .unset] [.ref sa]
  refine ow_astore X_124 27 (L' := #[.val (.int pw), .val (.int ph), .val (.int x), .val (.int y), .val (.int w), .val (.int hh), .val (.ref sa), .unset, .unset, .unset]) at_25 rfl rfl rfl ?_
  refine ow_new X_124 30 13 14 15 rfl rfl rfl rfl at_27 rfl (by decide) (by decide) ?_
  intro T_126 h_126 a_126 q_126 X_126 E_126 A_126 D_126 g_126
  have ne_xD_a_126 : xD ≠ a_126 := by rw [q_126]; exact Nat.ne_of_lt f125_0.lt
  have ne_sa_a_126 : sa ≠ a_126 := by rw [q_126]; exact Nat.ne_of_lt Rs.lt
  have ne_sb_a_126 : sb ≠ a_126 := by rw [q_126]; exact Nat.ne_of_lt Ab.lt
  have f127_0 : oA Z h_126 xD (.object "java/lang/Object") 0 fD := f125_0.ext E_126
  have f127_1 : Sta Z h_126 "java/util/ArrayList" "DEFAULTCAPACITY_EMPTY_ELEMENTDATA" "[Ljava/lang/Object;" (.ref xD) := Sta.ext E_126 f125_1
  have f127_2 : Sta Z h_126 "java/lang/String" "COMPACT_STRINGS" "Z" (.int zc) := Sta.ext E_126 f125_2
  have f127_3 : Sta Z h_126 "jdk/internal/util/Preconditions" "SIOOBE_FORMATTER" "Ljava/util/function/BiFunction;" vF := Sta.ext E_126 f125_3
  have f127_4 : STR Z h_126 sa (.ref sb) (.int (0 : Int32)) := Rs.ext E_126
  have f127_5 : oA Z h_126 sb .byte w.toInt.toNat (fun i_ => .int (g i_)) := Ab.ext E_126
  have R_126 : ALR Z h_126 a_126 .null (.int (0 : Int32)) (.int (0 : Int32)) := ⟨A_126, D_126 (Or.inl (oSt_at X_126 38 rfl)) (ty := (.array (.object "java/lang/Object"))) (by decide), D_126 (Or.inl (oSt_at X_126 47 rfl)) (ty := .int) (by decide), D_126 (Or.inl (oSt_at X_126 35 rfl)) (ty := .int) (by decide)⟩
  refine ow_dup X_126 31 at_30 rfl rfl ?_
  refine ow_callC X_126 34 16 17 15 18 (κ' := k2) (as := []) (S := [.ref a_126]) (W := 1) rfl rfl rfl rfl rfl rfl rfl (by decide) (C_ali (oSt_w X_126) (oSt_n0 X_126) a_126 xD R_126 f127_1 g_126) (by decide) (by decide) (Nat.le_of_eq rfl) (by decide) (by decide) pd2 rfl rfl rfl at_31 rfl ?_
  intro γ v_128 T_128 h_128 X_128 q_128
  obtain ⟨rfl, K128, R128⟩ := q_128
  have f129_0 : oA Z h_128 xD (.object "java/lang/Object") 0 fD := f127_0.keep K128 (ninS ne_xD_a_126 nin0)
  have f129_1 : Sta Z h_128 "java/util/ArrayList" "DEFAULTCAPACITY_EMPTY_ELEMENTDATA" "[Ljava/lang/Object;" (.ref xD) := oSta_keep f127_1 K128 (allS (oExS R_126.1) all0)
  have f129_2 : Sta Z h_128 "java/lang/String" "COMPACT_STRINGS" "Z" (.int zc) := oSta_keep f127_2 K128 (allS (oExS R_126.1) all0)
  have f129_3 : Sta Z h_128 "jdk/internal/util/Preconditions" "SIOOBE_FORMATTER" "Ljava/util/function/BiFunction;" vF := oSta_keep f127_3 K128 (allS (oExS R_126.1) all0)
  have f129_4 : STR Z h_128 sa (.ref sb) (.int (0 : Int32)) := f127_4.keep K128 (ninS ne_sa_a_126 nin0)
  have f129_5 : oA Z h_128 sb .byte w.toInt.toNat (fun i_ => .int (g i_)) := f127_5.keep K128 (ninS ne_sb_a_126 nin0)
  show oWP ω γ k0 _ T_128 34 #[.val (.int pw), .val (.int ph), .val (.int x), .val (.int y), .val (.int w), .val (.int hh), .val (.ref sa), .unset, .unset, .unset] [.ref a_126]
  refine ow_astore X_128 36 (L' := #[.val (.int pw), .val (.int ph), .val (.int x), .val (.int y), .val (.int w), .val (.int hh), .val (.ref sa), .val (.ref a_126), .unset, .unset]) at_34 rfl rfl rfl ?_
  refine ow_aload X_128 38 at_36 rfl rfl rfl ?_
  refine ow_aload X_128 40 at_38 rfl rfl rfl ?_
  refine ow_callV X_128 43 39 40 42 41 43 15 (κ' := k6) (as := [.ref sa]) (S := []) (W := 0) rfl rfl rfl rfl rfl rfl rfl (by decide) R128.1 (C_addG (oSt_w X_128) (oSt_n0 X_128) a_126 sa xD (0 : Int32) fD R128 f129_0 f129_1 f129_4.1 g_126 (Ne.symm ne_xD_a_126)) (by decide) (by decide) (Nat.le_of_eq rfl) (by decide) (by decide) pd6 rfl rfl rfl at_40 rfl ?_
  intro γ v_130 T_130 h_130 X_130 q_130
  obtain ⟨rfl, ed, K130, gne, nre, gh130, R130, A130, O130⟩ := q_130
  have ne_xD_ed : xD ≠ ed := Nat.ne_of_lt (Nat.lt_of_lt_of_le f129_0.lt gh130)
  have ne_sa_ed : sa ≠ ed := Nat.ne_of_lt (Nat.lt_of_lt_of_le f129_4.lt gh130)
  have ne_sb_ed : sb ≠ ed := Nat.ne_of_lt (Nat.lt_of_lt_of_le f129_5.lt gh130)
  have f131_0 : oA Z h_130 xD (.object "java/lang/Object") 0 fD := f129_0.keep K130 (ninS ne_xD_a_126 nin0)
  have f131_1 : Sta Z h_130 "java/util/ArrayList" "DEFAULTCAPACITY_EMPTY_ELEMENTDATA" "[Ljava/lang/Object;" (.ref xD) := oSta_keep f129_1 K130 (allS (oExS R128.1) all0)
  have f131_2 : Sta Z h_130 "java/lang/String" "COMPACT_STRINGS" "Z" (.int zc) := oSta_keep f129_2 K130 (allS (oExS R128.1) all0)
  have f131_3 : Sta Z h_130 "jdk/internal/util/Preconditions" "SIOOBE_FORMATTER" "Ljava/util/function/BiFunction;" vF := oSta_keep f129_3 K130 (allS (oExS R128.1) all0)
  have f131_4 : STR Z h_130 sa (.ref sb) (.int (0 : Int32)) := f129_4.keep K130 (ninS ne_sa_a_126 nin0)
  have f131_5 : oA Z h_130 sb .byte w.toInt.toNat (fun i_ => .int (g i_)) := f129_5.keep K130 (ninS ne_sb_a_126 nin0)
  show oWP ω γ k0 _ T_130 43 #[.val (.int pw), .val (.int ph), .val (.int x), .val (.int y), .val (.int w), .val (.int hh), .val (.ref sa), .val (.ref a_126), .unset, .unset] [.int (1 : Int32)]
  refine ow_pop X_130 44 at_43 rfl rfl ?_
  refine ow_iload X_130 46 at_44 rfl rfl ?_
  refine ow_iconst X_130 47 (2 : Int32) at_46 rfl rfl ?_
  refine ow_icmp_lt X_130 50 58 at_47 rfl rfl (fun (c47 : hh.toInt < 2) => ?_) (fun (c47 : 2 ≤ hh.toInt) => ?_)
  · refine ow_iload X_130 60 at_58 rfl rfl ?_
    refine ow_iconst X_130 61 (3 : Int32) at_60 rfl rfl ?_
    refine ow_icmp_lt X_130 64 72 at_61 rfl rfl (fun (c61 : hh.toInt < 3) => ?_) (fun (c61 : 3 ≤ hh.toInt) => by exfalso; omega)
    have ez : ((0 : Int32) + (1 : Int32)).toInt = 1 := rfl
    have hel : ∀ i : Nat, (i : Int) < ((0 : Int32) + (1 : Int32)).toInt → (own_f1 sa (0 : Int32).toInt.toNat own_f0) i = .ref sa := by
      intro i hi
      have : i = 0 := by omega
      rcases this with rfl <;> rfl
    exact B72 (oSt_mono X_130 (by decide) (by decide)) pw ph x y w hh ((0 : Int32) + (1 : Int32)) ((0 : Int32) + (1 : Int32)) zc a_126 ed sa sb _ g vF R130 A130 f131_4 f131_5 f131_2 f131_3 hw hhh (by omega) hz hvF hel
  · refine ow_aload X_130 52 at_50 rfl rfl rfl ?_
    refine ow_aload X_130 54 at_52 rfl rfl rfl ?_
    refine ow_callV X_130 57 39 40 42 41 43 15 (κ' := k6) (as := [.ref sa]) (S := []) (W := 0) rfl rfl rfl rfl rfl rfl rfl (by decide) R130.1 (C_addN (oSt_w X_130) (oSt_n0 X_130) a_126 sa ed ((0 : Int32) + (1 : Int32)) ((0 : Int32) + (1 : Int32)) (own_f1 sa (0 : Int32).toInt.toNat own_f0) R130 A130 O130 f131_4.1 g_126 gne nre (by decide) (by decide)) (by decide) (by decide) (Nat.le_of_eq rfl) (by decide) (by decide) pd6 rfl rfl rfl at_54 rfl ?_
    intro γ v_132 T_132 h_132 X_132 q_132
    obtain ⟨rfl, K132, R132, A132, O132⟩ := q_132
    have f133_0 : oA Z h_132 xD (.object "java/lang/Object") 0 fD := f131_0.keep K132 (ninS ne_xD_a_126 (ninS ne_xD_ed nin0))
    have f133_1 : Sta Z h_132 "java/util/ArrayList" "DEFAULTCAPACITY_EMPTY_ELEMENTDATA" "[Ljava/lang/Object;" (.ref xD) := oSta_keep f131_1 K132 (allS (oExS R130.1) (allS (oArS A130) all0))
    have f133_2 : Sta Z h_132 "java/lang/String" "COMPACT_STRINGS" "Z" (.int zc) := oSta_keep f131_2 K132 (allS (oExS R130.1) (allS (oArS A130) all0))
    have f133_3 : Sta Z h_132 "jdk/internal/util/Preconditions" "SIOOBE_FORMATTER" "Ljava/util/function/BiFunction;" vF := oSta_keep f131_3 K132 (allS (oExS R130.1) (allS (oArS A130) all0))
    have f133_4 : STR Z h_132 sa (.ref sb) (.int (0 : Int32)) := f131_4.keep K132 (ninS ne_sa_a_126 (ninS ne_sa_ed nin0))
    have f133_5 : oA Z h_132 sb .byte w.toInt.toNat (fun i_ => .int (g i_)) := f131_5.keep K132 (ninS ne_sb_a_126 (ninS ne_sb_ed nin0))
    show oWP ω γ k0 _ T_132 57 #[.val (.int pw), .val (.int ph), .val (.int x), .val (.int y), .val (.int w), .val (.int hh), .val (.ref sa), .val (.ref a_126), .unset, .unset] [.int (1 : Int32)]
    refine ow_pop X_132 58 at_57 rfl rfl ?_
    refine ow_iload X_132 60 at_58 rfl rfl ?_
    refine ow_iconst X_132 61 (3 : Int32) at_60 rfl rfl ?_
    refine ow_icmp_lt X_132 64 72 at_61 rfl rfl (fun (c61 : hh.toInt < 3) => ?_) (fun (c61 : 3 ≤ hh.toInt) => ?_)
    · have ez : (((0 : Int32) + (1 : Int32)) + (1 : Int32)).toInt = 2 := rfl
      have hel : ∀ i : Nat, (i : Int) < (((0 : Int32) + (1 : Int32)) + (1 : Int32)).toInt → (own_f1 sa ((0 : Int32) + (1 : Int32)).toInt.toNat (own_f1 sa (0 : Int32).toInt.toNat own_f0)) i = .ref sa := by
        intro i hi
        have : i = 0 ∨ i = 1 := by omega
        rcases this with rfl | rfl <;> rfl
      exact B72 (oSt_mono X_132 (by decide) (by decide)) pw ph x y w hh (((0 : Int32) + (1 : Int32)) + (1 : Int32)) (((0 : Int32) + (1 : Int32)) + (1 : Int32)) zc a_126 ed sa sb _ g vF R132 A132 f133_4 f133_5 f133_2 f133_3 hw hhh (by omega) hz hvF hel
    · refine ow_aload X_132 66 at_64 rfl rfl rfl ?_
      refine ow_aload X_132 68 at_66 rfl rfl rfl ?_
      refine ow_callV X_132 71 39 40 42 41 43 15 (κ' := k6) (as := [.ref sa]) (S := []) (W := 0) rfl rfl rfl rfl rfl rfl rfl (by decide) R132.1 (C_addN (oSt_w X_132) (oSt_n0 X_132) a_126 sa ed (((0 : Int32) + (1 : Int32)) + (1 : Int32)) (((0 : Int32) + (1 : Int32)) + (1 : Int32)) (own_f1 sa ((0 : Int32) + (1 : Int32)).toInt.toNat (own_f1 sa (0 : Int32).toInt.toNat own_f0)) R132 A132 O132 f133_4.1 g_126 gne nre (by decide) (by decide)) (by decide) (by decide) (Nat.le_of_eq rfl) (by decide) (by decide) pd6 rfl rfl rfl at_68 rfl ?_
      intro γ v_134 T_134 h_134 X_134 q_134
      obtain ⟨rfl, K134, R134, A134, O134⟩ := q_134
      have f135_0 : oA Z h_134 xD (.object "java/lang/Object") 0 fD := f133_0.keep K134 (ninS ne_xD_a_126 (ninS ne_xD_ed nin0))
      have f135_1 : Sta Z h_134 "java/util/ArrayList" "DEFAULTCAPACITY_EMPTY_ELEMENTDATA" "[Ljava/lang/Object;" (.ref xD) := oSta_keep f133_1 K134 (allS (oExS R132.1) (allS (oArS A132) all0))
      have f135_2 : Sta Z h_134 "java/lang/String" "COMPACT_STRINGS" "Z" (.int zc) := oSta_keep f133_2 K134 (allS (oExS R132.1) (allS (oArS A132) all0))
      have f135_3 : Sta Z h_134 "jdk/internal/util/Preconditions" "SIOOBE_FORMATTER" "Ljava/util/function/BiFunction;" vF := oSta_keep f133_3 K134 (allS (oExS R132.1) (allS (oArS A132) all0))
      have f135_4 : STR Z h_134 sa (.ref sb) (.int (0 : Int32)) := f133_4.keep K134 (ninS ne_sa_a_126 (ninS ne_sa_ed nin0))
      have f135_5 : oA Z h_134 sb .byte w.toInt.toNat (fun i_ => .int (g i_)) := f133_5.keep K134 (ninS ne_sb_a_126 (ninS ne_sb_ed nin0))
      show oWP ω γ k0 _ T_134 71 #[.val (.int pw), .val (.int ph), .val (.int x), .val (.int y), .val (.int w), .val (.int hh), .val (.ref sa), .val (.ref a_126), .unset, .unset] [.int (1 : Int32)]
      refine ow_pop X_134 72 at_71 rfl rfl ?_
      have ez : ((((0 : Int32) + (1 : Int32)) + (1 : Int32)) + (1 : Int32)).toInt = 3 := rfl
      have hel : ∀ i : Nat, (i : Int) < ((((0 : Int32) + (1 : Int32)) + (1 : Int32)) + (1 : Int32)).toInt → (own_f1 sa (((0 : Int32) + (1 : Int32)) + (1 : Int32)).toInt.toNat (own_f1 sa ((0 : Int32) + (1 : Int32)).toInt.toNat (own_f1 sa (0 : Int32).toInt.toNat own_f0))) i = .ref sa := by
        intro i hi
        have : i = 0 ∨ i = 1 ∨ i = 2 := by omega
        rcases this with rfl | rfl | rfl <;> rfl
      exact B72 (oSt_mono X_134 (by decide) (by decide)) pw ph x y w hh ((((0 : Int32) + (1 : Int32)) + (1 : Int32)) + (1 : Int32)) ((((0 : Int32) + (1 : Int32)) + (1 : Int32)) + (1 : Int32)) zc a_126 ed sa sb _ g vF R134 A134 f135_4 f135_5 f135_2 f135_3 hw hhh (by omega) hz hvF hel
theorem own_cs {s : State} {args : Array Value} {t : Term} {z : Int32} (ht : t.eval args s none [] s = some (.int z)) (h : (Jvm.Cond.not (Jvm.Cond.eq t (Jvm.Term.int (0 : Int32)))).before args s = true) : z.toInt ≠ 0 := by
  intro q
  have e : z = 0 := Int32.toInt_inj.mp q
  subst e
  have hv := Cond.before_iff.mp h
  have he : (Jvm.Cond.eq t (Jvm.Term.int (0 : Int32))).value args s none s [] = some true := say (Cond.eq_ints ht (Term.int_eval 0)) rfl
  simp [Cond.value] at hv he
  rw [he] at hv; cases hv
theorem own_len0 {s : State} {args : Array Value} {t : Term} {a : Addr} {c : Cell} {ty : FieldType} (ht : t.eval args s none [] s = some (.ref a)) (A : Arr s s.heap a c ty) (h : (Jvm.Cond.eq (Jvm.Term.length t) (Jvm.Term.int (0 : Int32))).before args s = true) : c.slots.size = 0 := by
  have hv := Cond.before_iff.mp h
  obtain ⟨x, y, h1, h2, h3, h4⟩ := cmp_v (Or.inl hv)
  have e2 : y = .int 0 := Option.some.inj (h2.symm.trans (Term.int_eval 0))
  subst e2
  obtain ⟨z, rfl⟩ : ∃ z, x = .int z := h4
  have q := gotT (Cond.eq_ints h1 h2) hv
  subst q
  have ha : s.arrayAt? a = some c := Arr.fin (Vm.Alike.refl _) A
  by_cases hl : c.slots.size < 2 ^ 31
  · have e := (len_f ht ha hl).symm.trans h1
    have e' : c.slots.size.toInt32 = 0 := by injection e with e; injection e
    have q : c.slots.size.toInt32.toInt = c.slots.size := len_toInt (by omega)
    rw [e'] at q; have k0 : (0 : Int32).toInt = 0 := rfl; omega
  · exfalso; simp [Term.eval, ht, ha, hl] at h1

set_option maxRecDepth 65536 in
set_option maxHeartbeats 4000000 in
theorem comes_1 {Post : Tables → Env → Array Value → State → Outcome → State → Prop} (hpost : ∀ tb e args s v u, (limb_1_1.after args s (.returned v) u = true ∧ limb_1_2.after args s (.returned v) u = true ∧ True) → ReturnedEndW s (.returned v) u (Jvm.fieldLocs frame_1_writes args s ++ Jvm.arrayLocs frame_1_arrays args s ++ Jvm.staticLocs frame_1_statics s) 24 3200 → Post tb e args s (.returned v) u) :
    ArmFor flags0 classFile x code maxLocals ret World_1 tables_1 room_1 Calls_1 rest_1 Pre_1 Post := by
  intro l hfl _ _ p e ha hc hk s m args below hf hA hF happ hP
  obtain ⟨hcalls, hrest, hpre⟩ := hP
  obtain ⟨-, -, -, hnamed, -, -, -, hat⟩ := (Spec.applies_iff hf).mp happ
  obtain ⟨hg, hn⟩ := and_e (Cond.before_iff.mp (show (Jvm.Cond.and given_1 narrow_1).before args s = true from hpre))
  obtain ⟨hcount, hg0⟩ := and_e hg
  obtain ⟨ha0, hg1⟩ := and_e hg0
  obtain ⟨ha1, hg2⟩ := and_e hg1
  obtain ⟨ha2, hg3⟩ := and_e hg2
  have ha3 := hg3
  obtain ⟨w0, w1, w2, w3, rfl⟩ : ∃ w0 w1 w2 w3 : Value, args = #[w0, w1, w2, w3] := by
    have hs : args.size = 4 := by simpa [Cond.value, given_1] using hcount
    obtain ⟨L⟩ := args
    match L, hs with
    | [w0, w1, w2, w3], _ => exact ⟨w0, w1, w2, w3, rfl⟩
  have hw := fun d (hd : d ∈ tables_1) => atoms_spec (ws := Jvm.Cond.code x code maxLocals ret :: tables_1) hat d (List.mem_cons_of_mem _ hd)
  have hfit : Fit s := fun {y c} hc i hi => by
    obtain ⟨ha, rfl⟩ := Array.getElem?_eq_some_iff.mp hc
    have q := List.all_eq_true.mp ((Array.all_eq_true_iff_forall_mem.mp hF) _ (Array.getElem_mem ha)) i (List.mem_range.mpr hi)
    simpa [Array.getElem?_eq_getElem hi] using q
  obtain ⟨i0, e0⟩ := is_v ha0
  obtain rfl : w0 = (.int i0) := Option.some.inj e0
  obtain ⟨i1, e1⟩ := is_v ha1
  obtain rfl : w1 = (.int i1) := Option.some.inj e1
  obtain ⟨i2, e2⟩ := is_v ha2
  obtain rfl : w2 = (.int i2) := Option.some.inj e2
  obtain ⟨i3, e3⟩ := is_v ha3
  obtain rfl : w3 = (.int i3) := Option.some.inj e3
  have hJ := own_fold jdkStatics_1 restOwn_1 (by rw [← rest_1_c_eq]; exact hrest)
  obtain ⟨zc, vC⟩ := is_v (Cond.before_iff.mp (hJ _ (List.mem_of_getElem? (i := 10) rfl)))
  have SC : Sta s s.heap "java/lang/String" "COMPACT_STRINGS" "Z" (.int zc) := Sta.start vC (Or.inl (hJ _ (List.mem_of_getElem? (i := 9) rfl)))
  have hz : zc.toInt ≠ 0 := own_cs vC (hJ _ (List.mem_of_getElem? (i := 11) rfl))
  obtain ⟨vF, eF, hvF⟩ := isR_v (Cond.before_iff.mp (hJ _ (List.mem_of_getElem? (i := 17) rfl)))
  have SF : Sta s s.heap "jdk/internal/util/Preconditions" "SIOOBE_FORMATTER" "Ljava/util/function/BiFunction;" vF := Sta.start eF (Or.inl (hJ _ (List.mem_of_getElem? (i := 16) rfl)))
  obtain ⟨xD, vD⟩ := arr_v (Cond.before_iff.mp (hJ _ (List.mem_of_getElem? (i := 6) rfl)))
  have SD : Sta s s.heap "java/util/ArrayList" "DEFAULTCAPACITY_EMPTY_ELEMENTDATA" "[Ljava/lang/Object;" (.ref xD) := Sta.start vD (Or.inr ⟨hw _ (List.mem_of_getElem? (i := 15) rfl), hJ _ (List.mem_of_getElem? (i := 2) rfl)⟩)
  obtain ⟨cD, AD⟩ := Arr.start vD (Cond.before_iff.mp (hJ _ (List.mem_of_getElem? (i := 6) rfl)))
  have Ad : oA s s.heap xD (.object "java/lang/Object") 0 (fun _ => .null) := ⟨cD, AD, own_len0 vD AD (hJ _ (List.mem_of_getElem? (i := 8) rfl)), by decide, fun i hi => absurd hi (Nat.not_lt_zero _)⟩
  have hCH : CHv s consts_1 s.vm s.heap := CHv.start (own_EW hw) (fun p hp => hcalls.1 p hp) (hJ _ (List.mem_of_getElem? (i := 11) rfl)) (hw _ (List.mem_of_getElem? (i := 8) rfl)) (hw _ (List.mem_of_getElem? (i := 7) rfl))
  obtain ⟨n, o, h1, h2, h3, _, L, rfl, ⟨N, rfl⟩, hq⟩ := C_law (Z := s) (ω := (l, s.heap.size, _)) hw (Nat.le_refl _) i0 i1 i2 i3 xD zc (fun _ => .null) vF Ad SD SC SF hz hvF p e ha hc hk s m _ below hf ((Spec.applies_iff_loose hf).mp happ).1 ⟨rfl, State.Warmed39.refl s, rfl, hCH⟩ trivial
  refine ⟨n, _, h1, h2, h3, hpost _ _ _ _ _ _ ⟨Cond.after_iff.mpr rfl, Cond.after_iff.mpr (eq_i res_at (Term.int_eval (1)) rfl), trivial⟩ ⟨hq.1, hq.2.1, hq.2.2.1, (hq.2.2.2.sift fun y hy => Or.inr (N y hy)).mono (by decide) (by decide)⟩⟩
theorem main_1_1 : Claimed_1_1 := comes_1 fun _ _ _ _ _ _ h hF => ⟨h.1, hF⟩
theorem main_1_2 : Claimed_1_2 := comes_1 fun _ _ _ _ _ _ h hF => ⟨h.2.1, hF⟩
end Jvm.Pilot.@@N@@
namespace Jvm.Pilot.@@N@@
open Jvm Jvm.ClassFile Sem Op Lib Jvm.Free Jvm.Stand Jvm.Pilot.@@N@@.Jvm.D
/-! MADE BY PROGRAM (witnessworld.py) out of the Statement's table words and the real class files: 31 classes; the members and pool entries that the words name. The judged class is class 1, her method 2. -/
namespace start1
open Jvm.ClassFile
def u (s : String) : CpInfo := .utf8 (stringToUtf16 s)
/-- a pool by its gaps: so many unusable entries, then the entry; so many at the end -/
def gap : Nat → List CpInfo → List CpInfo
  | 0, r => r
  | n + 1, r => .unusable :: gap n r
def poolList (es : List (Nat × CpInfo)) (last : Nat) : List CpInfo := es.foldr (fun e r => gap e.1 (e.2 :: r)) (gap last [])
def pool (es : List (Nat × CpInfo)) (last : Nat) : Array CpInfo := ⟨poolList es last⟩
def fileOf (pool : Array CpInfo) (this : Nat) (attrs : Array Attribute := #[]) (ms : Array MethodInfo := #[]) (fl : Nat := 33) (sup : Nat := 0) (ifs : Array Nat := #[]) (fds : Array FieldInfo := #[]) : ClassFile where
  minorVersion := 0
  majorVersion := 65
  constantPool := pool
  accessFlags := fl
  thisClass := this
  superClass := sup
  interfaces := ifs
  fields := fds
  methods := ms
  attributes := attrs
def plain (name : String) (sup : Option ClassId) : Class where
  name := name
  kind := .ordinary
  loader := none
  accessFlags := 33
  super := sup
  interfaces := #[]
  cf := none
  fields := #[]
  methods := #[]
  instanceTypes := #[]
  staticTypes := #[]
  resolved := #[]
  callSites := []
  init := .initialized
  statics := none
  mirror := none

def pool0 : Array CpInfo := pool [(5, u "<init>"), (0, u "()V"), (1, .class_ 10), (1, u "java/lang/Object")] 113

def k0c0 : Code := { maxStack := 0, maxLocals := 1, code := object_method_1_code, exceptionTable := #[], attributes := #[] }
def k0m0 : Method := { name := "<init>", desc := "()V", sig := { parameters := [], returnType := none }, accessFlags := 1, code := some k0c0 }
/-- java/lang/Object -/
def k0 : Class := { plain "java/lang/Object" none with
  accessFlags := 33
  interfaces := #[]
  cf := some (fileOf pool0 8 #[] #[{ accessFlags := 1, nameIndex := 5, descriptorIndex := 6, attributes := #[] }] 33 0 #[] #[])
  fields := #[]
  methods := #[k0m0]
  instanceTypes := #[]
  staticTypes := #[]
  resolved := Array.replicate 124 none
  statics := none }

def pool1 : Array CpInfo := pool [(2, .class_ 4), (0, .nameAndType 5 6), (0, u "java/lang/Object"), (0, u "<init>"), (0, u "()V"), (0, .string 8), (0, u "."), (0, .string 10), (0, u "#G"), (0, .string 12), (0, u "S.#"), (0, .integer 2147483647), (0, .methodref 15 16), (0, .class_ 17), (0, .nameAndType 18 19), (0, u "com/example/muster/muster/model/GridMapContainsPinLaw"), (0, u "row"), (0, u "(I)Ljava/lang/String;"), (0, .class_ 21), (0, u "java/util/ArrayList"), (0, .methodref 20 3), (0, .methodref 20 24), (0, .nameAndType 25 26), (0, u "add"), (0, u "(Ljava/lang/Object;)Z"), (0, .class_ 28), (0, u "com/example/muster/muster/model/GridMap"), (0, .methodref 27 30), (0, .nameAndType 5 31), (0, u "(Ljava/util/List;)V"), (0, .methodref 27 33), (0, .nameAndType 34 35), (0, u "contains"), (0, u "(II)Z"), (3, u "law"), (0, u "(IIII)Z")] 4

def k1m0 : Method := { name := "<init>", desc := "()V", sig := { parameters := [], returnType := none }, accessFlags := 2, code := none }
def k1c1 : Code := { maxStack := 2, maxLocals := 1, code := method_2_code, exceptionTable := #[], attributes := #[] }
def k1m1 : Method := { name := "row", desc := "(I)Ljava/lang/String;", sig := { parameters := [.int], returnType := some (.object "java/lang/String") }, accessFlags := 10, code := some k1c1 }
def k1c2 : Code := { maxStack := 3, maxLocals := 10, code := code, exceptionTable := #[], attributes := #[] }
def k1m2 : Method := { name := "law", desc := "(IIII)Z", sig := { parameters := [.int, .int, .int, .int], returnType := some .boolean }, accessFlags := 9, code := some k1c2 }
/-- com/example/muster/muster/model/GridMapContainsPinLaw -/
def k1 : Class := { plain "com/example/muster/muster/model/GridMapContainsPinLaw" (some 0) with
  accessFlags := 49
  interfaces := #[]
  cf := some (fileOf pool1 15 #[] #[{ accessFlags := 2, nameIndex := 5, descriptorIndex := 6, attributes := #[] }, { accessFlags := 10, nameIndex := 18, descriptorIndex := 19, attributes := #[] }, { accessFlags := 9, nameIndex := 39, descriptorIndex := 40, attributes := #[] }] 49 2 #[] #[])
  fields := #[]
  methods := #[k1m0, k1m1, k1m2]
  instanceTypes := #[]
  staticTypes := #[]
  resolved := Array.replicate 45 none
  statics := none }

def pool2 : Array CpInfo := pool [(1, .class_ 2), (0, u "java/io/Serializable"), (0, .class_ 4), (0, u "java/lang/Object")] 2

/-- java/io/Serializable -/
def k2 : Class := { plain "java/io/Serializable" (some 0) with
  accessFlags := 1537
  interfaces := #[]
  cf := some (fileOf pool2 1 #[] #[] 1537 3 #[] #[])
  fields := #[]
  methods := #[]
  instanceTypes := #[]
  staticTypes := #[]
  resolved := Array.replicate 7 none
  statics := none }

def pool3 : Array CpInfo := pool [(1, .class_ 2), (0, u "java/lang/Comparable"), (0, .class_ 4), (0, u "java/lang/Object")] 7

/-- java/lang/Comparable -/
def k3 : Class := { plain "java/lang/Comparable" (some 0) with
  accessFlags := 1537
  interfaces := #[]
  cf := some (fileOf pool3 1 #[] #[] 1537 3 #[] #[])
  fields := #[]
  methods := #[]
  instanceTypes := #[]
  staticTypes := #[]
  resolved := Array.replicate 12 none
  statics := none }

def pool4 : Array CpInfo := pool [(2, .class_ 4), (1, u "java/lang/CharSequence"), (42, .class_ 48), (0, u "java/lang/CharSequence$1CodePointIterator"), (10, .class_ 60), (0, u "java/lang/CharSequence$1CharIterator"), (5, .class_ 67), (0, u "java/lang/Object")] 63

/-- java/lang/CharSequence -/
def k4 : Class := { plain "java/lang/CharSequence" (some 0) with
  accessFlags := 1537
  interfaces := #[]
  cf := some (fileOf pool4 2 #[.nestMembers #[47, 59]] #[] 1537 66 #[] #[])
  fields := #[]
  methods := #[]
  instanceTypes := #[]
  staticTypes := #[]
  resolved := Array.replicate 131 none
  statics := none }

def pool5 : Array CpInfo := pool [(1, .class_ 2), (0, u "java/lang/constant/Constable"), (0, .class_ 4), (0, u "java/lang/Object")] 6

/-- java/lang/constant/Constable -/
def k5 : Class := { plain "java/lang/constant/Constable" (some 0) with
  accessFlags := 1537
  interfaces := #[]
  cf := some (fileOf pool5 1 #[] #[] 1537 3 #[] #[])
  fields := #[]
  methods := #[]
  instanceTypes := #[]
  staticTypes := #[]
  resolved := Array.replicate 11 none
  statics := none }

def pool6 : Array CpInfo := pool [(1, .class_ 2), (0, u "java/lang/constant/ConstantDesc"), (0, .class_ 4), (0, u "java/lang/Object")] 32

/-- java/lang/constant/ConstantDesc -/
def k6 : Class := { plain "java/lang/constant/ConstantDesc" (some 0) with
  accessFlags := 1537
  interfaces := #[]
  cf := some (fileOf pool6 1 #[] #[] 1537 3 #[] #[])
  fields := #[]
  methods := #[]
  instanceTypes := #[]
  staticTypes := #[]
  resolved := Array.replicate 37 none
  statics := none }

def pool7 : Array CpInfo := pool [(2, .class_ 4), (1, u "java/lang/Object"), (0, u "<init>"), (0, u "()V"), (2, .fieldref 10 11), (0, .class_ 12), (0, .nameAndType 13 14), (0, u "java/lang/String"), (0, u "value"), (0, u "[B"), (0, .fieldref 10 16), (0, .nameAndType 17 18), (0, u "coder"), (0, u "B"), (2, u "hash"), (0, u "I"), (2, u "hashIsZero"), (0, u "Z"), (11, .fieldref 10 39), (0, .nameAndType 40 26), (0, u "COMPACT_STRINGS"), (66, .class_ 109), (1, u "java/lang/StringLatin1"), (32, u "()Z"), (191, u "()I"), (0, .methodref 10 336), (0, .nameAndType 17 337), (0, u "()B"), (25, u "([BI)C"), (27, u "(II)V"), (35, u "(I)C"), (64, .methodref 10 493), (0, .nameAndType 494 142), (0, u "isLatin1"), (0, .methodref 107 496), (0, .nameAndType 497 363), (0, u "charAt"), (3, u "checkIndex"), (5, u "length"), (67, .class_ 576), (0, u "java/lang/CharSequence"), (22, u "CASE_INSENSITIVE_ORDER"), (0, u "Ljava/util/Comparator;"), (91, u "isEmpty"), (360, .fieldref 1054 1055), (0, .class_ 1056), (0, .nameAndType 1057 1058), (0, u "jdk/internal/util/Preconditions"), (0, u "SIOOBE_FORMATTER"), (0, u "Ljava/util/function/BiFunction;"), (0, .methodref 1054 1060), (0, .nameAndType 501 1061), (0, u "(IILjava/util/function/BiFunction;)I"), (39, u "serialPersistentFields"), (0, u "[Ljava/io/ObjectStreamField;"), (0, .class_ 1104), (0, u "java/lang/String$CaseInsensitiveComparator"), (1, .class_ 1107), (0, u "java/io/Serializable"), (0, .class_ 1109), (0, u "java/lang/Comparable"), (0, .class_ 1111), (0, u "java/lang/constant/Constable"), (0, .class_ 1113), (0, u "java/lang/constant/ConstantDesc"), (2, u "serialVersionUID"), (0, u "J"), (3, u "REPL"), (0, u "C"), (2, u "LATIN1"), (1, u "UTF16")] 323

def k7m0 : Method := { name := "<init>", desc := "()V", sig := { parameters := [], returnType := none }, accessFlags := 1, code := none }
def k7c1 : Code := { maxStack := 2, maxLocals := 1, code := jdk_42_method_54_code, exceptionTable := #[], attributes := #[] }
def k7m1 : Method := { name := "length", desc := "()I", sig := { parameters := [], returnType := some .int }, accessFlags := 1, code := some k7c1 }
def k7c2 : Code := { maxStack := 1, maxLocals := 1, code := jdk_42_method_55_code, exceptionTable := #[], attributes := #[] }
def k7m2 : Method := { name := "isEmpty", desc := "()Z", sig := { parameters := [], returnType := some .boolean }, accessFlags := 1, code := some k7c2 }
def k7c3 : Code := { maxStack := 2, maxLocals := 2, code := jdk_42_method_56_code, exceptionTable := #[], attributes := #[] }
def k7m3 : Method := { name := "charAt", desc := "(I)C", sig := { parameters := [.int], returnType := some .char }, accessFlags := 1, code := some k7c3 }
def k7c4 : Code := { maxStack := 1, maxLocals := 1, code := jdk_42_method_152_code, exceptionTable := #[], attributes := #[] }
def k7m4 : Method := { name := "coder", desc := "()B", sig := { parameters := [], returnType := some .byte }, accessFlags := 0, code := some k7c4 }
def k7c5 : Code := { maxStack := 1, maxLocals := 1, code := jdk_42_method_154_code, exceptionTable := #[], attributes := #[] }
def k7m5 : Method := { name := "isLatin1", desc := "()Z", sig := { parameters := [], returnType := some .boolean }, accessFlags := 0, code := some k7c5 }
def k7c6 : Code := { maxStack := 3, maxLocals := 2, code := jdk_42_method_155_code, exceptionTable := #[], attributes := #[] }
def k7m6 : Method := { name := "checkIndex", desc := "(II)V", sig := { parameters := [.int, .int], returnType := none }, accessFlags := 8, code := some k7c6 }
/-- java/lang/String -/
def k7 : Class := { plain "java/lang/String" (some 0) with
  accessFlags := 49
  interfaces := #[2, 3, 4, 5, 6]
  cf := some (fileOf pool7 10 #[.nestMembers #[1103]] #[{ accessFlags := 1, nameIndex := 5, descriptorIndex := 6, attributes := #[] }, { accessFlags := 1, nameIndex := 507, descriptorIndex := 334, attributes := #[] }, { accessFlags := 1, nameIndex := 692, descriptorIndex := 142, attributes := #[] }, { accessFlags := 1, nameIndex := 497, descriptorIndex := 427, attributes := #[] }, { accessFlags := 0, nameIndex := 17, descriptorIndex := 337, attributes := #[] }, { accessFlags := 0, nameIndex := 494, descriptorIndex := 142, attributes := #[] }, { accessFlags := 8, nameIndex := 501, descriptorIndex := 391, attributes := #[] }] 49 2 #[1106, 1108, 575, 1110, 1112] #[{ accessFlags := 18, nameIndex := 13, descriptorIndex := 14, attributes := #[] }, { accessFlags := 18, nameIndex := 17, descriptorIndex := 18, attributes := #[] }, { accessFlags := 2, nameIndex := 21, descriptorIndex := 22, attributes := #[] }, { accessFlags := 2, nameIndex := 25, descriptorIndex := 26, attributes := #[] }, { accessFlags := 26, nameIndex := 1116, descriptorIndex := 1117, attributes := #[] }, { accessFlags := 24, nameIndex := 40, descriptorIndex := 26, attributes := #[] }, { accessFlags := 26, nameIndex := 1101, descriptorIndex := 1102, attributes := #[] }, { accessFlags := 26, nameIndex := 1121, descriptorIndex := 1122, attributes := #[] }, { accessFlags := 25, nameIndex := 599, descriptorIndex := 600, attributes := #[] }, { accessFlags := 24, nameIndex := 1125, descriptorIndex := 18, attributes := #[] }, { accessFlags := 24, nameIndex := 1127, descriptorIndex := 18, attributes := #[] }])
  fields := #[{ name := "value", type := (.array .byte), accessFlags := 18, slot := 0, constantValue := 0 }, { name := "coder", type := .byte, accessFlags := 18, slot := 1, constantValue := 0 }, { name := "hash", type := .int, accessFlags := 2, slot := 2, constantValue := 0 }, { name := "hashIsZero", type := .boolean, accessFlags := 2, slot := 3, constantValue := 0 }, { name := "serialVersionUID", type := .long, accessFlags := 26, slot := 0, constantValue := 0 }, { name := "COMPACT_STRINGS", type := .boolean, accessFlags := 24, slot := 1, constantValue := 0 }, { name := "serialPersistentFields", type := (.array (.object "java/io/ObjectStreamField")), accessFlags := 26, slot := 2, constantValue := 0 }, { name := "REPL", type := .char, accessFlags := 26, slot := 3, constantValue := 0 }, { name := "CASE_INSENSITIVE_ORDER", type := (.object "java/util/Comparator"), accessFlags := 25, slot := 4, constantValue := 0 }, { name := "LATIN1", type := .byte, accessFlags := 24, slot := 5, constantValue := 0 }, { name := "UTF16", type := .byte, accessFlags := 24, slot := 6, constantValue := 0 }]
  methods := #[k7m0, k7m1, k7m2, k7m3, k7m4, k7m5, k7m6]
  instanceTypes := #[(.array .byte), .byte, .int, .boolean]
  staticTypes := #[.long, .boolean, (.array (.object "java/io/ObjectStreamField")), .char, (.object "java/util/Comparator"), .byte, .byte]
  resolved := Array.replicate 1451 none
  statics := some 0 }

def pool8 : Array CpInfo := pool [(8, .class_ 10), (1, u "java/lang/Iterable"), (24, .class_ 36), (0, u "java/lang/Object")] 25

/-- java/lang/Iterable -/
def k8 : Class := { plain "java/lang/Iterable" (some 0) with
  accessFlags := 1537
  interfaces := #[]
  cf := some (fileOf pool8 8 #[] #[] 1537 35 #[] #[])
  fields := #[]
  methods := #[]
  instanceTypes := #[]
  staticTypes := #[]
  resolved := Array.replicate 62 none
  statics := none }

def pool9 : Array CpInfo := pool [(10, .class_ 12), (1, u "java/util/Collection"), (47, .class_ 61), (0, u "java/lang/Object"), (0, .class_ 63), (0, u "java/lang/Iterable")] 51

/-- java/util/Collection -/
def k9 : Class := { plain "java/util/Collection" (some 0) with
  accessFlags := 1537
  interfaces := #[8]
  cf := some (fileOf pool9 10 #[] #[] 1537 60 #[62] #[])
  fields := #[]
  methods := #[]
  instanceTypes := #[]
  staticTypes := #[]
  resolved := Array.replicate 115 none
  statics := none }

def pool10 : Array CpInfo := pool [(1, .methodref 2 3), (0, .class_ 4), (0, .nameAndType 5 6), (0, u "java/lang/Object"), (0, u "<init>"), (0, u "()V"), (1, .class_ 10), (1, u "java/util/AbstractCollection"), (66, .class_ 78), (0, u "java/util/Collection")] 81

def k10c0 : Code := { maxStack := 1, maxLocals := 1, code := jdk_22_method_1_code, exceptionTable := #[], attributes := #[] }
def k10m0 : Method := { name := "<init>", desc := "()V", sig := { parameters := [], returnType := none }, accessFlags := 4, code := some k10c0 }
/-- java/util/AbstractCollection -/
def k10 : Class := { plain "java/util/AbstractCollection" (some 0) with
  accessFlags := 1057
  interfaces := #[9]
  cf := some (fileOf pool10 8 #[] #[{ accessFlags := 4, nameIndex := 5, descriptorIndex := 6, attributes := #[] }] 1057 2 #[77] #[])
  fields := #[]
  methods := #[k10m0]
  instanceTypes := #[]
  staticTypes := #[]
  resolved := Array.replicate 160 none
  statics := none }

def pool11 : Array CpInfo := pool [(8, .class_ 10), (1, u "java/util/SequencedCollection"), (15, .class_ 27), (0, u "java/lang/Object"), (0, .class_ 29), (0, u "java/util/Collection")] 27

/-- java/util/SequencedCollection -/
def k11 : Class := { plain "java/util/SequencedCollection" (some 0) with
  accessFlags := 1537
  interfaces := #[9]
  cf := some (fileOf pool11 8 #[] #[] 1537 26 #[28] #[])
  fields := #[]
  methods := #[]
  instanceTypes := #[]
  staticTypes := #[]
  resolved := Array.replicate 57 none
  statics := none }

def pool12 : Array CpInfo := pool [(8, .class_ 10), (1, u "java/util/List"), (7, u "()Z"), (48, u "isEmpty"), (7, u "get"), (0, u "(I)Ljava/lang/Object;"), (2, u "size"), (0, u "()I"), (22, .class_ 104), (0, u "java/lang/Object"), (15, .class_ 121), (0, u "java/util/SequencedCollection")] 129

def k12m0 : Method := { name := "size", desc := "()I", sig := { parameters := [], returnType := some .int }, accessFlags := 1025, code := none }
def k12m1 : Method := { name := "isEmpty", desc := "()Z", sig := { parameters := [], returnType := some .boolean }, accessFlags := 1025, code := none }
def k12m2 : Method := { name := "get", desc := "(I)Ljava/lang/Object;", sig := { parameters := [.int], returnType := some (.object "java/lang/Object") }, accessFlags := 1025, code := none }
/-- java/util/List -/
def k12 : Class := { plain "java/util/List" (some 0) with
  accessFlags := 1537
  interfaces := #[11]
  cf := some (fileOf pool12 8 #[] #[{ accessFlags := 1025, nameIndex := 79, descriptorIndex := 80, attributes := #[] }, { accessFlags := 1025, nameIndex := 67, descriptorIndex := 18, attributes := #[] }, { accessFlags := 1025, nameIndex := 75, descriptorIndex := 76, attributes := #[] }] 1537 103 #[120] #[])
  fields := #[]
  methods := #[k12m0, k12m1, k12m2]
  instanceTypes := #[]
  staticTypes := #[]
  resolved := Array.replicate 251 none
  statics := none }

def pool13 : Array CpInfo := pool [(1, .methodref 2 3), (0, .class_ 4), (0, .nameAndType 5 6), (0, u "java/util/AbstractCollection"), (0, u "<init>"), (0, u "()V"), (0, .fieldref 8 9), (0, .class_ 10), (0, .nameAndType 11 12), (0, u "java/util/AbstractList"), (0, u "modCount"), (0, u "I"), (64, .class_ 78), (0, u "java/util/AbstractList$Itr"), (3, .class_ 83), (0, u "java/util/AbstractList$ListItr"), (9, .class_ 94), (0, u "java/util/AbstractList$RandomAccessSubList"), (3, .class_ 99), (0, u "java/util/AbstractList$SubList"), (33, .class_ 134), (0, u "java/util/List"), (73, .class_ 209), (0, u "java/util/AbstractList$SubList$1"), (0, .class_ 211), (0, u "java/util/AbstractList$RandomAccessSpliterator")] 6

def k13c0 : Code := { maxStack := 2, maxLocals := 1, code := jdk_39_method_1_code, exceptionTable := #[], attributes := #[] }
def k13m0 : Method := { name := "<init>", desc := "()V", sig := { parameters := [], returnType := none }, accessFlags := 4, code := some k13c0 }
/-- java/util/AbstractList -/
def k13 : Class := { plain "java/util/AbstractList" (some 10) with
  accessFlags := 1057
  interfaces := #[12]
  cf := some (fileOf pool13 8 #[.nestMembers #[93, 98, 208, 210, 82, 77]] #[{ accessFlags := 4, nameIndex := 5, descriptorIndex := 6, attributes := #[] }] 1057 2 #[133] #[{ accessFlags := 132, nameIndex := 11, descriptorIndex := 12, attributes := #[] }])
  fields := #[{ name := "modCount", type := .int, accessFlags := 132, slot := 0, constantValue := 0 }]
  methods := #[k13m0]
  instanceTypes := #[.int]
  staticTypes := #[]
  resolved := Array.replicate 218 none
  statics := none }

def pool14 : Array CpInfo := pool [(1, .class_ 2), (0, u "java/util/RandomAccess"), (0, .class_ 4), (0, u "java/lang/Object")] 2

/-- java/util/RandomAccess -/
def k14 : Class := { plain "java/util/RandomAccess" (some 0) with
  accessFlags := 1537
  interfaces := #[]
  cf := some (fileOf pool14 1 #[] #[] 1537 3 #[] #[])
  fields := #[]
  methods := #[]
  instanceTypes := #[]
  staticTypes := #[]
  resolved := Array.replicate 7 none
  statics := none }

def pool15 : Array CpInfo := pool [(1, .class_ 2), (0, u "java/lang/Cloneable"), (0, .class_ 4), (0, u "java/lang/Object")] 2

/-- java/lang/Cloneable -/
def k15 : Class := { plain "java/lang/Cloneable" (some 0) with
  accessFlags := 1537
  interfaces := #[]
  cf := some (fileOf pool15 1 #[] #[] 1537 3 #[] #[])
  fields := #[]
  methods := #[]
  instanceTypes := #[]
  staticTypes := #[]
  resolved := Array.replicate 7 none
  statics := none }

def pool16 : Array CpInfo := pool [(1, .methodref 2 3), (0, .class_ 4), (0, .nameAndType 5 6), (0, u "java/util/AbstractList"), (0, u "<init>"), (0, u "()V"), (0, .class_ 8), (0, u "java/lang/Object"), (0, .fieldref 10 11), (0, .class_ 12), (0, .nameAndType 13 14), (0, u "java/util/ArrayList"), (0, u "elementData"), (0, u "[Ljava/lang/Object;"), (2, u "EMPTY_ELEMENTDATA"), (21, .fieldref 10 40), (0, .nameAndType 41 14), (0, u "DEFAULTCAPACITY_EMPTY_ELEMENTDATA"), (5, u "()[Ljava/lang/Object;"), (0, .fieldref 10 49), (0, .nameAndType 50 51), (0, u "size"), (0, u "I"), (11, .fieldref 10 64), (0, .nameAndType 65 51), (0, u "modCount"), (3, .methodref 10 70), (0, .nameAndType 71 72), (0, u "grow"), (0, u "(I)[Ljava/lang/Object;"), (6, .methodref 80 81), (0, .class_ 82), (0, .nameAndType 83 84), (0, u "java/lang/Math"), (0, u "max"), (0, u "(II)I"), (11, u "(Ljava/lang/Object;)Z"), (21, .methodref 119 120), (0, .class_ 121), (0, .nameAndType 122 84), (0, u "java/util/Objects"), (0, u "checkIndex"), (0, .methodref 10 124), (0, .nameAndType 13 125), (0, u "(I)Ljava/lang/Object;"), (3, .methodref 10 130), (0, .nameAndType 71 47), (0, .methodref 10 132), (0, .nameAndType 133 134), (0, u "add"), (0, u "(Ljava/lang/Object;[Ljava/lang/Object;I)V"), (13, .class_ 149), (0, u "java/util/List"), (23, u "()Z"), (12, u "()I"), (75, .class_ 263), (0, u "java/util/ArrayList$ListItr"), (3, .class_ 268), (0, u "java/util/ArrayList$Itr"), (7, .class_ 277), (0, u "java/util/ArrayList$SubList"), (12, .class_ 291), (0, u "java/util/ArrayList$ArrayListSpliterator"), (37, .class_ 330), (0, u "java/util/RandomAccess"), (0, .class_ 332), (0, u "java/lang/Cloneable"), (0, .class_ 334), (0, u "java/io/Serializable"), (0, u "serialVersionUID"), (0, u "J"), (3, u "DEFAULT_CAPACITY"), (22, u "isEmpty"), (17, u "get"), (118, .class_ 501), (0, u "java/util/ArrayList$SubList$2"), (0, .class_ 503), (0, u "java/util/ArrayList$SubList$1")] 5

def k16c0 : Code := { maxStack := 2, maxLocals := 1, code := jdk_38_method_2_code, exceptionTable := #[], attributes := #[] }
def k16m0 : Method := { name := "<init>", desc := "()V", sig := { parameters := [], returnType := none }, accessFlags := 1, code := some k16c0 }
def k16c1 : Code := { maxStack := 4, maxLocals := 4, code := jdk_38_method_6_code, exceptionTable := #[], attributes := #[] }
def k16m1 : Method := { name := "grow", desc := "(I)[Ljava/lang/Object;", sig := { parameters := [.int], returnType := some (.array (.object "java/lang/Object")) }, accessFlags := 2, code := some k16c1 }
def k16c2 : Code := { maxStack := 3, maxLocals := 1, code := jdk_38_method_7_code, exceptionTable := #[], attributes := #[] }
def k16m2 : Method := { name := "grow", desc := "()[Ljava/lang/Object;", sig := { parameters := [], returnType := some (.array (.object "java/lang/Object")) }, accessFlags := 2, code := some k16c2 }
def k16c3 : Code := { maxStack := 1, maxLocals := 1, code := jdk_38_method_8_code, exceptionTable := #[], attributes := #[] }
def k16m3 : Method := { name := "size", desc := "()I", sig := { parameters := [], returnType := some .int }, accessFlags := 1, code := some k16c3 }
def k16c4 : Code := { maxStack := 1, maxLocals := 1, code := jdk_38_method_9_code, exceptionTable := #[], attributes := #[] }
def k16m4 : Method := { name := "isEmpty", desc := "()Z", sig := { parameters := [], returnType := some .boolean }, accessFlags := 1, code := some k16c4 }
def k16c5 : Code := { maxStack := 2, maxLocals := 2, code := jdk_38_method_18_code, exceptionTable := #[], attributes := #[] }
def k16m5 : Method := { name := "elementData", desc := "(I)Ljava/lang/Object;", sig := { parameters := [.int], returnType := some (.object "java/lang/Object") }, accessFlags := 0, code := some k16c5 }
def k16c6 : Code := { maxStack := 2, maxLocals := 2, code := jdk_38_method_20_code, exceptionTable := #[], attributes := #[] }
def k16m6 : Method := { name := "get", desc := "(I)Ljava/lang/Object;", sig := { parameters := [.int], returnType := some (.object "java/lang/Object") }, accessFlags := 1, code := some k16c6 }
def k16c7 : Code := { maxStack := 3, maxLocals := 4, code := jdk_38_method_24_code, exceptionTable := #[], attributes := #[] }
def k16m7 : Method := { name := "add", desc := "(Ljava/lang/Object;[Ljava/lang/Object;I)V", sig := { parameters := [(.object "java/lang/Object"), (.array (.object "java/lang/Object")), .int], returnType := none }, accessFlags := 2, code := some k16c7 }
def k16c8 : Code := { maxStack := 4, maxLocals := 2, code := jdk_38_method_25_code, exceptionTable := #[], attributes := #[] }
def k16m8 : Method := { name := "add", desc := "(Ljava/lang/Object;)Z", sig := { parameters := [(.object "java/lang/Object")], returnType := some .boolean }, accessFlags := 1, code := some k16c8 }
/-- java/util/ArrayList -/
def k16 : Class := { plain "java/util/ArrayList" (some 13) with
  accessFlags := 33
  interfaces := #[12, 14, 15, 2]
  cf := some (fileOf pool16 10 #[.nestMembers #[290, 276, 500, 502, 262, 267]] #[{ accessFlags := 1, nameIndex := 5, descriptorIndex := 6, attributes := #[] }, { accessFlags := 2, nameIndex := 71, descriptorIndex := 72, attributes := #[] }, { accessFlags := 2, nameIndex := 71, descriptorIndex := 47, attributes := #[] }, { accessFlags := 1, nameIndex := 50, descriptorIndex := 186, attributes := #[] }, { accessFlags := 1, nameIndex := 363, descriptorIndex := 173, attributes := #[] }, { accessFlags := 0, nameIndex := 13, descriptorIndex := 125, attributes := #[] }, { accessFlags := 1, nameIndex := 381, descriptorIndex := 125, attributes := #[] }, { accessFlags := 2, nameIndex := 133, descriptorIndex := 134, attributes := #[] }, { accessFlags := 1, nameIndex := 133, descriptorIndex := 96, attributes := #[] }] 33 2 #[148, 329, 331, 333] #[{ accessFlags := 26, nameIndex := 335, descriptorIndex := 336, attributes := #[] }, { accessFlags := 26, nameIndex := 340, descriptorIndex := 51, attributes := #[] }, { accessFlags := 26, nameIndex := 17, descriptorIndex := 14, attributes := #[] }, { accessFlags := 26, nameIndex := 41, descriptorIndex := 14, attributes := #[] }, { accessFlags := 128, nameIndex := 13, descriptorIndex := 14, attributes := #[] }, { accessFlags := 2, nameIndex := 50, descriptorIndex := 51, attributes := #[] }])
  fields := #[{ name := "serialVersionUID", type := .long, accessFlags := 26, slot := 0, constantValue := 0 }, { name := "DEFAULT_CAPACITY", type := .int, accessFlags := 26, slot := 1, constantValue := 0 }, { name := "EMPTY_ELEMENTDATA", type := (.array (.object "java/lang/Object")), accessFlags := 26, slot := 2, constantValue := 0 }, { name := "DEFAULTCAPACITY_EMPTY_ELEMENTDATA", type := (.array (.object "java/lang/Object")), accessFlags := 26, slot := 3, constantValue := 0 }, { name := "elementData", type := (.array (.object "java/lang/Object")), accessFlags := 128, slot := 1, constantValue := 0 }, { name := "size", type := .int, accessFlags := 2, slot := 2, constantValue := 0 }]
  methods := #[k16m0, k16m1, k16m2, k16m3, k16m4, k16m5, k16m6, k16m7, k16m8]
  instanceTypes := #[.int, (.array (.object "java/lang/Object")), .int]
  staticTypes := #[.long, .int, (.array (.object "java/lang/Object")), (.array (.object "java/lang/Object"))]
  resolved := Array.replicate 509 none
  statics := some 1 }

def pool17 : Array CpInfo := pool [(1, .class_ 2), (0, u "java/lang/Math"), (1, .class_ 6), (1, u "java/lang/Object"), (0, u "<init>"), (0, u "()V"), (89, .class_ 100), (1, u "java/lang/Math$RandomNumberGeneratorHolder"), (19, u "multiplyExact"), (51, u "negativeZeroFloatBits"), (0, u "J"), (2, u "negativeZeroDoubleBits"), (21, u "max"), (46, u "$assertionsDisabled"), (0, u "Z"), (88, u "(II)I"), (2, u "twoToTheDoubleScaleDown"), (0, u "D"), (4, u "twoToTheDoubleScaleUp"), (9, u "E"), (3, u "PI"), (2, u "TAU"), (2, u "DEGREES_TO_RADIANS"), (0, u "RADIANS_TO_DEGREES")] 94

def k17m0 : Method := { name := "<init>", desc := "()V", sig := { parameters := [], returnType := none }, accessFlags := 2, code := none }
def k17c1 : Code := { maxStack := 4, maxLocals := 4, code := jdk_29_method_28_code, exceptionTable := #[], attributes := #[] }
def k17m1 : Method := { name := "multiplyExact", desc := "(II)I", sig := { parameters := [.int, .int], returnType := some .int }, accessFlags := 9, code := some k17c1 }
def k17c2 : Code := { maxStack := 2, maxLocals := 2, code := jdk_29_method_65_code, exceptionTable := #[], attributes := #[] }
def k17m2 : Method := { name := "max", desc := "(II)I", sig := { parameters := [.int, .int], returnType := some .int }, accessFlags := 9, code := some k17c2 }
/-- java/lang/Math -/
def k17 : Class := { plain "java/lang/Math" (some 0) with
  accessFlags := 49
  interfaces := #[]
  cf := some (fileOf pool17 1 #[.nestMembers #[98]] #[{ accessFlags := 2, nameIndex := 7, descriptorIndex := 8, attributes := #[] }, { accessFlags := 9, nameIndex := 120, descriptorIndex := 335, attributes := #[] }, { accessFlags := 9, nameIndex := 198, descriptorIndex := 335, attributes := #[] }] 49 4 #[] #[{ accessFlags := 25, nameIndex := 354, descriptorIndex := 339, attributes := #[] }, { accessFlags := 25, nameIndex := 358, descriptorIndex := 339, attributes := #[] }, { accessFlags := 25, nameIndex := 361, descriptorIndex := 339, attributes := #[] }, { accessFlags := 26, nameIndex := 364, descriptorIndex := 339, attributes := #[] }, { accessFlags := 26, nameIndex := 365, descriptorIndex := 339, attributes := #[] }, { accessFlags := 26, nameIndex := 172, descriptorIndex := 173, attributes := #[] }, { accessFlags := 26, nameIndex := 176, descriptorIndex := 173, attributes := #[] }, { accessFlags := 8, nameIndex := 344, descriptorIndex := 339, attributes := #[] }, { accessFlags := 8, nameIndex := 338, descriptorIndex := 339, attributes := #[] }, { accessFlags := 4120, nameIndex := 245, descriptorIndex := 246, attributes := #[] }])
  fields := #[{ name := "E", type := .double, accessFlags := 25, slot := 0, constantValue := 0 }, { name := "PI", type := .double, accessFlags := 25, slot := 1, constantValue := 0 }, { name := "TAU", type := .double, accessFlags := 25, slot := 2, constantValue := 0 }, { name := "DEGREES_TO_RADIANS", type := .double, accessFlags := 26, slot := 3, constantValue := 0 }, { name := "RADIANS_TO_DEGREES", type := .double, accessFlags := 26, slot := 4, constantValue := 0 }, { name := "negativeZeroFloatBits", type := .long, accessFlags := 26, slot := 5, constantValue := 0 }, { name := "negativeZeroDoubleBits", type := .long, accessFlags := 26, slot := 6, constantValue := 0 }, { name := "twoToTheDoubleScaleUp", type := .double, accessFlags := 8, slot := 7, constantValue := 0 }, { name := "twoToTheDoubleScaleDown", type := .double, accessFlags := 8, slot := 8, constantValue := 0 }, { name := "$assertionsDisabled", type := .boolean, accessFlags := 4120, slot := 9, constantValue := 0 }]
  methods := #[k17m0, k17m1, k17m2]
  instanceTypes := #[]
  staticTypes := #[.double, .double, .double, .double, .double, .long, .long, .double, .double, .boolean]
  resolved := Array.replicate 460 none
  statics := none }

def pool18 : Array CpInfo := pool [(1, .class_ 2), (0, u "com/example/muster/muster/model/Places"), (0, .class_ 4), (0, u "java/lang/Object")] 11

/-- com/example/muster/muster/model/Places -/
def k18 : Class := { plain "com/example/muster/muster/model/Places" (some 0) with
  accessFlags := 1537
  interfaces := #[]
  cf := some (fileOf pool18 1 #[] #[] 1537 3 #[] #[])
  fields := #[]
  methods := #[]
  instanceTypes := #[]
  staticTypes := #[]
  resolved := Array.replicate 16 none
  statics := none }

def pool19 : Array CpInfo := pool [(1, .methodref 2 3), (0, .class_ 4), (0, .nameAndType 5 6), (0, u "java/lang/Object"), (0, u "<init>"), (0, u "()V"), (0, .interfaceMethodref 8 9), (0, .class_ 10), (0, .nameAndType 11 12), (0, u "java/util/List"), (0, u "isEmpty"), (0, u "()Z"), (0, .interfaceMethodref 8 14), (0, .nameAndType 15 16), (0, u "get"), (0, u "(I)Ljava/lang/Object;"), (0, .class_ 18), (0, u "java/lang/String"), (0, .methodref 17 9), (7, .interfaceMethodref 8 28), (0, .nameAndType 29 30), (0, u "size"), (0, u "()I"), (0, .fieldref 32 33), (0, .class_ 34), (0, .nameAndType 35 36), (0, u "com/example/muster/muster/model/GridMap"), (0, u "height"), (0, u "I"), (0, .methodref 17 38), (0, .nameAndType 39 30), (0, u "length"), (0, .fieldref 32 41), (0, .nameAndType 42 36), (0, u "width"), (4, .methodref 48 49), (0, .class_ 50), (0, .nameAndType 51 52), (0, u "java/lang/Math"), (0, u "multiplyExact"), (0, u "(II)I"), (0, .fieldref 32 54), (0, .nameAndType 55 56), (0, u "free"), (0, u "[Z"), (0, .methodref 17 58), (0, .nameAndType 59 60), (0, u "charAt"), (0, u "(I)C"), (2, u "contains"), (0, u "(II)Z"), (40, .class_ 106), (0, u "com/example/muster/muster/model/Places"), (0, u "(Ljava/util/List;)V")] 32

def k19c0 : Code := { maxStack := 5, maxLocals := 6, code := prog_14_method_1_code, exceptionTable := #[], attributes := #[] }
def k19m0 : Method := { name := "<init>", desc := "(Ljava/util/List;)V", sig := { parameters := [(.object "java/util/List")], returnType := none }, accessFlags := 1, code := some k19c0 }
def k19c1 : Code := { maxStack := 2, maxLocals := 3, code := prog_14_method_4_code, exceptionTable := #[], attributes := #[] }
def k19m1 : Method := { name := "contains", desc := "(II)Z", sig := { parameters := [.int, .int], returnType := some .boolean }, accessFlags := 1, code := some k19c1 }
/-- com/example/muster/muster/model/GridMap -/
def k19 : Class := { plain "com/example/muster/muster/model/GridMap" (some 0) with
  accessFlags := 49
  interfaces := #[18]
  cf := some (fileOf pool19 32 #[] #[{ accessFlags := 1, nameIndex := 5, descriptorIndex := 107, attributes := #[] }, { accessFlags := 1, nameIndex := 63, descriptorIndex := 64, attributes := #[] }] 49 2 #[105] #[{ accessFlags := 18, nameIndex := 42, descriptorIndex := 36, attributes := #[] }, { accessFlags := 18, nameIndex := 35, descriptorIndex := 36, attributes := #[] }, { accessFlags := 18, nameIndex := 55, descriptorIndex := 56, attributes := #[] }])
  fields := #[{ name := "width", type := .int, accessFlags := 18, slot := 0, constantValue := 0 }, { name := "height", type := .int, accessFlags := 18, slot := 1, constantValue := 0 }, { name := "free", type := (.array .boolean), accessFlags := 18, slot := 2, constantValue := 0 }]
  methods := #[k19m0, k19m1]
  instanceTypes := #[.int, .int, (.array .boolean)]
  staticTypes := #[]
  resolved := Array.replicate 140 none
  statics := none }

def pool20 : Array CpInfo := pool [(2, .class_ 4), (1, u "java/lang/Object"), (0, u "<init>"), (0, u "()V"), (35, .class_ 44), (1, u "java/util/Objects"), (60, .methodref 106 107), (0, .class_ 108), (0, .nameAndType 109 110), (0, u "jdk/internal/util/Preconditions"), (0, u "checkIndex"), (0, u "(IILjava/util/function/BiFunction;)I"), (60, u "(II)I")] 12

def k20m0 : Method := { name := "<init>", desc := "()V", sig := { parameters := [], returnType := none }, accessFlags := 2, code := none }
def k20c1 : Code := { maxStack := 3, maxLocals := 2, code := jdk_31_method_17_code, exceptionTable := #[], attributes := #[] }
def k20m1 : Method := { name := "checkIndex", desc := "(II)I", sig := { parameters := [.int, .int], returnType := some .int }, accessFlags := 9, code := some k20c1 }
/-- java/util/Objects -/
def k20 : Class := { plain "java/util/Objects" (some 0) with
  accessFlags := 49
  interfaces := #[]
  cf := some (fileOf pool20 42 #[] #[{ accessFlags := 2, nameIndex := 5, descriptorIndex := 6, attributes := #[] }, { accessFlags := 9, nameIndex := 109, descriptorIndex := 171, attributes := #[] }] 49 2 #[] #[])
  fields := #[]
  methods := #[k20m0, k20m1]
  instanceTypes := #[]
  staticTypes := #[]
  resolved := Array.replicate 184 none
  statics := none }

def pool21 : Array CpInfo := pool [(2, .class_ 4), (1, u "java/lang/Object"), (0, u "<init>"), (0, u "()V"), (17, .class_ 26), (1, u "jdk/internal/util/Preconditions"), (6, u "checkIndex"), (21, .class_ 56), (0, u "jdk/internal/util/Preconditions$4"), (57, .class_ 115), (0, u "jdk/internal/util/Preconditions$1"), (7, u "SIOOBE_FORMATTER"), (0, u "Ljava/util/function/BiFunction;"), (0, .class_ 126), (0, u "jdk/internal/util/Preconditions$2"), (3, u "AIOOBE_FORMATTER"), (0, .class_ 132), (0, u "jdk/internal/util/Preconditions$3"), (3, u "IOOBE_FORMATTER"), (41, u "(IILjava/util/function/BiFunction;)I")] 15

def k21m0 : Method := { name := "<init>", desc := "()V", sig := { parameters := [], returnType := none }, accessFlags := 1, code := none }
def k21c1 : Code := { maxStack := 3, maxLocals := 3, code := jdk_41_method_11_code, exceptionTable := #[], attributes := #[] }
def k21m1 : Method := { name := "checkIndex", desc := "(IILjava/util/function/BiFunction;)I", sig := { parameters := [.int, .int, (.object "java/util/function/BiFunction")], returnType := some .int }, accessFlags := 9, code := some k21c1 }
/-- jdk/internal/util/Preconditions -/
def k21 : Class := { plain "jdk/internal/util/Preconditions" (some 0) with
  accessFlags := 33
  interfaces := #[]
  cf := some (fileOf pool21 24 #[.nestMembers #[55, 131, 125, 114]] #[{ accessFlags := 1, nameIndex := 5, descriptorIndex := 6, attributes := #[] }, { accessFlags := 9, nameIndex := 33, descriptorIndex := 178, attributes := #[] }] 33 2 #[] #[{ accessFlags := 25, nameIndex := 123, descriptorIndex := 124, attributes := #[] }, { accessFlags := 25, nameIndex := 130, descriptorIndex := 124, attributes := #[] }, { accessFlags := 25, nameIndex := 136, descriptorIndex := 124, attributes := #[] }])
  fields := #[{ name := "SIOOBE_FORMATTER", type := (.object "java/util/function/BiFunction"), accessFlags := 25, slot := 0, constantValue := 0 }, { name := "AIOOBE_FORMATTER", type := (.object "java/util/function/BiFunction"), accessFlags := 25, slot := 1, constantValue := 0 }, { name := "IOOBE_FORMATTER", type := (.object "java/util/function/BiFunction"), accessFlags := 25, slot := 2, constantValue := 0 }]
  methods := #[k21m0, k21m1]
  instanceTypes := #[]
  staticTypes := #[(.object "java/util/function/BiFunction"), (.object "java/util/function/BiFunction"), (.object "java/util/function/BiFunction")]
  resolved := Array.replicate 194 none
  statics := some 2 }

def pool22 : Array CpInfo := pool [(1, .class_ 2), (0, u "java/lang/String"), (1, .class_ 6), (1, u "java/lang/Object"), (0, u "<init>"), (0, u "()V"), (0, .methodref 1 10), (0, .nameAndType 11 12), (0, u "checkIndex"), (0, u "(II)V"), (1, .class_ 16), (1, u "java/lang/StringLatin1"), (36, u "([BI)C"), (67, u "$assertionsDisabled"), (0, u "Z"), (98, .class_ 223), (1, u "java/lang/StringLatin1$LinesSpliterator"), (28, u "charAt"), (137, .class_ 391), (0, u "java/lang/StringLatin1$CharsSpliterator")] 3

def k22m0 : Method := { name := "<init>", desc := "()V", sig := { parameters := [], returnType := none }, accessFlags := 0, code := none }
def k22c1 : Code := { maxStack := 2, maxLocals := 2, code := jdk_43_method_2_code, exceptionTable := #[], attributes := #[] }
def k22m1 : Method := { name := "charAt", desc := "([BI)C", sig := { parameters := [(.array .byte), .int], returnType := some .char }, accessFlags := 9, code := some k22c1 }
/-- java/lang/StringLatin1 -/
def k22 : Class := { plain "java/lang/StringLatin1" (some 0) with
  accessFlags := 48
  interfaces := #[]
  cf := some (fileOf pool22 14 #[.nestMembers #[390, 221]] #[{ accessFlags := 0, nameIndex := 7, descriptorIndex := 8, attributes := #[] }, { accessFlags := 9, nameIndex := 252, descriptorIndex := 53, attributes := #[] }] 48 4 #[] #[{ accessFlags := 4120, nameIndex := 121, descriptorIndex := 122, attributes := #[] }])
  fields := #[{ name := "$assertionsDisabled", type := .boolean, accessFlags := 4120, slot := 0, constantValue := 0 }]
  methods := #[k22m0, k22m1]
  instanceTypes := #[]
  staticTypes := #[.boolean]
  resolved := Array.replicate 395 none
  statics := none }

def pool23 : Array CpInfo := pool [(9, u "<init>"), (6, .class_ 18), (1, u "java/lang/Object"), (0, u "()V"), (1, .class_ 23), (1, u "jdk/internal/util/ArraysSupport"), (0, u "LOG2_ARRAY_LONG_INDEX_SCALE"), (0, u "I"), (2, u "U"), (0, u "Ljdk/internal/misc/Unsafe;"), (8, u "BIG_ENDIAN"), (0, u "Z"), (8, u "LOG2_BYTE_BIT_SIZE"), (4, u "LOG2_ARRAY_INT_INDEX_SCALE"), (54, u "JLA"), (0, u "Ljdk/internal/access/JavaLangAccess;"), (11, u "LOG2_ARRAY_BOOLEAN_INDEX_SCALE"), (9, u "LOG2_ARRAY_BYTE_INDEX_SCALE"), (5, u "LOG2_ARRAY_CHAR_INDEX_SCALE"), (5, u "LOG2_ARRAY_SHORT_INDEX_SCALE"), (18, u "LOG2_ARRAY_FLOAT_INDEX_SCALE"), (24, u "LOG2_ARRAY_DOUBLE_INDEX_SCALE"), (89, u "T_BOOLEAN"), (2, u "T_CHAR"), (1, u "T_FLOAT"), (1, u "T_DOUBLE"), (1, u "T_BYTE"), (1, u "T_SHORT"), (1, u "T_INT"), (1, u "T_LONG"), (1, u "SOFT_MAX_ARRAY_LENGTH")] 83

def k23m0 : Method := { name := "<init>", desc := "()V", sig := { parameters := [], returnType := none }, accessFlags := 2, code := none }
/-- jdk/internal/util/ArraysSupport -/
def k23 : Class := { plain "jdk/internal/util/ArraysSupport" (some 0) with
  accessFlags := 33
  interfaces := #[]
  cf := some (fileOf pool23 21 #[] #[{ accessFlags := 2, nameIndex := 9, descriptorIndex := 19, attributes := #[] }] 33 16 #[] #[{ accessFlags := 24, nameIndex := 28, descriptorIndex := 29, attributes := #[] }, { accessFlags := 26, nameIndex := 38, descriptorIndex := 39, attributes := #[] }, { accessFlags := 25, nameIndex := 121, descriptorIndex := 25, attributes := #[] }, { accessFlags := 25, nameIndex := 131, descriptorIndex := 25, attributes := #[] }, { accessFlags := 25, nameIndex := 137, descriptorIndex := 25, attributes := #[] }, { accessFlags := 25, nameIndex := 143, descriptorIndex := 25, attributes := #[] }, { accessFlags := 25, nameIndex := 53, descriptorIndex := 25, attributes := #[] }, { accessFlags := 25, nameIndex := 24, descriptorIndex := 25, attributes := #[] }, { accessFlags := 25, nameIndex := 162, descriptorIndex := 25, attributes := #[] }, { accessFlags := 25, nameIndex := 187, descriptorIndex := 25, attributes := #[] }, { accessFlags := 26, nameIndex := 48, descriptorIndex := 25, attributes := #[] }, { accessFlags := 25, nameIndex := 277, descriptorIndex := 25, attributes := #[] }, { accessFlags := 25, nameIndex := 280, descriptorIndex := 25, attributes := #[] }, { accessFlags := 25, nameIndex := 282, descriptorIndex := 25, attributes := #[] }, { accessFlags := 25, nameIndex := 284, descriptorIndex := 25, attributes := #[] }, { accessFlags := 25, nameIndex := 286, descriptorIndex := 25, attributes := #[] }, { accessFlags := 25, nameIndex := 288, descriptorIndex := 25, attributes := #[] }, { accessFlags := 25, nameIndex := 290, descriptorIndex := 25, attributes := #[] }, { accessFlags := 25, nameIndex := 292, descriptorIndex := 25, attributes := #[] }, { accessFlags := 26, nameIndex := 108, descriptorIndex := 109, attributes := #[] }, { accessFlags := 25, nameIndex := 294, descriptorIndex := 25, attributes := #[] }])
  fields := #[{ name := "U", type := (.object "jdk/internal/misc/Unsafe"), accessFlags := 24, slot := 0, constantValue := 0 }, { name := "BIG_ENDIAN", type := .boolean, accessFlags := 26, slot := 1, constantValue := 0 }, { name := "LOG2_ARRAY_BOOLEAN_INDEX_SCALE", type := .int, accessFlags := 25, slot := 2, constantValue := 0 }, { name := "LOG2_ARRAY_BYTE_INDEX_SCALE", type := .int, accessFlags := 25, slot := 3, constantValue := 0 }, { name := "LOG2_ARRAY_CHAR_INDEX_SCALE", type := .int, accessFlags := 25, slot := 4, constantValue := 0 }, { name := "LOG2_ARRAY_SHORT_INDEX_SCALE", type := .int, accessFlags := 25, slot := 5, constantValue := 0 }, { name := "LOG2_ARRAY_INT_INDEX_SCALE", type := .int, accessFlags := 25, slot := 6, constantValue := 0 }, { name := "LOG2_ARRAY_LONG_INDEX_SCALE", type := .int, accessFlags := 25, slot := 7, constantValue := 0 }, { name := "LOG2_ARRAY_FLOAT_INDEX_SCALE", type := .int, accessFlags := 25, slot := 8, constantValue := 0 }, { name := "LOG2_ARRAY_DOUBLE_INDEX_SCALE", type := .int, accessFlags := 25, slot := 9, constantValue := 0 }, { name := "LOG2_BYTE_BIT_SIZE", type := .int, accessFlags := 26, slot := 10, constantValue := 0 }, { name := "T_BOOLEAN", type := .int, accessFlags := 25, slot := 11, constantValue := 0 }, { name := "T_CHAR", type := .int, accessFlags := 25, slot := 12, constantValue := 0 }, { name := "T_FLOAT", type := .int, accessFlags := 25, slot := 13, constantValue := 0 }, { name := "T_DOUBLE", type := .int, accessFlags := 25, slot := 14, constantValue := 0 }, { name := "T_BYTE", type := .int, accessFlags := 25, slot := 15, constantValue := 0 }, { name := "T_SHORT", type := .int, accessFlags := 25, slot := 16, constantValue := 0 }, { name := "T_INT", type := .int, accessFlags := 25, slot := 17, constantValue := 0 }, { name := "T_LONG", type := .int, accessFlags := 25, slot := 18, constantValue := 0 }, { name := "JLA", type := (.object "jdk/internal/access/JavaLangAccess"), accessFlags := 26, slot := 19, constantValue := 0 }, { name := "SOFT_MAX_ARRAY_LENGTH", type := .int, accessFlags := 25, slot := 20, constantValue := 0 }]
  methods := #[k23m0]
  instanceTypes := #[]
  staticTypes := #[(.object "jdk/internal/misc/Unsafe"), .boolean, .int, .int, .int, .int, .int, .int, .int, .int, .int, .int, .int, .int, .int, .int, .int, .int, .int, (.object "jdk/internal/access/JavaLangAccess"), .int]
  resolved := Array.replicate 378 none
  statics := none }

/-- the primitive boolean -/
def k24 : Class := { plain "boolean" none with kind := .primitive 'Z', accessFlags := 0x411 }
/-- [Z -/
def k25 : Class := { plain "[Z" (some 0) with kind := .array 24 .boolean, interfaces := #[15, 2], accessFlags := 1041 }

/-- the primitive byte -/
def k26 : Class := { plain "byte" none with kind := .primitive 'B', accessFlags := 0x411 }
/-- [B -/
def k27 : Class := { plain "[B" (some 0) with kind := .array 26 .byte, interfaces := #[15, 2], accessFlags := 1041 }

/-- the primitive int -/
def k28 : Class := { plain "int" none with kind := .primitive 'I', accessFlags := 0x411 }
/-- [I -/
def k29 : Class := { plain "[I" (some 0) with kind := .array 28 .int, interfaces := #[15, 2], accessFlags := 1041 }

/-- [Ljava/lang/Object; -/
def k30 : Class := { plain "[Ljava/lang/Object;" (some 0) with kind := .array 0 (.object "java/lang/Object"), interfaces := #[15, 2], accessFlags := 1041 }

def heap : Heap := #[{ cls := 7, slots := #[.long 0, .int 1, .null, .int 0, .null, .int 0, .int 0], vm := .statics 7 },
  { cls := 16, slots := #[.long 0, .int 0, .ref 3, .ref 4], vm := .statics 16 },
  { cls := 21, slots := #[.null, .null, .null], vm := .statics 21 },
  { cls := 30, slots := #[], vm := .none },
  { cls := 30, slots := #[], vm := .none }]
def classes : Array Class := #[k0, k1, k2, k3, k4, k5, k6, k7, k8, k9, k10, k11, k12, k13, k14, k15, k16, k17, k18, k19, k20, k21, k22, k23, k24, k25, k26, k27, k28, k29, k30]
def interned : List (Array UInt16 × Addr) := []
def slotsUsed : Nat := 14
def theMethod : MethodId := ⟨1, 2⟩
def args0 : Array Value := #[.int 3, .int 4, .int 1, .int 0]
def aboutOver (below : List Frame) : State where
  vm := { classes := classes, interned := interned.toArray }
  heap := heap
  slotsUsed := slotsUsed
  threads := #[{ frames := .invoking theMethod args0 :: below }]
def below0 : List Frame := [.native { method := ⟨0, 0⟩, args := #[] }]
def about1 : State := aboutOver below0
def p0 : Program := .bare "" "" ""
def e0 : Env := launch0.env 0 0 0
theorem w_frames : about1.frames = Frame.invoking theMethod args0 :: below0 := rfl
set_option maxRecDepth 65536 in
theorem w_args : argsFit about1.vm theMethod args0 = true := by decide +kernel
set_option maxRecDepth 65536 in
theorem w_heap : heapFits about1 = true := by decide +kernel
set_option maxRecDepth 65536 in
theorem w_runnable : about1.curStatus? = some .runnable := by decide +kernel
set_option maxRecDepth 65536 in
theorem w_alone : about1.alone = true := by decide +kernel
set_option maxRecDepth 65536 in
theorem w_named : about1.methodNamed? x = some theMethod := by decide +kernel
set_option maxRecDepth 65536 in
theorem w_hears : about1.hears theMethod below0 = true := by decide +kernel
set_option maxRecDepth 65536 in
theorem w_ripe : about1.ripe theMethod args0 below0 = true := by decide +kernel
theorem w_running : about1.status = .running := rfl
set_option maxRecDepth 65536 in
theorem w_room : about1.hasRoom e0.platform room_1 = true :=
  launch0.hasRoom_least _ room_1 (by decide +kernel) (by decide +kernel) (by decide +kernel) (by decide +kernel) (by decide +kernel) (by decide +kernel)
theorem allAtoms_all (ts : List Jvm.Cond) (a : Array Jvm.Value) (st : Jvm.State) : (allAtoms ts).before a st = ts.all (fun c => c.before a st) := by
  induction ts with
  | nil => rfl
  | cons c t ih =>
    show (Jvm.Cond.and c (allAtoms t)).before a st = _
    rw [Jvm.Cond.before_and, ih, List.all_cons]
def words1 : List Jvm.Cond := Jvm.Cond.code x code maxLocals ret :: tables_1
/-- a 'code' word, met by the world's own term for the bytes: nothing is compared byte by byte -/
theorem code_word {y : MethodName} {bytes : ByteArray} {mx : Nat} {rt : Option FieldType} {a : Array Value} {s : State} {m : MethodId} {meth : Method} {c : Code} (h1 : s.methodNamed? y = some m) (h2 : s.vm.method? m = some meth) (h3 : meth.code = some c) (h4 : c.code = bytes)
    (h5 : (c.maxLocals == mx && c.exceptionTable.isEmpty && decide (c.maxStack ≤ mostOperands) && decide (meth.sig.returnType = rt) && !meth.locks && decide (parseMethodDescriptor y.desc = some meth.sig)) = true) : (Jvm.Cond.code y bytes mx rt).before a s = true := by
  simp only [Bool.and_eq_true, beq_iff_eq, Bool.not_eq_true', decide_eq_true_eq] at h5
  obtain ⟨⟨⟨⟨⟨g1, g2⟩, g3⟩, g4⟩, g5⟩, g6⟩ := h5
  simp [Cond.before, Cond.holds, Cond.value, h1, h2, h3, h4, g1, g2, g3, g4, g5, g6]
def isCode : Jvm.Cond → Bool
  | .code _ _ _ _ => true
  | _ => false
theorem all_split {L : List Jvm.Cond} {P : Jvm.Cond → Bool} (h1 : L.all (fun c => isCode c || P c) = true) (h2 : ∀ c ∈ L.filter isCode, P c = true) : L.all P = true := by
  refine List.all_eq_true.mpr fun c hc => ?_
  have h := List.all_eq_true.mp h1 c hc
  rcases Bool.eq_false_or_eq_true (isCode c) with hi | hi
  · exact h2 c (List.mem_filter.mpr ⟨hc, hi⟩)
  · simpa [hi] using h
set_option maxRecDepth 65536 in
theorem w_c0 : (Jvm.Cond.code x code maxLocals ret).before args0 about1 = true := code_word (m := ⟨1, 2⟩) (meth := k1m2) (c := k1c2) (by decide +kernel) rfl rfl rfl (by decide +kernel)
set_option maxRecDepth 65536 in
theorem w_c1 : (Jvm.Cond.code ({ cls := "com/example/muster/muster/model/GridMapContainsPinLaw", name := "row", desc := "(I)Ljava/lang/String;" } : Jvm.MethodName) method_2_code (1 : Nat) (Option.some (Jvm.ClassFile.FieldType.object "java/lang/String"))).before args0 about1 = true := code_word (m := ⟨1, 1⟩) (meth := k1m1) (c := k1c1) (by decide +kernel) rfl rfl rfl (by decide +kernel)
set_option maxRecDepth 65536 in
theorem w_c2 : (Jvm.Cond.code ({ cls := "java/util/ArrayList", name := "<init>", desc := "()V" } : Jvm.MethodName) jdk_38_method_2_code (1 : Nat) (Option.none : Option Jvm.ClassFile.FieldType)).before args0 about1 = true := code_word (m := ⟨16, 0⟩) (meth := k16m0) (c := k16c0) (by decide +kernel) rfl rfl rfl (by decide +kernel)
set_option maxRecDepth 65536 in
theorem w_c3 : (Jvm.Cond.code ({ cls := "java/util/AbstractList", name := "<init>", desc := "()V" } : Jvm.MethodName) jdk_39_method_1_code (1 : Nat) (Option.none : Option Jvm.ClassFile.FieldType)).before args0 about1 = true := code_word (m := ⟨13, 0⟩) (meth := k13m0) (c := k13c0) (by decide +kernel) rfl rfl rfl (by decide +kernel)
set_option maxRecDepth 65536 in
theorem w_c4 : (Jvm.Cond.code ({ cls := "java/util/AbstractCollection", name := "<init>", desc := "()V" } : Jvm.MethodName) jdk_22_method_1_code (1 : Nat) (Option.none : Option Jvm.ClassFile.FieldType)).before args0 about1 = true := code_word (m := ⟨10, 0⟩) (meth := k10m0) (c := k10c0) (by decide +kernel) rfl rfl rfl (by decide +kernel)
set_option maxRecDepth 65536 in
theorem w_c5 : (Jvm.Cond.code ({ cls := "java/lang/Object", name := "<init>", desc := "()V" } : Jvm.MethodName) object_method_1_code (1 : Nat) (Option.none : Option Jvm.ClassFile.FieldType)).before args0 about1 = true := code_word (m := ⟨0, 0⟩) (meth := k0m0) (c := k0c0) (by decide +kernel) rfl rfl rfl (by decide +kernel)
set_option maxRecDepth 65536 in
theorem w_c6 : (Jvm.Cond.code ({ cls := "java/util/ArrayList", name := "add", desc := "(Ljava/lang/Object;)Z" } : Jvm.MethodName) jdk_38_method_25_code (2 : Nat) (Option.some Jvm.ClassFile.FieldType.boolean)).before args0 about1 = true := code_word (m := ⟨16, 8⟩) (meth := k16m8) (c := k16c8) (by decide +kernel) rfl rfl rfl (by decide +kernel)
set_option maxRecDepth 65536 in
theorem w_c7 : (Jvm.Cond.code ({ cls := "java/util/ArrayList", name := "add", desc := "(Ljava/lang/Object;[Ljava/lang/Object;I)V" } : Jvm.MethodName) jdk_38_method_24_code (4 : Nat) (Option.none : Option Jvm.ClassFile.FieldType)).before args0 about1 = true := code_word (m := ⟨16, 7⟩) (meth := k16m7) (c := k16c7) (by decide +kernel) rfl rfl rfl (by decide +kernel)
set_option maxRecDepth 65536 in
theorem w_c8 : (Jvm.Cond.code ({ cls := "java/util/ArrayList", name := "grow", desc := "()[Ljava/lang/Object;" } : Jvm.MethodName) jdk_38_method_7_code (1 : Nat) (Option.some (Jvm.ClassFile.FieldType.array (Jvm.ClassFile.FieldType.object "java/lang/Object")))).before args0 about1 = true := code_word (m := ⟨16, 2⟩) (meth := k16m2) (c := k16c2) (by decide +kernel) rfl rfl rfl (by decide +kernel)
set_option maxRecDepth 65536 in
theorem w_c9 : (Jvm.Cond.code ({ cls := "java/util/ArrayList", name := "grow", desc := "(I)[Ljava/lang/Object;" } : Jvm.MethodName) jdk_38_method_6_code (4 : Nat) (Option.some (Jvm.ClassFile.FieldType.array (Jvm.ClassFile.FieldType.object "java/lang/Object")))).before args0 about1 = true := code_word (m := ⟨16, 1⟩) (meth := k16m1) (c := k16c1) (by decide +kernel) rfl rfl rfl (by decide +kernel)
set_option maxRecDepth 65536 in
theorem w_c10 : (Jvm.Cond.code ({ cls := "java/lang/Math", name := "max", desc := "(II)I" } : Jvm.MethodName) jdk_29_method_65_code (2 : Nat) (Option.some Jvm.ClassFile.FieldType.int)).before args0 about1 = true := code_word (m := ⟨17, 2⟩) (meth := k17m2) (c := k17c2) (by decide +kernel) rfl rfl rfl (by decide +kernel)
set_option maxRecDepth 65536 in
theorem w_c11 : (Jvm.Cond.code ({ cls := "com/example/muster/muster/model/GridMap", name := "<init>", desc := "(Ljava/util/List;)V" } : Jvm.MethodName) prog_14_method_1_code (6 : Nat) (Option.none : Option Jvm.ClassFile.FieldType)).before args0 about1 = true := code_word (m := ⟨19, 0⟩) (meth := k19m0) (c := k19c0) (by decide +kernel) rfl rfl rfl (by decide +kernel)
set_option maxRecDepth 65536 in
theorem w_c12 : (Jvm.Cond.code ({ cls := "java/util/ArrayList", name := "isEmpty", desc := "()Z" } : Jvm.MethodName) jdk_38_method_9_code (1 : Nat) (Option.some Jvm.ClassFile.FieldType.boolean)).before args0 about1 = true := code_word (m := ⟨16, 4⟩) (meth := k16m4) (c := k16c4) (by decide +kernel) rfl rfl rfl (by decide +kernel)
set_option maxRecDepth 65536 in
theorem w_c13 : (Jvm.Cond.code ({ cls := "java/util/ArrayList", name := "get", desc := "(I)Ljava/lang/Object;" } : Jvm.MethodName) jdk_38_method_20_code (2 : Nat) (Option.some (Jvm.ClassFile.FieldType.object "java/lang/Object"))).before args0 about1 = true := code_word (m := ⟨16, 6⟩) (meth := k16m6) (c := k16c6) (by decide +kernel) rfl rfl rfl (by decide +kernel)
set_option maxRecDepth 65536 in
theorem w_c14 : (Jvm.Cond.code ({ cls := "java/util/Objects", name := "checkIndex", desc := "(II)I" } : Jvm.MethodName) jdk_31_method_17_code (2 : Nat) (Option.some Jvm.ClassFile.FieldType.int)).before args0 about1 = true := code_word (m := ⟨20, 1⟩) (meth := k20m1) (c := k20c1) (by decide +kernel) rfl rfl rfl (by decide +kernel)
set_option maxRecDepth 65536 in
theorem w_c15 : (Jvm.Cond.code ({ cls := "jdk/internal/util/Preconditions", name := "checkIndex", desc := "(IILjava/util/function/BiFunction;)I" } : Jvm.MethodName) jdk_41_method_11_code (3 : Nat) (Option.some Jvm.ClassFile.FieldType.int)).before args0 about1 = true := code_word (m := ⟨21, 1⟩) (meth := k21m1) (c := k21c1) (by decide +kernel) rfl rfl rfl (by decide +kernel)
set_option maxRecDepth 65536 in
theorem w_c16 : (Jvm.Cond.code ({ cls := "java/util/ArrayList", name := "elementData", desc := "(I)Ljava/lang/Object;" } : Jvm.MethodName) jdk_38_method_18_code (2 : Nat) (Option.some (Jvm.ClassFile.FieldType.object "java/lang/Object"))).before args0 about1 = true := code_word (m := ⟨16, 5⟩) (meth := k16m5) (c := k16c5) (by decide +kernel) rfl rfl rfl (by decide +kernel)
set_option maxRecDepth 65536 in
theorem w_c17 : (Jvm.Cond.code ({ cls := "java/lang/String", name := "isEmpty", desc := "()Z" } : Jvm.MethodName) jdk_42_method_55_code (1 : Nat) (Option.some Jvm.ClassFile.FieldType.boolean)).before args0 about1 = true := code_word (m := ⟨7, 2⟩) (meth := k7m2) (c := k7c2) (by decide +kernel) rfl rfl rfl (by decide +kernel)
set_option maxRecDepth 65536 in
theorem w_c18 : (Jvm.Cond.code ({ cls := "java/util/ArrayList", name := "size", desc := "()I" } : Jvm.MethodName) jdk_38_method_8_code (1 : Nat) (Option.some Jvm.ClassFile.FieldType.int)).before args0 about1 = true := code_word (m := ⟨16, 3⟩) (meth := k16m3) (c := k16c3) (by decide +kernel) rfl rfl rfl (by decide +kernel)
set_option maxRecDepth 65536 in
theorem w_c19 : (Jvm.Cond.code ({ cls := "java/lang/String", name := "length", desc := "()I" } : Jvm.MethodName) jdk_42_method_54_code (1 : Nat) (Option.some Jvm.ClassFile.FieldType.int)).before args0 about1 = true := code_word (m := ⟨7, 1⟩) (meth := k7m1) (c := k7c1) (by decide +kernel) rfl rfl rfl (by decide +kernel)
set_option maxRecDepth 65536 in
theorem w_c20 : (Jvm.Cond.code ({ cls := "java/lang/String", name := "coder", desc := "()B" } : Jvm.MethodName) jdk_42_method_152_code (1 : Nat) (Option.some Jvm.ClassFile.FieldType.byte)).before args0 about1 = true := code_word (m := ⟨7, 4⟩) (meth := k7m4) (c := k7c4) (by decide +kernel) rfl rfl rfl (by decide +kernel)
set_option maxRecDepth 65536 in
theorem w_c21 : (Jvm.Cond.code ({ cls := "java/lang/Math", name := "multiplyExact", desc := "(II)I" } : Jvm.MethodName) jdk_29_method_28_code (4 : Nat) (Option.some Jvm.ClassFile.FieldType.int)).before args0 about1 = true := code_word (m := ⟨17, 1⟩) (meth := k17m1) (c := k17c1) (by decide +kernel) rfl rfl rfl (by decide +kernel)
set_option maxRecDepth 65536 in
theorem w_c22 : (Jvm.Cond.code ({ cls := "java/lang/String", name := "charAt", desc := "(I)C" } : Jvm.MethodName) jdk_42_method_56_code (2 : Nat) (Option.some Jvm.ClassFile.FieldType.char)).before args0 about1 = true := code_word (m := ⟨7, 3⟩) (meth := k7m3) (c := k7c3) (by decide +kernel) rfl rfl rfl (by decide +kernel)
set_option maxRecDepth 65536 in
theorem w_c23 : (Jvm.Cond.code ({ cls := "java/lang/String", name := "isLatin1", desc := "()Z" } : Jvm.MethodName) jdk_42_method_154_code (1 : Nat) (Option.some Jvm.ClassFile.FieldType.boolean)).before args0 about1 = true := code_word (m := ⟨7, 5⟩) (meth := k7m5) (c := k7c5) (by decide +kernel) rfl rfl rfl (by decide +kernel)
set_option maxRecDepth 65536 in
theorem w_c24 : (Jvm.Cond.code ({ cls := "java/lang/StringLatin1", name := "charAt", desc := "([BI)C" } : Jvm.MethodName) jdk_43_method_2_code (2 : Nat) (Option.some Jvm.ClassFile.FieldType.char)).before args0 about1 = true := code_word (m := ⟨22, 1⟩) (meth := k22m1) (c := k22c1) (by decide +kernel) rfl rfl rfl (by decide +kernel)
set_option maxRecDepth 65536 in
theorem w_c25 : (Jvm.Cond.code ({ cls := "java/lang/String", name := "checkIndex", desc := "(II)V" } : Jvm.MethodName) jdk_42_method_155_code (2 : Nat) (Option.none : Option Jvm.ClassFile.FieldType)).before args0 about1 = true := code_word (m := ⟨7, 6⟩) (meth := k7m6) (c := k7c6) (by decide +kernel) rfl rfl rfl (by decide +kernel)
set_option maxRecDepth 65536 in
theorem w_c26 : (Jvm.Cond.code ({ cls := "com/example/muster/muster/model/GridMap", name := "contains", desc := "(II)Z" } : Jvm.MethodName) prog_14_method_4_code (3 : Nat) (Option.some Jvm.ClassFile.FieldType.boolean)).before args0 about1 = true := code_word (m := ⟨19, 1⟩) (meth := k19m1) (c := k19c1) (by decide +kernel) rfl rfl rfl (by decide +kernel)
def codes1 : List Jvm.Cond := [Jvm.Cond.code x code maxLocals ret, Jvm.Cond.code ({ cls := "com/example/muster/muster/model/GridMapContainsPinLaw", name := "row", desc := "(I)Ljava/lang/String;" } : Jvm.MethodName) method_2_code (1 : Nat) (Option.some (Jvm.ClassFile.FieldType.object "java/lang/String")), Jvm.Cond.code ({ cls := "java/util/ArrayList", name := "<init>", desc := "()V" } : Jvm.MethodName) jdk_38_method_2_code (1 : Nat) (Option.none : Option Jvm.ClassFile.FieldType), Jvm.Cond.code ({ cls := "java/util/AbstractList", name := "<init>", desc := "()V" } : Jvm.MethodName) jdk_39_method_1_code (1 : Nat) (Option.none : Option Jvm.ClassFile.FieldType), Jvm.Cond.code ({ cls := "java/util/AbstractCollection", name := "<init>", desc := "()V" } : Jvm.MethodName) jdk_22_method_1_code (1 : Nat) (Option.none : Option Jvm.ClassFile.FieldType), Jvm.Cond.code ({ cls := "java/lang/Object", name := "<init>", desc := "()V" } : Jvm.MethodName) object_method_1_code (1 : Nat) (Option.none : Option Jvm.ClassFile.FieldType), Jvm.Cond.code ({ cls := "java/util/ArrayList", name := "add", desc := "(Ljava/lang/Object;)Z" } : Jvm.MethodName) jdk_38_method_25_code (2 : Nat) (Option.some Jvm.ClassFile.FieldType.boolean), Jvm.Cond.code ({ cls := "java/util/ArrayList", name := "add", desc := "(Ljava/lang/Object;[Ljava/lang/Object;I)V" } : Jvm.MethodName) jdk_38_method_24_code (4 : Nat) (Option.none : Option Jvm.ClassFile.FieldType), Jvm.Cond.code ({ cls := "java/util/ArrayList", name := "grow", desc := "()[Ljava/lang/Object;" } : Jvm.MethodName) jdk_38_method_7_code (1 : Nat) (Option.some (Jvm.ClassFile.FieldType.array (Jvm.ClassFile.FieldType.object "java/lang/Object"))), Jvm.Cond.code ({ cls := "java/util/ArrayList", name := "grow", desc := "(I)[Ljava/lang/Object;" } : Jvm.MethodName) jdk_38_method_6_code (4 : Nat) (Option.some (Jvm.ClassFile.FieldType.array (Jvm.ClassFile.FieldType.object "java/lang/Object"))), Jvm.Cond.code ({ cls := "java/lang/Math", name := "max", desc := "(II)I" } : Jvm.MethodName) jdk_29_method_65_code (2 : Nat) (Option.some Jvm.ClassFile.FieldType.int), Jvm.Cond.code ({ cls := "com/example/muster/muster/model/GridMap", name := "<init>", desc := "(Ljava/util/List;)V" } : Jvm.MethodName) prog_14_method_1_code (6 : Nat) (Option.none : Option Jvm.ClassFile.FieldType), Jvm.Cond.code ({ cls := "java/util/ArrayList", name := "isEmpty", desc := "()Z" } : Jvm.MethodName) jdk_38_method_9_code (1 : Nat) (Option.some Jvm.ClassFile.FieldType.boolean), Jvm.Cond.code ({ cls := "java/util/ArrayList", name := "get", desc := "(I)Ljava/lang/Object;" } : Jvm.MethodName) jdk_38_method_20_code (2 : Nat) (Option.some (Jvm.ClassFile.FieldType.object "java/lang/Object")), Jvm.Cond.code ({ cls := "java/util/Objects", name := "checkIndex", desc := "(II)I" } : Jvm.MethodName) jdk_31_method_17_code (2 : Nat) (Option.some Jvm.ClassFile.FieldType.int), Jvm.Cond.code ({ cls := "jdk/internal/util/Preconditions", name := "checkIndex", desc := "(IILjava/util/function/BiFunction;)I" } : Jvm.MethodName) jdk_41_method_11_code (3 : Nat) (Option.some Jvm.ClassFile.FieldType.int), Jvm.Cond.code ({ cls := "java/util/ArrayList", name := "elementData", desc := "(I)Ljava/lang/Object;" } : Jvm.MethodName) jdk_38_method_18_code (2 : Nat) (Option.some (Jvm.ClassFile.FieldType.object "java/lang/Object")), Jvm.Cond.code ({ cls := "java/lang/String", name := "isEmpty", desc := "()Z" } : Jvm.MethodName) jdk_42_method_55_code (1 : Nat) (Option.some Jvm.ClassFile.FieldType.boolean), Jvm.Cond.code ({ cls := "java/util/ArrayList", name := "size", desc := "()I" } : Jvm.MethodName) jdk_38_method_8_code (1 : Nat) (Option.some Jvm.ClassFile.FieldType.int), Jvm.Cond.code ({ cls := "java/lang/String", name := "length", desc := "()I" } : Jvm.MethodName) jdk_42_method_54_code (1 : Nat) (Option.some Jvm.ClassFile.FieldType.int), Jvm.Cond.code ({ cls := "java/lang/String", name := "coder", desc := "()B" } : Jvm.MethodName) jdk_42_method_152_code (1 : Nat) (Option.some Jvm.ClassFile.FieldType.byte), Jvm.Cond.code ({ cls := "java/lang/Math", name := "multiplyExact", desc := "(II)I" } : Jvm.MethodName) jdk_29_method_28_code (4 : Nat) (Option.some Jvm.ClassFile.FieldType.int), Jvm.Cond.code ({ cls := "java/lang/String", name := "charAt", desc := "(I)C" } : Jvm.MethodName) jdk_42_method_56_code (2 : Nat) (Option.some Jvm.ClassFile.FieldType.char), Jvm.Cond.code ({ cls := "java/lang/String", name := "isLatin1", desc := "()Z" } : Jvm.MethodName) jdk_42_method_154_code (1 : Nat) (Option.some Jvm.ClassFile.FieldType.boolean), Jvm.Cond.code ({ cls := "java/lang/StringLatin1", name := "charAt", desc := "([BI)C" } : Jvm.MethodName) jdk_43_method_2_code (2 : Nat) (Option.some Jvm.ClassFile.FieldType.char), Jvm.Cond.code ({ cls := "java/lang/String", name := "checkIndex", desc := "(II)V" } : Jvm.MethodName) jdk_42_method_155_code (2 : Nat) (Option.none : Option Jvm.ClassFile.FieldType), Jvm.Cond.code ({ cls := "com/example/muster/muster/model/GridMap", name := "contains", desc := "(II)Z" } : Jvm.MethodName) prog_14_method_4_code (3 : Nat) (Option.some Jvm.ClassFile.FieldType.boolean)]
set_option maxRecDepth 65536 in
theorem codes_eq : words1.filter isCode = codes1 := rfl
theorem w_codes : ∀ c ∈ words1.filter isCode, c.before args0 about1 = true := by
  rw [codes_eq]
  intro c hc
  simp only [codes1, List.mem_cons, List.not_mem_nil, or_false] at hc
  rcases hc with rfl | rfl | rfl | rfl | rfl | rfl | rfl | rfl | rfl | rfl | rfl | rfl | rfl | rfl | rfl | rfl | rfl | rfl | rfl | rfl | rfl | rfl | rfl | rfl | rfl | rfl | rfl
  · exact w_c0
  · exact w_c1
  · exact w_c2
  · exact w_c3
  · exact w_c4
  · exact w_c5
  · exact w_c6
  · exact w_c7
  · exact w_c8
  · exact w_c9
  · exact w_c10
  · exact w_c11
  · exact w_c12
  · exact w_c13
  · exact w_c14
  · exact w_c15
  · exact w_c16
  · exact w_c17
  · exact w_c18
  · exact w_c19
  · exact w_c20
  · exact w_c21
  · exact w_c22
  · exact w_c23
  · exact w_c24
  · exact w_c25
  · exact w_c26
set_option maxRecDepth 65536 in
theorem w_t1 : (words1.take 24).all (fun c => isCode c || c.before args0 about1) = true := by decide +kernel
set_option maxRecDepth 65536 in
theorem w_t2 : ((words1.drop 24).take 24).all (fun c => isCode c || c.before args0 about1) = true := by decide +kernel
set_option maxRecDepth 65536 in
theorem w_t3 : (((words1.drop 24).drop 24).take 24).all (fun c => isCode c || c.before args0 about1) = true := by decide +kernel
set_option maxRecDepth 65536 in
theorem w_t4 : ((((words1.drop 24).drop 24).drop 24).take 24).all (fun c => isCode c || c.before args0 about1) = true := by decide +kernel
set_option maxRecDepth 65536 in
theorem w_t5 : (((((words1.drop 24).drop 24).drop 24).drop 24).take 24).all (fun c => isCode c || c.before args0 about1) = true := by decide +kernel
set_option maxRecDepth 65536 in
theorem w_t6 : ((((((words1.drop 24).drop 24).drop 24).drop 24).drop 24).take 24).all (fun c => isCode c || c.before args0 about1) = true := by decide +kernel
set_option maxRecDepth 65536 in
theorem w_t7 : (((((((words1.drop 24).drop 24).drop 24).drop 24).drop 24).drop 24).take 24).all (fun c => isCode c || c.before args0 about1) = true := by decide +kernel
set_option maxRecDepth 65536 in
theorem w_t8 : (((((((words1.drop 24).drop 24).drop 24).drop 24).drop 24).drop 24).drop 24).all (fun c => isCode c || c.before args0 about1) = true := by decide +kernel
theorem w_tables : (allAtoms (Jvm.Cond.code x code maxLocals ret :: tables_1)).before args0 about1 = true := by
  rw [allAtoms_all]
  show words1.all (fun c => c.before args0 about1) = true
  refine all_split ?_ w_codes
  rw [← List.take_append_drop 24 words1, List.all_append, w_t1, ← List.take_append_drop 24 (words1.drop 24), List.all_append, w_t2, ← List.take_append_drop 24 ((words1.drop 24).drop 24), List.all_append, w_t3, ← List.take_append_drop 24 (((words1.drop 24).drop 24).drop 24), List.all_append, w_t4, ← List.take_append_drop 24 ((((words1.drop 24).drop 24).drop 24).drop 24), List.all_append, w_t5, ← List.take_append_drop 24 (((((words1.drop 24).drop 24).drop 24).drop 24).drop 24), List.all_append, w_t6, ← List.take_append_drop 24 ((((((words1.drop 24).drop 24).drop 24).drop 24).drop 24).drop 24), List.all_append, w_t7, w_t8]
  rfl
set_option maxRecDepth 65536 in
theorem w_rest : rest_1_c.before args0 about1 = true := by decide +kernel
set_option maxRecDepth 65536 in
theorem w_case : (Jvm.Cond.and given_1 narrow_1).before args0 about1 = true := by decide +kernel
set_option maxRecDepth 65536 in
theorem w_consts : constsHeld consts_1 about1 := Jvm.Lit.constsHeldB_iff.mp (by decide +kernel)
theorem w_applies : (headSpec (Jvm.Cond.code x code maxLocals ret :: tables_1) room_1).applies x e0.platform about1 = true :=
  (Spec.applies_iff w_frames).mpr ⟨w_running, w_runnable, w_alone, w_named, w_hears, w_ripe, w_room, w_tables⟩
theorem atStart : AtStart classFile x code maxLocals ret World_1 tables_1 room_1 Calls_1 rest_1 Pre_1 launch0 p0 e0 about1 theMethod args0 below0 :=
  ⟨lists_1, trivial, launch0.admits_env _ _ _, launch0.least_env, fairChoices_fair.cas, fairChoices_fair.clock, w_frames, w_args, w_heap, w_applies, ⟨w_consts, trivial⟩, w_rest, w_case⟩
end start1
theorem witness_1 : WitnessClaimed_1 := ⟨start1.p0, start1.e0, start1.about1, start1.theMethod, start1.args0, start1.below0, start1.atStart⟩
end Jvm.Pilot.@@N@@
