import JvmDerived
import JvmDerived.Pilot.@@N@@Statement
import JvmDerived.Pilot.@@N@@Code
set_option linter.unusedVariables false
set_option linter.unusedSimpArgs false
namespace Jvm.Pilot.@@N@@
open Jvm Jvm.ClassFile Sem Op Lib Jvm.Free Jvm.Stand Jvm.LawKit Jvm.RoadKit Bundle Jvm.Pilot.@@N@@.Jvm.D
/-- one invocation: program, environment, the state at the invocation, method, arguments, the frames below, the method's record, its code, the tables at its true start -/
abbrev OG := Program × Env × State × MethodId × Array Value × List Frame × Method × Code × Vm
/-- the whole run: the launch, the heap's size at the law's start, the law's arguments -/
abbrev OW := Launch × Nat × Array Value
/-- one method: its bytes, its number of locals, its class, its name, what it returns, the room it asks -/
abbrev OM := ByteArray × Nat × String × String × Option FieldType × Room
/-- where a walk stands -/
def oSt (Z : State) (ω : OW) (γ : OG) (κ : OM) (T : State) (h : Heap) (cs ss : Nat) : Prop :=
  γ.1.tables.exec = Jvm.exec ∧ γ.2.2.2.2.2.2.2.1.code = κ.1 ∧ γ.2.2.2.2.2.2.2.1.maxLocals = κ.2.1 ∧ γ.2.2.1.vm.findClass κ.2.2.1 = some γ.2.2.2.1.cls ∧ γ.2.2.2.2.2.2.1.name = κ.2.2.2.1 ∧
  γ.2.2.2.2.2.2.1.sig.returnType = κ.2.2.2.2.1 ∧ γ.2.2.2.2.2.2.1.locks = false ∧ Z.Warmed39 γ.2.2.1.vm ∧ (∀ d ∈ tables_1, d.before ω.2.2 Z = true) ∧ (ω.2.1 ≤ γ.2.2.1.heap.size ∧ ∃ k0, (γ.2.2.1.setVm γ.2.2.2.2.2.2.2.2).Since γ.2.2.1.vm k0 ∧ k0 ≤ h.size) ∧ T.heap = h ∧
  ∃ locs, Stand γ.1 ω.1 γ.2.1 κ.2.2.2.2.2 γ.2.2.1 γ.2.2.2.1 γ.2.2.2.2.1 γ.2.2.2.2.2.1 γ.2.2.2.2.2.2.1 γ.2.2.2.2.2.2.2.1 T locs cs ss ∧ Fr ω.2.1 locs
/-- from here the method returns, and Q holds of what it returns and of the heap it leaves -/
def oWP (ω : OW) (γ : OG) (κ : OM) (Q : Option Value → Heap → Prop) (T : State) (pc : Nat) (L : Array Slot) (S : List Value) : Prop :=
  ∃ s₂ o, Steps γ.1.tables γ.2.1 γ.2.2.2.2.2.1 (T.setTop (mkF γ.2.2.2.1 pc L S)) s₂ ∧ s₂.status = .running ∧ Ended s₂ γ.2.2.2.2.2.1 o ∧
    ∃ v Lc, o = .returned v ∧ (Fr ω.2.1 Lc ∧ Q v s₂.heap) ∧ ReturnedEndW (γ.2.2.1.setVm γ.2.2.2.2.2.2.2.2) o s₂ Lc κ.2.2.2.2.2.cells κ.2.2.2.2.2.slots
/-- a method's contract -/
def oC (Z : State) (ω : OW) (y : MethodName) (κ : OM) (ws : List Jvm.Cond) (as : Array Value) (h : Heap) (Q : Option Value → Heap → Prop) : Prop :=
  MetFree ω.1 y (head1 (Jvm.Cond.code y κ.1 κ.2.1 κ.2.2.2.2.1 :: ws) κ.2.2.2.2.2) (fun a U => a = as ∧ Z.Warmed39 U.vm ∧ U.heap = h) (fun _ _ _ _ _ => True)
    (fun _ U o U' => ∃ v Lc, o = .returned v ∧ (Fr ω.2.1 Lc ∧ Q v U'.heap) ∧ ReturnedEndW U o U' Lc κ.2.2.2.2.2.cells κ.2.2.2.2.2.slots)
theorem oC_of {Z : State} {ω : OW} {y : MethodName} {κ : OM} {ws : List Jvm.Cond} {as : Array Value} {h : Heap} {Q : Option Value → Heap → Prop} {L : Array Slot} (hw : ∀ d ∈ tables_1, d.before ω.2.2 Z = true) (hn0 : ω.2.1 ≤ h.size)
    (hpn : plainFor y = true) (hcl : κ.2.2.1 = y.cls) (hnm : κ.2.2.2.1 = y.name) (hef : ∀ m, entryFrame m as κ.2.1 = mkF m 0 L []) (body : ∀ γ T, oSt Z ω γ κ T h 0 0 → oWP ω γ κ Q T 0 L []) : oC Z ω y κ ws as h Q := by
  refine MetFree.of_bodySF hpn hisR ?_
  intro p e s m args below meth c s₁ Bd hml0 hP hK
  obtain ⟨rfl, hZ, hh⟩ := hP
  have hown : s.vm.findClass y.cls = some m.cls := findClass_of_methodNamed Bd.named
  have hnm' := (name_of_methodNamed Bd.named Bd.method).1
  have X0 := Stand.of_body Bd
  have e0 : s₁.heap = h := by rw [← hh, Bd.state]; rfl
  have hlk : meth.locks = false := BodyLoose.notSynchronized Bd
  obtain ⟨s₂, o, h1, h2, h3, h4⟩ := body (p, e, s, m, args, below, meth, c, s.vm) s₁ ⟨Bd.exec, Bd.bytes, hml0, by rw [hcl]; exact hown, by rw [hnm]; exact hnm', Bd.returns, hlk, hZ, hw, ⟨by rw [hh]; exact hn0, 0, (State.WarmedH.refl s).since 0, Nat.zero_le _⟩, e0, [], X0, Fr.nil _⟩
  exact ⟨s₂, o, castTop (hef m) h1, h2, h3, h4⟩
section Walk
variable {Z : State} {ω : OW} {γ : OG} {κ : OM} {Q : Option Value → Heap → Prop} {T : State} {h : Heap} {cs ss : Nat} {pc : Nat} {L : Array Slot} {S : List Value}
theorem oSt_n0 (X : oSt Z ω γ κ T h cs ss) : ω.2.1 ≤ h.size := by
  obtain ⟨-, -, -, -, -, -, -, -, -, hn0, hT, locs, Y, -⟩ := X
  have q : γ.2.2.1.heap.size ≤ T.heap.size := Y.same.2.1
  rw [hT] at q
  exact Nat.le_trans hn0.1 q
theorem oSt_w (X : oSt Z ω γ κ T h cs ss) : ∀ d ∈ tables_1, d.before ω.2.2 Z = true := by
  obtain ⟨-, -, -, -, -, -, -, -, hw, -⟩ := X; exact hw
theorem oSt_at (X : oSt Z ω γ κ T h cs ss) (i : Nat) {d : Jvm.Cond} (hi : tables_1[i]? = some d) : d.before ω.2.2 Z = true := oSt_w X _ (List.mem_of_getElem? hi)
theorem oSnE {A : Prop} {B : Nat → Prop} {h h' : Heap} (H : A ∧ ∃ k0, B k0 ∧ k0 ≤ h.size) (E : Ext h h') : A ∧ ∃ k0, B k0 ∧ k0 ≤ h'.size := by
  obtain ⟨a, k, b, c⟩ := H; exact ⟨a, k, b, Nat.le_trans c E.1⟩
theorem oSnW {A : Prop} {B : Nat → Prop} {h h' : Heap} {a : Addr} {sl : Nat} {v : Value} (H : A ∧ ∃ k0, B k0 ∧ k0 ≤ h.size) (W : Wr h h' a sl v) : A ∧ ∃ k0, B k0 ∧ k0 ≤ h'.size := by
  obtain ⟨x, k, b, c⟩ := H
  refine ⟨x, k, b, Nat.le_trans c ?_⟩
  obtain ⟨c0, -, -, -, rfl⟩ := W; simp
/-- behind a step that may have interned: the walk stands over the start with the tables at hand -/
theorem oReb (X : oSt Z ω γ κ T h cs ss) {T' : State} {locs' : List Loc} {cs' ss' : Nat} (Y' : Stand γ.1 ω.1 γ.2.1 κ.2.2.2.2.2 (γ.2.2.1.setVm T'.vm) γ.2.2.2.1 γ.2.2.2.2.1 γ.2.2.2.2.2.1 γ.2.2.2.2.2.2.1 γ.2.2.2.2.2.2.2.1 T' locs' cs' ss')
    (h2 : γ.2.2.1.Since T'.vm T'.heap.size) (hg : T.heap.size ≤ T'.heap.size) (N' : Fr ω.2.1 locs') :
    oSt Z ω (γ.1, γ.2.1, γ.2.2.1.setVm T'.vm, γ.2.2.2.1, γ.2.2.2.2.1, γ.2.2.2.2.2.1, γ.2.2.2.2.2.2.1, γ.2.2.2.2.2.2.2.1, γ.2.2.2.2.2.2.2.2) κ T' T'.heap cs' ss' := by
  obtain ⟨hx, hby, hml, hown, hnm, hr, hlk, hZ, hT1, ⟨hn0, k0, hS, hk⟩, hT, locs, Y, N⟩ := X
  subst hT
  exact ⟨hx, hby, hml, (h2.1.alike.findClass _ _).trans hown, hnm, hr, hlk, State.Warmed39.trans (t := γ.2.2.1) hZ h2.1, hT1, ⟨hn0, _, State.Since.trans (s := γ.2.2.1.setVm γ.2.2.2.2.2.2.2.2) (vm₁ := γ.2.2.1.vm) hS h2 (Nat.le_trans hk hg), Nat.le_refl _⟩, rfl, locs', Y', N'⟩
theorem ow_iload (X : oSt Z ω γ κ T h cs ss) (pc' : Nat) {k : Nat} {v : Int32} (hd : decode κ.1 pc = .ok (.iload k, 2)) (hp : pc + 2 = pc') (hl : L[k]? = some (.val (.int v)))
    (K : oWP ω γ κ Q T pc' L (.int v :: S)) : oWP ω γ κ Q T pc L (S) := by
  obtain ⟨hx, hby, -, -, -, -, -, -, -, -, -, locs, Y, -⟩ := X
  subst hp
  obtain ⟨s₂, o, hs, r⟩ := K
  exact ⟨s₂, o, XS.iload Y.here hx rfl (hb hby hd) hl hs, r⟩
theorem ow_iloadN (X : oSt Z ω γ κ T h cs ss) (pc' : Nat) {k : Fin 4} {v : Int32} (hd : decode κ.1 pc = .ok (.iload_n k, 1)) (hp : pc + 1 = pc') (hl : L[k.val]? = some (.val (.int v)))
    (K : oWP ω γ κ Q T pc' L (.int v :: S)) : oWP ω γ κ Q T pc L (S) := by
  obtain ⟨hx, hby, -, -, -, -, -, -, -, -, -, locs, Y, -⟩ := X
  subst hp
  obtain ⟨s₂, o, hs, r⟩ := K
  exact ⟨s₂, o, XS.iloadN Y.here hx rfl (hb hby hd) hl hs, r⟩
theorem ow_istore (X : oSt Z ω γ κ T h cs ss) (pc' : Nat) {k : Nat} {v : Int32} {L' : Array Slot} (hd : decode κ.1 pc = .ok (.istore k, 2)) (hp : pc + 2 = pc') (hl : storeLocals L k (.int v) = some L')
    (K : oWP ω γ κ Q T pc' L' (S)) : oWP ω γ κ Q T pc L (.int v :: S) := by
  obtain ⟨hx, hby, -, -, -, -, -, -, -, -, -, locs, Y, -⟩ := X
  subst hp
  obtain ⟨s₂, o, hs, r⟩ := K
  exact ⟨s₂, o, XS.istore Y.here hx rfl (hb hby hd) rfl hl hs, r⟩
theorem ow_istoreN (X : oSt Z ω γ κ T h cs ss) (pc' : Nat) {k : Fin 4} {v : Int32} {L' : Array Slot} (hd : decode κ.1 pc = .ok (.istore_n k, 1)) (hp : pc + 1 = pc') (hl : storeLocals L k.val (.int v) = some L')
    (K : oWP ω γ κ Q T pc' L' (S)) : oWP ω γ κ Q T pc L (.int v :: S) := by
  obtain ⟨hx, hby, -, -, -, -, -, -, -, -, -, locs, Y, -⟩ := X
  subst hp
  obtain ⟨s₂, o, hs, r⟩ := K
  exact ⟨s₂, o, XS.istoreN Y.here hx rfl (hb hby hd) rfl hl hs, r⟩
theorem ow_lload (X : oSt Z ω γ κ T h cs ss) (pc' : Nat) {k : Nat} {v : Int64} (hd : decode κ.1 pc = .ok (.lload k, 2)) (hp : pc + 2 = pc') (hl : L[k]? = some (.val (.long v)))
    (K : oWP ω γ κ Q T pc' L (.long v :: S)) : oWP ω γ κ Q T pc L (S) := by
  obtain ⟨hx, hby, -, -, -, -, -, -, -, -, -, locs, Y, -⟩ := X
  subst hp
  obtain ⟨s₂, o, hs, r⟩ := K
  exact ⟨s₂, o, XS.lload Y.here hx rfl (hb hby hd) hl hs, r⟩
theorem ow_lloadN (X : oSt Z ω γ κ T h cs ss) (pc' : Nat) {k : Fin 4} {v : Int64} (hd : decode κ.1 pc = .ok (.lload_n k, 1)) (hp : pc + 1 = pc') (hl : L[k.val]? = some (.val (.long v)))
    (K : oWP ω γ κ Q T pc' L (.long v :: S)) : oWP ω γ κ Q T pc L (S) := by
  obtain ⟨hx, hby, -, -, -, -, -, -, -, -, -, locs, Y, -⟩ := X
  subst hp
  obtain ⟨s₂, o, hs, r⟩ := K
  exact ⟨s₂, o, XS.lloadN Y.here hx rfl (hb hby hd) hl hs, r⟩
theorem ow_lstore (X : oSt Z ω γ κ T h cs ss) (pc' : Nat) {k : Nat} {v : Int64} {L' : Array Slot} (hd : decode κ.1 pc = .ok (.lstore k, 2)) (hp : pc + 2 = pc') (hl : storeLocals L k (.long v) = some L')
    (K : oWP ω γ κ Q T pc' L' (S)) : oWP ω γ κ Q T pc L (.long v :: S) := by
  obtain ⟨hx, hby, -, -, -, -, -, -, -, -, -, locs, Y, -⟩ := X
  subst hp
  obtain ⟨s₂, o, hs, r⟩ := K
  exact ⟨s₂, o, XS.lstore Y.here hx rfl (hb hby hd) rfl hl hs, r⟩
theorem ow_lstoreN (X : oSt Z ω γ κ T h cs ss) (pc' : Nat) {k : Fin 4} {v : Int64} {L' : Array Slot} (hd : decode κ.1 pc = .ok (.lstore_n k, 1)) (hp : pc + 1 = pc') (hl : storeLocals L k.val (.long v) = some L')
    (K : oWP ω γ κ Q T pc' L' (S)) : oWP ω γ κ Q T pc L (.long v :: S) := by
  obtain ⟨hx, hby, -, -, -, -, -, -, -, -, -, locs, Y, -⟩ := X
  subst hp
  obtain ⟨s₂, o, hs, r⟩ := K
  exact ⟨s₂, o, XS.lstoreN Y.here hx rfl (hb hby hd) rfl hl hs, r⟩
theorem ow_aload (X : oSt Z ω γ κ T h cs ss) (pc' : Nat) {k : Nat} {v : Value} (hd : decode κ.1 pc = .ok (.aload k, 2)) (hp : pc + 2 = pc') (hl : L[k]? = some (.val v)) (hv : v.isRef = true)
    (K : oWP ω γ κ Q T pc' L (v :: S)) : oWP ω γ κ Q T pc L (S) := by
  obtain ⟨hx, hby, -, -, -, -, -, -, -, -, -, locs, Y, -⟩ := X
  subst hp
  obtain ⟨s₂, o, hs, r⟩ := K
  exact ⟨s₂, o, XS.aload Y.here hx rfl (hb hby hd) hl hv hs, r⟩
theorem ow_aloadN (X : oSt Z ω γ κ T h cs ss) (pc' : Nat) {k : Fin 4} {v : Value} (hd : decode κ.1 pc = .ok (.aload_n k, 1)) (hp : pc + 1 = pc') (hl : L[k.val]? = some (.val v)) (hv : v.isRef = true)
    (K : oWP ω γ κ Q T pc' L (v :: S)) : oWP ω γ κ Q T pc L (S) := by
  obtain ⟨hx, hby, -, -, -, -, -, -, -, -, -, locs, Y, -⟩ := X
  subst hp
  obtain ⟨s₂, o, hs, r⟩ := K
  exact ⟨s₂, o, XS.aloadN Y.here hx rfl (hb hby hd) hl hv hs, r⟩
theorem ow_astore (X : oSt Z ω γ κ T h cs ss) (pc' : Nat) {k : Nat} {v : Value} {L' : Array Slot} (hd : decode κ.1 pc = .ok (.astore k, 2)) (hp : pc + 2 = pc') (hv : v.isRef = true) (hl : storeLocals L k v = some L')
    (K : oWP ω γ κ Q T pc' L' (S)) : oWP ω γ κ Q T pc L (v :: S) := by
  obtain ⟨hx, hby, -, -, -, -, -, -, -, -, -, locs, Y, -⟩ := X
  subst hp
  obtain ⟨s₂, o, hs, r⟩ := K
  exact ⟨s₂, o, XS.astore Y.here hx rfl (hb hby hd) rfl hv hl hs, r⟩
theorem ow_astoreN (X : oSt Z ω γ κ T h cs ss) (pc' : Nat) {k : Fin 4} {v : Value} {L' : Array Slot} (hd : decode κ.1 pc = .ok (.astore_n k, 1)) (hp : pc + 1 = pc') (hv : v.isRef = true) (hl : storeLocals L k.val v = some L')
    (K : oWP ω γ κ Q T pc' L' (S)) : oWP ω γ κ Q T pc L (v :: S) := by
  obtain ⟨hx, hby, -, -, -, -, -, -, -, -, -, locs, Y, -⟩ := X
  subst hp
  obtain ⟨s₂, o, hs, r⟩ := K
  exact ⟨s₂, o, XS.astoreN Y.here hx rfl (hb hby hd) rfl hv hl hs, r⟩
theorem ow_iconst (X : oSt Z ω γ κ T h cs ss) (pc' : Nat) {i : Int} (v : Int32) (hd : decode κ.1 pc = .ok (.iconst i, 1)) (hp : pc + 1 = pc') (hv : Int32.ofInt i = v)
    (K : oWP ω γ κ Q T pc' L (.int v :: S)) : oWP ω γ κ Q T pc L (S) := by
  obtain ⟨hx, hby, -, -, -, -, -, -, -, -, -, locs, Y, -⟩ := X
  subst hp
  obtain ⟨s₂, o, hs, r⟩ := K
  subst hv; exact ⟨s₂, o, XS.iconst Y.here hx rfl (hb hby hd) hs, r⟩
theorem ow_bipush (X : oSt Z ω γ κ T h cs ss) (pc' : Nat) {i : Int} (v : Int32) (hd : decode κ.1 pc = .ok (.bipush i, 2)) (hp : pc + 2 = pc') (hv : (Int8.ofInt i).toInt32 = v)
    (K : oWP ω γ κ Q T pc' L (.int v :: S)) : oWP ω γ κ Q T pc L (S) := by
  obtain ⟨hx, hby, -, -, -, -, -, -, -, -, -, locs, Y, -⟩ := X
  subst hp
  obtain ⟨s₂, o, hs, r⟩ := K
  subst hv; exact ⟨s₂, o, XS.bipush Y.here hx rfl (hb hby hd) hs, r⟩
theorem ow_sipush (X : oSt Z ω γ κ T h cs ss) (pc' : Nat) {i : Int} (v : Int32) (hd : decode κ.1 pc = .ok (.sipush i, 3)) (hp : pc + 3 = pc') (hv : (Int16.ofInt i).toInt32 = v)
    (K : oWP ω γ κ Q T pc' L (.int v :: S)) : oWP ω γ κ Q T pc L (S) := by
  obtain ⟨hx, hby, -, -, -, -, -, -, -, -, -, locs, Y, -⟩ := X
  subst hp
  obtain ⟨s₂, o, hs, r⟩ := K
  subst hv; exact ⟨s₂, o, XS.sipush Y.here hx rfl (hb hby hd) hs, r⟩
theorem ow_lconst (X : oSt Z ω γ κ T h cs ss) (pc' : Nat) {k : Fin 2} (v : Int64) (hd : decode κ.1 pc = .ok (.lconst k, 1)) (hp : pc + 1 = pc') (hv : Int64.ofNat k = v)
    (K : oWP ω γ κ Q T pc' L (.long v :: S)) : oWP ω γ κ Q T pc L (S) := by
  obtain ⟨hx, hby, -, -, -, -, -, -, -, -, -, locs, Y, -⟩ := X
  subst hp
  obtain ⟨s₂, o, hs, r⟩ := K
  subst hv; exact ⟨s₂, o, XS.lconst Y.here hx rfl (hb hby hd) hs, r⟩
theorem ow_anull (X : oSt Z ω γ κ T h cs ss) (pc' : Nat)  (hd : decode κ.1 pc = .ok (.aconst_null, 1)) (hp : pc + 1 = pc') 
    (K : oWP ω γ κ Q T pc' L (.null :: S)) : oWP ω γ κ Q T pc L (S) := by
  obtain ⟨hx, hby, -, -, -, -, -, -, -, -, -, locs, Y, -⟩ := X
  subst hp
  obtain ⟨s₂, o, hs, r⟩ := K
  exact ⟨s₂, o, XS.aconstNull Y.here hx rfl (hb hby hd) hs, r⟩
theorem ow_iinc (X : oSt Z ω γ κ T h cs ss) (pc' : Nat) {k : Nat} {i : Int} {x : Int32} {L' : Array Slot} (v : Int32) (hd : decode κ.1 pc = .ok (.iinc k i, 3)) (hp : pc + 3 = pc') (hv : Int32.ofInt i = v) (hl : L[k]? = some (.val (.int x))) (hl' : storeLocals L k (.int (x + v)) = some L')
    (K : oWP ω γ κ Q T pc' L' (S)) : oWP ω γ κ Q T pc L (S) := by
  obtain ⟨hx, hby, -, -, -, -, -, -, -, -, -, locs, Y, -⟩ := X
  subst hp
  obtain ⟨s₂, o, hs, r⟩ := K
  subst hv; exact ⟨s₂, o, XS.iinc Y.here hx rfl (hb hby hd) hl hl' hs, r⟩
theorem ow_iadd (X : oSt Z ω γ κ T h cs ss) (pc' : Nat) {x y : Int32} (hd : decode κ.1 pc = .ok (.iadd, 1)) (hp : pc + 1 = pc') 
    (K : oWP ω γ κ Q T pc' L (.int (x + y) :: S)) : oWP ω γ κ Q T pc L (.int y :: .int x :: S) := by
  obtain ⟨hx, hby, -, -, -, -, -, -, -, -, -, locs, Y, -⟩ := X
  subst hp
  obtain ⟨s₂, o, hs, r⟩ := K
  exact ⟨s₂, o, XS.iadd Y.here hx rfl (hb hby hd) rfl hs, r⟩
theorem ow_isub (X : oSt Z ω γ κ T h cs ss) (pc' : Nat) {x y : Int32} (hd : decode κ.1 pc = .ok (.isub, 1)) (hp : pc + 1 = pc') 
    (K : oWP ω γ κ Q T pc' L (.int (x - y) :: S)) : oWP ω γ κ Q T pc L (.int y :: .int x :: S) := by
  obtain ⟨hx, hby, -, -, -, -, -, -, -, -, -, locs, Y, -⟩ := X
  subst hp
  obtain ⟨s₂, o, hs, r⟩ := K
  exact ⟨s₂, o, XS.isub Y.here hx rfl (hb hby hd) rfl hs, r⟩
theorem ow_imul (X : oSt Z ω γ κ T h cs ss) (pc' : Nat) {x y : Int32} (hd : decode κ.1 pc = .ok (.imul, 1)) (hp : pc + 1 = pc') 
    (K : oWP ω γ κ Q T pc' L (.int (x * y) :: S)) : oWP ω γ κ Q T pc L (.int y :: .int x :: S) := by
  obtain ⟨hx, hby, -, -, -, -, -, -, -, -, -, locs, Y, -⟩ := X
  subst hp
  obtain ⟨s₂, o, hs, r⟩ := K
  exact ⟨s₂, o, XS.imul Y.here hx rfl (hb hby hd) rfl hs, r⟩
theorem ow_iand (X : oSt Z ω γ κ T h cs ss) (pc' : Nat) {x y : Int32} (hd : decode κ.1 pc = .ok (.iand, 1)) (hp : pc + 1 = pc') 
    (K : oWP ω γ κ Q T pc' L (.int (x &&& y) :: S)) : oWP ω γ κ Q T pc L (.int y :: .int x :: S) := by
  obtain ⟨hx, hby, -, -, -, -, -, -, -, -, -, locs, Y, -⟩ := X
  subst hp
  obtain ⟨s₂, o, hs, r⟩ := K
  exact ⟨s₂, o, XS.iand Y.here hx rfl (hb hby hd) rfl hs, r⟩
theorem ow_ior (X : oSt Z ω γ κ T h cs ss) (pc' : Nat) {x y : Int32} (hd : decode κ.1 pc = .ok (.ior, 1)) (hp : pc + 1 = pc') 
    (K : oWP ω γ κ Q T pc' L (.int (x ||| y) :: S)) : oWP ω γ κ Q T pc L (.int y :: .int x :: S) := by
  obtain ⟨hx, hby, -, -, -, -, -, -, -, -, -, locs, Y, -⟩ := X
  subst hp
  obtain ⟨s₂, o, hs, r⟩ := K
  exact ⟨s₂, o, XS.ior Y.here hx rfl (hb hby hd) rfl hs, r⟩
theorem ow_ixor (X : oSt Z ω γ κ T h cs ss) (pc' : Nat) {x y : Int32} (hd : decode κ.1 pc = .ok (.ixor, 1)) (hp : pc + 1 = pc') 
    (K : oWP ω γ κ Q T pc' L (.int (x ^^^ y) :: S)) : oWP ω γ κ Q T pc L (.int y :: .int x :: S) := by
  obtain ⟨hx, hby, -, -, -, -, -, -, -, -, -, locs, Y, -⟩ := X
  subst hp
  obtain ⟨s₂, o, hs, r⟩ := K
  exact ⟨s₂, o, XS.ixor Y.here hx rfl (hb hby hd) rfl hs, r⟩
theorem ow_ishl (X : oSt Z ω γ κ T h cs ss) (pc' : Nat) {x y : Int32} (hd : decode κ.1 pc = .ok (.ishl, 1)) (hp : pc + 1 = pc') 
    (K : oWP ω γ κ Q T pc' L (.int (x <<< (y &&& 31)) :: S)) : oWP ω γ κ Q T pc L (.int y :: .int x :: S) := by
  obtain ⟨hx, hby, -, -, -, -, -, -, -, -, -, locs, Y, -⟩ := X
  subst hp
  obtain ⟨s₂, o, hs, r⟩ := K
  exact ⟨s₂, o, XS.ishl Y.here hx rfl (hb hby hd) rfl hs, r⟩
theorem ow_ishr (X : oSt Z ω γ κ T h cs ss) (pc' : Nat) {x y : Int32} (hd : decode κ.1 pc = .ok (.ishr, 1)) (hp : pc + 1 = pc') 
    (K : oWP ω γ κ Q T pc' L (.int (x >>> (y &&& 31)) :: S)) : oWP ω γ κ Q T pc L (.int y :: .int x :: S) := by
  obtain ⟨hx, hby, -, -, -, -, -, -, -, -, -, locs, Y, -⟩ := X
  subst hp
  obtain ⟨s₂, o, hs, r⟩ := K
  exact ⟨s₂, o, XS.ishr Y.here hx rfl (hb hby hd) rfl hs, r⟩
theorem ow_iushr (X : oSt Z ω γ κ T h cs ss) (pc' : Nat) {x y : Int32} (hd : decode κ.1 pc = .ok (.iushr, 1)) (hp : pc + 1 = pc') 
    (K : oWP ω γ κ Q T pc' L (.int ((x.toUInt32 >>> (y &&& 31).toUInt32).toInt32) :: S)) : oWP ω γ κ Q T pc L (.int y :: .int x :: S) := by
  obtain ⟨hx, hby, -, -, -, -, -, -, -, -, -, locs, Y, -⟩ := X
  subst hp
  obtain ⟨s₂, o, hs, r⟩ := K
  exact ⟨s₂, o, XS.iushr Y.here hx rfl (hb hby hd) rfl hs, r⟩
theorem ow_ineg (X : oSt Z ω γ κ T h cs ss) (pc' : Nat) {x : Int32} (hd : decode κ.1 pc = .ok (.ineg, 1)) (hp : pc + 1 = pc') 
    (K : oWP ω γ κ Q T pc' L (.int (-x) :: S)) : oWP ω γ κ Q T pc L (.int x :: S) := by
  obtain ⟨hx, hby, -, -, -, -, -, -, -, -, -, locs, Y, -⟩ := X
  subst hp
  obtain ⟨s₂, o, hs, r⟩ := K
  exact ⟨s₂, o, XS.ineg Y.here hx rfl (hb hby hd) rfl hs, r⟩
theorem ow_idiv (X : oSt Z ω γ κ T h cs ss) (pc' : Nat) {x y : Int32} (hd : decode κ.1 pc = .ok (.idiv, 1)) (hp : pc + 1 = pc') (hy : y ≠ 0)
    (K : oWP ω γ κ Q T pc' L (.int (x / y) :: S)) : oWP ω γ κ Q T pc L (.int y :: .int x :: S) := by
  obtain ⟨hx, hby, -, -, -, -, -, -, -, -, -, locs, Y, -⟩ := X
  subst hp
  obtain ⟨s₂, o, hs, r⟩ := K
  exact ⟨s₂, o, XS.idiv Y.here hx rfl (hb hby hd) rfl hy hs, r⟩
theorem ow_irem (X : oSt Z ω γ κ T h cs ss) (pc' : Nat) {x y : Int32} (hd : decode κ.1 pc = .ok (.irem, 1)) (hp : pc + 1 = pc') (hy : y ≠ 0)
    (K : oWP ω γ κ Q T pc' L (.int (x % y) :: S)) : oWP ω γ κ Q T pc L (.int y :: .int x :: S) := by
  obtain ⟨hx, hby, -, -, -, -, -, -, -, -, -, locs, Y, -⟩ := X
  subst hp
  obtain ⟨s₂, o, hs, r⟩ := K
  exact ⟨s₂, o, iremM Y hx rfl (hb hby hd) rfl hy hs, r⟩
theorem ow_ladd (X : oSt Z ω γ κ T h cs ss) (pc' : Nat) {x y : Int64} (hd : decode κ.1 pc = .ok (.ladd, 1)) (hp : pc + 1 = pc') 
    (K : oWP ω γ κ Q T pc' L (.long (x + y) :: S)) : oWP ω γ κ Q T pc L (.long y :: .long x :: S) := by
  obtain ⟨hx, hby, -, -, -, -, -, -, -, -, -, locs, Y, -⟩ := X
  subst hp
  obtain ⟨s₂, o, hs, r⟩ := K
  exact ⟨s₂, o, XS.ladd Y.here hx rfl (hb hby hd) rfl hs, r⟩
theorem ow_lsub (X : oSt Z ω γ κ T h cs ss) (pc' : Nat) {x y : Int64} (hd : decode κ.1 pc = .ok (.lsub, 1)) (hp : pc + 1 = pc') 
    (K : oWP ω γ κ Q T pc' L (.long (x - y) :: S)) : oWP ω γ κ Q T pc L (.long y :: .long x :: S) := by
  obtain ⟨hx, hby, -, -, -, -, -, -, -, -, -, locs, Y, -⟩ := X
  subst hp
  obtain ⟨s₂, o, hs, r⟩ := K
  exact ⟨s₂, o, XS.lsub Y.here hx rfl (hb hby hd) rfl hs, r⟩
theorem ow_lmul (X : oSt Z ω γ κ T h cs ss) (pc' : Nat) {x y : Int64} (hd : decode κ.1 pc = .ok (.lmul, 1)) (hp : pc + 1 = pc') 
    (K : oWP ω γ κ Q T pc' L (.long (x * y) :: S)) : oWP ω γ κ Q T pc L (.long y :: .long x :: S) := by
  obtain ⟨hx, hby, -, -, -, -, -, -, -, -, -, locs, Y, -⟩ := X
  subst hp
  obtain ⟨s₂, o, hs, r⟩ := K
  exact ⟨s₂, o, XS.lmul Y.here hx rfl (hb hby hd) rfl hs, r⟩
theorem ow_land (X : oSt Z ω γ κ T h cs ss) (pc' : Nat) {x y : Int64} (hd : decode κ.1 pc = .ok (.land, 1)) (hp : pc + 1 = pc') 
    (K : oWP ω γ κ Q T pc' L (.long (x &&& y) :: S)) : oWP ω γ κ Q T pc L (.long y :: .long x :: S) := by
  obtain ⟨hx, hby, -, -, -, -, -, -, -, -, -, locs, Y, -⟩ := X
  subst hp
  obtain ⟨s₂, o, hs, r⟩ := K
  exact ⟨s₂, o, XS.land Y.here hx rfl (hb hby hd) rfl hs, r⟩
theorem ow_lor (X : oSt Z ω γ κ T h cs ss) (pc' : Nat) {x y : Int64} (hd : decode κ.1 pc = .ok (.lor, 1)) (hp : pc + 1 = pc') 
    (K : oWP ω γ κ Q T pc' L (.long (x ||| y) :: S)) : oWP ω γ κ Q T pc L (.long y :: .long x :: S) := by
  obtain ⟨hx, hby, -, -, -, -, -, -, -, -, -, locs, Y, -⟩ := X
  subst hp
  obtain ⟨s₂, o, hs, r⟩ := K
  exact ⟨s₂, o, XS.lor Y.here hx rfl (hb hby hd) rfl hs, r⟩
theorem ow_lxor (X : oSt Z ω γ κ T h cs ss) (pc' : Nat) {x y : Int64} (hd : decode κ.1 pc = .ok (.lxor, 1)) (hp : pc + 1 = pc') 
    (K : oWP ω γ κ Q T pc' L (.long (x ^^^ y) :: S)) : oWP ω γ κ Q T pc L (.long y :: .long x :: S) := by
  obtain ⟨hx, hby, -, -, -, -, -, -, -, -, -, locs, Y, -⟩ := X
  subst hp
  obtain ⟨s₂, o, hs, r⟩ := K
  exact ⟨s₂, o, XS.lxor Y.here hx rfl (hb hby hd) rfl hs, r⟩
theorem ow_lshl (X : oSt Z ω γ κ T h cs ss) (pc' : Nat) {x : Int64} {y : Int32} (hd : decode κ.1 pc = .ok (.lshl, 1)) (hp : pc + 1 = pc') 
    (K : oWP ω γ κ Q T pc' L (.long (x <<< (y &&& 0x3f).toInt64) :: S)) : oWP ω γ κ Q T pc L (.int y :: .long x :: S) := by
  obtain ⟨hx, hby, -, -, -, -, -, -, -, -, -, locs, Y, -⟩ := X
  subst hp
  obtain ⟨s₂, o, hs, r⟩ := K
  exact ⟨s₂, o, XS.lshl Y.here hx rfl (hb hby hd) rfl hs, r⟩
theorem ow_lshr (X : oSt Z ω γ κ T h cs ss) (pc' : Nat) {x : Int64} {y : Int32} (hd : decode κ.1 pc = .ok (.lshr, 1)) (hp : pc + 1 = pc') 
    (K : oWP ω γ κ Q T pc' L (.long (x >>> (y &&& 0x3f).toInt64) :: S)) : oWP ω γ κ Q T pc L (.int y :: .long x :: S) := by
  obtain ⟨hx, hby, -, -, -, -, -, -, -, -, -, locs, Y, -⟩ := X
  subst hp
  obtain ⟨s₂, o, hs, r⟩ := K
  exact ⟨s₂, o, XS.lshr Y.here hx rfl (hb hby hd) rfl hs, r⟩
theorem ow_lushr (X : oSt Z ω γ κ T h cs ss) (pc' : Nat) {x : Int64} {y : Int32} (hd : decode κ.1 pc = .ok (.lushr, 1)) (hp : pc + 1 = pc') 
    (K : oWP ω γ κ Q T pc' L (.long ((x.toUInt64 >>> (y &&& 0x3f).toInt64.toUInt64).toInt64) :: S)) : oWP ω γ κ Q T pc L (.int y :: .long x :: S) := by
  obtain ⟨hx, hby, -, -, -, -, -, -, -, -, -, locs, Y, -⟩ := X
  subst hp
  obtain ⟨s₂, o, hs, r⟩ := K
  exact ⟨s₂, o, XS.lushr Y.here hx rfl (hb hby hd) rfl hs, r⟩
theorem ow_ldiv (X : oSt Z ω γ κ T h cs ss) (pc' : Nat) {x y : Int64} (hd : decode κ.1 pc = .ok (.ldiv, 1)) (hp : pc + 1 = pc') (hy : y ≠ 0)
    (K : oWP ω γ κ Q T pc' L (.long (x / y) :: S)) : oWP ω γ κ Q T pc L (.long y :: .long x :: S) := by
  obtain ⟨hx, hby, -, -, -, -, -, -, -, -, -, locs, Y, -⟩ := X
  subst hp
  obtain ⟨s₂, o, hs, r⟩ := K
  exact ⟨s₂, o, XS.ldiv Y.here hx rfl (hb hby hd) rfl hy hs, r⟩
theorem ow_lrem (X : oSt Z ω γ κ T h cs ss) (pc' : Nat) {x y : Int64} (hd : decode κ.1 pc = .ok (.lrem, 1)) (hp : pc + 1 = pc') (hy : y ≠ 0)
    (K : oWP ω γ κ Q T pc' L (.long (x % y) :: S)) : oWP ω γ κ Q T pc L (.long y :: .long x :: S) := by
  obtain ⟨hx, hby, -, -, -, -, -, -, -, -, -, locs, Y, -⟩ := X
  subst hp
  obtain ⟨s₂, o, hs, r⟩ := K
  rw [← lrem_mod] at hs; exact ⟨s₂, o, XS.lrem Y.here hx rfl (hb hby hd) rfl hy hs, r⟩
theorem ow_i2l (X : oSt Z ω γ κ T h cs ss) (pc' : Nat) {x : Int32} (hd : decode κ.1 pc = .ok (.i2l, 1)) (hp : pc + 1 = pc') 
    (K : oWP ω γ κ Q T pc' L (.long x.toInt64 :: S)) : oWP ω γ κ Q T pc L (.int x :: S) := by
  obtain ⟨hx, hby, -, -, -, -, -, -, -, -, -, locs, Y, -⟩ := X
  subst hp
  obtain ⟨s₂, o, hs, r⟩ := K
  exact ⟨s₂, o, XS.i2l Y.here hx rfl (hb hby hd) rfl hs, r⟩
theorem ow_l2i (X : oSt Z ω γ κ T h cs ss) (pc' : Nat) {x : Int64} (hd : decode κ.1 pc = .ok (.l2i, 1)) (hp : pc + 1 = pc') 
    (K : oWP ω γ κ Q T pc' L (.int x.toInt32 :: S)) : oWP ω γ κ Q T pc L (.long x :: S) := by
  obtain ⟨hx, hby, -, -, -, -, -, -, -, -, -, locs, Y, -⟩ := X
  subst hp
  obtain ⟨s₂, o, hs, r⟩ := K
  exact ⟨s₂, o, XS.l2i Y.here hx rfl (hb hby hd) rfl hs, r⟩
theorem ow_i2b (X : oSt Z ω γ κ T h cs ss) (pc' : Nat) {x : Int32} (hd : decode κ.1 pc = .ok (.i2b, 1)) (hp : pc + 1 = pc') 
    (K : oWP ω γ κ Q T pc' L (.int x.toInt8.toInt32 :: S)) : oWP ω γ κ Q T pc L (.int x :: S) := by
  obtain ⟨hx, hby, -, -, -, -, -, -, -, -, -, locs, Y, -⟩ := X
  subst hp
  obtain ⟨s₂, o, hs, r⟩ := K
  exact ⟨s₂, o, XS.i2b Y.here hx rfl (hb hby hd) rfl hs, r⟩
theorem ow_i2c (X : oSt Z ω γ κ T h cs ss) (pc' : Nat) {x : Int32} (hd : decode κ.1 pc = .ok (.i2c, 1)) (hp : pc + 1 = pc') 
    (K : oWP ω γ κ Q T pc' L (.int x.toUInt32.toUInt16.toUInt32.toInt32 :: S)) : oWP ω γ κ Q T pc L (.int x :: S) := by
  obtain ⟨hx, hby, -, -, -, -, -, -, -, -, -, locs, Y, -⟩ := X
  subst hp
  obtain ⟨s₂, o, hs, r⟩ := K
  exact ⟨s₂, o, XS.i2c Y.here hx rfl (hb hby hd) rfl hs, r⟩
theorem ow_i2s (X : oSt Z ω γ κ T h cs ss) (pc' : Nat) {x : Int32} (hd : decode κ.1 pc = .ok (.i2s, 1)) (hp : pc + 1 = pc') 
    (K : oWP ω γ κ Q T pc' L (.int x.toInt16.toInt32 :: S)) : oWP ω γ κ Q T pc L (.int x :: S) := by
  obtain ⟨hx, hby, -, -, -, -, -, -, -, -, -, locs, Y, -⟩ := X
  subst hp
  obtain ⟨s₂, o, hs, r⟩ := K
  exact ⟨s₂, o, XS.i2s Y.here hx rfl (hb hby hd) rfl hs, r⟩
theorem ow_dup (X : oSt Z ω γ κ T h cs ss) (pc' : Nat) {x : Value} (hd : decode κ.1 pc = .ok (.dup, 1)) (hp : pc + 1 = pc') (hc : x.category = 1)
    (K : oWP ω γ κ Q T pc' L (x :: x :: S)) : oWP ω γ κ Q T pc L (x :: S) := by
  obtain ⟨hx, hby, -, -, -, -, -, -, -, -, -, locs, Y, -⟩ := X
  subst hp
  obtain ⟨s₂, o, hs, r⟩ := K
  exact ⟨s₂, o, XS.dup Y.here hx rfl (hb hby hd) rfl hc hs, r⟩
theorem ow_pop (X : oSt Z ω γ κ T h cs ss) (pc' : Nat) {x : Value} (hd : decode κ.1 pc = .ok (.pop, 1)) (hp : pc + 1 = pc') (hc : x.category = 1)
    (K : oWP ω γ κ Q T pc' L (S)) : oWP ω γ κ Q T pc L (x :: S) := by
  obtain ⟨hx, hby, -, -, -, -, -, -, -, -, -, locs, Y, -⟩ := X
  subst hp
  obtain ⟨s₂, o, hs, r⟩ := K
  exact ⟨s₂, o, XS.pop Y.here hx rfl (hb hby hd) rfl hc hs, r⟩
theorem ow_dupX1 (X : oSt Z ω γ κ T h cs ss) (pc' : Nat) {x y : Value} (hd : decode κ.1 pc = .ok (.dup_x1, 1)) (hp : pc + 1 = pc') (hc : x.category = 1) (hc' : y.category = 1)
    (K : oWP ω γ κ Q T pc' L (x :: y :: x :: S)) : oWP ω γ κ Q T pc L (x :: y :: S) := by
  obtain ⟨hx, hby, -, -, -, -, -, -, -, -, -, locs, Y, -⟩ := X
  subst hp
  obtain ⟨s₂, o, hs, r⟩ := K
  exact ⟨s₂, o, XS.dupX1 Y.here hx rfl (hb hby hd) rfl hc hc' hs, r⟩
theorem ow_dup2 (X : oSt Z ω γ κ T h cs ss) (pc' : Nat) {x y : Value} (hd : decode κ.1 pc = .ok (.dup2, 1)) (hp : pc + 1 = pc') (hc : x.category = 1) (hc' : y.category = 1)
    (K : oWP ω γ κ Q T pc' L (x :: y :: x :: y :: S)) : oWP ω γ κ Q T pc L (x :: y :: S) := by
  obtain ⟨hx, hby, -, -, -, -, -, -, -, -, -, locs, Y, -⟩ := X
  subst hp
  obtain ⟨s₂, o, hs, r⟩ := K
  exact ⟨s₂, o, XT.dup2 Y.here hx rfl (hb hby hd) rfl hc hc' hs, r⟩
theorem oXpop2L {tb : Tables} [Ours tb] {e : Env} {below : List Frame} {T target : State} {m : MethodId} {c : Code} {g : JFrame} (h : At T m c below) (hx : tb.exec = Jvm.exec) (hg : g.method = m) {x : Int64} {rest : List Value} (hd : decode c.code g.pc = .ok (.pop2, 1)) (hs : g.stack = .long x :: rest)
    (hr : Steps tb e below (T.setTop { g with pc := g.pc + 1, stack := rest }) target) : Steps tb e below (T.setTop g) target := by
  subst hg
  jvm_step h [h.top, hx, hd, hs, Value.category]
  exact hr
theorem ow_pop2L (X : oSt Z ω γ κ T h cs ss) (pc' : Nat) {x : Int64} (hd : decode κ.1 pc = .ok (.pop2, 1)) (hp : pc + 1 = pc') 
    (K : oWP ω γ κ Q T pc' L (S)) : oWP ω γ κ Q T pc L (.long x :: S) := by
  obtain ⟨hx, hby, -, -, -, -, -, -, -, -, -, locs, Y, -⟩ := X
  subst hp
  obtain ⟨s₂, o, hs, r⟩ := K
  exact ⟨s₂, o, oXpop2L Y.here hx rfl (hb hby hd) rfl hs, r⟩
theorem ow_ldcI (X : oSt Z ω γ κ T h cs ss) (pc' i : Nat) {own : String} {idx : Nat} {v : Int32} (hw : tables_1[i]? = some (.constant own idx v)) (ho : κ.2.2.1 = own) (hd : decode κ.1 pc = .ok (.ldc idx, 2)) (hp : pc + 2 = pc')
    (K : oWP ω γ κ Q T pc' L (.int v :: S)) : oWP ω γ κ Q T pc L S := by
  have hw' := oSt_at X i hw
  obtain ⟨hx, hby, -, hown, -, -, -, hZ, -, -, -, locs, Y, -⟩ := X
  subst hp ho
  obtain ⟨s₂, o, hs, r⟩ := K
  exact ⟨s₂, o, Stand.ldcI Y hx hown (mv hZ hw') rfl (hb hby hd) hs, r⟩
theorem ow_ldcWI (X : oSt Z ω γ κ T h cs ss) (pc' i : Nat) {own : String} {idx : Nat} {v : Int32} (hw : tables_1[i]? = some (.constant own idx v)) (ho : κ.2.2.1 = own) (hd : decode κ.1 pc = .ok (.ldc_w idx, 3)) (hp : pc + 3 = pc')
    (K : oWP ω γ κ Q T pc' L (.int v :: S)) : oWP ω γ κ Q T pc L S := by
  have hw' := oSt_at X i hw
  obtain ⟨hx, hby, -, hown, -, -, -, hZ, -, -, -, locs, Y, -⟩ := X
  subst hp ho
  obtain ⟨s₂, o, hs, r⟩ := K
  exact ⟨s₂, o, Stand.ldcWI Y hx hown (mv hZ hw') rfl (hb hby hd) hs, r⟩
theorem ow_ldc2J (X : oSt Z ω γ κ T h cs ss) (pc' i : Nat) {own : String} {idx : Nat} {v : Int64} (hw : tables_1[i]? = some (.constantLong own idx v)) (ho : κ.2.2.1 = own) (hd : decode κ.1 pc = .ok (.ldc2_w idx, 3)) (hp : pc + 3 = pc')
    (K : oWP ω γ κ Q T pc' L (.long v :: S)) : oWP ω γ κ Q T pc L S := by
  have hw' := oSt_at X i hw
  obtain ⟨hx, hby, -, hown, -, -, -, hZ, -, -, -, locs, Y, -⟩ := X
  subst hp ho
  obtain ⟨s₂, o, hs, r⟩ := K
  exact ⟨s₂, o, Stand.ldc2J Y hx hown (mv hZ hw') rfl (hb hby hd) hs, r⟩
theorem ow_goto (X : oSt Z ω γ κ T h cs ss) (pc' : Nat) {o : Int} (hd : decode κ.1 pc = .ok (.goto o, 3)) (hp : (pc : Int) + o = (pc' : Int))
    (K : oWP ω γ κ Q T pc' L S) : oWP ω γ κ Q T pc L S := by
  obtain ⟨hx, hby, -, -, -, -, -, -, -, -, -, locs, Y, -⟩ := X
  obtain ⟨s₂, o, hs, r⟩ := K
  exact ⟨s₂, o, XS.goto Y.here hx rfl (pc0 := pc) rfl (hb hby hd) (by omega) (by omega) hs, r⟩
theorem ow_if (X : oSt Z ω γ κ T h cs ss) (pc' pq : Nat) {cd : ClassFile.Cond} {x : Int32} {o : Int} (hd : decode κ.1 pc = .ok (.ifCond cd o, 3)) (hp : pc + 3 = pc') (hq : (pc : Int) + o = (pq : Int))
    (Ky : ifCond.holds cd x = true → oWP ω γ κ Q T pq L S) (Kn : ifCond.holds cd x = false → oWP ω γ κ Q T pc' L S) : oWP ω γ κ Q T pc L (.int x :: S) := by
  obtain ⟨hx, hby, -, -, -, -, -, -, -, -, -, locs, Y, -⟩ := X
  subst hp
  cases hc : ifCond.holds cd x
  · obtain ⟨s₂, o, hs, r⟩ := Kn hc
    exact ⟨s₂, o, XS.ifNo Y.here hx rfl (hb hby hd) rfl hc hs, r⟩
  · obtain ⟨s₂, o, hs, r⟩ := Ky hc
    exact ⟨s₂, o, XS.ifYes Y.here hx rfl (pc0 := pc) rfl (hb hby hd) rfl hc (by omega) (by omega) hs, r⟩
theorem ow_icmp (X : oSt Z ω γ κ T h cs ss) (pc' pq : Nat) {cd : ClassFile.Cond} {x y : Int32} {o : Int} (hd : decode κ.1 pc = .ok (.if_icmp cd o, 3)) (hp : pc + 3 = pc') (hq : (pc : Int) + o = (pq : Int))
    (Ky : if_icmp.holds cd x y = true → oWP ω γ κ Q T pq L S) (Kn : if_icmp.holds cd x y = false → oWP ω γ κ Q T pc' L S) : oWP ω γ κ Q T pc L (.int y :: .int x :: S) := by
  obtain ⟨hx, hby, -, -, -, -, -, -, -, -, -, locs, Y, -⟩ := X
  subst hp
  cases hc : if_icmp.holds cd x y
  · obtain ⟨s₂, o, hs, r⟩ := Kn hc
    exact ⟨s₂, o, XS.icmpNo Y.here hx rfl (hb hby hd) rfl hc hs, r⟩
  · obtain ⟨s₂, o, hs, r⟩ := Ky hc
    exact ⟨s₂, o, XS.icmpYes Y.here hx rfl (pc0 := pc) rfl (hb hby hd) rfl hc (by omega) (by omega) hs, r⟩
theorem o0 : (0 : Int32).toInt = 0 := rfl
theorem ow_if_eq (X : oSt Z ω γ κ T h cs ss) (pc' pq : Nat) {x : Int32} {o : Int} (hd : decode κ.1 pc = .ok (.ifCond .eq o, 3)) (hp : pc + 3 = pc') (hq : (pc : Int) + o = (pq : Int))
    (Ky : x.toInt = 0 → oWP ω γ κ Q T pq L S) (Kn : x.toInt ≠ 0 → oWP ω γ κ Q T pc' L S) : oWP ω γ κ Q T pc L (.int x :: S) :=
  ow_if X pc' pq hd hp hq (fun q => Ky (by simp only [ifCond.holds, decide_eq_true_eq, decide_eq_false_iff_not, beq_iff_eq, bne_iff_ne, ne_eq, Int32.lt_iff_toInt_lt, Int32.le_iff_toInt_le, ← Int32.toInt_inj, o0, GT.gt, GE.ge, beq_eq_false_iff_ne, bne_eq_false_iff_eq, Decidable.not_not] at q; omega)) (fun q => Kn (by simp only [ifCond.holds, decide_eq_true_eq, decide_eq_false_iff_not, beq_iff_eq, bne_iff_ne, ne_eq, Int32.lt_iff_toInt_lt, Int32.le_iff_toInt_le, ← Int32.toInt_inj, o0, GT.gt, GE.ge, beq_eq_false_iff_ne, bne_eq_false_iff_eq, Decidable.not_not] at q; omega))
theorem ow_icmp_eq (X : oSt Z ω γ κ T h cs ss) (pc' pq : Nat) {x y : Int32} {o : Int} (hd : decode κ.1 pc = .ok (.if_icmp .eq o, 3)) (hp : pc + 3 = pc') (hq : (pc : Int) + o = (pq : Int))
    (Ky : x.toInt = y.toInt → oWP ω γ κ Q T pq L S) (Kn : x.toInt ≠ y.toInt → oWP ω γ κ Q T pc' L S) : oWP ω γ κ Q T pc L (.int y :: .int x :: S) :=
  ow_icmp X pc' pq hd hp hq (fun q => Ky (by simp only [if_icmp.holds, decide_eq_true_eq, decide_eq_false_iff_not, beq_iff_eq, bne_iff_ne, ne_eq, Int32.lt_iff_toInt_lt, Int32.le_iff_toInt_le, ← Int32.toInt_inj, o0, GT.gt, GE.ge, beq_eq_false_iff_ne, bne_eq_false_iff_eq, Decidable.not_not] at q; omega)) (fun q => Kn (by simp only [if_icmp.holds, decide_eq_true_eq, decide_eq_false_iff_not, beq_iff_eq, bne_iff_ne, ne_eq, Int32.lt_iff_toInt_lt, Int32.le_iff_toInt_le, ← Int32.toInt_inj, o0, GT.gt, GE.ge, beq_eq_false_iff_ne, bne_eq_false_iff_eq, Decidable.not_not] at q; omega))
theorem ow_if_ne (X : oSt Z ω γ κ T h cs ss) (pc' pq : Nat) {x : Int32} {o : Int} (hd : decode κ.1 pc = .ok (.ifCond .ne o, 3)) (hp : pc + 3 = pc') (hq : (pc : Int) + o = (pq : Int))
    (Ky : x.toInt ≠ 0 → oWP ω γ κ Q T pq L S) (Kn : x.toInt = 0 → oWP ω γ κ Q T pc' L S) : oWP ω γ κ Q T pc L (.int x :: S) :=
  ow_if X pc' pq hd hp hq (fun q => Ky (by simp only [ifCond.holds, decide_eq_true_eq, decide_eq_false_iff_not, beq_iff_eq, bne_iff_ne, ne_eq, Int32.lt_iff_toInt_lt, Int32.le_iff_toInt_le, ← Int32.toInt_inj, o0, GT.gt, GE.ge, beq_eq_false_iff_ne, bne_eq_false_iff_eq, Decidable.not_not] at q; omega)) (fun q => Kn (by simp only [ifCond.holds, decide_eq_true_eq, decide_eq_false_iff_not, beq_iff_eq, bne_iff_ne, ne_eq, Int32.lt_iff_toInt_lt, Int32.le_iff_toInt_le, ← Int32.toInt_inj, o0, GT.gt, GE.ge, beq_eq_false_iff_ne, bne_eq_false_iff_eq, Decidable.not_not] at q; omega))
theorem ow_icmp_ne (X : oSt Z ω γ κ T h cs ss) (pc' pq : Nat) {x y : Int32} {o : Int} (hd : decode κ.1 pc = .ok (.if_icmp .ne o, 3)) (hp : pc + 3 = pc') (hq : (pc : Int) + o = (pq : Int))
    (Ky : x.toInt ≠ y.toInt → oWP ω γ κ Q T pq L S) (Kn : x.toInt = y.toInt → oWP ω γ κ Q T pc' L S) : oWP ω γ κ Q T pc L (.int y :: .int x :: S) :=
  ow_icmp X pc' pq hd hp hq (fun q => Ky (by simp only [if_icmp.holds, decide_eq_true_eq, decide_eq_false_iff_not, beq_iff_eq, bne_iff_ne, ne_eq, Int32.lt_iff_toInt_lt, Int32.le_iff_toInt_le, ← Int32.toInt_inj, o0, GT.gt, GE.ge, beq_eq_false_iff_ne, bne_eq_false_iff_eq, Decidable.not_not] at q; omega)) (fun q => Kn (by simp only [if_icmp.holds, decide_eq_true_eq, decide_eq_false_iff_not, beq_iff_eq, bne_iff_ne, ne_eq, Int32.lt_iff_toInt_lt, Int32.le_iff_toInt_le, ← Int32.toInt_inj, o0, GT.gt, GE.ge, beq_eq_false_iff_ne, bne_eq_false_iff_eq, Decidable.not_not] at q; omega))
theorem ow_if_lt (X : oSt Z ω γ κ T h cs ss) (pc' pq : Nat) {x : Int32} {o : Int} (hd : decode κ.1 pc = .ok (.ifCond .lt o, 3)) (hp : pc + 3 = pc') (hq : (pc : Int) + o = (pq : Int))
    (Ky : x.toInt < 0 → oWP ω γ κ Q T pq L S) (Kn : 0 ≤ x.toInt → oWP ω γ κ Q T pc' L S) : oWP ω γ κ Q T pc L (.int x :: S) :=
  ow_if X pc' pq hd hp hq (fun q => Ky (by simp only [ifCond.holds, decide_eq_true_eq, decide_eq_false_iff_not, beq_iff_eq, bne_iff_ne, ne_eq, Int32.lt_iff_toInt_lt, Int32.le_iff_toInt_le, ← Int32.toInt_inj, o0, GT.gt, GE.ge, beq_eq_false_iff_ne, bne_eq_false_iff_eq, Decidable.not_not] at q; omega)) (fun q => Kn (by simp only [ifCond.holds, decide_eq_true_eq, decide_eq_false_iff_not, beq_iff_eq, bne_iff_ne, ne_eq, Int32.lt_iff_toInt_lt, Int32.le_iff_toInt_le, ← Int32.toInt_inj, o0, GT.gt, GE.ge, beq_eq_false_iff_ne, bne_eq_false_iff_eq, Decidable.not_not] at q; omega))
theorem ow_icmp_lt (X : oSt Z ω γ κ T h cs ss) (pc' pq : Nat) {x y : Int32} {o : Int} (hd : decode κ.1 pc = .ok (.if_icmp .lt o, 3)) (hp : pc + 3 = pc') (hq : (pc : Int) + o = (pq : Int))
    (Ky : x.toInt < y.toInt → oWP ω γ κ Q T pq L S) (Kn : y.toInt ≤ x.toInt → oWP ω γ κ Q T pc' L S) : oWP ω γ κ Q T pc L (.int y :: .int x :: S) :=
  ow_icmp X pc' pq hd hp hq (fun q => Ky (by simp only [if_icmp.holds, decide_eq_true_eq, decide_eq_false_iff_not, beq_iff_eq, bne_iff_ne, ne_eq, Int32.lt_iff_toInt_lt, Int32.le_iff_toInt_le, ← Int32.toInt_inj, o0, GT.gt, GE.ge, beq_eq_false_iff_ne, bne_eq_false_iff_eq, Decidable.not_not] at q; omega)) (fun q => Kn (by simp only [if_icmp.holds, decide_eq_true_eq, decide_eq_false_iff_not, beq_iff_eq, bne_iff_ne, ne_eq, Int32.lt_iff_toInt_lt, Int32.le_iff_toInt_le, ← Int32.toInt_inj, o0, GT.gt, GE.ge, beq_eq_false_iff_ne, bne_eq_false_iff_eq, Decidable.not_not] at q; omega))
theorem ow_if_ge (X : oSt Z ω γ κ T h cs ss) (pc' pq : Nat) {x : Int32} {o : Int} (hd : decode κ.1 pc = .ok (.ifCond .ge o, 3)) (hp : pc + 3 = pc') (hq : (pc : Int) + o = (pq : Int))
    (Ky : 0 ≤ x.toInt → oWP ω γ κ Q T pq L S) (Kn : x.toInt < 0 → oWP ω γ κ Q T pc' L S) : oWP ω γ κ Q T pc L (.int x :: S) :=
  ow_if X pc' pq hd hp hq (fun q => Ky (by simp only [ifCond.holds, decide_eq_true_eq, decide_eq_false_iff_not, beq_iff_eq, bne_iff_ne, ne_eq, Int32.lt_iff_toInt_lt, Int32.le_iff_toInt_le, ← Int32.toInt_inj, o0, GT.gt, GE.ge, beq_eq_false_iff_ne, bne_eq_false_iff_eq, Decidable.not_not] at q; omega)) (fun q => Kn (by simp only [ifCond.holds, decide_eq_true_eq, decide_eq_false_iff_not, beq_iff_eq, bne_iff_ne, ne_eq, Int32.lt_iff_toInt_lt, Int32.le_iff_toInt_le, ← Int32.toInt_inj, o0, GT.gt, GE.ge, beq_eq_false_iff_ne, bne_eq_false_iff_eq, Decidable.not_not] at q; omega))
theorem ow_icmp_ge (X : oSt Z ω γ κ T h cs ss) (pc' pq : Nat) {x y : Int32} {o : Int} (hd : decode κ.1 pc = .ok (.if_icmp .ge o, 3)) (hp : pc + 3 = pc') (hq : (pc : Int) + o = (pq : Int))
    (Ky : y.toInt ≤ x.toInt → oWP ω γ κ Q T pq L S) (Kn : x.toInt < y.toInt → oWP ω γ κ Q T pc' L S) : oWP ω γ κ Q T pc L (.int y :: .int x :: S) :=
  ow_icmp X pc' pq hd hp hq (fun q => Ky (by simp only [if_icmp.holds, decide_eq_true_eq, decide_eq_false_iff_not, beq_iff_eq, bne_iff_ne, ne_eq, Int32.lt_iff_toInt_lt, Int32.le_iff_toInt_le, ← Int32.toInt_inj, o0, GT.gt, GE.ge, beq_eq_false_iff_ne, bne_eq_false_iff_eq, Decidable.not_not] at q; omega)) (fun q => Kn (by simp only [if_icmp.holds, decide_eq_true_eq, decide_eq_false_iff_not, beq_iff_eq, bne_iff_ne, ne_eq, Int32.lt_iff_toInt_lt, Int32.le_iff_toInt_le, ← Int32.toInt_inj, o0, GT.gt, GE.ge, beq_eq_false_iff_ne, bne_eq_false_iff_eq, Decidable.not_not] at q; omega))
theorem ow_if_gt (X : oSt Z ω γ κ T h cs ss) (pc' pq : Nat) {x : Int32} {o : Int} (hd : decode κ.1 pc = .ok (.ifCond .gt o, 3)) (hp : pc + 3 = pc') (hq : (pc : Int) + o = (pq : Int))
    (Ky : 0 < x.toInt → oWP ω γ κ Q T pq L S) (Kn : x.toInt ≤ 0 → oWP ω γ κ Q T pc' L S) : oWP ω γ κ Q T pc L (.int x :: S) :=
  ow_if X pc' pq hd hp hq (fun q => Ky (by simp only [ifCond.holds, decide_eq_true_eq, decide_eq_false_iff_not, beq_iff_eq, bne_iff_ne, ne_eq, Int32.lt_iff_toInt_lt, Int32.le_iff_toInt_le, ← Int32.toInt_inj, o0, GT.gt, GE.ge, beq_eq_false_iff_ne, bne_eq_false_iff_eq, Decidable.not_not] at q; omega)) (fun q => Kn (by simp only [ifCond.holds, decide_eq_true_eq, decide_eq_false_iff_not, beq_iff_eq, bne_iff_ne, ne_eq, Int32.lt_iff_toInt_lt, Int32.le_iff_toInt_le, ← Int32.toInt_inj, o0, GT.gt, GE.ge, beq_eq_false_iff_ne, bne_eq_false_iff_eq, Decidable.not_not] at q; omega))
theorem ow_icmp_gt (X : oSt Z ω γ κ T h cs ss) (pc' pq : Nat) {x y : Int32} {o : Int} (hd : decode κ.1 pc = .ok (.if_icmp .gt o, 3)) (hp : pc + 3 = pc') (hq : (pc : Int) + o = (pq : Int))
    (Ky : y.toInt < x.toInt → oWP ω γ κ Q T pq L S) (Kn : x.toInt ≤ y.toInt → oWP ω γ κ Q T pc' L S) : oWP ω γ κ Q T pc L (.int y :: .int x :: S) :=
  ow_icmp X pc' pq hd hp hq (fun q => Ky (by simp only [if_icmp.holds, decide_eq_true_eq, decide_eq_false_iff_not, beq_iff_eq, bne_iff_ne, ne_eq, Int32.lt_iff_toInt_lt, Int32.le_iff_toInt_le, ← Int32.toInt_inj, o0, GT.gt, GE.ge, beq_eq_false_iff_ne, bne_eq_false_iff_eq, Decidable.not_not] at q; omega)) (fun q => Kn (by simp only [if_icmp.holds, decide_eq_true_eq, decide_eq_false_iff_not, beq_iff_eq, bne_iff_ne, ne_eq, Int32.lt_iff_toInt_lt, Int32.le_iff_toInt_le, ← Int32.toInt_inj, o0, GT.gt, GE.ge, beq_eq_false_iff_ne, bne_eq_false_iff_eq, Decidable.not_not] at q; omega))
theorem ow_if_le (X : oSt Z ω γ κ T h cs ss) (pc' pq : Nat) {x : Int32} {o : Int} (hd : decode κ.1 pc = .ok (.ifCond .le o, 3)) (hp : pc + 3 = pc') (hq : (pc : Int) + o = (pq : Int))
    (Ky : x.toInt ≤ 0 → oWP ω γ κ Q T pq L S) (Kn : 0 < x.toInt → oWP ω γ κ Q T pc' L S) : oWP ω γ κ Q T pc L (.int x :: S) :=
  ow_if X pc' pq hd hp hq (fun q => Ky (by simp only [ifCond.holds, decide_eq_true_eq, decide_eq_false_iff_not, beq_iff_eq, bne_iff_ne, ne_eq, Int32.lt_iff_toInt_lt, Int32.le_iff_toInt_le, ← Int32.toInt_inj, o0, GT.gt, GE.ge, beq_eq_false_iff_ne, bne_eq_false_iff_eq, Decidable.not_not] at q; omega)) (fun q => Kn (by simp only [ifCond.holds, decide_eq_true_eq, decide_eq_false_iff_not, beq_iff_eq, bne_iff_ne, ne_eq, Int32.lt_iff_toInt_lt, Int32.le_iff_toInt_le, ← Int32.toInt_inj, o0, GT.gt, GE.ge, beq_eq_false_iff_ne, bne_eq_false_iff_eq, Decidable.not_not] at q; omega))
theorem ow_icmp_le (X : oSt Z ω γ κ T h cs ss) (pc' pq : Nat) {x y : Int32} {o : Int} (hd : decode κ.1 pc = .ok (.if_icmp .le o, 3)) (hp : pc + 3 = pc') (hq : (pc : Int) + o = (pq : Int))
    (Ky : x.toInt ≤ y.toInt → oWP ω γ κ Q T pq L S) (Kn : y.toInt < x.toInt → oWP ω γ κ Q T pc' L S) : oWP ω γ κ Q T pc L (.int y :: .int x :: S) :=
  ow_icmp X pc' pq hd hp hq (fun q => Ky (by simp only [if_icmp.holds, decide_eq_true_eq, decide_eq_false_iff_not, beq_iff_eq, bne_iff_ne, ne_eq, Int32.lt_iff_toInt_lt, Int32.le_iff_toInt_le, ← Int32.toInt_inj, o0, GT.gt, GE.ge, beq_eq_false_iff_ne, bne_eq_false_iff_eq, Decidable.not_not] at q; omega)) (fun q => Kn (by simp only [if_icmp.holds, decide_eq_true_eq, decide_eq_false_iff_not, beq_iff_eq, bne_iff_ne, ne_eq, Int32.lt_iff_toInt_lt, Int32.le_iff_toInt_le, ← Int32.toInt_inj, o0, GT.gt, GE.ge, beq_eq_false_iff_ne, bne_eq_false_iff_eq, Decidable.not_not] at q; omega))
theorem ow_lcmp (X : oSt Z ω γ κ T h cs ss) (pc' : Nat) {x y : Int64} (hd : decode κ.1 pc = .ok (.lcmp, 1)) (hp : pc + 1 = pc')
    (K : oWP ω γ κ Q T pc' L (.int (lcmpW x y) :: S)) : oWP ω γ κ Q T pc L (.long y :: .long x :: S) := by
  obtain ⟨hx, hby, -, -, -, -, -, -, -, -, -, locs, Y, -⟩ := X
  subst hp
  obtain ⟨s₂, o, hs, r⟩ := K
  exact ⟨s₂, o, XS.lcmp Y.here hx rfl (hb hby hd) rfl hs, r⟩
theorem ow_lcmp_eq (X : oSt Z ω γ κ T h cs ss) (pc1 pc' pq : Nat) {x y : Int64} {o : Int} (hd : decode κ.1 pc = .ok (.lcmp, 1)) (hp1 : pc + 1 = pc1) (hd' : decode κ.1 pc1 = .ok (.ifCond .eq o, 3)) (hp : pc1 + 3 = pc') (hq : (pc1 : Int) + o = (pq : Int))
    (Ky : x.toInt = y.toInt → oWP ω γ κ Q T pq L S) (Kn : x.toInt ≠ y.toInt → oWP ω γ κ Q T pc' L S) : oWP ω γ κ Q T pc L (.long y :: .long x :: S) := by
  refine ow_lcmp X pc1 hd hp1 (ow_if_eq X pc' pq hd' hp hq (fun q => Ky ?_) (fun q => Kn ?_))
  · obtain ⟨c1, c2, c3⟩ := c_lcmp x y
    rcases Int.lt_trichotomy x.toInt y.toInt with a | a | a
    · have := c1 a; omega
    · have := c2 a; omega
    · have := c3 a; omega
  · obtain ⟨c1, c2, c3⟩ := c_lcmp x y
    rcases Int.lt_trichotomy x.toInt y.toInt with a | a | a
    · have := c1 a; omega
    · have := c2 a; omega
    · have := c3 a; omega
theorem ow_lcmp_ne (X : oSt Z ω γ κ T h cs ss) (pc1 pc' pq : Nat) {x y : Int64} {o : Int} (hd : decode κ.1 pc = .ok (.lcmp, 1)) (hp1 : pc + 1 = pc1) (hd' : decode κ.1 pc1 = .ok (.ifCond .ne o, 3)) (hp : pc1 + 3 = pc') (hq : (pc1 : Int) + o = (pq : Int))
    (Ky : x.toInt ≠ y.toInt → oWP ω γ κ Q T pq L S) (Kn : x.toInt = y.toInt → oWP ω γ κ Q T pc' L S) : oWP ω γ κ Q T pc L (.long y :: .long x :: S) := by
  refine ow_lcmp X pc1 hd hp1 (ow_if_ne X pc' pq hd' hp hq (fun q => Ky ?_) (fun q => Kn ?_))
  · obtain ⟨c1, c2, c3⟩ := c_lcmp x y
    rcases Int.lt_trichotomy x.toInt y.toInt with a | a | a
    · have := c1 a; omega
    · have := c2 a; omega
    · have := c3 a; omega
  · obtain ⟨c1, c2, c3⟩ := c_lcmp x y
    rcases Int.lt_trichotomy x.toInt y.toInt with a | a | a
    · have := c1 a; omega
    · have := c2 a; omega
    · have := c3 a; omega
theorem ow_lcmp_lt (X : oSt Z ω γ κ T h cs ss) (pc1 pc' pq : Nat) {x y : Int64} {o : Int} (hd : decode κ.1 pc = .ok (.lcmp, 1)) (hp1 : pc + 1 = pc1) (hd' : decode κ.1 pc1 = .ok (.ifCond .lt o, 3)) (hp : pc1 + 3 = pc') (hq : (pc1 : Int) + o = (pq : Int))
    (Ky : x.toInt < y.toInt → oWP ω γ κ Q T pq L S) (Kn : y.toInt ≤ x.toInt → oWP ω γ κ Q T pc' L S) : oWP ω γ κ Q T pc L (.long y :: .long x :: S) := by
  refine ow_lcmp X pc1 hd hp1 (ow_if_lt X pc' pq hd' hp hq (fun q => Ky ?_) (fun q => Kn ?_))
  · obtain ⟨c1, c2, c3⟩ := c_lcmp x y
    rcases Int.lt_trichotomy x.toInt y.toInt with a | a | a
    · have := c1 a; omega
    · have := c2 a; omega
    · have := c3 a; omega
  · obtain ⟨c1, c2, c3⟩ := c_lcmp x y
    rcases Int.lt_trichotomy x.toInt y.toInt with a | a | a
    · have := c1 a; omega
    · have := c2 a; omega
    · have := c3 a; omega
theorem ow_lcmp_ge (X : oSt Z ω γ κ T h cs ss) (pc1 pc' pq : Nat) {x y : Int64} {o : Int} (hd : decode κ.1 pc = .ok (.lcmp, 1)) (hp1 : pc + 1 = pc1) (hd' : decode κ.1 pc1 = .ok (.ifCond .ge o, 3)) (hp : pc1 + 3 = pc') (hq : (pc1 : Int) + o = (pq : Int))
    (Ky : y.toInt ≤ x.toInt → oWP ω γ κ Q T pq L S) (Kn : x.toInt < y.toInt → oWP ω γ κ Q T pc' L S) : oWP ω γ κ Q T pc L (.long y :: .long x :: S) := by
  refine ow_lcmp X pc1 hd hp1 (ow_if_ge X pc' pq hd' hp hq (fun q => Ky ?_) (fun q => Kn ?_))
  · obtain ⟨c1, c2, c3⟩ := c_lcmp x y
    rcases Int.lt_trichotomy x.toInt y.toInt with a | a | a
    · have := c1 a; omega
    · have := c2 a; omega
    · have := c3 a; omega
  · obtain ⟨c1, c2, c3⟩ := c_lcmp x y
    rcases Int.lt_trichotomy x.toInt y.toInt with a | a | a
    · have := c1 a; omega
    · have := c2 a; omega
    · have := c3 a; omega
theorem ow_lcmp_gt (X : oSt Z ω γ κ T h cs ss) (pc1 pc' pq : Nat) {x y : Int64} {o : Int} (hd : decode κ.1 pc = .ok (.lcmp, 1)) (hp1 : pc + 1 = pc1) (hd' : decode κ.1 pc1 = .ok (.ifCond .gt o, 3)) (hp : pc1 + 3 = pc') (hq : (pc1 : Int) + o = (pq : Int))
    (Ky : y.toInt < x.toInt → oWP ω γ κ Q T pq L S) (Kn : x.toInt ≤ y.toInt → oWP ω γ κ Q T pc' L S) : oWP ω γ κ Q T pc L (.long y :: .long x :: S) := by
  refine ow_lcmp X pc1 hd hp1 (ow_if_gt X pc' pq hd' hp hq (fun q => Ky ?_) (fun q => Kn ?_))
  · obtain ⟨c1, c2, c3⟩ := c_lcmp x y
    rcases Int.lt_trichotomy x.toInt y.toInt with a | a | a
    · have := c1 a; omega
    · have := c2 a; omega
    · have := c3 a; omega
  · obtain ⟨c1, c2, c3⟩ := c_lcmp x y
    rcases Int.lt_trichotomy x.toInt y.toInt with a | a | a
    · have := c1 a; omega
    · have := c2 a; omega
    · have := c3 a; omega
theorem ow_lcmp_le (X : oSt Z ω γ κ T h cs ss) (pc1 pc' pq : Nat) {x y : Int64} {o : Int} (hd : decode κ.1 pc = .ok (.lcmp, 1)) (hp1 : pc + 1 = pc1) (hd' : decode κ.1 pc1 = .ok (.ifCond .le o, 3)) (hp : pc1 + 3 = pc') (hq : (pc1 : Int) + o = (pq : Int))
    (Ky : x.toInt ≤ y.toInt → oWP ω γ κ Q T pq L S) (Kn : y.toInt < x.toInt → oWP ω γ κ Q T pc' L S) : oWP ω γ κ Q T pc L (.long y :: .long x :: S) := by
  refine ow_lcmp X pc1 hd hp1 (ow_if_le X pc' pq hd' hp hq (fun q => Ky ?_) (fun q => Kn ?_))
  · obtain ⟨c1, c2, c3⟩ := c_lcmp x y
    rcases Int.lt_trichotomy x.toInt y.toInt with a | a | a
    · have := c1 a; omega
    · have := c2 a; omega
    · have := c3 a; omega
  · obtain ⟨c1, c2, c3⟩ := c_lcmp x y
    rcases Int.lt_trichotomy x.toInt y.toInt with a | a | a
    · have := c1 a; omega
    · have := c2 a; omega
    · have := c3 a; omega
theorem ow_ifnull (X : oSt Z ω γ κ T h cs ss) (pc' pq : Nat) {v : Value} {o : Int} (hv : v.isRef = true) (hd : decode κ.1 pc = .ok (.ifnull o, 3)) (hp : pc + 3 = pc') (hq : (pc : Int) + o = (pq : Int))
    (Ky : v = .null → oWP ω γ κ Q T pq L S) (Kn : v ≠ .null → oWP ω γ κ Q T pc' L S) : oWP ω γ κ Q T pc L (v :: S) := by
  obtain ⟨hx, hby, -, -, -, -, -, -, -, -, -, locs, Y, -⟩ := X
  subst hp
  rcases ref_cases hv with rfl | ⟨a, rfl⟩
  · obtain ⟨s₂, o, hs, r⟩ := Ky rfl
    exact ⟨s₂, o, XS.ifnullYes Y.here hx rfl (pc0 := pc) rfl (hb hby hd) rfl (by omega) (by omega) hs, r⟩
  · obtain ⟨s₂, o, hs, r⟩ := Kn (by simp)
    exact ⟨s₂, o, XS.ifnullNo Y.here hx rfl (hb hby hd) rfl hs, r⟩
theorem ow_ifnonnull (X : oSt Z ω γ κ T h cs ss) (pc' pq : Nat) {v : Value} {o : Int} (hv : v.isRef = true) (hd : decode κ.1 pc = .ok (.ifnonnull o, 3)) (hp : pc + 3 = pc') (hq : (pc : Int) + o = (pq : Int))
    (Ky : v ≠ .null → oWP ω γ κ Q T pq L S) (Kn : v = .null → oWP ω γ κ Q T pc' L S) : oWP ω γ κ Q T pc L (v :: S) := by
  obtain ⟨hx, hby, -, -, -, -, -, -, -, -, -, locs, Y, -⟩ := X
  subst hp
  rcases ref_cases hv with rfl | ⟨a, rfl⟩
  · obtain ⟨s₂, o, hs, r⟩ := Kn rfl
    exact ⟨s₂, o, XS.ifnonnullNo Y.here hx rfl (hb hby hd) rfl hs, r⟩
  · obtain ⟨s₂, o, hs, r⟩ := Ky (by simp)
    exact ⟨s₂, o, XS.ifnonnullYes Y.here hx rfl (pc0 := pc) rfl (hb hby hd) rfl (by omega) (by omega) hs, r⟩
theorem ow_acmp_eq (X : oSt Z ω γ κ T h cs ss) (pc' pq : Nat) {v w : Value} {o : Int} (hv : v.isRef = true) (hw : w.isRef = true) (hd : decode κ.1 pc = .ok (.if_acmp .eq o, 3)) (hp : pc + 3 = pc') (hq : (pc : Int) + o = (pq : Int))
    (Ky : v = w → oWP ω γ κ Q T pq L S) (Kn : v ≠ w → oWP ω γ κ Q T pc' L S) : oWP ω γ κ Q T pc L (w :: v :: S) := by
  obtain ⟨hx, hby, -, -, -, -, -, -, -, -, -, locs, Y, -⟩ := X
  subst hp
  by_cases e : v = w
  · obtain ⟨s₂, o, hs, r⟩ := Ky e
    exact ⟨s₂, o, RoadKit.acmp Y hx rfl hv hw (pc0 := pc) rfl (hb hby hd) rfl (same := true) (by simp [e]) (by omega) (by simp [acV]; omega) hs, r⟩
  · obtain ⟨s₂, o, hs, r⟩ := Kn e
    exact ⟨s₂, o, RoadKit.acmp Y hx rfl hv hw (pc0 := pc) rfl (hb hby hd) rfl (same := false) (by simp [e]) (by omega) (by simp [acV]) hs, r⟩
theorem ow_acmp_ne (X : oSt Z ω γ κ T h cs ss) (pc' pq : Nat) {v w : Value} {o : Int} (hv : v.isRef = true) (hw : w.isRef = true) (hd : decode κ.1 pc = .ok (.if_acmp .ne o, 3)) (hp : pc + 3 = pc') (hq : (pc : Int) + o = (pq : Int))
    (Ky : v ≠ w → oWP ω γ κ Q T pq L S) (Kn : v = w → oWP ω γ κ Q T pc' L S) : oWP ω γ κ Q T pc L (w :: v :: S) := by
  obtain ⟨hx, hby, -, -, -, -, -, -, -, -, -, locs, Y, -⟩ := X
  subst hp
  by_cases e : v = w
  · obtain ⟨s₂, o, hs, r⟩ := Kn e
    exact ⟨s₂, o, RoadKit.acmp Y hx rfl hv hw (pc0 := pc) rfl (hb hby hd) rfl (same := true) (by simp [e]) (by omega) (by simp [acV]) hs, r⟩
  · obtain ⟨s₂, o, hs, r⟩ := Ky e
    exact ⟨s₂, o, RoadKit.acmp Y hx rfl hv hw (pc0 := pc) rfl (hb hby hd) rfl (same := false) (by simp [e]) (by omega) (by simp [acV]; omega) hs, r⟩
theorem ow_ret (X : oSt Z ω γ κ T h cs ss) {w : Value} {t : FieldType} {i : Instr} (hret : κ.2.2.2.2.1 = some t) (hn : narrow t w = w)
    (hi : (i = .ireturn ∧ (t = .int ∨ t = .boolean ∨ t = .byte ∨ t = .char ∨ t = .short) ∧ ∃ z, w = .int z) ∨ (i = .lreturn ∧ t = .long ∧ ∃ z, w = .long z) ∨ (i = .dreturn ∧ t = .double ∧ ∃ z, w = .double z) ∨ (i = .freturn ∧ t = .float ∧ ∃ z, w = .float z) ∨ (i = .areturn ∧ t.isReference = true ∧ w.isRef = true))
    (hd : decode κ.1 pc = .ok (i, 1)) (hc : cs ≤ κ.2.2.2.2.2.cells) (hsl : ss ≤ κ.2.2.2.2.2.slots) (hQ : Q (some w) h) : oWP ω γ κ Q T pc L (w :: S) := by
  obtain ⟨hx, hby, -, -, -, hr, hlk, -, -, ⟨-, k0, hS, hk⟩, hT, locs, Y, N⟩ := X
  obtain ⟨fs, hl, hrun, hended, -, hW, hB, hsame⟩ := Stand.leaveW (s := γ.2.2.1.setVm γ.2.2.2.2.2.2.2.2) (vm₁ := γ.2.2.1.vm) Y hS (by rw [hT]; exact hk) (v := some w) (fun q => by rw [hr, hret] at q; cases q) hlk
  refine ⟨_, _, retOut Y hx (hr.trans hret) hn hi (hb hby hd) hl, hrun, hended, _, locs, rfl, ⟨N, ?_⟩, ⟨_, rfl⟩, hW, hB, hsame.mono hc hsl⟩
  show Q (some w) T.heap
  rw [hT]; exact hQ
theorem ow_retI (X : oSt Z ω γ κ T h cs ss) {z : Int32} (hret : κ.2.2.2.2.1 = some .int) (hd : decode κ.1 pc = .ok (.ireturn, 1)) (hc : cs ≤ κ.2.2.2.2.2.cells) (hsl : ss ≤ κ.2.2.2.2.2.slots) (hQ : Q (some (.int z)) h) : oWP ω γ κ Q T pc L (.int z :: S) :=
  ow_ret X hret rfl (Or.inl ⟨rfl, Or.inl rfl, z, rfl⟩) hd hc hsl hQ
theorem ow_retZ (X : oSt Z ω γ κ T h cs ss) {z : Int32} (hret : κ.2.2.2.2.1 = some .boolean) (hd : decode κ.1 pc = .ok (.ireturn, 1)) (hc : cs ≤ κ.2.2.2.2.2.cells) (hsl : ss ≤ κ.2.2.2.2.2.slots) (hz : z = 0 ∨ z = 1) (hQ : Q (some (.int z)) h) : oWP ω γ κ Q T pc L (.int z :: S) :=
  ow_ret X hret (by rcases hz with rfl | rfl <;> rfl) (Or.inl ⟨rfl, Or.inr (Or.inl rfl), z, rfl⟩) hd hc hsl hQ
theorem ow_retC (X : oSt Z ω γ κ T h cs ss) {z : Int32} (hret : κ.2.2.2.2.1 = some .char) (hd : decode κ.1 pc = .ok (.ireturn, 1)) (hc : cs ≤ κ.2.2.2.2.2.cells) (hsl : ss ≤ κ.2.2.2.2.2.slots) (hz : z.toUInt32.toUInt16.toUInt32.toInt32 = z) (hQ : Q (some (.int z)) h) : oWP ω γ κ Q T pc L (.int z :: S) :=
  ow_ret X hret (by show Value.int z.toUInt32.toUInt16.toUInt32.toInt32 = _; rw [hz]) (Or.inl ⟨rfl, Or.inr (Or.inr (Or.inr (Or.inl rfl))), z, rfl⟩) hd hc hsl hQ
theorem ow_retJ (X : oSt Z ω γ κ T h cs ss) {z : Int64} (hret : κ.2.2.2.2.1 = some .long) (hd : decode κ.1 pc = .ok (.lreturn, 1)) (hc : cs ≤ κ.2.2.2.2.2.cells) (hsl : ss ≤ κ.2.2.2.2.2.slots) (hQ : Q (some (.long z)) h) : oWP ω γ κ Q T pc L (.long z :: S) :=
  ow_ret X hret rfl (Or.inr (Or.inl ⟨rfl, rfl, z, rfl⟩)) hd hc hsl hQ
theorem ow_retA (X : oSt Z ω γ κ T h cs ss) {v : Value} {t : FieldType} (hret : κ.2.2.2.2.1 = some t) (ht : t.isReference = true) (hv : v.isRef = true) (hd : decode κ.1 pc = .ok (.areturn, 1)) (hc : cs ≤ κ.2.2.2.2.2.cells) (hsl : ss ≤ κ.2.2.2.2.2.slots) (hQ : Q (some v) h) : oWP ω γ κ Q T pc L (v :: S) :=
  ow_ret X hret (by cases t <;> first | rfl | cases ht) (Or.inr (Or.inr (Or.inr (Or.inr ⟨rfl, ht, hv⟩)))) hd hc hsl hQ
theorem ow_retV (X : oSt Z ω γ κ T h cs ss) (hret : κ.2.2.2.2.1 = none) (hd : decode κ.1 pc = .ok (.return_, 1)) (hc : cs ≤ κ.2.2.2.2.2.cells) (hsl : ss ≤ κ.2.2.2.2.2.slots) (hQ : Q none h) : oWP ω γ κ Q T pc L [] := by
  obtain ⟨hx, hby, -, -, -, hr, hlk, -, -, ⟨-, k0, hS, hk⟩, hT, locs, Y, N⟩ := X
  obtain ⟨fs, hl, hrun, hended, -, hW, hB, hsame⟩ := Stand.leaveW (s := γ.2.2.1.setVm γ.2.2.2.2.2.2.2.2) (vm₁ := γ.2.2.1.vm) Y hS (by rw [hT]; exact hk) (v := none) (fun _ => rfl) hlk
  refine ⟨_, _, Y.returnOut hx (hr.trans hret) (hb hby hd) hl, hrun, hended, _, locs, rfl, ⟨N, ?_⟩, ⟨_, rfl⟩, hW, hB, hsame.mono hc hsl⟩
  show Q none T.heap
  rw [hT]; exact hQ
theorem ow_getF (X : oSt Z ω γ κ T h cs ss) (pc' i : Nat) {own O n d : String} {idx : Nat} {a : Addr} {v : Value} (hw : tables_1[i]? = some (.fieldLink own idx O n d)) (ho : κ.2.2.1 = own) (F : Fld Z h a O n d v) (hd : decode κ.1 pc = .ok (.getfield idx, 3)) (hp : pc + 3 = pc')
    (K : ∀ T', oSt Z ω γ κ T' h cs ss → oWP ω γ κ Q T' pc' L (v :: S)) : oWP ω γ κ Q T pc L (.ref a :: S) := by
  have hw' := oSt_at X i hw
  obtain ⟨hx, hby, hml, hown, hnm, hr, hlk, hZ, hT1, hn0, hT, locs, Y, N⟩ := X
  subst hp ho
  obtain ⟨T', Y', e', st⟩ := getF Y hx hZ hown (host := "") (Or.inl hw') Via.refl hT F (g := mkF γ.2.2.2.1 pc L (.ref a :: S)) rfl rfl (hb hby hd)
  obtain ⟨s₂, o, hs, r⟩ := K T' ⟨hx, hby, hml, hown, hnm, hr, hlk, hZ, hT1, hn0, e', locs, Y', N⟩
  exact ⟨s₂, o, st _ hs, r⟩
theorem ow_getS (X : oSt Z ω γ κ T h cs ss) (pc' i : Nat) {own O n d : String} {idx : Nat} {v : Value} (hw : tables_1[i]? = some (.fieldLink own idx O n d)) (ho : κ.2.2.1 = own) (F : Sta Z h O n d v) (hd : decode κ.1 pc = .ok (.getstatic idx, 3)) (hp : pc + 3 = pc')
    (K : ∀ T', oSt Z ω γ κ T' h cs ss → oWP ω γ κ Q T' pc' L (v :: S)) : oWP ω γ κ Q T pc L S := by
  have hw' := oSt_at X i hw
  obtain ⟨hx, hby, hml, hown, hnm, hr, hlk, hZ, hT1, hn0, hT, locs, Y, N⟩ := X
  subst hp ho
  obtain ⟨T', Y', e', st⟩ := getS Y hx hZ hown hw' Via.refl hT F (g := mkF γ.2.2.2.1 pc L S) rfl (hb hby hd) (host := "")
  obtain ⟨s₂, o, hs, r⟩ := K T' ⟨hx, hby, hml, hown, hnm, hr, hlk, hZ, hT1, hn0, e', locs, Y', N⟩
  exact ⟨s₂, o, st _ hs, r⟩
theorem ow_cast (X : oSt Z ω γ κ T h cs ss) (pc' i : Nat) {own K : String} {idx : Nat} {a : Addr} (hw : tables_1[i]? = some (.classLink own idx K)) (ho : κ.2.2.1 = own) (F : Ins Z h a K true) (hd : decode κ.1 pc = .ok (.checkcast idx, 3)) (hp : pc + 3 = pc')
    (K' : ∀ T', oSt Z ω γ κ T' h cs ss → oWP ω γ κ Q T' pc' L (.ref a :: S)) : oWP ω γ κ Q T pc L (.ref a :: S) := by
  have hw' := oSt_at X i hw
  obtain ⟨hx, hby, hml, hown, hnm, hr, hlk, hZ, hT1, hn0, hT, locs, Y, N⟩ := X
  subst hp ho
  obtain ⟨T', Y', e', st⟩ := castY Y hx hZ hown hw' hT F (g := mkF γ.2.2.2.1 pc L (.ref a :: S)) rfl rfl (hb hby hd)
  obtain ⟨s₂, o, hs, r⟩ := K' T' ⟨hx, hby, hml, hown, hnm, hr, hlk, hZ, hT1, hn0, e', locs, Y', N⟩
  exact ⟨s₂, o, st _ hs, r⟩
theorem ow_putF (X : oSt Z ω γ κ T h cs ss) (pc' i k : Nat) {own O n d C : String} {idx kk : Nat} {a : Addr} {v old : Value} {ty : FieldType} (hw : tables_1[i]? = some (.fieldLink own idx O n d)) (ho : κ.2.2.1 = own) (F : Fld Z h a O n d old) (E : Exa Z h a C)
    (hl : (Jvm.Cond.lays C O n d).before ω.2.2 Z = true ∨ ((Jvm.Cond.laysFinal C O n d).before ω.2.2 Z = true ∧ κ.2.2.1 = O ∧ κ.2.2.2.1 = "<init>")) (hi : tables_1[k]? = some (.instantiable C kk)) (hty : parseFieldDescriptor d = some ty) (hn : narrow ty v = v) (hf : fits ty v = true) (ha : ω.2.1 ≤ a)
    (hd : decode κ.1 pc = .ok (.putfield idx, 3)) (hp : pc + 3 = pc')
    (K : ∀ T' h', oSt Z ω γ κ T' h' cs ss → Wr h h' a (RoadKit.slotOf Z O n d) v → oWP ω γ κ Q T' pc' L S) : oWP ω γ κ Q T pc L (v :: .ref a :: S) := by
  have hw' := oSt_at X i hw
  have hi' := oSt_at X k hi
  obtain ⟨hx, hby, hml, hown, hnm, hr, hlk, hZ, hT1, hn0, hT, locs, Y, N⟩ := X
  subst hp ho
  obtain ⟨T', h', Y', e', W, st⟩ := putF Y hx hZ hown (host := "") (Or.inl hw') Via.refl hT F E (hl.imp id fun q => ⟨q.1, q.2.1, hnm.trans q.2.2⟩) hi' hty hn hf (g := mkF γ.2.2.2.1 pc L (v :: .ref a :: S)) rfl rfl (hb hby hd)
  obtain ⟨s₂, o, hs, r⟩ := K T' h' ⟨hx, hby, hml, hown, hnm, hr, hlk, hZ, hT1, oSnW hn0 W, e', _, Y', Fr.snoc Y' N ha⟩ W
  exact ⟨s₂, o, st _ hs, r⟩
theorem ow_new (X : oSt Z ω γ κ T h cs ss) (pc' i1 i2 i3 : Nat) {own C : String} {idx n : Nat} (w1 : tables_1[i1]? = some (.classLink own idx C)) (ho : κ.2.2.1 = own) (w2 : tables_1[i2]? = some (.instantiable C n)) (w3 : tables_1[i3]? = some (.initialized C))
    (hd : decode κ.1 pc = .ok (.new idx, 3)) (hp : pc + 3 = pc') (hc : cs + 1 ≤ κ.2.2.2.2.2.cells) (hsl : ss + n ≤ κ.2.2.2.2.2.slots)
    (K : ∀ T' h' a, a = h.size → oSt Z ω γ κ T' h' (cs + 1) (ss + n) → Ext h h' → Exa Z h' a C → (∀ {O nm d : String} {ty : FieldType}, Laid Z ω.2.2 C O nm d → parseFieldDescriptor d = some ty → Fld Z h' a O nm d (defaultValue ty)) → ω.2.1 ≤ a → oWP ω γ κ Q T' pc' L (.ref a :: S)) : oWP ω γ κ Q T pc L S := by
  have w1' := oSt_at X i1 w1
  have w2' := oSt_at X i2 w2
  have w3' := oSt_at X i3 w3
  have hN := oSt_n0 X
  obtain ⟨hx, hby, hml, hown, hnm, hr, hlk, hZ, hT1, hn0, hT, locs, Y, N⟩ := X
  subst hp ho
  obtain ⟨T', h', Y', e', E, A, D, -, st⟩ := newO Y hx hZ hown w1' w2' w3' hT (g := mkF γ.2.2.2.1 pc L S) rfl (hb hby hd) hc hsl
  obtain ⟨s₂, o, hs, r⟩ := K T' h' h.size rfl ⟨hx, hby, hml, hown, hnm, hr, hlk, hZ, hT1, oSnE hn0 E, e', _, Y', N⟩ E A D hN
  exact ⟨s₂, o, st _ hs, r⟩
theorem ow_initO (X : oSt Z ω γ κ T h cs ss) (pc' i1 i2 i3 : Nat) {own : String} {idx : Nat} {a : Addr} (w1 : tables_1[i1]? = some (.methodLink own idx Lib.objectInit)) (ho : κ.2.2.1 = own) (w2 : tables_1[i2]? = some (.instanceMethod Lib.objectInit)) (w3 : tables_1[i3]? = some (.code Lib.objectInit ⟨#[0xb1]⟩ 1 none))
    (hd : decode κ.1 pc = .ok (.invokespecial idx, 3)) (hp : pc + 3 = pc') (hL : L.size = κ.2.1) (hf : 1 ≤ κ.2.2.2.2.2.frames) {W : Nat} (hW : (S.map fun v => v.category).sum ≤ W) (hl : W + 12 ≤ κ.2.2.2.2.2.locals)
    (K : ∀ T', oSt Z ω γ κ T' h cs ss → oWP ω γ κ Q T' pc' L S) : oWP ω γ κ Q T pc L (.ref a :: S) := by
  have w1' := oSt_at X i1 w1
  have w2' := oSt_at X i2 w2
  have w3' := oSt_at X i3 w3
  obtain ⟨hx, hby, hml, hown, hnm, hr, hlk, hZ, hT1, hn0, hT, locs, Y, N⟩ := X
  subst hp ho
  obtain ⟨T', Y', e', st⟩ := initO Y hx hZ hown w1' w2' w3' hT (g := mkF γ.2.2.2.1 pc L (.ref a :: S)) rfl (by rw [hml]; exact hL) rfl (hb hby hd) hf (W := W) (by show 2 * 0 + _ ≤ _; omega) hl
  obtain ⟨s₂, o, hs, r⟩ := K T' ⟨hx, hby, hml, hown, hnm, hr, hlk, hZ, hT1, hn0, e', _, Y', N⟩
  exact ⟨s₂, o, st _ hs, r⟩
theorem ow_callS (X : oSt Z ω γ κ T h cs ss) (pc' i1 i2 i3 i4 : Nat) {own : String} {idx : Nat} {y : MethodName} {κ' : OM} {Q' : Option Value → Heap → Prop} {as : List Value} {ps : List FieldType} {rt : Option FieldType} {W : Nat} {S0 : List Value}
    (w1 : tables_1[i1]? = some (.methodLink own idx y)) (ho : κ.2.2.1 = own) (w2 : tables_1[i2]? = some (.static y)) (w3 : tables_1[i3]? = some (.initialized y.cls)) (w4 : tables_1[i4]? = some (.code y κ'.1 κ'.2.1 κ'.2.2.2.2.1)) (hy : y.cls ≠ "java/lang/invoke/MethodHandle" ∧ y.cls ≠ "java/lang/invoke/VarHandle")
    (C : oC Z ω y κ' [] as.toArray h Q') (hf : κ'.2.2.2.2.2.frames + 1 ≤ κ.2.2.2.2.2.frames) (hl : W + (κ'.2.1 + 11) + κ'.2.2.2.2.2.locals ≤ κ.2.2.2.2.2.locals) (hW : (S.map fun v => v.category).sum ≤ W) (hc : cs + κ'.2.2.2.2.2.cells ≤ κ.2.2.2.2.2.cells) (hs : ss + κ'.2.2.2.2.2.slots ≤ κ.2.2.2.2.2.slots)
    (hpd : parseMethodDescriptor y.desc = some ⟨ps, rt⟩) (hlen : as.length = ps.length) (hS : S0 = as.reverse ++ S) (hL : L.size = κ.2.1) (hd : decode κ.1 pc = .ok (.invokestatic idx, 3)) (hp : pc + 3 = pc')
    (K : ∀ (γ : OG) v T' h', oSt Z ω γ κ T' h' (cs + κ'.2.2.2.2.2.cells) (ss + κ'.2.2.2.2.2.slots) → Q' v h' → oWP ω γ κ Q T' pc' L (v.toList ++ S)) : oWP ω γ κ Q T pc L S0 := by
  have w1' := oSt_at X i1 w1
  have w2' := oSt_at X i2 w2
  have w3' := oSt_at X i3 w3
  have w4' := oSt_at X i4 w4
  have X_ := X
  obtain ⟨hx, hby, hml, hown, hnm, hr, hlk, hZ, hT1, hn0, hT, locs, Y, N⟩ := X
  subst hp ho hS
  obtain ⟨v, vm₁, ⟨T', L', k', n'⟩, -, Y', hS2, hgr, ⟨Lc, ⟨hF, hQ⟩, q1, q2, q3⟩, st⟩ := RoadKit.callSS Y hx (y := y) hown (mvT hZ w1') (mvT hZ w2') (mvT hZ w3') (mvT hZ w4') hy (backOfS (W := W) (Q := fun v hh Lc => Fr ω.2.1 Lc ∧ Q' v hh) (bytes := κ'.1) (maxL := κ'.2.1) (ret := κ'.2.2.2.2.1) (rm := κ'.2.2.2.2.2) C hZ w4' w3' hf hl) (g := mkF γ.2.2.2.1 pc L (as.reverse ++ S)) rfl (by rw [hml]; exact hL) (argsL := as) (rest := S) (lenOf hpd hlen) rfl (by show 2 * 0 + _ ≤ _; omega) (hb hby hd) (fun _ _ => ⟨rfl, hT, hc, hs⟩)
  dsimp only [Pt.U, Pt.locs, Pt.cells, Pt.slots] at Y' hS2 hgr q1 q2 q3 st hQ
  subst q1 q2 q3
  obtain ⟨s₂, o, hs, r⟩ := K _ v T' T'.heap (oReb X_ Y' hS2 hgr (N.app hF)) hQ
  exact ⟨s₂, o, st.trans hs, r⟩
theorem ow_callC (X : oSt Z ω γ κ T h cs ss) (pc' i1 i2 i3 i4 : Nat) {own : String} {idx : Nat} {y : MethodName} {κ' : OM} {Q' : Option Value → Heap → Prop} {a : Addr} {as : List Value} {ps : List FieldType} {rt : Option FieldType} {W : Nat} {S0 : List Value}
    (hy1 : y.name = "<init>") (w1 : tables_1[i1]? = some (.methodLink own idx y)) (ho : κ.2.2.1 = own) (w2 : tables_1[i2]? = some (.instanceMethod y)) (w3 : tables_1[i3]? = some (.initialized y.cls)) (w4 : tables_1[i4]? = some (.code y κ'.1 κ'.2.1 κ'.2.2.2.2.1)) (hr0 : κ'.2.2.2.2.1 = none) (hy : y.cls ≠ "java/lang/invoke/MethodHandle" ∧ y.cls ≠ "java/lang/invoke/VarHandle")
    (C : oC Z ω y κ' [] (.ref a :: as).toArray h Q') (hf : κ'.2.2.2.2.2.frames + 1 ≤ κ.2.2.2.2.2.frames) (hl : W + (κ'.2.1 + 11) + κ'.2.2.2.2.2.locals ≤ κ.2.2.2.2.2.locals) (hW : (S.map fun v => v.category).sum ≤ W) (hc : cs + κ'.2.2.2.2.2.cells ≤ κ.2.2.2.2.2.cells) (hs : ss + κ'.2.2.2.2.2.slots ≤ κ.2.2.2.2.2.slots)
    (hpd : parseMethodDescriptor y.desc = some ⟨ps, rt⟩) (hlen : as.length = ps.length) (hS : S0 = as.reverse ++ .ref a :: S) (hL : L.size = κ.2.1) (hd : decode κ.1 pc = .ok (.invokespecial idx, 3)) (hp : pc + 3 = pc')
    (K : ∀ (γ : OG) v T' h', oSt Z ω γ κ T' h' (cs + κ'.2.2.2.2.2.cells) (ss + κ'.2.2.2.2.2.slots) → Q' v h' → oWP ω γ κ Q T' pc' L (v.toList ++ S)) : oWP ω γ κ Q T pc L S0 := by
  have w1' := oSt_at X i1 w1
  have w2' := oSt_at X i2 w2
  have w3' := oSt_at X i3 w3
  have w4' := oSt_at X i4 w4
  have X_ := X
  obtain ⟨hx, hby, hml, hown, hnm, hr, hlk, hZ, hT1, hn0, hT, locs, Y, N⟩ := X
  subst hp ho hS
  obtain ⟨v, vm₁, ⟨T', L', k', n'⟩, -, Y', hS2, hgr, ⟨Lc, ⟨hF, hQ⟩, q1, q2, q3⟩, st⟩ := Y.specialBackS hx (y := y) hy1 hown (mvT hZ w1') (mvT hZ w2') (mvT hZ (hr0 ▸ w4')) hy (backOfS (W := W) (Q := fun v hh Lc => Fr ω.2.1 Lc ∧ Q' v hh) (bytes := κ'.1) (maxL := κ'.2.1) (ret := κ'.2.2.2.2.1) (rm := κ'.2.2.2.2.2) C hZ w4' w3' hf hl) (g := mkF γ.2.2.2.1 pc L (as.reverse ++ .ref a :: S)) rfl (by rw [hml]; exact hL) (Steps.refl _) (a := a) (argsL := as) (rest := S) (lenOf hpd hlen) rfl (by show 2 * 0 + _ ≤ _; omega) (hb hby hd) (fun _ _ => ⟨rfl, hT, hc, hs⟩)
  dsimp only [Pt.U, Pt.locs, Pt.cells, Pt.slots] at Y' hS2 hgr q1 q2 q3 st hQ
  subst q1 q2 q3
  obtain ⟨s₂, o, hs, r⟩ := K _ v T' T'.heap (oReb X_ Y' hS2 hgr (N.app hF)) hQ
  exact ⟨s₂, o, st.trans hs, r⟩
theorem ow_callV (X : oSt Z ω γ κ T h cs ss) (pc' i1 i2 i3 i4 i5 i6 : Nat) {own C0 : String} {idx : Nat} {y : MethodName} {κ' : OM} {Q' : Option Value → Heap → Prop} {a : Addr} {as : List Value} {ps : List FieldType} {rt : Option FieldType} {W : Nat} {S0 : List Value}
    (w1 : tables_1[i1]? = some (.methodLink own idx y)) (ho : κ.2.2.1 = own) (w2 : tables_1[i2]? = some (.declares y)) (w3 : tables_1[i3]? = some (.selects C0 y y)) (w4 : tables_1[i4]? = some (.instanceMethod y)) (w5 : tables_1[i5]? = some (.code y κ'.1 κ'.2.1 κ'.2.2.2.2.1)) (w6 : tables_1[i6]? = some (.initialized y.cls)) (hy : y.cls ≠ "java/lang/invoke/MethodHandle" ∧ y.cls ≠ "java/lang/invoke/VarHandle")
    (E : Exa Z h a C0) (C : oC Z ω y κ' [] (.ref a :: as).toArray h Q') (hf : κ'.2.2.2.2.2.frames + 1 ≤ κ.2.2.2.2.2.frames) (hl : W + (κ'.2.1 + 11) + κ'.2.2.2.2.2.locals ≤ κ.2.2.2.2.2.locals) (hW : (S.map fun v => v.category).sum ≤ W) (hc : cs + κ'.2.2.2.2.2.cells ≤ κ.2.2.2.2.2.cells) (hs : ss + κ'.2.2.2.2.2.slots ≤ κ.2.2.2.2.2.slots)
    (hpd : parseMethodDescriptor y.desc = some ⟨ps, rt⟩) (hlen : as.length = ps.length) (hS : S0 = as.reverse ++ .ref a :: S) (hL : L.size = κ.2.1) (hd : decode κ.1 pc = .ok (.invokevirtual idx, 3)) (hp : pc + 3 = pc')
    (K : ∀ (γ : OG) v T' h', oSt Z ω γ κ T' h' (cs + κ'.2.2.2.2.2.cells) (ss + κ'.2.2.2.2.2.slots) → Q' v h' → oWP ω γ κ Q T' pc' L (v.toList ++ S)) : oWP ω γ κ Q T pc L S0 := by
  have w1' := oSt_at X i1 w1
  have w2' := oSt_at X i2 w2
  have w3' := oSt_at X i3 w3
  have w4' := oSt_at X i4 w4
  have w5' := oSt_at X i5 w5
  have w6' := oSt_at X i6 w6
  have X_ := X
  obtain ⟨hx, hby, hml, hown, hnm, hr, hlk, hZ, hT1, hn0, hT, locs, Y, N⟩ := X
  subst hp ho hS
  obtain ⟨cq, kq, qa, qb, qc⟩ := isOf hZ hT E
  obtain ⟨v, vm₁, ⟨T', L', k', n'⟩, -, Y', hS2, hgr, ⟨Lc, ⟨hF, hQ⟩, q1, q2, q3⟩, st⟩ := Y.virtualBackS hx (y := y) (z := y) hown (mvT hZ w1') (mvT hZ w2') (notFace_of_selects (args := #[]) (mvT hZ w3')) (mvT hZ w3') (mvT hZ w4') hy (backOfS (W := W) (Q := fun v hh Lc => Fr ω.2.1 Lc ∧ Q' v hh) (bytes := κ'.1) (maxL := κ'.2.1) (ret := κ'.2.2.2.2.1) (rm := κ'.2.2.2.2.2) C hZ w5' w6' hf hl) qa qc (g := mkF γ.2.2.2.1 pc L (as.reverse ++ .ref a :: S)) rfl (by rw [hml]; exact hL) (Steps.refl _) (argsL := as) (rest := S) (lenOf hpd hlen) rfl (by show 2 * 0 + _ ≤ _; omega) (hb hby hd) (fun _ _ => ⟨rfl, hT, hc, hs⟩)
  dsimp only [Pt.U, Pt.locs, Pt.cells, Pt.slots] at Y' hS2 hgr q1 q2 q3 st hQ
  subst q1 q2 q3
  obtain ⟨s₂, o, hs, r⟩ := K _ v T' T'.heap (oReb X_ Y' hS2 hgr (N.app hF)) hQ
  exact ⟨s₂, o, st.trans hs, r⟩
theorem ow_callP (X : oSt Z ω γ κ T h cs ss) (pc' i1 i2 i3 i4 i5 i6 : Nat) {own C0 : String} {idx nn : Nat} {y : MethodName} {κ' : OM} {Q' : Option Value → Heap → Prop} {a : Addr} {as : List Value} {ps : List FieldType} {rt : Option FieldType} {W : Nat} {S0 : List Value}
    (w1 : tables_1[i1]? = some (.methodLink own idx y)) (ho : κ.2.2.1 = own) (w2 : tables_1[i2]? = some (.instanceMethod y)) (w3 : tables_1[i3]? = some (.privateMethod y)) (w4 : tables_1[i4]? = some (.initialized y.cls)) (w5 : tables_1[i5]? = some (.code y κ'.1 κ'.2.1 κ'.2.2.2.2.1)) (w6 : tables_1[i6]? = some (.instantiable y.cls nn)) (hy : y.cls ≠ "java/lang/invoke/MethodHandle" ∧ y.cls ≠ "java/lang/invoke/VarHandle")
    (E : Exa Z h a C0) (C : oC Z ω y κ' [] (.ref a :: as).toArray h Q') (hf : κ'.2.2.2.2.2.frames + 1 ≤ κ.2.2.2.2.2.frames) (hl : W + (κ'.2.1 + 11) + κ'.2.2.2.2.2.locals ≤ κ.2.2.2.2.2.locals) (hW : (S.map fun v => v.category).sum ≤ W) (hc : cs + κ'.2.2.2.2.2.cells ≤ κ.2.2.2.2.2.cells) (hs : ss + κ'.2.2.2.2.2.slots ≤ κ.2.2.2.2.2.slots)
    (hpd : parseMethodDescriptor y.desc = some ⟨ps, rt⟩) (hlen : as.length = ps.length) (hS : S0 = as.reverse ++ .ref a :: S) (hL : L.size = κ.2.1) (hd : decode κ.1 pc = .ok (.invokevirtual idx, 3)) (hp : pc + 3 = pc')
    (K : ∀ (γ : OG) v T' h', oSt Z ω γ κ T' h' (cs + κ'.2.2.2.2.2.cells) (ss + κ'.2.2.2.2.2.slots) → Q' v h' → oWP ω γ κ Q T' pc' L (v.toList ++ S)) : oWP ω γ κ Q T pc L S0 := by
  have w1' := oSt_at X i1 w1
  have w2' := oSt_at X i2 w2
  have w3' := oSt_at X i3 w3
  have w4' := oSt_at X i4 w4
  have w5' := oSt_at X i5 w5
  have w6' := oSt_at X i6 w6
  have X_ := X
  obtain ⟨hx, hby, hml, hown, hnm, hr, hlk, hZ, hT1, hn0, hT, locs, Y, N⟩ := X
  subst hp ho hS
  obtain ⟨cq, q1, q2⟩ := E.cell
  obtain ⟨ck, kk, i1, i2, -, i4, -⟩ := Cond.instantiable_spec (mvT (args := #[]) hZ w6')
  have hni : kk.isInterface = false := (Bool.or_eq_false_iff.mp i4).1
  have hpr := Cond.privateMethod_at (mvP (args := #[]) hZ w3')
  obtain ⟨v, vm₁, ⟨T', L', k', n'⟩, -, Y', hS2, hgr, ⟨Lc, ⟨hF, hQ⟩, q1, q2, q3⟩, st⟩ := Y.privateBackS hx (y := y) hown (mvT hZ w1') (mvT hZ w2') (selects_self_of_private i1 i2 hni hpr (mvT hZ w2') hy) hpr (mvT hZ w5') hy (backOfS (W := W) (Q := fun v hh Lc => Fr ω.2.1 Lc ∧ Q' v hh) (bytes := κ'.1) (maxL := κ'.2.1) (ret := κ'.2.2.2.2.1) (rm := κ'.2.2.2.2.2) C hZ w5' w4' hf hl) (g := mkF γ.2.2.2.1 pc L (as.reverse ++ .ref a :: S)) rfl (by rw [hml]; exact hL) (Steps.refl _) (a := a) (by rw [hT]; exact q1) q2 (argsL := as) (rest := S) (lenOf hpd hlen) rfl (by show 2 * 0 + _ ≤ _; omega) (hb hby hd) (fun _ _ => ⟨rfl, hT, hc, hs⟩)
  dsimp only [Pt.U, Pt.locs, Pt.cells, Pt.slots] at Y' hS2 hgr q1 q2 q3 st hQ
  subst q1 q2 q3
  obtain ⟨s₂, o, hs, r⟩ := K _ v T' T'.heap (oReb X_ Y' hS2 hgr (N.app hF)) hQ
  exact ⟨s₂, o, st.trans hs, r⟩
end Walk
/-- an array: its component type, its length, what it holds -/
def oA (Z : State) (h : Heap) (a : Addr) (ty : FieldType) (n : Nat) (f : Nat → Value) : Prop := ∃ c : Cell, Arr Z h a c ty ∧ c.slots.size = n ∧ n < 2147483648 ∧ ∀ i, i < n → c.slots[i]? = some (f i)
section Arrays
variable {Z : State} {h h' : Heap} {a b : Addr} {ty : FieldType} {n sl : Nat} {f g : Nat → Value} {v : Value} {ws : List Addr}
theorem oA.lt (A : oA Z h a ty n f) : a < h.size := by obtain ⟨c, A, -⟩ := A; exact A.lt
theorem oA.small (A : oA Z h a ty n f) : n < 2147483648 := by obtain ⟨c, -, -, q, -⟩ := A; exact q
theorem oA.ext (A : oA Z h a ty n f) (E : Ext h h') : oA Z h' a ty n f := by obtain ⟨c, A, r⟩ := A; exact ⟨c, A.ext E, r⟩
theorem oA.other (A : oA Z h b ty n f) (W : Wr h h' a sl v) (q : b ≠ a) : oA Z h' b ty n f := by obtain ⟨c, A, r⟩ := A; exact ⟨c, A.other W q, r⟩
theorem oA.keep (A : oA Z h a ty n f) (K : Keep h h' ws) (q : a ∉ ws) : oA Z h' a ty n f := by obtain ⟨c, A, r⟩ := A; exact ⟨c, ⟨K.2.1 a c A.1 q, A.2⟩, r⟩
theorem oA.congr (A : oA Z h a ty n f) (q : ∀ i, i < n → f i = g i) : oA Z h a ty n g := by obtain ⟨c, A, r1, r2, r3⟩ := A; exact ⟨c, A, r1, r2, fun i hi => by rw [← q i hi]; exact r3 i hi⟩
theorem oA.set (A : oA Z h a ty n f) (W : Wr h h' a sl v) : oA Z h' a ty n (fun i => if i = sl then v else f i) := by
  obtain ⟨c, A, r1, r2, r3⟩ := A
  have hlt : sl < n := by
    obtain ⟨c', h1, -, h3, -⟩ := W
    cases A.1.symm.trans h1
    omega
  refine ⟨c.setSlot sl v, A.same W, (sz_set _ _ _).trans r1, r2, fun i hi => ?_⟩
  by_cases e : i = sl
  · subst e; simp [Cell.setSlot, r1, hlt]
  · simp only [e, if_false]
    rw [← r3 i hi]
    exact Array.getElem?_setIfInBounds_ne (Ne.symm e)
/-- one place changed -/
def oUpd {α : Type} (g : Nat → α) (k : Nat) (v : α) : Nat → α := fun i => if i = k then v else g i
theorem oUpd_hit {α : Type} (g : Nat → α) (k : Nat) (v : α) : oUpd g k v k = v := if_pos rfl
theorem oUpd_miss {α : Type} (g : Nat → α) {k i : Nat} (v : α) (q : i ≠ k) : oUpd g k v i = g i := if_neg q
def oZI : Nat → Int32 := fun _ => 0
def oZJ : Nat → Int64 := fun _ => 0
theorem oA.setI {g : Nat → Int32} {x : Int32} (A : oA Z h a ty n (fun i => .int (g i))) (W : Wr h h' a sl (.int x)) : oA Z h' a ty n (fun i => .int (oUpd g sl x i)) :=
  (A.set W).congr fun i _ => by unfold oUpd; split <;> rfl
theorem oA.setJ {g : Nat → Int64} {x : Int64} (A : oA Z h a ty n (fun i => .long (g i))) (W : Wr h h' a sl (.long x)) : oA Z h' a ty n (fun i => .long (oUpd g sl x i)) :=
  (A.set W).congr fun i _ => by unfold oUpd; split <;> rfl
theorem oNd {l : List Addr} (h : l.Nodup) (i j : Nat) (hij : i ≠ j) {a b : Addr} (ha : l[i]? = some a) (hb : l[j]? = some b) : a ≠ b := by
  intro e; subst e
  obtain ⟨h1, h2⟩ := List.getElem?_eq_some_iff.mp ha
  obtain ⟨h3, h4⟩ := List.getElem?_eq_some_iff.mp hb
  have q := List.pairwise_iff_getElem.mp h
  rcases Nat.lt_or_gt_of_ne hij with r | r
  · exact q i j h1 h3 r (h2.trans h4.symm)
  · exact q j i h3 h1 r (h4.trans h2.symm)
theorem oA.new {cA : ClassId} {k : Int32} (A : Arr Z h a (newA cA ty k) ty) (q : 0 ≤ k.toInt) : oA Z h a ty k.toInt.toNat (fun _ => defaultValue ty) := by
  have e : k.toNatClampNeg = k.toInt.toNat := rfl
  have := k.toInt_lt
  refine ⟨_, A, (sz_new _ _ _).trans e, by omega, fun i hi => ?_⟩
  have : i < k.toNatClampNeg := by rw [e]; exact hi
  simp [newA, this]
theorem oInb {j : Int32} {c : Cell} (r1 : c.slots.size = n) (q : 0 ≤ j.toInt) (q' : j.toInt < n) : ¬ (j < 0 ∨ c.slots.size ≤ j.toNatClampNeg) := by
  have e : j.toNatClampNeg = j.toInt.toNat := rfl
  rw [Int32.lt_iff_toInt_lt, r1, e, o0]; omega
end Arrays
section Walk2
variable {Z : State} {ω : OW} {γ : OG} {κ : OM} {Q : Option Value → Heap → Prop} {T : State} {h : Heap} {cs ss : Nat} {pc : Nat} {L : Array Slot} {S : List Value}
theorem ow_alen (X : oSt Z ω γ κ T h cs ss) (pc' : Nat) {a : Addr} {ty : FieldType} {n : Nat} {f : Nat → Value} {v : Int32} (A : oA Z h a ty n f) (hd : decode κ.1 pc = .ok (.arraylength, 1)) (hp : pc + 1 = pc') (hv : v.toInt = n)
    (K : oWP ω γ κ Q T pc' L (.int v :: S)) : oWP ω γ κ Q T pc L (.ref a :: S) := by
  obtain ⟨hx, hby, -, -, -, -, -, hZ, -, -, hT, locs, Y, -⟩ := X
  obtain ⟨c, A, r1, r2, -⟩ := A
  subst hp
  obtain ⟨s₂, o, hs, r⟩ := K
  have e : c.slots.size.toInt32 = v := Int32.toInt_inj.mp (by rw [hv, len_toInt (by omega), r1])
  exact ⟨s₂, o, Y.arraylength hx (by rw [hT]; exact A.1) (State.isArrayOf_alike hZ.alike A.2.1) (g := mkF γ.2.2.2.1 pc L (.ref a :: S)) rfl rfl (hb hby hd) _ (by rw [e]; exact hs), r⟩
theorem ow_iaload (X : oSt Z ω γ κ T h cs ss) (pc' : Nat) {a : Addr} {n : Nat} {f : Nat → Value} {j : Int32} {v : Value} (A : oA Z h a .int n f) (hd : decode κ.1 pc = .ok (.iaload, 1)) (hp : pc + 1 = pc') (h0 : 0 ≤ j.toInt) (h1 : j.toInt < n) (hv : f j.toInt.toNat = v)
    (K : oWP ω γ κ Q T pc' L (v :: S)) : oWP ω γ κ Q T pc L (.int j :: .ref a :: S) := by
  obtain ⟨hx, hby, -, -, -, -, -, hZ, -, -, hT, locs, Y, -⟩ := X
  obtain ⟨c, A, r1, r2, r3⟩ := A
  subst hp hv
  obtain ⟨s₂, o, hs, r⟩ := K
  exact ⟨s₂, o, Y.iaload hx (by rw [hT]; exact A.1) (State.isArrayOf_alike hZ.alike A.2.1) A.2.2 (oInb r1 h0 h1) (r3 _ (by show j.toInt.toNat < _; omega)) (g := mkF γ.2.2.2.1 pc L (.int j :: .ref a :: S)) rfl rfl (hb hby hd) _ hs, r⟩
theorem ow_laload (X : oSt Z ω γ κ T h cs ss) (pc' : Nat) {a : Addr} {n : Nat} {f : Nat → Value} {j : Int32} {v : Value} (A : oA Z h a .long n f) (hd : decode κ.1 pc = .ok (.laload, 1)) (hp : pc + 1 = pc') (h0 : 0 ≤ j.toInt) (h1 : j.toInt < n) (hv : f j.toInt.toNat = v)
    (K : oWP ω γ κ Q T pc' L (v :: S)) : oWP ω γ κ Q T pc L (.int j :: .ref a :: S) := by
  obtain ⟨hx, hby, -, -, -, -, -, hZ, -, -, hT, locs, Y, -⟩ := X
  obtain ⟨c, A, r1, r2, r3⟩ := A
  subst hp hv
  obtain ⟨s₂, o, hs, r⟩ := K
  exact ⟨s₂, o, Y.laload hx (by rw [hT]; exact A.1) (State.isArrayOf_alike hZ.alike A.2.1) A.2.2 (oInb r1 h0 h1) (r3 _ (by show j.toInt.toNat < _; omega)) (g := mkF γ.2.2.2.1 pc L (.int j :: .ref a :: S)) rfl rfl (hb hby hd) _ hs, r⟩
theorem ow_caload (X : oSt Z ω γ κ T h cs ss) (pc' : Nat) {a : Addr} {n : Nat} {f : Nat → Value} {j : Int32} {v : Value} (A : oA Z h a .char n f) (hd : decode κ.1 pc = .ok (.caload, 1)) (hp : pc + 1 = pc') (h0 : 0 ≤ j.toInt) (h1 : j.toInt < n) (hv : f j.toInt.toNat = v)
    (K : oWP ω γ κ Q T pc' L (v :: S)) : oWP ω γ κ Q T pc L (.int j :: .ref a :: S) := by
  obtain ⟨hx, hby, -, -, -, -, -, hZ, -, -, hT, locs, Y, -⟩ := X
  obtain ⟨c, A, r1, r2, r3⟩ := A
  subst hp hv
  obtain ⟨s₂, o, hs, r⟩ := K
  exact ⟨s₂, o, Y.caload hx (by rw [hT]; exact A.1) (State.isArrayOf_alike hZ.alike A.2.1) A.2.2 (oInb r1 h0 h1) (r3 _ (by show j.toInt.toNat < _; omega)) (g := mkF γ.2.2.2.1 pc L (.int j :: .ref a :: S)) rfl rfl (hb hby hd) _ hs, r⟩
theorem ow_baload (X : oSt Z ω γ κ T h cs ss) (pc' : Nat) {a : Addr} {n : Nat} {f : Nat → Value} {j : Int32} {v : Value} (A : oA Z h a .byte n f) (hd : decode κ.1 pc = .ok (.baload, 1)) (hp : pc + 1 = pc') (h0 : 0 ≤ j.toInt) (h1 : j.toInt < n) (hv : f j.toInt.toNat = v)
    (K : oWP ω γ κ Q T pc' L (v :: S)) : oWP ω γ κ Q T pc L (.int j :: .ref a :: S) := by
  obtain ⟨hx, hby, -, -, -, -, -, hZ, -, -, hT, locs, Y, -⟩ := X
  obtain ⟨c, A, r1, r2, r3⟩ := A
  subst hp hv
  obtain ⟨s₂, o, hs, r⟩ := K
  exact ⟨s₂, o, Y.baloadBytes hx (by rw [hT]; exact A.1) (State.isArrayOf_alike hZ.alike A.2.1) A.2.2 (oInb r1 h0 h1) (r3 _ (by show j.toInt.toNat < _; omega)) (g := mkF γ.2.2.2.1 pc L (.int j :: .ref a :: S)) rfl rfl (hb hby hd) _ hs, r⟩
theorem ow_baloadZ (X : oSt Z ω γ κ T h cs ss) (pc' : Nat) {a : Addr} {n : Nat} {f : Nat → Value} {j : Int32} {v : Value} (A : oA Z h a .boolean n f) (hd : decode κ.1 pc = .ok (.baload, 1)) (hp : pc + 1 = pc') (h0 : 0 ≤ j.toInt) (h1 : j.toInt < n) (hv : f j.toInt.toNat = v)
    (K : oWP ω γ κ Q T pc' L (v :: S)) : oWP ω γ κ Q T pc L (.int j :: .ref a :: S) := by
  obtain ⟨hx, hby, -, -, -, -, -, hZ, -, -, hT, locs, Y, -⟩ := X
  obtain ⟨c, A, r1, r2, r3⟩ := A
  subst hp hv
  obtain ⟨s₂, o, hs, r⟩ := K
  exact ⟨s₂, o, Y.baloadBooleans hx (by rw [hT]; exact A.1) (State.isArrayOf_alike hZ.alike A.2.1) A.2.2 (oInb r1 h0 h1) (r3 _ (by show j.toInt.toNat < _; omega)) (g := mkF γ.2.2.2.1 pc L (.int j :: .ref a :: S)) rfl rfl (hb hby hd) _ hs, r⟩
theorem ow_aaload (X : oSt Z ω γ κ T h cs ss) (pc' : Nat) {a : Addr} {ty : FieldType} {n : Nat} {f : Nat → Value} {j : Int32} {v : Value} (A : oA Z h a ty n f) (ht : ty.isReference = true) (hd : decode κ.1 pc = .ok (.aaload, 1)) (hp : pc + 1 = pc') (h0 : 0 ≤ j.toInt) (h1 : j.toInt < n) (hv : f j.toInt.toNat = v)
    (K : oWP ω γ κ Q T pc' L (v :: S)) : oWP ω γ κ Q T pc L (.int j :: .ref a :: S) := by
  obtain ⟨hx, hby, -, -, -, -, -, hZ, -, -, hT, locs, Y, -⟩ := X
  obtain ⟨c, A, r1, r2, r3⟩ := A
  subst hp hv
  obtain ⟨s₂, o, hs, r⟩ := K
  exact ⟨s₂, o, Y.aaload hx (by rw [hT]; exact A.1) (State.isArrayOf_alike hZ.alike A.2.1) ht A.2.2 (oInb r1 h0 h1) (r3 _ (by show j.toInt.toNat < _; omega)) (g := mkF γ.2.2.2.1 pc L (.int j :: .ref a :: S)) rfl rfl (hb hby hd) _ hs, r⟩
theorem ow_iastore (X : oSt Z ω γ κ T h cs ss) (pc' : Nat) {a : Addr} {n : Nat} {f : Nat → Value} {j : Int32} {x : Int32} (A : oA Z h a .int n f) (ha : ω.2.1 ≤ a) (hd : decode κ.1 pc = .ok (.iastore, 1)) (hp : pc + 1 = pc') (h0 : 0 ≤ j.toInt) (h1 : j.toInt < n)
    (K : ∀ T' h', oSt Z ω γ κ T' h' cs ss → Wr h h' a j.toInt.toNat (.int x) → oWP ω γ κ Q T' pc' L S) : oWP ω γ κ Q T pc L (.int x :: .int j :: .ref a :: S) := by
  obtain ⟨hx, hby, hml, hown, hnm, hr, hlk, hZ, hT1, hn0, hT, locs, Y, N⟩ := X
  obtain ⟨c, A, r1, r2, r3⟩ := A
  subst hp
  obtain ⟨T', h', Y', e', W, st⟩ := stI Y hx hZ hT A (oInb r1 h0 h1) (g := mkF γ.2.2.2.1 pc L (.int x :: .int j :: .ref a :: S)) rfl rfl (hb hby hd)
  obtain ⟨s₂, o, hs, r⟩ := K T' h' ⟨hx, hby, hml, hown, hnm, hr, hlk, hZ, hT1, oSnW hn0 W, e', _, Y', Fr.snoc Y' N ha⟩ W
  exact ⟨s₂, o, st _ hs, r⟩
theorem ow_lastore (X : oSt Z ω γ κ T h cs ss) (pc' : Nat) {a : Addr} {n : Nat} {f : Nat → Value} {j : Int32} {x : Int64} (A : oA Z h a .long n f) (ha : ω.2.1 ≤ a) (hd : decode κ.1 pc = .ok (.lastore, 1)) (hp : pc + 1 = pc') (h0 : 0 ≤ j.toInt) (h1 : j.toInt < n)
    (K : ∀ T' h', oSt Z ω γ κ T' h' cs ss → Wr h h' a j.toInt.toNat (.long x) → oWP ω γ κ Q T' pc' L S) : oWP ω γ κ Q T pc L (.long x :: .int j :: .ref a :: S) := by
  obtain ⟨hx, hby, hml, hown, hnm, hr, hlk, hZ, hT1, hn0, hT, locs, Y, N⟩ := X
  obtain ⟨c, A, r1, r2, r3⟩ := A
  subst hp
  obtain ⟨T', h', Y', e', W, st⟩ := stJ Y hx hZ hT A (oInb r1 h0 h1) (g := mkF γ.2.2.2.1 pc L (.long x :: .int j :: .ref a :: S)) rfl rfl (hb hby hd)
  obtain ⟨s₂, o, hs, r⟩ := K T' h' ⟨hx, hby, hml, hown, hnm, hr, hlk, hZ, hT1, oSnW hn0 W, e', _, Y', Fr.snoc Y' N ha⟩ W
  exact ⟨s₂, o, st _ hs, r⟩
theorem ow_castore (X : oSt Z ω γ κ T h cs ss) (pc' : Nat) {a : Addr} {n : Nat} {f : Nat → Value} {j : Int32} {x : Int32} (A : oA Z h a .char n f) (ha : ω.2.1 ≤ a) (hd : decode κ.1 pc = .ok (.castore, 1)) (hp : pc + 1 = pc') (h0 : 0 ≤ j.toInt) (h1 : j.toInt < n)
    (K : ∀ T' h', oSt Z ω γ κ T' h' cs ss → Wr h h' a j.toInt.toNat (.int (nar .char x)) → oWP ω γ κ Q T' pc' L S) : oWP ω γ κ Q T pc L (.int x :: .int j :: .ref a :: S) := by
  obtain ⟨hx, hby, hml, hown, hnm, hr, hlk, hZ, hT1, hn0, hT, locs, Y, N⟩ := X
  obtain ⟨c, A, r1, r2, r3⟩ := A
  subst hp
  obtain ⟨T', h', Y', e', W, st⟩ := stC Y hx hZ hT A (oInb r1 h0 h1) (g := mkF γ.2.2.2.1 pc L (.int x :: .int j :: .ref a :: S)) rfl rfl (hb hby hd)
  obtain ⟨s₂, o, hs, r⟩ := K T' h' ⟨hx, hby, hml, hown, hnm, hr, hlk, hZ, hT1, oSnW hn0 W, e', _, Y', Fr.snoc Y' N ha⟩ W
  exact ⟨s₂, o, st _ hs, r⟩
theorem ow_bastore (X : oSt Z ω γ κ T h cs ss) (pc' : Nat) {a : Addr} {n : Nat} {f : Nat → Value} {j : Int32} {x : Int32} (A : oA Z h a .byte n f) (ha : ω.2.1 ≤ a) (hd : decode κ.1 pc = .ok (.bastore, 1)) (hp : pc + 1 = pc') (h0 : 0 ≤ j.toInt) (h1 : j.toInt < n)
    (K : ∀ T' h', oSt Z ω γ κ T' h' cs ss → Wr h h' a j.toInt.toNat (.int x.toInt8.toInt32) → oWP ω γ κ Q T' pc' L S) : oWP ω γ κ Q T pc L (.int x :: .int j :: .ref a :: S) := by
  obtain ⟨hx, hby, hml, hown, hnm, hr, hlk, hZ, hT1, hn0, hT, locs, Y, N⟩ := X
  obtain ⟨c, A, r1, r2, r3⟩ := A
  subst hp
  obtain ⟨T', h', Y', e', W, st⟩ := stB Y hx hZ hT A (oInb r1 h0 h1) (g := mkF γ.2.2.2.1 pc L (.int x :: .int j :: .ref a :: S)) rfl rfl (hb hby hd)
  obtain ⟨s₂, o, hs, r⟩ := K T' h' ⟨hx, hby, hml, hown, hnm, hr, hlk, hZ, hT1, oSnW hn0 W, e', _, Y', Fr.snoc Y' N ha⟩ W
  exact ⟨s₂, o, st _ hs, r⟩
theorem ow_bastoreZ (X : oSt Z ω γ κ T h cs ss) (pc' : Nat) {a : Addr} {n : Nat} {f : Nat → Value} {j : Int32} {x : Int32} (A : oA Z h a .boolean n f) (ha : ω.2.1 ≤ a) (hd : decode κ.1 pc = .ok (.bastore, 1)) (hp : pc + 1 = pc') (h0 : 0 ≤ j.toInt) (h1 : j.toInt < n)
    (K : ∀ T' h', oSt Z ω γ κ T' h' cs ss → Wr h h' a j.toInt.toNat (.int (nar .boolean x)) → oWP ω γ κ Q T' pc' L S) : oWP ω γ κ Q T pc L (.int x :: .int j :: .ref a :: S) := by
  obtain ⟨hx, hby, hml, hown, hnm, hr, hlk, hZ, hT1, hn0, hT, locs, Y, N⟩ := X
  obtain ⟨c, A, r1, r2, r3⟩ := A
  subst hp
  obtain ⟨T', h', Y', e', W, st⟩ := stZ Y hx hZ hT A (oInb r1 h0 h1) (g := mkF γ.2.2.2.1 pc L (.int x :: .int j :: .ref a :: S)) rfl rfl (hb hby hd)
  obtain ⟨s₂, o, hs, r⟩ := K T' h' ⟨hx, hby, hml, hown, hnm, hr, hlk, hZ, hT1, oSnW hn0 W, e', _, Y', Fr.snoc Y' N ha⟩ W
  exact ⟨s₂, o, st _ hs, r⟩
theorem ow_aastore (X : oSt Z ω γ κ T h cs ss) (pc' : Nat) {a : Addr} {ty : FieldType} {n : Nat} {f : Nat → Value} {j : Int32} {v : Value} (A : oA Z h a ty n f) (ht : ty.isReference = true) (F : Sto Z h a v) (ha : ω.2.1 ≤ a) (hd : decode κ.1 pc = .ok (.aastore, 1)) (hp : pc + 1 = pc') (h0 : 0 ≤ j.toInt) (h1 : j.toInt < n)
    (K : ∀ T' h', oSt Z ω γ κ T' h' cs ss → Wr h h' a j.toInt.toNat v → oWP ω γ κ Q T' pc' L S) : oWP ω γ κ Q T pc L (v :: .int j :: .ref a :: S) := by
  obtain ⟨hx, hby, hml, hown, hnm, hr, hlk, hZ, hT1, hn0, hT, locs, Y, N⟩ := X
  obtain ⟨c, A, r1, r2, r3⟩ := A
  subst hp
  obtain ⟨T', h', Y', e', W, st⟩ := stR Y hx hZ hT A (oInb r1 h0 h1) ht F (g := mkF γ.2.2.2.1 pc L (v :: .int j :: .ref a :: S)) rfl rfl (hb hby hd)
  obtain ⟨s₂, o, hs, r⟩ := K T' h' ⟨hx, hby, hml, hown, hnm, hr, hlk, hZ, hT1, oSnW hn0 W, e', _, Y', Fr.snoc Y' N ha⟩ W
  exact ⟨s₂, o, st _ hs, r⟩
theorem ow_newP (X : oSt Z ω γ κ T h cs ss) (pc' i : Nat) {aty : ArrayType} {k : Int32} {cap : Nat} (hw : tables_1[i]? = some (.arrayClass (newarray.typeOf aty))) (hd : decode κ.1 pc = .ok (.newarray aty, 2)) (hp : pc + 2 = pc') (h0 : 0 ≤ k.toInt) (h1 : k.toInt ≤ cap) (hb1 : cap * 8 ≤ 536870912) (hc : cs + 1 ≤ κ.2.2.2.2.2.cells) (hsl : ss + cap ≤ κ.2.2.2.2.2.slots)
    (K : ∀ T' h' a, a = h.size → oSt Z ω γ κ T' h' (cs + 1) (ss + cap) → Ext h h' → oA Z h' a (newarray.typeOf aty) k.toInt.toNat (fun _ => defaultValue (newarray.typeOf aty)) → ω.2.1 ≤ a → oWP ω γ κ Q T' pc' L (.ref a :: S)) : oWP ω γ κ Q T pc L (.int k :: S) := by
  have hw' := oSt_at X i hw
  have hN := oSt_n0 X
  obtain ⟨hx, hby, hml, hown, hnm, hr, hlk, hZ, hT1, hn0, hT, locs, Y, N⟩ := X
  subst hp
  have hk : ¬ k < 0 := by rw [Int32.lt_iff_toInt_lt, o0]; omega
  have hk' : k.toNatClampNeg ≤ cap := by show k.toInt.toNat ≤ cap; omega
  obtain ⟨T', h', cA, Y', e', E, A, st⟩ := newP Y hx hZ hw' hT (g := mkF γ.2.2.2.1 pc L (.int k :: S)) rfl (hb hby hd) rfl hk hk' hb1 hc hsl
  obtain ⟨s₂, o, hs, r⟩ := K T' h' h.size rfl ⟨hx, hby, hml, hown, hnm, hr, hlk, hZ, hT1, oSnE hn0 E, e', _, Y', N⟩ E (oA.new A h0) hN
  exact ⟨s₂, o, st _ hs, r⟩
/-- a new array's class takes objects of C -/
def oOv (Z : State) (h : Heap) (a : Addr) (C : String) : Prop := ∃ (c : Cell) (ty : FieldType), Arr Z h a c ty ∧ Ovr Z c.cls C
theorem oOv.ext {h' : Heap} {a : Addr} {C : String} (O : oOv Z h a C) (E : Ext h h') : oOv Z h' a C := by obtain ⟨c, ty, A, O⟩ := O; exact ⟨c, ty, A.ext E, O⟩
theorem oOv.wr {h' : Heap} {a b : Addr} {C : String} {sl : Nat} {v : Value} (O : oOv Z h a C) (W : Wr h h' b sl v) : oOv Z h' a C := by
  obtain ⟨c, ty, A, O⟩ := O
  by_cases e : a = b
  · subst e; exact ⟨_, ty, A.same W, O⟩
  · exact ⟨c, ty, A.other W e, O⟩
theorem oOv.keep {h' : Heap} {a : Addr} {C : String} {ws : List Addr} (O : oOv Z h a C) (K : Keep h h' ws) (q : a ∉ ws) : oOv Z h' a C := by
  obtain ⟨c, ty, A, O⟩ := O; exact ⟨c, ty, ⟨K.2.1 a c A.1 q, A.2⟩, O⟩
theorem oOv.sto {a y : Addr} {C : String} (O : oOv Z h a C) (I : Ins Z h y C true) : Sto Z h a (.ref y) := by obtain ⟨c, ty, A, O⟩ := O; exact Sto.of A O I
theorem ow_newR (X : oSt Z ω γ κ T h cs ss) (pc' i1 i2 : Nat) {own C : String} {idx : Nat} {k : Int32} {cap : Nat} (w1 : tables_1[i1]? = some (.classLink own idx C)) (ho : κ.2.2.1 = own) (w2 : tables_1[i2]? = some (.arrayOver (.object C))) (hd : decode κ.1 pc = .ok (.anewarray idx, 3)) (hp : pc + 3 = pc') (h0 : 0 ≤ k.toInt) (h1 : k.toInt ≤ cap) (hb1 : cap * 8 ≤ 536870912) (hc : cs + 1 ≤ κ.2.2.2.2.2.cells) (hsl : ss + cap ≤ κ.2.2.2.2.2.slots)
    (K : ∀ T' h' a, a = h.size → oSt Z ω γ κ T' h' (cs + 1) (ss + cap) → Ext h h' → oA Z h' a (.object C) k.toInt.toNat (fun _ => .null) → oOv Z h' a C → ω.2.1 ≤ a → oWP ω γ κ Q T' pc' L (.ref a :: S)) : oWP ω γ κ Q T pc L (.int k :: S) := by
  have w1' := oSt_at X i1 w1
  have w2' := oSt_at X i2 w2
  have hN := oSt_n0 X
  obtain ⟨hx, hby, hml, hown, hnm, hr, hlk, hZ, hT1, hn0, hT, locs, Y, N⟩ := X
  subst hp ho
  have hk : ¬ k < 0 := by rw [Int32.lt_iff_toInt_lt, o0]; omega
  have hk' : k.toNatClampNeg ≤ cap := by show k.toInt.toNat ≤ cap; omega
  obtain ⟨T', h', cA, Y', e', E, A, O, st⟩ := newR Y hx hZ hown w1' w2' hT (g := mkF γ.2.2.2.1 pc L (.int k :: S)) rfl (hb hby hd) rfl hk hk' hb1 hc hsl
  obtain ⟨s₂, o, hs, r⟩ := K T' h' h.size rfl ⟨hx, hby, hml, hown, hnm, hr, hlk, hZ, hT1, oSnE hn0 E, e', _, Y', N⟩ E (oA.new A h0) ⟨_, _, A, O⟩ hN
  exact ⟨s₂, o, st _ hs, r⟩
end Walk2
section WalkS
variable {Z : State} {ω : OW} {γ : OG} {κ : OM} {Q : Option Value → Heap → Prop} {T : State} {h : Heap} {cs ss : Nat} {pc : Nat} {L : Array Slot} {S : List Value}
/-- a String constant, opaque -/
theorem ow_ldcStr (X : oSt Z ω γ κ T h cs ss) (pc' i : Nat) {own text : String} {idx : Nat} (n : Nat) (hw : tables_1[i]? = some (.stringLink own idx text)) (ho : κ.2.2.1 = own) (hA : ∀ a ∈ Bundle.stringAtoms, a ∈ tables_1) (hn : 4 * text.toList.length ≤ n) (hbig : n ≤ 536870912) (hc : cs + 2 ≤ κ.2.2.2.2.2.cells) (hsl : ss + (n + 4) ≤ κ.2.2.2.2.2.slots)
    (hd : decode κ.1 pc = .ok (.ldc idx, 2)) (hp : pc + 2 = pc') (K : ∀ (γ : OG) T' h' a, oSt Z ω γ κ T' h' (cs + 2) (ss + (n + 4)) → Ext h h' → oWP ω γ κ Q T' pc' L (.ref a :: S)) : oWP ω γ κ Q T pc L S := by
  have hw' := oSt_at X i hw
  have hall := oSt_w X
  obtain ⟨hx, hby, hml, hown, hnm, hr, hlk, hZ, hT1, ⟨hn0, k0, hS, hk⟩, hT, locs, Y, N⟩ := X
  subst hp ho
  obtain ⟨a, T', h', k1, Y', e', E, hS', hk1, hZ', hown', st⟩ := RoadKit.ldcS (s := γ.2.2.1.setVm γ.2.2.2.2.2.2.2.2) (vm0 := γ.2.2.1.vm) Y hx hZ hown hw' (fun d hd' => hall d (hA d hd')) hT hS hk (g := mkF γ.2.2.2.1 pc L S) rfl (hb hby hd) hn hbig hc hsl
  obtain ⟨s₂, o, hs, r⟩ := K (γ.1, γ.2.1, γ.2.2.1.setVm T'.vm, γ.2.2.2.1, γ.2.2.2.2.1, γ.2.2.2.2.2.1, γ.2.2.2.2.2.2.1, γ.2.2.2.2.2.2.2.1, γ.2.2.2.2.2.2.2.2) T' h' a ⟨hx, hby, hml, hown', hnm, hr, hlk, hZ', hT1, ⟨hn0, k1, hS', hk1⟩, e', locs, Y', N⟩ E
  exact ⟨s₂, o, st _ hs, r⟩
end WalkS
theorem own_sA : ∀ a ∈ Bundle.stringAtoms, a ∈ tables_1 := by
  intro a ha
  simp only [Bundle.stringAtoms, Bundle.sN, List.mem_cons, List.not_mem_nil, or_false] at ha
  rcases ha with rfl | rfl | rfl | rfl | rfl | rfl | rfl
  · exact List.mem_of_getElem? (i := 21) rfl
  · exact List.mem_of_getElem? (i := 22) rfl
  · exact List.mem_of_getElem? (i := 23) rfl
  · exact List.mem_of_getElem? (i := 24) rfl
  · exact List.mem_of_getElem? (i := 25) rfl
  · exact List.mem_of_getElem? (i := 26) rfl
  · exact List.mem_of_getElem? (i := 27) rfl
def SET (Z : State) (h : Heap) (a : Addr) (v0 v1 v2 v3 v4 v5 : Value) : Prop := Exa Z h a "com/example/muster/muster/bench/Setting" ∧ Fld Z h a "com/example/muster/muster/bench/Setting" "agents" "I" v0 ∧ Fld Z h a "com/example/muster/muster/bench/Setting" "simple" "I" v1 ∧ Fld Z h a "com/example/muster/muster/bench/Setting" "complex" "I" v2 ∧ Fld Z h a "com/example/muster/muster/bench/Setting" "coalition" "I" v3 ∧ Fld Z h a "com/example/muster/muster/bench/Setting" "coalitions" "Lcom/example/muster/muster/model/Coalitions;" v4 ∧ Fld Z h a "com/example/muster/muster/bench/Setting" "objective" "Lcom/example/muster/muster/model/Objective;" v5
theorem SET.lt {Z : State} {h : Heap} {a : Addr} {v0 v1 v2 v3 v4 v5 : Value} (R : SET Z h a v0 v1 v2 v3 v4 v5) : a < h.size := R.1.lt
theorem SET.ext {Z : State} {h h' : Heap} {a : Addr} {v0 v1 v2 v3 v4 v5 : Value} (R : SET Z h a v0 v1 v2 v3 v4 v5) (W : Ext h h') : SET Z h' a v0 v1 v2 v3 v4 v5 := by
  obtain ⟨E, F0, F1, F2, F3, F4, F5⟩ := R
  exact ⟨E.ext W, F0.ext W, F1.ext W, F2.ext W, F3.ext W, F4.ext W, F5.ext W⟩
theorem SET.other {Z : State} {h h' : Heap} {a b : Addr} {sl : Nat} {w : Value} {v0 v1 v2 v3 v4 v5 : Value} (R : SET Z h a v0 v1 v2 v3 v4 v5) (W : Wr h h' b sl w) (q : a ≠ b) : SET Z h' a v0 v1 v2 v3 v4 v5 := by
  obtain ⟨E, F0, F1, F2, F3, F4, F5⟩ := R
  exact ⟨E.wr W, F0.other W (Or.inl q), F1.other W (Or.inl q), F2.other W (Or.inl q), F3.other W (Or.inl q), F4.other W (Or.inl q), F5.other W (Or.inl q)⟩
theorem SET.keep {Z : State} {h h' : Heap} {a : Addr} {ws : List Addr} {v0 v1 v2 v3 v4 v5 : Value} (R : SET Z h a v0 v1 v2 v3 v4 v5) (K : Keep h h' ws) (q : a ∉ ws) : SET Z h' a v0 v1 v2 v3 v4 v5 := by
  obtain ⟨E, F0, F1, F2, F3, F4, F5⟩ := R
  exact ⟨E.keep K, F0.keep K q, F1.keep K q, F2.keep K q, F3.keep K q, F4.keep K q, F5.keep K q⟩
theorem SET.set_agents {Z : State} {h h' : Heap} {a : Addr} {a0 : Array Value} {w : Value} {v0 v1 v2 v3 v4 v5 : Value} (hw : ∀ d ∈ tables_1, d.before a0 Z = true) (R : SET Z h a v0 v1 v2 v3 v4 v5) (W : Wr h h' a (RoadKit.slotOf Z "com/example/muster/muster/bench/Setting" "agents" "I") w) : SET Z h' a w v1 v2 v3 v4 v5 := by
  obtain ⟨E, F0, F1, F2, F3, F4, F5⟩ := R
  exact ⟨E.wr W, F0.same W, F1.other W (Or.inr (slot_ne (C := "com/example/muster/muster/bench/Setting") (Or.inr (hw _ (List.mem_of_getElem? (i := 35) rfl))) (Or.inr (hw _ (List.mem_of_getElem? (i := 32) rfl))) (by decide) (t := .int) (t' := .int) (by decide) (by decide))), F2.other W (Or.inr (slot_ne (C := "com/example/muster/muster/bench/Setting") (Or.inr (hw _ (List.mem_of_getElem? (i := 38) rfl))) (Or.inr (hw _ (List.mem_of_getElem? (i := 32) rfl))) (by decide) (t := .int) (t' := .int) (by decide) (by decide))), F3.other W (Or.inr (slot_ne (C := "com/example/muster/muster/bench/Setting") (Or.inr (hw _ (List.mem_of_getElem? (i := 41) rfl))) (Or.inr (hw _ (List.mem_of_getElem? (i := 32) rfl))) (by decide) (t := .int) (t' := .int) (by decide) (by decide))), F4.other W (Or.inr (slot_ne (C := "com/example/muster/muster/bench/Setting") (Or.inr (hw _ (List.mem_of_getElem? (i := 50) rfl))) (Or.inr (hw _ (List.mem_of_getElem? (i := 32) rfl))) (by decide) (t := (.object "com/example/muster/muster/model/Coalitions")) (t' := .int) (by decide) (by decide))), F5.other W (Or.inr (slot_ne (C := "com/example/muster/muster/bench/Setting") (Or.inr (hw _ (List.mem_of_getElem? (i := 55) rfl))) (Or.inr (hw _ (List.mem_of_getElem? (i := 32) rfl))) (by decide) (t := (.object "com/example/muster/muster/model/Objective")) (t' := .int) (by decide) (by decide)))⟩
theorem SET.set_simple {Z : State} {h h' : Heap} {a : Addr} {a0 : Array Value} {w : Value} {v0 v1 v2 v3 v4 v5 : Value} (hw : ∀ d ∈ tables_1, d.before a0 Z = true) (R : SET Z h a v0 v1 v2 v3 v4 v5) (W : Wr h h' a (RoadKit.slotOf Z "com/example/muster/muster/bench/Setting" "simple" "I") w) : SET Z h' a v0 w v2 v3 v4 v5 := by
  obtain ⟨E, F0, F1, F2, F3, F4, F5⟩ := R
  exact ⟨E.wr W, F0.other W (Or.inr (slot_ne (C := "com/example/muster/muster/bench/Setting") (Or.inr (hw _ (List.mem_of_getElem? (i := 32) rfl))) (Or.inr (hw _ (List.mem_of_getElem? (i := 35) rfl))) (by decide) (t := .int) (t' := .int) (by decide) (by decide))), F1.same W, F2.other W (Or.inr (slot_ne (C := "com/example/muster/muster/bench/Setting") (Or.inr (hw _ (List.mem_of_getElem? (i := 38) rfl))) (Or.inr (hw _ (List.mem_of_getElem? (i := 35) rfl))) (by decide) (t := .int) (t' := .int) (by decide) (by decide))), F3.other W (Or.inr (slot_ne (C := "com/example/muster/muster/bench/Setting") (Or.inr (hw _ (List.mem_of_getElem? (i := 41) rfl))) (Or.inr (hw _ (List.mem_of_getElem? (i := 35) rfl))) (by decide) (t := .int) (t' := .int) (by decide) (by decide))), F4.other W (Or.inr (slot_ne (C := "com/example/muster/muster/bench/Setting") (Or.inr (hw _ (List.mem_of_getElem? (i := 50) rfl))) (Or.inr (hw _ (List.mem_of_getElem? (i := 35) rfl))) (by decide) (t := (.object "com/example/muster/muster/model/Coalitions")) (t' := .int) (by decide) (by decide))), F5.other W (Or.inr (slot_ne (C := "com/example/muster/muster/bench/Setting") (Or.inr (hw _ (List.mem_of_getElem? (i := 55) rfl))) (Or.inr (hw _ (List.mem_of_getElem? (i := 35) rfl))) (by decide) (t := (.object "com/example/muster/muster/model/Objective")) (t' := .int) (by decide) (by decide)))⟩
theorem SET.set_complex {Z : State} {h h' : Heap} {a : Addr} {a0 : Array Value} {w : Value} {v0 v1 v2 v3 v4 v5 : Value} (hw : ∀ d ∈ tables_1, d.before a0 Z = true) (R : SET Z h a v0 v1 v2 v3 v4 v5) (W : Wr h h' a (RoadKit.slotOf Z "com/example/muster/muster/bench/Setting" "complex" "I") w) : SET Z h' a v0 v1 w v3 v4 v5 := by
  obtain ⟨E, F0, F1, F2, F3, F4, F5⟩ := R
  exact ⟨E.wr W, F0.other W (Or.inr (slot_ne (C := "com/example/muster/muster/bench/Setting") (Or.inr (hw _ (List.mem_of_getElem? (i := 32) rfl))) (Or.inr (hw _ (List.mem_of_getElem? (i := 38) rfl))) (by decide) (t := .int) (t' := .int) (by decide) (by decide))), F1.other W (Or.inr (slot_ne (C := "com/example/muster/muster/bench/Setting") (Or.inr (hw _ (List.mem_of_getElem? (i := 35) rfl))) (Or.inr (hw _ (List.mem_of_getElem? (i := 38) rfl))) (by decide) (t := .int) (t' := .int) (by decide) (by decide))), F2.same W, F3.other W (Or.inr (slot_ne (C := "com/example/muster/muster/bench/Setting") (Or.inr (hw _ (List.mem_of_getElem? (i := 41) rfl))) (Or.inr (hw _ (List.mem_of_getElem? (i := 38) rfl))) (by decide) (t := .int) (t' := .int) (by decide) (by decide))), F4.other W (Or.inr (slot_ne (C := "com/example/muster/muster/bench/Setting") (Or.inr (hw _ (List.mem_of_getElem? (i := 50) rfl))) (Or.inr (hw _ (List.mem_of_getElem? (i := 38) rfl))) (by decide) (t := (.object "com/example/muster/muster/model/Coalitions")) (t' := .int) (by decide) (by decide))), F5.other W (Or.inr (slot_ne (C := "com/example/muster/muster/bench/Setting") (Or.inr (hw _ (List.mem_of_getElem? (i := 55) rfl))) (Or.inr (hw _ (List.mem_of_getElem? (i := 38) rfl))) (by decide) (t := (.object "com/example/muster/muster/model/Objective")) (t' := .int) (by decide) (by decide)))⟩
theorem SET.set_coalition {Z : State} {h h' : Heap} {a : Addr} {a0 : Array Value} {w : Value} {v0 v1 v2 v3 v4 v5 : Value} (hw : ∀ d ∈ tables_1, d.before a0 Z = true) (R : SET Z h a v0 v1 v2 v3 v4 v5) (W : Wr h h' a (RoadKit.slotOf Z "com/example/muster/muster/bench/Setting" "coalition" "I") w) : SET Z h' a v0 v1 v2 w v4 v5 := by
  obtain ⟨E, F0, F1, F2, F3, F4, F5⟩ := R
  exact ⟨E.wr W, F0.other W (Or.inr (slot_ne (C := "com/example/muster/muster/bench/Setting") (Or.inr (hw _ (List.mem_of_getElem? (i := 32) rfl))) (Or.inr (hw _ (List.mem_of_getElem? (i := 41) rfl))) (by decide) (t := .int) (t' := .int) (by decide) (by decide))), F1.other W (Or.inr (slot_ne (C := "com/example/muster/muster/bench/Setting") (Or.inr (hw _ (List.mem_of_getElem? (i := 35) rfl))) (Or.inr (hw _ (List.mem_of_getElem? (i := 41) rfl))) (by decide) (t := .int) (t' := .int) (by decide) (by decide))), F2.other W (Or.inr (slot_ne (C := "com/example/muster/muster/bench/Setting") (Or.inr (hw _ (List.mem_of_getElem? (i := 38) rfl))) (Or.inr (hw _ (List.mem_of_getElem? (i := 41) rfl))) (by decide) (t := .int) (t' := .int) (by decide) (by decide))), F3.same W, F4.other W (Or.inr (slot_ne (C := "com/example/muster/muster/bench/Setting") (Or.inr (hw _ (List.mem_of_getElem? (i := 50) rfl))) (Or.inr (hw _ (List.mem_of_getElem? (i := 41) rfl))) (by decide) (t := (.object "com/example/muster/muster/model/Coalitions")) (t' := .int) (by decide) (by decide))), F5.other W (Or.inr (slot_ne (C := "com/example/muster/muster/bench/Setting") (Or.inr (hw _ (List.mem_of_getElem? (i := 55) rfl))) (Or.inr (hw _ (List.mem_of_getElem? (i := 41) rfl))) (by decide) (t := (.object "com/example/muster/muster/model/Objective")) (t' := .int) (by decide) (by decide)))⟩
theorem SET.set_coalitions {Z : State} {h h' : Heap} {a : Addr} {a0 : Array Value} {w : Value} {v0 v1 v2 v3 v4 v5 : Value} (hw : ∀ d ∈ tables_1, d.before a0 Z = true) (R : SET Z h a v0 v1 v2 v3 v4 v5) (W : Wr h h' a (RoadKit.slotOf Z "com/example/muster/muster/bench/Setting" "coalitions" "Lcom/example/muster/muster/model/Coalitions;") w) : SET Z h' a v0 v1 v2 v3 w v5 := by
  obtain ⟨E, F0, F1, F2, F3, F4, F5⟩ := R
  exact ⟨E.wr W, F0.other W (Or.inr (slot_ne (C := "com/example/muster/muster/bench/Setting") (Or.inr (hw _ (List.mem_of_getElem? (i := 32) rfl))) (Or.inr (hw _ (List.mem_of_getElem? (i := 50) rfl))) (by decide) (t := .int) (t' := (.object "com/example/muster/muster/model/Coalitions")) (by decide) (by decide))), F1.other W (Or.inr (slot_ne (C := "com/example/muster/muster/bench/Setting") (Or.inr (hw _ (List.mem_of_getElem? (i := 35) rfl))) (Or.inr (hw _ (List.mem_of_getElem? (i := 50) rfl))) (by decide) (t := .int) (t' := (.object "com/example/muster/muster/model/Coalitions")) (by decide) (by decide))), F2.other W (Or.inr (slot_ne (C := "com/example/muster/muster/bench/Setting") (Or.inr (hw _ (List.mem_of_getElem? (i := 38) rfl))) (Or.inr (hw _ (List.mem_of_getElem? (i := 50) rfl))) (by decide) (t := .int) (t' := (.object "com/example/muster/muster/model/Coalitions")) (by decide) (by decide))), F3.other W (Or.inr (slot_ne (C := "com/example/muster/muster/bench/Setting") (Or.inr (hw _ (List.mem_of_getElem? (i := 41) rfl))) (Or.inr (hw _ (List.mem_of_getElem? (i := 50) rfl))) (by decide) (t := .int) (t' := (.object "com/example/muster/muster/model/Coalitions")) (by decide) (by decide))), F4.same W, F5.other W (Or.inr (slot_ne (C := "com/example/muster/muster/bench/Setting") (Or.inr (hw _ (List.mem_of_getElem? (i := 55) rfl))) (Or.inr (hw _ (List.mem_of_getElem? (i := 50) rfl))) (by decide) (t := (.object "com/example/muster/muster/model/Objective")) (t' := (.object "com/example/muster/muster/model/Coalitions")) (by decide) (by decide)))⟩
theorem SET.set_objective {Z : State} {h h' : Heap} {a : Addr} {a0 : Array Value} {w : Value} {v0 v1 v2 v3 v4 v5 : Value} (hw : ∀ d ∈ tables_1, d.before a0 Z = true) (R : SET Z h a v0 v1 v2 v3 v4 v5) (W : Wr h h' a (RoadKit.slotOf Z "com/example/muster/muster/bench/Setting" "objective" "Lcom/example/muster/muster/model/Objective;") w) : SET Z h' a v0 v1 v2 v3 v4 w := by
  obtain ⟨E, F0, F1, F2, F3, F4, F5⟩ := R
  exact ⟨E.wr W, F0.other W (Or.inr (slot_ne (C := "com/example/muster/muster/bench/Setting") (Or.inr (hw _ (List.mem_of_getElem? (i := 32) rfl))) (Or.inr (hw _ (List.mem_of_getElem? (i := 55) rfl))) (by decide) (t := .int) (t' := (.object "com/example/muster/muster/model/Objective")) (by decide) (by decide))), F1.other W (Or.inr (slot_ne (C := "com/example/muster/muster/bench/Setting") (Or.inr (hw _ (List.mem_of_getElem? (i := 35) rfl))) (Or.inr (hw _ (List.mem_of_getElem? (i := 55) rfl))) (by decide) (t := .int) (t' := (.object "com/example/muster/muster/model/Objective")) (by decide) (by decide))), F2.other W (Or.inr (slot_ne (C := "com/example/muster/muster/bench/Setting") (Or.inr (hw _ (List.mem_of_getElem? (i := 38) rfl))) (Or.inr (hw _ (List.mem_of_getElem? (i := 55) rfl))) (by decide) (t := .int) (t' := (.object "com/example/muster/muster/model/Objective")) (by decide) (by decide))), F3.other W (Or.inr (slot_ne (C := "com/example/muster/muster/bench/Setting") (Or.inr (hw _ (List.mem_of_getElem? (i := 41) rfl))) (Or.inr (hw _ (List.mem_of_getElem? (i := 55) rfl))) (by decide) (t := .int) (t' := (.object "com/example/muster/muster/model/Objective")) (by decide) (by decide))), F4.other W (Or.inr (slot_ne (C := "com/example/muster/muster/bench/Setting") (Or.inr (hw _ (List.mem_of_getElem? (i := 50) rfl))) (Or.inr (hw _ (List.mem_of_getElem? (i := 55) rfl))) (by decide) (t := (.object "com/example/muster/muster/model/Coalitions")) (t' := (.object "com/example/muster/muster/model/Objective")) (by decide) (by decide))), F5.same W⟩
theorem own_c (A S C : Int64) : A + S + C = C + S + A := by rw [Int64.add_comm (A + S) C, Int64.add_comm A S, ← Int64.add_assoc]
theorem own_m (x : Int32) : 0 ≤ (x &&& (2147483647 : Int32)).toInt := (c_andS x 2147483647).2.2 (by decide)
theorem d1_0 : decode jdk_29_method_65_code 0 = .ok (.iload_n 0, 1) := by decide +kernel
theorem d1_1 : decode jdk_29_method_65_code 1 = .ok (.iload_n 1, 1) := by decide +kernel
theorem d1_2 : decode jdk_29_method_65_code 2 = .ok (.if_icmp .lt 7, 3) := by decide +kernel
theorem d1_5 : decode jdk_29_method_65_code 5 = .ok (.iload_n 0, 1) := by decide +kernel
theorem d1_6 : decode jdk_29_method_65_code 6 = .ok (.goto 4, 3) := by decide +kernel
theorem d1_9 : decode jdk_29_method_65_code 9 = .ok (.iload_n 1, 1) := by decide +kernel
theorem d1_10 : decode jdk_29_method_65_code 10 = .ok (.ireturn, 1) := by decide +kernel
def k1 : OM := (jdk_29_method_65_code, 2, "java/lang/Math", "max", (some .int), { frames := 0, cells := 0, slots := 0, locals := 0 })
theorem pn1 : plainFor (⟨"java/lang/Math", "max", "(II)I"⟩ : MethodName) = true := by decide +kernel
theorem pd1 : parseMethodDescriptor "(II)I" = some ⟨[.int, .int], (some .int)⟩ := by decide +kernel
set_option maxRecDepth 65536 in
set_option maxHeartbeats 4000000 in
theorem C_max {Z : State} {ω : OW} {h : Heap} (hw_ : ∀ d ∈ tables_1, d.before ω.2.2 Z = true) (hn_ : ω.2.1 ≤ h.size) (x y : Int32) :
    oC Z ω (⟨"java/lang/Math", "max", "(II)I"⟩ : MethodName) k1 [] #[.int x, .int y] h (fun v h' => ∃ z : Int32, v = some (.int z) ∧ h = h' ∧ x.toInt ≤ z.toInt) := by
  refine oC_of hw_ hn_ pn1 rfl rfl (L := #[.val (.int x), .val (.int y)]) (fun m => by first | (simp [entryFrame, mkF, argsToLocals, Value.category, k1]; done) | rfl) ?_
  intro γ T X
  refine ow_iloadN X 1 d1_0 rfl rfl ?_
  refine ow_iloadN X 2 d1_1 rfl rfl ?_
  refine ow_icmp_lt X 5 9 d1_2 rfl rfl (fun (c2 : x.toInt < y.toInt) => ?_) (fun (c2 : y.toInt ≤ x.toInt) => ?_)
  · refine ow_iloadN X 10 d1_9 rfl rfl ?_
    refine ow_retI X rfl d1_10 (by decide) (by decide) ?_
    exact ⟨_, rfl, rfl, Int.le_of_lt c2⟩
  · refine ow_iloadN X 6 d1_5 rfl rfl ?_
    refine ow_goto X 10 d1_6 rfl ?_
    refine ow_retI X rfl d1_10 (by decide) (by decide) ?_
    exact ⟨_, rfl, rfl, Int.le_refl _⟩
theorem d4_0 : decode prog_5_method_2_code 0 = .ok (.iload_n 1, 1) := by decide +kernel
theorem d4_1 : decode prog_5_method_2_code 1 = .ok (.iload_n 2, 1) := by decide +kernel
theorem d4_2 : decode prog_5_method_2_code 2 = .ok (.if_icmp .ge 19, 3) := by decide +kernel
theorem d4_5 : decode prog_5_method_2_code 5 = .ok (.new 50, 3) := by decide +kernel
theorem d4_8 : decode prog_5_method_2_code 8 = .ok (.dup, 1) := by decide +kernel
theorem d4_9 : decode prog_5_method_2_code 9 = .ok (.aload_n 0, 1) := by decide +kernel
theorem d4_10 : decode prog_5_method_2_code 10 = .ok (.iload_n 2, 1) := by decide +kernel
theorem d4_11 : decode prog_5_method_2_code 11 = .ok (.iload_n 1, 1) := by decide +kernel
theorem d4_12 : decode prog_5_method_2_code 12 = .ok (.invokedynamic 52, 5) := by decide +kernel
theorem d4_17 : decode prog_5_method_2_code 17 = .ok (.invokespecial 56, 3) := by decide +kernel
theorem d4_20 : decode prog_5_method_2_code 20 = .ok (.athrow, 1) := by decide +kernel
theorem d4_21 : decode prog_5_method_2_code 21 = .ok (.iload_n 1, 1) := by decide +kernel
theorem d4_22 : decode prog_5_method_2_code 22 = .ok (.ireturn, 1) := by decide +kernel
def k4 : OM := (prog_5_method_2_code, 3, "com/example/muster/muster/bench/Setting", "atLeast", (some .int), { frames := 0, cells := 0, slots := 0, locals := 0 })
theorem pn4 : plainFor (⟨"com/example/muster/muster/bench/Setting", "atLeast", "(Ljava/lang/String;II)I"⟩ : MethodName) = true := plainFor_of_name (by first | (simp [plainName, overriddenIn]; done) | decide +kernel)
theorem pd4 : parseMethodDescriptor "(Ljava/lang/String;II)I" = some ⟨[(.object "java/lang/String"), .int, .int], (some .int)⟩ := by decide +kernel
set_option maxRecDepth 65536 in
set_option maxHeartbeats 4000000 in
theorem C_atl {Z : State} {ω : OW} {h : Heap} (hw_ : ∀ d ∈ tables_1, d.before ω.2.2 Z = true) (hn_ : ω.2.1 ≤ h.size) (p : Addr) (x m : Int32) (hx : m.toInt ≤ x.toInt) :
    oC Z ω (⟨"com/example/muster/muster/bench/Setting", "atLeast", "(Ljava/lang/String;II)I"⟩ : MethodName) k4 [] #[.ref p, .int x, .int m] h (fun v h' => v = some (.int x) ∧ h = h') := by
  refine oC_of hw_ hn_ pn4 rfl rfl (L := #[.val (.ref p), .val (.int x), .val (.int m)]) (fun m => by first | (simp [entryFrame, mkF, argsToLocals, Value.category, k4]; done) | rfl) ?_
  intro γ T X
  refine ow_iloadN X 1 d4_0 rfl rfl ?_
  refine ow_iloadN X 2 d4_1 rfl rfl ?_
  refine ow_icmp_ge X 5 21 d4_2 rfl rfl (fun (c2 : m.toInt ≤ x.toInt) => ?_) (fun (c2 : x.toInt < m.toInt) => by exfalso; omega)
  refine ow_iloadN X 22 d4_21 rfl rfl ?_
  refine ow_retI X rfl d4_22 (by decide) (by decide) ?_
  exact ⟨rfl, rfl⟩
theorem d5_0 : decode jdk_31_method_11_code 0 = .ok (.aload_n 0, 1) := by decide +kernel
theorem d5_1 : decode jdk_31_method_11_code 1 = .ok (.ifnonnull 12, 3) := by decide +kernel
theorem d5_4 : decode jdk_31_method_11_code 4 = .ok (.new 84, 3) := by decide +kernel
theorem d5_7 : decode jdk_31_method_11_code 7 = .ok (.dup, 1) := by decide +kernel
theorem d5_8 : decode jdk_31_method_11_code 8 = .ok (.aload_n 1, 1) := by decide +kernel
theorem d5_9 : decode jdk_31_method_11_code 9 = .ok (.invokespecial 87, 3) := by decide +kernel
theorem d5_12 : decode jdk_31_method_11_code 12 = .ok (.athrow, 1) := by decide +kernel
theorem d5_13 : decode jdk_31_method_11_code 13 = .ok (.aload_n 0, 1) := by decide +kernel
theorem d5_14 : decode jdk_31_method_11_code 14 = .ok (.areturn, 1) := by decide +kernel
def k5 : OM := (jdk_31_method_11_code, 2, "java/util/Objects", "requireNonNull", (some (.object "java/lang/Object")), { frames := 0, cells := 0, slots := 0, locals := 0 })
theorem pn5 : plainFor (⟨"java/util/Objects", "requireNonNull", "(Ljava/lang/Object;Ljava/lang/String;)Ljava/lang/Object;"⟩ : MethodName) = true := plainFor_of_name (by first | (simp [plainName, overriddenIn]; done) | decide +kernel)
theorem pd5 : parseMethodDescriptor "(Ljava/lang/Object;Ljava/lang/String;)Ljava/lang/Object;" = some ⟨[(.object "java/lang/Object"), (.object "java/lang/String")], (some (.object "java/lang/Object"))⟩ := by decide +kernel
set_option maxRecDepth 65536 in
set_option maxHeartbeats 4000000 in
theorem C_req {Z : State} {ω : OW} {h : Heap} (hw_ : ∀ d ∈ tables_1, d.before ω.2.2 Z = true) (hn_ : ω.2.1 ≤ h.size) (x p : Addr) :
    oC Z ω (⟨"java/util/Objects", "requireNonNull", "(Ljava/lang/Object;Ljava/lang/String;)Ljava/lang/Object;"⟩ : MethodName) k5 [] #[.ref x, .ref p] h (fun v h' => v = some (.ref x) ∧ h = h') := by
  refine oC_of hw_ hn_ pn5 rfl rfl (L := #[.val (.ref x), .val (.ref p)]) (fun m => by first | (simp [entryFrame, mkF, argsToLocals, Value.category, k5]; done) | rfl) ?_
  intro γ T X
  refine ow_aloadN X 1 d5_0 rfl rfl rfl ?_
  refine ow_ifnonnull X 4 13 rfl d5_1 rfl rfl (fun c1 => ?_) (fun c1 => by cases c1)
  refine ow_aloadN X 14 d5_13 rfl rfl rfl ?_
  refine ow_retA X rfl rfl rfl d5_14 (by decide) (by decide) ?_
  exact ⟨rfl, rfl⟩
theorem d2_0 : decode prog_5_method_1_code 0 = .ok (.aload_n 0, 1) := by decide +kernel
theorem d2_1 : decode prog_5_method_1_code 1 = .ok (.invokespecial 1, 3) := by decide +kernel
theorem d2_4 : decode prog_5_method_1_code 4 = .ok (.aload_n 0, 1) := by decide +kernel
theorem d2_5 : decode prog_5_method_1_code 5 = .ok (.ldc 7, 2) := by decide +kernel
theorem d2_7 : decode prog_5_method_1_code 7 = .ok (.iload_n 1, 1) := by decide +kernel
theorem d2_8 : decode prog_5_method_1_code 8 = .ok (.iconst 1, 1) := by decide +kernel
theorem d2_9 : decode prog_5_method_1_code 9 = .ok (.invokestatic 9, 3) := by decide +kernel
theorem d2_12 : decode prog_5_method_1_code 12 = .ok (.putfield 15, 3) := by decide +kernel
theorem d2_15 : decode prog_5_method_1_code 15 = .ok (.aload_n 0, 1) := by decide +kernel
theorem d2_16 : decode prog_5_method_1_code 16 = .ok (.ldc 18, 2) := by decide +kernel
theorem d2_18 : decode prog_5_method_1_code 18 = .ok (.iload_n 2, 1) := by decide +kernel
theorem d2_19 : decode prog_5_method_1_code 19 = .ok (.iconst 0, 1) := by decide +kernel
theorem d2_20 : decode prog_5_method_1_code 20 = .ok (.invokestatic 9, 3) := by decide +kernel
theorem d2_23 : decode prog_5_method_1_code 23 = .ok (.putfield 20, 3) := by decide +kernel
theorem d2_26 : decode prog_5_method_1_code 26 = .ok (.aload_n 0, 1) := by decide +kernel
theorem d2_27 : decode prog_5_method_1_code 27 = .ok (.ldc 22, 2) := by decide +kernel
theorem d2_29 : decode prog_5_method_1_code 29 = .ok (.iload_n 3, 1) := by decide +kernel
theorem d2_30 : decode prog_5_method_1_code 30 = .ok (.iconst 0, 1) := by decide +kernel
theorem d2_31 : decode prog_5_method_1_code 31 = .ok (.invokestatic 9, 3) := by decide +kernel
theorem d2_34 : decode prog_5_method_1_code 34 = .ok (.putfield 24, 3) := by decide +kernel
theorem d2_37 : decode prog_5_method_1_code 37 = .ok (.aload_n 0, 1) := by decide +kernel
theorem d2_38 : decode prog_5_method_1_code 38 = .ok (.ldc 26, 2) := by decide +kernel
theorem d2_40 : decode prog_5_method_1_code 40 = .ok (.iload 4, 2) := by decide +kernel
theorem d2_42 : decode prog_5_method_1_code 42 = .ok (.iconst 2, 1) := by decide +kernel
theorem d2_43 : decode prog_5_method_1_code 43 = .ok (.invokestatic 9, 3) := by decide +kernel
theorem d2_46 : decode prog_5_method_1_code 46 = .ok (.putfield 28, 3) := by decide +kernel
theorem d2_49 : decode prog_5_method_1_code 49 = .ok (.aload_n 0, 1) := by decide +kernel
theorem d2_50 : decode prog_5_method_1_code 50 = .ok (.aload 5, 2) := by decide +kernel
theorem d2_52 : decode prog_5_method_1_code 52 = .ok (.ldc 30, 2) := by decide +kernel
theorem d2_54 : decode prog_5_method_1_code 54 = .ok (.invokestatic 32, 3) := by decide +kernel
theorem d2_57 : decode prog_5_method_1_code 57 = .ok (.checkcast 38, 3) := by decide +kernel
theorem d2_60 : decode prog_5_method_1_code 60 = .ok (.putfield 40, 3) := by decide +kernel
theorem d2_63 : decode prog_5_method_1_code 63 = .ok (.aload_n 0, 1) := by decide +kernel
theorem d2_64 : decode prog_5_method_1_code 64 = .ok (.aload 6, 2) := by decide +kernel
theorem d2_66 : decode prog_5_method_1_code 66 = .ok (.ldc 43, 2) := by decide +kernel
theorem d2_68 : decode prog_5_method_1_code 68 = .ok (.invokestatic 32, 3) := by decide +kernel
theorem d2_71 : decode prog_5_method_1_code 71 = .ok (.checkcast 45, 3) := by decide +kernel
theorem d2_74 : decode prog_5_method_1_code 74 = .ok (.putfield 47, 3) := by decide +kernel
theorem d2_77 : decode prog_5_method_1_code 77 = .ok (.return_, 1) := by decide +kernel
def k2 : OM := (prog_5_method_1_code, 7, "com/example/muster/muster/bench/Setting", "<init>", none, { frames := 1, cells := 12, slots := 212, locals := 15 })
theorem pn2 : plainFor (⟨"com/example/muster/muster/bench/Setting", "<init>", "(IIIILcom/example/muster/muster/model/Coalitions;Lcom/example/muster/muster/model/Objective;)V"⟩ : MethodName) = true := plainFor_of_name (by first | (simp [plainName, overriddenIn]; done) | decide +kernel)
theorem pd2 : parseMethodDescriptor "(IIIILcom/example/muster/muster/model/Coalitions;Lcom/example/muster/muster/model/Objective;)V" = some ⟨[.int, .int, .int, .int, (.object "com/example/muster/muster/model/Coalitions"), (.object "com/example/muster/muster/model/Objective")], none⟩ := by decide +kernel
set_option maxRecDepth 65536 in
set_option maxHeartbeats 4000000 in
theorem C_init {Z : State} {ω : OW} {h : Heap} (hw_ : ∀ d ∈ tables_1, d.before ω.2.2 Z = true) (hn_ : ω.2.1 ≤ h.size) (a : Addr) (n s c k : Int32) (x y : Addr) (R0 : SET Z h a (.int (0 : Int32)) (.int (0 : Int32)) (.int (0 : Int32)) (.int (0 : Int32)) .null .null) (Ex : Exa Z h x "com/example/muster/muster/model/Coalitions") (Ey : Exa Z h y "com/example/muster/muster/model/Objective") (ga : ω.2.1 ≤ a) (hn : 1 ≤ n.toInt) (hs : 0 ≤ s.toInt) (hc : 0 ≤ c.toInt) (hk : 2 ≤ k.toInt) :
    oC Z ω (⟨"com/example/muster/muster/bench/Setting", "<init>", "(IIIILcom/example/muster/muster/model/Coalitions;Lcom/example/muster/muster/model/Objective;)V"⟩ : MethodName) k2 [] #[.ref a, .int n, .int s, .int c, .int k, .ref x, .ref y] h (fun v h' => v = none ∧ Keep h h' [a] ∧ SET Z h' a (.int n) (.int s) (.int c) (.int k) (.ref x) (.ref y)) := by
  refine oC_of hw_ hn_ pn2 rfl rfl (L := #[.val (.ref a), .val (.int n), .val (.int s), .val (.int c), .val (.int k), .val (.ref x), .val (.ref y)]) (fun m => by first | (simp [entryFrame, mkF, argsToLocals, Value.category, k2]; done) | rfl) ?_
  intro γ T X
  refine ow_aloadN X 1 d2_0 rfl rfl rfl ?_
  refine ow_initO X 4 17 18 19 rfl rfl rfl rfl d2_1 rfl rfl (by decide) (W := 0) (Nat.le_of_eq rfl) (by decide) ?_
  intro T_1 X_1
  refine ow_aloadN X_1 5 d2_4 rfl rfl rfl ?_
  refine ow_ldcStr X_1 7 20 24 rfl rfl own_sA (by decide +kernel) (by decide) (by decide) (by decide) d2_5 rfl ?_
  intro γ T_2 h_2 a_2 X_2 E_2
  have f3_0 : SET Z h_2 a (.int (0 : Int32)) (.int (0 : Int32)) (.int (0 : Int32)) (.int (0 : Int32)) .null .null := R0.ext E_2
  have f3_1 : Exa Z h_2 x "com/example/muster/muster/model/Coalitions" := Exa.ext E_2 Ex
  have f3_2 : Exa Z h_2 y "com/example/muster/muster/model/Objective" := Exa.ext E_2 Ey
  have f3_3 : Keep h h_2 [a] := (Keep.refl h [a]).ext E_2
  refine ow_iloadN X_2 8 d2_7 rfl rfl ?_
  refine ow_iconst X_2 9 (1 : Int32) d2_8 rfl rfl ?_
  refine ow_callS X_2 12 28 29 13 30 (κ' := k4) (as := [.ref a_2, .int n, .int (1 : Int32)]) (S := [.ref a]) (W := 1) rfl rfl rfl rfl rfl (by decide) (C_atl (oSt_w X_2) (oSt_n0 X_2) a_2 n (1 : Int32) hn) (by decide) (by decide) (Nat.le_of_eq rfl) (by decide) (by decide) pd4 rfl rfl rfl d2_9 rfl ?_
  intro γ v_4 T_4 h_4 X_4 q_4
  obtain ⟨rfl, rfl⟩ := q_4
  show oWP ω γ k2 _ T_4 12 #[.val (.ref a), .val (.int n), .val (.int s), .val (.int c), .val (.int k), .val (.ref x), .val (.ref y)] [.int n, .ref a]
  refine ow_putF X_4 15 31 12 rfl rfl f3_0.2.1 f3_0.1 (Or.inr ⟨oSt_at X_4 32 rfl, rfl, rfl⟩) rfl (ty := .int) (by decide) rfl rfl ga d2_12 rfl ?_
  intro T_5 h_5 X_5 W_5
  have f6_0 : SET Z h_5 a (.int n) (.int (0 : Int32)) (.int (0 : Int32)) (.int (0 : Int32)) .null .null := SET.set_agents (oSt_w X_5) f3_0 W_5
  have f6_1 : Exa Z h_5 x "com/example/muster/muster/model/Coalitions" := f3_1.wr W_5
  have f6_2 : Exa Z h_5 y "com/example/muster/muster/model/Objective" := f3_2.wr W_5
  have f6_3 : Keep h h_5 [a] := f3_3.wr W_5 (Or.inl (List.mem_of_getElem? (i := 0) rfl))
  refine ow_aloadN X_5 16 d2_15 rfl rfl rfl ?_
  refine ow_ldcStr X_5 18 33 24 rfl rfl own_sA (by decide +kernel) (by decide) (by decide) (by decide) d2_16 rfl ?_
  intro γ T_7 h_7 a_7 X_7 E_7
  have f8_0 : SET Z h_7 a (.int n) (.int (0 : Int32)) (.int (0 : Int32)) (.int (0 : Int32)) .null .null := f6_0.ext E_7
  have f8_1 : Exa Z h_7 x "com/example/muster/muster/model/Coalitions" := Exa.ext E_7 f6_1
  have f8_2 : Exa Z h_7 y "com/example/muster/muster/model/Objective" := Exa.ext E_7 f6_2
  have f8_3 : Keep h h_7 [a] := f6_3.ext E_7
  refine ow_iloadN X_7 19 d2_18 rfl rfl ?_
  refine ow_iconst X_7 20 (0 : Int32) d2_19 rfl rfl ?_
  refine ow_callS X_7 23 28 29 13 30 (κ' := k4) (as := [.ref a_7, .int s, .int (0 : Int32)]) (S := [.ref a]) (W := 1) rfl rfl rfl rfl rfl (by decide) (C_atl (oSt_w X_7) (oSt_n0 X_7) a_7 s (0 : Int32) hs) (by decide) (by decide) (Nat.le_of_eq rfl) (by decide) (by decide) pd4 rfl rfl rfl d2_20 rfl ?_
  intro γ v_9 T_9 h_9 X_9 q_9
  obtain ⟨rfl, rfl⟩ := q_9
  show oWP ω γ k2 _ T_9 23 #[.val (.ref a), .val (.int n), .val (.int s), .val (.int c), .val (.int k), .val (.ref x), .val (.ref y)] [.int s, .ref a]
  refine ow_putF X_9 26 34 12 rfl rfl f8_0.2.2.1 f8_0.1 (Or.inr ⟨oSt_at X_9 35 rfl, rfl, rfl⟩) rfl (ty := .int) (by decide) rfl rfl ga d2_23 rfl ?_
  intro T_10 h_10 X_10 W_10
  have f11_0 : SET Z h_10 a (.int n) (.int s) (.int (0 : Int32)) (.int (0 : Int32)) .null .null := SET.set_simple (oSt_w X_10) f8_0 W_10
  have f11_1 : Exa Z h_10 x "com/example/muster/muster/model/Coalitions" := f8_1.wr W_10
  have f11_2 : Exa Z h_10 y "com/example/muster/muster/model/Objective" := f8_2.wr W_10
  have f11_3 : Keep h h_10 [a] := f8_3.wr W_10 (Or.inl (List.mem_of_getElem? (i := 0) rfl))
  refine ow_aloadN X_10 27 d2_26 rfl rfl rfl ?_
  refine ow_ldcStr X_10 29 36 28 rfl rfl own_sA (by decide +kernel) (by decide) (by decide) (by decide) d2_27 rfl ?_
  intro γ T_12 h_12 a_12 X_12 E_12
  have f13_0 : SET Z h_12 a (.int n) (.int s) (.int (0 : Int32)) (.int (0 : Int32)) .null .null := f11_0.ext E_12
  have f13_1 : Exa Z h_12 x "com/example/muster/muster/model/Coalitions" := Exa.ext E_12 f11_1
  have f13_2 : Exa Z h_12 y "com/example/muster/muster/model/Objective" := Exa.ext E_12 f11_2
  have f13_3 : Keep h h_12 [a] := f11_3.ext E_12
  refine ow_iloadN X_12 30 d2_29 rfl rfl ?_
  refine ow_iconst X_12 31 (0 : Int32) d2_30 rfl rfl ?_
  refine ow_callS X_12 34 28 29 13 30 (κ' := k4) (as := [.ref a_12, .int c, .int (0 : Int32)]) (S := [.ref a]) (W := 1) rfl rfl rfl rfl rfl (by decide) (C_atl (oSt_w X_12) (oSt_n0 X_12) a_12 c (0 : Int32) hc) (by decide) (by decide) (Nat.le_of_eq rfl) (by decide) (by decide) pd4 rfl rfl rfl d2_31 rfl ?_
  intro γ v_14 T_14 h_14 X_14 q_14
  obtain ⟨rfl, rfl⟩ := q_14
  show oWP ω γ k2 _ T_14 34 #[.val (.ref a), .val (.int n), .val (.int s), .val (.int c), .val (.int k), .val (.ref x), .val (.ref y)] [.int c, .ref a]
  refine ow_putF X_14 37 37 12 rfl rfl f13_0.2.2.2.1 f13_0.1 (Or.inr ⟨oSt_at X_14 38 rfl, rfl, rfl⟩) rfl (ty := .int) (by decide) rfl rfl ga d2_34 rfl ?_
  intro T_15 h_15 X_15 W_15
  have f16_0 : SET Z h_15 a (.int n) (.int s) (.int c) (.int (0 : Int32)) .null .null := SET.set_complex (oSt_w X_15) f13_0 W_15
  have f16_1 : Exa Z h_15 x "com/example/muster/muster/model/Coalitions" := f13_1.wr W_15
  have f16_2 : Exa Z h_15 y "com/example/muster/muster/model/Objective" := f13_2.wr W_15
  have f16_3 : Keep h h_15 [a] := f13_3.wr W_15 (Or.inl (List.mem_of_getElem? (i := 0) rfl))
  refine ow_aloadN X_15 38 d2_37 rfl rfl rfl ?_
  refine ow_ldcStr X_15 40 39 36 rfl rfl own_sA (by decide +kernel) (by decide) (by decide) (by decide) d2_38 rfl ?_
  intro γ T_17 h_17 a_17 X_17 E_17
  have f18_0 : SET Z h_17 a (.int n) (.int s) (.int c) (.int (0 : Int32)) .null .null := f16_0.ext E_17
  have f18_1 : Exa Z h_17 x "com/example/muster/muster/model/Coalitions" := Exa.ext E_17 f16_1
  have f18_2 : Exa Z h_17 y "com/example/muster/muster/model/Objective" := Exa.ext E_17 f16_2
  have f18_3 : Keep h h_17 [a] := f16_3.ext E_17
  refine ow_iload X_17 42 d2_40 rfl rfl ?_
  refine ow_iconst X_17 43 (2 : Int32) d2_42 rfl rfl ?_
  refine ow_callS X_17 46 28 29 13 30 (κ' := k4) (as := [.ref a_17, .int k, .int (2 : Int32)]) (S := [.ref a]) (W := 1) rfl rfl rfl rfl rfl (by decide) (C_atl (oSt_w X_17) (oSt_n0 X_17) a_17 k (2 : Int32) hk) (by decide) (by decide) (Nat.le_of_eq rfl) (by decide) (by decide) pd4 rfl rfl rfl d2_43 rfl ?_
  intro γ v_19 T_19 h_19 X_19 q_19
  obtain ⟨rfl, rfl⟩ := q_19
  show oWP ω γ k2 _ T_19 46 #[.val (.ref a), .val (.int n), .val (.int s), .val (.int c), .val (.int k), .val (.ref x), .val (.ref y)] [.int k, .ref a]
  refine ow_putF X_19 49 40 12 rfl rfl f18_0.2.2.2.2.1 f18_0.1 (Or.inr ⟨oSt_at X_19 41 rfl, rfl, rfl⟩) rfl (ty := .int) (by decide) rfl rfl ga d2_46 rfl ?_
  intro T_20 h_20 X_20 W_20
  have f21_0 : SET Z h_20 a (.int n) (.int s) (.int c) (.int k) .null .null := SET.set_coalition (oSt_w X_20) f18_0 W_20
  have f21_1 : Exa Z h_20 x "com/example/muster/muster/model/Coalitions" := f18_1.wr W_20
  have f21_2 : Exa Z h_20 y "com/example/muster/muster/model/Objective" := f18_2.wr W_20
  have f21_3 : Keep h h_20 [a] := f18_3.wr W_20 (Or.inl (List.mem_of_getElem? (i := 0) rfl))
  refine ow_aloadN X_20 50 d2_49 rfl rfl rfl ?_
  refine ow_aload X_20 52 d2_50 rfl rfl rfl ?_
  refine ow_ldcStr X_20 54 42 40 rfl rfl own_sA (by decide +kernel) (by decide) (by decide) (by decide) d2_52 rfl ?_
  intro γ T_22 h_22 a_22 X_22 E_22
  have f23_0 : SET Z h_22 a (.int n) (.int s) (.int c) (.int k) .null .null := f21_0.ext E_22
  have f23_1 : Exa Z h_22 x "com/example/muster/muster/model/Coalitions" := Exa.ext E_22 f21_1
  have f23_2 : Exa Z h_22 y "com/example/muster/muster/model/Objective" := Exa.ext E_22 f21_2
  have f23_3 : Keep h h_22 [a] := f21_3.ext E_22
  refine ow_callS X_22 57 43 44 45 46 (κ' := k5) (as := [.ref x, .ref a_22]) (S := [.ref a]) (W := 1) rfl rfl rfl rfl rfl (by decide) (C_req (oSt_w X_22) (oSt_n0 X_22) x a_22) (by decide) (by decide) (Nat.le_of_eq rfl) (by decide) (by decide) pd5 rfl rfl rfl d2_54 rfl ?_
  intro γ v_24 T_24 h_24 X_24 q_24
  obtain ⟨rfl, rfl⟩ := q_24
  show oWP ω γ k2 _ T_24 57 #[.val (.ref a), .val (.int n), .val (.int s), .val (.int c), .val (.int k), .val (.ref x), .val (.ref y)] [.ref x, .ref a]
  refine ow_cast X_24 60 47 rfl rfl (Ins.self f23_1) d2_57 rfl ?_
  intro T_25 X_25
  refine ow_putF X_25 63 49 12 rfl rfl f23_0.2.2.2.2.2.1 f23_0.1 (Or.inr ⟨oSt_at X_25 50 rfl, rfl, rfl⟩) rfl (ty := (.object "com/example/muster/muster/model/Coalitions")) (by decide) rfl rfl ga d2_60 rfl ?_
  intro T_26 h_26 X_26 W_26
  have f27_0 : SET Z h_26 a (.int n) (.int s) (.int c) (.int k) (.ref x) .null := SET.set_coalitions (oSt_w X_26) f23_0 W_26
  have f27_1 : Exa Z h_26 x "com/example/muster/muster/model/Coalitions" := f23_1.wr W_26
  have f27_2 : Exa Z h_26 y "com/example/muster/muster/model/Objective" := f23_2.wr W_26
  have f27_3 : Keep h h_26 [a] := f23_3.wr W_26 (Or.inl (List.mem_of_getElem? (i := 0) rfl))
  refine ow_aloadN X_26 64 d2_63 rfl rfl rfl ?_
  refine ow_aload X_26 66 d2_64 rfl rfl rfl ?_
  refine ow_ldcStr X_26 68 51 36 rfl rfl own_sA (by decide +kernel) (by decide) (by decide) (by decide) d2_66 rfl ?_
  intro γ T_28 h_28 a_28 X_28 E_28
  have f29_0 : SET Z h_28 a (.int n) (.int s) (.int c) (.int k) (.ref x) .null := f27_0.ext E_28
  have f29_1 : Exa Z h_28 x "com/example/muster/muster/model/Coalitions" := Exa.ext E_28 f27_1
  have f29_2 : Exa Z h_28 y "com/example/muster/muster/model/Objective" := Exa.ext E_28 f27_2
  have f29_3 : Keep h h_28 [a] := f27_3.ext E_28
  refine ow_callS X_28 71 43 44 45 46 (κ' := k5) (as := [.ref y, .ref a_28]) (S := [.ref a]) (W := 1) rfl rfl rfl rfl rfl (by decide) (C_req (oSt_w X_28) (oSt_n0 X_28) y a_28) (by decide) (by decide) (Nat.le_of_eq rfl) (by decide) (by decide) pd5 rfl rfl rfl d2_68 rfl ?_
  intro γ v_30 T_30 h_30 X_30 q_30
  obtain ⟨rfl, rfl⟩ := q_30
  show oWP ω γ k2 _ T_30 71 #[.val (.ref a), .val (.int n), .val (.int s), .val (.int c), .val (.int k), .val (.ref x), .val (.ref y)] [.ref y, .ref a]
  refine ow_cast X_30 74 52 rfl rfl (Ins.self f29_2) d2_71 rfl ?_
  intro T_31 X_31
  refine ow_putF X_31 77 54 12 rfl rfl f29_0.2.2.2.2.2.2 f29_0.1 (Or.inr ⟨oSt_at X_31 55 rfl, rfl, rfl⟩) rfl (ty := (.object "com/example/muster/muster/model/Objective")) (by decide) rfl rfl ga d2_74 rfl ?_
  intro T_32 h_32 X_32 W_32
  have f33_0 : SET Z h_32 a (.int n) (.int s) (.int c) (.int k) (.ref x) (.ref y) := SET.set_objective (oSt_w X_32) f29_0 W_32
  have f33_1 : Exa Z h_32 x "com/example/muster/muster/model/Coalitions" := f29_1.wr W_32
  have f33_2 : Exa Z h_32 y "com/example/muster/muster/model/Objective" := f29_2.wr W_32
  have f33_3 : Keep h h_32 [a] := f29_3.wr W_32 (Or.inl (List.mem_of_getElem? (i := 0) rfl))
  refine ow_retV X_32 rfl d2_77 (by decide) (by decide) ?_
  exact ⟨rfl, f33_3, f33_0⟩
theorem d6_0 : decode prog_5_method_9_code 0 = .ok (.aload_n 0, 1) := by decide +kernel
theorem d6_1 : decode prog_5_method_9_code 1 = .ok (.getfield 15, 3) := by decide +kernel
theorem d6_4 : decode prog_5_method_9_code 4 = .ok (.i2l, 1) := by decide +kernel
theorem d6_5 : decode prog_5_method_9_code 5 = .ok (.aload_n 0, 1) := by decide +kernel
theorem d6_6 : decode prog_5_method_9_code 6 = .ok (.getfield 20, 3) := by decide +kernel
theorem d6_9 : decode prog_5_method_9_code 9 = .ok (.i2l, 1) := by decide +kernel
theorem d6_10 : decode prog_5_method_9_code 10 = .ok (.ladd, 1) := by decide +kernel
theorem d6_11 : decode prog_5_method_9_code 11 = .ok (.aload_n 0, 1) := by decide +kernel
theorem d6_12 : decode prog_5_method_9_code 12 = .ok (.getfield 24, 3) := by decide +kernel
theorem d6_15 : decode prog_5_method_9_code 15 = .ok (.i2l, 1) := by decide +kernel
theorem d6_16 : decode prog_5_method_9_code 16 = .ok (.ladd, 1) := by decide +kernel
theorem d6_17 : decode prog_5_method_9_code 17 = .ok (.lreturn, 1) := by decide +kernel
def k6 : OM := (prog_5_method_9_code, 1, "com/example/muster/muster/bench/Setting", "cells", (some .long), { frames := 0, cells := 0, slots := 0, locals := 0 })
theorem pn6 : plainFor (⟨"com/example/muster/muster/bench/Setting", "cells", "()J"⟩ : MethodName) = true := plainFor_of_name (by first | (simp [plainName, overriddenIn]; done) | decide +kernel)
theorem pd6 : parseMethodDescriptor "()J" = some ⟨[], (some .long)⟩ := by decide +kernel
set_option maxRecDepth 65536 in
set_option maxHeartbeats 4000000 in
theorem C_cells {Z : State} {ω : OW} {h : Heap} (hw_ : ∀ d ∈ tables_1, d.before ω.2.2 Z = true) (hn_ : ω.2.1 ≤ h.size) (a : Addr) (n s c k : Int32) (x y : Addr) (R0 : SET Z h a (.int n) (.int s) (.int c) (.int k) (.ref x) (.ref y)) :
    oC Z ω (⟨"com/example/muster/muster/bench/Setting", "cells", "()J"⟩ : MethodName) k6 [] #[.ref a] h (fun v h' => v = some (.long (n.toInt64 + s.toInt64 + c.toInt64)) ∧ h = h') := by
  refine oC_of hw_ hn_ pn6 rfl rfl (L := #[.val (.ref a)]) (fun m => by first | (simp [entryFrame, mkF, argsToLocals, Value.category, k6]; done) | rfl) ?_
  intro γ T X
  refine ow_aloadN X 1 d6_0 rfl rfl rfl ?_
  refine ow_getF X 4 31 rfl rfl R0.2.1 d6_1 rfl ?_
  intro T_34 X_34
  refine ow_i2l X_34 5 d6_4 rfl ?_
  refine ow_aloadN X_34 6 d6_5 rfl rfl rfl ?_
  refine ow_getF X_34 9 34 rfl rfl R0.2.2.1 d6_6 rfl ?_
  intro T_35 X_35
  refine ow_i2l X_35 10 d6_9 rfl ?_
  refine ow_ladd X_35 11 d6_10 rfl ?_
  refine ow_aloadN X_35 12 d6_11 rfl rfl rfl ?_
  refine ow_getF X_35 15 37 rfl rfl R0.2.2.2.1 d6_12 rfl ?_
  intro T_36 X_36
  refine ow_i2l X_36 16 d6_15 rfl ?_
  refine ow_ladd X_36 17 d6_16 rfl ?_
  refine ow_retJ X_36 rfl d6_17 (by decide) (by decide) ?_
  exact ⟨rfl, rfl⟩
def k0 : OM := (code, maxLocals, "com/example/muster/muster/bench/SettingCellsPinLaw", "law", ret, room_1)
theorem pn0 : plainFor Jvm.Pilot.@@N@@.x = true := plainFor_of_name (by first | (simp [plainName, overriddenIn]; done) | decide +kernel)
theorem pd0 : parseMethodDescriptor "(IIIII)Z" = some ⟨[.int, .int, .int, .int, .int], (some .boolean)⟩ := by decide +kernel
set_option maxRecDepth 65536 in
set_option maxHeartbeats 4000000 in
theorem C_law {Z : State} {ω : OW} {h : Heap} (hw_ : ∀ d ∈ tables_1, d.before ω.2.2 Z = true) (hn_ : ω.2.1 ≤ h.size) (p1 p2 p3 p4 p5 : Int32) (xO xM xD xS : Addr) (S_xO : Sta Z h "com/example/muster/muster/model/Coalitions" "OVERLAPPING" "Lcom/example/muster/muster/model/Coalitions;" (.ref xO)) (S_xM : Sta Z h "com/example/muster/muster/model/Objective" "MINIMAX" "Lcom/example/muster/muster/model/Objective;" (.ref xM)) (S_xD : Sta Z h "com/example/muster/muster/model/Coalitions" "DISJOINT" "Lcom/example/muster/muster/model/Coalitions;" (.ref xD)) (S_xS : Sta Z h "com/example/muster/muster/model/Objective" "MINISUM" "Lcom/example/muster/muster/model/Objective;" (.ref xS)) (E_xO : Exa Z h xO "com/example/muster/muster/model/Coalitions") (E_xM : Exa Z h xM "com/example/muster/muster/model/Objective") (E_xD : Exa Z h xD "com/example/muster/muster/model/Coalitions") (E_xS : Exa Z h xS "com/example/muster/muster/model/Objective") :
    oC Z ω Jvm.Pilot.@@N@@.x k0 tables_1 #[.int p1, .int p2, .int p3, .int p4, .int p5] h (fun v _ => v = some (.int 1)) := by
  refine oC_of hw_ hn_ pn0 rfl rfl (L := #[.val (.int p1), .val (.int p2), .val (.int p3), .val (.int p4), .val (.int p5), .unset, .unset, .unset, .unset, .unset, .unset, .unset, .unset, .unset]) (fun m => by first | (simp [entryFrame, mkF, argsToLocals, Value.category, k0, maxLocals]; done) | rfl) ?_
  intro γ T X
  refine ow_iconst X 1 (1 : Int32) at_0 rfl rfl ?_
  refine ow_iloadN X 2 at_1 rfl rfl ?_
  refine ow_ldcI X 4 0 rfl rfl at_2 rfl ?_
  refine ow_iand X 5 at_4 rfl ?_
  refine ow_callS X 8 1 2 3 4 (κ' := k1) (as := [.int (1 : Int32), .int (p1 &&& (2147483647 : Int32))]) (S := []) (W := 0) rfl rfl rfl rfl rfl (by decide) (C_max (oSt_w X) (oSt_n0 X) (1 : Int32) (p1 &&& (2147483647 : Int32))) (by decide) (by decide) (Nat.le_of_eq rfl) (by decide) (by decide) pd1 rfl rfl rfl at_5 rfl ?_
  intro γ v_37 T_37 h_37 X_37 q_37
  obtain ⟨ag, rfl, rfl, hag⟩ := q_37
  show oWP ω γ k0 _ T_37 8 #[.val (.int p1), .val (.int p2), .val (.int p3), .val (.int p4), .val (.int p5), .unset, .unset, .unset, .unset, .unset, .unset, .unset, .unset, .unset] [.int ag]
  refine ow_istore X_37 10 (L' := #[.val (.int p1), .val (.int p2), .val (.int p3), .val (.int p4), .val (.int p5), .val (.int ag), .unset, .unset, .unset, .unset, .unset, .unset, .unset, .unset]) at_8 rfl rfl ?_
  refine ow_iloadN X_37 11 at_10 rfl rfl ?_
  refine ow_ldcI X_37 13 0 rfl rfl at_11 rfl ?_
  refine ow_iand X_37 14 at_13 rfl ?_
  refine ow_istore X_37 16 (L' := #[.val (.int p1), .val (.int p2), .val (.int p3), .val (.int p4), .val (.int p5), .val (.int ag), .val (.int (p2 &&& (2147483647 : Int32))), .unset, .unset, .unset, .unset, .unset, .unset, .unset]) at_14 rfl rfl ?_
  refine ow_iloadN X_37 17 at_16 rfl rfl ?_
  refine ow_ldcI X_37 19 0 rfl rfl at_17 rfl ?_
  refine ow_iand X_37 20 at_19 rfl ?_
  refine ow_istore X_37 22 (L' := #[.val (.int p1), .val (.int p2), .val (.int p3), .val (.int p4), .val (.int p5), .val (.int ag), .val (.int (p2 &&& (2147483647 : Int32))), .val (.int (p3 &&& (2147483647 : Int32))), .unset, .unset, .unset, .unset, .unset, .unset]) at_20 rfl rfl ?_
  refine ow_iconst X_37 23 (2 : Int32) at_22 rfl rfl ?_
  refine ow_iloadN X_37 24 at_23 rfl rfl ?_
  refine ow_ldcI X_37 26 0 rfl rfl at_24 rfl ?_
  refine ow_iand X_37 27 at_26 rfl ?_
  refine ow_callS X_37 30 1 2 3 4 (κ' := k1) (as := [.int (2 : Int32), .int (p4 &&& (2147483647 : Int32))]) (S := []) (W := 0) rfl rfl rfl rfl rfl (by decide) (C_max (oSt_w X_37) (oSt_n0 X_37) (2 : Int32) (p4 &&& (2147483647 : Int32))) (by decide) (by decide) (Nat.le_of_eq rfl) (by decide) (by decide) pd1 rfl rfl rfl at_27 rfl ?_
  intro γ v_38 T_38 h_38 X_38 q_38
  obtain ⟨kq, rfl, rfl, hkq⟩ := q_38
  show oWP ω γ k0 _ T_38 30 #[.val (.int p1), .val (.int p2), .val (.int p3), .val (.int p4), .val (.int p5), .val (.int ag), .val (.int (p2 &&& (2147483647 : Int32))), .val (.int (p3 &&& (2147483647 : Int32))), .unset, .unset, .unset, .unset, .unset, .unset] [.int kq]
  refine ow_istore X_38 32 (L' := #[.val (.int p1), .val (.int p2), .val (.int p3), .val (.int p4), .val (.int p5), .val (.int ag), .val (.int (p2 &&& (2147483647 : Int32))), .val (.int (p3 &&& (2147483647 : Int32))), .val (.int kq), .unset, .unset, .unset, .unset, .unset]) at_30 rfl rfl ?_
  refine ow_iload X_38 34 at_32 rfl rfl ?_
  refine ow_iconst X_38 35 (1 : Int32) at_34 rfl rfl ?_
  refine ow_iand X_38 36 at_35 rfl ?_
  refine ow_if_eq X_38 39 45 at_36 rfl rfl (fun (c36 : (p5 &&& (1 : Int32)).toInt = 0) => ?_) (fun (c36 : (p5 &&& (1 : Int32)).toInt ≠ 0) => ?_)
  · refine ow_getS X_38 48 5 rfl rfl S_xO at_45 rfl ?_
    intro T_39 X_39
    refine ow_astore X_39 50 (L' := #[.val (.int p1), .val (.int p2), .val (.int p3), .val (.int p4), .val (.int p5), .val (.int ag), .val (.int (p2 &&& (2147483647 : Int32))), .val (.int (p3 &&& (2147483647 : Int32))), .val (.int kq), .val (.ref xO), .unset, .unset, .unset, .unset]) at_48 rfl rfl rfl ?_
    refine ow_iload X_39 52 at_50 rfl rfl ?_
    refine ow_iconst X_39 53 (2 : Int32) at_52 rfl rfl ?_
    refine ow_iand X_39 54 at_53 rfl ?_
    refine ow_if_eq X_39 57 63 at_54 rfl rfl (fun (c54 : (p5 &&& (2 : Int32)).toInt = 0) => ?_) (fun (c54 : (p5 &&& (2 : Int32)).toInt ≠ 0) => ?_)
    · refine ow_getS X_39 66 8 rfl rfl S_xM at_63 rfl ?_
      intro T_40 X_40
      refine ow_astore X_40 68 (L' := #[.val (.int p1), .val (.int p2), .val (.int p3), .val (.int p4), .val (.int p5), .val (.int ag), .val (.int (p2 &&& (2147483647 : Int32))), .val (.int (p3 &&& (2147483647 : Int32))), .val (.int kq), .val (.ref xO), .val (.ref xM), .unset, .unset, .unset]) at_66 rfl rfl rfl ?_
      refine ow_new X_40 71 11 12 13 rfl rfl rfl rfl at_68 rfl (by decide) (by decide) ?_
      intro T_41 h_41 a_41 q_41 X_41 E_41 A_41 D_41 g_41
      have ne_xO_a_41 : xO ≠ a_41 := by rw [q_41]; exact Nat.ne_of_lt E_xO.lt
      have ne_xM_a_41 : xM ≠ a_41 := by rw [q_41]; exact Nat.ne_of_lt E_xM.lt
      have ne_xD_a_41 : xD ≠ a_41 := by rw [q_41]; exact Nat.ne_of_lt E_xD.lt
      have ne_xS_a_41 : xS ≠ a_41 := by rw [q_41]; exact Nat.ne_of_lt E_xS.lt
      have f42_0 : Sta Z h_41 "com/example/muster/muster/model/Coalitions" "OVERLAPPING" "Lcom/example/muster/muster/model/Coalitions;" (.ref xO) := Sta.ext E_41 S_xO
      have f42_1 : Sta Z h_41 "com/example/muster/muster/model/Objective" "MINIMAX" "Lcom/example/muster/muster/model/Objective;" (.ref xM) := Sta.ext E_41 S_xM
      have f42_2 : Sta Z h_41 "com/example/muster/muster/model/Coalitions" "DISJOINT" "Lcom/example/muster/muster/model/Coalitions;" (.ref xD) := Sta.ext E_41 S_xD
      have f42_3 : Sta Z h_41 "com/example/muster/muster/model/Objective" "MINISUM" "Lcom/example/muster/muster/model/Objective;" (.ref xS) := Sta.ext E_41 S_xS
      have f42_4 : Exa Z h_41 xO "com/example/muster/muster/model/Coalitions" := Exa.ext E_41 E_xO
      have f42_5 : Exa Z h_41 xM "com/example/muster/muster/model/Objective" := Exa.ext E_41 E_xM
      have f42_6 : Exa Z h_41 xD "com/example/muster/muster/model/Coalitions" := Exa.ext E_41 E_xD
      have f42_7 : Exa Z h_41 xS "com/example/muster/muster/model/Objective" := Exa.ext E_41 E_xS
      have R_41 : SET Z h_41 a_41 (.int (0 : Int32)) (.int (0 : Int32)) (.int (0 : Int32)) (.int (0 : Int32)) .null .null := ⟨A_41, D_41 (Or.inr (oSt_at X_41 32 rfl)) (ty := .int) (by decide), D_41 (Or.inr (oSt_at X_41 35 rfl)) (ty := .int) (by decide), D_41 (Or.inr (oSt_at X_41 38 rfl)) (ty := .int) (by decide), D_41 (Or.inr (oSt_at X_41 41 rfl)) (ty := .int) (by decide), D_41 (Or.inr (oSt_at X_41 50 rfl)) (ty := (.object "com/example/muster/muster/model/Coalitions")) (by decide), D_41 (Or.inr (oSt_at X_41 55 rfl)) (ty := (.object "com/example/muster/muster/model/Objective")) (by decide)⟩
      refine ow_dup X_41 72 at_71 rfl rfl ?_
      refine ow_iload X_41 74 at_72 rfl rfl ?_
      refine ow_iload X_41 76 at_74 rfl rfl ?_
      refine ow_iload X_41 78 at_76 rfl rfl ?_
      refine ow_iload X_41 80 at_78 rfl rfl ?_
      refine ow_aload X_41 82 at_80 rfl rfl rfl ?_
      refine ow_aload X_41 84 at_82 rfl rfl rfl ?_
      refine ow_callC X_41 87 14 15 13 16 (κ' := k2) (as := [.int ag, .int (p2 &&& (2147483647 : Int32)), .int (p3 &&& (2147483647 : Int32)), .int kq, .ref xO, .ref xM]) (S := [.ref a_41]) (W := 1) rfl rfl rfl rfl rfl rfl rfl (by decide) (C_init (oSt_w X_41) (oSt_n0 X_41) a_41 ag (p2 &&& (2147483647 : Int32)) (p3 &&& (2147483647 : Int32)) kq xO xM R_41 f42_4 f42_5 g_41 hag (own_m _) (own_m _) hkq) (by decide) (by decide) (Nat.le_of_eq rfl) (by decide) (by decide) pd2 rfl rfl rfl at_84 rfl ?_
      intro γ v_43 T_43 h_43 X_43 q_43
      obtain ⟨rfl, K43, R43⟩ := q_43
      have f44_0 : Exa Z h_43 xO "com/example/muster/muster/model/Coalitions" := f42_4.keep K43
      have f44_1 : Exa Z h_43 xM "com/example/muster/muster/model/Objective" := f42_5.keep K43
      have f44_2 : Exa Z h_43 xD "com/example/muster/muster/model/Coalitions" := f42_6.keep K43
      have f44_3 : Exa Z h_43 xS "com/example/muster/muster/model/Objective" := f42_7.keep K43
      show oWP ω γ k0 _ T_43 87 #[.val (.int p1), .val (.int p2), .val (.int p3), .val (.int p4), .val (.int p5), .val (.int ag), .val (.int (p2 &&& (2147483647 : Int32))), .val (.int (p3 &&& (2147483647 : Int32))), .val (.int kq), .val (.ref xO), .val (.ref xM), .unset, .unset, .unset] [.ref a_41]
      refine ow_astore X_43 89 (L' := #[.val (.int p1), .val (.int p2), .val (.int p3), .val (.int p4), .val (.int p5), .val (.int ag), .val (.int (p2 &&& (2147483647 : Int32))), .val (.int (p3 &&& (2147483647 : Int32))), .val (.int kq), .val (.ref xO), .val (.ref xM), .val (.ref a_41), .unset, .unset]) at_87 rfl rfl rfl ?_
      refine ow_iload X_43 91 at_89 rfl rfl ?_
      refine ow_i2l X_43 92 at_91 rfl ?_
      refine ow_lstore X_43 94 (L' := #[.val (.int p1), .val (.int p2), .val (.int p3), .val (.int p4), .val (.int p5), .val (.int ag), .val (.int (p2 &&& (2147483647 : Int32))), .val (.int (p3 &&& (2147483647 : Int32))), .val (.int kq), .val (.ref xO), .val (.ref xM), .val (.ref a_41), .val (.long ((p3 &&& (2147483647 : Int32)).toInt64)), .second]) at_92 rfl rfl ?_
      refine ow_lload X_43 96 at_94 rfl rfl ?_
      refine ow_iload X_43 98 at_96 rfl rfl ?_
      refine ow_i2l X_43 99 at_98 rfl ?_
      refine ow_ladd X_43 100 at_99 rfl ?_
      refine ow_lstore X_43 102 (L' := #[.val (.int p1), .val (.int p2), .val (.int p3), .val (.int p4), .val (.int p5), .val (.int ag), .val (.int (p2 &&& (2147483647 : Int32))), .val (.int (p3 &&& (2147483647 : Int32))), .val (.int kq), .val (.ref xO), .val (.ref xM), .val (.ref a_41), .val (.long (((p3 &&& (2147483647 : Int32)).toInt64) + ((p2 &&& (2147483647 : Int32)).toInt64))), .second]) at_100 rfl rfl ?_
      refine ow_lload X_43 104 at_102 rfl rfl ?_
      refine ow_iload X_43 106 at_104 rfl rfl ?_
      refine ow_i2l X_43 107 at_106 rfl ?_
      refine ow_ladd X_43 108 at_107 rfl ?_
      refine ow_lstore X_43 110 (L' := #[.val (.int p1), .val (.int p2), .val (.int p3), .val (.int p4), .val (.int p5), .val (.int ag), .val (.int (p2 &&& (2147483647 : Int32))), .val (.int (p3 &&& (2147483647 : Int32))), .val (.int kq), .val (.ref xO), .val (.ref xM), .val (.ref a_41), .val (.long ((((p3 &&& (2147483647 : Int32)).toInt64) + ((p2 &&& (2147483647 : Int32)).toInt64)) + ag.toInt64)), .second]) at_108 rfl rfl ?_
      refine ow_aload X_43 112 at_110 rfl rfl rfl ?_
      refine ow_callV X_43 115 56 57 59 58 60 13 (κ' := k6) (as := []) (S := []) (W := 0) rfl rfl rfl rfl rfl rfl rfl (by decide) R43.1 (C_cells (oSt_w X_43) (oSt_n0 X_43) a_41 ag (p2 &&& (2147483647 : Int32)) (p3 &&& (2147483647 : Int32)) kq xO xM R43) (by decide) (by decide) (Nat.le_of_eq rfl) (by decide) (by decide) pd6 rfl rfl rfl at_112 rfl ?_
      intro γ v_45 T_45 h_45 X_45 q_45
      obtain ⟨rfl, rfl⟩ := q_45
      show oWP ω γ k0 _ T_45 115 #[.val (.int p1), .val (.int p2), .val (.int p3), .val (.int p4), .val (.int p5), .val (.int ag), .val (.int (p2 &&& (2147483647 : Int32))), .val (.int (p3 &&& (2147483647 : Int32))), .val (.int kq), .val (.ref xO), .val (.ref xM), .val (.ref a_41), .val (.long ((((p3 &&& (2147483647 : Int32)).toInt64) + ((p2 &&& (2147483647 : Int32)).toInt64)) + ag.toInt64)), .second] [.long (ag.toInt64 + (p2 &&& (2147483647 : Int32)).toInt64 + (p3 &&& (2147483647 : Int32)).toInt64)]
      refine ow_lload X_45 117 at_115 rfl rfl ?_
      refine ow_lcmp_ne X_45 118 121 125 at_117 rfl at_118 rfl rfl (fun (c117 : (ag.toInt64 + (p2 &&& (2147483647 : Int32)).toInt64 + (p3 &&& (2147483647 : Int32)).toInt64).toInt ≠ ((((p3 &&& (2147483647 : Int32)).toInt64) + ((p2 &&& (2147483647 : Int32)).toInt64)) + ag.toInt64).toInt) => absurd (congrArg Int64.toInt (own_c _ _ _)) c117) (fun (c117 : (ag.toInt64 + (p2 &&& (2147483647 : Int32)).toInt64 + (p3 &&& (2147483647 : Int32)).toInt64).toInt = ((((p3 &&& (2147483647 : Int32)).toInt64) + ((p2 &&& (2147483647 : Int32)).toInt64)) + ag.toInt64).toInt) => ?_)
      refine ow_iconst X_45 122 (1 : Int32) at_121 rfl rfl ?_
      refine ow_goto X_45 126 at_122 rfl ?_
      refine ow_retZ X_45 rfl at_126 (by decide) (by decide) (by decide) ?_
      rfl
    · refine ow_getS X_39 60 63 rfl rfl S_xS at_57 rfl ?_
      intro T_46 X_46
      refine ow_goto X_46 66 at_60 rfl ?_
      refine ow_astore X_46 68 (L' := #[.val (.int p1), .val (.int p2), .val (.int p3), .val (.int p4), .val (.int p5), .val (.int ag), .val (.int (p2 &&& (2147483647 : Int32))), .val (.int (p3 &&& (2147483647 : Int32))), .val (.int kq), .val (.ref xO), .val (.ref xS), .unset, .unset, .unset]) at_66 rfl rfl rfl ?_
      refine ow_new X_46 71 11 12 13 rfl rfl rfl rfl at_68 rfl (by decide) (by decide) ?_
      intro T_47 h_47 a_47 q_47 X_47 E_47 A_47 D_47 g_47
      have ne_xO_a_47 : xO ≠ a_47 := by rw [q_47]; exact Nat.ne_of_lt E_xO.lt
      have ne_xM_a_47 : xM ≠ a_47 := by rw [q_47]; exact Nat.ne_of_lt E_xM.lt
      have ne_xD_a_47 : xD ≠ a_47 := by rw [q_47]; exact Nat.ne_of_lt E_xD.lt
      have ne_xS_a_47 : xS ≠ a_47 := by rw [q_47]; exact Nat.ne_of_lt E_xS.lt
      have f48_0 : Sta Z h_47 "com/example/muster/muster/model/Coalitions" "OVERLAPPING" "Lcom/example/muster/muster/model/Coalitions;" (.ref xO) := Sta.ext E_47 S_xO
      have f48_1 : Sta Z h_47 "com/example/muster/muster/model/Objective" "MINIMAX" "Lcom/example/muster/muster/model/Objective;" (.ref xM) := Sta.ext E_47 S_xM
      have f48_2 : Sta Z h_47 "com/example/muster/muster/model/Coalitions" "DISJOINT" "Lcom/example/muster/muster/model/Coalitions;" (.ref xD) := Sta.ext E_47 S_xD
      have f48_3 : Sta Z h_47 "com/example/muster/muster/model/Objective" "MINISUM" "Lcom/example/muster/muster/model/Objective;" (.ref xS) := Sta.ext E_47 S_xS
      have f48_4 : Exa Z h_47 xO "com/example/muster/muster/model/Coalitions" := Exa.ext E_47 E_xO
      have f48_5 : Exa Z h_47 xM "com/example/muster/muster/model/Objective" := Exa.ext E_47 E_xM
      have f48_6 : Exa Z h_47 xD "com/example/muster/muster/model/Coalitions" := Exa.ext E_47 E_xD
      have f48_7 : Exa Z h_47 xS "com/example/muster/muster/model/Objective" := Exa.ext E_47 E_xS
      have R_47 : SET Z h_47 a_47 (.int (0 : Int32)) (.int (0 : Int32)) (.int (0 : Int32)) (.int (0 : Int32)) .null .null := ⟨A_47, D_47 (Or.inr (oSt_at X_47 32 rfl)) (ty := .int) (by decide), D_47 (Or.inr (oSt_at X_47 35 rfl)) (ty := .int) (by decide), D_47 (Or.inr (oSt_at X_47 38 rfl)) (ty := .int) (by decide), D_47 (Or.inr (oSt_at X_47 41 rfl)) (ty := .int) (by decide), D_47 (Or.inr (oSt_at X_47 50 rfl)) (ty := (.object "com/example/muster/muster/model/Coalitions")) (by decide), D_47 (Or.inr (oSt_at X_47 55 rfl)) (ty := (.object "com/example/muster/muster/model/Objective")) (by decide)⟩
      refine ow_dup X_47 72 at_71 rfl rfl ?_
      refine ow_iload X_47 74 at_72 rfl rfl ?_
      refine ow_iload X_47 76 at_74 rfl rfl ?_
      refine ow_iload X_47 78 at_76 rfl rfl ?_
      refine ow_iload X_47 80 at_78 rfl rfl ?_
      refine ow_aload X_47 82 at_80 rfl rfl rfl ?_
      refine ow_aload X_47 84 at_82 rfl rfl rfl ?_
      refine ow_callC X_47 87 14 15 13 16 (κ' := k2) (as := [.int ag, .int (p2 &&& (2147483647 : Int32)), .int (p3 &&& (2147483647 : Int32)), .int kq, .ref xO, .ref xS]) (S := [.ref a_47]) (W := 1) rfl rfl rfl rfl rfl rfl rfl (by decide) (C_init (oSt_w X_47) (oSt_n0 X_47) a_47 ag (p2 &&& (2147483647 : Int32)) (p3 &&& (2147483647 : Int32)) kq xO xS R_47 f48_4 f48_7 g_47 hag (own_m _) (own_m _) hkq) (by decide) (by decide) (Nat.le_of_eq rfl) (by decide) (by decide) pd2 rfl rfl rfl at_84 rfl ?_
      intro γ v_49 T_49 h_49 X_49 q_49
      obtain ⟨rfl, K49, R49⟩ := q_49
      have f50_0 : Exa Z h_49 xO "com/example/muster/muster/model/Coalitions" := f48_4.keep K49
      have f50_1 : Exa Z h_49 xM "com/example/muster/muster/model/Objective" := f48_5.keep K49
      have f50_2 : Exa Z h_49 xD "com/example/muster/muster/model/Coalitions" := f48_6.keep K49
      have f50_3 : Exa Z h_49 xS "com/example/muster/muster/model/Objective" := f48_7.keep K49
      show oWP ω γ k0 _ T_49 87 #[.val (.int p1), .val (.int p2), .val (.int p3), .val (.int p4), .val (.int p5), .val (.int ag), .val (.int (p2 &&& (2147483647 : Int32))), .val (.int (p3 &&& (2147483647 : Int32))), .val (.int kq), .val (.ref xO), .val (.ref xS), .unset, .unset, .unset] [.ref a_47]
      refine ow_astore X_49 89 (L' := #[.val (.int p1), .val (.int p2), .val (.int p3), .val (.int p4), .val (.int p5), .val (.int ag), .val (.int (p2 &&& (2147483647 : Int32))), .val (.int (p3 &&& (2147483647 : Int32))), .val (.int kq), .val (.ref xO), .val (.ref xS), .val (.ref a_47), .unset, .unset]) at_87 rfl rfl rfl ?_
      refine ow_iload X_49 91 at_89 rfl rfl ?_
      refine ow_i2l X_49 92 at_91 rfl ?_
      refine ow_lstore X_49 94 (L' := #[.val (.int p1), .val (.int p2), .val (.int p3), .val (.int p4), .val (.int p5), .val (.int ag), .val (.int (p2 &&& (2147483647 : Int32))), .val (.int (p3 &&& (2147483647 : Int32))), .val (.int kq), .val (.ref xO), .val (.ref xS), .val (.ref a_47), .val (.long ((p3 &&& (2147483647 : Int32)).toInt64)), .second]) at_92 rfl rfl ?_
      refine ow_lload X_49 96 at_94 rfl rfl ?_
      refine ow_iload X_49 98 at_96 rfl rfl ?_
      refine ow_i2l X_49 99 at_98 rfl ?_
      refine ow_ladd X_49 100 at_99 rfl ?_
      refine ow_lstore X_49 102 (L' := #[.val (.int p1), .val (.int p2), .val (.int p3), .val (.int p4), .val (.int p5), .val (.int ag), .val (.int (p2 &&& (2147483647 : Int32))), .val (.int (p3 &&& (2147483647 : Int32))), .val (.int kq), .val (.ref xO), .val (.ref xS), .val (.ref a_47), .val (.long (((p3 &&& (2147483647 : Int32)).toInt64) + ((p2 &&& (2147483647 : Int32)).toInt64))), .second]) at_100 rfl rfl ?_
      refine ow_lload X_49 104 at_102 rfl rfl ?_
      refine ow_iload X_49 106 at_104 rfl rfl ?_
      refine ow_i2l X_49 107 at_106 rfl ?_
      refine ow_ladd X_49 108 at_107 rfl ?_
      refine ow_lstore X_49 110 (L' := #[.val (.int p1), .val (.int p2), .val (.int p3), .val (.int p4), .val (.int p5), .val (.int ag), .val (.int (p2 &&& (2147483647 : Int32))), .val (.int (p3 &&& (2147483647 : Int32))), .val (.int kq), .val (.ref xO), .val (.ref xS), .val (.ref a_47), .val (.long ((((p3 &&& (2147483647 : Int32)).toInt64) + ((p2 &&& (2147483647 : Int32)).toInt64)) + ag.toInt64)), .second]) at_108 rfl rfl ?_
      refine ow_aload X_49 112 at_110 rfl rfl rfl ?_
      refine ow_callV X_49 115 56 57 59 58 60 13 (κ' := k6) (as := []) (S := []) (W := 0) rfl rfl rfl rfl rfl rfl rfl (by decide) R49.1 (C_cells (oSt_w X_49) (oSt_n0 X_49) a_47 ag (p2 &&& (2147483647 : Int32)) (p3 &&& (2147483647 : Int32)) kq xO xS R49) (by decide) (by decide) (Nat.le_of_eq rfl) (by decide) (by decide) pd6 rfl rfl rfl at_112 rfl ?_
      intro γ v_51 T_51 h_51 X_51 q_51
      obtain ⟨rfl, rfl⟩ := q_51
      show oWP ω γ k0 _ T_51 115 #[.val (.int p1), .val (.int p2), .val (.int p3), .val (.int p4), .val (.int p5), .val (.int ag), .val (.int (p2 &&& (2147483647 : Int32))), .val (.int (p3 &&& (2147483647 : Int32))), .val (.int kq), .val (.ref xO), .val (.ref xS), .val (.ref a_47), .val (.long ((((p3 &&& (2147483647 : Int32)).toInt64) + ((p2 &&& (2147483647 : Int32)).toInt64)) + ag.toInt64)), .second] [.long (ag.toInt64 + (p2 &&& (2147483647 : Int32)).toInt64 + (p3 &&& (2147483647 : Int32)).toInt64)]
      refine ow_lload X_51 117 at_115 rfl rfl ?_
      refine ow_lcmp_ne X_51 118 121 125 at_117 rfl at_118 rfl rfl (fun (c117 : (ag.toInt64 + (p2 &&& (2147483647 : Int32)).toInt64 + (p3 &&& (2147483647 : Int32)).toInt64).toInt ≠ ((((p3 &&& (2147483647 : Int32)).toInt64) + ((p2 &&& (2147483647 : Int32)).toInt64)) + ag.toInt64).toInt) => absurd (congrArg Int64.toInt (own_c _ _ _)) c117) (fun (c117 : (ag.toInt64 + (p2 &&& (2147483647 : Int32)).toInt64 + (p3 &&& (2147483647 : Int32)).toInt64).toInt = ((((p3 &&& (2147483647 : Int32)).toInt64) + ((p2 &&& (2147483647 : Int32)).toInt64)) + ag.toInt64).toInt) => ?_)
      refine ow_iconst X_51 122 (1 : Int32) at_121 rfl rfl ?_
      refine ow_goto X_51 126 at_122 rfl ?_
      refine ow_retZ X_51 rfl at_126 (by decide) (by decide) (by decide) ?_
      rfl
  · refine ow_getS X_38 42 61 rfl rfl S_xD at_39 rfl ?_
    intro T_52 X_52
    refine ow_goto X_52 48 at_42 rfl ?_
    refine ow_astore X_52 50 (L' := #[.val (.int p1), .val (.int p2), .val (.int p3), .val (.int p4), .val (.int p5), .val (.int ag), .val (.int (p2 &&& (2147483647 : Int32))), .val (.int (p3 &&& (2147483647 : Int32))), .val (.int kq), .val (.ref xD), .unset, .unset, .unset, .unset]) at_48 rfl rfl rfl ?_
    refine ow_iload X_52 52 at_50 rfl rfl ?_
    refine ow_iconst X_52 53 (2 : Int32) at_52 rfl rfl ?_
    refine ow_iand X_52 54 at_53 rfl ?_
    refine ow_if_eq X_52 57 63 at_54 rfl rfl (fun (c54 : (p5 &&& (2 : Int32)).toInt = 0) => ?_) (fun (c54 : (p5 &&& (2 : Int32)).toInt ≠ 0) => ?_)
    · refine ow_getS X_52 66 8 rfl rfl S_xM at_63 rfl ?_
      intro T_53 X_53
      refine ow_astore X_53 68 (L' := #[.val (.int p1), .val (.int p2), .val (.int p3), .val (.int p4), .val (.int p5), .val (.int ag), .val (.int (p2 &&& (2147483647 : Int32))), .val (.int (p3 &&& (2147483647 : Int32))), .val (.int kq), .val (.ref xD), .val (.ref xM), .unset, .unset, .unset]) at_66 rfl rfl rfl ?_
      refine ow_new X_53 71 11 12 13 rfl rfl rfl rfl at_68 rfl (by decide) (by decide) ?_
      intro T_54 h_54 a_54 q_54 X_54 E_54 A_54 D_54 g_54
      have ne_xO_a_54 : xO ≠ a_54 := by rw [q_54]; exact Nat.ne_of_lt E_xO.lt
      have ne_xM_a_54 : xM ≠ a_54 := by rw [q_54]; exact Nat.ne_of_lt E_xM.lt
      have ne_xD_a_54 : xD ≠ a_54 := by rw [q_54]; exact Nat.ne_of_lt E_xD.lt
      have ne_xS_a_54 : xS ≠ a_54 := by rw [q_54]; exact Nat.ne_of_lt E_xS.lt
      have f55_0 : Sta Z h_54 "com/example/muster/muster/model/Coalitions" "OVERLAPPING" "Lcom/example/muster/muster/model/Coalitions;" (.ref xO) := Sta.ext E_54 S_xO
      have f55_1 : Sta Z h_54 "com/example/muster/muster/model/Objective" "MINIMAX" "Lcom/example/muster/muster/model/Objective;" (.ref xM) := Sta.ext E_54 S_xM
      have f55_2 : Sta Z h_54 "com/example/muster/muster/model/Coalitions" "DISJOINT" "Lcom/example/muster/muster/model/Coalitions;" (.ref xD) := Sta.ext E_54 S_xD
      have f55_3 : Sta Z h_54 "com/example/muster/muster/model/Objective" "MINISUM" "Lcom/example/muster/muster/model/Objective;" (.ref xS) := Sta.ext E_54 S_xS
      have f55_4 : Exa Z h_54 xO "com/example/muster/muster/model/Coalitions" := Exa.ext E_54 E_xO
      have f55_5 : Exa Z h_54 xM "com/example/muster/muster/model/Objective" := Exa.ext E_54 E_xM
      have f55_6 : Exa Z h_54 xD "com/example/muster/muster/model/Coalitions" := Exa.ext E_54 E_xD
      have f55_7 : Exa Z h_54 xS "com/example/muster/muster/model/Objective" := Exa.ext E_54 E_xS
      have R_54 : SET Z h_54 a_54 (.int (0 : Int32)) (.int (0 : Int32)) (.int (0 : Int32)) (.int (0 : Int32)) .null .null := ⟨A_54, D_54 (Or.inr (oSt_at X_54 32 rfl)) (ty := .int) (by decide), D_54 (Or.inr (oSt_at X_54 35 rfl)) (ty := .int) (by decide), D_54 (Or.inr (oSt_at X_54 38 rfl)) (ty := .int) (by decide), D_54 (Or.inr (oSt_at X_54 41 rfl)) (ty := .int) (by decide), D_54 (Or.inr (oSt_at X_54 50 rfl)) (ty := (.object "com/example/muster/muster/model/Coalitions")) (by decide), D_54 (Or.inr (oSt_at X_54 55 rfl)) (ty := (.object "com/example/muster/muster/model/Objective")) (by decide)⟩
      refine ow_dup X_54 72 at_71 rfl rfl ?_
      refine ow_iload X_54 74 at_72 rfl rfl ?_
      refine ow_iload X_54 76 at_74 rfl rfl ?_
      refine ow_iload X_54 78 at_76 rfl rfl ?_
      refine ow_iload X_54 80 at_78 rfl rfl ?_
      refine ow_aload X_54 82 at_80 rfl rfl rfl ?_
      refine ow_aload X_54 84 at_82 rfl rfl rfl ?_
      refine ow_callC X_54 87 14 15 13 16 (κ' := k2) (as := [.int ag, .int (p2 &&& (2147483647 : Int32)), .int (p3 &&& (2147483647 : Int32)), .int kq, .ref xD, .ref xM]) (S := [.ref a_54]) (W := 1) rfl rfl rfl rfl rfl rfl rfl (by decide) (C_init (oSt_w X_54) (oSt_n0 X_54) a_54 ag (p2 &&& (2147483647 : Int32)) (p3 &&& (2147483647 : Int32)) kq xD xM R_54 f55_6 f55_5 g_54 hag (own_m _) (own_m _) hkq) (by decide) (by decide) (Nat.le_of_eq rfl) (by decide) (by decide) pd2 rfl rfl rfl at_84 rfl ?_
      intro γ v_56 T_56 h_56 X_56 q_56
      obtain ⟨rfl, K56, R56⟩ := q_56
      have f57_0 : Exa Z h_56 xO "com/example/muster/muster/model/Coalitions" := f55_4.keep K56
      have f57_1 : Exa Z h_56 xM "com/example/muster/muster/model/Objective" := f55_5.keep K56
      have f57_2 : Exa Z h_56 xD "com/example/muster/muster/model/Coalitions" := f55_6.keep K56
      have f57_3 : Exa Z h_56 xS "com/example/muster/muster/model/Objective" := f55_7.keep K56
      show oWP ω γ k0 _ T_56 87 #[.val (.int p1), .val (.int p2), .val (.int p3), .val (.int p4), .val (.int p5), .val (.int ag), .val (.int (p2 &&& (2147483647 : Int32))), .val (.int (p3 &&& (2147483647 : Int32))), .val (.int kq), .val (.ref xD), .val (.ref xM), .unset, .unset, .unset] [.ref a_54]
      refine ow_astore X_56 89 (L' := #[.val (.int p1), .val (.int p2), .val (.int p3), .val (.int p4), .val (.int p5), .val (.int ag), .val (.int (p2 &&& (2147483647 : Int32))), .val (.int (p3 &&& (2147483647 : Int32))), .val (.int kq), .val (.ref xD), .val (.ref xM), .val (.ref a_54), .unset, .unset]) at_87 rfl rfl rfl ?_
      refine ow_iload X_56 91 at_89 rfl rfl ?_
      refine ow_i2l X_56 92 at_91 rfl ?_
      refine ow_lstore X_56 94 (L' := #[.val (.int p1), .val (.int p2), .val (.int p3), .val (.int p4), .val (.int p5), .val (.int ag), .val (.int (p2 &&& (2147483647 : Int32))), .val (.int (p3 &&& (2147483647 : Int32))), .val (.int kq), .val (.ref xD), .val (.ref xM), .val (.ref a_54), .val (.long ((p3 &&& (2147483647 : Int32)).toInt64)), .second]) at_92 rfl rfl ?_
      refine ow_lload X_56 96 at_94 rfl rfl ?_
      refine ow_iload X_56 98 at_96 rfl rfl ?_
      refine ow_i2l X_56 99 at_98 rfl ?_
      refine ow_ladd X_56 100 at_99 rfl ?_
      refine ow_lstore X_56 102 (L' := #[.val (.int p1), .val (.int p2), .val (.int p3), .val (.int p4), .val (.int p5), .val (.int ag), .val (.int (p2 &&& (2147483647 : Int32))), .val (.int (p3 &&& (2147483647 : Int32))), .val (.int kq), .val (.ref xD), .val (.ref xM), .val (.ref a_54), .val (.long (((p3 &&& (2147483647 : Int32)).toInt64) + ((p2 &&& (2147483647 : Int32)).toInt64))), .second]) at_100 rfl rfl ?_
      refine ow_lload X_56 104 at_102 rfl rfl ?_
      refine ow_iload X_56 106 at_104 rfl rfl ?_
      refine ow_i2l X_56 107 at_106 rfl ?_
      refine ow_ladd X_56 108 at_107 rfl ?_
      refine ow_lstore X_56 110 (L' := #[.val (.int p1), .val (.int p2), .val (.int p3), .val (.int p4), .val (.int p5), .val (.int ag), .val (.int (p2 &&& (2147483647 : Int32))), .val (.int (p3 &&& (2147483647 : Int32))), .val (.int kq), .val (.ref xD), .val (.ref xM), .val (.ref a_54), .val (.long ((((p3 &&& (2147483647 : Int32)).toInt64) + ((p2 &&& (2147483647 : Int32)).toInt64)) + ag.toInt64)), .second]) at_108 rfl rfl ?_
      refine ow_aload X_56 112 at_110 rfl rfl rfl ?_
      refine ow_callV X_56 115 56 57 59 58 60 13 (κ' := k6) (as := []) (S := []) (W := 0) rfl rfl rfl rfl rfl rfl rfl (by decide) R56.1 (C_cells (oSt_w X_56) (oSt_n0 X_56) a_54 ag (p2 &&& (2147483647 : Int32)) (p3 &&& (2147483647 : Int32)) kq xD xM R56) (by decide) (by decide) (Nat.le_of_eq rfl) (by decide) (by decide) pd6 rfl rfl rfl at_112 rfl ?_
      intro γ v_58 T_58 h_58 X_58 q_58
      obtain ⟨rfl, rfl⟩ := q_58
      show oWP ω γ k0 _ T_58 115 #[.val (.int p1), .val (.int p2), .val (.int p3), .val (.int p4), .val (.int p5), .val (.int ag), .val (.int (p2 &&& (2147483647 : Int32))), .val (.int (p3 &&& (2147483647 : Int32))), .val (.int kq), .val (.ref xD), .val (.ref xM), .val (.ref a_54), .val (.long ((((p3 &&& (2147483647 : Int32)).toInt64) + ((p2 &&& (2147483647 : Int32)).toInt64)) + ag.toInt64)), .second] [.long (ag.toInt64 + (p2 &&& (2147483647 : Int32)).toInt64 + (p3 &&& (2147483647 : Int32)).toInt64)]
      refine ow_lload X_58 117 at_115 rfl rfl ?_
      refine ow_lcmp_ne X_58 118 121 125 at_117 rfl at_118 rfl rfl (fun (c117 : (ag.toInt64 + (p2 &&& (2147483647 : Int32)).toInt64 + (p3 &&& (2147483647 : Int32)).toInt64).toInt ≠ ((((p3 &&& (2147483647 : Int32)).toInt64) + ((p2 &&& (2147483647 : Int32)).toInt64)) + ag.toInt64).toInt) => absurd (congrArg Int64.toInt (own_c _ _ _)) c117) (fun (c117 : (ag.toInt64 + (p2 &&& (2147483647 : Int32)).toInt64 + (p3 &&& (2147483647 : Int32)).toInt64).toInt = ((((p3 &&& (2147483647 : Int32)).toInt64) + ((p2 &&& (2147483647 : Int32)).toInt64)) + ag.toInt64).toInt) => ?_)
      refine ow_iconst X_58 122 (1 : Int32) at_121 rfl rfl ?_
      refine ow_goto X_58 126 at_122 rfl ?_
      refine ow_retZ X_58 rfl at_126 (by decide) (by decide) (by decide) ?_
      rfl
    · refine ow_getS X_52 60 63 rfl rfl S_xS at_57 rfl ?_
      intro T_59 X_59
      refine ow_goto X_59 66 at_60 rfl ?_
      refine ow_astore X_59 68 (L' := #[.val (.int p1), .val (.int p2), .val (.int p3), .val (.int p4), .val (.int p5), .val (.int ag), .val (.int (p2 &&& (2147483647 : Int32))), .val (.int (p3 &&& (2147483647 : Int32))), .val (.int kq), .val (.ref xD), .val (.ref xS), .unset, .unset, .unset]) at_66 rfl rfl rfl ?_
      refine ow_new X_59 71 11 12 13 rfl rfl rfl rfl at_68 rfl (by decide) (by decide) ?_
      intro T_60 h_60 a_60 q_60 X_60 E_60 A_60 D_60 g_60
      have ne_xO_a_60 : xO ≠ a_60 := by rw [q_60]; exact Nat.ne_of_lt E_xO.lt
      have ne_xM_a_60 : xM ≠ a_60 := by rw [q_60]; exact Nat.ne_of_lt E_xM.lt
      have ne_xD_a_60 : xD ≠ a_60 := by rw [q_60]; exact Nat.ne_of_lt E_xD.lt
      have ne_xS_a_60 : xS ≠ a_60 := by rw [q_60]; exact Nat.ne_of_lt E_xS.lt
      have f61_0 : Sta Z h_60 "com/example/muster/muster/model/Coalitions" "OVERLAPPING" "Lcom/example/muster/muster/model/Coalitions;" (.ref xO) := Sta.ext E_60 S_xO
      have f61_1 : Sta Z h_60 "com/example/muster/muster/model/Objective" "MINIMAX" "Lcom/example/muster/muster/model/Objective;" (.ref xM) := Sta.ext E_60 S_xM
      have f61_2 : Sta Z h_60 "com/example/muster/muster/model/Coalitions" "DISJOINT" "Lcom/example/muster/muster/model/Coalitions;" (.ref xD) := Sta.ext E_60 S_xD
      have f61_3 : Sta Z h_60 "com/example/muster/muster/model/Objective" "MINISUM" "Lcom/example/muster/muster/model/Objective;" (.ref xS) := Sta.ext E_60 S_xS
      have f61_4 : Exa Z h_60 xO "com/example/muster/muster/model/Coalitions" := Exa.ext E_60 E_xO
      have f61_5 : Exa Z h_60 xM "com/example/muster/muster/model/Objective" := Exa.ext E_60 E_xM
      have f61_6 : Exa Z h_60 xD "com/example/muster/muster/model/Coalitions" := Exa.ext E_60 E_xD
      have f61_7 : Exa Z h_60 xS "com/example/muster/muster/model/Objective" := Exa.ext E_60 E_xS
      have R_60 : SET Z h_60 a_60 (.int (0 : Int32)) (.int (0 : Int32)) (.int (0 : Int32)) (.int (0 : Int32)) .null .null := ⟨A_60, D_60 (Or.inr (oSt_at X_60 32 rfl)) (ty := .int) (by decide), D_60 (Or.inr (oSt_at X_60 35 rfl)) (ty := .int) (by decide), D_60 (Or.inr (oSt_at X_60 38 rfl)) (ty := .int) (by decide), D_60 (Or.inr (oSt_at X_60 41 rfl)) (ty := .int) (by decide), D_60 (Or.inr (oSt_at X_60 50 rfl)) (ty := (.object "com/example/muster/muster/model/Coalitions")) (by decide), D_60 (Or.inr (oSt_at X_60 55 rfl)) (ty := (.object "com/example/muster/muster/model/Objective")) (by decide)⟩
      refine ow_dup X_60 72 at_71 rfl rfl ?_
      refine ow_iload X_60 74 at_72 rfl rfl ?_
      refine ow_iload X_60 76 at_74 rfl rfl ?_
      refine ow_iload X_60 78 at_76 rfl rfl ?_
      refine ow_iload X_60 80 at_78 rfl rfl ?_
      refine ow_aload X_60 82 at_80 rfl rfl rfl ?_
      refine ow_aload X_60 84 at_82 rfl rfl rfl ?_
      refine ow_callC X_60 87 14 15 13 16 (κ' := k2) (as := [.int ag, .int (p2 &&& (2147483647 : Int32)), .int (p3 &&& (2147483647 : Int32)), .int kq, .ref xD, .ref xS]) (S := [.ref a_60]) (W := 1) rfl rfl rfl rfl rfl rfl rfl (by decide) (C_init (oSt_w X_60) (oSt_n0 X_60) a_60 ag (p2 &&& (2147483647 : Int32)) (p3 &&& (2147483647 : Int32)) kq xD xS R_60 f61_6 f61_7 g_60 hag (own_m _) (own_m _) hkq) (by decide) (by decide) (Nat.le_of_eq rfl) (by decide) (by decide) pd2 rfl rfl rfl at_84 rfl ?_
      intro γ v_62 T_62 h_62 X_62 q_62
      obtain ⟨rfl, K62, R62⟩ := q_62
      have f63_0 : Exa Z h_62 xO "com/example/muster/muster/model/Coalitions" := f61_4.keep K62
      have f63_1 : Exa Z h_62 xM "com/example/muster/muster/model/Objective" := f61_5.keep K62
      have f63_2 : Exa Z h_62 xD "com/example/muster/muster/model/Coalitions" := f61_6.keep K62
      have f63_3 : Exa Z h_62 xS "com/example/muster/muster/model/Objective" := f61_7.keep K62
      show oWP ω γ k0 _ T_62 87 #[.val (.int p1), .val (.int p2), .val (.int p3), .val (.int p4), .val (.int p5), .val (.int ag), .val (.int (p2 &&& (2147483647 : Int32))), .val (.int (p3 &&& (2147483647 : Int32))), .val (.int kq), .val (.ref xD), .val (.ref xS), .unset, .unset, .unset] [.ref a_60]
      refine ow_astore X_62 89 (L' := #[.val (.int p1), .val (.int p2), .val (.int p3), .val (.int p4), .val (.int p5), .val (.int ag), .val (.int (p2 &&& (2147483647 : Int32))), .val (.int (p3 &&& (2147483647 : Int32))), .val (.int kq), .val (.ref xD), .val (.ref xS), .val (.ref a_60), .unset, .unset]) at_87 rfl rfl rfl ?_
      refine ow_iload X_62 91 at_89 rfl rfl ?_
      refine ow_i2l X_62 92 at_91 rfl ?_
      refine ow_lstore X_62 94 (L' := #[.val (.int p1), .val (.int p2), .val (.int p3), .val (.int p4), .val (.int p5), .val (.int ag), .val (.int (p2 &&& (2147483647 : Int32))), .val (.int (p3 &&& (2147483647 : Int32))), .val (.int kq), .val (.ref xD), .val (.ref xS), .val (.ref a_60), .val (.long ((p3 &&& (2147483647 : Int32)).toInt64)), .second]) at_92 rfl rfl ?_
      refine ow_lload X_62 96 at_94 rfl rfl ?_
      refine ow_iload X_62 98 at_96 rfl rfl ?_
      refine ow_i2l X_62 99 at_98 rfl ?_
      refine ow_ladd X_62 100 at_99 rfl ?_
      refine ow_lstore X_62 102 (L' := #[.val (.int p1), .val (.int p2), .val (.int p3), .val (.int p4), .val (.int p5), .val (.int ag), .val (.int (p2 &&& (2147483647 : Int32))), .val (.int (p3 &&& (2147483647 : Int32))), .val (.int kq), .val (.ref xD), .val (.ref xS), .val (.ref a_60), .val (.long (((p3 &&& (2147483647 : Int32)).toInt64) + ((p2 &&& (2147483647 : Int32)).toInt64))), .second]) at_100 rfl rfl ?_
      refine ow_lload X_62 104 at_102 rfl rfl ?_
      refine ow_iload X_62 106 at_104 rfl rfl ?_
      refine ow_i2l X_62 107 at_106 rfl ?_
      refine ow_ladd X_62 108 at_107 rfl ?_
      refine ow_lstore X_62 110 (L' := #[.val (.int p1), .val (.int p2), .val (.int p3), .val (.int p4), .val (.int p5), .val (.int ag), .val (.int (p2 &&& (2147483647 : Int32))), .val (.int (p3 &&& (2147483647 : Int32))), .val (.int kq), .val (.ref xD), .val (.ref xS), .val (.ref a_60), .val (.long ((((p3 &&& (2147483647 : Int32)).toInt64) + ((p2 &&& (2147483647 : Int32)).toInt64)) + ag.toInt64)), .second]) at_108 rfl rfl ?_
      refine ow_aload X_62 112 at_110 rfl rfl rfl ?_
      refine ow_callV X_62 115 56 57 59 58 60 13 (κ' := k6) (as := []) (S := []) (W := 0) rfl rfl rfl rfl rfl rfl rfl (by decide) R62.1 (C_cells (oSt_w X_62) (oSt_n0 X_62) a_60 ag (p2 &&& (2147483647 : Int32)) (p3 &&& (2147483647 : Int32)) kq xD xS R62) (by decide) (by decide) (Nat.le_of_eq rfl) (by decide) (by decide) pd6 rfl rfl rfl at_112 rfl ?_
      intro γ v_64 T_64 h_64 X_64 q_64
      obtain ⟨rfl, rfl⟩ := q_64
      show oWP ω γ k0 _ T_64 115 #[.val (.int p1), .val (.int p2), .val (.int p3), .val (.int p4), .val (.int p5), .val (.int ag), .val (.int (p2 &&& (2147483647 : Int32))), .val (.int (p3 &&& (2147483647 : Int32))), .val (.int kq), .val (.ref xD), .val (.ref xS), .val (.ref a_60), .val (.long ((((p3 &&& (2147483647 : Int32)).toInt64) + ((p2 &&& (2147483647 : Int32)).toInt64)) + ag.toInt64)), .second] [.long (ag.toInt64 + (p2 &&& (2147483647 : Int32)).toInt64 + (p3 &&& (2147483647 : Int32)).toInt64)]
      refine ow_lload X_64 117 at_115 rfl rfl ?_
      refine ow_lcmp_ne X_64 118 121 125 at_117 rfl at_118 rfl rfl (fun (c117 : (ag.toInt64 + (p2 &&& (2147483647 : Int32)).toInt64 + (p3 &&& (2147483647 : Int32)).toInt64).toInt ≠ ((((p3 &&& (2147483647 : Int32)).toInt64) + ((p2 &&& (2147483647 : Int32)).toInt64)) + ag.toInt64).toInt) => absurd (congrArg Int64.toInt (own_c _ _ _)) c117) (fun (c117 : (ag.toInt64 + (p2 &&& (2147483647 : Int32)).toInt64 + (p3 &&& (2147483647 : Int32)).toInt64).toInt = ((((p3 &&& (2147483647 : Int32)).toInt64) + ((p2 &&& (2147483647 : Int32)).toInt64)) + ag.toInt64).toInt) => ?_)
      refine ow_iconst X_64 122 (1 : Int32) at_121 rfl rfl ?_
      refine ow_goto X_64 126 at_122 rfl ?_
      refine ow_retZ X_64 rfl at_126 (by decide) (by decide) (by decide) ?_
      rfl
set_option maxRecDepth 65536 in
set_option maxHeartbeats 4000000 in
theorem comes_1 {Post : Tables → Env → Array Value → State → Outcome → State → Prop} (hpost : ∀ tb e args s v u, (limb_1_1.after args s (.returned v) u = true ∧ limb_1_2.after args s (.returned v) u = true ∧ True) → ReturnedEndW s (.returned v) u (Jvm.fieldLocs frame_1_writes args s ++ Jvm.arrayLocs frame_1_arrays args s ++ Jvm.staticLocs frame_1_statics s) 24 6272 → Post tb e args s (.returned v) u) :
    ArmFor flags0 classFile x code maxLocals ret World_1 tables_1 room_1 Calls_1 rest_1 Pre_1 Post := by
  intro l hfl _ _ p e ha hc hk s m args below hf hA hF happ hP
  obtain ⟨hcalls, hrest, hpre⟩ := hP
  obtain ⟨-, -, -, hnamed, -, -, -, hat⟩ := (Spec.applies_iff hf).mp happ
  obtain ⟨hg, hn⟩ := and_e (Cond.before_iff.mp (show (Jvm.Cond.and given_1 narrow_1).before args s = true from hpre))
  obtain ⟨hcount, hg0⟩ := and_e hg
  obtain ⟨ha0, hg1⟩ := and_e hg0
  obtain ⟨ha1, hg2⟩ := and_e hg1
  obtain ⟨ha2, hg3⟩ := and_e hg2
  obtain ⟨ha3, hg4⟩ := and_e hg3
  have ha4 := hg4
  obtain ⟨w0, w1, w2, w3, w4, rfl⟩ : ∃ w0 w1 w2 w3 w4 : Value, args = #[w0, w1, w2, w3, w4] := by
    have hs : args.size = 5 := by simpa [Cond.value, given_1] using hcount
    obtain ⟨L⟩ := args
    match L, hs with
    | [w0, w1, w2, w3, w4], _ => exact ⟨w0, w1, w2, w3, w4, rfl⟩
  have hw := fun d (hd : d ∈ tables_1) => atoms_spec (ws := Jvm.Cond.code x code maxLocals ret :: tables_1) hat d (List.mem_cons_of_mem _ hd)
  have hfit : Fit s := fun {y c} hc i hi => by
    obtain ⟨ha, rfl⟩ := Array.getElem?_eq_some_iff.mp hc
    have q := List.all_eq_true.mp ((Array.all_eq_true_iff_forall_mem.mp hF) _ (Array.getElem_mem ha)) i (List.mem_range.mpr hi)
    simpa [Array.getElem?_eq_getElem hi] using q
  obtain ⟨i0, e0⟩ := is_v ha0
  obtain rfl : w0 = (.int i0) := Option.some.inj e0
  obtain ⟨i1, e1⟩ := is_v ha1
  obtain rfl : w1 = (.int i1) := Option.some.inj e1
  obtain ⟨i2, e2⟩ := is_v ha2
  obtain rfl : w2 = (.int i2) := Option.some.inj e2
  obtain ⟨i3, e3⟩ := is_v ha3
  obtain rfl : w3 = (.int i3) := Option.some.inj e3
  obtain ⟨i4, e4⟩ := is_v ha4
  obtain rfl : w4 = (.int i4) := Option.some.inj e4
  obtain ⟨h_xO, hn0⟩ := and_e hn
  obtain ⟨h_xM, hn1⟩ := and_e hn0
  obtain ⟨h_xD, hn2⟩ := and_e hn1
  have h_xS := hn2
  obtain ⟨xO, v_xO⟩ := exa_v h_xO
  have E_xO := Exa.start v_xO h_xO
  have S_xO : Sta s s.heap "com/example/muster/muster/model/Coalitions" "OVERLAPPING" "Lcom/example/muster/muster/model/Coalitions;" (.ref xO) := Sta.start v_xO (Or.inr ⟨hw _ (List.mem_of_getElem? (i := 6) rfl), hw _ (List.mem_of_getElem? (i := 7) rfl)⟩)
  obtain ⟨xM, v_xM⟩ := exa_v h_xM
  have E_xM := Exa.start v_xM h_xM
  have S_xM : Sta s s.heap "com/example/muster/muster/model/Objective" "MINIMAX" "Lcom/example/muster/muster/model/Objective;" (.ref xM) := Sta.start v_xM (Or.inr ⟨hw _ (List.mem_of_getElem? (i := 9) rfl), hw _ (List.mem_of_getElem? (i := 10) rfl)⟩)
  obtain ⟨xD, v_xD⟩ := exa_v h_xD
  have E_xD := Exa.start v_xD h_xD
  have S_xD : Sta s s.heap "com/example/muster/muster/model/Coalitions" "DISJOINT" "Lcom/example/muster/muster/model/Coalitions;" (.ref xD) := Sta.start v_xD (Or.inr ⟨hw _ (List.mem_of_getElem? (i := 6) rfl), hw _ (List.mem_of_getElem? (i := 62) rfl)⟩)
  obtain ⟨xS, v_xS⟩ := exa_v h_xS
  have E_xS := Exa.start v_xS h_xS
  have S_xS : Sta s s.heap "com/example/muster/muster/model/Objective" "MINISUM" "Lcom/example/muster/muster/model/Objective;" (.ref xS) := Sta.start v_xS (Or.inr ⟨hw _ (List.mem_of_getElem? (i := 9) rfl), hw _ (List.mem_of_getElem? (i := 64) rfl)⟩)
  obtain ⟨n, o, h1, h2, h3, _, L, rfl, ⟨N, rfl⟩, hq⟩ := C_law (Z := s) (ω := (l, s.heap.size, _)) hw (Nat.le_refl _) i0 i1 i2 i3 i4 xO xM xD xS S_xO S_xM S_xD S_xS E_xO E_xM E_xD E_xS p e ha hc hk s m _ below hf ((Spec.applies_iff_loose hf).mp happ).1 ⟨rfl, State.Warmed39.refl s, rfl⟩ trivial
  refine ⟨n, _, h1, h2, h3, hpost _ _ _ _ _ _ ⟨Cond.after_iff.mpr rfl, Cond.after_iff.mpr (eq_i res_at (Term.int_eval (1)) rfl), trivial⟩ ⟨hq.1, hq.2.1, hq.2.2.1, (hq.2.2.2.sift fun y hy => Or.inr (N y hy)).mono (by decide) (by decide)⟩⟩
theorem main_1_1 : Claimed_1_1 := comes_1 fun _ _ _ _ _ _ h hF => ⟨h.1, hF⟩
theorem main_1_2 : Claimed_1_2 := comes_1 fun _ _ _ _ _ _ h hF => ⟨h.2.1, hF⟩
end Jvm.Pilot.@@N@@
namespace Jvm.Pilot.@@N@@
open Jvm Jvm.ClassFile Sem Op Lib Jvm.Free Jvm.Stand Jvm.Pilot.@@N@@.Jvm.D
/-! MADE BY PROGRAM (witnessworld.py) out of the Statement's table words and the real class files: 19 classes; the members and pool entries that the words name. The judged class is class 1, her method 1. -/
namespace start1
open Jvm.ClassFile
def u (s : String) : CpInfo := .utf8 (stringToUtf16 s)
/-- a pool by its gaps: so many unusable entries, then the entry; so many at the end -/
def gap : Nat → List CpInfo → List CpInfo
  | 0, r => r
  | n + 1, r => .unusable :: gap n r
def poolList (es : List (Nat × CpInfo)) (last : Nat) : List CpInfo := es.foldr (fun e r => gap e.1 (e.2 :: r)) (gap last [])
def pool (es : List (Nat × CpInfo)) (last : Nat) : Array CpInfo := ⟨poolList es last⟩
def fileOf (pool : Array CpInfo) (this : Nat) (attrs : Array Attribute := #[]) (ms : Array MethodInfo := #[]) (fl : Nat := 33) (sup : Nat := 0) (ifs : Array Nat := #[]) (fds : Array FieldInfo := #[]) : ClassFile where
  minorVersion := 0
  majorVersion := 65
  constantPool := pool
  accessFlags := fl
  thisClass := this
  superClass := sup
  interfaces := ifs
  fields := fds
  methods := ms
  attributes := attrs
def plain (name : String) (sup : Option ClassId) : Class where
  name := name
  kind := .ordinary
  loader := none
  accessFlags := 33
  super := sup
  interfaces := #[]
  cf := none
  fields := #[]
  methods := #[]
  instanceTypes := #[]
  staticTypes := #[]
  resolved := #[]
  callSites := []
  init := .initialized
  statics := none
  mirror := none

def pool0 : Array CpInfo := pool [(5, u "<init>"), (0, u "()V"), (1, .class_ 10), (1, u "java/lang/Object")] 113

def k0c0 : Code := { maxStack := 0, maxLocals := 1, code := object_method_1_code, exceptionTable := #[], attributes := #[] }
def k0m0 : Method := { name := "<init>", desc := "()V", sig := { parameters := [], returnType := none }, accessFlags := 1, code := some k0c0 }
/-- java/lang/Object -/
def k0 : Class := { plain "java/lang/Object" none with
  accessFlags := 33
  interfaces := #[]
  cf := some (fileOf pool0 8 #[] #[{ accessFlags := 1, nameIndex := 5, descriptorIndex := 6, attributes := #[] }] 33 0 #[] #[])
  fields := #[]
  methods := #[k0m0]
  instanceTypes := #[]
  staticTypes := #[]
  resolved := Array.replicate 124 none
  statics := none }

def pool1 : Array CpInfo := pool [(2, .class_ 4), (1, u "java/lang/Object"), (0, u "<init>"), (0, u "()V"), (0, .integer 2147483647), (0, .methodref 9 10), (0, .class_ 11), (0, .nameAndType 12 13), (0, u "java/lang/Math"), (0, u "max"), (0, u "(II)I"), (0, .fieldref 15 16), (0, .class_ 17), (0, .nameAndType 18 19), (0, u "com/example/muster/muster/model/Coalitions"), (0, u "DISJOINT"), (0, u "Lcom/example/muster/muster/model/Coalitions;"), (0, .fieldref 15 21), (0, .nameAndType 22 19), (0, u "OVERLAPPING"), (0, .fieldref 24 25), (0, .class_ 26), (0, .nameAndType 27 28), (0, u "com/example/muster/muster/model/Objective"), (0, u "MINISUM"), (0, u "Lcom/example/muster/muster/model/Objective;"), (0, .fieldref 24 30), (0, .nameAndType 31 28), (0, u "MINIMAX"), (0, .class_ 33), (0, u "com/example/muster/muster/bench/Setting"), (0, .methodref 32 35), (0, .nameAndType 5 36), (0, u "(IIIILcom/example/muster/muster/model/Coalitions;Lcom/example/muster/muster/model/Objective;)V"), (0, .methodref 32 38), (0, .nameAndType 39 40), (0, u "cells"), (0, u "()J"), (0, .class_ 42), (0, u "com/example/muster/muster/bench/SettingCellsPinLaw"), (2, u "law"), (0, u "(IIIII)Z")] 3

def k1m0 : Method := { name := "<init>", desc := "()V", sig := { parameters := [], returnType := none }, accessFlags := 2, code := none }
def k1c1 : Code := { maxStack := 8, maxLocals := 14, code := code, exceptionTable := #[], attributes := #[] }
def k1m1 : Method := { name := "law", desc := "(IIIII)Z", sig := { parameters := [.int, .int, .int, .int, .int], returnType := some .boolean }, accessFlags := 9, code := some k1c1 }
/-- com/example/muster/muster/bench/SettingCellsPinLaw -/
def k1 : Class := { plain "com/example/muster/muster/bench/SettingCellsPinLaw" (some 0) with
  accessFlags := 49
  interfaces := #[]
  cf := some (fileOf pool1 41 #[] #[{ accessFlags := 2, nameIndex := 5, descriptorIndex := 6, attributes := #[] }, { accessFlags := 9, nameIndex := 45, descriptorIndex := 46, attributes := #[] }] 49 2 #[] #[])
  fields := #[]
  methods := #[k1m0, k1m1]
  instanceTypes := #[]
  staticTypes := #[]
  resolved := Array.replicate 50 none
  statics := none }

def pool2 : Array CpInfo := pool [(1, .class_ 2), (0, u "java/lang/Math"), (1, .class_ 6), (1, u "java/lang/Object"), (0, u "<init>"), (0, u "()V"), (89, .class_ 100), (1, u "java/lang/Math$RandomNumberGeneratorHolder"), (71, u "negativeZeroFloatBits"), (0, u "J"), (2, u "negativeZeroDoubleBits"), (21, u "max"), (46, u "$assertionsDisabled"), (0, u "Z"), (88, u "(II)I"), (2, u "twoToTheDoubleScaleDown"), (0, u "D"), (4, u "twoToTheDoubleScaleUp"), (9, u "E"), (3, u "PI"), (2, u "TAU"), (2, u "DEGREES_TO_RADIANS"), (0, u "RADIANS_TO_DEGREES")] 94

def k2m0 : Method := { name := "<init>", desc := "()V", sig := { parameters := [], returnType := none }, accessFlags := 2, code := none }
def k2c1 : Code := { maxStack := 2, maxLocals := 2, code := jdk_29_method_65_code, exceptionTable := #[], attributes := #[] }
def k2m1 : Method := { name := "max", desc := "(II)I", sig := { parameters := [.int, .int], returnType := some .int }, accessFlags := 9, code := some k2c1 }
/-- java/lang/Math -/
def k2 : Class := { plain "java/lang/Math" (some 0) with
  accessFlags := 49
  interfaces := #[]
  cf := some (fileOf pool2 1 #[.nestMembers #[98]] #[{ accessFlags := 2, nameIndex := 7, descriptorIndex := 8, attributes := #[] }, { accessFlags := 9, nameIndex := 198, descriptorIndex := 335, attributes := #[] }] 49 4 #[] #[{ accessFlags := 25, nameIndex := 354, descriptorIndex := 339, attributes := #[] }, { accessFlags := 25, nameIndex := 358, descriptorIndex := 339, attributes := #[] }, { accessFlags := 25, nameIndex := 361, descriptorIndex := 339, attributes := #[] }, { accessFlags := 26, nameIndex := 364, descriptorIndex := 339, attributes := #[] }, { accessFlags := 26, nameIndex := 365, descriptorIndex := 339, attributes := #[] }, { accessFlags := 26, nameIndex := 172, descriptorIndex := 173, attributes := #[] }, { accessFlags := 26, nameIndex := 176, descriptorIndex := 173, attributes := #[] }, { accessFlags := 8, nameIndex := 344, descriptorIndex := 339, attributes := #[] }, { accessFlags := 8, nameIndex := 338, descriptorIndex := 339, attributes := #[] }, { accessFlags := 4120, nameIndex := 245, descriptorIndex := 246, attributes := #[] }])
  fields := #[{ name := "E", type := .double, accessFlags := 25, slot := 0, constantValue := 0 }, { name := "PI", type := .double, accessFlags := 25, slot := 1, constantValue := 0 }, { name := "TAU", type := .double, accessFlags := 25, slot := 2, constantValue := 0 }, { name := "DEGREES_TO_RADIANS", type := .double, accessFlags := 26, slot := 3, constantValue := 0 }, { name := "RADIANS_TO_DEGREES", type := .double, accessFlags := 26, slot := 4, constantValue := 0 }, { name := "negativeZeroFloatBits", type := .long, accessFlags := 26, slot := 5, constantValue := 0 }, { name := "negativeZeroDoubleBits", type := .long, accessFlags := 26, slot := 6, constantValue := 0 }, { name := "twoToTheDoubleScaleUp", type := .double, accessFlags := 8, slot := 7, constantValue := 0 }, { name := "twoToTheDoubleScaleDown", type := .double, accessFlags := 8, slot := 8, constantValue := 0 }, { name := "$assertionsDisabled", type := .boolean, accessFlags := 4120, slot := 9, constantValue := 0 }]
  methods := #[k2m0, k2m1]
  instanceTypes := #[]
  staticTypes := #[.double, .double, .double, .double, .double, .long, .long, .double, .double, .boolean]
  resolved := Array.replicate 460 none
  statics := none }

def pool3 : Array CpInfo := pool [(1, .class_ 2), (0, u "java/lang/constant/Constable"), (0, .class_ 4), (0, u "java/lang/Object")] 6

/-- java/lang/constant/Constable -/
def k3 : Class := { plain "java/lang/constant/Constable" (some 0) with
  accessFlags := 1537
  interfaces := #[]
  cf := some (fileOf pool3 1 #[] #[] 1537 3 #[] #[])
  fields := #[]
  methods := #[]
  instanceTypes := #[]
  staticTypes := #[]
  resolved := Array.replicate 11 none
  statics := none }

def pool4 : Array CpInfo := pool [(1, .class_ 2), (0, u "java/lang/Comparable"), (0, .class_ 4), (0, u "java/lang/Object")] 7

/-- java/lang/Comparable -/
def k4 : Class := { plain "java/lang/Comparable" (some 0) with
  accessFlags := 1537
  interfaces := #[]
  cf := some (fileOf pool4 1 #[] #[] 1537 3 #[] #[])
  fields := #[]
  methods := #[]
  instanceTypes := #[]
  staticTypes := #[]
  resolved := Array.replicate 12 none
  statics := none }

def pool5 : Array CpInfo := pool [(1, .class_ 2), (0, u "java/io/Serializable"), (0, .class_ 4), (0, u "java/lang/Object")] 2

/-- java/io/Serializable -/
def k5 : Class := { plain "java/io/Serializable" (some 0) with
  accessFlags := 1537
  interfaces := #[]
  cf := some (fileOf pool5 1 #[] #[] 1537 3 #[] #[])
  fields := #[]
  methods := #[]
  instanceTypes := #[]
  staticTypes := #[]
  resolved := Array.replicate 7 none
  statics := none }

def pool6 : Array CpInfo := pool [(2, .class_ 4), (1, u "java/lang/Enum"), (0, u "name"), (0, u "Ljava/lang/String;"), (2, u "ordinal"), (0, u "I"), (1, .class_ 14), (1, u "java/lang/Object"), (4, u "hash"), (86, .class_ 108), (1, u "java/lang/Enum$EnumDesc"), (2, .class_ 112), (0, u "java/lang/constant/Constable"), (0, .class_ 114), (0, u "java/lang/Comparable"), (0, .class_ 116), (0, u "java/io/Serializable")] 87

/-- java/lang/Enum -/
def k6 : Class := { plain "java/lang/Enum" (some 0) with
  accessFlags := 1057
  interfaces := #[3, 4, 5]
  cf := some (fileOf pool6 2 #[.nestMembers #[106]] #[] 1057 12 #[111, 113, 115] #[{ accessFlags := 18, nameIndex := 5, descriptorIndex := 6, attributes := #[] }, { accessFlags := 18, nameIndex := 9, descriptorIndex := 10, attributes := #[] }, { accessFlags := 2, nameIndex := 19, descriptorIndex := 10, attributes := #[] }])
  fields := #[{ name := "name", type := (.object "java/lang/String"), accessFlags := 18, slot := 0, constantValue := 0 }, { name := "ordinal", type := .int, accessFlags := 18, slot := 1, constantValue := 0 }, { name := "hash", type := .int, accessFlags := 2, slot := 2, constantValue := 0 }]
  methods := #[]
  instanceTypes := #[(.object "java/lang/String"), .int, .int]
  staticTypes := #[]
  resolved := Array.replicate 204 none
  statics := none }

def pool7 : Array CpInfo := pool [(1, .class_ 2), (0, u "com/example/muster/muster/model/Coalitions"), (2, u "DISJOINT"), (0, u "Lcom/example/muster/muster/model/Coalitions;"), (2, u "OVERLAPPING"), (2, u "$VALUES"), (0, u "[Lcom/example/muster/muster/model/Coalitions;"), (6, .class_ 22), (1, u "java/lang/Enum"), (8, u "word"), (0, u "Ljava/lang/String;")] 27

/-- com/example/muster/muster/model/Coalitions -/
def k7 : Class := { plain "com/example/muster/muster/model/Coalitions" (some 6) with
  accessFlags := 16433
  interfaces := #[]
  cf := some (fileOf pool7 1 #[] #[] 16433 20 #[] #[{ accessFlags := 16409, nameIndex := 5, descriptorIndex := 6, attributes := #[] }, { accessFlags := 16409, nameIndex := 9, descriptorIndex := 6, attributes := #[] }, { accessFlags := 18, nameIndex := 31, descriptorIndex := 32, attributes := #[] }, { accessFlags := 4122, nameIndex := 12, descriptorIndex := 13, attributes := #[] }])
  fields := #[{ name := "DISJOINT", type := (.object "com/example/muster/muster/model/Coalitions"), accessFlags := 16409, slot := 0, constantValue := 0 }, { name := "OVERLAPPING", type := (.object "com/example/muster/muster/model/Coalitions"), accessFlags := 16409, slot := 1, constantValue := 0 }, { name := "word", type := (.object "java/lang/String"), accessFlags := 18, slot := 3, constantValue := 0 }, { name := "$VALUES", type := (.array (.object "com/example/muster/muster/model/Coalitions")), accessFlags := 4122, slot := 2, constantValue := 0 }]
  methods := #[]
  instanceTypes := #[(.object "java/lang/String"), .int, .int, (.object "java/lang/String")]
  staticTypes := #[(.object "com/example/muster/muster/model/Coalitions"), (.object "com/example/muster/muster/model/Coalitions"), (.array (.object "com/example/muster/muster/model/Coalitions"))]
  resolved := Array.replicate 60 none
  statics := some 0 }

def pool8 : Array CpInfo := pool [(1, .class_ 2), (0, u "com/example/muster/muster/model/Objective"), (2, u "MINISUM"), (0, u "Lcom/example/muster/muster/model/Objective;"), (2, u "MINIMAX"), (2, u "$VALUES"), (0, u "[Lcom/example/muster/muster/model/Objective;"), (6, .class_ 22), (1, u "java/lang/Enum"), (8, u "word"), (0, u "Ljava/lang/String;")] 27

/-- com/example/muster/muster/model/Objective -/
def k8 : Class := { plain "com/example/muster/muster/model/Objective" (some 6) with
  accessFlags := 16433
  interfaces := #[]
  cf := some (fileOf pool8 1 #[] #[] 16433 20 #[] #[{ accessFlags := 16409, nameIndex := 5, descriptorIndex := 6, attributes := #[] }, { accessFlags := 16409, nameIndex := 9, descriptorIndex := 6, attributes := #[] }, { accessFlags := 18, nameIndex := 31, descriptorIndex := 32, attributes := #[] }, { accessFlags := 4122, nameIndex := 12, descriptorIndex := 13, attributes := #[] }])
  fields := #[{ name := "MINISUM", type := (.object "com/example/muster/muster/model/Objective"), accessFlags := 16409, slot := 0, constantValue := 0 }, { name := "MINIMAX", type := (.object "com/example/muster/muster/model/Objective"), accessFlags := 16409, slot := 1, constantValue := 0 }, { name := "word", type := (.object "java/lang/String"), accessFlags := 18, slot := 3, constantValue := 0 }, { name := "$VALUES", type := (.array (.object "com/example/muster/muster/model/Objective")), accessFlags := 4122, slot := 2, constantValue := 0 }]
  methods := #[]
  instanceTypes := #[(.object "java/lang/String"), .int, .int, (.object "java/lang/String")]
  staticTypes := #[(.object "com/example/muster/muster/model/Objective"), (.object "com/example/muster/muster/model/Objective"), (.array (.object "com/example/muster/muster/model/Objective"))]
  resolved := Array.replicate 60 none
  statics := some 1 }

def pool9 : Array CpInfo := pool [(1, .methodref 2 3), (0, .class_ 4), (0, .nameAndType 5 6), (0, u "java/lang/Object"), (0, u "<init>"), (0, u "()V"), (0, .string 8), (0, u "agents"), (0, .methodref 10 11), (0, .class_ 12), (0, .nameAndType 13 14), (0, u "com/example/muster/muster/bench/Setting"), (0, u "atLeast"), (0, u "(Ljava/lang/String;II)I"), (0, .fieldref 10 16), (0, .nameAndType 8 17), (0, u "I"), (0, .string 19), (0, u "simple"), (0, .fieldref 10 21), (0, .nameAndType 19 17), (0, .string 23), (0, u "complex"), (0, .fieldref 10 25), (0, .nameAndType 23 17), (0, .string 27), (0, u "coalition"), (0, .fieldref 10 29), (0, .nameAndType 27 17), (0, .string 31), (0, u "coalitions"), (0, .methodref 33 34), (0, .class_ 35), (0, .nameAndType 36 37), (0, u "java/util/Objects"), (0, u "requireNonNull"), (0, u "(Ljava/lang/Object;Ljava/lang/String;)Ljava/lang/Object;"), (0, .class_ 39), (0, u "com/example/muster/muster/model/Coalitions"), (0, .fieldref 10 41), (0, .nameAndType 31 42), (0, u "Lcom/example/muster/muster/model/Coalitions;"), (0, .string 44), (0, u "objective"), (0, .class_ 46), (0, u "com/example/muster/muster/model/Objective"), (0, .fieldref 10 48), (0, .nameAndType 44 49), (0, u "Lcom/example/muster/muster/model/Objective;"), (29, u "(IIIILcom/example/muster/muster/model/Coalitions;Lcom/example/muster/muster/model/Objective;)V"), (6, u "cells"), (0, u "()J")] 19

def k9c0 : Code := { maxStack := 4, maxLocals := 7, code := prog_5_method_1_code, exceptionTable := #[], attributes := #[] }
def k9m0 : Method := { name := "<init>", desc := "(IIIILcom/example/muster/muster/model/Coalitions;Lcom/example/muster/muster/model/Objective;)V", sig := { parameters := [.int, .int, .int, .int, (.object "com/example/muster/muster/model/Coalitions"), (.object "com/example/muster/muster/model/Objective")], returnType := none }, accessFlags := 1, code := some k9c0 }
def k9c1 : Code := { maxStack := 5, maxLocals := 3, code := prog_5_method_2_code, exceptionTable := #[], attributes := #[] }
def k9m1 : Method := { name := "atLeast", desc := "(Ljava/lang/String;II)I", sig := { parameters := [(.object "java/lang/String"), .int, .int], returnType := some .int }, accessFlags := 10, code := some k9c1 }
def k9c2 : Code := { maxStack := 4, maxLocals := 1, code := prog_5_method_9_code, exceptionTable := #[], attributes := #[] }
def k9m2 : Method := { name := "cells", desc := "()J", sig := { parameters := [], returnType := some .long }, accessFlags := 1, code := some k9c2 }
/-- com/example/muster/muster/bench/Setting -/
def k9 : Class := { plain "com/example/muster/muster/bench/Setting" (some 0) with
  accessFlags := 49
  interfaces := #[]
  cf := some (fileOf pool9 10 #[] #[{ accessFlags := 1, nameIndex := 5, descriptorIndex := 79, attributes := #[] }, { accessFlags := 10, nameIndex := 13, descriptorIndex := 14, attributes := #[] }, { accessFlags := 1, nameIndex := 86, descriptorIndex := 87, attributes := #[] }] 49 2 #[] #[{ accessFlags := 18, nameIndex := 8, descriptorIndex := 17, attributes := #[] }, { accessFlags := 18, nameIndex := 19, descriptorIndex := 17, attributes := #[] }, { accessFlags := 18, nameIndex := 23, descriptorIndex := 17, attributes := #[] }, { accessFlags := 18, nameIndex := 27, descriptorIndex := 17, attributes := #[] }, { accessFlags := 18, nameIndex := 31, descriptorIndex := 42, attributes := #[] }, { accessFlags := 18, nameIndex := 44, descriptorIndex := 49, attributes := #[] }])
  fields := #[{ name := "agents", type := .int, accessFlags := 18, slot := 0, constantValue := 0 }, { name := "simple", type := .int, accessFlags := 18, slot := 1, constantValue := 0 }, { name := "complex", type := .int, accessFlags := 18, slot := 2, constantValue := 0 }, { name := "coalition", type := .int, accessFlags := 18, slot := 3, constantValue := 0 }, { name := "coalitions", type := (.object "com/example/muster/muster/model/Coalitions"), accessFlags := 18, slot := 4, constantValue := 0 }, { name := "objective", type := (.object "com/example/muster/muster/model/Objective"), accessFlags := 18, slot := 5, constantValue := 0 }]
  methods := #[k9m0, k9m1, k9m2]
  instanceTypes := #[.int, .int, .int, .int, (.object "com/example/muster/muster/model/Coalitions"), (.object "com/example/muster/muster/model/Objective")]
  staticTypes := #[]
  resolved := Array.replicate 107 none
  statics := none }

def pool10 : Array CpInfo := pool [(2, .class_ 4), (1, u "java/lang/CharSequence"), (42, .class_ 48), (0, u "java/lang/CharSequence$1CodePointIterator"), (10, .class_ 60), (0, u "java/lang/CharSequence$1CharIterator"), (5, .class_ 67), (0, u "java/lang/Object")] 63

/-- java/lang/CharSequence -/
def k10 : Class := { plain "java/lang/CharSequence" (some 0) with
  accessFlags := 1537
  interfaces := #[]
  cf := some (fileOf pool10 2 #[.nestMembers #[47, 59]] #[] 1537 66 #[] #[])
  fields := #[]
  methods := #[]
  instanceTypes := #[]
  staticTypes := #[]
  resolved := Array.replicate 131 none
  statics := none }

def pool11 : Array CpInfo := pool [(1, .class_ 2), (0, u "java/lang/constant/ConstantDesc"), (0, .class_ 4), (0, u "java/lang/Object")] 32

/-- java/lang/constant/ConstantDesc -/
def k11 : Class := { plain "java/lang/constant/ConstantDesc" (some 0) with
  accessFlags := 1537
  interfaces := #[]
  cf := some (fileOf pool11 1 #[] #[] 1537 3 #[] #[])
  fields := #[]
  methods := #[]
  instanceTypes := #[]
  staticTypes := #[]
  resolved := Array.replicate 37 none
  statics := none }

def pool12 : Array CpInfo := pool [(2, .class_ 4), (1, u "java/lang/Object"), (0, u "<init>"), (0, u "()V"), (3, .class_ 12), (1, u "java/lang/String"), (0, u "value"), (0, u "[B"), (2, u "coder"), (0, u "B"), (2, u "hash"), (0, u "I"), (2, u "hashIsZero"), (0, u "Z"), (13, u "COMPACT_STRINGS"), (534, .class_ 576), (0, u "java/lang/CharSequence"), (22, u "CASE_INSENSITIVE_ORDER"), (0, u "Ljava/util/Comparator;"), (500, u "serialPersistentFields"), (0, u "[Ljava/io/ObjectStreamField;"), (0, .class_ 1104), (0, u "java/lang/String$CaseInsensitiveComparator"), (1, .class_ 1107), (0, u "java/io/Serializable"), (0, .class_ 1109), (0, u "java/lang/Comparable"), (0, .class_ 1111), (0, u "java/lang/constant/Constable"), (0, .class_ 1113), (0, u "java/lang/constant/ConstantDesc"), (2, u "serialVersionUID"), (0, u "J"), (3, u "REPL"), (0, u "C"), (2, u "LATIN1"), (1, u "UTF16")] 323

def k12m0 : Method := { name := "<init>", desc := "()V", sig := { parameters := [], returnType := none }, accessFlags := 1, code := none }
/-- java/lang/String -/
def k12 : Class := { plain "java/lang/String" (some 0) with
  accessFlags := 49
  interfaces := #[5, 4, 10, 3, 11]
  cf := some (fileOf pool12 10 #[.nestMembers #[1103]] #[{ accessFlags := 1, nameIndex := 5, descriptorIndex := 6, attributes := #[] }] 49 2 #[1106, 1108, 575, 1110, 1112] #[{ accessFlags := 18, nameIndex := 13, descriptorIndex := 14, attributes := #[] }, { accessFlags := 18, nameIndex := 17, descriptorIndex := 18, attributes := #[] }, { accessFlags := 2, nameIndex := 21, descriptorIndex := 22, attributes := #[] }, { accessFlags := 2, nameIndex := 25, descriptorIndex := 26, attributes := #[] }, { accessFlags := 26, nameIndex := 1116, descriptorIndex := 1117, attributes := #[] }, { accessFlags := 24, nameIndex := 40, descriptorIndex := 26, attributes := #[] }, { accessFlags := 26, nameIndex := 1101, descriptorIndex := 1102, attributes := #[] }, { accessFlags := 26, nameIndex := 1121, descriptorIndex := 1122, attributes := #[] }, { accessFlags := 25, nameIndex := 599, descriptorIndex := 600, attributes := #[] }, { accessFlags := 24, nameIndex := 1125, descriptorIndex := 18, attributes := #[] }, { accessFlags := 24, nameIndex := 1127, descriptorIndex := 18, attributes := #[] }])
  fields := #[{ name := "value", type := (.array .byte), accessFlags := 18, slot := 0, constantValue := 0 }, { name := "coder", type := .byte, accessFlags := 18, slot := 1, constantValue := 0 }, { name := "hash", type := .int, accessFlags := 2, slot := 2, constantValue := 0 }, { name := "hashIsZero", type := .boolean, accessFlags := 2, slot := 3, constantValue := 0 }, { name := "serialVersionUID", type := .long, accessFlags := 26, slot := 0, constantValue := 0 }, { name := "COMPACT_STRINGS", type := .boolean, accessFlags := 24, slot := 1, constantValue := 0 }, { name := "serialPersistentFields", type := (.array (.object "java/io/ObjectStreamField")), accessFlags := 26, slot := 2, constantValue := 0 }, { name := "REPL", type := .char, accessFlags := 26, slot := 3, constantValue := 0 }, { name := "CASE_INSENSITIVE_ORDER", type := (.object "java/util/Comparator"), accessFlags := 25, slot := 4, constantValue := 0 }, { name := "LATIN1", type := .byte, accessFlags := 24, slot := 5, constantValue := 0 }, { name := "UTF16", type := .byte, accessFlags := 24, slot := 6, constantValue := 0 }]
  methods := #[k12m0]
  instanceTypes := #[(.array .byte), .byte, .int, .boolean]
  staticTypes := #[.long, .boolean, (.array (.object "java/io/ObjectStreamField")), .char, (.object "java/util/Comparator"), .byte, .byte]
  resolved := Array.replicate 1451 none
  statics := none }

def pool13 : Array CpInfo := pool [(2, .class_ 4), (1, u "java/lang/Object"), (0, u "<init>"), (0, u "()V"), (35, .class_ 44), (1, u "java/util/Objects"), (0, u "requireNonNull"), (48, u "(Ljava/lang/Object;Ljava/lang/String;)Ljava/lang/Object;")] 89

def k13m0 : Method := { name := "<init>", desc := "()V", sig := { parameters := [], returnType := none }, accessFlags := 2, code := none }
def k13c1 : Code := { maxStack := 3, maxLocals := 2, code := jdk_31_method_11_code, exceptionTable := #[], attributes := #[] }
def k13m1 : Method := { name := "requireNonNull", desc := "(Ljava/lang/Object;Ljava/lang/String;)Ljava/lang/Object;", sig := { parameters := [(.object "java/lang/Object"), (.object "java/lang/String")], returnType := some (.object "java/lang/Object") }, accessFlags := 9, code := some k13c1 }
/-- java/util/Objects -/
def k13 : Class := { plain "java/util/Objects" (some 0) with
  accessFlags := 49
  interfaces := #[]
  cf := some (fileOf pool13 42 #[] #[{ accessFlags := 2, nameIndex := 5, descriptorIndex := 6, attributes := #[] }, { accessFlags := 9, nameIndex := 45, descriptorIndex := 94, attributes := #[] }] 49 2 #[] #[])
  fields := #[]
  methods := #[k13m0, k13m1]
  instanceTypes := #[]
  staticTypes := #[]
  resolved := Array.replicate 184 none
  statics := none }

def pool14 : Array CpInfo := pool [(1, u "java/lang/Cloneable"), (0, .class_ 1), (0, u "java/lang/Object"), (0, .class_ 3)] 3

/-- java/lang/Cloneable -/
def k14 : Class := { plain "java/lang/Cloneable" (some 0) with
  accessFlags := 1537
  interfaces := #[]
  cf := some (fileOf pool14 2 #[] #[] 1537 4 #[] #[])
  fields := #[]
  methods := #[]
  instanceTypes := #[]
  staticTypes := #[]
  resolved := Array.replicate 8 none
  statics := none }

/-- the primitive byte -/
def k15 : Class := { plain "byte" none with kind := .primitive 'B', accessFlags := 0x411 }
/-- [B -/
def k16 : Class := { plain "[B" (some 0) with kind := .array 15 .byte, interfaces := #[14, 5], accessFlags := 1041 }

/-- the primitive int -/
def k17 : Class := { plain "int" none with kind := .primitive 'I', accessFlags := 0x411 }
/-- [I -/
def k18 : Class := { plain "[I" (some 0) with kind := .array 17 .int, interfaces := #[14, 5], accessFlags := 1041 }

def heap : Heap := #[{ cls := 7, slots := #[.ref 4, .ref 2, .null], vm := .statics 7 },
  { cls := 8, slots := #[.ref 5, .ref 3, .null], vm := .statics 8 },
  { cls := 7, slots := #[.null, .int 0, .int 0, .null], vm := .none },
  { cls := 8, slots := #[.null, .int 1, .int 0, .null], vm := .none },
  { cls := 7, slots := #[.null, .int 2, .int 0, .null], vm := .none },
  { cls := 8, slots := #[.null, .int 3, .int 0, .null], vm := .none }]
def classes : Array Class := #[k0, k1, k2, k3, k4, k5, k6, k7, k8, k9, k10, k11, k12, k13, k14, k15, k16, k17, k18]
def interned : List (Array UInt16 × Addr) := []
def slotsUsed : Nat := 22
def theMethod : MethodId := ⟨1, 1⟩
def args0 : Array Value := #[.int 3, .int 4, .int 5, .int 6, .int 1]
def aboutOver (below : List Frame) : State where
  vm := { classes := classes, interned := interned.toArray }
  heap := heap
  slotsUsed := slotsUsed
  threads := #[{ frames := .invoking theMethod args0 :: below }]
def below0 : List Frame := [.native { method := ⟨0, 0⟩, args := #[] }]
def about1 : State := aboutOver below0
def p0 : Program := .bare "" "" ""
def e0 : Env := launch0.env 0 0 0
theorem w_frames : about1.frames = Frame.invoking theMethod args0 :: below0 := rfl
set_option maxRecDepth 65536 in
theorem w_args : argsFit about1.vm theMethod args0 = true := by decide +kernel
set_option maxRecDepth 65536 in
theorem w_heap : heapFits about1 = true := by decide +kernel
set_option maxRecDepth 65536 in
theorem w_runnable : about1.curStatus? = some .runnable := by decide +kernel
set_option maxRecDepth 65536 in
theorem w_alone : about1.alone = true := by decide +kernel
set_option maxRecDepth 65536 in
theorem w_named : about1.methodNamed? x = some theMethod := by decide +kernel
set_option maxRecDepth 65536 in
theorem w_hears : about1.hears theMethod below0 = true := by decide +kernel
set_option maxRecDepth 65536 in
theorem w_ripe : about1.ripe theMethod args0 below0 = true := by decide +kernel
theorem w_running : about1.status = .running := rfl
set_option maxRecDepth 65536 in
theorem w_room : about1.hasRoom e0.platform room_1 = true :=
  launch0.hasRoom_least _ room_1 (by decide +kernel) (by decide +kernel) (by decide +kernel) (by decide +kernel) (by decide +kernel) (by decide +kernel)
theorem allAtoms_all (ts : List Jvm.Cond) (a : Array Jvm.Value) (st : Jvm.State) : (allAtoms ts).before a st = ts.all (fun c => c.before a st) := by
  induction ts with
  | nil => rfl
  | cons c t ih =>
    show (Jvm.Cond.and c (allAtoms t)).before a st = _
    rw [Jvm.Cond.before_and, ih, List.all_cons]
def words1 : List Jvm.Cond := Jvm.Cond.code x code maxLocals ret :: tables_1
/-- a 'code' word, met by the world's own term for the bytes: nothing is compared byte by byte -/
theorem code_word {y : MethodName} {bytes : ByteArray} {mx : Nat} {rt : Option FieldType} {a : Array Value} {s : State} {m : MethodId} {meth : Method} {c : Code} (h1 : s.methodNamed? y = some m) (h2 : s.vm.method? m = some meth) (h3 : meth.code = some c) (h4 : c.code = bytes)
    (h5 : (c.maxLocals == mx && c.exceptionTable.isEmpty && decide (c.maxStack ≤ mostOperands) && decide (meth.sig.returnType = rt) && !meth.locks && decide (parseMethodDescriptor y.desc = some meth.sig)) = true) : (Jvm.Cond.code y bytes mx rt).before a s = true := by
  simp only [Bool.and_eq_true, beq_iff_eq, Bool.not_eq_true', decide_eq_true_eq] at h5
  obtain ⟨⟨⟨⟨⟨g1, g2⟩, g3⟩, g4⟩, g5⟩, g6⟩ := h5
  simp [Cond.before, Cond.holds, Cond.value, h1, h2, h3, h4, g1, g2, g3, g4, g5, g6]
def isCode : Jvm.Cond → Bool
  | .code _ _ _ _ => true
  | _ => false
theorem all_split {L : List Jvm.Cond} {P : Jvm.Cond → Bool} (h1 : L.all (fun c => isCode c || P c) = true) (h2 : ∀ c ∈ L.filter isCode, P c = true) : L.all P = true := by
  refine List.all_eq_true.mpr fun c hc => ?_
  have h := List.all_eq_true.mp h1 c hc
  rcases Bool.eq_false_or_eq_true (isCode c) with hi | hi
  · exact h2 c (List.mem_filter.mpr ⟨hc, hi⟩)
  · simpa [hi] using h
set_option maxRecDepth 65536 in
theorem w_c0 : (Jvm.Cond.code x code maxLocals ret).before args0 about1 = true := code_word (m := ⟨1, 1⟩) (meth := k1m1) (c := k1c1) (by decide +kernel) rfl rfl rfl (by decide +kernel)
set_option maxRecDepth 65536 in
theorem w_c1 : (Jvm.Cond.code ({ cls := "java/lang/Math", name := "max", desc := "(II)I" } : Jvm.MethodName) jdk_29_method_65_code (2 : Nat) (Option.some Jvm.ClassFile.FieldType.int)).before args0 about1 = true := code_word (m := ⟨2, 1⟩) (meth := k2m1) (c := k2c1) (by decide +kernel) rfl rfl rfl (by decide +kernel)
set_option maxRecDepth 65536 in
theorem w_c2 : (Jvm.Cond.code ({ cls := "com/example/muster/muster/bench/Setting", name := "<init>", desc := "(IIIILcom/example/muster/muster/model/Coalitions;Lcom/example/muster/muster/model/Objective;)V" } : Jvm.MethodName) prog_5_method_1_code (7 : Nat) (Option.none : Option Jvm.ClassFile.FieldType)).before args0 about1 = true := code_word (m := ⟨9, 0⟩) (meth := k9m0) (c := k9c0) (by decide +kernel) rfl rfl rfl (by decide +kernel)
set_option maxRecDepth 65536 in
theorem w_c3 : (Jvm.Cond.code ({ cls := "java/lang/Object", name := "<init>", desc := "()V" } : Jvm.MethodName) object_method_1_code (1 : Nat) (Option.none : Option Jvm.ClassFile.FieldType)).before args0 about1 = true := code_word (m := ⟨0, 0⟩) (meth := k0m0) (c := k0c0) (by decide +kernel) rfl rfl rfl (by decide +kernel)
set_option maxRecDepth 65536 in
theorem w_c4 : (Jvm.Cond.code ({ cls := "com/example/muster/muster/bench/Setting", name := "atLeast", desc := "(Ljava/lang/String;II)I" } : Jvm.MethodName) prog_5_method_2_code (3 : Nat) (Option.some Jvm.ClassFile.FieldType.int)).before args0 about1 = true := code_word (m := ⟨9, 1⟩) (meth := k9m1) (c := k9c1) (by decide +kernel) rfl rfl rfl (by decide +kernel)
set_option maxRecDepth 65536 in
theorem w_c5 : (Jvm.Cond.code ({ cls := "java/util/Objects", name := "requireNonNull", desc := "(Ljava/lang/Object;Ljava/lang/String;)Ljava/lang/Object;" } : Jvm.MethodName) jdk_31_method_11_code (2 : Nat) (Option.some (Jvm.ClassFile.FieldType.object "java/lang/Object"))).before args0 about1 = true := code_word (m := ⟨13, 1⟩) (meth := k13m1) (c := k13c1) (by decide +kernel) rfl rfl rfl (by decide +kernel)
set_option maxRecDepth 65536 in
theorem w_c6 : (Jvm.Cond.code ({ cls := "com/example/muster/muster/bench/Setting", name := "cells", desc := "()J" } : Jvm.MethodName) prog_5_method_9_code (1 : Nat) (Option.some Jvm.ClassFile.FieldType.long)).before args0 about1 = true := code_word (m := ⟨9, 2⟩) (meth := k9m2) (c := k9c2) (by decide +kernel) rfl rfl rfl (by decide +kernel)
def codes1 : List Jvm.Cond := [Jvm.Cond.code x code maxLocals ret, Jvm.Cond.code ({ cls := "java/lang/Math", name := "max", desc := "(II)I" } : Jvm.MethodName) jdk_29_method_65_code (2 : Nat) (Option.some Jvm.ClassFile.FieldType.int), Jvm.Cond.code ({ cls := "com/example/muster/muster/bench/Setting", name := "<init>", desc := "(IIIILcom/example/muster/muster/model/Coalitions;Lcom/example/muster/muster/model/Objective;)V" } : Jvm.MethodName) prog_5_method_1_code (7 : Nat) (Option.none : Option Jvm.ClassFile.FieldType), Jvm.Cond.code ({ cls := "java/lang/Object", name := "<init>", desc := "()V" } : Jvm.MethodName) object_method_1_code (1 : Nat) (Option.none : Option Jvm.ClassFile.FieldType), Jvm.Cond.code ({ cls := "com/example/muster/muster/bench/Setting", name := "atLeast", desc := "(Ljava/lang/String;II)I" } : Jvm.MethodName) prog_5_method_2_code (3 : Nat) (Option.some Jvm.ClassFile.FieldType.int), Jvm.Cond.code ({ cls := "java/util/Objects", name := "requireNonNull", desc := "(Ljava/lang/Object;Ljava/lang/String;)Ljava/lang/Object;" } : Jvm.MethodName) jdk_31_method_11_code (2 : Nat) (Option.some (Jvm.ClassFile.FieldType.object "java/lang/Object")), Jvm.Cond.code ({ cls := "com/example/muster/muster/bench/Setting", name := "cells", desc := "()J" } : Jvm.MethodName) prog_5_method_9_code (1 : Nat) (Option.some Jvm.ClassFile.FieldType.long)]
set_option maxRecDepth 65536 in
theorem codes_eq : words1.filter isCode = codes1 := rfl
theorem w_codes : ∀ c ∈ words1.filter isCode, c.before args0 about1 = true := by
  rw [codes_eq]
  intro c hc
  simp only [codes1, List.mem_cons, List.not_mem_nil, or_false] at hc
  rcases hc with rfl | rfl | rfl | rfl | rfl | rfl | rfl
  · exact w_c0
  · exact w_c1
  · exact w_c2
  · exact w_c3
  · exact w_c4
  · exact w_c5
  · exact w_c6
set_option maxRecDepth 65536 in
theorem w_t1 : (words1.take 24).all (fun c => isCode c || c.before args0 about1) = true := by decide +kernel
set_option maxRecDepth 65536 in
theorem w_t2 : ((words1.drop 24).take 24).all (fun c => isCode c || c.before args0 about1) = true := by decide +kernel
set_option maxRecDepth 65536 in
theorem w_t3 : ((words1.drop 24).drop 24).all (fun c => isCode c || c.before args0 about1) = true := by decide +kernel
theorem w_tables : (allAtoms (Jvm.Cond.code x code maxLocals ret :: tables_1)).before args0 about1 = true := by
  rw [allAtoms_all]
  show words1.all (fun c => c.before args0 about1) = true
  refine all_split ?_ w_codes
  rw [← List.take_append_drop 24 words1, List.all_append, w_t1, ← List.take_append_drop 24 (words1.drop 24), List.all_append, w_t2, w_t3]
  rfl
set_option maxRecDepth 65536 in
theorem w_case : (Jvm.Cond.and given_1 narrow_1).before args0 about1 = true := by decide +kernel
theorem w_applies : (headSpec (Jvm.Cond.code x code maxLocals ret :: tables_1) room_1).applies x e0.platform about1 = true :=
  (Spec.applies_iff w_frames).mpr ⟨w_running, w_runnable, w_alone, w_named, w_hears, w_ripe, w_room, w_tables⟩
theorem atStart : AtStart classFile x code maxLocals ret World_1 tables_1 room_1 Calls_1 rest_1 Pre_1 launch0 p0 e0 about1 theMethod args0 below0 :=
  ⟨lists_1, trivial, launch0.admits_env _ _ _, launch0.least_env, fairChoices_fair.cas, fairChoices_fair.clock, w_frames, w_args, w_heap, w_applies, trivial, trivial, w_case⟩
end start1
theorem witness_1 : WitnessClaimed_1 := ⟨start1.p0, start1.e0, start1.about1, start1.theMethod, start1.args0, start1.below0, start1.atStart⟩
end Jvm.Pilot.@@N@@
