import JvmDerived
import JvmDerived.Pilot.@@N@@Statement
import JvmDerived.Pilot.@@N@@Code
set_option linter.unusedVariables false
set_option linter.unusedSimpArgs false
namespace Jvm.Pilot.@@N@@
open Jvm Jvm.ClassFile Sem Op Lib Jvm.Free Jvm.Stand Jvm.LawKit Jvm.RoadKit Bundle Jvm.Pilot.@@N@@.Jvm.D
/-- one invocation: program, environment, the state at the invocation, method, arguments, the frames below, the method's record, its code, the tables at its true start -/
abbrev OG := Program × Env × State × MethodId × Array Value × List Frame × Method × Code × Vm
/-- the whole run: the launch, the heap's size at the law's start, the law's arguments -/
abbrev OW := Launch × Nat × Array Value
/-- one method: its bytes, its number of locals, its class, its name, what it returns, the room it asks -/
abbrev OM := ByteArray × Nat × String × String × Option FieldType × Room
/-- where a walk stands -/
def oSt (Z : State) (ω : OW) (γ : OG) (κ : OM) (T : State) (h : Heap) (cs ss : Nat) : Prop :=
  γ.1.tables.exec = Jvm.exec ∧ γ.2.2.2.2.2.2.2.1.code = κ.1 ∧ γ.2.2.2.2.2.2.2.1.maxLocals = κ.2.1 ∧ γ.2.2.1.vm.findClass κ.2.2.1 = some γ.2.2.2.1.cls ∧ γ.2.2.2.2.2.2.1.name = κ.2.2.2.1 ∧
  γ.2.2.2.2.2.2.1.sig.returnType = κ.2.2.2.2.1 ∧ γ.2.2.2.2.2.2.1.locks = false ∧ Z.Warmed39 γ.2.2.1.vm ∧ (∀ d ∈ tables_1, d.before ω.2.2 Z = true) ∧ (ω.2.1 ≤ γ.2.2.1.heap.size ∧ ∃ k0, (γ.2.2.1.setVm γ.2.2.2.2.2.2.2.2).Since γ.2.2.1.vm k0 ∧ k0 ≤ h.size) ∧ T.heap = h ∧
  ∃ locs, Stand γ.1 ω.1 γ.2.1 κ.2.2.2.2.2 γ.2.2.1 γ.2.2.2.1 γ.2.2.2.2.1 γ.2.2.2.2.2.1 γ.2.2.2.2.2.2.1 γ.2.2.2.2.2.2.2.1 T locs cs ss ∧ Fr ω.2.1 locs
/-- from here the method returns, and Q holds of what it returns and of the heap it leaves -/
def oWP (ω : OW) (γ : OG) (κ : OM) (Q : Option Value → Heap → Prop) (T : State) (pc : Nat) (L : Array Slot) (S : List Value) : Prop :=
  ∃ s₂ o, Steps γ.1.tables γ.2.1 γ.2.2.2.2.2.1 (T.setTop (mkF γ.2.2.2.1 pc L S)) s₂ ∧ s₂.status = .running ∧ Ended s₂ γ.2.2.2.2.2.1 o ∧
    ∃ v Lc, o = .returned v ∧ (Fr ω.2.1 Lc ∧ Q v s₂.heap) ∧ ReturnedEndW (γ.2.2.1.setVm γ.2.2.2.2.2.2.2.2) o s₂ Lc κ.2.2.2.2.2.cells κ.2.2.2.2.2.slots
/-- a method's contract -/
def oC (Z : State) (ω : OW) (y : MethodName) (κ : OM) (ws : List Jvm.Cond) (as : Array Value) (h : Heap) (Q : Option Value → Heap → Prop) : Prop :=
  MetFree ω.1 y (head1 (Jvm.Cond.code y κ.1 κ.2.1 κ.2.2.2.2.1 :: ws) κ.2.2.2.2.2) (fun a U => a = as ∧ Z.Warmed39 U.vm ∧ U.heap = h) (fun _ _ _ _ _ => True)
    (fun _ U o U' => ∃ v Lc, o = .returned v ∧ (Fr ω.2.1 Lc ∧ Q v U'.heap) ∧ ReturnedEndW U o U' Lc κ.2.2.2.2.2.cells κ.2.2.2.2.2.slots)
theorem oC_of {Z : State} {ω : OW} {y : MethodName} {κ : OM} {ws : List Jvm.Cond} {as : Array Value} {h : Heap} {Q : Option Value → Heap → Prop} {L : Array Slot} (hw : ∀ d ∈ tables_1, d.before ω.2.2 Z = true) (hn0 : ω.2.1 ≤ h.size)
    (hpn : plainFor y = true) (hcl : κ.2.2.1 = y.cls) (hnm : κ.2.2.2.1 = y.name) (hef : ∀ m, entryFrame m as κ.2.1 = mkF m 0 L []) (body : ∀ γ T, oSt Z ω γ κ T h 0 0 → oWP ω γ κ Q T 0 L []) : oC Z ω y κ ws as h Q := by
  refine MetFree.of_bodySF hpn hisR ?_
  intro p e s m args below meth c s₁ Bd hml0 hP hK
  obtain ⟨rfl, hZ, hh⟩ := hP
  have hown : s.vm.findClass y.cls = some m.cls := findClass_of_methodNamed Bd.named
  have hnm' := (name_of_methodNamed Bd.named Bd.method).1
  have X0 := Stand.of_body Bd
  have e0 : s₁.heap = h := by rw [← hh, Bd.state]; rfl
  have hlk : meth.locks = false := BodyLoose.notSynchronized Bd
  obtain ⟨s₂, o, h1, h2, h3, h4⟩ := body (p, e, s, m, args, below, meth, c, s.vm) s₁ ⟨Bd.exec, Bd.bytes, hml0, by rw [hcl]; exact hown, by rw [hnm]; exact hnm', Bd.returns, hlk, hZ, hw, ⟨by rw [hh]; exact hn0, 0, (State.WarmedH.refl s).since 0, Nat.zero_le _⟩, e0, [], X0, Fr.nil _⟩
  exact ⟨s₂, o, castTop (hef m) h1, h2, h3, h4⟩
section Walk
variable {Z : State} {ω : OW} {γ : OG} {κ : OM} {Q : Option Value → Heap → Prop} {T : State} {h : Heap} {cs ss : Nat} {pc : Nat} {L : Array Slot} {S : List Value}
theorem oSt_n0 (X : oSt Z ω γ κ T h cs ss) : ω.2.1 ≤ h.size := by
  obtain ⟨-, -, -, -, -, -, -, -, -, hn0, hT, locs, Y, -⟩ := X
  have q : γ.2.2.1.heap.size ≤ T.heap.size := Y.same.2.1
  rw [hT] at q
  exact Nat.le_trans hn0.1 q
theorem oSt_w (X : oSt Z ω γ κ T h cs ss) : ∀ d ∈ tables_1, d.before ω.2.2 Z = true := by
  obtain ⟨-, -, -, -, -, -, -, -, hw, -⟩ := X; exact hw
theorem oSt_at (X : oSt Z ω γ κ T h cs ss) (i : Nat) {d : Jvm.Cond} (hi : tables_1[i]? = some d) : d.before ω.2.2 Z = true := oSt_w X _ (List.mem_of_getElem? hi)
theorem oSnE {A : Prop} {B : Nat → Prop} {h h' : Heap} (H : A ∧ ∃ k0, B k0 ∧ k0 ≤ h.size) (E : Ext h h') : A ∧ ∃ k0, B k0 ∧ k0 ≤ h'.size := by
  obtain ⟨a, k, b, c⟩ := H; exact ⟨a, k, b, Nat.le_trans c E.1⟩
theorem oSnW {A : Prop} {B : Nat → Prop} {h h' : Heap} {a : Addr} {sl : Nat} {v : Value} (H : A ∧ ∃ k0, B k0 ∧ k0 ≤ h.size) (W : Wr h h' a sl v) : A ∧ ∃ k0, B k0 ∧ k0 ≤ h'.size := by
  obtain ⟨x, k, b, c⟩ := H
  refine ⟨x, k, b, Nat.le_trans c ?_⟩
  obtain ⟨c0, -, -, -, rfl⟩ := W; simp
/-- behind a step that may have interned: the walk stands over the start with the tables at hand -/
theorem oReb (X : oSt Z ω γ κ T h cs ss) {T' : State} {locs' : List Loc} {cs' ss' : Nat} (Y' : Stand γ.1 ω.1 γ.2.1 κ.2.2.2.2.2 (γ.2.2.1.setVm T'.vm) γ.2.2.2.1 γ.2.2.2.2.1 γ.2.2.2.2.2.1 γ.2.2.2.2.2.2.1 γ.2.2.2.2.2.2.2.1 T' locs' cs' ss')
    (h2 : γ.2.2.1.Since T'.vm T'.heap.size) (hg : T.heap.size ≤ T'.heap.size) (N' : Fr ω.2.1 locs') :
    oSt Z ω (γ.1, γ.2.1, γ.2.2.1.setVm T'.vm, γ.2.2.2.1, γ.2.2.2.2.1, γ.2.2.2.2.2.1, γ.2.2.2.2.2.2.1, γ.2.2.2.2.2.2.2.1, γ.2.2.2.2.2.2.2.2) κ T' T'.heap cs' ss' := by
  obtain ⟨hx, hby, hml, hown, hnm, hr, hlk, hZ, hT1, ⟨hn0, k0, hS, hk⟩, hT, locs, Y, N⟩ := X
  subst hT
  exact ⟨hx, hby, hml, (h2.1.alike.findClass _ _).trans hown, hnm, hr, hlk, State.Warmed39.trans (t := γ.2.2.1) hZ h2.1, hT1, ⟨hn0, _, State.Since.trans (s := γ.2.2.1.setVm γ.2.2.2.2.2.2.2.2) (vm₁ := γ.2.2.1.vm) hS h2 (Nat.le_trans hk hg), Nat.le_refl _⟩, rfl, locs', Y', N'⟩
theorem ow_iload (X : oSt Z ω γ κ T h cs ss) (pc' : Nat) {k : Nat} {v : Int32} (hd : decode κ.1 pc = .ok (.iload k, 2)) (hp : pc + 2 = pc') (hl : L[k]? = some (.val (.int v)))
    (K : oWP ω γ κ Q T pc' L (.int v :: S)) : oWP ω γ κ Q T pc L (S) := by
  obtain ⟨hx, hby, -, -, -, -, -, -, -, -, -, locs, Y, -⟩ := X
  subst hp
  obtain ⟨s₂, o, hs, r⟩ := K
  exact ⟨s₂, o, XS.iload Y.here hx rfl (hb hby hd) hl hs, r⟩
theorem ow_iloadN (X : oSt Z ω γ κ T h cs ss) (pc' : Nat) {k : Fin 4} {v : Int32} (hd : decode κ.1 pc = .ok (.iload_n k, 1)) (hp : pc + 1 = pc') (hl : L[k.val]? = some (.val (.int v)))
    (K : oWP ω γ κ Q T pc' L (.int v :: S)) : oWP ω γ κ Q T pc L (S) := by
  obtain ⟨hx, hby, -, -, -, -, -, -, -, -, -, locs, Y, -⟩ := X
  subst hp
  obtain ⟨s₂, o, hs, r⟩ := K
  exact ⟨s₂, o, XS.iloadN Y.here hx rfl (hb hby hd) hl hs, r⟩
theorem ow_istore (X : oSt Z ω γ κ T h cs ss) (pc' : Nat) {k : Nat} {v : Int32} {L' : Array Slot} (hd : decode κ.1 pc = .ok (.istore k, 2)) (hp : pc + 2 = pc') (hl : storeLocals L k (.int v) = some L')
    (K : oWP ω γ κ Q T pc' L' (S)) : oWP ω γ κ Q T pc L (.int v :: S) := by
  obtain ⟨hx, hby, -, -, -, -, -, -, -, -, -, locs, Y, -⟩ := X
  subst hp
  obtain ⟨s₂, o, hs, r⟩ := K
  exact ⟨s₂, o, XS.istore Y.here hx rfl (hb hby hd) rfl hl hs, r⟩
theorem ow_istoreN (X : oSt Z ω γ κ T h cs ss) (pc' : Nat) {k : Fin 4} {v : Int32} {L' : Array Slot} (hd : decode κ.1 pc = .ok (.istore_n k, 1)) (hp : pc + 1 = pc') (hl : storeLocals L k.val (.int v) = some L')
    (K : oWP ω γ κ Q T pc' L' (S)) : oWP ω γ κ Q T pc L (.int v :: S) := by
  obtain ⟨hx, hby, -, -, -, -, -, -, -, -, -, locs, Y, -⟩ := X
  subst hp
  obtain ⟨s₂, o, hs, r⟩ := K
  exact ⟨s₂, o, XS.istoreN Y.here hx rfl (hb hby hd) rfl hl hs, r⟩
theorem ow_lload (X : oSt Z ω γ κ T h cs ss) (pc' : Nat) {k : Nat} {v : Int64} (hd : decode κ.1 pc = .ok (.lload k, 2)) (hp : pc + 2 = pc') (hl : L[k]? = some (.val (.long v)))
    (K : oWP ω γ κ Q T pc' L (.long v :: S)) : oWP ω γ κ Q T pc L (S) := by
  obtain ⟨hx, hby, -, -, -, -, -, -, -, -, -, locs, Y, -⟩ := X
  subst hp
  obtain ⟨s₂, o, hs, r⟩ := K
  exact ⟨s₂, o, XS.lload Y.here hx rfl (hb hby hd) hl hs, r⟩
theorem ow_lloadN (X : oSt Z ω γ κ T h cs ss) (pc' : Nat) {k : Fin 4} {v : Int64} (hd : decode κ.1 pc = .ok (.lload_n k, 1)) (hp : pc + 1 = pc') (hl : L[k.val]? = some (.val (.long v)))
    (K : oWP ω γ κ Q T pc' L (.long v :: S)) : oWP ω γ κ Q T pc L (S) := by
  obtain ⟨hx, hby, -, -, -, -, -, -, -, -, -, locs, Y, -⟩ := X
  subst hp
  obtain ⟨s₂, o, hs, r⟩ := K
  exact ⟨s₂, o, XS.lloadN Y.here hx rfl (hb hby hd) hl hs, r⟩
theorem ow_lstore (X : oSt Z ω γ κ T h cs ss) (pc' : Nat) {k : Nat} {v : Int64} {L' : Array Slot} (hd : decode κ.1 pc = .ok (.lstore k, 2)) (hp : pc + 2 = pc') (hl : storeLocals L k (.long v) = some L')
    (K : oWP ω γ κ Q T pc' L' (S)) : oWP ω γ κ Q T pc L (.long v :: S) := by
  obtain ⟨hx, hby, -, -, -, -, -, -, -, -, -, locs, Y, -⟩ := X
  subst hp
  obtain ⟨s₂, o, hs, r⟩ := K
  exact ⟨s₂, o, XS.lstore Y.here hx rfl (hb hby hd) rfl hl hs, r⟩
theorem ow_lstoreN (X : oSt Z ω γ κ T h cs ss) (pc' : Nat) {k : Fin 4} {v : Int64} {L' : Array Slot} (hd : decode κ.1 pc = .ok (.lstore_n k, 1)) (hp : pc + 1 = pc') (hl : storeLocals L k.val (.long v) = some L')
    (K : oWP ω γ κ Q T pc' L' (S)) : oWP ω γ κ Q T pc L (.long v :: S) := by
  obtain ⟨hx, hby, -, -, -, -, -, -, -, -, -, locs, Y, -⟩ := X
  subst hp
  obtain ⟨s₂, o, hs, r⟩ := K
  exact ⟨s₂, o, XS.lstoreN Y.here hx rfl (hb hby hd) rfl hl hs, r⟩
theorem ow_aload (X : oSt Z ω γ κ T h cs ss) (pc' : Nat) {k : Nat} {v : Value} (hd : decode κ.1 pc = .ok (.aload k, 2)) (hp : pc + 2 = pc') (hl : L[k]? = some (.val v)) (hv : v.isRef = true)
    (K : oWP ω γ κ Q T pc' L (v :: S)) : oWP ω γ κ Q T pc L (S) := by
  obtain ⟨hx, hby, -, -, -, -, -, -, -, -, -, locs, Y, -⟩ := X
  subst hp
  obtain ⟨s₂, o, hs, r⟩ := K
  exact ⟨s₂, o, XS.aload Y.here hx rfl (hb hby hd) hl hv hs, r⟩
theorem ow_aloadN (X : oSt Z ω γ κ T h cs ss) (pc' : Nat) {k : Fin 4} {v : Value} (hd : decode κ.1 pc = .ok (.aload_n k, 1)) (hp : pc + 1 = pc') (hl : L[k.val]? = some (.val v)) (hv : v.isRef = true)
    (K : oWP ω γ κ Q T pc' L (v :: S)) : oWP ω γ κ Q T pc L (S) := by
  obtain ⟨hx, hby, -, -, -, -, -, -, -, -, -, locs, Y, -⟩ := X
  subst hp
  obtain ⟨s₂, o, hs, r⟩ := K
  exact ⟨s₂, o, XS.aloadN Y.here hx rfl (hb hby hd) hl hv hs, r⟩
theorem ow_astore (X : oSt Z ω γ κ T h cs ss) (pc' : Nat) {k : Nat} {v : Value} {L' : Array Slot} (hd : decode κ.1 pc = .ok (.astore k, 2)) (hp : pc + 2 = pc') (hv : v.isRef = true) (hl : storeLocals L k v = some L')
    (K : oWP ω γ κ Q T pc' L' (S)) : oWP ω γ κ Q T pc L (v :: S) := by
  obtain ⟨hx, hby, -, -, -, -, -, -, -, -, -, locs, Y, -⟩ := X
  subst hp
  obtain ⟨s₂, o, hs, r⟩ := K
  exact ⟨s₂, o, XS.astore Y.here hx rfl (hb hby hd) rfl hv hl hs, r⟩
theorem ow_astoreN (X : oSt Z ω γ κ T h cs ss) (pc' : Nat) {k : Fin 4} {v : Value} {L' : Array Slot} (hd : decode κ.1 pc = .ok (.astore_n k, 1)) (hp : pc + 1 = pc') (hv : v.isRef = true) (hl : storeLocals L k.val v = some L')
    (K : oWP ω γ κ Q T pc' L' (S)) : oWP ω γ κ Q T pc L (v :: S) := by
  obtain ⟨hx, hby, -, -, -, -, -, -, -, -, -, locs, Y, -⟩ := X
  subst hp
  obtain ⟨s₂, o, hs, r⟩ := K
  exact ⟨s₂, o, XS.astoreN Y.here hx rfl (hb hby hd) rfl hv hl hs, r⟩
theorem ow_iconst (X : oSt Z ω γ κ T h cs ss) (pc' : Nat) {i : Int} (v : Int32) (hd : decode κ.1 pc = .ok (.iconst i, 1)) (hp : pc + 1 = pc') (hv : Int32.ofInt i = v)
    (K : oWP ω γ κ Q T pc' L (.int v :: S)) : oWP ω γ κ Q T pc L (S) := by
  obtain ⟨hx, hby, -, -, -, -, -, -, -, -, -, locs, Y, -⟩ := X
  subst hp
  obtain ⟨s₂, o, hs, r⟩ := K
  subst hv; exact ⟨s₂, o, XS.iconst Y.here hx rfl (hb hby hd) hs, r⟩
theorem ow_bipush (X : oSt Z ω γ κ T h cs ss) (pc' : Nat) {i : Int} (v : Int32) (hd : decode κ.1 pc = .ok (.bipush i, 2)) (hp : pc + 2 = pc') (hv : (Int8.ofInt i).toInt32 = v)
    (K : oWP ω γ κ Q T pc' L (.int v :: S)) : oWP ω γ κ Q T pc L (S) := by
  obtain ⟨hx, hby, -, -, -, -, -, -, -, -, -, locs, Y, -⟩ := X
  subst hp
  obtain ⟨s₂, o, hs, r⟩ := K
  subst hv; exact ⟨s₂, o, XS.bipush Y.here hx rfl (hb hby hd) hs, r⟩
theorem ow_sipush (X : oSt Z ω γ κ T h cs ss) (pc' : Nat) {i : Int} (v : Int32) (hd : decode κ.1 pc = .ok (.sipush i, 3)) (hp : pc + 3 = pc') (hv : (Int16.ofInt i).toInt32 = v)
    (K : oWP ω γ κ Q T pc' L (.int v :: S)) : oWP ω γ κ Q T pc L (S) := by
  obtain ⟨hx, hby, -, -, -, -, -, -, -, -, -, locs, Y, -⟩ := X
  subst hp
  obtain ⟨s₂, o, hs, r⟩ := K
  subst hv; exact ⟨s₂, o, XS.sipush Y.here hx rfl (hb hby hd) hs, r⟩
theorem ow_lconst (X : oSt Z ω γ κ T h cs ss) (pc' : Nat) {k : Fin 2} (v : Int64) (hd : decode κ.1 pc = .ok (.lconst k, 1)) (hp : pc + 1 = pc') (hv : Int64.ofNat k = v)
    (K : oWP ω γ κ Q T pc' L (.long v :: S)) : oWP ω γ κ Q T pc L (S) := by
  obtain ⟨hx, hby, -, -, -, -, -, -, -, -, -, locs, Y, -⟩ := X
  subst hp
  obtain ⟨s₂, o, hs, r⟩ := K
  subst hv; exact ⟨s₂, o, XS.lconst Y.here hx rfl (hb hby hd) hs, r⟩
theorem ow_anull (X : oSt Z ω γ κ T h cs ss) (pc' : Nat)  (hd : decode κ.1 pc = .ok (.aconst_null, 1)) (hp : pc + 1 = pc') 
    (K : oWP ω γ κ Q T pc' L (.null :: S)) : oWP ω γ κ Q T pc L (S) := by
  obtain ⟨hx, hby, -, -, -, -, -, -, -, -, -, locs, Y, -⟩ := X
  subst hp
  obtain ⟨s₂, o, hs, r⟩ := K
  exact ⟨s₂, o, XS.aconstNull Y.here hx rfl (hb hby hd) hs, r⟩
theorem ow_iinc (X : oSt Z ω γ κ T h cs ss) (pc' : Nat) {k : Nat} {i : Int} {x : Int32} {L' : Array Slot} (v : Int32) (hd : decode κ.1 pc = .ok (.iinc k i, 3)) (hp : pc + 3 = pc') (hv : Int32.ofInt i = v) (hl : L[k]? = some (.val (.int x))) (hl' : storeLocals L k (.int (x + v)) = some L')
    (K : oWP ω γ κ Q T pc' L' (S)) : oWP ω γ κ Q T pc L (S) := by
  obtain ⟨hx, hby, -, -, -, -, -, -, -, -, -, locs, Y, -⟩ := X
  subst hp
  obtain ⟨s₂, o, hs, r⟩ := K
  subst hv; exact ⟨s₂, o, XS.iinc Y.here hx rfl (hb hby hd) hl hl' hs, r⟩
theorem ow_iadd (X : oSt Z ω γ κ T h cs ss) (pc' : Nat) {x y : Int32} (hd : decode κ.1 pc = .ok (.iadd, 1)) (hp : pc + 1 = pc') 
    (K : oWP ω γ κ Q T pc' L (.int (x + y) :: S)) : oWP ω γ κ Q T pc L (.int y :: .int x :: S) := by
  obtain ⟨hx, hby, -, -, -, -, -, -, -, -, -, locs, Y, -⟩ := X
  subst hp
  obtain ⟨s₂, o, hs, r⟩ := K
  exact ⟨s₂, o, XS.iadd Y.here hx rfl (hb hby hd) rfl hs, r⟩
theorem ow_isub (X : oSt Z ω γ κ T h cs ss) (pc' : Nat) {x y : Int32} (hd : decode κ.1 pc = .ok (.isub, 1)) (hp : pc + 1 = pc') 
    (K : oWP ω γ κ Q T pc' L (.int (x - y) :: S)) : oWP ω γ κ Q T pc L (.int y :: .int x :: S) := by
  obtain ⟨hx, hby, -, -, -, -, -, -, -, -, -, locs, Y, -⟩ := X
  subst hp
  obtain ⟨s₂, o, hs, r⟩ := K
  exact ⟨s₂, o, XS.isub Y.here hx rfl (hb hby hd) rfl hs, r⟩
theorem ow_imul (X : oSt Z ω γ κ T h cs ss) (pc' : Nat) {x y : Int32} (hd : decode κ.1 pc = .ok (.imul, 1)) (hp : pc + 1 = pc') 
    (K : oWP ω γ κ Q T pc' L (.int (x * y) :: S)) : oWP ω γ κ Q T pc L (.int y :: .int x :: S) := by
  obtain ⟨hx, hby, -, -, -, -, -, -, -, -, -, locs, Y, -⟩ := X
  subst hp
  obtain ⟨s₂, o, hs, r⟩ := K
  exact ⟨s₂, o, XS.imul Y.here hx rfl (hb hby hd) rfl hs, r⟩
theorem ow_iand (X : oSt Z ω γ κ T h cs ss) (pc' : Nat) {x y : Int32} (hd : decode κ.1 pc = .ok (.iand, 1)) (hp : pc + 1 = pc') 
    (K : oWP ω γ κ Q T pc' L (.int (x &&& y) :: S)) : oWP ω γ κ Q T pc L (.int y :: .int x :: S) := by
  obtain ⟨hx, hby, -, -, -, -, -, -, -, -, -, locs, Y, -⟩ := X
  subst hp
  obtain ⟨s₂, o, hs, r⟩ := K
  exact ⟨s₂, o, XS.iand Y.here hx rfl (hb hby hd) rfl hs, r⟩
theorem ow_ior (X : oSt Z ω γ κ T h cs ss) (pc' : Nat) {x y : Int32} (hd : decode κ.1 pc = .ok (.ior, 1)) (hp : pc + 1 = pc') 
    (K : oWP ω γ κ Q T pc' L (.int (x ||| y) :: S)) : oWP ω γ κ Q T pc L (.int y :: .int x :: S) := by
  obtain ⟨hx, hby, -, -, -, -, -, -, -, -, -, locs, Y, -⟩ := X
  subst hp
  obtain ⟨s₂, o, hs, r⟩ := K
  exact ⟨s₂, o, XS.ior Y.here hx rfl (hb hby hd) rfl hs, r⟩
theorem ow_ixor (X : oSt Z ω γ κ T h cs ss) (pc' : Nat) {x y : Int32} (hd : decode κ.1 pc = .ok (.ixor, 1)) (hp : pc + 1 = pc') 
    (K : oWP ω γ κ Q T pc' L (.int (x ^^^ y) :: S)) : oWP ω γ κ Q T pc L (.int y :: .int x :: S) := by
  obtain ⟨hx, hby, -, -, -, -, -, -, -, -, -, locs, Y, -⟩ := X
  subst hp
  obtain ⟨s₂, o, hs, r⟩ := K
  exact ⟨s₂, o, XS.ixor Y.here hx rfl (hb hby hd) rfl hs, r⟩
theorem ow_ishl (X : oSt Z ω γ κ T h cs ss) (pc' : Nat) {x y : Int32} (hd : decode κ.1 pc = .ok (.ishl, 1)) (hp : pc + 1 = pc') 
    (K : oWP ω γ κ Q T pc' L (.int (x <<< (y &&& 31)) :: S)) : oWP ω γ κ Q T pc L (.int y :: .int x :: S) := by
  obtain ⟨hx, hby, -, -, -, -, -, -, -, -, -, locs, Y, -⟩ := X
  subst hp
  obtain ⟨s₂, o, hs, r⟩ := K
  exact ⟨s₂, o, XS.ishl Y.here hx rfl (hb hby hd) rfl hs, r⟩
theorem ow_ishr (X : oSt Z ω γ κ T h cs ss) (pc' : Nat) {x y : Int32} (hd : decode κ.1 pc = .ok (.ishr, 1)) (hp : pc + 1 = pc') 
    (K : oWP ω γ κ Q T pc' L (.int (x >>> (y &&& 31)) :: S)) : oWP ω γ κ Q T pc L (.int y :: .int x :: S) := by
  obtain ⟨hx, hby, -, -, -, -, -, -, -, -, -, locs, Y, -⟩ := X
  subst hp
  obtain ⟨s₂, o, hs, r⟩ := K
  exact ⟨s₂, o, XS.ishr Y.here hx rfl (hb hby hd) rfl hs, r⟩
theorem ow_iushr (X : oSt Z ω γ κ T h cs ss) (pc' : Nat) {x y : Int32} (hd : decode κ.1 pc = .ok (.iushr, 1)) (hp : pc + 1 = pc') 
    (K : oWP ω γ κ Q T pc' L (.int ((x.toUInt32 >>> (y &&& 31).toUInt32).toInt32) :: S)) : oWP ω γ κ Q T pc L (.int y :: .int x :: S) := by
  obtain ⟨hx, hby, -, -, -, -, -, -, -, -, -, locs, Y, -⟩ := X
  subst hp
  obtain ⟨s₂, o, hs, r⟩ := K
  exact ⟨s₂, o, XS.iushr Y.here hx rfl (hb hby hd) rfl hs, r⟩
theorem ow_ineg (X : oSt Z ω γ κ T h cs ss) (pc' : Nat) {x : Int32} (hd : decode κ.1 pc = .ok (.ineg, 1)) (hp : pc + 1 = pc') 
    (K : oWP ω γ κ Q T pc' L (.int (-x) :: S)) : oWP ω γ κ Q T pc L (.int x :: S) := by
  obtain ⟨hx, hby, -, -, -, -, -, -, -, -, -, locs, Y, -⟩ := X
  subst hp
  obtain ⟨s₂, o, hs, r⟩ := K
  exact ⟨s₂, o, XS.ineg Y.here hx rfl (hb hby hd) rfl hs, r⟩
theorem ow_idiv (X : oSt Z ω γ κ T h cs ss) (pc' : Nat) {x y : Int32} (hd : decode κ.1 pc = .ok (.idiv, 1)) (hp : pc + 1 = pc') (hy : y ≠ 0)
    (K : oWP ω γ κ Q T pc' L (.int (x / y) :: S)) : oWP ω γ κ Q T pc L (.int y :: .int x :: S) := by
  obtain ⟨hx, hby, -, -, -, -, -, -, -, -, -, locs, Y, -⟩ := X
  subst hp
  obtain ⟨s₂, o, hs, r⟩ := K
  exact ⟨s₂, o, XS.idiv Y.here hx rfl (hb hby hd) rfl hy hs, r⟩
theorem ow_irem (X : oSt Z ω γ κ T h cs ss) (pc' : Nat) {x y : Int32} (hd : decode κ.1 pc = .ok (.irem, 1)) (hp : pc + 1 = pc') (hy : y ≠ 0)
    (K : oWP ω γ κ Q T pc' L (.int (x % y) :: S)) : oWP ω γ κ Q T pc L (.int y :: .int x :: S) := by
  obtain ⟨hx, hby, -, -, -, -, -, -, -, -, -, locs, Y, -⟩ := X
  subst hp
  obtain ⟨s₂, o, hs, r⟩ := K
  exact ⟨s₂, o, iremM Y hx rfl (hb hby hd) rfl hy hs, r⟩
theorem ow_ladd (X : oSt Z ω γ κ T h cs ss) (pc' : Nat) {x y : Int64} (hd : decode κ.1 pc = .ok (.ladd, 1)) (hp : pc + 1 = pc') 
    (K : oWP ω γ κ Q T pc' L (.long (x + y) :: S)) : oWP ω γ κ Q T pc L (.long y :: .long x :: S) := by
  obtain ⟨hx, hby, -, -, -, -, -, -, -, -, -, locs, Y, -⟩ := X
  subst hp
  obtain ⟨s₂, o, hs, r⟩ := K
  exact ⟨s₂, o, XS.ladd Y.here hx rfl (hb hby hd) rfl hs, r⟩
theorem ow_lsub (X : oSt Z ω γ κ T h cs ss) (pc' : Nat) {x y : Int64} (hd : decode κ.1 pc = .ok (.lsub, 1)) (hp : pc + 1 = pc') 
    (K : oWP ω γ κ Q T pc' L (.long (x - y) :: S)) : oWP ω γ κ Q T pc L (.long y :: .long x :: S) := by
  obtain ⟨hx, hby, -, -, -, -, -, -, -, -, -, locs, Y, -⟩ := X
  subst hp
  obtain ⟨s₂, o, hs, r⟩ := K
  exact ⟨s₂, o, XS.lsub Y.here hx rfl (hb hby hd) rfl hs, r⟩
theorem ow_lmul (X : oSt Z ω γ κ T h cs ss) (pc' : Nat) {x y : Int64} (hd : decode κ.1 pc = .ok (.lmul, 1)) (hp : pc + 1 = pc') 
    (K : oWP ω γ κ Q T pc' L (.long (x * y) :: S)) : oWP ω γ κ Q T pc L (.long y :: .long x :: S) := by
  obtain ⟨hx, hby, -, -, -, -, -, -, -, -, -, locs, Y, -⟩ := X
  subst hp
  obtain ⟨s₂, o, hs, r⟩ := K
  exact ⟨s₂, o, XS.lmul Y.here hx rfl (hb hby hd) rfl hs, r⟩
theorem ow_land (X : oSt Z ω γ κ T h cs ss) (pc' : Nat) {x y : Int64} (hd : decode κ.1 pc = .ok (.land, 1)) (hp : pc + 1 = pc') 
    (K : oWP ω γ κ Q T pc' L (.long (x &&& y) :: S)) : oWP ω γ κ Q T pc L (.long y :: .long x :: S) := by
  obtain ⟨hx, hby, -, -, -, -, -, -, -, -, -, locs, Y, -⟩ := X
  subst hp
  obtain ⟨s₂, o, hs, r⟩ := K
  exact ⟨s₂, o, XS.land Y.here hx rfl (hb hby hd) rfl hs, r⟩
theorem ow_lor (X : oSt Z ω γ κ T h cs ss) (pc' : Nat) {x y : Int64} (hd : decode κ.1 pc = .ok (.lor, 1)) (hp : pc + 1 = pc') 
    (K : oWP ω γ κ Q T pc' L (.long (x ||| y) :: S)) : oWP ω γ κ Q T pc L (.long y :: .long x :: S) := by
  obtain ⟨hx, hby, -, -, -, -, -, -, -, -, -, locs, Y, -⟩ := X
  subst hp
  obtain ⟨s₂, o, hs, r⟩ := K
  exact ⟨s₂, o, XS.lor Y.here hx rfl (hb hby hd) rfl hs, r⟩
theorem ow_lxor (X : oSt Z ω γ κ T h cs ss) (pc' : Nat) {x y : Int64} (hd : decode κ.1 pc = .ok (.lxor, 1)) (hp : pc + 1 = pc') 
    (K : oWP ω γ κ Q T pc' L (.long (x ^^^ y) :: S)) : oWP ω γ κ Q T pc L (.long y :: .long x :: S) := by
  obtain ⟨hx, hby, -, -, -, -, -, -, -, -, -, locs, Y, -⟩ := X
  subst hp
  obtain ⟨s₂, o, hs, r⟩ := K
  exact ⟨s₂, o, XS.lxor Y.here hx rfl (hb hby hd) rfl hs, r⟩
theorem ow_lshl (X : oSt Z ω γ κ T h cs ss) (pc' : Nat) {x : Int64} {y : Int32} (hd : decode κ.1 pc = .ok (.lshl, 1)) (hp : pc + 1 = pc') 
    (K : oWP ω γ κ Q T pc' L (.long (x <<< (y &&& 0x3f).toInt64) :: S)) : oWP ω γ κ Q T pc L (.int y :: .long x :: S) := by
  obtain ⟨hx, hby, -, -, -, -, -, -, -, -, -, locs, Y, -⟩ := X
  subst hp
  obtain ⟨s₂, o, hs, r⟩ := K
  exact ⟨s₂, o, XS.lshl Y.here hx rfl (hb hby hd) rfl hs, r⟩
theorem ow_lshr (X : oSt Z ω γ κ T h cs ss) (pc' : Nat) {x : Int64} {y : Int32} (hd : decode κ.1 pc = .ok (.lshr, 1)) (hp : pc + 1 = pc') 
    (K : oWP ω γ κ Q T pc' L (.long (x >>> (y &&& 0x3f).toInt64) :: S)) : oWP ω γ κ Q T pc L (.int y :: .long x :: S) := by
  obtain ⟨hx, hby, -, -, -, -, -, -, -, -, -, locs, Y, -⟩ := X
  subst hp
  obtain ⟨s₂, o, hs, r⟩ := K
  exact ⟨s₂, o, XS.lshr Y.here hx rfl (hb hby hd) rfl hs, r⟩
theorem ow_lushr (X : oSt Z ω γ κ T h cs ss) (pc' : Nat) {x : Int64} {y : Int32} (hd : decode κ.1 pc = .ok (.lushr, 1)) (hp : pc + 1 = pc') 
    (K : oWP ω γ κ Q T pc' L (.long ((x.toUInt64 >>> (y &&& 0x3f).toInt64.toUInt64).toInt64) :: S)) : oWP ω γ κ Q T pc L (.int y :: .long x :: S) := by
  obtain ⟨hx, hby, -, -, -, -, -, -, -, -, -, locs, Y, -⟩ := X
  subst hp
  obtain ⟨s₂, o, hs, r⟩ := K
  exact ⟨s₂, o, XS.lushr Y.here hx rfl (hb hby hd) rfl hs, r⟩
theorem ow_ldiv (X : oSt Z ω γ κ T h cs ss) (pc' : Nat) {x y : Int64} (hd : decode κ.1 pc = .ok (.ldiv, 1)) (hp : pc + 1 = pc') (hy : y ≠ 0)
    (K : oWP ω γ κ Q T pc' L (.long (x / y) :: S)) : oWP ω γ κ Q T pc L (.long y :: .long x :: S) := by
  obtain ⟨hx, hby, -, -, -, -, -, -, -, -, -, locs, Y, -⟩ := X
  subst hp
  obtain ⟨s₂, o, hs, r⟩ := K
  exact ⟨s₂, o, XS.ldiv Y.here hx rfl (hb hby hd) rfl hy hs, r⟩
theorem ow_lrem (X : oSt Z ω γ κ T h cs ss) (pc' : Nat) {x y : Int64} (hd : decode κ.1 pc = .ok (.lrem, 1)) (hp : pc + 1 = pc') (hy : y ≠ 0)
    (K : oWP ω γ κ Q T pc' L (.long (x % y) :: S)) : oWP ω γ κ Q T pc L (.long y :: .long x :: S) := by
  obtain ⟨hx, hby, -, -, -, -, -, -, -, -, -, locs, Y, -⟩ := X
  subst hp
  obtain ⟨s₂, o, hs, r⟩ := K
  rw [← lrem_mod] at hs; exact ⟨s₂, o, XS.lrem Y.here hx rfl (hb hby hd) rfl hy hs, r⟩
theorem ow_i2l (X : oSt Z ω γ κ T h cs ss) (pc' : Nat) {x : Int32} (hd : decode κ.1 pc = .ok (.i2l, 1)) (hp : pc + 1 = pc') 
    (K : oWP ω γ κ Q T pc' L (.long x.toInt64 :: S)) : oWP ω γ κ Q T pc L (.int x :: S) := by
  obtain ⟨hx, hby, -, -, -, -, -, -, -, -, -, locs, Y, -⟩ := X
  subst hp
  obtain ⟨s₂, o, hs, r⟩ := K
  exact ⟨s₂, o, XS.i2l Y.here hx rfl (hb hby hd) rfl hs, r⟩
theorem ow_l2i (X : oSt Z ω γ κ T h cs ss) (pc' : Nat) {x : Int64} (hd : decode κ.1 pc = .ok (.l2i, 1)) (hp : pc + 1 = pc') 
    (K : oWP ω γ κ Q T pc' L (.int x.toInt32 :: S)) : oWP ω γ κ Q T pc L (.long x :: S) := by
  obtain ⟨hx, hby, -, -, -, -, -, -, -, -, -, locs, Y, -⟩ := X
  subst hp
  obtain ⟨s₂, o, hs, r⟩ := K
  exact ⟨s₂, o, XS.l2i Y.here hx rfl (hb hby hd) rfl hs, r⟩
theorem ow_i2b (X : oSt Z ω γ κ T h cs ss) (pc' : Nat) {x : Int32} (hd : decode κ.1 pc = .ok (.i2b, 1)) (hp : pc + 1 = pc') 
    (K : oWP ω γ κ Q T pc' L (.int x.toInt8.toInt32 :: S)) : oWP ω γ κ Q T pc L (.int x :: S) := by
  obtain ⟨hx, hby, -, -, -, -, -, -, -, -, -, locs, Y, -⟩ := X
  subst hp
  obtain ⟨s₂, o, hs, r⟩ := K
  exact ⟨s₂, o, XS.i2b Y.here hx rfl (hb hby hd) rfl hs, r⟩
theorem ow_i2c (X : oSt Z ω γ κ T h cs ss) (pc' : Nat) {x : Int32} (hd : decode κ.1 pc = .ok (.i2c, 1)) (hp : pc + 1 = pc') 
    (K : oWP ω γ κ Q T pc' L (.int x.toUInt32.toUInt16.toUInt32.toInt32 :: S)) : oWP ω γ κ Q T pc L (.int x :: S) := by
  obtain ⟨hx, hby, -, -, -, -, -, -, -, -, -, locs, Y, -⟩ := X
  subst hp
  obtain ⟨s₂, o, hs, r⟩ := K
  exact ⟨s₂, o, XS.i2c Y.here hx rfl (hb hby hd) rfl hs, r⟩
theorem ow_i2s (X : oSt Z ω γ κ T h cs ss) (pc' : Nat) {x : Int32} (hd : decode κ.1 pc = .ok (.i2s, 1)) (hp : pc + 1 = pc') 
    (K : oWP ω γ κ Q T pc' L (.int x.toInt16.toInt32 :: S)) : oWP ω γ κ Q T pc L (.int x :: S) := by
  obtain ⟨hx, hby, -, -, -, -, -, -, -, -, -, locs, Y, -⟩ := X
  subst hp
  obtain ⟨s₂, o, hs, r⟩ := K
  exact ⟨s₂, o, XS.i2s Y.here hx rfl (hb hby hd) rfl hs, r⟩
theorem ow_dup (X : oSt Z ω γ κ T h cs ss) (pc' : Nat) {x : Value} (hd : decode κ.1 pc = .ok (.dup, 1)) (hp : pc + 1 = pc') (hc : x.category = 1)
    (K : oWP ω γ κ Q T pc' L (x :: x :: S)) : oWP ω γ κ Q T pc L (x :: S) := by
  obtain ⟨hx, hby, -, -, -, -, -, -, -, -, -, locs, Y, -⟩ := X
  subst hp
  obtain ⟨s₂, o, hs, r⟩ := K
  exact ⟨s₂, o, XS.dup Y.here hx rfl (hb hby hd) rfl hc hs, r⟩
theorem ow_pop (X : oSt Z ω γ κ T h cs ss) (pc' : Nat) {x : Value} (hd : decode κ.1 pc = .ok (.pop, 1)) (hp : pc + 1 = pc') (hc : x.category = 1)
    (K : oWP ω γ κ Q T pc' L (S)) : oWP ω γ κ Q T pc L (x :: S) := by
  obtain ⟨hx, hby, -, -, -, -, -, -, -, -, -, locs, Y, -⟩ := X
  subst hp
  obtain ⟨s₂, o, hs, r⟩ := K
  exact ⟨s₂, o, XS.pop Y.here hx rfl (hb hby hd) rfl hc hs, r⟩
theorem ow_dupX1 (X : oSt Z ω γ κ T h cs ss) (pc' : Nat) {x y : Value} (hd : decode κ.1 pc = .ok (.dup_x1, 1)) (hp : pc + 1 = pc') (hc : x.category = 1) (hc' : y.category = 1)
    (K : oWP ω γ κ Q T pc' L (x :: y :: x :: S)) : oWP ω γ κ Q T pc L (x :: y :: S) := by
  obtain ⟨hx, hby, -, -, -, -, -, -, -, -, -, locs, Y, -⟩ := X
  subst hp
  obtain ⟨s₂, o, hs, r⟩ := K
  exact ⟨s₂, o, XS.dupX1 Y.here hx rfl (hb hby hd) rfl hc hc' hs, r⟩
theorem ow_dup2 (X : oSt Z ω γ κ T h cs ss) (pc' : Nat) {x y : Value} (hd : decode κ.1 pc = .ok (.dup2, 1)) (hp : pc + 1 = pc') (hc : x.category = 1) (hc' : y.category = 1)
    (K : oWP ω γ κ Q T pc' L (x :: y :: x :: y :: S)) : oWP ω γ κ Q T pc L (x :: y :: S) := by
  obtain ⟨hx, hby, -, -, -, -, -, -, -, -, -, locs, Y, -⟩ := X
  subst hp
  obtain ⟨s₂, o, hs, r⟩ := K
  exact ⟨s₂, o, XT.dup2 Y.here hx rfl (hb hby hd) rfl hc hc' hs, r⟩
theorem oXpop2L {tb : Tables} [Ours tb] {e : Env} {below : List Frame} {T target : State} {m : MethodId} {c : Code} {g : JFrame} (h : At T m c below) (hx : tb.exec = Jvm.exec) (hg : g.method = m) {x : Int64} {rest : List Value} (hd : decode c.code g.pc = .ok (.pop2, 1)) (hs : g.stack = .long x :: rest)
    (hr : Steps tb e below (T.setTop { g with pc := g.pc + 1, stack := rest }) target) : Steps tb e below (T.setTop g) target := by
  subst hg
  jvm_step h [h.top, hx, hd, hs, Value.category]
  exact hr
theorem ow_pop2L (X : oSt Z ω γ κ T h cs ss) (pc' : Nat) {x : Int64} (hd : decode κ.1 pc = .ok (.pop2, 1)) (hp : pc + 1 = pc') 
    (K : oWP ω γ κ Q T pc' L (S)) : oWP ω γ κ Q T pc L (.long x :: S) := by
  obtain ⟨hx, hby, -, -, -, -, -, -, -, -, -, locs, Y, -⟩ := X
  subst hp
  obtain ⟨s₂, o, hs, r⟩ := K
  exact ⟨s₂, o, oXpop2L Y.here hx rfl (hb hby hd) rfl hs, r⟩
theorem ow_ldcI (X : oSt Z ω γ κ T h cs ss) (pc' i : Nat) {own : String} {idx : Nat} {v : Int32} (hw : tables_1[i]? = some (.constant own idx v)) (ho : κ.2.2.1 = own) (hd : decode κ.1 pc = .ok (.ldc idx, 2)) (hp : pc + 2 = pc')
    (K : oWP ω γ κ Q T pc' L (.int v :: S)) : oWP ω γ κ Q T pc L S := by
  have hw' := oSt_at X i hw
  obtain ⟨hx, hby, -, hown, -, -, -, hZ, -, -, -, locs, Y, -⟩ := X
  subst hp ho
  obtain ⟨s₂, o, hs, r⟩ := K
  exact ⟨s₂, o, Stand.ldcI Y hx hown (mv hZ hw') rfl (hb hby hd) hs, r⟩
theorem ow_ldcWI (X : oSt Z ω γ κ T h cs ss) (pc' i : Nat) {own : String} {idx : Nat} {v : Int32} (hw : tables_1[i]? = some (.constant own idx v)) (ho : κ.2.2.1 = own) (hd : decode κ.1 pc = .ok (.ldc_w idx, 3)) (hp : pc + 3 = pc')
    (K : oWP ω γ κ Q T pc' L (.int v :: S)) : oWP ω γ κ Q T pc L S := by
  have hw' := oSt_at X i hw
  obtain ⟨hx, hby, -, hown, -, -, -, hZ, -, -, -, locs, Y, -⟩ := X
  subst hp ho
  obtain ⟨s₂, o, hs, r⟩ := K
  exact ⟨s₂, o, Stand.ldcWI Y hx hown (mv hZ hw') rfl (hb hby hd) hs, r⟩
theorem ow_ldc2J (X : oSt Z ω γ κ T h cs ss) (pc' i : Nat) {own : String} {idx : Nat} {v : Int64} (hw : tables_1[i]? = some (.constantLong own idx v)) (ho : κ.2.2.1 = own) (hd : decode κ.1 pc = .ok (.ldc2_w idx, 3)) (hp : pc + 3 = pc')
    (K : oWP ω γ κ Q T pc' L (.long v :: S)) : oWP ω γ κ Q T pc L S := by
  have hw' := oSt_at X i hw
  obtain ⟨hx, hby, -, hown, -, -, -, hZ, -, -, -, locs, Y, -⟩ := X
  subst hp ho
  obtain ⟨s₂, o, hs, r⟩ := K
  exact ⟨s₂, o, Stand.ldc2J Y hx hown (mv hZ hw') rfl (hb hby hd) hs, r⟩
theorem ow_goto (X : oSt Z ω γ κ T h cs ss) (pc' : Nat) {o : Int} (hd : decode κ.1 pc = .ok (.goto o, 3)) (hp : (pc : Int) + o = (pc' : Int))
    (K : oWP ω γ κ Q T pc' L S) : oWP ω γ κ Q T pc L S := by
  obtain ⟨hx, hby, -, -, -, -, -, -, -, -, -, locs, Y, -⟩ := X
  obtain ⟨s₂, o, hs, r⟩ := K
  exact ⟨s₂, o, XS.goto Y.here hx rfl (pc0 := pc) rfl (hb hby hd) (by omega) (by omega) hs, r⟩
theorem ow_if (X : oSt Z ω γ κ T h cs ss) (pc' pq : Nat) {cd : ClassFile.Cond} {x : Int32} {o : Int} (hd : decode κ.1 pc = .ok (.ifCond cd o, 3)) (hp : pc + 3 = pc') (hq : (pc : Int) + o = (pq : Int))
    (Ky : ifCond.holds cd x = true → oWP ω γ κ Q T pq L S) (Kn : ifCond.holds cd x = false → oWP ω γ κ Q T pc' L S) : oWP ω γ κ Q T pc L (.int x :: S) := by
  obtain ⟨hx, hby, -, -, -, -, -, -, -, -, -, locs, Y, -⟩ := X
  subst hp
  cases hc : ifCond.holds cd x
  · obtain ⟨s₂, o, hs, r⟩ := Kn hc
    exact ⟨s₂, o, XS.ifNo Y.here hx rfl (hb hby hd) rfl hc hs, r⟩
  · obtain ⟨s₂, o, hs, r⟩ := Ky hc
    exact ⟨s₂, o, XS.ifYes Y.here hx rfl (pc0 := pc) rfl (hb hby hd) rfl hc (by omega) (by omega) hs, r⟩
theorem ow_icmp (X : oSt Z ω γ κ T h cs ss) (pc' pq : Nat) {cd : ClassFile.Cond} {x y : Int32} {o : Int} (hd : decode κ.1 pc = .ok (.if_icmp cd o, 3)) (hp : pc + 3 = pc') (hq : (pc : Int) + o = (pq : Int))
    (Ky : if_icmp.holds cd x y = true → oWP ω γ κ Q T pq L S) (Kn : if_icmp.holds cd x y = false → oWP ω γ κ Q T pc' L S) : oWP ω γ κ Q T pc L (.int y :: .int x :: S) := by
  obtain ⟨hx, hby, -, -, -, -, -, -, -, -, -, locs, Y, -⟩ := X
  subst hp
  cases hc : if_icmp.holds cd x y
  · obtain ⟨s₂, o, hs, r⟩ := Kn hc
    exact ⟨s₂, o, XS.icmpNo Y.here hx rfl (hb hby hd) rfl hc hs, r⟩
  · obtain ⟨s₂, o, hs, r⟩ := Ky hc
    exact ⟨s₂, o, XS.icmpYes Y.here hx rfl (pc0 := pc) rfl (hb hby hd) rfl hc (by omega) (by omega) hs, r⟩
theorem o0 : (0 : Int32).toInt = 0 := rfl
theorem ow_if_eq (X : oSt Z ω γ κ T h cs ss) (pc' pq : Nat) {x : Int32} {o : Int} (hd : decode κ.1 pc = .ok (.ifCond .eq o, 3)) (hp : pc + 3 = pc') (hq : (pc : Int) + o = (pq : Int))
    (Ky : x.toInt = 0 → oWP ω γ κ Q T pq L S) (Kn : x.toInt ≠ 0 → oWP ω γ κ Q T pc' L S) : oWP ω γ κ Q T pc L (.int x :: S) :=
  ow_if X pc' pq hd hp hq (fun q => Ky (by simp only [ifCond.holds, decide_eq_true_eq, decide_eq_false_iff_not, beq_iff_eq, bne_iff_ne, ne_eq, Int32.lt_iff_toInt_lt, Int32.le_iff_toInt_le, ← Int32.toInt_inj, o0, GT.gt, GE.ge, beq_eq_false_iff_ne, bne_eq_false_iff_eq, Decidable.not_not] at q; omega)) (fun q => Kn (by simp only [ifCond.holds, decide_eq_true_eq, decide_eq_false_iff_not, beq_iff_eq, bne_iff_ne, ne_eq, Int32.lt_iff_toInt_lt, Int32.le_iff_toInt_le, ← Int32.toInt_inj, o0, GT.gt, GE.ge, beq_eq_false_iff_ne, bne_eq_false_iff_eq, Decidable.not_not] at q; omega))
theorem ow_icmp_eq (X : oSt Z ω γ κ T h cs ss) (pc' pq : Nat) {x y : Int32} {o : Int} (hd : decode κ.1 pc = .ok (.if_icmp .eq o, 3)) (hp : pc + 3 = pc') (hq : (pc : Int) + o = (pq : Int))
    (Ky : x.toInt = y.toInt → oWP ω γ κ Q T pq L S) (Kn : x.toInt ≠ y.toInt → oWP ω γ κ Q T pc' L S) : oWP ω γ κ Q T pc L (.int y :: .int x :: S) :=
  ow_icmp X pc' pq hd hp hq (fun q => Ky (by simp only [if_icmp.holds, decide_eq_true_eq, decide_eq_false_iff_not, beq_iff_eq, bne_iff_ne, ne_eq, Int32.lt_iff_toInt_lt, Int32.le_iff_toInt_le, ← Int32.toInt_inj, o0, GT.gt, GE.ge, beq_eq_false_iff_ne, bne_eq_false_iff_eq, Decidable.not_not] at q; omega)) (fun q => Kn (by simp only [if_icmp.holds, decide_eq_true_eq, decide_eq_false_iff_not, beq_iff_eq, bne_iff_ne, ne_eq, Int32.lt_iff_toInt_lt, Int32.le_iff_toInt_le, ← Int32.toInt_inj, o0, GT.gt, GE.ge, beq_eq_false_iff_ne, bne_eq_false_iff_eq, Decidable.not_not] at q; omega))
theorem ow_if_ne (X : oSt Z ω γ κ T h cs ss) (pc' pq : Nat) {x : Int32} {o : Int} (hd : decode κ.1 pc = .ok (.ifCond .ne o, 3)) (hp : pc + 3 = pc') (hq : (pc : Int) + o = (pq : Int))
    (Ky : x.toInt ≠ 0 → oWP ω γ κ Q T pq L S) (Kn : x.toInt = 0 → oWP ω γ κ Q T pc' L S) : oWP ω γ κ Q T pc L (.int x :: S) :=
  ow_if X pc' pq hd hp hq (fun q => Ky (by simp only [ifCond.holds, decide_eq_true_eq, decide_eq_false_iff_not, beq_iff_eq, bne_iff_ne, ne_eq, Int32.lt_iff_toInt_lt, Int32.le_iff_toInt_le, ← Int32.toInt_inj, o0, GT.gt, GE.ge, beq_eq_false_iff_ne, bne_eq_false_iff_eq, Decidable.not_not] at q; omega)) (fun q => Kn (by simp only [ifCond.holds, decide_eq_true_eq, decide_eq_false_iff_not, beq_iff_eq, bne_iff_ne, ne_eq, Int32.lt_iff_toInt_lt, Int32.le_iff_toInt_le, ← Int32.toInt_inj, o0, GT.gt, GE.ge, beq_eq_false_iff_ne, bne_eq_false_iff_eq, Decidable.not_not] at q; omega))
theorem ow_icmp_ne (X : oSt Z ω γ κ T h cs ss) (pc' pq : Nat) {x y : Int32} {o : Int} (hd : decode κ.1 pc = .ok (.if_icmp .ne o, 3)) (hp : pc + 3 = pc') (hq : (pc : Int) + o = (pq : Int))
    (Ky : x.toInt ≠ y.toInt → oWP ω γ κ Q T pq L S) (Kn : x.toInt = y.toInt → oWP ω γ κ Q T pc' L S) : oWP ω γ κ Q T pc L (.int y :: .int x :: S) :=
  ow_icmp X pc' pq hd hp hq (fun q => Ky (by simp only [if_icmp.holds, decide_eq_true_eq, decide_eq_false_iff_not, beq_iff_eq, bne_iff_ne, ne_eq, Int32.lt_iff_toInt_lt, Int32.le_iff_toInt_le, ← Int32.toInt_inj, o0, GT.gt, GE.ge, beq_eq_false_iff_ne, bne_eq_false_iff_eq, Decidable.not_not] at q; omega)) (fun q => Kn (by simp only [if_icmp.holds, decide_eq_true_eq, decide_eq_false_iff_not, beq_iff_eq, bne_iff_ne, ne_eq, Int32.lt_iff_toInt_lt, Int32.le_iff_toInt_le, ← Int32.toInt_inj, o0, GT.gt, GE.ge, beq_eq_false_iff_ne, bne_eq_false_iff_eq, Decidable.not_not] at q; omega))
theorem ow_if_lt (X : oSt Z ω γ κ T h cs ss) (pc' pq : Nat) {x : Int32} {o : Int} (hd : decode κ.1 pc = .ok (.ifCond .lt o, 3)) (hp : pc + 3 = pc') (hq : (pc : Int) + o = (pq : Int))
    (Ky : x.toInt < 0 → oWP ω γ κ Q T pq L S) (Kn : 0 ≤ x.toInt → oWP ω γ κ Q T pc' L S) : oWP ω γ κ Q T pc L (.int x :: S) :=
  ow_if X pc' pq hd hp hq (fun q => Ky (by simp only [ifCond.holds, decide_eq_true_eq, decide_eq_false_iff_not, beq_iff_eq, bne_iff_ne, ne_eq, Int32.lt_iff_toInt_lt, Int32.le_iff_toInt_le, ← Int32.toInt_inj, o0, GT.gt, GE.ge, beq_eq_false_iff_ne, bne_eq_false_iff_eq, Decidable.not_not] at q; omega)) (fun q => Kn (by simp only [ifCond.holds, decide_eq_true_eq, decide_eq_false_iff_not, beq_iff_eq, bne_iff_ne, ne_eq, Int32.lt_iff_toInt_lt, Int32.le_iff_toInt_le, ← Int32.toInt_inj, o0, GT.gt, GE.ge, beq_eq_false_iff_ne, bne_eq_false_iff_eq, Decidable.not_not] at q; omega))
theorem ow_icmp_lt (X : oSt Z ω γ κ T h cs ss) (pc' pq : Nat) {x y : Int32} {o : Int} (hd : decode κ.1 pc = .ok (.if_icmp .lt o, 3)) (hp : pc + 3 = pc') (hq : (pc : Int) + o = (pq : Int))
    (Ky : x.toInt < y.toInt → oWP ω γ κ Q T pq L S) (Kn : y.toInt ≤ x.toInt → oWP ω γ κ Q T pc' L S) : oWP ω γ κ Q T pc L (.int y :: .int x :: S) :=
  ow_icmp X pc' pq hd hp hq (fun q => Ky (by simp only [if_icmp.holds, decide_eq_true_eq, decide_eq_false_iff_not, beq_iff_eq, bne_iff_ne, ne_eq, Int32.lt_iff_toInt_lt, Int32.le_iff_toInt_le, ← Int32.toInt_inj, o0, GT.gt, GE.ge, beq_eq_false_iff_ne, bne_eq_false_iff_eq, Decidable.not_not] at q; omega)) (fun q => Kn (by simp only [if_icmp.holds, decide_eq_true_eq, decide_eq_false_iff_not, beq_iff_eq, bne_iff_ne, ne_eq, Int32.lt_iff_toInt_lt, Int32.le_iff_toInt_le, ← Int32.toInt_inj, o0, GT.gt, GE.ge, beq_eq_false_iff_ne, bne_eq_false_iff_eq, Decidable.not_not] at q; omega))
theorem ow_if_ge (X : oSt Z ω γ κ T h cs ss) (pc' pq : Nat) {x : Int32} {o : Int} (hd : decode κ.1 pc = .ok (.ifCond .ge o, 3)) (hp : pc + 3 = pc') (hq : (pc : Int) + o = (pq : Int))
    (Ky : 0 ≤ x.toInt → oWP ω γ κ Q T pq L S) (Kn : x.toInt < 0 → oWP ω γ κ Q T pc' L S) : oWP ω γ κ Q T pc L (.int x :: S) :=
  ow_if X pc' pq hd hp hq (fun q => Ky (by simp only [ifCond.holds, decide_eq_true_eq, decide_eq_false_iff_not, beq_iff_eq, bne_iff_ne, ne_eq, Int32.lt_iff_toInt_lt, Int32.le_iff_toInt_le, ← Int32.toInt_inj, o0, GT.gt, GE.ge, beq_eq_false_iff_ne, bne_eq_false_iff_eq, Decidable.not_not] at q; omega)) (fun q => Kn (by simp only [ifCond.holds, decide_eq_true_eq, decide_eq_false_iff_not, beq_iff_eq, bne_iff_ne, ne_eq, Int32.lt_iff_toInt_lt, Int32.le_iff_toInt_le, ← Int32.toInt_inj, o0, GT.gt, GE.ge, beq_eq_false_iff_ne, bne_eq_false_iff_eq, Decidable.not_not] at q; omega))
theorem ow_icmp_ge (X : oSt Z ω γ κ T h cs ss) (pc' pq : Nat) {x y : Int32} {o : Int} (hd : decode κ.1 pc = .ok (.if_icmp .ge o, 3)) (hp : pc + 3 = pc') (hq : (pc : Int) + o = (pq : Int))
    (Ky : y.toInt ≤ x.toInt → oWP ω γ κ Q T pq L S) (Kn : x.toInt < y.toInt → oWP ω γ κ Q T pc' L S) : oWP ω γ κ Q T pc L (.int y :: .int x :: S) :=
  ow_icmp X pc' pq hd hp hq (fun q => Ky (by simp only [if_icmp.holds, decide_eq_true_eq, decide_eq_false_iff_not, beq_iff_eq, bne_iff_ne, ne_eq, Int32.lt_iff_toInt_lt, Int32.le_iff_toInt_le, ← Int32.toInt_inj, o0, GT.gt, GE.ge, beq_eq_false_iff_ne, bne_eq_false_iff_eq, Decidable.not_not] at q; omega)) (fun q => Kn (by simp only [if_icmp.holds, decide_eq_true_eq, decide_eq_false_iff_not, beq_iff_eq, bne_iff_ne, ne_eq, Int32.lt_iff_toInt_lt, Int32.le_iff_toInt_le, ← Int32.toInt_inj, o0, GT.gt, GE.ge, beq_eq_false_iff_ne, bne_eq_false_iff_eq, Decidable.not_not] at q; omega))
theorem ow_if_gt (X : oSt Z ω γ κ T h cs ss) (pc' pq : Nat) {x : Int32} {o : Int} (hd : decode κ.1 pc = .ok (.ifCond .gt o, 3)) (hp : pc + 3 = pc') (hq : (pc : Int) + o = (pq : Int))
    (Ky : 0 < x.toInt → oWP ω γ κ Q T pq L S) (Kn : x.toInt ≤ 0 → oWP ω γ κ Q T pc' L S) : oWP ω γ κ Q T pc L (.int x :: S) :=
  ow_if X pc' pq hd hp hq (fun q => Ky (by simp only [ifCond.holds, decide_eq_true_eq, decide_eq_false_iff_not, beq_iff_eq, bne_iff_ne, ne_eq, Int32.lt_iff_toInt_lt, Int32.le_iff_toInt_le, ← Int32.toInt_inj, o0, GT.gt, GE.ge, beq_eq_false_iff_ne, bne_eq_false_iff_eq, Decidable.not_not] at q; omega)) (fun q => Kn (by simp only [ifCond.holds, decide_eq_true_eq, decide_eq_false_iff_not, beq_iff_eq, bne_iff_ne, ne_eq, Int32.lt_iff_toInt_lt, Int32.le_iff_toInt_le, ← Int32.toInt_inj, o0, GT.gt, GE.ge, beq_eq_false_iff_ne, bne_eq_false_iff_eq, Decidable.not_not] at q; omega))
theorem ow_icmp_gt (X : oSt Z ω γ κ T h cs ss) (pc' pq : Nat) {x y : Int32} {o : Int} (hd : decode κ.1 pc = .ok (.if_icmp .gt o, 3)) (hp : pc + 3 = pc') (hq : (pc : Int) + o = (pq : Int))
    (Ky : y.toInt < x.toInt → oWP ω γ κ Q T pq L S) (Kn : x.toInt ≤ y.toInt → oWP ω γ κ Q T pc' L S) : oWP ω γ κ Q T pc L (.int y :: .int x :: S) :=
  ow_icmp X pc' pq hd hp hq (fun q => Ky (by simp only [if_icmp.holds, decide_eq_true_eq, decide_eq_false_iff_not, beq_iff_eq, bne_iff_ne, ne_eq, Int32.lt_iff_toInt_lt, Int32.le_iff_toInt_le, ← Int32.toInt_inj, o0, GT.gt, GE.ge, beq_eq_false_iff_ne, bne_eq_false_iff_eq, Decidable.not_not] at q; omega)) (fun q => Kn (by simp only [if_icmp.holds, decide_eq_true_eq, decide_eq_false_iff_not, beq_iff_eq, bne_iff_ne, ne_eq, Int32.lt_iff_toInt_lt, Int32.le_iff_toInt_le, ← Int32.toInt_inj, o0, GT.gt, GE.ge, beq_eq_false_iff_ne, bne_eq_false_iff_eq, Decidable.not_not] at q; omega))
theorem ow_if_le (X : oSt Z ω γ κ T h cs ss) (pc' pq : Nat) {x : Int32} {o : Int} (hd : decode κ.1 pc = .ok (.ifCond .le o, 3)) (hp : pc + 3 = pc') (hq : (pc : Int) + o = (pq : Int))
    (Ky : x.toInt ≤ 0 → oWP ω γ κ Q T pq L S) (Kn : 0 < x.toInt → oWP ω γ κ Q T pc' L S) : oWP ω γ κ Q T pc L (.int x :: S) :=
  ow_if X pc' pq hd hp hq (fun q => Ky (by simp only [ifCond.holds, decide_eq_true_eq, decide_eq_false_iff_not, beq_iff_eq, bne_iff_ne, ne_eq, Int32.lt_iff_toInt_lt, Int32.le_iff_toInt_le, ← Int32.toInt_inj, o0, GT.gt, GE.ge, beq_eq_false_iff_ne, bne_eq_false_iff_eq, Decidable.not_not] at q; omega)) (fun q => Kn (by simp only [ifCond.holds, decide_eq_true_eq, decide_eq_false_iff_not, beq_iff_eq, bne_iff_ne, ne_eq, Int32.lt_iff_toInt_lt, Int32.le_iff_toInt_le, ← Int32.toInt_inj, o0, GT.gt, GE.ge, beq_eq_false_iff_ne, bne_eq_false_iff_eq, Decidable.not_not] at q; omega))
theorem ow_icmp_le (X : oSt Z ω γ κ T h cs ss) (pc' pq : Nat) {x y : Int32} {o : Int} (hd : decode κ.1 pc = .ok (.if_icmp .le o, 3)) (hp : pc + 3 = pc') (hq : (pc : Int) + o = (pq : Int))
    (Ky : x.toInt ≤ y.toInt → oWP ω γ κ Q T pq L S) (Kn : y.toInt < x.toInt → oWP ω γ κ Q T pc' L S) : oWP ω γ κ Q T pc L (.int y :: .int x :: S) :=
  ow_icmp X pc' pq hd hp hq (fun q => Ky (by simp only [if_icmp.holds, decide_eq_true_eq, decide_eq_false_iff_not, beq_iff_eq, bne_iff_ne, ne_eq, Int32.lt_iff_toInt_lt, Int32.le_iff_toInt_le, ← Int32.toInt_inj, o0, GT.gt, GE.ge, beq_eq_false_iff_ne, bne_eq_false_iff_eq, Decidable.not_not] at q; omega)) (fun q => Kn (by simp only [if_icmp.holds, decide_eq_true_eq, decide_eq_false_iff_not, beq_iff_eq, bne_iff_ne, ne_eq, Int32.lt_iff_toInt_lt, Int32.le_iff_toInt_le, ← Int32.toInt_inj, o0, GT.gt, GE.ge, beq_eq_false_iff_ne, bne_eq_false_iff_eq, Decidable.not_not] at q; omega))
theorem ow_lcmp (X : oSt Z ω γ κ T h cs ss) (pc' : Nat) {x y : Int64} (hd : decode κ.1 pc = .ok (.lcmp, 1)) (hp : pc + 1 = pc')
    (K : oWP ω γ κ Q T pc' L (.int (lcmpW x y) :: S)) : oWP ω γ κ Q T pc L (.long y :: .long x :: S) := by
  obtain ⟨hx, hby, -, -, -, -, -, -, -, -, -, locs, Y, -⟩ := X
  subst hp
  obtain ⟨s₂, o, hs, r⟩ := K
  exact ⟨s₂, o, XS.lcmp Y.here hx rfl (hb hby hd) rfl hs, r⟩
theorem ow_lcmp_eq (X : oSt Z ω γ κ T h cs ss) (pc1 pc' pq : Nat) {x y : Int64} {o : Int} (hd : decode κ.1 pc = .ok (.lcmp, 1)) (hp1 : pc + 1 = pc1) (hd' : decode κ.1 pc1 = .ok (.ifCond .eq o, 3)) (hp : pc1 + 3 = pc') (hq : (pc1 : Int) + o = (pq : Int))
    (Ky : x.toInt = y.toInt → oWP ω γ κ Q T pq L S) (Kn : x.toInt ≠ y.toInt → oWP ω γ κ Q T pc' L S) : oWP ω γ κ Q T pc L (.long y :: .long x :: S) := by
  refine ow_lcmp X pc1 hd hp1 (ow_if_eq X pc' pq hd' hp hq (fun q => Ky ?_) (fun q => Kn ?_))
  · obtain ⟨c1, c2, c3⟩ := c_lcmp x y
    rcases Int.lt_trichotomy x.toInt y.toInt with a | a | a
    · have := c1 a; omega
    · have := c2 a; omega
    · have := c3 a; omega
  · obtain ⟨c1, c2, c3⟩ := c_lcmp x y
    rcases Int.lt_trichotomy x.toInt y.toInt with a | a | a
    · have := c1 a; omega
    · have := c2 a; omega
    · have := c3 a; omega
theorem ow_lcmp_ne (X : oSt Z ω γ κ T h cs ss) (pc1 pc' pq : Nat) {x y : Int64} {o : Int} (hd : decode κ.1 pc = .ok (.lcmp, 1)) (hp1 : pc + 1 = pc1) (hd' : decode κ.1 pc1 = .ok (.ifCond .ne o, 3)) (hp : pc1 + 3 = pc') (hq : (pc1 : Int) + o = (pq : Int))
    (Ky : x.toInt ≠ y.toInt → oWP ω γ κ Q T pq L S) (Kn : x.toInt = y.toInt → oWP ω γ κ Q T pc' L S) : oWP ω γ κ Q T pc L (.long y :: .long x :: S) := by
  refine ow_lcmp X pc1 hd hp1 (ow_if_ne X pc' pq hd' hp hq (fun q => Ky ?_) (fun q => Kn ?_))
  · obtain ⟨c1, c2, c3⟩ := c_lcmp x y
    rcases Int.lt_trichotomy x.toInt y.toInt with a | a | a
    · have := c1 a; omega
    · have := c2 a; omega
    · have := c3 a; omega
  · obtain ⟨c1, c2, c3⟩ := c_lcmp x y
    rcases Int.lt_trichotomy x.toInt y.toInt with a | a | a
    · have := c1 a; omega
    · have := c2 a; omega
    · have := c3 a; omega
theorem ow_lcmp_lt (X : oSt Z ω γ κ T h cs ss) (pc1 pc' pq : Nat) {x y : Int64} {o : Int} (hd : decode κ.1 pc = .ok (.lcmp, 1)) (hp1 : pc + 1 = pc1) (hd' : decode κ.1 pc1 = .ok (.ifCond .lt o, 3)) (hp : pc1 + 3 = pc') (hq : (pc1 : Int) + o = (pq : Int))
    (Ky : x.toInt < y.toInt → oWP ω γ κ Q T pq L S) (Kn : y.toInt ≤ x.toInt → oWP ω γ κ Q T pc' L S) : oWP ω γ κ Q T pc L (.long y :: .long x :: S) := by
  refine ow_lcmp X pc1 hd hp1 (ow_if_lt X pc' pq hd' hp hq (fun q => Ky ?_) (fun q => Kn ?_))
  · obtain ⟨c1, c2, c3⟩ := c_lcmp x y
    rcases Int.lt_trichotomy x.toInt y.toInt with a | a | a
    · have := c1 a; omega
    · have := c2 a; omega
    · have := c3 a; omega
  · obtain ⟨c1, c2, c3⟩ := c_lcmp x y
    rcases Int.lt_trichotomy x.toInt y.toInt with a | a | a
    · have := c1 a; omega
    · have := c2 a; omega
    · have := c3 a; omega
theorem ow_lcmp_ge (X : oSt Z ω γ κ T h cs ss) (pc1 pc' pq : Nat) {x y : Int64} {o : Int} (hd : decode κ.1 pc = .ok (.lcmp, 1)) (hp1 : pc + 1 = pc1) (hd' : decode κ.1 pc1 = .ok (.ifCond .ge o, 3)) (hp : pc1 + 3 = pc') (hq : (pc1 : Int) + o = (pq : Int))
    (Ky : y.toInt ≤ x.toInt → oWP ω γ κ Q T pq L S) (Kn : x.toInt < y.toInt → oWP ω γ κ Q T pc' L S) : oWP ω γ κ Q T pc L (.long y :: .long x :: S) := by
  refine ow_lcmp X pc1 hd hp1 (ow_if_ge X pc' pq hd' hp hq (fun q => Ky ?_) (fun q => Kn ?_))
  · obtain ⟨c1, c2, c3⟩ := c_lcmp x y
    rcases Int.lt_trichotomy x.toInt y.toInt with a | a | a
    · have := c1 a; omega
    · have := c2 a; omega
    · have := c3 a; omega
  · obtain ⟨c1, c2, c3⟩ := c_lcmp x y
    rcases Int.lt_trichotomy x.toInt y.toInt with a | a | a
    · have := c1 a; omega
    · have := c2 a; omega
    · have := c3 a; omega
theorem ow_lcmp_gt (X : oSt Z ω γ κ T h cs ss) (pc1 pc' pq : Nat) {x y : Int64} {o : Int} (hd : decode κ.1 pc = .ok (.lcmp, 1)) (hp1 : pc + 1 = pc1) (hd' : decode κ.1 pc1 = .ok (.ifCond .gt o, 3)) (hp : pc1 + 3 = pc') (hq : (pc1 : Int) + o = (pq : Int))
    (Ky : y.toInt < x.toInt → oWP ω γ κ Q T pq L S) (Kn : x.toInt ≤ y.toInt → oWP ω γ κ Q T pc' L S) : oWP ω γ κ Q T pc L (.long y :: .long x :: S) := by
  refine ow_lcmp X pc1 hd hp1 (ow_if_gt X pc' pq hd' hp hq (fun q => Ky ?_) (fun q => Kn ?_))
  · obtain ⟨c1, c2, c3⟩ := c_lcmp x y
    rcases Int.lt_trichotomy x.toInt y.toInt with a | a | a
    · have := c1 a; omega
    · have := c2 a; omega
    · have := c3 a; omega
  · obtain ⟨c1, c2, c3⟩ := c_lcmp x y
    rcases Int.lt_trichotomy x.toInt y.toInt with a | a | a
    · have := c1 a; omega
    · have := c2 a; omega
    · have := c3 a; omega
theorem ow_lcmp_le (X : oSt Z ω γ κ T h cs ss) (pc1 pc' pq : Nat) {x y : Int64} {o : Int} (hd : decode κ.1 pc = .ok (.lcmp, 1)) (hp1 : pc + 1 = pc1) (hd' : decode κ.1 pc1 = .ok (.ifCond .le o, 3)) (hp : pc1 + 3 = pc') (hq : (pc1 : Int) + o = (pq : Int))
    (Ky : x.toInt ≤ y.toInt → oWP ω γ κ Q T pq L S) (Kn : y.toInt < x.toInt → oWP ω γ κ Q T pc' L S) : oWP ω γ κ Q T pc L (.long y :: .long x :: S) := by
  refine ow_lcmp X pc1 hd hp1 (ow_if_le X pc' pq hd' hp hq (fun q => Ky ?_) (fun q => Kn ?_))
  · obtain ⟨c1, c2, c3⟩ := c_lcmp x y
    rcases Int.lt_trichotomy x.toInt y.toInt with a | a | a
    · have := c1 a; omega
    · have := c2 a; omega
    · have := c3 a; omega
  · obtain ⟨c1, c2, c3⟩ := c_lcmp x y
    rcases Int.lt_trichotomy x.toInt y.toInt with a | a | a
    · have := c1 a; omega
    · have := c2 a; omega
    · have := c3 a; omega
theorem ow_ifnull (X : oSt Z ω γ κ T h cs ss) (pc' pq : Nat) {v : Value} {o : Int} (hv : v.isRef = true) (hd : decode κ.1 pc = .ok (.ifnull o, 3)) (hp : pc + 3 = pc') (hq : (pc : Int) + o = (pq : Int))
    (Ky : v = .null → oWP ω γ κ Q T pq L S) (Kn : v ≠ .null → oWP ω γ κ Q T pc' L S) : oWP ω γ κ Q T pc L (v :: S) := by
  obtain ⟨hx, hby, -, -, -, -, -, -, -, -, -, locs, Y, -⟩ := X
  subst hp
  rcases ref_cases hv with rfl | ⟨a, rfl⟩
  · obtain ⟨s₂, o, hs, r⟩ := Ky rfl
    exact ⟨s₂, o, XS.ifnullYes Y.here hx rfl (pc0 := pc) rfl (hb hby hd) rfl (by omega) (by omega) hs, r⟩
  · obtain ⟨s₂, o, hs, r⟩ := Kn (by simp)
    exact ⟨s₂, o, XS.ifnullNo Y.here hx rfl (hb hby hd) rfl hs, r⟩
theorem ow_ifnonnull (X : oSt Z ω γ κ T h cs ss) (pc' pq : Nat) {v : Value} {o : Int} (hv : v.isRef = true) (hd : decode κ.1 pc = .ok (.ifnonnull o, 3)) (hp : pc + 3 = pc') (hq : (pc : Int) + o = (pq : Int))
    (Ky : v ≠ .null → oWP ω γ κ Q T pq L S) (Kn : v = .null → oWP ω γ κ Q T pc' L S) : oWP ω γ κ Q T pc L (v :: S) := by
  obtain ⟨hx, hby, -, -, -, -, -, -, -, -, -, locs, Y, -⟩ := X
  subst hp
  rcases ref_cases hv with rfl | ⟨a, rfl⟩
  · obtain ⟨s₂, o, hs, r⟩ := Kn rfl
    exact ⟨s₂, o, XS.ifnonnullNo Y.here hx rfl (hb hby hd) rfl hs, r⟩
  · obtain ⟨s₂, o, hs, r⟩ := Ky (by simp)
    exact ⟨s₂, o, XS.ifnonnullYes Y.here hx rfl (pc0 := pc) rfl (hb hby hd) rfl (by omega) (by omega) hs, r⟩
theorem ow_acmp_eq (X : oSt Z ω γ κ T h cs ss) (pc' pq : Nat) {v w : Value} {o : Int} (hv : v.isRef = true) (hw : w.isRef = true) (hd : decode κ.1 pc = .ok (.if_acmp .eq o, 3)) (hp : pc + 3 = pc') (hq : (pc : Int) + o = (pq : Int))
    (Ky : v = w → oWP ω γ κ Q T pq L S) (Kn : v ≠ w → oWP ω γ κ Q T pc' L S) : oWP ω γ κ Q T pc L (w :: v :: S) := by
  obtain ⟨hx, hby, -, -, -, -, -, -, -, -, -, locs, Y, -⟩ := X
  subst hp
  by_cases e : v = w
  · obtain ⟨s₂, o, hs, r⟩ := Ky e
    exact ⟨s₂, o, RoadKit.acmp Y hx rfl hv hw (pc0 := pc) rfl (hb hby hd) rfl (same := true) (by simp [e]) (by omega) (by simp [acV]; omega) hs, r⟩
  · obtain ⟨s₂, o, hs, r⟩ := Kn e
    exact ⟨s₂, o, RoadKit.acmp Y hx rfl hv hw (pc0 := pc) rfl (hb hby hd) rfl (same := false) (by simp [e]) (by omega) (by simp [acV]) hs, r⟩
theorem ow_acmp_ne (X : oSt Z ω γ κ T h cs ss) (pc' pq : Nat) {v w : Value} {o : Int} (hv : v.isRef = true) (hw : w.isRef = true) (hd : decode κ.1 pc = .ok (.if_acmp .ne o, 3)) (hp : pc + 3 = pc') (hq : (pc : Int) + o = (pq : Int))
    (Ky : v ≠ w → oWP ω γ κ Q T pq L S) (Kn : v = w → oWP ω γ κ Q T pc' L S) : oWP ω γ κ Q T pc L (w :: v :: S) := by
  obtain ⟨hx, hby, -, -, -, -, -, -, -, -, -, locs, Y, -⟩ := X
  subst hp
  by_cases e : v = w
  · obtain ⟨s₂, o, hs, r⟩ := Kn e
    exact ⟨s₂, o, RoadKit.acmp Y hx rfl hv hw (pc0 := pc) rfl (hb hby hd) rfl (same := true) (by simp [e]) (by omega) (by simp [acV]) hs, r⟩
  · obtain ⟨s₂, o, hs, r⟩ := Ky e
    exact ⟨s₂, o, RoadKit.acmp Y hx rfl hv hw (pc0 := pc) rfl (hb hby hd) rfl (same := false) (by simp [e]) (by omega) (by simp [acV]; omega) hs, r⟩
theorem ow_ret (X : oSt Z ω γ κ T h cs ss) {w : Value} {t : FieldType} {i : Instr} (hret : κ.2.2.2.2.1 = some t) (hn : narrow t w = w)
    (hi : (i = .ireturn ∧ (t = .int ∨ t = .boolean ∨ t = .byte ∨ t = .char ∨ t = .short) ∧ ∃ z, w = .int z) ∨ (i = .lreturn ∧ t = .long ∧ ∃ z, w = .long z) ∨ (i = .dreturn ∧ t = .double ∧ ∃ z, w = .double z) ∨ (i = .freturn ∧ t = .float ∧ ∃ z, w = .float z) ∨ (i = .areturn ∧ t.isReference = true ∧ w.isRef = true))
    (hd : decode κ.1 pc = .ok (i, 1)) (hc : cs ≤ κ.2.2.2.2.2.cells) (hsl : ss ≤ κ.2.2.2.2.2.slots) (hQ : Q (some w) h) : oWP ω γ κ Q T pc L (w :: S) := by
  obtain ⟨hx, hby, -, -, -, hr, hlk, -, -, ⟨-, k0, hS, hk⟩, hT, locs, Y, N⟩ := X
  obtain ⟨fs, hl, hrun, hended, -, hW, hB, hsame⟩ := Stand.leaveW (s := γ.2.2.1.setVm γ.2.2.2.2.2.2.2.2) (vm₁ := γ.2.2.1.vm) Y hS (by rw [hT]; exact hk) (v := some w) (fun q => by rw [hr, hret] at q; cases q) hlk
  refine ⟨_, _, retOut Y hx (hr.trans hret) hn hi (hb hby hd) hl, hrun, hended, _, locs, rfl, ⟨N, ?_⟩, ⟨_, rfl⟩, hW, hB, hsame.mono hc hsl⟩
  show Q (some w) T.heap
  rw [hT]; exact hQ
theorem ow_retI (X : oSt Z ω γ κ T h cs ss) {z : Int32} (hret : κ.2.2.2.2.1 = some .int) (hd : decode κ.1 pc = .ok (.ireturn, 1)) (hc : cs ≤ κ.2.2.2.2.2.cells) (hsl : ss ≤ κ.2.2.2.2.2.slots) (hQ : Q (some (.int z)) h) : oWP ω γ κ Q T pc L (.int z :: S) :=
  ow_ret X hret rfl (Or.inl ⟨rfl, Or.inl rfl, z, rfl⟩) hd hc hsl hQ
theorem ow_retZ (X : oSt Z ω γ κ T h cs ss) {z : Int32} (hret : κ.2.2.2.2.1 = some .boolean) (hd : decode κ.1 pc = .ok (.ireturn, 1)) (hc : cs ≤ κ.2.2.2.2.2.cells) (hsl : ss ≤ κ.2.2.2.2.2.slots) (hz : z = 0 ∨ z = 1) (hQ : Q (some (.int z)) h) : oWP ω γ κ Q T pc L (.int z :: S) :=
  ow_ret X hret (by rcases hz with rfl | rfl <;> rfl) (Or.inl ⟨rfl, Or.inr (Or.inl rfl), z, rfl⟩) hd hc hsl hQ
theorem ow_retC (X : oSt Z ω γ κ T h cs ss) {z : Int32} (hret : κ.2.2.2.2.1 = some .char) (hd : decode κ.1 pc = .ok (.ireturn, 1)) (hc : cs ≤ κ.2.2.2.2.2.cells) (hsl : ss ≤ κ.2.2.2.2.2.slots) (hz : z.toUInt32.toUInt16.toUInt32.toInt32 = z) (hQ : Q (some (.int z)) h) : oWP ω γ κ Q T pc L (.int z :: S) :=
  ow_ret X hret (by show Value.int z.toUInt32.toUInt16.toUInt32.toInt32 = _; rw [hz]) (Or.inl ⟨rfl, Or.inr (Or.inr (Or.inr (Or.inl rfl))), z, rfl⟩) hd hc hsl hQ
theorem ow_retJ (X : oSt Z ω γ κ T h cs ss) {z : Int64} (hret : κ.2.2.2.2.1 = some .long) (hd : decode κ.1 pc = .ok (.lreturn, 1)) (hc : cs ≤ κ.2.2.2.2.2.cells) (hsl : ss ≤ κ.2.2.2.2.2.slots) (hQ : Q (some (.long z)) h) : oWP ω γ κ Q T pc L (.long z :: S) :=
  ow_ret X hret rfl (Or.inr (Or.inl ⟨rfl, rfl, z, rfl⟩)) hd hc hsl hQ
theorem ow_retA (X : oSt Z ω γ κ T h cs ss) {v : Value} {t : FieldType} (hret : κ.2.2.2.2.1 = some t) (ht : t.isReference = true) (hv : v.isRef = true) (hd : decode κ.1 pc = .ok (.areturn, 1)) (hc : cs ≤ κ.2.2.2.2.2.cells) (hsl : ss ≤ κ.2.2.2.2.2.slots) (hQ : Q (some v) h) : oWP ω γ κ Q T pc L (v :: S) :=
  ow_ret X hret (by cases t <;> first | rfl | cases ht) (Or.inr (Or.inr (Or.inr (Or.inr ⟨rfl, ht, hv⟩)))) hd hc hsl hQ
theorem ow_retV (X : oSt Z ω γ κ T h cs ss) (hret : κ.2.2.2.2.1 = none) (hd : decode κ.1 pc = .ok (.return_, 1)) (hc : cs ≤ κ.2.2.2.2.2.cells) (hsl : ss ≤ κ.2.2.2.2.2.slots) (hQ : Q none h) : oWP ω γ κ Q T pc L [] := by
  obtain ⟨hx, hby, -, -, -, hr, hlk, -, -, ⟨-, k0, hS, hk⟩, hT, locs, Y, N⟩ := X
  obtain ⟨fs, hl, hrun, hended, -, hW, hB, hsame⟩ := Stand.leaveW (s := γ.2.2.1.setVm γ.2.2.2.2.2.2.2.2) (vm₁ := γ.2.2.1.vm) Y hS (by rw [hT]; exact hk) (v := none) (fun _ => rfl) hlk
  refine ⟨_, _, Y.returnOut hx (hr.trans hret) (hb hby hd) hl, hrun, hended, _, locs, rfl, ⟨N, ?_⟩, ⟨_, rfl⟩, hW, hB, hsame.mono hc hsl⟩
  show Q none T.heap
  rw [hT]; exact hQ
theorem ow_getF (X : oSt Z ω γ κ T h cs ss) (pc' i : Nat) {own O n d : String} {idx : Nat} {a : Addr} {v : Value} (hw : tables_1[i]? = some (.fieldLink own idx O n d)) (ho : κ.2.2.1 = own) (F : Fld Z h a O n d v) (hd : decode κ.1 pc = .ok (.getfield idx, 3)) (hp : pc + 3 = pc')
    (K : ∀ T', oSt Z ω γ κ T' h cs ss → oWP ω γ κ Q T' pc' L (v :: S)) : oWP ω γ κ Q T pc L (.ref a :: S) := by
  have hw' := oSt_at X i hw
  obtain ⟨hx, hby, hml, hown, hnm, hr, hlk, hZ, hT1, hn0, hT, locs, Y, N⟩ := X
  subst hp ho
  obtain ⟨T', Y', e', st⟩ := getF Y hx hZ hown (host := "") (Or.inl hw') Via.refl hT F (g := mkF γ.2.2.2.1 pc L (.ref a :: S)) rfl rfl (hb hby hd)
  obtain ⟨s₂, o, hs, r⟩ := K T' ⟨hx, hby, hml, hown, hnm, hr, hlk, hZ, hT1, hn0, e', locs, Y', N⟩
  exact ⟨s₂, o, st _ hs, r⟩
theorem ow_getS (X : oSt Z ω γ κ T h cs ss) (pc' i : Nat) {own O n d : String} {idx : Nat} {v : Value} (hw : tables_1[i]? = some (.fieldLink own idx O n d)) (ho : κ.2.2.1 = own) (F : Sta Z h O n d v) (hd : decode κ.1 pc = .ok (.getstatic idx, 3)) (hp : pc + 3 = pc')
    (K : ∀ T', oSt Z ω γ κ T' h cs ss → oWP ω γ κ Q T' pc' L (v :: S)) : oWP ω γ κ Q T pc L S := by
  have hw' := oSt_at X i hw
  obtain ⟨hx, hby, hml, hown, hnm, hr, hlk, hZ, hT1, hn0, hT, locs, Y, N⟩ := X
  subst hp ho
  obtain ⟨T', Y', e', st⟩ := getS Y hx hZ hown hw' Via.refl hT F (g := mkF γ.2.2.2.1 pc L S) rfl (hb hby hd) (host := "")
  obtain ⟨s₂, o, hs, r⟩ := K T' ⟨hx, hby, hml, hown, hnm, hr, hlk, hZ, hT1, hn0, e', locs, Y', N⟩
  exact ⟨s₂, o, st _ hs, r⟩
theorem ow_cast (X : oSt Z ω γ κ T h cs ss) (pc' i : Nat) {own K : String} {idx : Nat} {a : Addr} (hw : tables_1[i]? = some (.classLink own idx K)) (ho : κ.2.2.1 = own) (F : Ins Z h a K true) (hd : decode κ.1 pc = .ok (.checkcast idx, 3)) (hp : pc + 3 = pc')
    (K' : ∀ T', oSt Z ω γ κ T' h cs ss → oWP ω γ κ Q T' pc' L (.ref a :: S)) : oWP ω γ κ Q T pc L (.ref a :: S) := by
  have hw' := oSt_at X i hw
  obtain ⟨hx, hby, hml, hown, hnm, hr, hlk, hZ, hT1, hn0, hT, locs, Y, N⟩ := X
  subst hp ho
  obtain ⟨T', Y', e', st⟩ := castY Y hx hZ hown hw' hT F (g := mkF γ.2.2.2.1 pc L (.ref a :: S)) rfl rfl (hb hby hd)
  obtain ⟨s₂, o, hs, r⟩ := K' T' ⟨hx, hby, hml, hown, hnm, hr, hlk, hZ, hT1, hn0, e', locs, Y', N⟩
  exact ⟨s₂, o, st _ hs, r⟩
theorem ow_putF (X : oSt Z ω γ κ T h cs ss) (pc' i k : Nat) {own O n d C : String} {idx kk : Nat} {a : Addr} {v old : Value} {ty : FieldType} (hw : tables_1[i]? = some (.fieldLink own idx O n d)) (ho : κ.2.2.1 = own) (F : Fld Z h a O n d old) (E : Exa Z h a C)
    (hl : (Jvm.Cond.lays C O n d).before ω.2.2 Z = true ∨ ((Jvm.Cond.laysFinal C O n d).before ω.2.2 Z = true ∧ κ.2.2.1 = O ∧ κ.2.2.2.1 = "<init>")) (hi : tables_1[k]? = some (.instantiable C kk)) (hty : parseFieldDescriptor d = some ty) (hn : narrow ty v = v) (hf : fits ty v = true) (ha : ω.2.1 ≤ a)
    (hd : decode κ.1 pc = .ok (.putfield idx, 3)) (hp : pc + 3 = pc')
    (K : ∀ T' h', oSt Z ω γ κ T' h' cs ss → Wr h h' a (RoadKit.slotOf Z O n d) v → oWP ω γ κ Q T' pc' L S) : oWP ω γ κ Q T pc L (v :: .ref a :: S) := by
  have hw' := oSt_at X i hw
  have hi' := oSt_at X k hi
  obtain ⟨hx, hby, hml, hown, hnm, hr, hlk, hZ, hT1, hn0, hT, locs, Y, N⟩ := X
  subst hp ho
  obtain ⟨T', h', Y', e', W, st⟩ := putF Y hx hZ hown (host := "") (Or.inl hw') Via.refl hT F E (hl.imp id fun q => ⟨q.1, q.2.1, hnm.trans q.2.2⟩) hi' hty hn hf (g := mkF γ.2.2.2.1 pc L (v :: .ref a :: S)) rfl rfl (hb hby hd)
  obtain ⟨s₂, o, hs, r⟩ := K T' h' ⟨hx, hby, hml, hown, hnm, hr, hlk, hZ, hT1, oSnW hn0 W, e', _, Y', Fr.snoc Y' N ha⟩ W
  exact ⟨s₂, o, st _ hs, r⟩
theorem ow_new (X : oSt Z ω γ κ T h cs ss) (pc' i1 i2 i3 : Nat) {own C : String} {idx n : Nat} (w1 : tables_1[i1]? = some (.classLink own idx C)) (ho : κ.2.2.1 = own) (w2 : tables_1[i2]? = some (.instantiable C n)) (w3 : tables_1[i3]? = some (.initialized C))
    (hd : decode κ.1 pc = .ok (.new idx, 3)) (hp : pc + 3 = pc') (hc : cs + 1 ≤ κ.2.2.2.2.2.cells) (hsl : ss + n ≤ κ.2.2.2.2.2.slots)
    (K : ∀ T' h' a, a = h.size → oSt Z ω γ κ T' h' (cs + 1) (ss + n) → Ext h h' → Exa Z h' a C → (∀ {O nm d : String} {ty : FieldType}, Laid Z ω.2.2 C O nm d → parseFieldDescriptor d = some ty → Fld Z h' a O nm d (defaultValue ty)) → ω.2.1 ≤ a → oWP ω γ κ Q T' pc' L (.ref a :: S)) : oWP ω γ κ Q T pc L S := by
  have w1' := oSt_at X i1 w1
  have w2' := oSt_at X i2 w2
  have w3' := oSt_at X i3 w3
  have hN := oSt_n0 X
  obtain ⟨hx, hby, hml, hown, hnm, hr, hlk, hZ, hT1, hn0, hT, locs, Y, N⟩ := X
  subst hp ho
  obtain ⟨T', h', Y', e', E, A, D, -, st⟩ := newO Y hx hZ hown w1' w2' w3' hT (g := mkF γ.2.2.2.1 pc L S) rfl (hb hby hd) hc hsl
  obtain ⟨s₂, o, hs, r⟩ := K T' h' h.size rfl ⟨hx, hby, hml, hown, hnm, hr, hlk, hZ, hT1, oSnE hn0 E, e', _, Y', N⟩ E A D hN
  exact ⟨s₂, o, st _ hs, r⟩
theorem ow_initO (X : oSt Z ω γ κ T h cs ss) (pc' i1 i2 i3 : Nat) {own : String} {idx : Nat} {a : Addr} (w1 : tables_1[i1]? = some (.methodLink own idx Lib.objectInit)) (ho : κ.2.2.1 = own) (w2 : tables_1[i2]? = some (.instanceMethod Lib.objectInit)) (w3 : tables_1[i3]? = some (.code Lib.objectInit ⟨#[0xb1]⟩ 1 none))
    (hd : decode κ.1 pc = .ok (.invokespecial idx, 3)) (hp : pc + 3 = pc') (hL : L.size = κ.2.1) (hf : 1 ≤ κ.2.2.2.2.2.frames) {W : Nat} (hW : (S.map fun v => v.category).sum ≤ W) (hl : W + 12 ≤ κ.2.2.2.2.2.locals)
    (K : ∀ T', oSt Z ω γ κ T' h cs ss → oWP ω γ κ Q T' pc' L S) : oWP ω γ κ Q T pc L (.ref a :: S) := by
  have w1' := oSt_at X i1 w1
  have w2' := oSt_at X i2 w2
  have w3' := oSt_at X i3 w3
  obtain ⟨hx, hby, hml, hown, hnm, hr, hlk, hZ, hT1, hn0, hT, locs, Y, N⟩ := X
  subst hp ho
  obtain ⟨T', Y', e', st⟩ := initO Y hx hZ hown w1' w2' w3' hT (g := mkF γ.2.2.2.1 pc L (.ref a :: S)) rfl (by rw [hml]; exact hL) rfl (hb hby hd) hf (W := W) (by show 2 * 0 + _ ≤ _; omega) hl
  obtain ⟨s₂, o, hs, r⟩ := K T' ⟨hx, hby, hml, hown, hnm, hr, hlk, hZ, hT1, hn0, e', _, Y', N⟩
  exact ⟨s₂, o, st _ hs, r⟩
theorem ow_callS (X : oSt Z ω γ κ T h cs ss) (pc' i1 i2 i3 i4 : Nat) {own : String} {idx : Nat} {y : MethodName} {κ' : OM} {Q' : Option Value → Heap → Prop} {as : List Value} {ps : List FieldType} {rt : Option FieldType} {W : Nat} {S0 : List Value}
    (w1 : tables_1[i1]? = some (.methodLink own idx y)) (ho : κ.2.2.1 = own) (w2 : tables_1[i2]? = some (.static y)) (w3 : tables_1[i3]? = some (.initialized y.cls)) (w4 : tables_1[i4]? = some (.code y κ'.1 κ'.2.1 κ'.2.2.2.2.1)) (hy : y.cls ≠ "java/lang/invoke/MethodHandle" ∧ y.cls ≠ "java/lang/invoke/VarHandle")
    (C : oC Z ω y κ' [] as.toArray h Q') (hf : κ'.2.2.2.2.2.frames + 1 ≤ κ.2.2.2.2.2.frames) (hl : W + (κ'.2.1 + 11) + κ'.2.2.2.2.2.locals ≤ κ.2.2.2.2.2.locals) (hW : (S.map fun v => v.category).sum ≤ W) (hc : cs + κ'.2.2.2.2.2.cells ≤ κ.2.2.2.2.2.cells) (hs : ss + κ'.2.2.2.2.2.slots ≤ κ.2.2.2.2.2.slots)
    (hpd : parseMethodDescriptor y.desc = some ⟨ps, rt⟩) (hlen : as.length = ps.length) (hS : S0 = as.reverse ++ S) (hL : L.size = κ.2.1) (hd : decode κ.1 pc = .ok (.invokestatic idx, 3)) (hp : pc + 3 = pc')
    (K : ∀ (γ : OG) v T' h', oSt Z ω γ κ T' h' (cs + κ'.2.2.2.2.2.cells) (ss + κ'.2.2.2.2.2.slots) → Q' v h' → oWP ω γ κ Q T' pc' L (v.toList ++ S)) : oWP ω γ κ Q T pc L S0 := by
  have w1' := oSt_at X i1 w1
  have w2' := oSt_at X i2 w2
  have w3' := oSt_at X i3 w3
  have w4' := oSt_at X i4 w4
  have X_ := X
  obtain ⟨hx, hby, hml, hown, hnm, hr, hlk, hZ, hT1, hn0, hT, locs, Y, N⟩ := X
  subst hp ho hS
  obtain ⟨v, vm₁, ⟨T', L', k', n'⟩, -, Y', hS2, hgr, ⟨Lc, ⟨hF, hQ⟩, q1, q2, q3⟩, st⟩ := RoadKit.callSS Y hx (y := y) hown (mvT hZ w1') (mvT hZ w2') (mvT hZ w3') (mvT hZ w4') hy (backOfS (W := W) (Q := fun v hh Lc => Fr ω.2.1 Lc ∧ Q' v hh) (bytes := κ'.1) (maxL := κ'.2.1) (ret := κ'.2.2.2.2.1) (rm := κ'.2.2.2.2.2) C hZ w4' w3' hf hl) (g := mkF γ.2.2.2.1 pc L (as.reverse ++ S)) rfl (by rw [hml]; exact hL) (argsL := as) (rest := S) (lenOf hpd hlen) rfl (by show 2 * 0 + _ ≤ _; omega) (hb hby hd) (fun _ _ => ⟨rfl, hT, hc, hs⟩)
  dsimp only [Pt.U, Pt.locs, Pt.cells, Pt.slots] at Y' hS2 hgr q1 q2 q3 st hQ
  subst q1 q2 q3
  obtain ⟨s₂, o, hs, r⟩ := K _ v T' T'.heap (oReb X_ Y' hS2 hgr (N.app hF)) hQ
  exact ⟨s₂, o, st.trans hs, r⟩
theorem ow_callC (X : oSt Z ω γ κ T h cs ss) (pc' i1 i2 i3 i4 : Nat) {own : String} {idx : Nat} {y : MethodName} {κ' : OM} {Q' : Option Value → Heap → Prop} {a : Addr} {as : List Value} {ps : List FieldType} {rt : Option FieldType} {W : Nat} {S0 : List Value}
    (hy1 : y.name = "<init>") (w1 : tables_1[i1]? = some (.methodLink own idx y)) (ho : κ.2.2.1 = own) (w2 : tables_1[i2]? = some (.instanceMethod y)) (w3 : tables_1[i3]? = some (.initialized y.cls)) (w4 : tables_1[i4]? = some (.code y κ'.1 κ'.2.1 κ'.2.2.2.2.1)) (hr0 : κ'.2.2.2.2.1 = none) (hy : y.cls ≠ "java/lang/invoke/MethodHandle" ∧ y.cls ≠ "java/lang/invoke/VarHandle")
    (C : oC Z ω y κ' [] (.ref a :: as).toArray h Q') (hf : κ'.2.2.2.2.2.frames + 1 ≤ κ.2.2.2.2.2.frames) (hl : W + (κ'.2.1 + 11) + κ'.2.2.2.2.2.locals ≤ κ.2.2.2.2.2.locals) (hW : (S.map fun v => v.category).sum ≤ W) (hc : cs + κ'.2.2.2.2.2.cells ≤ κ.2.2.2.2.2.cells) (hs : ss + κ'.2.2.2.2.2.slots ≤ κ.2.2.2.2.2.slots)
    (hpd : parseMethodDescriptor y.desc = some ⟨ps, rt⟩) (hlen : as.length = ps.length) (hS : S0 = as.reverse ++ .ref a :: S) (hL : L.size = κ.2.1) (hd : decode κ.1 pc = .ok (.invokespecial idx, 3)) (hp : pc + 3 = pc')
    (K : ∀ (γ : OG) v T' h', oSt Z ω γ κ T' h' (cs + κ'.2.2.2.2.2.cells) (ss + κ'.2.2.2.2.2.slots) → Q' v h' → oWP ω γ κ Q T' pc' L (v.toList ++ S)) : oWP ω γ κ Q T pc L S0 := by
  have w1' := oSt_at X i1 w1
  have w2' := oSt_at X i2 w2
  have w3' := oSt_at X i3 w3
  have w4' := oSt_at X i4 w4
  have X_ := X
  obtain ⟨hx, hby, hml, hown, hnm, hr, hlk, hZ, hT1, hn0, hT, locs, Y, N⟩ := X
  subst hp ho hS
  obtain ⟨v, vm₁, ⟨T', L', k', n'⟩, -, Y', hS2, hgr, ⟨Lc, ⟨hF, hQ⟩, q1, q2, q3⟩, st⟩ := Y.specialBackS hx (y := y) hy1 hown (mvT hZ w1') (mvT hZ w2') (mvT hZ (hr0 ▸ w4')) hy (backOfS (W := W) (Q := fun v hh Lc => Fr ω.2.1 Lc ∧ Q' v hh) (bytes := κ'.1) (maxL := κ'.2.1) (ret := κ'.2.2.2.2.1) (rm := κ'.2.2.2.2.2) C hZ w4' w3' hf hl) (g := mkF γ.2.2.2.1 pc L (as.reverse ++ .ref a :: S)) rfl (by rw [hml]; exact hL) (Steps.refl _) (a := a) (argsL := as) (rest := S) (lenOf hpd hlen) rfl (by show 2 * 0 + _ ≤ _; omega) (hb hby hd) (fun _ _ => ⟨rfl, hT, hc, hs⟩)
  dsimp only [Pt.U, Pt.locs, Pt.cells, Pt.slots] at Y' hS2 hgr q1 q2 q3 st hQ
  subst q1 q2 q3
  obtain ⟨s₂, o, hs, r⟩ := K _ v T' T'.heap (oReb X_ Y' hS2 hgr (N.app hF)) hQ
  exact ⟨s₂, o, st.trans hs, r⟩
theorem ow_callV (X : oSt Z ω γ κ T h cs ss) (pc' i1 i2 i3 i4 i5 i6 : Nat) {own C0 : String} {idx : Nat} {y : MethodName} {κ' : OM} {Q' : Option Value → Heap → Prop} {a : Addr} {as : List Value} {ps : List FieldType} {rt : Option FieldType} {W : Nat} {S0 : List Value}
    (w1 : tables_1[i1]? = some (.methodLink own idx y)) (ho : κ.2.2.1 = own) (w2 : tables_1[i2]? = some (.declares y)) (w3 : tables_1[i3]? = some (.selects C0 y y)) (w4 : tables_1[i4]? = some (.instanceMethod y)) (w5 : tables_1[i5]? = some (.code y κ'.1 κ'.2.1 κ'.2.2.2.2.1)) (w6 : tables_1[i6]? = some (.initialized y.cls)) (hy : y.cls ≠ "java/lang/invoke/MethodHandle" ∧ y.cls ≠ "java/lang/invoke/VarHandle")
    (E : Exa Z h a C0) (C : oC Z ω y κ' [] (.ref a :: as).toArray h Q') (hf : κ'.2.2.2.2.2.frames + 1 ≤ κ.2.2.2.2.2.frames) (hl : W + (κ'.2.1 + 11) + κ'.2.2.2.2.2.locals ≤ κ.2.2.2.2.2.locals) (hW : (S.map fun v => v.category).sum ≤ W) (hc : cs + κ'.2.2.2.2.2.cells ≤ κ.2.2.2.2.2.cells) (hs : ss + κ'.2.2.2.2.2.slots ≤ κ.2.2.2.2.2.slots)
    (hpd : parseMethodDescriptor y.desc = some ⟨ps, rt⟩) (hlen : as.length = ps.length) (hS : S0 = as.reverse ++ .ref a :: S) (hL : L.size = κ.2.1) (hd : decode κ.1 pc = .ok (.invokevirtual idx, 3)) (hp : pc + 3 = pc')
    (K : ∀ (γ : OG) v T' h', oSt Z ω γ κ T' h' (cs + κ'.2.2.2.2.2.cells) (ss + κ'.2.2.2.2.2.slots) → Q' v h' → oWP ω γ κ Q T' pc' L (v.toList ++ S)) : oWP ω γ κ Q T pc L S0 := by
  have w1' := oSt_at X i1 w1
  have w2' := oSt_at X i2 w2
  have w3' := oSt_at X i3 w3
  have w4' := oSt_at X i4 w4
  have w5' := oSt_at X i5 w5
  have w6' := oSt_at X i6 w6
  have X_ := X
  obtain ⟨hx, hby, hml, hown, hnm, hr, hlk, hZ, hT1, hn0, hT, locs, Y, N⟩ := X
  subst hp ho hS
  obtain ⟨cq, kq, qa, qb, qc⟩ := isOf hZ hT E
  obtain ⟨v, vm₁, ⟨T', L', k', n'⟩, -, Y', hS2, hgr, ⟨Lc, ⟨hF, hQ⟩, q1, q2, q3⟩, st⟩ := Y.virtualBackS hx (y := y) (z := y) hown (mvT hZ w1') (mvT hZ w2') (notFace_of_selects (args := #[]) (mvT hZ w3')) (mvT hZ w3') (mvT hZ w4') hy (backOfS (W := W) (Q := fun v hh Lc => Fr ω.2.1 Lc ∧ Q' v hh) (bytes := κ'.1) (maxL := κ'.2.1) (ret := κ'.2.2.2.2.1) (rm := κ'.2.2.2.2.2) C hZ w5' w6' hf hl) qa qc (g := mkF γ.2.2.2.1 pc L (as.reverse ++ .ref a :: S)) rfl (by rw [hml]; exact hL) (Steps.refl _) (argsL := as) (rest := S) (lenOf hpd hlen) rfl (by show 2 * 0 + _ ≤ _; omega) (hb hby hd) (fun _ _ => ⟨rfl, hT, hc, hs⟩)
  dsimp only [Pt.U, Pt.locs, Pt.cells, Pt.slots] at Y' hS2 hgr q1 q2 q3 st hQ
  subst q1 q2 q3
  obtain ⟨s₂, o, hs, r⟩ := K _ v T' T'.heap (oReb X_ Y' hS2 hgr (N.app hF)) hQ
  exact ⟨s₂, o, st.trans hs, r⟩
theorem ow_callP (X : oSt Z ω γ κ T h cs ss) (pc' i1 i2 i3 i4 i5 i6 : Nat) {own C0 : String} {idx nn : Nat} {y : MethodName} {κ' : OM} {Q' : Option Value → Heap → Prop} {a : Addr} {as : List Value} {ps : List FieldType} {rt : Option FieldType} {W : Nat} {S0 : List Value}
    (w1 : tables_1[i1]? = some (.methodLink own idx y)) (ho : κ.2.2.1 = own) (w2 : tables_1[i2]? = some (.instanceMethod y)) (w3 : tables_1[i3]? = some (.privateMethod y)) (w4 : tables_1[i4]? = some (.initialized y.cls)) (w5 : tables_1[i5]? = some (.code y κ'.1 κ'.2.1 κ'.2.2.2.2.1)) (w6 : tables_1[i6]? = some (.instantiable y.cls nn)) (hy : y.cls ≠ "java/lang/invoke/MethodHandle" ∧ y.cls ≠ "java/lang/invoke/VarHandle")
    (E : Exa Z h a C0) (C : oC Z ω y κ' [] (.ref a :: as).toArray h Q') (hf : κ'.2.2.2.2.2.frames + 1 ≤ κ.2.2.2.2.2.frames) (hl : W + (κ'.2.1 + 11) + κ'.2.2.2.2.2.locals ≤ κ.2.2.2.2.2.locals) (hW : (S.map fun v => v.category).sum ≤ W) (hc : cs + κ'.2.2.2.2.2.cells ≤ κ.2.2.2.2.2.cells) (hs : ss + κ'.2.2.2.2.2.slots ≤ κ.2.2.2.2.2.slots)
    (hpd : parseMethodDescriptor y.desc = some ⟨ps, rt⟩) (hlen : as.length = ps.length) (hS : S0 = as.reverse ++ .ref a :: S) (hL : L.size = κ.2.1) (hd : decode κ.1 pc = .ok (.invokevirtual idx, 3)) (hp : pc + 3 = pc')
    (K : ∀ (γ : OG) v T' h', oSt Z ω γ κ T' h' (cs + κ'.2.2.2.2.2.cells) (ss + κ'.2.2.2.2.2.slots) → Q' v h' → oWP ω γ κ Q T' pc' L (v.toList ++ S)) : oWP ω γ κ Q T pc L S0 := by
  have w1' := oSt_at X i1 w1
  have w2' := oSt_at X i2 w2
  have w3' := oSt_at X i3 w3
  have w4' := oSt_at X i4 w4
  have w5' := oSt_at X i5 w5
  have w6' := oSt_at X i6 w6
  have X_ := X
  obtain ⟨hx, hby, hml, hown, hnm, hr, hlk, hZ, hT1, hn0, hT, locs, Y, N⟩ := X
  subst hp ho hS
  obtain ⟨cq, q1, q2⟩ := E.cell
  obtain ⟨ck, kk, i1, i2, -, i4, -⟩ := Cond.instantiable_spec (mvT (args := #[]) hZ w6')
  have hni : kk.isInterface = false := (Bool.or_eq_false_iff.mp i4).1
  have hpr := Cond.privateMethod_at (mvP (args := #[]) hZ w3')
  obtain ⟨v, vm₁, ⟨T', L', k', n'⟩, -, Y', hS2, hgr, ⟨Lc, ⟨hF, hQ⟩, q1, q2, q3⟩, st⟩ := Y.privateBackS hx (y := y) hown (mvT hZ w1') (mvT hZ w2') (selects_self_of_private i1 i2 hni hpr (mvT hZ w2') hy) hpr (mvT hZ w5') hy (backOfS (W := W) (Q := fun v hh Lc => Fr ω.2.1 Lc ∧ Q' v hh) (bytes := κ'.1) (maxL := κ'.2.1) (ret := κ'.2.2.2.2.1) (rm := κ'.2.2.2.2.2) C hZ w5' w4' hf hl) (g := mkF γ.2.2.2.1 pc L (as.reverse ++ .ref a :: S)) rfl (by rw [hml]; exact hL) (Steps.refl _) (a := a) (by rw [hT]; exact q1) q2 (argsL := as) (rest := S) (lenOf hpd hlen) rfl (by show 2 * 0 + _ ≤ _; omega) (hb hby hd) (fun _ _ => ⟨rfl, hT, hc, hs⟩)
  dsimp only [Pt.U, Pt.locs, Pt.cells, Pt.slots] at Y' hS2 hgr q1 q2 q3 st hQ
  subst q1 q2 q3
  obtain ⟨s₂, o, hs, r⟩ := K _ v T' T'.heap (oReb X_ Y' hS2 hgr (N.app hF)) hQ
  exact ⟨s₂, o, st.trans hs, r⟩
end Walk
/-- an array: its component type, its length, what it holds -/
def oA (Z : State) (h : Heap) (a : Addr) (ty : FieldType) (n : Nat) (f : Nat → Value) : Prop := ∃ c : Cell, Arr Z h a c ty ∧ c.slots.size = n ∧ n < 2147483648 ∧ ∀ i, i < n → c.slots[i]? = some (f i)
section Arrays
variable {Z : State} {h h' : Heap} {a b : Addr} {ty : FieldType} {n sl : Nat} {f g : Nat → Value} {v : Value} {ws : List Addr}
theorem oA.lt (A : oA Z h a ty n f) : a < h.size := by obtain ⟨c, A, -⟩ := A; exact A.lt
theorem oA.small (A : oA Z h a ty n f) : n < 2147483648 := by obtain ⟨c, -, -, q, -⟩ := A; exact q
theorem oA.ext (A : oA Z h a ty n f) (E : Ext h h') : oA Z h' a ty n f := by obtain ⟨c, A, r⟩ := A; exact ⟨c, A.ext E, r⟩
theorem oA.other (A : oA Z h b ty n f) (W : Wr h h' a sl v) (q : b ≠ a) : oA Z h' b ty n f := by obtain ⟨c, A, r⟩ := A; exact ⟨c, A.other W q, r⟩
theorem oA.keep (A : oA Z h a ty n f) (K : Keep h h' ws) (q : a ∉ ws) : oA Z h' a ty n f := by obtain ⟨c, A, r⟩ := A; exact ⟨c, ⟨K.2.1 a c A.1 q, A.2⟩, r⟩
theorem oA.congr (A : oA Z h a ty n f) (q : ∀ i, i < n → f i = g i) : oA Z h a ty n g := by obtain ⟨c, A, r1, r2, r3⟩ := A; exact ⟨c, A, r1, r2, fun i hi => by rw [← q i hi]; exact r3 i hi⟩
theorem oA.set (A : oA Z h a ty n f) (W : Wr h h' a sl v) : oA Z h' a ty n (fun i => if i = sl then v else f i) := by
  obtain ⟨c, A, r1, r2, r3⟩ := A
  have hlt : sl < n := by
    obtain ⟨c', h1, -, h3, -⟩ := W
    cases A.1.symm.trans h1
    omega
  refine ⟨c.setSlot sl v, A.same W, (sz_set _ _ _).trans r1, r2, fun i hi => ?_⟩
  by_cases e : i = sl
  · subst e; simp [Cell.setSlot, r1, hlt]
  · simp only [e, if_false]
    rw [← r3 i hi]
    exact Array.getElem?_setIfInBounds_ne (Ne.symm e)
/-- one place changed -/
def oUpd {α : Type} (g : Nat → α) (k : Nat) (v : α) : Nat → α := fun i => if i = k then v else g i
theorem oUpd_hit {α : Type} (g : Nat → α) (k : Nat) (v : α) : oUpd g k v k = v := if_pos rfl
theorem oUpd_miss {α : Type} (g : Nat → α) {k i : Nat} (v : α) (q : i ≠ k) : oUpd g k v i = g i := if_neg q
def oZI : Nat → Int32 := fun _ => 0
def oZJ : Nat → Int64 := fun _ => 0
theorem oA.setI {g : Nat → Int32} {x : Int32} (A : oA Z h a ty n (fun i => .int (g i))) (W : Wr h h' a sl (.int x)) : oA Z h' a ty n (fun i => .int (oUpd g sl x i)) :=
  (A.set W).congr fun i _ => by unfold oUpd; split <;> rfl
theorem oA.setJ {g : Nat → Int64} {x : Int64} (A : oA Z h a ty n (fun i => .long (g i))) (W : Wr h h' a sl (.long x)) : oA Z h' a ty n (fun i => .long (oUpd g sl x i)) :=
  (A.set W).congr fun i _ => by unfold oUpd; split <;> rfl
theorem oNd {l : List Addr} (h : l.Nodup) (i j : Nat) (hij : i ≠ j) {a b : Addr} (ha : l[i]? = some a) (hb : l[j]? = some b) : a ≠ b := by
  intro e; subst e
  obtain ⟨h1, h2⟩ := List.getElem?_eq_some_iff.mp ha
  obtain ⟨h3, h4⟩ := List.getElem?_eq_some_iff.mp hb
  have q := List.pairwise_iff_getElem.mp h
  rcases Nat.lt_or_gt_of_ne hij with r | r
  · exact q i j h1 h3 r (h2.trans h4.symm)
  · exact q j i h3 h1 r (h4.trans h2.symm)
theorem oA.new {cA : ClassId} {k : Int32} (A : Arr Z h a (newA cA ty k) ty) (q : 0 ≤ k.toInt) : oA Z h a ty k.toInt.toNat (fun _ => defaultValue ty) := by
  have e : k.toNatClampNeg = k.toInt.toNat := rfl
  have := k.toInt_lt
  refine ⟨_, A, (sz_new _ _ _).trans e, by omega, fun i hi => ?_⟩
  have : i < k.toNatClampNeg := by rw [e]; exact hi
  simp [newA, this]
theorem oInb {j : Int32} {c : Cell} (r1 : c.slots.size = n) (q : 0 ≤ j.toInt) (q' : j.toInt < n) : ¬ (j < 0 ∨ c.slots.size ≤ j.toNatClampNeg) := by
  have e : j.toNatClampNeg = j.toInt.toNat := rfl
  rw [Int32.lt_iff_toInt_lt, r1, e, o0]; omega
end Arrays
section Walk2
variable {Z : State} {ω : OW} {γ : OG} {κ : OM} {Q : Option Value → Heap → Prop} {T : State} {h : Heap} {cs ss : Nat} {pc : Nat} {L : Array Slot} {S : List Value}
theorem ow_alen (X : oSt Z ω γ κ T h cs ss) (pc' : Nat) {a : Addr} {ty : FieldType} {n : Nat} {f : Nat → Value} {v : Int32} (A : oA Z h a ty n f) (hd : decode κ.1 pc = .ok (.arraylength, 1)) (hp : pc + 1 = pc') (hv : v.toInt = n)
    (K : oWP ω γ κ Q T pc' L (.int v :: S)) : oWP ω γ κ Q T pc L (.ref a :: S) := by
  obtain ⟨hx, hby, -, -, -, -, -, hZ, -, -, hT, locs, Y, -⟩ := X
  obtain ⟨c, A, r1, r2, -⟩ := A
  subst hp
  obtain ⟨s₂, o, hs, r⟩ := K
  have e : c.slots.size.toInt32 = v := Int32.toInt_inj.mp (by rw [hv, len_toInt (by omega), r1])
  exact ⟨s₂, o, Y.arraylength hx (by rw [hT]; exact A.1) (State.isArrayOf_alike hZ.alike A.2.1) (g := mkF γ.2.2.2.1 pc L (.ref a :: S)) rfl rfl (hb hby hd) _ (by rw [e]; exact hs), r⟩
theorem ow_iaload (X : oSt Z ω γ κ T h cs ss) (pc' : Nat) {a : Addr} {n : Nat} {f : Nat → Value} {j : Int32} {v : Value} (A : oA Z h a .int n f) (hd : decode κ.1 pc = .ok (.iaload, 1)) (hp : pc + 1 = pc') (h0 : 0 ≤ j.toInt) (h1 : j.toInt < n) (hv : f j.toInt.toNat = v)
    (K : oWP ω γ κ Q T pc' L (v :: S)) : oWP ω γ κ Q T pc L (.int j :: .ref a :: S) := by
  obtain ⟨hx, hby, -, -, -, -, -, hZ, -, -, hT, locs, Y, -⟩ := X
  obtain ⟨c, A, r1, r2, r3⟩ := A
  subst hp hv
  obtain ⟨s₂, o, hs, r⟩ := K
  exact ⟨s₂, o, Y.iaload hx (by rw [hT]; exact A.1) (State.isArrayOf_alike hZ.alike A.2.1) A.2.2 (oInb r1 h0 h1) (r3 _ (by show j.toInt.toNat < _; omega)) (g := mkF γ.2.2.2.1 pc L (.int j :: .ref a :: S)) rfl rfl (hb hby hd) _ hs, r⟩
theorem ow_laload (X : oSt Z ω γ κ T h cs ss) (pc' : Nat) {a : Addr} {n : Nat} {f : Nat → Value} {j : Int32} {v : Value} (A : oA Z h a .long n f) (hd : decode κ.1 pc = .ok (.laload, 1)) (hp : pc + 1 = pc') (h0 : 0 ≤ j.toInt) (h1 : j.toInt < n) (hv : f j.toInt.toNat = v)
    (K : oWP ω γ κ Q T pc' L (v :: S)) : oWP ω γ κ Q T pc L (.int j :: .ref a :: S) := by
  obtain ⟨hx, hby, -, -, -, -, -, hZ, -, -, hT, locs, Y, -⟩ := X
  obtain ⟨c, A, r1, r2, r3⟩ := A
  subst hp hv
  obtain ⟨s₂, o, hs, r⟩ := K
  exact ⟨s₂, o, Y.laload hx (by rw [hT]; exact A.1) (State.isArrayOf_alike hZ.alike A.2.1) A.2.2 (oInb r1 h0 h1) (r3 _ (by show j.toInt.toNat < _; omega)) (g := mkF γ.2.2.2.1 pc L (.int j :: .ref a :: S)) rfl rfl (hb hby hd) _ hs, r⟩
theorem ow_caload (X : oSt Z ω γ κ T h cs ss) (pc' : Nat) {a : Addr} {n : Nat} {f : Nat → Value} {j : Int32} {v : Value} (A : oA Z h a .char n f) (hd : decode κ.1 pc = .ok (.caload, 1)) (hp : pc + 1 = pc') (h0 : 0 ≤ j.toInt) (h1 : j.toInt < n) (hv : f j.toInt.toNat = v)
    (K : oWP ω γ κ Q T pc' L (v :: S)) : oWP ω γ κ Q T pc L (.int j :: .ref a :: S) := by
  obtain ⟨hx, hby, -, -, -, -, -, hZ, -, -, hT, locs, Y, -⟩ := X
  obtain ⟨c, A, r1, r2, r3⟩ := A
  subst hp hv
  obtain ⟨s₂, o, hs, r⟩ := K
  exact ⟨s₂, o, Y.caload hx (by rw [hT]; exact A.1) (State.isArrayOf_alike hZ.alike A.2.1) A.2.2 (oInb r1 h0 h1) (r3 _ (by show j.toInt.toNat < _; omega)) (g := mkF γ.2.2.2.1 pc L (.int j :: .ref a :: S)) rfl rfl (hb hby hd) _ hs, r⟩
theorem ow_baload (X : oSt Z ω γ κ T h cs ss) (pc' : Nat) {a : Addr} {n : Nat} {f : Nat → Value} {j : Int32} {v : Value} (A : oA Z h a .byte n f) (hd : decode κ.1 pc = .ok (.baload, 1)) (hp : pc + 1 = pc') (h0 : 0 ≤ j.toInt) (h1 : j.toInt < n) (hv : f j.toInt.toNat = v)
    (K : oWP ω γ κ Q T pc' L (v :: S)) : oWP ω γ κ Q T pc L (.int j :: .ref a :: S) := by
  obtain ⟨hx, hby, -, -, -, -, -, hZ, -, -, hT, locs, Y, -⟩ := X
  obtain ⟨c, A, r1, r2, r3⟩ := A
  subst hp hv
  obtain ⟨s₂, o, hs, r⟩ := K
  exact ⟨s₂, o, Y.baloadBytes hx (by rw [hT]; exact A.1) (State.isArrayOf_alike hZ.alike A.2.1) A.2.2 (oInb r1 h0 h1) (r3 _ (by show j.toInt.toNat < _; omega)) (g := mkF γ.2.2.2.1 pc L (.int j :: .ref a :: S)) rfl rfl (hb hby hd) _ hs, r⟩
theorem ow_baloadZ (X : oSt Z ω γ κ T h cs ss) (pc' : Nat) {a : Addr} {n : Nat} {f : Nat → Value} {j : Int32} {v : Value} (A : oA Z h a .boolean n f) (hd : decode κ.1 pc = .ok (.baload, 1)) (hp : pc + 1 = pc') (h0 : 0 ≤ j.toInt) (h1 : j.toInt < n) (hv : f j.toInt.toNat = v)
    (K : oWP ω γ κ Q T pc' L (v :: S)) : oWP ω γ κ Q T pc L (.int j :: .ref a :: S) := by
  obtain ⟨hx, hby, -, -, -, -, -, hZ, -, -, hT, locs, Y, -⟩ := X
  obtain ⟨c, A, r1, r2, r3⟩ := A
  subst hp hv
  obtain ⟨s₂, o, hs, r⟩ := K
  exact ⟨s₂, o, Y.baloadBooleans hx (by rw [hT]; exact A.1) (State.isArrayOf_alike hZ.alike A.2.1) A.2.2 (oInb r1 h0 h1) (r3 _ (by show j.toInt.toNat < _; omega)) (g := mkF γ.2.2.2.1 pc L (.int j :: .ref a :: S)) rfl rfl (hb hby hd) _ hs, r⟩
theorem ow_aaload (X : oSt Z ω γ κ T h cs ss) (pc' : Nat) {a : Addr} {ty : FieldType} {n : Nat} {f : Nat → Value} {j : Int32} {v : Value} (A : oA Z h a ty n f) (ht : ty.isReference = true) (hd : decode κ.1 pc = .ok (.aaload, 1)) (hp : pc + 1 = pc') (h0 : 0 ≤ j.toInt) (h1 : j.toInt < n) (hv : f j.toInt.toNat = v)
    (K : oWP ω γ κ Q T pc' L (v :: S)) : oWP ω γ κ Q T pc L (.int j :: .ref a :: S) := by
  obtain ⟨hx, hby, -, -, -, -, -, hZ, -, -, hT, locs, Y, -⟩ := X
  obtain ⟨c, A, r1, r2, r3⟩ := A
  subst hp hv
  obtain ⟨s₂, o, hs, r⟩ := K
  exact ⟨s₂, o, Y.aaload hx (by rw [hT]; exact A.1) (State.isArrayOf_alike hZ.alike A.2.1) ht A.2.2 (oInb r1 h0 h1) (r3 _ (by show j.toInt.toNat < _; omega)) (g := mkF γ.2.2.2.1 pc L (.int j :: .ref a :: S)) rfl rfl (hb hby hd) _ hs, r⟩
theorem ow_iastore (X : oSt Z ω γ κ T h cs ss) (pc' : Nat) {a : Addr} {n : Nat} {f : Nat → Value} {j : Int32} {x : Int32} (A : oA Z h a .int n f) (ha : ω.2.1 ≤ a) (hd : decode κ.1 pc = .ok (.iastore, 1)) (hp : pc + 1 = pc') (h0 : 0 ≤ j.toInt) (h1 : j.toInt < n)
    (K : ∀ T' h', oSt Z ω γ κ T' h' cs ss → Wr h h' a j.toInt.toNat (.int x) → oWP ω γ κ Q T' pc' L S) : oWP ω γ κ Q T pc L (.int x :: .int j :: .ref a :: S) := by
  obtain ⟨hx, hby, hml, hown, hnm, hr, hlk, hZ, hT1, hn0, hT, locs, Y, N⟩ := X
  obtain ⟨c, A, r1, r2, r3⟩ := A
  subst hp
  obtain ⟨T', h', Y', e', W, st⟩ := stI Y hx hZ hT A (oInb r1 h0 h1) (g := mkF γ.2.2.2.1 pc L (.int x :: .int j :: .ref a :: S)) rfl rfl (hb hby hd)
  obtain ⟨s₂, o, hs, r⟩ := K T' h' ⟨hx, hby, hml, hown, hnm, hr, hlk, hZ, hT1, oSnW hn0 W, e', _, Y', Fr.snoc Y' N ha⟩ W
  exact ⟨s₂, o, st _ hs, r⟩
theorem ow_lastore (X : oSt Z ω γ κ T h cs ss) (pc' : Nat) {a : Addr} {n : Nat} {f : Nat → Value} {j : Int32} {x : Int64} (A : oA Z h a .long n f) (ha : ω.2.1 ≤ a) (hd : decode κ.1 pc = .ok (.lastore, 1)) (hp : pc + 1 = pc') (h0 : 0 ≤ j.toInt) (h1 : j.toInt < n)
    (K : ∀ T' h', oSt Z ω γ κ T' h' cs ss → Wr h h' a j.toInt.toNat (.long x) → oWP ω γ κ Q T' pc' L S) : oWP ω γ κ Q T pc L (.long x :: .int j :: .ref a :: S) := by
  obtain ⟨hx, hby, hml, hown, hnm, hr, hlk, hZ, hT1, hn0, hT, locs, Y, N⟩ := X
  obtain ⟨c, A, r1, r2, r3⟩ := A
  subst hp
  obtain ⟨T', h', Y', e', W, st⟩ := stJ Y hx hZ hT A (oInb r1 h0 h1) (g := mkF γ.2.2.2.1 pc L (.long x :: .int j :: .ref a :: S)) rfl rfl (hb hby hd)
  obtain ⟨s₂, o, hs, r⟩ := K T' h' ⟨hx, hby, hml, hown, hnm, hr, hlk, hZ, hT1, oSnW hn0 W, e', _, Y', Fr.snoc Y' N ha⟩ W
  exact ⟨s₂, o, st _ hs, r⟩
theorem ow_castore (X : oSt Z ω γ κ T h cs ss) (pc' : Nat) {a : Addr} {n : Nat} {f : Nat → Value} {j : Int32} {x : Int32} (A : oA Z h a .char n f) (ha : ω.2.1 ≤ a) (hd : decode κ.1 pc = .ok (.castore, 1)) (hp : pc + 1 = pc') (h0 : 0 ≤ j.toInt) (h1 : j.toInt < n)
    (K : ∀ T' h', oSt Z ω γ κ T' h' cs ss → Wr h h' a j.toInt.toNat (.int (nar .char x)) → oWP ω γ κ Q T' pc' L S) : oWP ω γ κ Q T pc L (.int x :: .int j :: .ref a :: S) := by
  obtain ⟨hx, hby, hml, hown, hnm, hr, hlk, hZ, hT1, hn0, hT, locs, Y, N⟩ := X
  obtain ⟨c, A, r1, r2, r3⟩ := A
  subst hp
  obtain ⟨T', h', Y', e', W, st⟩ := stC Y hx hZ hT A (oInb r1 h0 h1) (g := mkF γ.2.2.2.1 pc L (.int x :: .int j :: .ref a :: S)) rfl rfl (hb hby hd)
  obtain ⟨s₂, o, hs, r⟩ := K T' h' ⟨hx, hby, hml, hown, hnm, hr, hlk, hZ, hT1, oSnW hn0 W, e', _, Y', Fr.snoc Y' N ha⟩ W
  exact ⟨s₂, o, st _ hs, r⟩
theorem ow_bastore (X : oSt Z ω γ κ T h cs ss) (pc' : Nat) {a : Addr} {n : Nat} {f : Nat → Value} {j : Int32} {x : Int32} (A : oA Z h a .byte n f) (ha : ω.2.1 ≤ a) (hd : decode κ.1 pc = .ok (.bastore, 1)) (hp : pc + 1 = pc') (h0 : 0 ≤ j.toInt) (h1 : j.toInt < n)
    (K : ∀ T' h', oSt Z ω γ κ T' h' cs ss → Wr h h' a j.toInt.toNat (.int x.toInt8.toInt32) → oWP ω γ κ Q T' pc' L S) : oWP ω γ κ Q T pc L (.int x :: .int j :: .ref a :: S) := by
  obtain ⟨hx, hby, hml, hown, hnm, hr, hlk, hZ, hT1, hn0, hT, locs, Y, N⟩ := X
  obtain ⟨c, A, r1, r2, r3⟩ := A
  subst hp
  obtain ⟨T', h', Y', e', W, st⟩ := stB Y hx hZ hT A (oInb r1 h0 h1) (g := mkF γ.2.2.2.1 pc L (.int x :: .int j :: .ref a :: S)) rfl rfl (hb hby hd)
  obtain ⟨s₂, o, hs, r⟩ := K T' h' ⟨hx, hby, hml, hown, hnm, hr, hlk, hZ, hT1, oSnW hn0 W, e', _, Y', Fr.snoc Y' N ha⟩ W
  exact ⟨s₂, o, st _ hs, r⟩
theorem ow_bastoreZ (X : oSt Z ω γ κ T h cs ss) (pc' : Nat) {a : Addr} {n : Nat} {f : Nat → Value} {j : Int32} {x : Int32} (A : oA Z h a .boolean n f) (ha : ω.2.1 ≤ a) (hd : decode κ.1 pc = .ok (.bastore, 1)) (hp : pc + 1 = pc') (h0 : 0 ≤ j.toInt) (h1 : j.toInt < n)
    (K : ∀ T' h', oSt Z ω γ κ T' h' cs ss → Wr h h' a j.toInt.toNat (.int (nar .boolean x)) → oWP ω γ κ Q T' pc' L S) : oWP ω γ κ Q T pc L (.int x :: .int j :: .ref a :: S) := by
  obtain ⟨hx, hby, hml, hown, hnm, hr, hlk, hZ, hT1, hn0, hT, locs, Y, N⟩ := X
  obtain ⟨c, A, r1, r2, r3⟩ := A
  subst hp
  obtain ⟨T', h', Y', e', W, st⟩ := stZ Y hx hZ hT A (oInb r1 h0 h1) (g := mkF γ.2.2.2.1 pc L (.int x :: .int j :: .ref a :: S)) rfl rfl (hb hby hd)
  obtain ⟨s₂, o, hs, r⟩ := K T' h' ⟨hx, hby, hml, hown, hnm, hr, hlk, hZ, hT1, oSnW hn0 W, e', _, Y', Fr.snoc Y' N ha⟩ W
  exact ⟨s₂, o, st _ hs, r⟩
theorem ow_aastore (X : oSt Z ω γ κ T h cs ss) (pc' : Nat) {a : Addr} {ty : FieldType} {n : Nat} {f : Nat → Value} {j : Int32} {v : Value} (A : oA Z h a ty n f) (ht : ty.isReference = true) (F : Sto Z h a v) (ha : ω.2.1 ≤ a) (hd : decode κ.1 pc = .ok (.aastore, 1)) (hp : pc + 1 = pc') (h0 : 0 ≤ j.toInt) (h1 : j.toInt < n)
    (K : ∀ T' h', oSt Z ω γ κ T' h' cs ss → Wr h h' a j.toInt.toNat v → oWP ω γ κ Q T' pc' L S) : oWP ω γ κ Q T pc L (v :: .int j :: .ref a :: S) := by
  obtain ⟨hx, hby, hml, hown, hnm, hr, hlk, hZ, hT1, hn0, hT, locs, Y, N⟩ := X
  obtain ⟨c, A, r1, r2, r3⟩ := A
  subst hp
  obtain ⟨T', h', Y', e', W, st⟩ := stR Y hx hZ hT A (oInb r1 h0 h1) ht F (g := mkF γ.2.2.2.1 pc L (v :: .int j :: .ref a :: S)) rfl rfl (hb hby hd)
  obtain ⟨s₂, o, hs, r⟩ := K T' h' ⟨hx, hby, hml, hown, hnm, hr, hlk, hZ, hT1, oSnW hn0 W, e', _, Y', Fr.snoc Y' N ha⟩ W
  exact ⟨s₂, o, st _ hs, r⟩
theorem ow_newP (X : oSt Z ω γ κ T h cs ss) (pc' i : Nat) {aty : ArrayType} {k : Int32} {cap : Nat} (hw : tables_1[i]? = some (.arrayClass (newarray.typeOf aty))) (hd : decode κ.1 pc = .ok (.newarray aty, 2)) (hp : pc + 2 = pc') (h0 : 0 ≤ k.toInt) (h1 : k.toInt ≤ cap) (hb1 : cap * 8 ≤ 536870912) (hc : cs + 1 ≤ κ.2.2.2.2.2.cells) (hsl : ss + cap ≤ κ.2.2.2.2.2.slots)
    (K : ∀ T' h' a, a = h.size → oSt Z ω γ κ T' h' (cs + 1) (ss + cap) → Ext h h' → oA Z h' a (newarray.typeOf aty) k.toInt.toNat (fun _ => defaultValue (newarray.typeOf aty)) → ω.2.1 ≤ a → oWP ω γ κ Q T' pc' L (.ref a :: S)) : oWP ω γ κ Q T pc L (.int k :: S) := by
  have hw' := oSt_at X i hw
  have hN := oSt_n0 X
  obtain ⟨hx, hby, hml, hown, hnm, hr, hlk, hZ, hT1, hn0, hT, locs, Y, N⟩ := X
  subst hp
  have hk : ¬ k < 0 := by rw [Int32.lt_iff_toInt_lt, o0]; omega
  have hk' : k.toNatClampNeg ≤ cap := by show k.toInt.toNat ≤ cap; omega
  obtain ⟨T', h', cA, Y', e', E, A, st⟩ := newP Y hx hZ hw' hT (g := mkF γ.2.2.2.1 pc L (.int k :: S)) rfl (hb hby hd) rfl hk hk' hb1 hc hsl
  obtain ⟨s₂, o, hs, r⟩ := K T' h' h.size rfl ⟨hx, hby, hml, hown, hnm, hr, hlk, hZ, hT1, oSnE hn0 E, e', _, Y', N⟩ E (oA.new A h0) hN
  exact ⟨s₂, o, st _ hs, r⟩
/-- a new array's class takes objects of C -/
def oOv (Z : State) (h : Heap) (a : Addr) (C : String) : Prop := ∃ (c : Cell) (ty : FieldType), Arr Z h a c ty ∧ Ovr Z c.cls C
theorem oOv.ext {h' : Heap} {a : Addr} {C : String} (O : oOv Z h a C) (E : Ext h h') : oOv Z h' a C := by obtain ⟨c, ty, A, O⟩ := O; exact ⟨c, ty, A.ext E, O⟩
theorem oOv.wr {h' : Heap} {a b : Addr} {C : String} {sl : Nat} {v : Value} (O : oOv Z h a C) (W : Wr h h' b sl v) : oOv Z h' a C := by
  obtain ⟨c, ty, A, O⟩ := O
  by_cases e : a = b
  · subst e; exact ⟨_, ty, A.same W, O⟩
  · exact ⟨c, ty, A.other W e, O⟩
theorem oOv.keep {h' : Heap} {a : Addr} {C : String} {ws : List Addr} (O : oOv Z h a C) (K : Keep h h' ws) (q : a ∉ ws) : oOv Z h' a C := by
  obtain ⟨c, ty, A, O⟩ := O; exact ⟨c, ty, ⟨K.2.1 a c A.1 q, A.2⟩, O⟩
theorem oOv.sto {a y : Addr} {C : String} (O : oOv Z h a C) (I : Ins Z h y C true) : Sto Z h a (.ref y) := by obtain ⟨c, ty, A, O⟩ := O; exact Sto.of A O I
theorem ow_newR (X : oSt Z ω γ κ T h cs ss) (pc' i1 i2 : Nat) {own C : String} {idx : Nat} {k : Int32} {cap : Nat} (w1 : tables_1[i1]? = some (.classLink own idx C)) (ho : κ.2.2.1 = own) (w2 : tables_1[i2]? = some (.arrayOver (.object C))) (hd : decode κ.1 pc = .ok (.anewarray idx, 3)) (hp : pc + 3 = pc') (h0 : 0 ≤ k.toInt) (h1 : k.toInt ≤ cap) (hb1 : cap * 8 ≤ 536870912) (hc : cs + 1 ≤ κ.2.2.2.2.2.cells) (hsl : ss + cap ≤ κ.2.2.2.2.2.slots)
    (K : ∀ T' h' a, a = h.size → oSt Z ω γ κ T' h' (cs + 1) (ss + cap) → Ext h h' → oA Z h' a (.object C) k.toInt.toNat (fun _ => .null) → oOv Z h' a C → ω.2.1 ≤ a → oWP ω γ κ Q T' pc' L (.ref a :: S)) : oWP ω γ κ Q T pc L (.int k :: S) := by
  have w1' := oSt_at X i1 w1
  have w2' := oSt_at X i2 w2
  have hN := oSt_n0 X
  obtain ⟨hx, hby, hml, hown, hnm, hr, hlk, hZ, hT1, hn0, hT, locs, Y, N⟩ := X
  subst hp ho
  have hk : ¬ k < 0 := by rw [Int32.lt_iff_toInt_lt, o0]; omega
  have hk' : k.toNatClampNeg ≤ cap := by show k.toInt.toNat ≤ cap; omega
  obtain ⟨T', h', cA, Y', e', E, A, O, st⟩ := newR Y hx hZ hown w1' w2' hT (g := mkF γ.2.2.2.1 pc L (.int k :: S)) rfl (hb hby hd) rfl hk hk' hb1 hc hsl
  obtain ⟨s₂, o, hs, r⟩ := K T' h' h.size rfl ⟨hx, hby, hml, hown, hnm, hr, hlk, hZ, hT1, oSnE hn0 E, e', _, Y', N⟩ E (oA.new A h0) ⟨_, _, A, O⟩ hN
  exact ⟨s₂, o, st _ hs, r⟩
end Walk2
section WalkS
variable {Z : State} {ω : OW} {γ : OG} {κ : OM} {Q : Option Value → Heap → Prop} {T : State} {h : Heap} {cs ss : Nat} {pc : Nat} {L : Array Slot} {S : List Value}
/-- a String constant, opaque -/
theorem ow_ldcStr (X : oSt Z ω γ κ T h cs ss) (pc' i : Nat) {own text : String} {idx : Nat} (n : Nat) (hw : tables_1[i]? = some (.stringLink own idx text)) (ho : κ.2.2.1 = own) (hA : ∀ a ∈ Bundle.stringAtoms, a ∈ tables_1) (hn : 4 * text.toList.length ≤ n) (hbig : n ≤ 536870912) (hc : cs + 2 ≤ κ.2.2.2.2.2.cells) (hsl : ss + (n + 4) ≤ κ.2.2.2.2.2.slots)
    (hd : decode κ.1 pc = .ok (.ldc idx, 2)) (hp : pc + 2 = pc') (K : ∀ (γ : OG) T' h' a, oSt Z ω γ κ T' h' (cs + 2) (ss + (n + 4)) → Ext h h' → oWP ω γ κ Q T' pc' L (.ref a :: S)) : oWP ω γ κ Q T pc L S := by
  have hw' := oSt_at X i hw
  have hall := oSt_w X
  obtain ⟨hx, hby, hml, hown, hnm, hr, hlk, hZ, hT1, ⟨hn0, k0, hS, hk⟩, hT, locs, Y, N⟩ := X
  subst hp ho
  obtain ⟨a, T', h', k1, Y', e', E, hS', hk1, hZ', hown', st⟩ := RoadKit.ldcS (s := γ.2.2.1.setVm γ.2.2.2.2.2.2.2.2) (vm0 := γ.2.2.1.vm) Y hx hZ hown hw' (fun d hd' => hall d (hA d hd')) hT hS hk (g := mkF γ.2.2.2.1 pc L S) rfl (hb hby hd) hn hbig hc hsl
  obtain ⟨s₂, o, hs, r⟩ := K (γ.1, γ.2.1, γ.2.2.1.setVm T'.vm, γ.2.2.2.1, γ.2.2.2.2.1, γ.2.2.2.2.2.1, γ.2.2.2.2.2.2.1, γ.2.2.2.2.2.2.2.1, γ.2.2.2.2.2.2.2.2) T' h' a ⟨hx, hby, hml, hown', hnm, hr, hlk, hZ', hT1, ⟨hn0, k1, hS', hk1⟩, e', locs, Y', N⟩ E
  exact ⟨s₂, o, st _ hs, r⟩
end WalkS
theorem oSta_keep {Z : State} {h h' : Heap} {C n d : String} {v : Value} {ws : List Addr} (S : Sta Z h C n d v) (K : Keep h h' ws) (hs : ∀ x ∈ ws, ∃ c : Cell, h[x]? = some c ∧ c.vm.isStatics = false) : Sta Z h' C n d v := by
  obtain ⟨cf, i, k, f, st, cell, h1, h2, h3, h4, h5, h6, h7⟩ := S
  refine ⟨cf, i, k, f, st, cell, h1, h2, h3, h4, K.2.1 st cell h5 (fun hm => ?_), h6, h7⟩
  obtain ⟨c, e1, e2⟩ := hs st hm
  cases h5.symm.trans e1
  rw [h6] at e2; cases e2
theorem oExS {Z : State} {h : Heap} {a : Addr} {C : String} (E : Exa Z h a C) : ∃ c : Cell, h[a]? = some c ∧ c.vm.isStatics = false := by
  obtain ⟨cell, k, h1, -, -, h4, -⟩ := E; exact ⟨cell, h1, h4⟩
theorem oArS {Z : State} {h : Heap} {a : Addr} {ty : FieldType} {n : Nat} {f : Nat → Value} (A : oA Z h a ty n f) : ∃ c : Cell, h[a]? = some c ∧ c.vm.isStatics = false := by
  obtain ⟨c, A, -⟩ := A; exact ⟨c, A.1, Arr.plain A⟩
theorem own_fold {args : Array Value} {s : State} : ∀ (L : List Jvm.Cond) (r : Jvm.Cond), (L.foldr Jvm.Cond.and r).before args s = true → ∀ d ∈ L, d.before args s = true
  | [], _, _, d, hd => by cases hd
  | c :: L, r, h, d, hd => by
    have h' : (Jvm.Cond.and c (L.foldr Jvm.Cond.and r)).before args s = true := h
    rw [Cond.before_and, Bool.and_eq_true] at h'
    cases hd with
    | head => exact h'.1
    | tail _ q => exact own_fold L r h'.2 d q
theorem own_sA : ∀ a ∈ Bundle.stringAtoms, a ∈ tables_1 := by
  intro a ha
  simp only [Bundle.stringAtoms, Bundle.sN, List.mem_cons, List.not_mem_nil, or_false] at ha
  rcases ha with rfl | rfl | rfl | rfl | rfl | rfl | rfl
  · exact List.mem_of_getElem? (i := 41) rfl
  · exact List.mem_of_getElem? (i := 42) rfl
  · exact List.mem_of_getElem? (i := 20) rfl
  · exact List.mem_of_getElem? (i := 43) rfl
  · exact List.mem_of_getElem? (i := 44) rfl
  · exact List.mem_of_getElem? (i := 45) rfl
  · exact List.mem_of_getElem? (i := 46) rfl
def TC (Z : State) (h : Heap) (a : Addr) (v0 v1 v2 v3 v4 v5 v6 v7 v8 v9 v10 v11 v12 : Value) : Prop := Exa Z h a "com/example/tollbook/tollbook/ber/TlvChains" ∧ Fld Z h a "com/example/tollbook/tollbook/ber/TlvChains" "from" "I" v0 ∧ Fld Z h a "com/example/tollbook/tollbook/ber/TlvChains" "limit" "I" v1 ∧ Fld Z h a "com/example/tollbook/tollbook/ber/TlvChains" "nexts" "[I" v2 ∧ Fld Z h a "com/example/tollbook/tollbook/ber/TlvChains" "jumps" "[I" v3 ∧ Fld Z h a "com/example/tollbook/tollbook/ber/TlvChains" "depths" "[I" v4 ∧ Fld Z h a "com/example/tollbook/tollbook/ber/TlvChains" "tagClasses" "[B" v5 ∧ Fld Z h a "com/example/tollbook/tollbook/ber/TlvChains" "tagNumbers" "[I" v6 ∧ Fld Z h a "com/example/tollbook/tollbook/ber/TlvChains" "nearest" "[I" v7 ∧ Fld Z h a "com/example/tollbook/tollbook/ber/TlvChains" "failures" "[Lcom/example/tollbook/tollbook/ber/BerException;" v8 ∧ Fld Z h a "com/example/tollbook/tollbook/ber/TlvChains" "learnt" "[I" v9 ∧ Fld Z h a "com/example/tollbook/tollbook/ber/TlvChains" "learntCount" "I" v10 ∧ Fld Z h a "com/example/tollbook/tollbook/ber/TlvChains" "soughtClass" "I" v11 ∧ Fld Z h a "com/example/tollbook/tollbook/ber/TlvChains" "path" "[I" v12
theorem TC.lt {Z : State} {h : Heap} {a : Addr} {v0 v1 v2 v3 v4 v5 v6 v7 v8 v9 v10 v11 v12 : Value} (R : TC Z h a v0 v1 v2 v3 v4 v5 v6 v7 v8 v9 v10 v11 v12) : a < h.size := R.1.lt
theorem TC.ext {Z : State} {h h' : Heap} {a : Addr} {v0 v1 v2 v3 v4 v5 v6 v7 v8 v9 v10 v11 v12 : Value} (R : TC Z h a v0 v1 v2 v3 v4 v5 v6 v7 v8 v9 v10 v11 v12) (W : Ext h h') : TC Z h' a v0 v1 v2 v3 v4 v5 v6 v7 v8 v9 v10 v11 v12 := by
  obtain ⟨E, F0, F1, F2, F3, F4, F5, F6, F7, F8, F9, F10, F11, F12⟩ := R
  exact ⟨E.ext W, F0.ext W, F1.ext W, F2.ext W, F3.ext W, F4.ext W, F5.ext W, F6.ext W, F7.ext W, F8.ext W, F9.ext W, F10.ext W, F11.ext W, F12.ext W⟩
theorem TC.other {Z : State} {h h' : Heap} {a b : Addr} {sl : Nat} {w : Value} {v0 v1 v2 v3 v4 v5 v6 v7 v8 v9 v10 v11 v12 : Value} (R : TC Z h a v0 v1 v2 v3 v4 v5 v6 v7 v8 v9 v10 v11 v12) (W : Wr h h' b sl w) (q : a ≠ b) : TC Z h' a v0 v1 v2 v3 v4 v5 v6 v7 v8 v9 v10 v11 v12 := by
  obtain ⟨E, F0, F1, F2, F3, F4, F5, F6, F7, F8, F9, F10, F11, F12⟩ := R
  exact ⟨E.wr W, F0.other W (Or.inl q), F1.other W (Or.inl q), F2.other W (Or.inl q), F3.other W (Or.inl q), F4.other W (Or.inl q), F5.other W (Or.inl q), F6.other W (Or.inl q), F7.other W (Or.inl q), F8.other W (Or.inl q), F9.other W (Or.inl q), F10.other W (Or.inl q), F11.other W (Or.inl q), F12.other W (Or.inl q)⟩
theorem TC.keep {Z : State} {h h' : Heap} {a : Addr} {ws : List Addr} {v0 v1 v2 v3 v4 v5 v6 v7 v8 v9 v10 v11 v12 : Value} (R : TC Z h a v0 v1 v2 v3 v4 v5 v6 v7 v8 v9 v10 v11 v12) (K : Keep h h' ws) (q : a ∉ ws) : TC Z h' a v0 v1 v2 v3 v4 v5 v6 v7 v8 v9 v10 v11 v12 := by
  obtain ⟨E, F0, F1, F2, F3, F4, F5, F6, F7, F8, F9, F10, F11, F12⟩ := R
  exact ⟨E.keep K, F0.keep K q, F1.keep K q, F2.keep K q, F3.keep K q, F4.keep K q, F5.keep K q, F6.keep K q, F7.keep K q, F8.keep K q, F9.keep K q, F10.keep K q, F11.keep K q, F12.keep K q⟩
theorem TC.set_from {Z : State} {h h' : Heap} {a : Addr} {a0 : Array Value} {w : Value} {v0 v1 v2 v3 v4 v5 v6 v7 v8 v9 v10 v11 v12 : Value} (hw : ∀ d ∈ tables_1, d.before a0 Z = true) (R : TC Z h a v0 v1 v2 v3 v4 v5 v6 v7 v8 v9 v10 v11 v12) (W : Wr h h' a (RoadKit.slotOf Z "com/example/tollbook/tollbook/ber/TlvChains" "from" "I") w) : TC Z h' a w v1 v2 v3 v4 v5 v6 v7 v8 v9 v10 v11 v12 := by
  obtain ⟨E, F0, F1, F2, F3, F4, F5, F6, F7, F8, F9, F10, F11, F12⟩ := R
  exact ⟨E.wr W, F0.same W, F1.other W (Or.inr (slot_ne (C := "com/example/tollbook/tollbook/ber/TlvChains") (Or.inl (hw _ (List.mem_of_getElem? (i := 12) rfl))) (Or.inl (hw _ (List.mem_of_getElem? (i := 87) rfl))) (by decide) (t := .int) (t' := .int) (by decide) (by decide))), F2.other W (Or.inr (slot_ne (C := "com/example/tollbook/tollbook/ber/TlvChains") (Or.inl (hw _ (List.mem_of_getElem? (i := 15) rfl))) (Or.inl (hw _ (List.mem_of_getElem? (i := 87) rfl))) (by decide) (t := (.array .int)) (t' := .int) (by decide) (by decide))), F3.other W (Or.inr (slot_ne (C := "com/example/tollbook/tollbook/ber/TlvChains") (Or.inl (hw _ (List.mem_of_getElem? (i := 17) rfl))) (Or.inl (hw _ (List.mem_of_getElem? (i := 87) rfl))) (by decide) (t := (.array .int)) (t' := .int) (by decide) (by decide))), F4.other W (Or.inr (slot_ne (C := "com/example/tollbook/tollbook/ber/TlvChains") (Or.inl (hw _ (List.mem_of_getElem? (i := 19) rfl))) (Or.inl (hw _ (List.mem_of_getElem? (i := 87) rfl))) (by decide) (t := (.array .int)) (t' := .int) (by decide) (by decide))), F5.other W (Or.inr (slot_ne (C := "com/example/tollbook/tollbook/ber/TlvChains") (Or.inl (hw _ (List.mem_of_getElem? (i := 22) rfl))) (Or.inl (hw _ (List.mem_of_getElem? (i := 87) rfl))) (by decide) (t := (.array .byte)) (t' := .int) (by decide) (by decide))), F6.other W (Or.inr (slot_ne (C := "com/example/tollbook/tollbook/ber/TlvChains") (Or.inl (hw _ (List.mem_of_getElem? (i := 24) rfl))) (Or.inl (hw _ (List.mem_of_getElem? (i := 87) rfl))) (by decide) (t := (.array .int)) (t' := .int) (by decide) (by decide))), F7.other W (Or.inr (slot_ne (C := "com/example/tollbook/tollbook/ber/TlvChains") (Or.inl (hw _ (List.mem_of_getElem? (i := 26) rfl))) (Or.inl (hw _ (List.mem_of_getElem? (i := 87) rfl))) (by decide) (t := (.array .int)) (t' := .int) (by decide) (by decide))), F8.other W (Or.inr (slot_ne (C := "com/example/tollbook/tollbook/ber/TlvChains") (Or.inl (hw _ (List.mem_of_getElem? (i := 30) rfl))) (Or.inl (hw _ (List.mem_of_getElem? (i := 87) rfl))) (by decide) (t := (.array (.object "com/example/tollbook/tollbook/ber/BerException"))) (t' := .int) (by decide) (by decide))), F9.other W (Or.inr (slot_ne (C := "com/example/tollbook/tollbook/ber/TlvChains") (Or.inl (hw _ (List.mem_of_getElem? (i := 32) rfl))) (Or.inl (hw _ (List.mem_of_getElem? (i := 87) rfl))) (by decide) (t := (.array .int)) (t' := .int) (by decide) (by decide))), F10.other W (Or.inr (slot_ne (C := "com/example/tollbook/tollbook/ber/TlvChains") (Or.inl (hw _ (List.mem_of_getElem? (i := 85) rfl))) (Or.inl (hw _ (List.mem_of_getElem? (i := 87) rfl))) (by decide) (t := .int) (t' := .int) (by decide) (by decide))), F11.other W (Or.inr (slot_ne (C := "com/example/tollbook/tollbook/ber/TlvChains") (Or.inl (hw _ (List.mem_of_getElem? (i := 34) rfl))) (Or.inl (hw _ (List.mem_of_getElem? (i := 87) rfl))) (by decide) (t := .int) (t' := .int) (by decide) (by decide))), F12.other W (Or.inr (slot_ne (C := "com/example/tollbook/tollbook/ber/TlvChains") (Or.inl (hw _ (List.mem_of_getElem? (i := 36) rfl))) (Or.inl (hw _ (List.mem_of_getElem? (i := 87) rfl))) (by decide) (t := (.array .int)) (t' := .int) (by decide) (by decide)))⟩
theorem TC.set_limit {Z : State} {h h' : Heap} {a : Addr} {a0 : Array Value} {w : Value} {v0 v1 v2 v3 v4 v5 v6 v7 v8 v9 v10 v11 v12 : Value} (hw : ∀ d ∈ tables_1, d.before a0 Z = true) (R : TC Z h a v0 v1 v2 v3 v4 v5 v6 v7 v8 v9 v10 v11 v12) (W : Wr h h' a (RoadKit.slotOf Z "com/example/tollbook/tollbook/ber/TlvChains" "limit" "I") w) : TC Z h' a v0 w v2 v3 v4 v5 v6 v7 v8 v9 v10 v11 v12 := by
  obtain ⟨E, F0, F1, F2, F3, F4, F5, F6, F7, F8, F9, F10, F11, F12⟩ := R
  exact ⟨E.wr W, F0.other W (Or.inr (slot_ne (C := "com/example/tollbook/tollbook/ber/TlvChains") (Or.inl (hw _ (List.mem_of_getElem? (i := 87) rfl))) (Or.inl (hw _ (List.mem_of_getElem? (i := 12) rfl))) (by decide) (t := .int) (t' := .int) (by decide) (by decide))), F1.same W, F2.other W (Or.inr (slot_ne (C := "com/example/tollbook/tollbook/ber/TlvChains") (Or.inl (hw _ (List.mem_of_getElem? (i := 15) rfl))) (Or.inl (hw _ (List.mem_of_getElem? (i := 12) rfl))) (by decide) (t := (.array .int)) (t' := .int) (by decide) (by decide))), F3.other W (Or.inr (slot_ne (C := "com/example/tollbook/tollbook/ber/TlvChains") (Or.inl (hw _ (List.mem_of_getElem? (i := 17) rfl))) (Or.inl (hw _ (List.mem_of_getElem? (i := 12) rfl))) (by decide) (t := (.array .int)) (t' := .int) (by decide) (by decide))), F4.other W (Or.inr (slot_ne (C := "com/example/tollbook/tollbook/ber/TlvChains") (Or.inl (hw _ (List.mem_of_getElem? (i := 19) rfl))) (Or.inl (hw _ (List.mem_of_getElem? (i := 12) rfl))) (by decide) (t := (.array .int)) (t' := .int) (by decide) (by decide))), F5.other W (Or.inr (slot_ne (C := "com/example/tollbook/tollbook/ber/TlvChains") (Or.inl (hw _ (List.mem_of_getElem? (i := 22) rfl))) (Or.inl (hw _ (List.mem_of_getElem? (i := 12) rfl))) (by decide) (t := (.array .byte)) (t' := .int) (by decide) (by decide))), F6.other W (Or.inr (slot_ne (C := "com/example/tollbook/tollbook/ber/TlvChains") (Or.inl (hw _ (List.mem_of_getElem? (i := 24) rfl))) (Or.inl (hw _ (List.mem_of_getElem? (i := 12) rfl))) (by decide) (t := (.array .int)) (t' := .int) (by decide) (by decide))), F7.other W (Or.inr (slot_ne (C := "com/example/tollbook/tollbook/ber/TlvChains") (Or.inl (hw _ (List.mem_of_getElem? (i := 26) rfl))) (Or.inl (hw _ (List.mem_of_getElem? (i := 12) rfl))) (by decide) (t := (.array .int)) (t' := .int) (by decide) (by decide))), F8.other W (Or.inr (slot_ne (C := "com/example/tollbook/tollbook/ber/TlvChains") (Or.inl (hw _ (List.mem_of_getElem? (i := 30) rfl))) (Or.inl (hw _ (List.mem_of_getElem? (i := 12) rfl))) (by decide) (t := (.array (.object "com/example/tollbook/tollbook/ber/BerException"))) (t' := .int) (by decide) (by decide))), F9.other W (Or.inr (slot_ne (C := "com/example/tollbook/tollbook/ber/TlvChains") (Or.inl (hw _ (List.mem_of_getElem? (i := 32) rfl))) (Or.inl (hw _ (List.mem_of_getElem? (i := 12) rfl))) (by decide) (t := (.array .int)) (t' := .int) (by decide) (by decide))), F10.other W (Or.inr (slot_ne (C := "com/example/tollbook/tollbook/ber/TlvChains") (Or.inl (hw _ (List.mem_of_getElem? (i := 85) rfl))) (Or.inl (hw _ (List.mem_of_getElem? (i := 12) rfl))) (by decide) (t := .int) (t' := .int) (by decide) (by decide))), F11.other W (Or.inr (slot_ne (C := "com/example/tollbook/tollbook/ber/TlvChains") (Or.inl (hw _ (List.mem_of_getElem? (i := 34) rfl))) (Or.inl (hw _ (List.mem_of_getElem? (i := 12) rfl))) (by decide) (t := .int) (t' := .int) (by decide) (by decide))), F12.other W (Or.inr (slot_ne (C := "com/example/tollbook/tollbook/ber/TlvChains") (Or.inl (hw _ (List.mem_of_getElem? (i := 36) rfl))) (Or.inl (hw _ (List.mem_of_getElem? (i := 12) rfl))) (by decide) (t := (.array .int)) (t' := .int) (by decide) (by decide)))⟩
theorem TC.set_nexts {Z : State} {h h' : Heap} {a : Addr} {a0 : Array Value} {w : Value} {v0 v1 v2 v3 v4 v5 v6 v7 v8 v9 v10 v11 v12 : Value} (hw : ∀ d ∈ tables_1, d.before a0 Z = true) (R : TC Z h a v0 v1 v2 v3 v4 v5 v6 v7 v8 v9 v10 v11 v12) (W : Wr h h' a (RoadKit.slotOf Z "com/example/tollbook/tollbook/ber/TlvChains" "nexts" "[I") w) : TC Z h' a v0 v1 w v3 v4 v5 v6 v7 v8 v9 v10 v11 v12 := by
  obtain ⟨E, F0, F1, F2, F3, F4, F5, F6, F7, F8, F9, F10, F11, F12⟩ := R
  exact ⟨E.wr W, F0.other W (Or.inr (slot_ne (C := "com/example/tollbook/tollbook/ber/TlvChains") (Or.inl (hw _ (List.mem_of_getElem? (i := 87) rfl))) (Or.inl (hw _ (List.mem_of_getElem? (i := 15) rfl))) (by decide) (t := .int) (t' := (.array .int)) (by decide) (by decide))), F1.other W (Or.inr (slot_ne (C := "com/example/tollbook/tollbook/ber/TlvChains") (Or.inl (hw _ (List.mem_of_getElem? (i := 12) rfl))) (Or.inl (hw _ (List.mem_of_getElem? (i := 15) rfl))) (by decide) (t := .int) (t' := (.array .int)) (by decide) (by decide))), F2.same W, F3.other W (Or.inr (slot_ne (C := "com/example/tollbook/tollbook/ber/TlvChains") (Or.inl (hw _ (List.mem_of_getElem? (i := 17) rfl))) (Or.inl (hw _ (List.mem_of_getElem? (i := 15) rfl))) (by decide) (t := (.array .int)) (t' := (.array .int)) (by decide) (by decide))), F4.other W (Or.inr (slot_ne (C := "com/example/tollbook/tollbook/ber/TlvChains") (Or.inl (hw _ (List.mem_of_getElem? (i := 19) rfl))) (Or.inl (hw _ (List.mem_of_getElem? (i := 15) rfl))) (by decide) (t := (.array .int)) (t' := (.array .int)) (by decide) (by decide))), F5.other W (Or.inr (slot_ne (C := "com/example/tollbook/tollbook/ber/TlvChains") (Or.inl (hw _ (List.mem_of_getElem? (i := 22) rfl))) (Or.inl (hw _ (List.mem_of_getElem? (i := 15) rfl))) (by decide) (t := (.array .byte)) (t' := (.array .int)) (by decide) (by decide))), F6.other W (Or.inr (slot_ne (C := "com/example/tollbook/tollbook/ber/TlvChains") (Or.inl (hw _ (List.mem_of_getElem? (i := 24) rfl))) (Or.inl (hw _ (List.mem_of_getElem? (i := 15) rfl))) (by decide) (t := (.array .int)) (t' := (.array .int)) (by decide) (by decide))), F7.other W (Or.inr (slot_ne (C := "com/example/tollbook/tollbook/ber/TlvChains") (Or.inl (hw _ (List.mem_of_getElem? (i := 26) rfl))) (Or.inl (hw _ (List.mem_of_getElem? (i := 15) rfl))) (by decide) (t := (.array .int)) (t' := (.array .int)) (by decide) (by decide))), F8.other W (Or.inr (slot_ne (C := "com/example/tollbook/tollbook/ber/TlvChains") (Or.inl (hw _ (List.mem_of_getElem? (i := 30) rfl))) (Or.inl (hw _ (List.mem_of_getElem? (i := 15) rfl))) (by decide) (t := (.array (.object "com/example/tollbook/tollbook/ber/BerException"))) (t' := (.array .int)) (by decide) (by decide))), F9.other W (Or.inr (slot_ne (C := "com/example/tollbook/tollbook/ber/TlvChains") (Or.inl (hw _ (List.mem_of_getElem? (i := 32) rfl))) (Or.inl (hw _ (List.mem_of_getElem? (i := 15) rfl))) (by decide) (t := (.array .int)) (t' := (.array .int)) (by decide) (by decide))), F10.other W (Or.inr (slot_ne (C := "com/example/tollbook/tollbook/ber/TlvChains") (Or.inl (hw _ (List.mem_of_getElem? (i := 85) rfl))) (Or.inl (hw _ (List.mem_of_getElem? (i := 15) rfl))) (by decide) (t := .int) (t' := (.array .int)) (by decide) (by decide))), F11.other W (Or.inr (slot_ne (C := "com/example/tollbook/tollbook/ber/TlvChains") (Or.inl (hw _ (List.mem_of_getElem? (i := 34) rfl))) (Or.inl (hw _ (List.mem_of_getElem? (i := 15) rfl))) (by decide) (t := .int) (t' := (.array .int)) (by decide) (by decide))), F12.other W (Or.inr (slot_ne (C := "com/example/tollbook/tollbook/ber/TlvChains") (Or.inl (hw _ (List.mem_of_getElem? (i := 36) rfl))) (Or.inl (hw _ (List.mem_of_getElem? (i := 15) rfl))) (by decide) (t := (.array .int)) (t' := (.array .int)) (by decide) (by decide)))⟩
theorem TC.set_jumps {Z : State} {h h' : Heap} {a : Addr} {a0 : Array Value} {w : Value} {v0 v1 v2 v3 v4 v5 v6 v7 v8 v9 v10 v11 v12 : Value} (hw : ∀ d ∈ tables_1, d.before a0 Z = true) (R : TC Z h a v0 v1 v2 v3 v4 v5 v6 v7 v8 v9 v10 v11 v12) (W : Wr h h' a (RoadKit.slotOf Z "com/example/tollbook/tollbook/ber/TlvChains" "jumps" "[I") w) : TC Z h' a v0 v1 v2 w v4 v5 v6 v7 v8 v9 v10 v11 v12 := by
  obtain ⟨E, F0, F1, F2, F3, F4, F5, F6, F7, F8, F9, F10, F11, F12⟩ := R
  exact ⟨E.wr W, F0.other W (Or.inr (slot_ne (C := "com/example/tollbook/tollbook/ber/TlvChains") (Or.inl (hw _ (List.mem_of_getElem? (i := 87) rfl))) (Or.inl (hw _ (List.mem_of_getElem? (i := 17) rfl))) (by decide) (t := .int) (t' := (.array .int)) (by decide) (by decide))), F1.other W (Or.inr (slot_ne (C := "com/example/tollbook/tollbook/ber/TlvChains") (Or.inl (hw _ (List.mem_of_getElem? (i := 12) rfl))) (Or.inl (hw _ (List.mem_of_getElem? (i := 17) rfl))) (by decide) (t := .int) (t' := (.array .int)) (by decide) (by decide))), F2.other W (Or.inr (slot_ne (C := "com/example/tollbook/tollbook/ber/TlvChains") (Or.inl (hw _ (List.mem_of_getElem? (i := 15) rfl))) (Or.inl (hw _ (List.mem_of_getElem? (i := 17) rfl))) (by decide) (t := (.array .int)) (t' := (.array .int)) (by decide) (by decide))), F3.same W, F4.other W (Or.inr (slot_ne (C := "com/example/tollbook/tollbook/ber/TlvChains") (Or.inl (hw _ (List.mem_of_getElem? (i := 19) rfl))) (Or.inl (hw _ (List.mem_of_getElem? (i := 17) rfl))) (by decide) (t := (.array .int)) (t' := (.array .int)) (by decide) (by decide))), F5.other W (Or.inr (slot_ne (C := "com/example/tollbook/tollbook/ber/TlvChains") (Or.inl (hw _ (List.mem_of_getElem? (i := 22) rfl))) (Or.inl (hw _ (List.mem_of_getElem? (i := 17) rfl))) (by decide) (t := (.array .byte)) (t' := (.array .int)) (by decide) (by decide))), F6.other W (Or.inr (slot_ne (C := "com/example/tollbook/tollbook/ber/TlvChains") (Or.inl (hw _ (List.mem_of_getElem? (i := 24) rfl))) (Or.inl (hw _ (List.mem_of_getElem? (i := 17) rfl))) (by decide) (t := (.array .int)) (t' := (.array .int)) (by decide) (by decide))), F7.other W (Or.inr (slot_ne (C := "com/example/tollbook/tollbook/ber/TlvChains") (Or.inl (hw _ (List.mem_of_getElem? (i := 26) rfl))) (Or.inl (hw _ (List.mem_of_getElem? (i := 17) rfl))) (by decide) (t := (.array .int)) (t' := (.array .int)) (by decide) (by decide))), F8.other W (Or.inr (slot_ne (C := "com/example/tollbook/tollbook/ber/TlvChains") (Or.inl (hw _ (List.mem_of_getElem? (i := 30) rfl))) (Or.inl (hw _ (List.mem_of_getElem? (i := 17) rfl))) (by decide) (t := (.array (.object "com/example/tollbook/tollbook/ber/BerException"))) (t' := (.array .int)) (by decide) (by decide))), F9.other W (Or.inr (slot_ne (C := "com/example/tollbook/tollbook/ber/TlvChains") (Or.inl (hw _ (List.mem_of_getElem? (i := 32) rfl))) (Or.inl (hw _ (List.mem_of_getElem? (i := 17) rfl))) (by decide) (t := (.array .int)) (t' := (.array .int)) (by decide) (by decide))), F10.other W (Or.inr (slot_ne (C := "com/example/tollbook/tollbook/ber/TlvChains") (Or.inl (hw _ (List.mem_of_getElem? (i := 85) rfl))) (Or.inl (hw _ (List.mem_of_getElem? (i := 17) rfl))) (by decide) (t := .int) (t' := (.array .int)) (by decide) (by decide))), F11.other W (Or.inr (slot_ne (C := "com/example/tollbook/tollbook/ber/TlvChains") (Or.inl (hw _ (List.mem_of_getElem? (i := 34) rfl))) (Or.inl (hw _ (List.mem_of_getElem? (i := 17) rfl))) (by decide) (t := .int) (t' := (.array .int)) (by decide) (by decide))), F12.other W (Or.inr (slot_ne (C := "com/example/tollbook/tollbook/ber/TlvChains") (Or.inl (hw _ (List.mem_of_getElem? (i := 36) rfl))) (Or.inl (hw _ (List.mem_of_getElem? (i := 17) rfl))) (by decide) (t := (.array .int)) (t' := (.array .int)) (by decide) (by decide)))⟩
theorem TC.set_depths {Z : State} {h h' : Heap} {a : Addr} {a0 : Array Value} {w : Value} {v0 v1 v2 v3 v4 v5 v6 v7 v8 v9 v10 v11 v12 : Value} (hw : ∀ d ∈ tables_1, d.before a0 Z = true) (R : TC Z h a v0 v1 v2 v3 v4 v5 v6 v7 v8 v9 v10 v11 v12) (W : Wr h h' a (RoadKit.slotOf Z "com/example/tollbook/tollbook/ber/TlvChains" "depths" "[I") w) : TC Z h' a v0 v1 v2 v3 w v5 v6 v7 v8 v9 v10 v11 v12 := by
  obtain ⟨E, F0, F1, F2, F3, F4, F5, F6, F7, F8, F9, F10, F11, F12⟩ := R
  exact ⟨E.wr W, F0.other W (Or.inr (slot_ne (C := "com/example/tollbook/tollbook/ber/TlvChains") (Or.inl (hw _ (List.mem_of_getElem? (i := 87) rfl))) (Or.inl (hw _ (List.mem_of_getElem? (i := 19) rfl))) (by decide) (t := .int) (t' := (.array .int)) (by decide) (by decide))), F1.other W (Or.inr (slot_ne (C := "com/example/tollbook/tollbook/ber/TlvChains") (Or.inl (hw _ (List.mem_of_getElem? (i := 12) rfl))) (Or.inl (hw _ (List.mem_of_getElem? (i := 19) rfl))) (by decide) (t := .int) (t' := (.array .int)) (by decide) (by decide))), F2.other W (Or.inr (slot_ne (C := "com/example/tollbook/tollbook/ber/TlvChains") (Or.inl (hw _ (List.mem_of_getElem? (i := 15) rfl))) (Or.inl (hw _ (List.mem_of_getElem? (i := 19) rfl))) (by decide) (t := (.array .int)) (t' := (.array .int)) (by decide) (by decide))), F3.other W (Or.inr (slot_ne (C := "com/example/tollbook/tollbook/ber/TlvChains") (Or.inl (hw _ (List.mem_of_getElem? (i := 17) rfl))) (Or.inl (hw _ (List.mem_of_getElem? (i := 19) rfl))) (by decide) (t := (.array .int)) (t' := (.array .int)) (by decide) (by decide))), F4.same W, F5.other W (Or.inr (slot_ne (C := "com/example/tollbook/tollbook/ber/TlvChains") (Or.inl (hw _ (List.mem_of_getElem? (i := 22) rfl))) (Or.inl (hw _ (List.mem_of_getElem? (i := 19) rfl))) (by decide) (t := (.array .byte)) (t' := (.array .int)) (by decide) (by decide))), F6.other W (Or.inr (slot_ne (C := "com/example/tollbook/tollbook/ber/TlvChains") (Or.inl (hw _ (List.mem_of_getElem? (i := 24) rfl))) (Or.inl (hw _ (List.mem_of_getElem? (i := 19) rfl))) (by decide) (t := (.array .int)) (t' := (.array .int)) (by decide) (by decide))), F7.other W (Or.inr (slot_ne (C := "com/example/tollbook/tollbook/ber/TlvChains") (Or.inl (hw _ (List.mem_of_getElem? (i := 26) rfl))) (Or.inl (hw _ (List.mem_of_getElem? (i := 19) rfl))) (by decide) (t := (.array .int)) (t' := (.array .int)) (by decide) (by decide))), F8.other W (Or.inr (slot_ne (C := "com/example/tollbook/tollbook/ber/TlvChains") (Or.inl (hw _ (List.mem_of_getElem? (i := 30) rfl))) (Or.inl (hw _ (List.mem_of_getElem? (i := 19) rfl))) (by decide) (t := (.array (.object "com/example/tollbook/tollbook/ber/BerException"))) (t' := (.array .int)) (by decide) (by decide))), F9.other W (Or.inr (slot_ne (C := "com/example/tollbook/tollbook/ber/TlvChains") (Or.inl (hw _ (List.mem_of_getElem? (i := 32) rfl))) (Or.inl (hw _ (List.mem_of_getElem? (i := 19) rfl))) (by decide) (t := (.array .int)) (t' := (.array .int)) (by decide) (by decide))), F10.other W (Or.inr (slot_ne (C := "com/example/tollbook/tollbook/ber/TlvChains") (Or.inl (hw _ (List.mem_of_getElem? (i := 85) rfl))) (Or.inl (hw _ (List.mem_of_getElem? (i := 19) rfl))) (by decide) (t := .int) (t' := (.array .int)) (by decide) (by decide))), F11.other W (Or.inr (slot_ne (C := "com/example/tollbook/tollbook/ber/TlvChains") (Or.inl (hw _ (List.mem_of_getElem? (i := 34) rfl))) (Or.inl (hw _ (List.mem_of_getElem? (i := 19) rfl))) (by decide) (t := .int) (t' := (.array .int)) (by decide) (by decide))), F12.other W (Or.inr (slot_ne (C := "com/example/tollbook/tollbook/ber/TlvChains") (Or.inl (hw _ (List.mem_of_getElem? (i := 36) rfl))) (Or.inl (hw _ (List.mem_of_getElem? (i := 19) rfl))) (by decide) (t := (.array .int)) (t' := (.array .int)) (by decide) (by decide)))⟩
theorem TC.set_tagClasses {Z : State} {h h' : Heap} {a : Addr} {a0 : Array Value} {w : Value} {v0 v1 v2 v3 v4 v5 v6 v7 v8 v9 v10 v11 v12 : Value} (hw : ∀ d ∈ tables_1, d.before a0 Z = true) (R : TC Z h a v0 v1 v2 v3 v4 v5 v6 v7 v8 v9 v10 v11 v12) (W : Wr h h' a (RoadKit.slotOf Z "com/example/tollbook/tollbook/ber/TlvChains" "tagClasses" "[B") w) : TC Z h' a v0 v1 v2 v3 v4 w v6 v7 v8 v9 v10 v11 v12 := by
  obtain ⟨E, F0, F1, F2, F3, F4, F5, F6, F7, F8, F9, F10, F11, F12⟩ := R
  exact ⟨E.wr W, F0.other W (Or.inr (slot_ne (C := "com/example/tollbook/tollbook/ber/TlvChains") (Or.inl (hw _ (List.mem_of_getElem? (i := 87) rfl))) (Or.inl (hw _ (List.mem_of_getElem? (i := 22) rfl))) (by decide) (t := .int) (t' := (.array .byte)) (by decide) (by decide))), F1.other W (Or.inr (slot_ne (C := "com/example/tollbook/tollbook/ber/TlvChains") (Or.inl (hw _ (List.mem_of_getElem? (i := 12) rfl))) (Or.inl (hw _ (List.mem_of_getElem? (i := 22) rfl))) (by decide) (t := .int) (t' := (.array .byte)) (by decide) (by decide))), F2.other W (Or.inr (slot_ne (C := "com/example/tollbook/tollbook/ber/TlvChains") (Or.inl (hw _ (List.mem_of_getElem? (i := 15) rfl))) (Or.inl (hw _ (List.mem_of_getElem? (i := 22) rfl))) (by decide) (t := (.array .int)) (t' := (.array .byte)) (by decide) (by decide))), F3.other W (Or.inr (slot_ne (C := "com/example/tollbook/tollbook/ber/TlvChains") (Or.inl (hw _ (List.mem_of_getElem? (i := 17) rfl))) (Or.inl (hw _ (List.mem_of_getElem? (i := 22) rfl))) (by decide) (t := (.array .int)) (t' := (.array .byte)) (by decide) (by decide))), F4.other W (Or.inr (slot_ne (C := "com/example/tollbook/tollbook/ber/TlvChains") (Or.inl (hw _ (List.mem_of_getElem? (i := 19) rfl))) (Or.inl (hw _ (List.mem_of_getElem? (i := 22) rfl))) (by decide) (t := (.array .int)) (t' := (.array .byte)) (by decide) (by decide))), F5.same W, F6.other W (Or.inr (slot_ne (C := "com/example/tollbook/tollbook/ber/TlvChains") (Or.inl (hw _ (List.mem_of_getElem? (i := 24) rfl))) (Or.inl (hw _ (List.mem_of_getElem? (i := 22) rfl))) (by decide) (t := (.array .int)) (t' := (.array .byte)) (by decide) (by decide))), F7.other W (Or.inr (slot_ne (C := "com/example/tollbook/tollbook/ber/TlvChains") (Or.inl (hw _ (List.mem_of_getElem? (i := 26) rfl))) (Or.inl (hw _ (List.mem_of_getElem? (i := 22) rfl))) (by decide) (t := (.array .int)) (t' := (.array .byte)) (by decide) (by decide))), F8.other W (Or.inr (slot_ne (C := "com/example/tollbook/tollbook/ber/TlvChains") (Or.inl (hw _ (List.mem_of_getElem? (i := 30) rfl))) (Or.inl (hw _ (List.mem_of_getElem? (i := 22) rfl))) (by decide) (t := (.array (.object "com/example/tollbook/tollbook/ber/BerException"))) (t' := (.array .byte)) (by decide) (by decide))), F9.other W (Or.inr (slot_ne (C := "com/example/tollbook/tollbook/ber/TlvChains") (Or.inl (hw _ (List.mem_of_getElem? (i := 32) rfl))) (Or.inl (hw _ (List.mem_of_getElem? (i := 22) rfl))) (by decide) (t := (.array .int)) (t' := (.array .byte)) (by decide) (by decide))), F10.other W (Or.inr (slot_ne (C := "com/example/tollbook/tollbook/ber/TlvChains") (Or.inl (hw _ (List.mem_of_getElem? (i := 85) rfl))) (Or.inl (hw _ (List.mem_of_getElem? (i := 22) rfl))) (by decide) (t := .int) (t' := (.array .byte)) (by decide) (by decide))), F11.other W (Or.inr (slot_ne (C := "com/example/tollbook/tollbook/ber/TlvChains") (Or.inl (hw _ (List.mem_of_getElem? (i := 34) rfl))) (Or.inl (hw _ (List.mem_of_getElem? (i := 22) rfl))) (by decide) (t := .int) (t' := (.array .byte)) (by decide) (by decide))), F12.other W (Or.inr (slot_ne (C := "com/example/tollbook/tollbook/ber/TlvChains") (Or.inl (hw _ (List.mem_of_getElem? (i := 36) rfl))) (Or.inl (hw _ (List.mem_of_getElem? (i := 22) rfl))) (by decide) (t := (.array .int)) (t' := (.array .byte)) (by decide) (by decide)))⟩
theorem TC.set_tagNumbers {Z : State} {h h' : Heap} {a : Addr} {a0 : Array Value} {w : Value} {v0 v1 v2 v3 v4 v5 v6 v7 v8 v9 v10 v11 v12 : Value} (hw : ∀ d ∈ tables_1, d.before a0 Z = true) (R : TC Z h a v0 v1 v2 v3 v4 v5 v6 v7 v8 v9 v10 v11 v12) (W : Wr h h' a (RoadKit.slotOf Z "com/example/tollbook/tollbook/ber/TlvChains" "tagNumbers" "[I") w) : TC Z h' a v0 v1 v2 v3 v4 v5 w v7 v8 v9 v10 v11 v12 := by
  obtain ⟨E, F0, F1, F2, F3, F4, F5, F6, F7, F8, F9, F10, F11, F12⟩ := R
  exact ⟨E.wr W, F0.other W (Or.inr (slot_ne (C := "com/example/tollbook/tollbook/ber/TlvChains") (Or.inl (hw _ (List.mem_of_getElem? (i := 87) rfl))) (Or.inl (hw _ (List.mem_of_getElem? (i := 24) rfl))) (by decide) (t := .int) (t' := (.array .int)) (by decide) (by decide))), F1.other W (Or.inr (slot_ne (C := "com/example/tollbook/tollbook/ber/TlvChains") (Or.inl (hw _ (List.mem_of_getElem? (i := 12) rfl))) (Or.inl (hw _ (List.mem_of_getElem? (i := 24) rfl))) (by decide) (t := .int) (t' := (.array .int)) (by decide) (by decide))), F2.other W (Or.inr (slot_ne (C := "com/example/tollbook/tollbook/ber/TlvChains") (Or.inl (hw _ (List.mem_of_getElem? (i := 15) rfl))) (Or.inl (hw _ (List.mem_of_getElem? (i := 24) rfl))) (by decide) (t := (.array .int)) (t' := (.array .int)) (by decide) (by decide))), F3.other W (Or.inr (slot_ne (C := "com/example/tollbook/tollbook/ber/TlvChains") (Or.inl (hw _ (List.mem_of_getElem? (i := 17) rfl))) (Or.inl (hw _ (List.mem_of_getElem? (i := 24) rfl))) (by decide) (t := (.array .int)) (t' := (.array .int)) (by decide) (by decide))), F4.other W (Or.inr (slot_ne (C := "com/example/tollbook/tollbook/ber/TlvChains") (Or.inl (hw _ (List.mem_of_getElem? (i := 19) rfl))) (Or.inl (hw _ (List.mem_of_getElem? (i := 24) rfl))) (by decide) (t := (.array .int)) (t' := (.array .int)) (by decide) (by decide))), F5.other W (Or.inr (slot_ne (C := "com/example/tollbook/tollbook/ber/TlvChains") (Or.inl (hw _ (List.mem_of_getElem? (i := 22) rfl))) (Or.inl (hw _ (List.mem_of_getElem? (i := 24) rfl))) (by decide) (t := (.array .byte)) (t' := (.array .int)) (by decide) (by decide))), F6.same W, F7.other W (Or.inr (slot_ne (C := "com/example/tollbook/tollbook/ber/TlvChains") (Or.inl (hw _ (List.mem_of_getElem? (i := 26) rfl))) (Or.inl (hw _ (List.mem_of_getElem? (i := 24) rfl))) (by decide) (t := (.array .int)) (t' := (.array .int)) (by decide) (by decide))), F8.other W (Or.inr (slot_ne (C := "com/example/tollbook/tollbook/ber/TlvChains") (Or.inl (hw _ (List.mem_of_getElem? (i := 30) rfl))) (Or.inl (hw _ (List.mem_of_getElem? (i := 24) rfl))) (by decide) (t := (.array (.object "com/example/tollbook/tollbook/ber/BerException"))) (t' := (.array .int)) (by decide) (by decide))), F9.other W (Or.inr (slot_ne (C := "com/example/tollbook/tollbook/ber/TlvChains") (Or.inl (hw _ (List.mem_of_getElem? (i := 32) rfl))) (Or.inl (hw _ (List.mem_of_getElem? (i := 24) rfl))) (by decide) (t := (.array .int)) (t' := (.array .int)) (by decide) (by decide))), F10.other W (Or.inr (slot_ne (C := "com/example/tollbook/tollbook/ber/TlvChains") (Or.inl (hw _ (List.mem_of_getElem? (i := 85) rfl))) (Or.inl (hw _ (List.mem_of_getElem? (i := 24) rfl))) (by decide) (t := .int) (t' := (.array .int)) (by decide) (by decide))), F11.other W (Or.inr (slot_ne (C := "com/example/tollbook/tollbook/ber/TlvChains") (Or.inl (hw _ (List.mem_of_getElem? (i := 34) rfl))) (Or.inl (hw _ (List.mem_of_getElem? (i := 24) rfl))) (by decide) (t := .int) (t' := (.array .int)) (by decide) (by decide))), F12.other W (Or.inr (slot_ne (C := "com/example/tollbook/tollbook/ber/TlvChains") (Or.inl (hw _ (List.mem_of_getElem? (i := 36) rfl))) (Or.inl (hw _ (List.mem_of_getElem? (i := 24) rfl))) (by decide) (t := (.array .int)) (t' := (.array .int)) (by decide) (by decide)))⟩
theorem TC.set_nearest {Z : State} {h h' : Heap} {a : Addr} {a0 : Array Value} {w : Value} {v0 v1 v2 v3 v4 v5 v6 v7 v8 v9 v10 v11 v12 : Value} (hw : ∀ d ∈ tables_1, d.before a0 Z = true) (R : TC Z h a v0 v1 v2 v3 v4 v5 v6 v7 v8 v9 v10 v11 v12) (W : Wr h h' a (RoadKit.slotOf Z "com/example/tollbook/tollbook/ber/TlvChains" "nearest" "[I") w) : TC Z h' a v0 v1 v2 v3 v4 v5 v6 w v8 v9 v10 v11 v12 := by
  obtain ⟨E, F0, F1, F2, F3, F4, F5, F6, F7, F8, F9, F10, F11, F12⟩ := R
  exact ⟨E.wr W, F0.other W (Or.inr (slot_ne (C := "com/example/tollbook/tollbook/ber/TlvChains") (Or.inl (hw _ (List.mem_of_getElem? (i := 87) rfl))) (Or.inl (hw _ (List.mem_of_getElem? (i := 26) rfl))) (by decide) (t := .int) (t' := (.array .int)) (by decide) (by decide))), F1.other W (Or.inr (slot_ne (C := "com/example/tollbook/tollbook/ber/TlvChains") (Or.inl (hw _ (List.mem_of_getElem? (i := 12) rfl))) (Or.inl (hw _ (List.mem_of_getElem? (i := 26) rfl))) (by decide) (t := .int) (t' := (.array .int)) (by decide) (by decide))), F2.other W (Or.inr (slot_ne (C := "com/example/tollbook/tollbook/ber/TlvChains") (Or.inl (hw _ (List.mem_of_getElem? (i := 15) rfl))) (Or.inl (hw _ (List.mem_of_getElem? (i := 26) rfl))) (by decide) (t := (.array .int)) (t' := (.array .int)) (by decide) (by decide))), F3.other W (Or.inr (slot_ne (C := "com/example/tollbook/tollbook/ber/TlvChains") (Or.inl (hw _ (List.mem_of_getElem? (i := 17) rfl))) (Or.inl (hw _ (List.mem_of_getElem? (i := 26) rfl))) (by decide) (t := (.array .int)) (t' := (.array .int)) (by decide) (by decide))), F4.other W (Or.inr (slot_ne (C := "com/example/tollbook/tollbook/ber/TlvChains") (Or.inl (hw _ (List.mem_of_getElem? (i := 19) rfl))) (Or.inl (hw _ (List.mem_of_getElem? (i := 26) rfl))) (by decide) (t := (.array .int)) (t' := (.array .int)) (by decide) (by decide))), F5.other W (Or.inr (slot_ne (C := "com/example/tollbook/tollbook/ber/TlvChains") (Or.inl (hw _ (List.mem_of_getElem? (i := 22) rfl))) (Or.inl (hw _ (List.mem_of_getElem? (i := 26) rfl))) (by decide) (t := (.array .byte)) (t' := (.array .int)) (by decide) (by decide))), F6.other W (Or.inr (slot_ne (C := "com/example/tollbook/tollbook/ber/TlvChains") (Or.inl (hw _ (List.mem_of_getElem? (i := 24) rfl))) (Or.inl (hw _ (List.mem_of_getElem? (i := 26) rfl))) (by decide) (t := (.array .int)) (t' := (.array .int)) (by decide) (by decide))), F7.same W, F8.other W (Or.inr (slot_ne (C := "com/example/tollbook/tollbook/ber/TlvChains") (Or.inl (hw _ (List.mem_of_getElem? (i := 30) rfl))) (Or.inl (hw _ (List.mem_of_getElem? (i := 26) rfl))) (by decide) (t := (.array (.object "com/example/tollbook/tollbook/ber/BerException"))) (t' := (.array .int)) (by decide) (by decide))), F9.other W (Or.inr (slot_ne (C := "com/example/tollbook/tollbook/ber/TlvChains") (Or.inl (hw _ (List.mem_of_getElem? (i := 32) rfl))) (Or.inl (hw _ (List.mem_of_getElem? (i := 26) rfl))) (by decide) (t := (.array .int)) (t' := (.array .int)) (by decide) (by decide))), F10.other W (Or.inr (slot_ne (C := "com/example/tollbook/tollbook/ber/TlvChains") (Or.inl (hw _ (List.mem_of_getElem? (i := 85) rfl))) (Or.inl (hw _ (List.mem_of_getElem? (i := 26) rfl))) (by decide) (t := .int) (t' := (.array .int)) (by decide) (by decide))), F11.other W (Or.inr (slot_ne (C := "com/example/tollbook/tollbook/ber/TlvChains") (Or.inl (hw _ (List.mem_of_getElem? (i := 34) rfl))) (Or.inl (hw _ (List.mem_of_getElem? (i := 26) rfl))) (by decide) (t := .int) (t' := (.array .int)) (by decide) (by decide))), F12.other W (Or.inr (slot_ne (C := "com/example/tollbook/tollbook/ber/TlvChains") (Or.inl (hw _ (List.mem_of_getElem? (i := 36) rfl))) (Or.inl (hw _ (List.mem_of_getElem? (i := 26) rfl))) (by decide) (t := (.array .int)) (t' := (.array .int)) (by decide) (by decide)))⟩
theorem TC.set_failures {Z : State} {h h' : Heap} {a : Addr} {a0 : Array Value} {w : Value} {v0 v1 v2 v3 v4 v5 v6 v7 v8 v9 v10 v11 v12 : Value} (hw : ∀ d ∈ tables_1, d.before a0 Z = true) (R : TC Z h a v0 v1 v2 v3 v4 v5 v6 v7 v8 v9 v10 v11 v12) (W : Wr h h' a (RoadKit.slotOf Z "com/example/tollbook/tollbook/ber/TlvChains" "failures" "[Lcom/example/tollbook/tollbook/ber/BerException;") w) : TC Z h' a v0 v1 v2 v3 v4 v5 v6 v7 w v9 v10 v11 v12 := by
  obtain ⟨E, F0, F1, F2, F3, F4, F5, F6, F7, F8, F9, F10, F11, F12⟩ := R
  exact ⟨E.wr W, F0.other W (Or.inr (slot_ne (C := "com/example/tollbook/tollbook/ber/TlvChains") (Or.inl (hw _ (List.mem_of_getElem? (i := 87) rfl))) (Or.inl (hw _ (List.mem_of_getElem? (i := 30) rfl))) (by decide) (t := .int) (t' := (.array (.object "com/example/tollbook/tollbook/ber/BerException"))) (by decide) (by decide))), F1.other W (Or.inr (slot_ne (C := "com/example/tollbook/tollbook/ber/TlvChains") (Or.inl (hw _ (List.mem_of_getElem? (i := 12) rfl))) (Or.inl (hw _ (List.mem_of_getElem? (i := 30) rfl))) (by decide) (t := .int) (t' := (.array (.object "com/example/tollbook/tollbook/ber/BerException"))) (by decide) (by decide))), F2.other W (Or.inr (slot_ne (C := "com/example/tollbook/tollbook/ber/TlvChains") (Or.inl (hw _ (List.mem_of_getElem? (i := 15) rfl))) (Or.inl (hw _ (List.mem_of_getElem? (i := 30) rfl))) (by decide) (t := (.array .int)) (t' := (.array (.object "com/example/tollbook/tollbook/ber/BerException"))) (by decide) (by decide))), F3.other W (Or.inr (slot_ne (C := "com/example/tollbook/tollbook/ber/TlvChains") (Or.inl (hw _ (List.mem_of_getElem? (i := 17) rfl))) (Or.inl (hw _ (List.mem_of_getElem? (i := 30) rfl))) (by decide) (t := (.array .int)) (t' := (.array (.object "com/example/tollbook/tollbook/ber/BerException"))) (by decide) (by decide))), F4.other W (Or.inr (slot_ne (C := "com/example/tollbook/tollbook/ber/TlvChains") (Or.inl (hw _ (List.mem_of_getElem? (i := 19) rfl))) (Or.inl (hw _ (List.mem_of_getElem? (i := 30) rfl))) (by decide) (t := (.array .int)) (t' := (.array (.object "com/example/tollbook/tollbook/ber/BerException"))) (by decide) (by decide))), F5.other W (Or.inr (slot_ne (C := "com/example/tollbook/tollbook/ber/TlvChains") (Or.inl (hw _ (List.mem_of_getElem? (i := 22) rfl))) (Or.inl (hw _ (List.mem_of_getElem? (i := 30) rfl))) (by decide) (t := (.array .byte)) (t' := (.array (.object "com/example/tollbook/tollbook/ber/BerException"))) (by decide) (by decide))), F6.other W (Or.inr (slot_ne (C := "com/example/tollbook/tollbook/ber/TlvChains") (Or.inl (hw _ (List.mem_of_getElem? (i := 24) rfl))) (Or.inl (hw _ (List.mem_of_getElem? (i := 30) rfl))) (by decide) (t := (.array .int)) (t' := (.array (.object "com/example/tollbook/tollbook/ber/BerException"))) (by decide) (by decide))), F7.other W (Or.inr (slot_ne (C := "com/example/tollbook/tollbook/ber/TlvChains") (Or.inl (hw _ (List.mem_of_getElem? (i := 26) rfl))) (Or.inl (hw _ (List.mem_of_getElem? (i := 30) rfl))) (by decide) (t := (.array .int)) (t' := (.array (.object "com/example/tollbook/tollbook/ber/BerException"))) (by decide) (by decide))), F8.same W, F9.other W (Or.inr (slot_ne (C := "com/example/tollbook/tollbook/ber/TlvChains") (Or.inl (hw _ (List.mem_of_getElem? (i := 32) rfl))) (Or.inl (hw _ (List.mem_of_getElem? (i := 30) rfl))) (by decide) (t := (.array .int)) (t' := (.array (.object "com/example/tollbook/tollbook/ber/BerException"))) (by decide) (by decide))), F10.other W (Or.inr (slot_ne (C := "com/example/tollbook/tollbook/ber/TlvChains") (Or.inl (hw _ (List.mem_of_getElem? (i := 85) rfl))) (Or.inl (hw _ (List.mem_of_getElem? (i := 30) rfl))) (by decide) (t := .int) (t' := (.array (.object "com/example/tollbook/tollbook/ber/BerException"))) (by decide) (by decide))), F11.other W (Or.inr (slot_ne (C := "com/example/tollbook/tollbook/ber/TlvChains") (Or.inl (hw _ (List.mem_of_getElem? (i := 34) rfl))) (Or.inl (hw _ (List.mem_of_getElem? (i := 30) rfl))) (by decide) (t := .int) (t' := (.array (.object "com/example/tollbook/tollbook/ber/BerException"))) (by decide) (by decide))), F12.other W (Or.inr (slot_ne (C := "com/example/tollbook/tollbook/ber/TlvChains") (Or.inl (hw _ (List.mem_of_getElem? (i := 36) rfl))) (Or.inl (hw _ (List.mem_of_getElem? (i := 30) rfl))) (by decide) (t := (.array .int)) (t' := (.array (.object "com/example/tollbook/tollbook/ber/BerException"))) (by decide) (by decide)))⟩
theorem TC.set_learnt {Z : State} {h h' : Heap} {a : Addr} {a0 : Array Value} {w : Value} {v0 v1 v2 v3 v4 v5 v6 v7 v8 v9 v10 v11 v12 : Value} (hw : ∀ d ∈ tables_1, d.before a0 Z = true) (R : TC Z h a v0 v1 v2 v3 v4 v5 v6 v7 v8 v9 v10 v11 v12) (W : Wr h h' a (RoadKit.slotOf Z "com/example/tollbook/tollbook/ber/TlvChains" "learnt" "[I") w) : TC Z h' a v0 v1 v2 v3 v4 v5 v6 v7 v8 w v10 v11 v12 := by
  obtain ⟨E, F0, F1, F2, F3, F4, F5, F6, F7, F8, F9, F10, F11, F12⟩ := R
  exact ⟨E.wr W, F0.other W (Or.inr (slot_ne (C := "com/example/tollbook/tollbook/ber/TlvChains") (Or.inl (hw _ (List.mem_of_getElem? (i := 87) rfl))) (Or.inl (hw _ (List.mem_of_getElem? (i := 32) rfl))) (by decide) (t := .int) (t' := (.array .int)) (by decide) (by decide))), F1.other W (Or.inr (slot_ne (C := "com/example/tollbook/tollbook/ber/TlvChains") (Or.inl (hw _ (List.mem_of_getElem? (i := 12) rfl))) (Or.inl (hw _ (List.mem_of_getElem? (i := 32) rfl))) (by decide) (t := .int) (t' := (.array .int)) (by decide) (by decide))), F2.other W (Or.inr (slot_ne (C := "com/example/tollbook/tollbook/ber/TlvChains") (Or.inl (hw _ (List.mem_of_getElem? (i := 15) rfl))) (Or.inl (hw _ (List.mem_of_getElem? (i := 32) rfl))) (by decide) (t := (.array .int)) (t' := (.array .int)) (by decide) (by decide))), F3.other W (Or.inr (slot_ne (C := "com/example/tollbook/tollbook/ber/TlvChains") (Or.inl (hw _ (List.mem_of_getElem? (i := 17) rfl))) (Or.inl (hw _ (List.mem_of_getElem? (i := 32) rfl))) (by decide) (t := (.array .int)) (t' := (.array .int)) (by decide) (by decide))), F4.other W (Or.inr (slot_ne (C := "com/example/tollbook/tollbook/ber/TlvChains") (Or.inl (hw _ (List.mem_of_getElem? (i := 19) rfl))) (Or.inl (hw _ (List.mem_of_getElem? (i := 32) rfl))) (by decide) (t := (.array .int)) (t' := (.array .int)) (by decide) (by decide))), F5.other W (Or.inr (slot_ne (C := "com/example/tollbook/tollbook/ber/TlvChains") (Or.inl (hw _ (List.mem_of_getElem? (i := 22) rfl))) (Or.inl (hw _ (List.mem_of_getElem? (i := 32) rfl))) (by decide) (t := (.array .byte)) (t' := (.array .int)) (by decide) (by decide))), F6.other W (Or.inr (slot_ne (C := "com/example/tollbook/tollbook/ber/TlvChains") (Or.inl (hw _ (List.mem_of_getElem? (i := 24) rfl))) (Or.inl (hw _ (List.mem_of_getElem? (i := 32) rfl))) (by decide) (t := (.array .int)) (t' := (.array .int)) (by decide) (by decide))), F7.other W (Or.inr (slot_ne (C := "com/example/tollbook/tollbook/ber/TlvChains") (Or.inl (hw _ (List.mem_of_getElem? (i := 26) rfl))) (Or.inl (hw _ (List.mem_of_getElem? (i := 32) rfl))) (by decide) (t := (.array .int)) (t' := (.array .int)) (by decide) (by decide))), F8.other W (Or.inr (slot_ne (C := "com/example/tollbook/tollbook/ber/TlvChains") (Or.inl (hw _ (List.mem_of_getElem? (i := 30) rfl))) (Or.inl (hw _ (List.mem_of_getElem? (i := 32) rfl))) (by decide) (t := (.array (.object "com/example/tollbook/tollbook/ber/BerException"))) (t' := (.array .int)) (by decide) (by decide))), F9.same W, F10.other W (Or.inr (slot_ne (C := "com/example/tollbook/tollbook/ber/TlvChains") (Or.inl (hw _ (List.mem_of_getElem? (i := 85) rfl))) (Or.inl (hw _ (List.mem_of_getElem? (i := 32) rfl))) (by decide) (t := .int) (t' := (.array .int)) (by decide) (by decide))), F11.other W (Or.inr (slot_ne (C := "com/example/tollbook/tollbook/ber/TlvChains") (Or.inl (hw _ (List.mem_of_getElem? (i := 34) rfl))) (Or.inl (hw _ (List.mem_of_getElem? (i := 32) rfl))) (by decide) (t := .int) (t' := (.array .int)) (by decide) (by decide))), F12.other W (Or.inr (slot_ne (C := "com/example/tollbook/tollbook/ber/TlvChains") (Or.inl (hw _ (List.mem_of_getElem? (i := 36) rfl))) (Or.inl (hw _ (List.mem_of_getElem? (i := 32) rfl))) (by decide) (t := (.array .int)) (t' := (.array .int)) (by decide) (by decide)))⟩
theorem TC.set_learntCount {Z : State} {h h' : Heap} {a : Addr} {a0 : Array Value} {w : Value} {v0 v1 v2 v3 v4 v5 v6 v7 v8 v9 v10 v11 v12 : Value} (hw : ∀ d ∈ tables_1, d.before a0 Z = true) (R : TC Z h a v0 v1 v2 v3 v4 v5 v6 v7 v8 v9 v10 v11 v12) (W : Wr h h' a (RoadKit.slotOf Z "com/example/tollbook/tollbook/ber/TlvChains" "learntCount" "I") w) : TC Z h' a v0 v1 v2 v3 v4 v5 v6 v7 v8 v9 w v11 v12 := by
  obtain ⟨E, F0, F1, F2, F3, F4, F5, F6, F7, F8, F9, F10, F11, F12⟩ := R
  exact ⟨E.wr W, F0.other W (Or.inr (slot_ne (C := "com/example/tollbook/tollbook/ber/TlvChains") (Or.inl (hw _ (List.mem_of_getElem? (i := 87) rfl))) (Or.inl (hw _ (List.mem_of_getElem? (i := 85) rfl))) (by decide) (t := .int) (t' := .int) (by decide) (by decide))), F1.other W (Or.inr (slot_ne (C := "com/example/tollbook/tollbook/ber/TlvChains") (Or.inl (hw _ (List.mem_of_getElem? (i := 12) rfl))) (Or.inl (hw _ (List.mem_of_getElem? (i := 85) rfl))) (by decide) (t := .int) (t' := .int) (by decide) (by decide))), F2.other W (Or.inr (slot_ne (C := "com/example/tollbook/tollbook/ber/TlvChains") (Or.inl (hw _ (List.mem_of_getElem? (i := 15) rfl))) (Or.inl (hw _ (List.mem_of_getElem? (i := 85) rfl))) (by decide) (t := (.array .int)) (t' := .int) (by decide) (by decide))), F3.other W (Or.inr (slot_ne (C := "com/example/tollbook/tollbook/ber/TlvChains") (Or.inl (hw _ (List.mem_of_getElem? (i := 17) rfl))) (Or.inl (hw _ (List.mem_of_getElem? (i := 85) rfl))) (by decide) (t := (.array .int)) (t' := .int) (by decide) (by decide))), F4.other W (Or.inr (slot_ne (C := "com/example/tollbook/tollbook/ber/TlvChains") (Or.inl (hw _ (List.mem_of_getElem? (i := 19) rfl))) (Or.inl (hw _ (List.mem_of_getElem? (i := 85) rfl))) (by decide) (t := (.array .int)) (t' := .int) (by decide) (by decide))), F5.other W (Or.inr (slot_ne (C := "com/example/tollbook/tollbook/ber/TlvChains") (Or.inl (hw _ (List.mem_of_getElem? (i := 22) rfl))) (Or.inl (hw _ (List.mem_of_getElem? (i := 85) rfl))) (by decide) (t := (.array .byte)) (t' := .int) (by decide) (by decide))), F6.other W (Or.inr (slot_ne (C := "com/example/tollbook/tollbook/ber/TlvChains") (Or.inl (hw _ (List.mem_of_getElem? (i := 24) rfl))) (Or.inl (hw _ (List.mem_of_getElem? (i := 85) rfl))) (by decide) (t := (.array .int)) (t' := .int) (by decide) (by decide))), F7.other W (Or.inr (slot_ne (C := "com/example/tollbook/tollbook/ber/TlvChains") (Or.inl (hw _ (List.mem_of_getElem? (i := 26) rfl))) (Or.inl (hw _ (List.mem_of_getElem? (i := 85) rfl))) (by decide) (t := (.array .int)) (t' := .int) (by decide) (by decide))), F8.other W (Or.inr (slot_ne (C := "com/example/tollbook/tollbook/ber/TlvChains") (Or.inl (hw _ (List.mem_of_getElem? (i := 30) rfl))) (Or.inl (hw _ (List.mem_of_getElem? (i := 85) rfl))) (by decide) (t := (.array (.object "com/example/tollbook/tollbook/ber/BerException"))) (t' := .int) (by decide) (by decide))), F9.other W (Or.inr (slot_ne (C := "com/example/tollbook/tollbook/ber/TlvChains") (Or.inl (hw _ (List.mem_of_getElem? (i := 32) rfl))) (Or.inl (hw _ (List.mem_of_getElem? (i := 85) rfl))) (by decide) (t := (.array .int)) (t' := .int) (by decide) (by decide))), F10.same W, F11.other W (Or.inr (slot_ne (C := "com/example/tollbook/tollbook/ber/TlvChains") (Or.inl (hw _ (List.mem_of_getElem? (i := 34) rfl))) (Or.inl (hw _ (List.mem_of_getElem? (i := 85) rfl))) (by decide) (t := .int) (t' := .int) (by decide) (by decide))), F12.other W (Or.inr (slot_ne (C := "com/example/tollbook/tollbook/ber/TlvChains") (Or.inl (hw _ (List.mem_of_getElem? (i := 36) rfl))) (Or.inl (hw _ (List.mem_of_getElem? (i := 85) rfl))) (by decide) (t := (.array .int)) (t' := .int) (by decide) (by decide)))⟩
theorem TC.set_soughtClass {Z : State} {h h' : Heap} {a : Addr} {a0 : Array Value} {w : Value} {v0 v1 v2 v3 v4 v5 v6 v7 v8 v9 v10 v11 v12 : Value} (hw : ∀ d ∈ tables_1, d.before a0 Z = true) (R : TC Z h a v0 v1 v2 v3 v4 v5 v6 v7 v8 v9 v10 v11 v12) (W : Wr h h' a (RoadKit.slotOf Z "com/example/tollbook/tollbook/ber/TlvChains" "soughtClass" "I") w) : TC Z h' a v0 v1 v2 v3 v4 v5 v6 v7 v8 v9 v10 w v12 := by
  obtain ⟨E, F0, F1, F2, F3, F4, F5, F6, F7, F8, F9, F10, F11, F12⟩ := R
  exact ⟨E.wr W, F0.other W (Or.inr (slot_ne (C := "com/example/tollbook/tollbook/ber/TlvChains") (Or.inl (hw _ (List.mem_of_getElem? (i := 87) rfl))) (Or.inl (hw _ (List.mem_of_getElem? (i := 34) rfl))) (by decide) (t := .int) (t' := .int) (by decide) (by decide))), F1.other W (Or.inr (slot_ne (C := "com/example/tollbook/tollbook/ber/TlvChains") (Or.inl (hw _ (List.mem_of_getElem? (i := 12) rfl))) (Or.inl (hw _ (List.mem_of_getElem? (i := 34) rfl))) (by decide) (t := .int) (t' := .int) (by decide) (by decide))), F2.other W (Or.inr (slot_ne (C := "com/example/tollbook/tollbook/ber/TlvChains") (Or.inl (hw _ (List.mem_of_getElem? (i := 15) rfl))) (Or.inl (hw _ (List.mem_of_getElem? (i := 34) rfl))) (by decide) (t := (.array .int)) (t' := .int) (by decide) (by decide))), F3.other W (Or.inr (slot_ne (C := "com/example/tollbook/tollbook/ber/TlvChains") (Or.inl (hw _ (List.mem_of_getElem? (i := 17) rfl))) (Or.inl (hw _ (List.mem_of_getElem? (i := 34) rfl))) (by decide) (t := (.array .int)) (t' := .int) (by decide) (by decide))), F4.other W (Or.inr (slot_ne (C := "com/example/tollbook/tollbook/ber/TlvChains") (Or.inl (hw _ (List.mem_of_getElem? (i := 19) rfl))) (Or.inl (hw _ (List.mem_of_getElem? (i := 34) rfl))) (by decide) (t := (.array .int)) (t' := .int) (by decide) (by decide))), F5.other W (Or.inr (slot_ne (C := "com/example/tollbook/tollbook/ber/TlvChains") (Or.inl (hw _ (List.mem_of_getElem? (i := 22) rfl))) (Or.inl (hw _ (List.mem_of_getElem? (i := 34) rfl))) (by decide) (t := (.array .byte)) (t' := .int) (by decide) (by decide))), F6.other W (Or.inr (slot_ne (C := "com/example/tollbook/tollbook/ber/TlvChains") (Or.inl (hw _ (List.mem_of_getElem? (i := 24) rfl))) (Or.inl (hw _ (List.mem_of_getElem? (i := 34) rfl))) (by decide) (t := (.array .int)) (t' := .int) (by decide) (by decide))), F7.other W (Or.inr (slot_ne (C := "com/example/tollbook/tollbook/ber/TlvChains") (Or.inl (hw _ (List.mem_of_getElem? (i := 26) rfl))) (Or.inl (hw _ (List.mem_of_getElem? (i := 34) rfl))) (by decide) (t := (.array .int)) (t' := .int) (by decide) (by decide))), F8.other W (Or.inr (slot_ne (C := "com/example/tollbook/tollbook/ber/TlvChains") (Or.inl (hw _ (List.mem_of_getElem? (i := 30) rfl))) (Or.inl (hw _ (List.mem_of_getElem? (i := 34) rfl))) (by decide) (t := (.array (.object "com/example/tollbook/tollbook/ber/BerException"))) (t' := .int) (by decide) (by decide))), F9.other W (Or.inr (slot_ne (C := "com/example/tollbook/tollbook/ber/TlvChains") (Or.inl (hw _ (List.mem_of_getElem? (i := 32) rfl))) (Or.inl (hw _ (List.mem_of_getElem? (i := 34) rfl))) (by decide) (t := (.array .int)) (t' := .int) (by decide) (by decide))), F10.other W (Or.inr (slot_ne (C := "com/example/tollbook/tollbook/ber/TlvChains") (Or.inl (hw _ (List.mem_of_getElem? (i := 85) rfl))) (Or.inl (hw _ (List.mem_of_getElem? (i := 34) rfl))) (by decide) (t := .int) (t' := .int) (by decide) (by decide))), F11.same W, F12.other W (Or.inr (slot_ne (C := "com/example/tollbook/tollbook/ber/TlvChains") (Or.inl (hw _ (List.mem_of_getElem? (i := 36) rfl))) (Or.inl (hw _ (List.mem_of_getElem? (i := 34) rfl))) (by decide) (t := (.array .int)) (t' := .int) (by decide) (by decide)))⟩
theorem TC.set_path {Z : State} {h h' : Heap} {a : Addr} {a0 : Array Value} {w : Value} {v0 v1 v2 v3 v4 v5 v6 v7 v8 v9 v10 v11 v12 : Value} (hw : ∀ d ∈ tables_1, d.before a0 Z = true) (R : TC Z h a v0 v1 v2 v3 v4 v5 v6 v7 v8 v9 v10 v11 v12) (W : Wr h h' a (RoadKit.slotOf Z "com/example/tollbook/tollbook/ber/TlvChains" "path" "[I") w) : TC Z h' a v0 v1 v2 v3 v4 v5 v6 v7 v8 v9 v10 v11 w := by
  obtain ⟨E, F0, F1, F2, F3, F4, F5, F6, F7, F8, F9, F10, F11, F12⟩ := R
  exact ⟨E.wr W, F0.other W (Or.inr (slot_ne (C := "com/example/tollbook/tollbook/ber/TlvChains") (Or.inl (hw _ (List.mem_of_getElem? (i := 87) rfl))) (Or.inl (hw _ (List.mem_of_getElem? (i := 36) rfl))) (by decide) (t := .int) (t' := (.array .int)) (by decide) (by decide))), F1.other W (Or.inr (slot_ne (C := "com/example/tollbook/tollbook/ber/TlvChains") (Or.inl (hw _ (List.mem_of_getElem? (i := 12) rfl))) (Or.inl (hw _ (List.mem_of_getElem? (i := 36) rfl))) (by decide) (t := .int) (t' := (.array .int)) (by decide) (by decide))), F2.other W (Or.inr (slot_ne (C := "com/example/tollbook/tollbook/ber/TlvChains") (Or.inl (hw _ (List.mem_of_getElem? (i := 15) rfl))) (Or.inl (hw _ (List.mem_of_getElem? (i := 36) rfl))) (by decide) (t := (.array .int)) (t' := (.array .int)) (by decide) (by decide))), F3.other W (Or.inr (slot_ne (C := "com/example/tollbook/tollbook/ber/TlvChains") (Or.inl (hw _ (List.mem_of_getElem? (i := 17) rfl))) (Or.inl (hw _ (List.mem_of_getElem? (i := 36) rfl))) (by decide) (t := (.array .int)) (t' := (.array .int)) (by decide) (by decide))), F4.other W (Or.inr (slot_ne (C := "com/example/tollbook/tollbook/ber/TlvChains") (Or.inl (hw _ (List.mem_of_getElem? (i := 19) rfl))) (Or.inl (hw _ (List.mem_of_getElem? (i := 36) rfl))) (by decide) (t := (.array .int)) (t' := (.array .int)) (by decide) (by decide))), F5.other W (Or.inr (slot_ne (C := "com/example/tollbook/tollbook/ber/TlvChains") (Or.inl (hw _ (List.mem_of_getElem? (i := 22) rfl))) (Or.inl (hw _ (List.mem_of_getElem? (i := 36) rfl))) (by decide) (t := (.array .byte)) (t' := (.array .int)) (by decide) (by decide))), F6.other W (Or.inr (slot_ne (C := "com/example/tollbook/tollbook/ber/TlvChains") (Or.inl (hw _ (List.mem_of_getElem? (i := 24) rfl))) (Or.inl (hw _ (List.mem_of_getElem? (i := 36) rfl))) (by decide) (t := (.array .int)) (t' := (.array .int)) (by decide) (by decide))), F7.other W (Or.inr (slot_ne (C := "com/example/tollbook/tollbook/ber/TlvChains") (Or.inl (hw _ (List.mem_of_getElem? (i := 26) rfl))) (Or.inl (hw _ (List.mem_of_getElem? (i := 36) rfl))) (by decide) (t := (.array .int)) (t' := (.array .int)) (by decide) (by decide))), F8.other W (Or.inr (slot_ne (C := "com/example/tollbook/tollbook/ber/TlvChains") (Or.inl (hw _ (List.mem_of_getElem? (i := 30) rfl))) (Or.inl (hw _ (List.mem_of_getElem? (i := 36) rfl))) (by decide) (t := (.array (.object "com/example/tollbook/tollbook/ber/BerException"))) (t' := (.array .int)) (by decide) (by decide))), F9.other W (Or.inr (slot_ne (C := "com/example/tollbook/tollbook/ber/TlvChains") (Or.inl (hw _ (List.mem_of_getElem? (i := 32) rfl))) (Or.inl (hw _ (List.mem_of_getElem? (i := 36) rfl))) (by decide) (t := (.array .int)) (t' := (.array .int)) (by decide) (by decide))), F10.other W (Or.inr (slot_ne (C := "com/example/tollbook/tollbook/ber/TlvChains") (Or.inl (hw _ (List.mem_of_getElem? (i := 85) rfl))) (Or.inl (hw _ (List.mem_of_getElem? (i := 36) rfl))) (by decide) (t := .int) (t' := (.array .int)) (by decide) (by decide))), F11.other W (Or.inr (slot_ne (C := "com/example/tollbook/tollbook/ber/TlvChains") (Or.inl (hw _ (List.mem_of_getElem? (i := 34) rfl))) (Or.inl (hw _ (List.mem_of_getElem? (i := 36) rfl))) (by decide) (t := .int) (t' := (.array .int)) (by decide) (by decide))), F12.same W⟩
theorem own_add (x y : Int32) (h1 : -2147483648 ≤ x.toInt + y.toInt) (h2 : x.toInt + y.toInt < 2147483648) : (x + y).toInt = x.toInt + y.toInt := by
  have := c_iadd x y; have := rng32 (x + y); omega
theorem own_sub (x y : Int32) (h1 : -2147483648 ≤ x.toInt - y.toInt) (h2 : x.toInt - y.toInt < 2147483648) : (x - y).toInt = x.toInt - y.toInt := by
  have := c_isub x y; have := rng32 (x - y); omega
theorem own_addk (x k : Int32) (K : Int) (hk : k.toInt = K) (h0 : 0 ≤ K) (h : x.toInt + K < 2147483648) : (x + k).toInt = x.toInt + K := by
  subst hk; have := rng32 x; exact own_add x k (by omega) h
theorem own_subk (x k : Int32) (K : Int) (hk : k.toInt = K) (h0 : 0 ≤ K) (h : -2147483648 ≤ x.toInt - K) : (x - k).toInt = x.toInt - K := by
  subst hk; have := rng32 x; exact own_sub x k h (by omega)
def BX (Z : State) (h : Heap) (a : Addr) (v0 v1 v2 v3 v4 : Value) : Prop := Exa Z h a "com/example/tollbook/tollbook/ber/BerException" ∧ Fld Z h a "java/lang/Throwable" "cause" "Ljava/lang/Throwable;" v0 ∧ Fld Z h a "java/lang/Throwable" "stackTrace" "[Ljava/lang/StackTraceElement;" v1 ∧ Fld Z h a "java/lang/Throwable" "suppressedExceptions" "Ljava/util/List;" v2 ∧ Fld Z h a "java/lang/Throwable" "detailMessage" "Ljava/lang/String;" v3 ∧ Fld Z h a "com/example/tollbook/tollbook/ber/BerException" "shortBy" "J" v4
theorem BX.lt {Z : State} {h : Heap} {a : Addr} {v0 v1 v2 v3 v4 : Value} (R : BX Z h a v0 v1 v2 v3 v4) : a < h.size := R.1.lt
theorem BX.ext {Z : State} {h h' : Heap} {a : Addr} {v0 v1 v2 v3 v4 : Value} (R : BX Z h a v0 v1 v2 v3 v4) (W : Ext h h') : BX Z h' a v0 v1 v2 v3 v4 := by
  obtain ⟨E, F0, F1, F2, F3, F4⟩ := R
  exact ⟨E.ext W, F0.ext W, F1.ext W, F2.ext W, F3.ext W, F4.ext W⟩
theorem BX.other {Z : State} {h h' : Heap} {a b : Addr} {sl : Nat} {w : Value} {v0 v1 v2 v3 v4 : Value} (R : BX Z h a v0 v1 v2 v3 v4) (W : Wr h h' b sl w) (q : a ≠ b) : BX Z h' a v0 v1 v2 v3 v4 := by
  obtain ⟨E, F0, F1, F2, F3, F4⟩ := R
  exact ⟨E.wr W, F0.other W (Or.inl q), F1.other W (Or.inl q), F2.other W (Or.inl q), F3.other W (Or.inl q), F4.other W (Or.inl q)⟩
theorem BX.keep {Z : State} {h h' : Heap} {a : Addr} {ws : List Addr} {v0 v1 v2 v3 v4 : Value} (R : BX Z h a v0 v1 v2 v3 v4) (K : Keep h h' ws) (q : a ∉ ws) : BX Z h' a v0 v1 v2 v3 v4 := by
  obtain ⟨E, F0, F1, F2, F3, F4⟩ := R
  exact ⟨E.keep K, F0.keep K q, F1.keep K q, F2.keep K q, F3.keep K q, F4.keep K q⟩
theorem BX.set_cause {Z : State} {h h' : Heap} {a : Addr} {a0 : Array Value} {w : Value} {v0 v1 v2 v3 v4 : Value} (hw : ∀ d ∈ tables_1, d.before a0 Z = true) (R : BX Z h a v0 v1 v2 v3 v4) (W : Wr h h' a (RoadKit.slotOf Z "java/lang/Throwable" "cause" "Ljava/lang/Throwable;") w) : BX Z h' a w v1 v2 v3 v4 := by
  obtain ⟨E, F0, F1, F2, F3, F4⟩ := R
  exact ⟨E.wr W, F0.same W, F1.other W (Or.inr (slot_ne (C := "com/example/tollbook/tollbook/ber/BerException") (Or.inl (hw _ (List.mem_of_getElem? (i := 66) rfl))) (Or.inl (hw _ (List.mem_of_getElem? (i := 63) rfl))) (by decide) (t := (.array (.object "java/lang/StackTraceElement"))) (t' := (.object "java/lang/Throwable")) (by decide) (by decide))), F2.other W (Or.inr (slot_ne (C := "com/example/tollbook/tollbook/ber/BerException") (Or.inl (hw _ (List.mem_of_getElem? (i := 69) rfl))) (Or.inl (hw _ (List.mem_of_getElem? (i := 63) rfl))) (by decide) (t := (.object "java/util/List")) (t' := (.object "java/lang/Throwable")) (by decide) (by decide))), F3.other W (Or.inr (slot_ne (C := "com/example/tollbook/tollbook/ber/BerException") (Or.inl (hw _ (List.mem_of_getElem? (i := 71) rfl))) (Or.inl (hw _ (List.mem_of_getElem? (i := 63) rfl))) (by decide) (t := (.object "java/lang/String")) (t' := (.object "java/lang/Throwable")) (by decide) (by decide))), F4.other W (Or.inr (slot_ne (C := "com/example/tollbook/tollbook/ber/BerException") (Or.inr (hw _ (List.mem_of_getElem? (i := 73) rfl))) (Or.inl (hw _ (List.mem_of_getElem? (i := 63) rfl))) (by decide) (t := .long) (t' := (.object "java/lang/Throwable")) (by decide) (by decide)))⟩
theorem BX.set_stackTrace {Z : State} {h h' : Heap} {a : Addr} {a0 : Array Value} {w : Value} {v0 v1 v2 v3 v4 : Value} (hw : ∀ d ∈ tables_1, d.before a0 Z = true) (R : BX Z h a v0 v1 v2 v3 v4) (W : Wr h h' a (RoadKit.slotOf Z "java/lang/Throwable" "stackTrace" "[Ljava/lang/StackTraceElement;") w) : BX Z h' a v0 w v2 v3 v4 := by
  obtain ⟨E, F0, F1, F2, F3, F4⟩ := R
  exact ⟨E.wr W, F0.other W (Or.inr (slot_ne (C := "com/example/tollbook/tollbook/ber/BerException") (Or.inl (hw _ (List.mem_of_getElem? (i := 63) rfl))) (Or.inl (hw _ (List.mem_of_getElem? (i := 66) rfl))) (by decide) (t := (.object "java/lang/Throwable")) (t' := (.array (.object "java/lang/StackTraceElement"))) (by decide) (by decide))), F1.same W, F2.other W (Or.inr (slot_ne (C := "com/example/tollbook/tollbook/ber/BerException") (Or.inl (hw _ (List.mem_of_getElem? (i := 69) rfl))) (Or.inl (hw _ (List.mem_of_getElem? (i := 66) rfl))) (by decide) (t := (.object "java/util/List")) (t' := (.array (.object "java/lang/StackTraceElement"))) (by decide) (by decide))), F3.other W (Or.inr (slot_ne (C := "com/example/tollbook/tollbook/ber/BerException") (Or.inl (hw _ (List.mem_of_getElem? (i := 71) rfl))) (Or.inl (hw _ (List.mem_of_getElem? (i := 66) rfl))) (by decide) (t := (.object "java/lang/String")) (t' := (.array (.object "java/lang/StackTraceElement"))) (by decide) (by decide))), F4.other W (Or.inr (slot_ne (C := "com/example/tollbook/tollbook/ber/BerException") (Or.inr (hw _ (List.mem_of_getElem? (i := 73) rfl))) (Or.inl (hw _ (List.mem_of_getElem? (i := 66) rfl))) (by decide) (t := .long) (t' := (.array (.object "java/lang/StackTraceElement"))) (by decide) (by decide)))⟩
theorem BX.set_suppressedExceptions {Z : State} {h h' : Heap} {a : Addr} {a0 : Array Value} {w : Value} {v0 v1 v2 v3 v4 : Value} (hw : ∀ d ∈ tables_1, d.before a0 Z = true) (R : BX Z h a v0 v1 v2 v3 v4) (W : Wr h h' a (RoadKit.slotOf Z "java/lang/Throwable" "suppressedExceptions" "Ljava/util/List;") w) : BX Z h' a v0 v1 w v3 v4 := by
  obtain ⟨E, F0, F1, F2, F3, F4⟩ := R
  exact ⟨E.wr W, F0.other W (Or.inr (slot_ne (C := "com/example/tollbook/tollbook/ber/BerException") (Or.inl (hw _ (List.mem_of_getElem? (i := 63) rfl))) (Or.inl (hw _ (List.mem_of_getElem? (i := 69) rfl))) (by decide) (t := (.object "java/lang/Throwable")) (t' := (.object "java/util/List")) (by decide) (by decide))), F1.other W (Or.inr (slot_ne (C := "com/example/tollbook/tollbook/ber/BerException") (Or.inl (hw _ (List.mem_of_getElem? (i := 66) rfl))) (Or.inl (hw _ (List.mem_of_getElem? (i := 69) rfl))) (by decide) (t := (.array (.object "java/lang/StackTraceElement"))) (t' := (.object "java/util/List")) (by decide) (by decide))), F2.same W, F3.other W (Or.inr (slot_ne (C := "com/example/tollbook/tollbook/ber/BerException") (Or.inl (hw _ (List.mem_of_getElem? (i := 71) rfl))) (Or.inl (hw _ (List.mem_of_getElem? (i := 69) rfl))) (by decide) (t := (.object "java/lang/String")) (t' := (.object "java/util/List")) (by decide) (by decide))), F4.other W (Or.inr (slot_ne (C := "com/example/tollbook/tollbook/ber/BerException") (Or.inr (hw _ (List.mem_of_getElem? (i := 73) rfl))) (Or.inl (hw _ (List.mem_of_getElem? (i := 69) rfl))) (by decide) (t := .long) (t' := (.object "java/util/List")) (by decide) (by decide)))⟩
theorem BX.set_detailMessage {Z : State} {h h' : Heap} {a : Addr} {a0 : Array Value} {w : Value} {v0 v1 v2 v3 v4 : Value} (hw : ∀ d ∈ tables_1, d.before a0 Z = true) (R : BX Z h a v0 v1 v2 v3 v4) (W : Wr h h' a (RoadKit.slotOf Z "java/lang/Throwable" "detailMessage" "Ljava/lang/String;") w) : BX Z h' a v0 v1 v2 w v4 := by
  obtain ⟨E, F0, F1, F2, F3, F4⟩ := R
  exact ⟨E.wr W, F0.other W (Or.inr (slot_ne (C := "com/example/tollbook/tollbook/ber/BerException") (Or.inl (hw _ (List.mem_of_getElem? (i := 63) rfl))) (Or.inl (hw _ (List.mem_of_getElem? (i := 71) rfl))) (by decide) (t := (.object "java/lang/Throwable")) (t' := (.object "java/lang/String")) (by decide) (by decide))), F1.other W (Or.inr (slot_ne (C := "com/example/tollbook/tollbook/ber/BerException") (Or.inl (hw _ (List.mem_of_getElem? (i := 66) rfl))) (Or.inl (hw _ (List.mem_of_getElem? (i := 71) rfl))) (by decide) (t := (.array (.object "java/lang/StackTraceElement"))) (t' := (.object "java/lang/String")) (by decide) (by decide))), F2.other W (Or.inr (slot_ne (C := "com/example/tollbook/tollbook/ber/BerException") (Or.inl (hw _ (List.mem_of_getElem? (i := 69) rfl))) (Or.inl (hw _ (List.mem_of_getElem? (i := 71) rfl))) (by decide) (t := (.object "java/util/List")) (t' := (.object "java/lang/String")) (by decide) (by decide))), F3.same W, F4.other W (Or.inr (slot_ne (C := "com/example/tollbook/tollbook/ber/BerException") (Or.inr (hw _ (List.mem_of_getElem? (i := 73) rfl))) (Or.inl (hw _ (List.mem_of_getElem? (i := 71) rfl))) (by decide) (t := .long) (t' := (.object "java/lang/String")) (by decide) (by decide)))⟩
theorem BX.set_shortBy {Z : State} {h h' : Heap} {a : Addr} {a0 : Array Value} {w : Value} {v0 v1 v2 v3 v4 : Value} (hw : ∀ d ∈ tables_1, d.before a0 Z = true) (R : BX Z h a v0 v1 v2 v3 v4) (W : Wr h h' a (RoadKit.slotOf Z "com/example/tollbook/tollbook/ber/BerException" "shortBy" "J") w) : BX Z h' a v0 v1 v2 v3 w := by
  obtain ⟨E, F0, F1, F2, F3, F4⟩ := R
  exact ⟨E.wr W, F0.other W (Or.inr (slot_ne (C := "com/example/tollbook/tollbook/ber/BerException") (Or.inl (hw _ (List.mem_of_getElem? (i := 63) rfl))) (Or.inr (hw _ (List.mem_of_getElem? (i := 73) rfl))) (by decide) (t := (.object "java/lang/Throwable")) (t' := .long) (by decide) (by decide))), F1.other W (Or.inr (slot_ne (C := "com/example/tollbook/tollbook/ber/BerException") (Or.inl (hw _ (List.mem_of_getElem? (i := 66) rfl))) (Or.inr (hw _ (List.mem_of_getElem? (i := 73) rfl))) (by decide) (t := (.array (.object "java/lang/StackTraceElement"))) (t' := .long) (by decide) (by decide))), F2.other W (Or.inr (slot_ne (C := "com/example/tollbook/tollbook/ber/BerException") (Or.inl (hw _ (List.mem_of_getElem? (i := 69) rfl))) (Or.inr (hw _ (List.mem_of_getElem? (i := 73) rfl))) (by decide) (t := (.object "java/util/List")) (t' := .long) (by decide) (by decide))), F3.other W (Or.inr (slot_ne (C := "com/example/tollbook/tollbook/ber/BerException") (Or.inl (hw _ (List.mem_of_getElem? (i := 71) rfl))) (Or.inr (hw _ (List.mem_of_getElem? (i := 73) rfl))) (by decide) (t := (.object "java/lang/String")) (t' := .long) (by decide) (by decide))), F4.same W⟩
theorem d5_0 : decode jdk_78_method_5_code 0 = .ok (.aload_n 0, 1) := by decide +kernel
theorem d5_1 : decode jdk_78_method_5_code 1 = .ok (.invokespecial 1, 3) := by decide +kernel
theorem d5_4 : decode jdk_78_method_5_code 4 = .ok (.aload_n 0, 1) := by decide +kernel
theorem d5_5 : decode jdk_78_method_5_code 5 = .ok (.aload_n 0, 1) := by decide +kernel
theorem d5_6 : decode jdk_78_method_5_code 6 = .ok (.putfield 7, 3) := by decide +kernel
theorem d5_9 : decode jdk_78_method_5_code 9 = .ok (.aload_n 0, 1) := by decide +kernel
theorem d5_10 : decode jdk_78_method_5_code 10 = .ok (.getstatic 13, 3) := by decide +kernel
theorem d5_13 : decode jdk_78_method_5_code 13 = .ok (.putfield 17, 3) := by decide +kernel
theorem d5_16 : decode jdk_78_method_5_code 16 = .ok (.aload_n 0, 1) := by decide +kernel
theorem d5_17 : decode jdk_78_method_5_code 17 = .ok (.getstatic 20, 3) := by decide +kernel
theorem d5_20 : decode jdk_78_method_5_code 20 = .ok (.putfield 24, 3) := by decide +kernel
theorem d5_23 : decode jdk_78_method_5_code 23 = .ok (.iload 4, 2) := by decide +kernel
theorem d5_25 : decode jdk_78_method_5_code 25 = .ok (.ifCond .eq 11, 3) := by decide +kernel
theorem d5_28 : decode jdk_78_method_5_code 28 = .ok (.aload_n 0, 1) := by decide +kernel
theorem d5_29 : decode jdk_78_method_5_code 29 = .ok (.invokevirtual 27, 3) := by decide +kernel
theorem d5_32 : decode jdk_78_method_5_code 32 = .ok (.pop, 1) := by decide +kernel
theorem d5_33 : decode jdk_78_method_5_code 33 = .ok (.goto 8, 3) := by decide +kernel
theorem d5_36 : decode jdk_78_method_5_code 36 = .ok (.aload_n 0, 1) := by decide +kernel
theorem d5_37 : decode jdk_78_method_5_code 37 = .ok (.aconst_null, 1) := by decide +kernel
theorem d5_38 : decode jdk_78_method_5_code 38 = .ok (.putfield 17, 3) := by decide +kernel
theorem d5_41 : decode jdk_78_method_5_code 41 = .ok (.aload_n 0, 1) := by decide +kernel
theorem d5_42 : decode jdk_78_method_5_code 42 = .ok (.aload_n 1, 1) := by decide +kernel
theorem d5_43 : decode jdk_78_method_5_code 43 = .ok (.putfield 31, 3) := by decide +kernel
theorem d5_46 : decode jdk_78_method_5_code 46 = .ok (.aload_n 0, 1) := by decide +kernel
theorem d5_47 : decode jdk_78_method_5_code 47 = .ok (.aload_n 2, 1) := by decide +kernel
theorem d5_48 : decode jdk_78_method_5_code 48 = .ok (.putfield 7, 3) := by decide +kernel
theorem d5_51 : decode jdk_78_method_5_code 51 = .ok (.iload_n 3, 1) := by decide +kernel
theorem d5_52 : decode jdk_78_method_5_code 52 = .ok (.ifCond .ne 8, 3) := by decide +kernel
theorem d5_55 : decode jdk_78_method_5_code 55 = .ok (.aload_n 0, 1) := by decide +kernel
theorem d5_56 : decode jdk_78_method_5_code 56 = .ok (.aconst_null, 1) := by decide +kernel
theorem d5_57 : decode jdk_78_method_5_code 57 = .ok (.putfield 24, 3) := by decide +kernel
theorem d5_60 : decode jdk_78_method_5_code 60 = .ok (.return_, 1) := by decide +kernel
def k5 : OM := (jdk_78_method_5_code, 5, "java/lang/Throwable", "<init>", none, { frames := 1, cells := 0, slots := 0, locals := 12 })
theorem pn5 : plainFor (⟨"java/lang/Throwable", "<init>", "(Ljava/lang/String;Ljava/lang/Throwable;ZZ)V"⟩ : MethodName) = true := plainFor_of_name (by first | (simp [plainName, overriddenIn]; done) | decide +kernel)
theorem pd5 : parseMethodDescriptor "(Ljava/lang/String;Ljava/lang/Throwable;ZZ)V" = some ⟨[(.object "java/lang/String"), (.object "java/lang/Throwable"), .boolean, .boolean], none⟩ := by decide +kernel
set_option maxRecDepth 65536 in
set_option maxHeartbeats 4000000 in
theorem C_thr {Z : State} {ω : OW} {h : Heap} (hw_ : ∀ d ∈ tables_1, d.before ω.2.2 Z = true) (hn_ : ω.2.1 ≤ h.size) (a p xU xS : Addr) (R0 : BX Z h a .null .null .null .null (.long (0 : Int64))) (SU : Sta Z h "java/lang/Throwable" "UNASSIGNED_STACK" "[Ljava/lang/StackTraceElement;" (.ref xU)) (SS : Sta Z h "java/lang/Throwable" "SUPPRESSED_SENTINEL" "Ljava/util/List;" (.ref xS)) (ga : ω.2.1 ≤ a) :
    oC Z ω (⟨"java/lang/Throwable", "<init>", "(Ljava/lang/String;Ljava/lang/Throwable;ZZ)V"⟩ : MethodName) k5 [] #[.ref a, .ref p, .null, .int (0 : Int32), .int (0 : Int32)] h (fun v h' => v = none ∧ Keep h h' [a] ∧ BX Z h' a .null .null .null (.ref p) (.long (0 : Int64))) := by
  refine oC_of hw_ hn_ pn5 rfl rfl (L := #[.val (.ref a), .val (.ref p), .val .null, .val (.int (0 : Int32)), .val (.int (0 : Int32))]) (fun m => by first | (simp [entryFrame, mkF, argsToLocals, Value.category, k5]; done) | rfl) ?_
  intro γ T X
  refine ow_aloadN X 1 d5_0 rfl rfl rfl ?_
  refine ow_initO X 4 61 9 10 rfl rfl rfl rfl d5_1 rfl rfl (by decide) (W := 0) (Nat.le_of_eq rfl) (by decide) ?_
  intro T_1 X_1
  refine ow_aloadN X_1 5 d5_4 rfl rfl rfl ?_
  refine ow_aloadN X_1 6 d5_5 rfl rfl rfl ?_
  refine ow_putF X_1 9 62 38 rfl rfl R0.2.1 R0.1 (Or.inl (oSt_at X_1 63 rfl)) rfl (ty := (.object "java/lang/Throwable")) (by decide) rfl rfl ga d5_6 rfl ?_
  intro T_2 h_2 X_2 W_2
  have f3_0 : BX Z h_2 a (.ref a) .null .null .null (.long (0 : Int64)) := BX.set_cause (oSt_w X_2) R0 W_2
  have f3_1 : Sta Z h_2 "java/lang/Throwable" "UNASSIGNED_STACK" "[Ljava/lang/StackTraceElement;" (.ref xU) := SU.wr W_2
  have f3_2 : Sta Z h_2 "java/lang/Throwable" "SUPPRESSED_SENTINEL" "Ljava/util/List;" (.ref xS) := SS.wr W_2
  have f3_3 : Keep h h_2 [a] := (Keep.refl h [a]).wr W_2 (Or.inl (List.mem_of_getElem? (i := 0) rfl))
  refine ow_aloadN X_2 10 d5_9 rfl rfl rfl ?_
  refine ow_getS X_2 13 64 rfl rfl f3_1 d5_10 rfl ?_
  intro T_4 X_4
  refine ow_putF X_4 16 65 38 rfl rfl f3_0.2.2.1 f3_0.1 (Or.inl (oSt_at X_4 66 rfl)) rfl (ty := (.array (.object "java/lang/StackTraceElement"))) (by decide) rfl rfl ga d5_13 rfl ?_
  intro T_5 h_5 X_5 W_5
  have f6_0 : BX Z h_5 a (.ref a) (.ref xU) .null .null (.long (0 : Int64)) := BX.set_stackTrace (oSt_w X_5) f3_0 W_5
  have f6_1 : Sta Z h_5 "java/lang/Throwable" "UNASSIGNED_STACK" "[Ljava/lang/StackTraceElement;" (.ref xU) := f3_1.wr W_5
  have f6_2 : Sta Z h_5 "java/lang/Throwable" "SUPPRESSED_SENTINEL" "Ljava/util/List;" (.ref xS) := f3_2.wr W_5
  have f6_3 : Keep h h_5 [a] := f3_3.wr W_5 (Or.inl (List.mem_of_getElem? (i := 0) rfl))
  refine ow_aloadN X_5 17 d5_16 rfl rfl rfl ?_
  refine ow_getS X_5 20 67 rfl rfl f6_2 d5_17 rfl ?_
  intro T_7 X_7
  refine ow_putF X_7 23 68 38 rfl rfl f6_0.2.2.2.1 f6_0.1 (Or.inl (oSt_at X_7 69 rfl)) rfl (ty := (.object "java/util/List")) (by decide) rfl rfl ga d5_20 rfl ?_
  intro T_8 h_8 X_8 W_8
  have f9_0 : BX Z h_8 a (.ref a) (.ref xU) (.ref xS) .null (.long (0 : Int64)) := BX.set_suppressedExceptions (oSt_w X_8) f6_0 W_8
  have f9_1 : Sta Z h_8 "java/lang/Throwable" "UNASSIGNED_STACK" "[Ljava/lang/StackTraceElement;" (.ref xU) := f6_1.wr W_8
  have f9_2 : Sta Z h_8 "java/lang/Throwable" "SUPPRESSED_SENTINEL" "Ljava/util/List;" (.ref xS) := f6_2.wr W_8
  have f9_3 : Keep h h_8 [a] := f6_3.wr W_8 (Or.inl (List.mem_of_getElem? (i := 0) rfl))
  refine ow_iload X_8 25 d5_23 rfl rfl ?_
  refine ow_if_eq X_8 28 36 d5_25 rfl rfl (fun (c25 : 0 = 0) => ?_) (fun (c25 : 0 ≠ 0) => absurd rfl c25)
  refine ow_aloadN X_8 37 d5_36 rfl rfl rfl ?_
  refine ow_anull X_8 38 d5_37 rfl ?_
  refine ow_putF X_8 41 65 38 rfl rfl f9_0.2.2.1 f9_0.1 (Or.inl (oSt_at X_8 66 rfl)) rfl (ty := (.array (.object "java/lang/StackTraceElement"))) (by decide) rfl (by decide) ga d5_38 rfl ?_
  intro T_10 h_10 X_10 W_10
  have f11_0 : BX Z h_10 a (.ref a) .null (.ref xS) .null (.long (0 : Int64)) := BX.set_stackTrace (oSt_w X_10) f9_0 W_10
  have f11_1 : Sta Z h_10 "java/lang/Throwable" "UNASSIGNED_STACK" "[Ljava/lang/StackTraceElement;" (.ref xU) := f9_1.wr W_10
  have f11_2 : Sta Z h_10 "java/lang/Throwable" "SUPPRESSED_SENTINEL" "Ljava/util/List;" (.ref xS) := f9_2.wr W_10
  have f11_3 : Keep h h_10 [a] := f9_3.wr W_10 (Or.inl (List.mem_of_getElem? (i := 0) rfl))
  refine ow_aloadN X_10 42 d5_41 rfl rfl rfl ?_
  refine ow_aloadN X_10 43 d5_42 rfl rfl rfl ?_
  refine ow_putF X_10 46 70 38 rfl rfl f11_0.2.2.2.2.1 f11_0.1 (Or.inl (oSt_at X_10 71 rfl)) rfl (ty := (.object "java/lang/String")) (by decide) rfl rfl ga d5_43 rfl ?_
  intro T_12 h_12 X_12 W_12
  have f13_0 : BX Z h_12 a (.ref a) .null (.ref xS) (.ref p) (.long (0 : Int64)) := BX.set_detailMessage (oSt_w X_12) f11_0 W_12
  have f13_1 : Sta Z h_12 "java/lang/Throwable" "UNASSIGNED_STACK" "[Ljava/lang/StackTraceElement;" (.ref xU) := f11_1.wr W_12
  have f13_2 : Sta Z h_12 "java/lang/Throwable" "SUPPRESSED_SENTINEL" "Ljava/util/List;" (.ref xS) := f11_2.wr W_12
  have f13_3 : Keep h h_12 [a] := f11_3.wr W_12 (Or.inl (List.mem_of_getElem? (i := 0) rfl))
  refine ow_aloadN X_12 47 d5_46 rfl rfl rfl ?_
  refine ow_aloadN X_12 48 d5_47 rfl rfl rfl ?_
  refine ow_putF X_12 51 62 38 rfl rfl f13_0.2.1 f13_0.1 (Or.inl (oSt_at X_12 63 rfl)) rfl (ty := (.object "java/lang/Throwable")) (by decide) rfl (by decide) ga d5_48 rfl ?_
  intro T_14 h_14 X_14 W_14
  have f15_0 : BX Z h_14 a .null .null (.ref xS) (.ref p) (.long (0 : Int64)) := BX.set_cause (oSt_w X_14) f13_0 W_14
  have f15_1 : Sta Z h_14 "java/lang/Throwable" "UNASSIGNED_STACK" "[Ljava/lang/StackTraceElement;" (.ref xU) := f13_1.wr W_14
  have f15_2 : Sta Z h_14 "java/lang/Throwable" "SUPPRESSED_SENTINEL" "Ljava/util/List;" (.ref xS) := f13_2.wr W_14
  have f15_3 : Keep h h_14 [a] := f13_3.wr W_14 (Or.inl (List.mem_of_getElem? (i := 0) rfl))
  refine ow_iloadN X_14 52 d5_51 rfl rfl ?_
  refine ow_if_ne X_14 55 60 d5_52 rfl rfl (fun (c52 : 0 ≠ 0) => absurd rfl c52) (fun (c52 : 0 = 0) => ?_)
  refine ow_aloadN X_14 56 d5_55 rfl rfl rfl ?_
  refine ow_anull X_14 57 d5_56 rfl ?_
  refine ow_putF X_14 60 68 38 rfl rfl f15_0.2.2.2.1 f15_0.1 (Or.inl (oSt_at X_14 69 rfl)) rfl (ty := (.object "java/util/List")) (by decide) rfl (by decide) ga d5_57 rfl ?_
  intro T_16 h_16 X_16 W_16
  have f17_0 : BX Z h_16 a .null .null .null (.ref p) (.long (0 : Int64)) := BX.set_suppressedExceptions (oSt_w X_16) f15_0 W_16
  have f17_1 : Sta Z h_16 "java/lang/Throwable" "UNASSIGNED_STACK" "[Ljava/lang/StackTraceElement;" (.ref xU) := f15_1.wr W_16
  have f17_2 : Sta Z h_16 "java/lang/Throwable" "SUPPRESSED_SENTINEL" "Ljava/util/List;" (.ref xS) := f15_2.wr W_16
  have f17_3 : Keep h h_16 [a] := f15_3.wr W_16 (Or.inl (List.mem_of_getElem? (i := 0) rfl))
  refine ow_retV X_16 rfl d5_60 (by decide) (by decide) ?_
  exact ⟨rfl, f17_3, f17_0⟩
theorem d4_0 : decode jdk_59_method_5_code 0 = .ok (.aload_n 0, 1) := by decide +kernel
theorem d4_1 : decode jdk_59_method_5_code 1 = .ok (.aload_n 1, 1) := by decide +kernel
theorem d4_2 : decode jdk_59_method_5_code 2 = .ok (.aload_n 2, 1) := by decide +kernel
theorem d4_3 : decode jdk_59_method_5_code 3 = .ok (.iload_n 3, 1) := by decide +kernel
theorem d4_4 : decode jdk_59_method_5_code 4 = .ok (.iload 4, 2) := by decide +kernel
theorem d4_6 : decode jdk_59_method_5_code 6 = .ok (.invokespecial 16, 3) := by decide +kernel
theorem d4_9 : decode jdk_59_method_5_code 9 = .ok (.return_, 1) := by decide +kernel
def k4 : OM := (jdk_59_method_5_code, 5, "java/lang/Exception", "<init>", none, { frames := 2, cells := 0, slots := 0, locals := 28 })
theorem pn4 : plainFor (⟨"java/lang/Exception", "<init>", "(Ljava/lang/String;Ljava/lang/Throwable;ZZ)V"⟩ : MethodName) = true := plainFor_of_name (by first | (simp [plainName, overriddenIn]; done) | decide +kernel)
theorem pd4 : parseMethodDescriptor "(Ljava/lang/String;Ljava/lang/Throwable;ZZ)V" = some ⟨[(.object "java/lang/String"), (.object "java/lang/Throwable"), .boolean, .boolean], none⟩ := by decide +kernel
set_option maxRecDepth 65536 in
set_option maxHeartbeats 4000000 in
theorem C_exc {Z : State} {ω : OW} {h : Heap} (hw_ : ∀ d ∈ tables_1, d.before ω.2.2 Z = true) (hn_ : ω.2.1 ≤ h.size) (a p xU xS : Addr) (R0 : BX Z h a .null .null .null .null (.long (0 : Int64))) (SU : Sta Z h "java/lang/Throwable" "UNASSIGNED_STACK" "[Ljava/lang/StackTraceElement;" (.ref xU)) (SS : Sta Z h "java/lang/Throwable" "SUPPRESSED_SENTINEL" "Ljava/util/List;" (.ref xS)) (ga : ω.2.1 ≤ a) :
    oC Z ω (⟨"java/lang/Exception", "<init>", "(Ljava/lang/String;Ljava/lang/Throwable;ZZ)V"⟩ : MethodName) k4 [] #[.ref a, .ref p, .null, .int (0 : Int32), .int (0 : Int32)] h (fun v h' => v = none ∧ Keep h h' [a] ∧ BX Z h' a .null .null .null (.ref p) (.long (0 : Int64))) := by
  refine oC_of hw_ hn_ pn4 rfl rfl (L := #[.val (.ref a), .val (.ref p), .val .null, .val (.int (0 : Int32)), .val (.int (0 : Int32))]) (fun m => by first | (simp [entryFrame, mkF, argsToLocals, Value.category, k4]; done) | rfl) ?_
  intro γ T X
  refine ow_aloadN X 1 d4_0 rfl rfl rfl ?_
  refine ow_aloadN X 2 d4_1 rfl rfl rfl ?_
  refine ow_aloadN X 3 d4_2 rfl rfl rfl ?_
  refine ow_iloadN X 4 d4_3 rfl rfl ?_
  refine ow_iload X 6 d4_4 rfl rfl ?_
  refine ow_callC X 9 55 56 59 60 (κ' := k5) (as := [.ref p, .null, .int (0 : Int32), .int (0 : Int32)]) (S := []) (W := 0) rfl rfl rfl rfl rfl rfl rfl (by decide) (C_thr (oSt_w X) (oSt_n0 X) a p xU xS R0 SU SS ga) (by decide) (by decide) (Nat.le_of_eq rfl) (by decide) (by decide) pd5 rfl rfl rfl d4_6 rfl ?_
  intro γ v_18 T_18 h_18 X_18 q_18
  obtain ⟨rfl, K18, R18⟩ := q_18
  have f19_1 : Sta Z h_18 "java/lang/Throwable" "UNASSIGNED_STACK" "[Ljava/lang/StackTraceElement;" (.ref xU) := oSta_keep SU K18 (allS (oExS R0.1) all0)
  have f19_2 : Sta Z h_18 "java/lang/Throwable" "SUPPRESSED_SENTINEL" "Ljava/util/List;" (.ref xS) := oSta_keep SS K18 (allS (oExS R0.1) all0)
  have f19_3 : Keep h h_18 [a] := (Keep.refl h [a]).trans K18 (allS (Or.inl (List.mem_of_getElem? (i := 0) rfl)) all0)
  show oWP ω γ k4 _ T_18 9 #[.val (.ref a), .val (.ref p), .val .null, .val (.int (0 : Int32)), .val (.int (0 : Int32))] []
  refine ow_retV X_18 rfl d4_9 (by decide) (by decide) ?_
  exact ⟨rfl, f19_3, R18⟩
theorem d3_0 : decode prog_30_method_1_code 0 = .ok (.aload_n 0, 1) := by decide +kernel
theorem d3_1 : decode prog_30_method_1_code 1 = .ok (.aload_n 1, 1) := by decide +kernel
theorem d3_2 : decode prog_30_method_1_code 2 = .ok (.aconst_null, 1) := by decide +kernel
theorem d3_3 : decode prog_30_method_1_code 3 = .ok (.iconst 0, 1) := by decide +kernel
theorem d3_4 : decode prog_30_method_1_code 4 = .ok (.iconst 0, 1) := by decide +kernel
theorem d3_5 : decode prog_30_method_1_code 5 = .ok (.invokespecial 1, 3) := by decide +kernel
theorem d3_8 : decode prog_30_method_1_code 8 = .ok (.aload_n 0, 1) := by decide +kernel
theorem d3_9 : decode prog_30_method_1_code 9 = .ok (.lload_n 2, 1) := by decide +kernel
theorem d3_10 : decode prog_30_method_1_code 10 = .ok (.putfield 7, 3) := by decide +kernel
theorem d3_13 : decode prog_30_method_1_code 13 = .ok (.return_, 1) := by decide +kernel
def k3 : OM := (prog_30_method_1_code, 4, "com/example/tollbook/tollbook/ber/BerException", "<init>", none, { frames := 3, cells := 0, slots := 0, locals := 44 })
theorem pn3 : plainFor (⟨"com/example/tollbook/tollbook/ber/BerException", "<init>", "(Ljava/lang/String;J)V"⟩ : MethodName) = true := plainFor_of_name (by first | (simp [plainName, overriddenIn]; done) | decide +kernel)
theorem pd3 : parseMethodDescriptor "(Ljava/lang/String;J)V" = some ⟨[(.object "java/lang/String"), .long], none⟩ := by decide +kernel
set_option maxRecDepth 65536 in
set_option maxHeartbeats 4000000 in
theorem C_ber {Z : State} {ω : OW} {h : Heap} (hw_ : ∀ d ∈ tables_1, d.before ω.2.2 Z = true) (hn_ : ω.2.1 ≤ h.size) (a p xU xS : Addr) (R0 : BX Z h a .null .null .null .null (.long (0 : Int64))) (SU : Sta Z h "java/lang/Throwable" "UNASSIGNED_STACK" "[Ljava/lang/StackTraceElement;" (.ref xU)) (SS : Sta Z h "java/lang/Throwable" "SUPPRESSED_SENTINEL" "Ljava/util/List;" (.ref xS)) (ga : ω.2.1 ≤ a) :
    oC Z ω (⟨"com/example/tollbook/tollbook/ber/BerException", "<init>", "(Ljava/lang/String;J)V"⟩ : MethodName) k3 [] #[.ref a, .ref p, .long (0 : Int64)] h (fun v h' => v = none ∧ Keep h h' [a] ∧ BX Z h' a .null .null .null (.ref p) (.long (0 : Int64))) := by
  refine oC_of hw_ hn_ pn3 rfl rfl (L := #[.val (.ref a), .val (.ref p), .val (.long (0 : Int64)), .second]) (fun m => by first | (simp [entryFrame, mkF, argsToLocals, Value.category, k3]; done) | rfl) ?_
  intro γ T X
  refine ow_aloadN X 1 d3_0 rfl rfl rfl ?_
  refine ow_aloadN X 2 d3_1 rfl rfl rfl ?_
  refine ow_anull X 3 d3_2 rfl ?_
  refine ow_iconst X 4 (0 : Int32) d3_3 rfl rfl ?_
  refine ow_iconst X 5 (0 : Int32) d3_4 rfl rfl ?_
  refine ow_callC X 8 50 51 53 54 (κ' := k4) (as := [.ref p, .null, .int (0 : Int32), .int (0 : Int32)]) (S := []) (W := 0) rfl rfl rfl rfl rfl rfl rfl (by decide) (C_exc (oSt_w X) (oSt_n0 X) a p xU xS R0 SU SS ga) (by decide) (by decide) (Nat.le_of_eq rfl) (by decide) (by decide) pd4 rfl rfl rfl d3_5 rfl ?_
  intro γ v_20 T_20 h_20 X_20 q_20
  obtain ⟨rfl, K20, R20⟩ := q_20
  have f21_1 : Sta Z h_20 "java/lang/Throwable" "UNASSIGNED_STACK" "[Ljava/lang/StackTraceElement;" (.ref xU) := oSta_keep SU K20 (allS (oExS R0.1) all0)
  have f21_2 : Sta Z h_20 "java/lang/Throwable" "SUPPRESSED_SENTINEL" "Ljava/util/List;" (.ref xS) := oSta_keep SS K20 (allS (oExS R0.1) all0)
  have f21_3 : Keep h h_20 [a] := (Keep.refl h [a]).trans K20 (allS (Or.inl (List.mem_of_getElem? (i := 0) rfl)) all0)
  show oWP ω γ k3 _ T_20 8 #[.val (.ref a), .val (.ref p), .val (.long (0 : Int64)), .second] []
  refine ow_aloadN X_20 9 d3_8 rfl rfl rfl ?_
  refine ow_lloadN X_20 10 d3_9 rfl rfl ?_
  refine ow_putF X_20 13 72 38 rfl rfl R20.2.2.2.2.2 R20.1 (Or.inr ⟨oSt_at X_20 73 rfl, rfl, rfl⟩) rfl (ty := .long) (by decide) rfl rfl ga d3_10 rfl ?_
  intro T_22 h_22 X_22 W_22
  have f23_0 : Sta Z h_22 "java/lang/Throwable" "UNASSIGNED_STACK" "[Ljava/lang/StackTraceElement;" (.ref xU) := f21_1.wr W_22
  have f23_1 : Sta Z h_22 "java/lang/Throwable" "SUPPRESSED_SENTINEL" "Ljava/util/List;" (.ref xS) := f21_2.wr W_22
  have f23_2 : Keep h h_22 [a] := f21_3.wr W_22 (Or.inl (List.mem_of_getElem? (i := 0) rfl))
  have f23_3 : BX Z h_22 a .null .null .null (.ref p) (.long (0 : Int64)) := BX.set_shortBy (oSt_w X_22) R20 W_22
  refine ow_retV X_22 rfl d3_13 (by decide) (by decide) ?_
  exact ⟨rfl, f23_2, f23_3⟩
theorem d1_0 : decode prog_32_method_1_code 0 = .ok (.aload_n 0, 1) := by decide +kernel
theorem d1_1 : decode prog_32_method_1_code 1 = .ok (.invokespecial 1, 3) := by decide +kernel
theorem d1_4 : decode prog_32_method_1_code 4 = .ok (.aload_n 0, 1) := by decide +kernel
theorem d1_5 : decode prog_32_method_1_code 5 = .ok (.iconst (-1), 1) := by decide +kernel
theorem d1_6 : decode prog_32_method_1_code 6 = .ok (.putfield 7, 3) := by decide +kernel
theorem d1_9 : decode prog_32_method_1_code 9 = .ok (.aload_n 0, 1) := by decide +kernel
theorem d1_10 : decode prog_32_method_1_code 10 = .ok (.iconst 0, 1) := by decide +kernel
theorem d1_11 : decode prog_32_method_1_code 11 = .ok (.newarray .int, 2) := by decide +kernel
theorem d1_13 : decode prog_32_method_1_code 13 = .ok (.putfield 13, 3) := by decide +kernel
theorem d1_16 : decode prog_32_method_1_code 16 = .ok (.aload_n 0, 1) := by decide +kernel
theorem d1_17 : decode prog_32_method_1_code 17 = .ok (.iconst 0, 1) := by decide +kernel
theorem d1_18 : decode prog_32_method_1_code 18 = .ok (.newarray .int, 2) := by decide +kernel
theorem d1_20 : decode prog_32_method_1_code 20 = .ok (.putfield 17, 3) := by decide +kernel
theorem d1_23 : decode prog_32_method_1_code 23 = .ok (.aload_n 0, 1) := by decide +kernel
theorem d1_24 : decode prog_32_method_1_code 24 = .ok (.iconst 0, 1) := by decide +kernel
theorem d1_25 : decode prog_32_method_1_code 25 = .ok (.newarray .int, 2) := by decide +kernel
theorem d1_27 : decode prog_32_method_1_code 27 = .ok (.putfield 20, 3) := by decide +kernel
theorem d1_30 : decode prog_32_method_1_code 30 = .ok (.aload_n 0, 1) := by decide +kernel
theorem d1_31 : decode prog_32_method_1_code 31 = .ok (.iconst 0, 1) := by decide +kernel
theorem d1_32 : decode prog_32_method_1_code 32 = .ok (.newarray .byte, 2) := by decide +kernel
theorem d1_34 : decode prog_32_method_1_code 34 = .ok (.putfield 23, 3) := by decide +kernel
theorem d1_37 : decode prog_32_method_1_code 37 = .ok (.aload_n 0, 1) := by decide +kernel
theorem d1_38 : decode prog_32_method_1_code 38 = .ok (.iconst 0, 1) := by decide +kernel
theorem d1_39 : decode prog_32_method_1_code 39 = .ok (.newarray .int, 2) := by decide +kernel
theorem d1_41 : decode prog_32_method_1_code 41 = .ok (.putfield 27, 3) := by decide +kernel
theorem d1_44 : decode prog_32_method_1_code 44 = .ok (.aload_n 0, 1) := by decide +kernel
theorem d1_45 : decode prog_32_method_1_code 45 = .ok (.iconst 0, 1) := by decide +kernel
theorem d1_46 : decode prog_32_method_1_code 46 = .ok (.newarray .int, 2) := by decide +kernel
theorem d1_48 : decode prog_32_method_1_code 48 = .ok (.putfield 30, 3) := by decide +kernel
theorem d1_51 : decode prog_32_method_1_code 51 = .ok (.aload_n 0, 1) := by decide +kernel
theorem d1_52 : decode prog_32_method_1_code 52 = .ok (.iconst 0, 1) := by decide +kernel
theorem d1_53 : decode prog_32_method_1_code 53 = .ok (.anewarray 33, 3) := by decide +kernel
theorem d1_56 : decode prog_32_method_1_code 56 = .ok (.putfield 35, 3) := by decide +kernel
theorem d1_59 : decode prog_32_method_1_code 59 = .ok (.aload_n 0, 1) := by decide +kernel
theorem d1_60 : decode prog_32_method_1_code 60 = .ok (.bipush 16, 2) := by decide +kernel
theorem d1_62 : decode prog_32_method_1_code 62 = .ok (.newarray .int, 2) := by decide +kernel
theorem d1_64 : decode prog_32_method_1_code 64 = .ok (.putfield 39, 3) := by decide +kernel
theorem d1_67 : decode prog_32_method_1_code 67 = .ok (.aload_n 0, 1) := by decide +kernel
theorem d1_68 : decode prog_32_method_1_code 68 = .ok (.iconst (-1), 1) := by decide +kernel
theorem d1_69 : decode prog_32_method_1_code 69 = .ok (.putfield 42, 3) := by decide +kernel
theorem d1_72 : decode prog_32_method_1_code 72 = .ok (.aload_n 0, 1) := by decide +kernel
theorem d1_73 : decode prog_32_method_1_code 73 = .ok (.bipush 16, 2) := by decide +kernel
theorem d1_75 : decode prog_32_method_1_code 75 = .ok (.newarray .int, 2) := by decide +kernel
theorem d1_77 : decode prog_32_method_1_code 77 = .ok (.putfield 45, 3) := by decide +kernel
theorem d1_80 : decode prog_32_method_1_code 80 = .ok (.return_, 1) := by decide +kernel
def k1 : OM := (prog_32_method_1_code, 1, "com/example/tollbook/tollbook/ber/TlvChains", "<init>", none, { frames := 1, cells := 9, slots := 32, locals := 13 })
theorem pn1 : plainFor (⟨"com/example/tollbook/tollbook/ber/TlvChains", "<init>", "()V"⟩ : MethodName) = true := plainFor_of_name (by first | (simp [plainName, overriddenIn]; done) | decide +kernel)
theorem pd1 : parseMethodDescriptor "()V" = some ⟨[], none⟩ := by decide +kernel
set_option maxRecDepth 65536 in
set_option maxHeartbeats 4000000 in
theorem C_init {Z : State} {ω : OW} {h : Heap} (hw_ : ∀ d ∈ tables_1, d.before ω.2.2 Z = true) (hn_ : ω.2.1 ≤ h.size) (a : Addr) (F0 : TC Z h a (.int (0 : Int32)) (.int (0 : Int32)) .null .null .null .null .null .null .null .null (.int (0 : Int32)) (.int (0 : Int32)) .null) (ga : ω.2.1 ≤ a) :
    oC Z ω (⟨"com/example/tollbook/tollbook/ber/TlvChains", "<init>", "()V"⟩ : MethodName) k1 [] #[.ref a] h (fun v h' => v = none ∧ ∃ aN aJ aD aC aT aR aF aL aP, Keep h h' [a] ∧ List.Nodup [a, aN, aJ, aD, aC, aT, aR, aF, aL, aP] ∧ (∀ x ∈ [a, aN, aJ, aD, aC, aT, aR, aF, aL, aP], ω.2.1 ≤ x) ∧ (∀ x ∈ [aN, aJ, aD, aC, aT, aR, aF, aL, aP], h.size ≤ x) ∧ TC Z h' a (.int (0 : Int32)) (.int (-1 : Int32)) (.ref aN) (.ref aJ) (.ref aD) (.ref aC) (.ref aT) (.ref aR) (.ref aF) (.ref aL) (.int (0 : Int32)) (.int (-1 : Int32)) (.ref aP) ∧ oA Z h' aN .int 0 (fun i => .int (oZI i)) ∧ oA Z h' aL .int 16 (fun i => .int (oZI i)) ∧ oA Z h' aP .int 16 (fun i => .int (oZI i))) := by
  refine oC_of hw_ hn_ pn1 rfl rfl (L := #[.val (.ref a)]) (fun m => by first | (simp [entryFrame, mkF, argsToLocals, Value.category, k1]; done) | rfl) ?_
  intro γ T X
  refine ow_aloadN X 1 d1_0 rfl rfl rfl ?_
  refine ow_initO X 4 8 9 10 rfl rfl rfl rfl d1_1 rfl rfl (by decide) (W := 0) (Nat.le_of_eq rfl) (by decide) ?_
  intro T_24 X_24
  refine ow_aloadN X_24 5 d1_4 rfl rfl rfl ?_
  refine ow_iconst X_24 6 (-1 : Int32) d1_5 rfl rfl ?_
  refine ow_putF X_24 9 11 3 rfl rfl F0.2.2.1 F0.1 (Or.inl (oSt_at X_24 12 rfl)) rfl (ty := .int) (by decide) rfl rfl ga d1_6 rfl ?_
  intro T_25 h_25 X_25 W_25
  have f26_0 : TC Z h_25 a (.int (0 : Int32)) (.int (-1 : Int32)) .null .null .null .null .null .null .null .null (.int (0 : Int32)) (.int (0 : Int32)) .null := TC.set_limit (oSt_w X_25) F0 W_25
  have f26_1 : Keep h h_25 [a] := (Keep.refl h [a]).wr W_25 (Or.inl (List.mem_of_getElem? (i := 0) rfl))
  refine ow_aloadN X_25 10 d1_9 rfl rfl rfl ?_
  refine ow_iconst X_25 11 (0 : Int32) d1_10 rfl rfl ?_
  refine ow_newP X_25 13 13 (cap := 0) rfl d1_11 rfl (by decide) (by decide) (by decide) (by decide) (by decide) ?_
  intro T_27 h_27 a_27 q_27 X_27 E_27 A_27 g_27
  have ne_a_a_27 : a ≠ a_27 := by rw [q_27]; exact Nat.ne_of_lt f26_0.lt
  have ge_h_a_27 : h.size ≤ a_27 := by rw [q_27]; exact f26_1.1
  have f28_0 : TC Z h_27 a (.int (0 : Int32)) (.int (-1 : Int32)) .null .null .null .null .null .null .null .null (.int (0 : Int32)) (.int (0 : Int32)) .null := f26_0.ext E_27
  have f28_1 : Keep h h_27 [a] := f26_1.ext E_27
  have A_27 : oA Z h_27 a_27 .int ((0 : Int32).toInt.toNat) (fun i_ => .int (oZI i_)) := A_27
  refine ow_putF X_27 16 14 3 rfl rfl f28_0.2.2.2.1 f28_0.1 (Or.inl (oSt_at X_27 15 rfl)) rfl (ty := (.array .int)) (by decide) rfl rfl ga d1_13 rfl ?_
  intro T_29 h_29 X_29 W_29
  have f30_0 : TC Z h_29 a (.int (0 : Int32)) (.int (-1 : Int32)) (.ref a_27) .null .null .null .null .null .null .null (.int (0 : Int32)) (.int (0 : Int32)) .null := TC.set_nexts (oSt_w X_29) f28_0 W_29
  have f30_1 : Keep h h_29 [a] := f28_1.wr W_29 (Or.inl (List.mem_of_getElem? (i := 0) rfl))
  have f30_2 : oA Z h_29 a_27 .int ((0 : Int32).toInt.toNat) (fun i_ => .int (oZI i_)) := A_27.other W_29 (Ne.symm ne_a_a_27)
  refine ow_aloadN X_29 17 d1_16 rfl rfl rfl ?_
  refine ow_iconst X_29 18 (0 : Int32) d1_17 rfl rfl ?_
  refine ow_newP X_29 20 13 (cap := 0) rfl d1_18 rfl (by decide) (by decide) (by decide) (by decide) (by decide) ?_
  intro T_31 h_31 a_31 q_31 X_31 E_31 A_31 g_31
  have ne_a_a_31 : a ≠ a_31 := by rw [q_31]; exact Nat.ne_of_lt f30_0.lt
  have ge_h_a_31 : h.size ≤ a_31 := by rw [q_31]; exact f30_1.1
  have ne_a_27_a_31 : a_27 ≠ a_31 := by rw [q_31]; exact Nat.ne_of_lt f30_2.lt
  have f32_0 : TC Z h_31 a (.int (0 : Int32)) (.int (-1 : Int32)) (.ref a_27) .null .null .null .null .null .null .null (.int (0 : Int32)) (.int (0 : Int32)) .null := f30_0.ext E_31
  have f32_1 : Keep h h_31 [a] := f30_1.ext E_31
  have f32_2 : oA Z h_31 a_27 .int ((0 : Int32).toInt.toNat) (fun i_ => .int (oZI i_)) := f30_2.ext E_31
  have A_31 : oA Z h_31 a_31 .int ((0 : Int32).toInt.toNat) (fun i_ => .int (oZI i_)) := A_31
  refine ow_putF X_31 23 16 3 rfl rfl f32_0.2.2.2.2.1 f32_0.1 (Or.inl (oSt_at X_31 17 rfl)) rfl (ty := (.array .int)) (by decide) rfl rfl ga d1_20 rfl ?_
  intro T_33 h_33 X_33 W_33
  have f34_0 : TC Z h_33 a (.int (0 : Int32)) (.int (-1 : Int32)) (.ref a_27) (.ref a_31) .null .null .null .null .null .null (.int (0 : Int32)) (.int (0 : Int32)) .null := TC.set_jumps (oSt_w X_33) f32_0 W_33
  have f34_1 : Keep h h_33 [a] := f32_1.wr W_33 (Or.inl (List.mem_of_getElem? (i := 0) rfl))
  have f34_2 : oA Z h_33 a_27 .int ((0 : Int32).toInt.toNat) (fun i_ => .int (oZI i_)) := f32_2.other W_33 (Ne.symm ne_a_a_27)
  have f34_3 : oA Z h_33 a_31 .int ((0 : Int32).toInt.toNat) (fun i_ => .int (oZI i_)) := A_31.other W_33 (Ne.symm ne_a_a_31)
  refine ow_aloadN X_33 24 d1_23 rfl rfl rfl ?_
  refine ow_iconst X_33 25 (0 : Int32) d1_24 rfl rfl ?_
  refine ow_newP X_33 27 13 (cap := 0) rfl d1_25 rfl (by decide) (by decide) (by decide) (by decide) (by decide) ?_
  intro T_35 h_35 a_35 q_35 X_35 E_35 A_35 g_35
  have ne_a_a_35 : a ≠ a_35 := by rw [q_35]; exact Nat.ne_of_lt f34_0.lt
  have ge_h_a_35 : h.size ≤ a_35 := by rw [q_35]; exact f34_1.1
  have ne_a_27_a_35 : a_27 ≠ a_35 := by rw [q_35]; exact Nat.ne_of_lt f34_2.lt
  have ne_a_31_a_35 : a_31 ≠ a_35 := by rw [q_35]; exact Nat.ne_of_lt f34_3.lt
  have f36_0 : TC Z h_35 a (.int (0 : Int32)) (.int (-1 : Int32)) (.ref a_27) (.ref a_31) .null .null .null .null .null .null (.int (0 : Int32)) (.int (0 : Int32)) .null := f34_0.ext E_35
  have f36_1 : Keep h h_35 [a] := f34_1.ext E_35
  have f36_2 : oA Z h_35 a_27 .int ((0 : Int32).toInt.toNat) (fun i_ => .int (oZI i_)) := f34_2.ext E_35
  have f36_3 : oA Z h_35 a_31 .int ((0 : Int32).toInt.toNat) (fun i_ => .int (oZI i_)) := f34_3.ext E_35
  have A_35 : oA Z h_35 a_35 .int ((0 : Int32).toInt.toNat) (fun i_ => .int (oZI i_)) := A_35
  refine ow_putF X_35 30 18 3 rfl rfl f36_0.2.2.2.2.2.1 f36_0.1 (Or.inl (oSt_at X_35 19 rfl)) rfl (ty := (.array .int)) (by decide) rfl rfl ga d1_27 rfl ?_
  intro T_37 h_37 X_37 W_37
  have f38_0 : TC Z h_37 a (.int (0 : Int32)) (.int (-1 : Int32)) (.ref a_27) (.ref a_31) (.ref a_35) .null .null .null .null .null (.int (0 : Int32)) (.int (0 : Int32)) .null := TC.set_depths (oSt_w X_37) f36_0 W_37
  have f38_1 : Keep h h_37 [a] := f36_1.wr W_37 (Or.inl (List.mem_of_getElem? (i := 0) rfl))
  have f38_2 : oA Z h_37 a_27 .int ((0 : Int32).toInt.toNat) (fun i_ => .int (oZI i_)) := f36_2.other W_37 (Ne.symm ne_a_a_27)
  have f38_3 : oA Z h_37 a_31 .int ((0 : Int32).toInt.toNat) (fun i_ => .int (oZI i_)) := f36_3.other W_37 (Ne.symm ne_a_a_31)
  have f38_4 : oA Z h_37 a_35 .int ((0 : Int32).toInt.toNat) (fun i_ => .int (oZI i_)) := A_35.other W_37 (Ne.symm ne_a_a_35)
  refine ow_aloadN X_37 31 d1_30 rfl rfl rfl ?_
  refine ow_iconst X_37 32 (0 : Int32) d1_31 rfl rfl ?_
  refine ow_newP X_37 34 20 (cap := 0) rfl d1_32 rfl (by decide) (by decide) (by decide) (by decide) (by decide) ?_
  intro T_39 h_39 a_39 q_39 X_39 E_39 A_39 g_39
  have ne_a_a_39 : a ≠ a_39 := by rw [q_39]; exact Nat.ne_of_lt f38_0.lt
  have ge_h_a_39 : h.size ≤ a_39 := by rw [q_39]; exact f38_1.1
  have ne_a_27_a_39 : a_27 ≠ a_39 := by rw [q_39]; exact Nat.ne_of_lt f38_2.lt
  have ne_a_31_a_39 : a_31 ≠ a_39 := by rw [q_39]; exact Nat.ne_of_lt f38_3.lt
  have ne_a_35_a_39 : a_35 ≠ a_39 := by rw [q_39]; exact Nat.ne_of_lt f38_4.lt
  have f40_0 : TC Z h_39 a (.int (0 : Int32)) (.int (-1 : Int32)) (.ref a_27) (.ref a_31) (.ref a_35) .null .null .null .null .null (.int (0 : Int32)) (.int (0 : Int32)) .null := f38_0.ext E_39
  have f40_1 : Keep h h_39 [a] := f38_1.ext E_39
  have f40_2 : oA Z h_39 a_27 .int ((0 : Int32).toInt.toNat) (fun i_ => .int (oZI i_)) := f38_2.ext E_39
  have f40_3 : oA Z h_39 a_31 .int ((0 : Int32).toInt.toNat) (fun i_ => .int (oZI i_)) := f38_3.ext E_39
  have f40_4 : oA Z h_39 a_35 .int ((0 : Int32).toInt.toNat) (fun i_ => .int (oZI i_)) := f38_4.ext E_39
  have A_39 : oA Z h_39 a_39 .byte ((0 : Int32).toInt.toNat) (fun i_ => .int (oZI i_)) := A_39
  refine ow_putF X_39 37 21 3 rfl rfl f40_0.2.2.2.2.2.2.1 f40_0.1 (Or.inl (oSt_at X_39 22 rfl)) rfl (ty := (.array .byte)) (by decide) rfl rfl ga d1_34 rfl ?_
  intro T_41 h_41 X_41 W_41
  have f42_0 : TC Z h_41 a (.int (0 : Int32)) (.int (-1 : Int32)) (.ref a_27) (.ref a_31) (.ref a_35) (.ref a_39) .null .null .null .null (.int (0 : Int32)) (.int (0 : Int32)) .null := TC.set_tagClasses (oSt_w X_41) f40_0 W_41
  have f42_1 : Keep h h_41 [a] := f40_1.wr W_41 (Or.inl (List.mem_of_getElem? (i := 0) rfl))
  have f42_2 : oA Z h_41 a_27 .int ((0 : Int32).toInt.toNat) (fun i_ => .int (oZI i_)) := f40_2.other W_41 (Ne.symm ne_a_a_27)
  have f42_3 : oA Z h_41 a_31 .int ((0 : Int32).toInt.toNat) (fun i_ => .int (oZI i_)) := f40_3.other W_41 (Ne.symm ne_a_a_31)
  have f42_4 : oA Z h_41 a_35 .int ((0 : Int32).toInt.toNat) (fun i_ => .int (oZI i_)) := f40_4.other W_41 (Ne.symm ne_a_a_35)
  have f42_5 : oA Z h_41 a_39 .byte ((0 : Int32).toInt.toNat) (fun i_ => .int (oZI i_)) := A_39.other W_41 (Ne.symm ne_a_a_39)
  refine ow_aloadN X_41 38 d1_37 rfl rfl rfl ?_
  refine ow_iconst X_41 39 (0 : Int32) d1_38 rfl rfl ?_
  refine ow_newP X_41 41 13 (cap := 0) rfl d1_39 rfl (by decide) (by decide) (by decide) (by decide) (by decide) ?_
  intro T_43 h_43 a_43 q_43 X_43 E_43 A_43 g_43
  have ne_a_a_43 : a ≠ a_43 := by rw [q_43]; exact Nat.ne_of_lt f42_0.lt
  have ge_h_a_43 : h.size ≤ a_43 := by rw [q_43]; exact f42_1.1
  have ne_a_27_a_43 : a_27 ≠ a_43 := by rw [q_43]; exact Nat.ne_of_lt f42_2.lt
  have ne_a_31_a_43 : a_31 ≠ a_43 := by rw [q_43]; exact Nat.ne_of_lt f42_3.lt
  have ne_a_35_a_43 : a_35 ≠ a_43 := by rw [q_43]; exact Nat.ne_of_lt f42_4.lt
  have ne_a_39_a_43 : a_39 ≠ a_43 := by rw [q_43]; exact Nat.ne_of_lt f42_5.lt
  have f44_0 : TC Z h_43 a (.int (0 : Int32)) (.int (-1 : Int32)) (.ref a_27) (.ref a_31) (.ref a_35) (.ref a_39) .null .null .null .null (.int (0 : Int32)) (.int (0 : Int32)) .null := f42_0.ext E_43
  have f44_1 : Keep h h_43 [a] := f42_1.ext E_43
  have f44_2 : oA Z h_43 a_27 .int ((0 : Int32).toInt.toNat) (fun i_ => .int (oZI i_)) := f42_2.ext E_43
  have f44_3 : oA Z h_43 a_31 .int ((0 : Int32).toInt.toNat) (fun i_ => .int (oZI i_)) := f42_3.ext E_43
  have f44_4 : oA Z h_43 a_35 .int ((0 : Int32).toInt.toNat) (fun i_ => .int (oZI i_)) := f42_4.ext E_43
  have f44_5 : oA Z h_43 a_39 .byte ((0 : Int32).toInt.toNat) (fun i_ => .int (oZI i_)) := f42_5.ext E_43
  have A_43 : oA Z h_43 a_43 .int ((0 : Int32).toInt.toNat) (fun i_ => .int (oZI i_)) := A_43
  refine ow_putF X_43 44 23 3 rfl rfl f44_0.2.2.2.2.2.2.2.1 f44_0.1 (Or.inl (oSt_at X_43 24 rfl)) rfl (ty := (.array .int)) (by decide) rfl rfl ga d1_41 rfl ?_
  intro T_45 h_45 X_45 W_45
  have f46_0 : TC Z h_45 a (.int (0 : Int32)) (.int (-1 : Int32)) (.ref a_27) (.ref a_31) (.ref a_35) (.ref a_39) (.ref a_43) .null .null .null (.int (0 : Int32)) (.int (0 : Int32)) .null := TC.set_tagNumbers (oSt_w X_45) f44_0 W_45
  have f46_1 : Keep h h_45 [a] := f44_1.wr W_45 (Or.inl (List.mem_of_getElem? (i := 0) rfl))
  have f46_2 : oA Z h_45 a_27 .int ((0 : Int32).toInt.toNat) (fun i_ => .int (oZI i_)) := f44_2.other W_45 (Ne.symm ne_a_a_27)
  have f46_3 : oA Z h_45 a_31 .int ((0 : Int32).toInt.toNat) (fun i_ => .int (oZI i_)) := f44_3.other W_45 (Ne.symm ne_a_a_31)
  have f46_4 : oA Z h_45 a_35 .int ((0 : Int32).toInt.toNat) (fun i_ => .int (oZI i_)) := f44_4.other W_45 (Ne.symm ne_a_a_35)
  have f46_5 : oA Z h_45 a_39 .byte ((0 : Int32).toInt.toNat) (fun i_ => .int (oZI i_)) := f44_5.other W_45 (Ne.symm ne_a_a_39)
  have f46_6 : oA Z h_45 a_43 .int ((0 : Int32).toInt.toNat) (fun i_ => .int (oZI i_)) := A_43.other W_45 (Ne.symm ne_a_a_43)
  refine ow_aloadN X_45 45 d1_44 rfl rfl rfl ?_
  refine ow_iconst X_45 46 (0 : Int32) d1_45 rfl rfl ?_
  refine ow_newP X_45 48 13 (cap := 0) rfl d1_46 rfl (by decide) (by decide) (by decide) (by decide) (by decide) ?_
  intro T_47 h_47 a_47 q_47 X_47 E_47 A_47 g_47
  have ne_a_a_47 : a ≠ a_47 := by rw [q_47]; exact Nat.ne_of_lt f46_0.lt
  have ge_h_a_47 : h.size ≤ a_47 := by rw [q_47]; exact f46_1.1
  have ne_a_27_a_47 : a_27 ≠ a_47 := by rw [q_47]; exact Nat.ne_of_lt f46_2.lt
  have ne_a_31_a_47 : a_31 ≠ a_47 := by rw [q_47]; exact Nat.ne_of_lt f46_3.lt
  have ne_a_35_a_47 : a_35 ≠ a_47 := by rw [q_47]; exact Nat.ne_of_lt f46_4.lt
  have ne_a_39_a_47 : a_39 ≠ a_47 := by rw [q_47]; exact Nat.ne_of_lt f46_5.lt
  have ne_a_43_a_47 : a_43 ≠ a_47 := by rw [q_47]; exact Nat.ne_of_lt f46_6.lt
  have f48_0 : TC Z h_47 a (.int (0 : Int32)) (.int (-1 : Int32)) (.ref a_27) (.ref a_31) (.ref a_35) (.ref a_39) (.ref a_43) .null .null .null (.int (0 : Int32)) (.int (0 : Int32)) .null := f46_0.ext E_47
  have f48_1 : Keep h h_47 [a] := f46_1.ext E_47
  have f48_2 : oA Z h_47 a_27 .int ((0 : Int32).toInt.toNat) (fun i_ => .int (oZI i_)) := f46_2.ext E_47
  have f48_3 : oA Z h_47 a_31 .int ((0 : Int32).toInt.toNat) (fun i_ => .int (oZI i_)) := f46_3.ext E_47
  have f48_4 : oA Z h_47 a_35 .int ((0 : Int32).toInt.toNat) (fun i_ => .int (oZI i_)) := f46_4.ext E_47
  have f48_5 : oA Z h_47 a_39 .byte ((0 : Int32).toInt.toNat) (fun i_ => .int (oZI i_)) := f46_5.ext E_47
  have f48_6 : oA Z h_47 a_43 .int ((0 : Int32).toInt.toNat) (fun i_ => .int (oZI i_)) := f46_6.ext E_47
  have A_47 : oA Z h_47 a_47 .int ((0 : Int32).toInt.toNat) (fun i_ => .int (oZI i_)) := A_47
  refine ow_putF X_47 51 25 3 rfl rfl f48_0.2.2.2.2.2.2.2.2.1 f48_0.1 (Or.inl (oSt_at X_47 26 rfl)) rfl (ty := (.array .int)) (by decide) rfl rfl ga d1_48 rfl ?_
  intro T_49 h_49 X_49 W_49
  have f50_0 : TC Z h_49 a (.int (0 : Int32)) (.int (-1 : Int32)) (.ref a_27) (.ref a_31) (.ref a_35) (.ref a_39) (.ref a_43) (.ref a_47) .null .null (.int (0 : Int32)) (.int (0 : Int32)) .null := TC.set_nearest (oSt_w X_49) f48_0 W_49
  have f50_1 : Keep h h_49 [a] := f48_1.wr W_49 (Or.inl (List.mem_of_getElem? (i := 0) rfl))
  have f50_2 : oA Z h_49 a_27 .int ((0 : Int32).toInt.toNat) (fun i_ => .int (oZI i_)) := f48_2.other W_49 (Ne.symm ne_a_a_27)
  have f50_3 : oA Z h_49 a_31 .int ((0 : Int32).toInt.toNat) (fun i_ => .int (oZI i_)) := f48_3.other W_49 (Ne.symm ne_a_a_31)
  have f50_4 : oA Z h_49 a_35 .int ((0 : Int32).toInt.toNat) (fun i_ => .int (oZI i_)) := f48_4.other W_49 (Ne.symm ne_a_a_35)
  have f50_5 : oA Z h_49 a_39 .byte ((0 : Int32).toInt.toNat) (fun i_ => .int (oZI i_)) := f48_5.other W_49 (Ne.symm ne_a_a_39)
  have f50_6 : oA Z h_49 a_43 .int ((0 : Int32).toInt.toNat) (fun i_ => .int (oZI i_)) := f48_6.other W_49 (Ne.symm ne_a_a_43)
  have f50_7 : oA Z h_49 a_47 .int ((0 : Int32).toInt.toNat) (fun i_ => .int (oZI i_)) := A_47.other W_49 (Ne.symm ne_a_a_47)
  refine ow_aloadN X_49 52 d1_51 rfl rfl rfl ?_
  refine ow_iconst X_49 53 (0 : Int32) d1_52 rfl rfl ?_
  refine ow_newR X_49 56 27 28 (cap := 0) rfl rfl rfl d1_53 rfl (by decide) (by decide) (by decide) (by decide) (by decide) ?_
  intro T_51 h_51 a_51 q_51 X_51 E_51 A_51 O_51 g_51
  have ne_a_a_51 : a ≠ a_51 := by rw [q_51]; exact Nat.ne_of_lt f50_0.lt
  have ge_h_a_51 : h.size ≤ a_51 := by rw [q_51]; exact f50_1.1
  have ne_a_27_a_51 : a_27 ≠ a_51 := by rw [q_51]; exact Nat.ne_of_lt f50_2.lt
  have ne_a_31_a_51 : a_31 ≠ a_51 := by rw [q_51]; exact Nat.ne_of_lt f50_3.lt
  have ne_a_35_a_51 : a_35 ≠ a_51 := by rw [q_51]; exact Nat.ne_of_lt f50_4.lt
  have ne_a_39_a_51 : a_39 ≠ a_51 := by rw [q_51]; exact Nat.ne_of_lt f50_5.lt
  have ne_a_43_a_51 : a_43 ≠ a_51 := by rw [q_51]; exact Nat.ne_of_lt f50_6.lt
  have ne_a_47_a_51 : a_47 ≠ a_51 := by rw [q_51]; exact Nat.ne_of_lt f50_7.lt
  have f52_0 : TC Z h_51 a (.int (0 : Int32)) (.int (-1 : Int32)) (.ref a_27) (.ref a_31) (.ref a_35) (.ref a_39) (.ref a_43) (.ref a_47) .null .null (.int (0 : Int32)) (.int (0 : Int32)) .null := f50_0.ext E_51
  have f52_1 : Keep h h_51 [a] := f50_1.ext E_51
  have f52_2 : oA Z h_51 a_27 .int ((0 : Int32).toInt.toNat) (fun i_ => .int (oZI i_)) := f50_2.ext E_51
  have f52_3 : oA Z h_51 a_31 .int ((0 : Int32).toInt.toNat) (fun i_ => .int (oZI i_)) := f50_3.ext E_51
  have f52_4 : oA Z h_51 a_35 .int ((0 : Int32).toInt.toNat) (fun i_ => .int (oZI i_)) := f50_4.ext E_51
  have f52_5 : oA Z h_51 a_39 .byte ((0 : Int32).toInt.toNat) (fun i_ => .int (oZI i_)) := f50_5.ext E_51
  have f52_6 : oA Z h_51 a_43 .int ((0 : Int32).toInt.toNat) (fun i_ => .int (oZI i_)) := f50_6.ext E_51
  have f52_7 : oA Z h_51 a_47 .int ((0 : Int32).toInt.toNat) (fun i_ => .int (oZI i_)) := f50_7.ext E_51
  refine ow_putF X_51 59 29 3 rfl rfl f52_0.2.2.2.2.2.2.2.2.2.1 f52_0.1 (Or.inl (oSt_at X_51 30 rfl)) rfl (ty := (.array (.object "com/example/tollbook/tollbook/ber/BerException"))) (by decide) rfl rfl ga d1_56 rfl ?_
  intro T_53 h_53 X_53 W_53
  have f54_0 : TC Z h_53 a (.int (0 : Int32)) (.int (-1 : Int32)) (.ref a_27) (.ref a_31) (.ref a_35) (.ref a_39) (.ref a_43) (.ref a_47) (.ref a_51) .null (.int (0 : Int32)) (.int (0 : Int32)) .null := TC.set_failures (oSt_w X_53) f52_0 W_53
  have f54_1 : Keep h h_53 [a] := f52_1.wr W_53 (Or.inl (List.mem_of_getElem? (i := 0) rfl))
  have f54_2 : oA Z h_53 a_27 .int ((0 : Int32).toInt.toNat) (fun i_ => .int (oZI i_)) := f52_2.other W_53 (Ne.symm ne_a_a_27)
  have f54_3 : oA Z h_53 a_31 .int ((0 : Int32).toInt.toNat) (fun i_ => .int (oZI i_)) := f52_3.other W_53 (Ne.symm ne_a_a_31)
  have f54_4 : oA Z h_53 a_35 .int ((0 : Int32).toInt.toNat) (fun i_ => .int (oZI i_)) := f52_4.other W_53 (Ne.symm ne_a_a_35)
  have f54_5 : oA Z h_53 a_39 .byte ((0 : Int32).toInt.toNat) (fun i_ => .int (oZI i_)) := f52_5.other W_53 (Ne.symm ne_a_a_39)
  have f54_6 : oA Z h_53 a_43 .int ((0 : Int32).toInt.toNat) (fun i_ => .int (oZI i_)) := f52_6.other W_53 (Ne.symm ne_a_a_43)
  have f54_7 : oA Z h_53 a_47 .int ((0 : Int32).toInt.toNat) (fun i_ => .int (oZI i_)) := f52_7.other W_53 (Ne.symm ne_a_a_47)
  have f54_8 : oA Z h_53 a_51 (.object "com/example/tollbook/tollbook/ber/BerException") ((0 : Int32).toInt.toNat) (fun _ => .null) := A_51.other W_53 (Ne.symm ne_a_a_51)
  have f54_9 : oOv Z h_53 a_51 "com/example/tollbook/tollbook/ber/BerException" := O_51.wr W_53
  refine ow_aloadN X_53 60 d1_59 rfl rfl rfl ?_
  refine ow_bipush X_53 62 (16 : Int32) d1_60 rfl rfl ?_
  refine ow_newP X_53 64 13 (cap := 16) rfl d1_62 rfl (by decide) (by decide) (by decide) (by decide) (by decide) ?_
  intro T_55 h_55 a_55 q_55 X_55 E_55 A_55 g_55
  have ne_a_a_55 : a ≠ a_55 := by rw [q_55]; exact Nat.ne_of_lt f54_0.lt
  have ge_h_a_55 : h.size ≤ a_55 := by rw [q_55]; exact f54_1.1
  have ne_a_27_a_55 : a_27 ≠ a_55 := by rw [q_55]; exact Nat.ne_of_lt f54_2.lt
  have ne_a_31_a_55 : a_31 ≠ a_55 := by rw [q_55]; exact Nat.ne_of_lt f54_3.lt
  have ne_a_35_a_55 : a_35 ≠ a_55 := by rw [q_55]; exact Nat.ne_of_lt f54_4.lt
  have ne_a_39_a_55 : a_39 ≠ a_55 := by rw [q_55]; exact Nat.ne_of_lt f54_5.lt
  have ne_a_43_a_55 : a_43 ≠ a_55 := by rw [q_55]; exact Nat.ne_of_lt f54_6.lt
  have ne_a_47_a_55 : a_47 ≠ a_55 := by rw [q_55]; exact Nat.ne_of_lt f54_7.lt
  have ne_a_51_a_55 : a_51 ≠ a_55 := by rw [q_55]; exact Nat.ne_of_lt f54_8.lt
  have f56_0 : TC Z h_55 a (.int (0 : Int32)) (.int (-1 : Int32)) (.ref a_27) (.ref a_31) (.ref a_35) (.ref a_39) (.ref a_43) (.ref a_47) (.ref a_51) .null (.int (0 : Int32)) (.int (0 : Int32)) .null := f54_0.ext E_55
  have f56_1 : Keep h h_55 [a] := f54_1.ext E_55
  have f56_2 : oA Z h_55 a_27 .int ((0 : Int32).toInt.toNat) (fun i_ => .int (oZI i_)) := f54_2.ext E_55
  have f56_3 : oA Z h_55 a_31 .int ((0 : Int32).toInt.toNat) (fun i_ => .int (oZI i_)) := f54_3.ext E_55
  have f56_4 : oA Z h_55 a_35 .int ((0 : Int32).toInt.toNat) (fun i_ => .int (oZI i_)) := f54_4.ext E_55
  have f56_5 : oA Z h_55 a_39 .byte ((0 : Int32).toInt.toNat) (fun i_ => .int (oZI i_)) := f54_5.ext E_55
  have f56_6 : oA Z h_55 a_43 .int ((0 : Int32).toInt.toNat) (fun i_ => .int (oZI i_)) := f54_6.ext E_55
  have f56_7 : oA Z h_55 a_47 .int ((0 : Int32).toInt.toNat) (fun i_ => .int (oZI i_)) := f54_7.ext E_55
  have f56_8 : oA Z h_55 a_51 (.object "com/example/tollbook/tollbook/ber/BerException") ((0 : Int32).toInt.toNat) (fun _ => .null) := f54_8.ext E_55
  have f56_9 : oOv Z h_55 a_51 "com/example/tollbook/tollbook/ber/BerException" := f54_9.ext E_55
  have A_55 : oA Z h_55 a_55 .int ((16 : Int32).toInt.toNat) (fun i_ => .int (oZI i_)) := A_55
  refine ow_putF X_55 67 31 3 rfl rfl f56_0.2.2.2.2.2.2.2.2.2.2.1 f56_0.1 (Or.inl (oSt_at X_55 32 rfl)) rfl (ty := (.array .int)) (by decide) rfl rfl ga d1_64 rfl ?_
  intro T_57 h_57 X_57 W_57
  have f58_0 : TC Z h_57 a (.int (0 : Int32)) (.int (-1 : Int32)) (.ref a_27) (.ref a_31) (.ref a_35) (.ref a_39) (.ref a_43) (.ref a_47) (.ref a_51) (.ref a_55) (.int (0 : Int32)) (.int (0 : Int32)) .null := TC.set_learnt (oSt_w X_57) f56_0 W_57
  have f58_1 : Keep h h_57 [a] := f56_1.wr W_57 (Or.inl (List.mem_of_getElem? (i := 0) rfl))
  have f58_2 : oA Z h_57 a_27 .int ((0 : Int32).toInt.toNat) (fun i_ => .int (oZI i_)) := f56_2.other W_57 (Ne.symm ne_a_a_27)
  have f58_3 : oA Z h_57 a_31 .int ((0 : Int32).toInt.toNat) (fun i_ => .int (oZI i_)) := f56_3.other W_57 (Ne.symm ne_a_a_31)
  have f58_4 : oA Z h_57 a_35 .int ((0 : Int32).toInt.toNat) (fun i_ => .int (oZI i_)) := f56_4.other W_57 (Ne.symm ne_a_a_35)
  have f58_5 : oA Z h_57 a_39 .byte ((0 : Int32).toInt.toNat) (fun i_ => .int (oZI i_)) := f56_5.other W_57 (Ne.symm ne_a_a_39)
  have f58_6 : oA Z h_57 a_43 .int ((0 : Int32).toInt.toNat) (fun i_ => .int (oZI i_)) := f56_6.other W_57 (Ne.symm ne_a_a_43)
  have f58_7 : oA Z h_57 a_47 .int ((0 : Int32).toInt.toNat) (fun i_ => .int (oZI i_)) := f56_7.other W_57 (Ne.symm ne_a_a_47)
  have f58_8 : oA Z h_57 a_51 (.object "com/example/tollbook/tollbook/ber/BerException") ((0 : Int32).toInt.toNat) (fun _ => .null) := f56_8.other W_57 (Ne.symm ne_a_a_51)
  have f58_9 : oOv Z h_57 a_51 "com/example/tollbook/tollbook/ber/BerException" := f56_9.wr W_57
  have f58_10 : oA Z h_57 a_55 .int ((16 : Int32).toInt.toNat) (fun i_ => .int (oZI i_)) := A_55.other W_57 (Ne.symm ne_a_a_55)
  refine ow_aloadN X_57 68 d1_67 rfl rfl rfl ?_
  refine ow_iconst X_57 69 (-1 : Int32) d1_68 rfl rfl ?_
  refine ow_putF X_57 72 33 3 rfl rfl f58_0.2.2.2.2.2.2.2.2.2.2.2.2.1 f58_0.1 (Or.inl (oSt_at X_57 34 rfl)) rfl (ty := .int) (by decide) rfl rfl ga d1_69 rfl ?_
  intro T_59 h_59 X_59 W_59
  have f60_0 : TC Z h_59 a (.int (0 : Int32)) (.int (-1 : Int32)) (.ref a_27) (.ref a_31) (.ref a_35) (.ref a_39) (.ref a_43) (.ref a_47) (.ref a_51) (.ref a_55) (.int (0 : Int32)) (.int (-1 : Int32)) .null := TC.set_soughtClass (oSt_w X_59) f58_0 W_59
  have f60_1 : Keep h h_59 [a] := f58_1.wr W_59 (Or.inl (List.mem_of_getElem? (i := 0) rfl))
  have f60_2 : oA Z h_59 a_27 .int ((0 : Int32).toInt.toNat) (fun i_ => .int (oZI i_)) := f58_2.other W_59 (Ne.symm ne_a_a_27)
  have f60_3 : oA Z h_59 a_31 .int ((0 : Int32).toInt.toNat) (fun i_ => .int (oZI i_)) := f58_3.other W_59 (Ne.symm ne_a_a_31)
  have f60_4 : oA Z h_59 a_35 .int ((0 : Int32).toInt.toNat) (fun i_ => .int (oZI i_)) := f58_4.other W_59 (Ne.symm ne_a_a_35)
  have f60_5 : oA Z h_59 a_39 .byte ((0 : Int32).toInt.toNat) (fun i_ => .int (oZI i_)) := f58_5.other W_59 (Ne.symm ne_a_a_39)
  have f60_6 : oA Z h_59 a_43 .int ((0 : Int32).toInt.toNat) (fun i_ => .int (oZI i_)) := f58_6.other W_59 (Ne.symm ne_a_a_43)
  have f60_7 : oA Z h_59 a_47 .int ((0 : Int32).toInt.toNat) (fun i_ => .int (oZI i_)) := f58_7.other W_59 (Ne.symm ne_a_a_47)
  have f60_8 : oA Z h_59 a_51 (.object "com/example/tollbook/tollbook/ber/BerException") ((0 : Int32).toInt.toNat) (fun _ => .null) := f58_8.other W_59 (Ne.symm ne_a_a_51)
  have f60_9 : oOv Z h_59 a_51 "com/example/tollbook/tollbook/ber/BerException" := f58_9.wr W_59
  have f60_10 : oA Z h_59 a_55 .int ((16 : Int32).toInt.toNat) (fun i_ => .int (oZI i_)) := f58_10.other W_59 (Ne.symm ne_a_a_55)
  refine ow_aloadN X_59 73 d1_72 rfl rfl rfl ?_
  refine ow_bipush X_59 75 (16 : Int32) d1_73 rfl rfl ?_
  refine ow_newP X_59 77 13 (cap := 16) rfl d1_75 rfl (by decide) (by decide) (by decide) (by decide) (by decide) ?_
  intro T_61 h_61 a_61 q_61 X_61 E_61 A_61 g_61
  have ne_a_a_61 : a ≠ a_61 := by rw [q_61]; exact Nat.ne_of_lt f60_0.lt
  have ge_h_a_61 : h.size ≤ a_61 := by rw [q_61]; exact f60_1.1
  have ne_a_27_a_61 : a_27 ≠ a_61 := by rw [q_61]; exact Nat.ne_of_lt f60_2.lt
  have ne_a_31_a_61 : a_31 ≠ a_61 := by rw [q_61]; exact Nat.ne_of_lt f60_3.lt
  have ne_a_35_a_61 : a_35 ≠ a_61 := by rw [q_61]; exact Nat.ne_of_lt f60_4.lt
  have ne_a_39_a_61 : a_39 ≠ a_61 := by rw [q_61]; exact Nat.ne_of_lt f60_5.lt
  have ne_a_43_a_61 : a_43 ≠ a_61 := by rw [q_61]; exact Nat.ne_of_lt f60_6.lt
  have ne_a_47_a_61 : a_47 ≠ a_61 := by rw [q_61]; exact Nat.ne_of_lt f60_7.lt
  have ne_a_51_a_61 : a_51 ≠ a_61 := by rw [q_61]; exact Nat.ne_of_lt f60_8.lt
  have ne_a_55_a_61 : a_55 ≠ a_61 := by rw [q_61]; exact Nat.ne_of_lt f60_10.lt
  have f62_0 : TC Z h_61 a (.int (0 : Int32)) (.int (-1 : Int32)) (.ref a_27) (.ref a_31) (.ref a_35) (.ref a_39) (.ref a_43) (.ref a_47) (.ref a_51) (.ref a_55) (.int (0 : Int32)) (.int (-1 : Int32)) .null := f60_0.ext E_61
  have f62_1 : Keep h h_61 [a] := f60_1.ext E_61
  have f62_2 : oA Z h_61 a_27 .int ((0 : Int32).toInt.toNat) (fun i_ => .int (oZI i_)) := f60_2.ext E_61
  have f62_3 : oA Z h_61 a_31 .int ((0 : Int32).toInt.toNat) (fun i_ => .int (oZI i_)) := f60_3.ext E_61
  have f62_4 : oA Z h_61 a_35 .int ((0 : Int32).toInt.toNat) (fun i_ => .int (oZI i_)) := f60_4.ext E_61
  have f62_5 : oA Z h_61 a_39 .byte ((0 : Int32).toInt.toNat) (fun i_ => .int (oZI i_)) := f60_5.ext E_61
  have f62_6 : oA Z h_61 a_43 .int ((0 : Int32).toInt.toNat) (fun i_ => .int (oZI i_)) := f60_6.ext E_61
  have f62_7 : oA Z h_61 a_47 .int ((0 : Int32).toInt.toNat) (fun i_ => .int (oZI i_)) := f60_7.ext E_61
  have f62_8 : oA Z h_61 a_51 (.object "com/example/tollbook/tollbook/ber/BerException") ((0 : Int32).toInt.toNat) (fun _ => .null) := f60_8.ext E_61
  have f62_9 : oOv Z h_61 a_51 "com/example/tollbook/tollbook/ber/BerException" := f60_9.ext E_61
  have f62_10 : oA Z h_61 a_55 .int ((16 : Int32).toInt.toNat) (fun i_ => .int (oZI i_)) := f60_10.ext E_61
  have A_61 : oA Z h_61 a_61 .int ((16 : Int32).toInt.toNat) (fun i_ => .int (oZI i_)) := A_61
  refine ow_putF X_61 80 35 3 rfl rfl f62_0.2.2.2.2.2.2.2.2.2.2.2.2.2 f62_0.1 (Or.inl (oSt_at X_61 36 rfl)) rfl (ty := (.array .int)) (by decide) rfl rfl ga d1_77 rfl ?_
  intro T_63 h_63 X_63 W_63
  have f64_0 : TC Z h_63 a (.int (0 : Int32)) (.int (-1 : Int32)) (.ref a_27) (.ref a_31) (.ref a_35) (.ref a_39) (.ref a_43) (.ref a_47) (.ref a_51) (.ref a_55) (.int (0 : Int32)) (.int (-1 : Int32)) (.ref a_61) := TC.set_path (oSt_w X_63) f62_0 W_63
  have f64_1 : Keep h h_63 [a] := f62_1.wr W_63 (Or.inl (List.mem_of_getElem? (i := 0) rfl))
  have f64_2 : oA Z h_63 a_27 .int ((0 : Int32).toInt.toNat) (fun i_ => .int (oZI i_)) := f62_2.other W_63 (Ne.symm ne_a_a_27)
  have f64_3 : oA Z h_63 a_31 .int ((0 : Int32).toInt.toNat) (fun i_ => .int (oZI i_)) := f62_3.other W_63 (Ne.symm ne_a_a_31)
  have f64_4 : oA Z h_63 a_35 .int ((0 : Int32).toInt.toNat) (fun i_ => .int (oZI i_)) := f62_4.other W_63 (Ne.symm ne_a_a_35)
  have f64_5 : oA Z h_63 a_39 .byte ((0 : Int32).toInt.toNat) (fun i_ => .int (oZI i_)) := f62_5.other W_63 (Ne.symm ne_a_a_39)
  have f64_6 : oA Z h_63 a_43 .int ((0 : Int32).toInt.toNat) (fun i_ => .int (oZI i_)) := f62_6.other W_63 (Ne.symm ne_a_a_43)
  have f64_7 : oA Z h_63 a_47 .int ((0 : Int32).toInt.toNat) (fun i_ => .int (oZI i_)) := f62_7.other W_63 (Ne.symm ne_a_a_47)
  have f64_8 : oA Z h_63 a_51 (.object "com/example/tollbook/tollbook/ber/BerException") ((0 : Int32).toInt.toNat) (fun _ => .null) := f62_8.other W_63 (Ne.symm ne_a_a_51)
  have f64_9 : oOv Z h_63 a_51 "com/example/tollbook/tollbook/ber/BerException" := f62_9.wr W_63
  have f64_10 : oA Z h_63 a_55 .int ((16 : Int32).toInt.toNat) (fun i_ => .int (oZI i_)) := f62_10.other W_63 (Ne.symm ne_a_a_55)
  have f64_11 : oA Z h_63 a_61 .int ((16 : Int32).toInt.toNat) (fun i_ => .int (oZI i_)) := A_61.other W_63 (Ne.symm ne_a_a_61)
  refine ow_retV X_63 rfl d1_80 (by decide) (by decide) ?_
  exact ⟨rfl, a_27, a_31, a_35, a_39, a_43, a_47, a_51, a_55, a_61, f64_1, (List.nodup_cons.mpr ⟨(ninS ne_a_a_27 (ninS ne_a_a_31 (ninS ne_a_a_35 (ninS ne_a_a_39 (ninS ne_a_a_43 (ninS ne_a_a_47 (ninS ne_a_a_51 (ninS ne_a_a_55 (ninS ne_a_a_61 nin0))))))))), (List.nodup_cons.mpr ⟨(ninS ne_a_27_a_31 (ninS ne_a_27_a_35 (ninS ne_a_27_a_39 (ninS ne_a_27_a_43 (ninS ne_a_27_a_47 (ninS ne_a_27_a_51 (ninS ne_a_27_a_55 (ninS ne_a_27_a_61 nin0)))))))), (List.nodup_cons.mpr ⟨(ninS ne_a_31_a_35 (ninS ne_a_31_a_39 (ninS ne_a_31_a_43 (ninS ne_a_31_a_47 (ninS ne_a_31_a_51 (ninS ne_a_31_a_55 (ninS ne_a_31_a_61 nin0))))))), (List.nodup_cons.mpr ⟨(ninS ne_a_35_a_39 (ninS ne_a_35_a_43 (ninS ne_a_35_a_47 (ninS ne_a_35_a_51 (ninS ne_a_35_a_55 (ninS ne_a_35_a_61 nin0)))))), (List.nodup_cons.mpr ⟨(ninS ne_a_39_a_43 (ninS ne_a_39_a_47 (ninS ne_a_39_a_51 (ninS ne_a_39_a_55 (ninS ne_a_39_a_61 nin0))))), (List.nodup_cons.mpr ⟨(ninS ne_a_43_a_47 (ninS ne_a_43_a_51 (ninS ne_a_43_a_55 (ninS ne_a_43_a_61 nin0)))), (List.nodup_cons.mpr ⟨(ninS ne_a_47_a_51 (ninS ne_a_47_a_55 (ninS ne_a_47_a_61 nin0))), (List.nodup_cons.mpr ⟨(ninS ne_a_51_a_55 (ninS ne_a_51_a_61 nin0)), (List.nodup_cons.mpr ⟨(ninS ne_a_55_a_61 nin0), (List.nodup_cons.mpr ⟨nin0, List.nodup_nil⟩)⟩)⟩)⟩)⟩)⟩)⟩)⟩)⟩)⟩), (allS ga (allS g_27 (allS g_31 (allS g_35 (allS g_39 (allS g_43 (allS g_47 (allS g_51 (allS g_55 (allS g_61 all0)))))))))), (allS ge_h_a_27 (allS ge_h_a_31 (allS ge_h_a_35 (allS ge_h_a_39 (allS ge_h_a_43 (allS ge_h_a_47 (allS ge_h_a_51 (allS ge_h_a_55 (allS ge_h_a_61 all0))))))))), f64_0, f64_2, f64_10, f64_11⟩
theorem d7_0 : decode prog_32_method_3_code 0 = .ok (.iconst 0, 1) := by decide +kernel
theorem d7_1 : decode prog_32_method_3_code 1 = .ok (.istore_n 1, 1) := by decide +kernel
theorem d7_2 : decode prog_32_method_3_code 2 = .ok (.iload_n 1, 1) := by decide +kernel
theorem d7_3 : decode prog_32_method_3_code 3 = .ok (.aload_n 0, 1) := by decide +kernel
theorem d7_4 : decode prog_32_method_3_code 4 = .ok (.getfield 58, 3) := by decide +kernel
theorem d7_7 : decode prog_32_method_3_code 7 = .ok (.if_icmp .ge 42, 3) := by decide +kernel
theorem d7_10 : decode prog_32_method_3_code 10 = .ok (.aload_n 0, 1) := by decide +kernel
theorem d7_11 : decode prog_32_method_3_code 11 = .ok (.getfield 39, 3) := by decide +kernel
theorem d7_14 : decode prog_32_method_3_code 14 = .ok (.iload_n 1, 1) := by decide +kernel
theorem d7_15 : decode prog_32_method_3_code 15 = .ok (.iaload, 1) := by decide +kernel
theorem d7_16 : decode prog_32_method_3_code 16 = .ok (.aload_n 0, 1) := by decide +kernel
theorem d7_17 : decode prog_32_method_3_code 17 = .ok (.getfield 51, 3) := by decide +kernel
theorem d7_20 : decode prog_32_method_3_code 20 = .ok (.isub, 1) := by decide +kernel
theorem d7_21 : decode prog_32_method_3_code 21 = .ok (.istore_n 2, 1) := by decide +kernel
theorem d7_22 : decode prog_32_method_3_code 22 = .ok (.aload_n 0, 1) := by decide +kernel
theorem d7_23 : decode prog_32_method_3_code 23 = .ok (.getfield 13, 3) := by decide +kernel
theorem d7_26 : decode prog_32_method_3_code 26 = .ok (.iload_n 2, 1) := by decide +kernel
theorem d7_27 : decode prog_32_method_3_code 27 = .ok (.iconst 0, 1) := by decide +kernel
theorem d7_28 : decode prog_32_method_3_code 28 = .ok (.iastore, 1) := by decide +kernel
theorem d7_29 : decode prog_32_method_3_code 29 = .ok (.aload_n 0, 1) := by decide +kernel
theorem d7_30 : decode prog_32_method_3_code 30 = .ok (.getfield 30, 3) := by decide +kernel
theorem d7_33 : decode prog_32_method_3_code 33 = .ok (.iload_n 2, 1) := by decide +kernel
theorem d7_34 : decode prog_32_method_3_code 34 = .ok (.iconst 0, 1) := by decide +kernel
theorem d7_35 : decode prog_32_method_3_code 35 = .ok (.iastore, 1) := by decide +kernel
theorem d7_36 : decode prog_32_method_3_code 36 = .ok (.aload_n 0, 1) := by decide +kernel
theorem d7_37 : decode prog_32_method_3_code 37 = .ok (.getfield 35, 3) := by decide +kernel
theorem d7_40 : decode prog_32_method_3_code 40 = .ok (.iload_n 2, 1) := by decide +kernel
theorem d7_41 : decode prog_32_method_3_code 41 = .ok (.aconst_null, 1) := by decide +kernel
theorem d7_42 : decode prog_32_method_3_code 42 = .ok (.aastore, 1) := by decide +kernel
theorem d7_43 : decode prog_32_method_3_code 43 = .ok (.iinc 1 1, 3) := by decide +kernel
theorem d7_46 : decode prog_32_method_3_code 46 = .ok (.goto (-44), 3) := by decide +kernel
theorem d7_49 : decode prog_32_method_3_code 49 = .ok (.aload_n 0, 1) := by decide +kernel
theorem d7_50 : decode prog_32_method_3_code 50 = .ok (.iconst 0, 1) := by decide +kernel
theorem d7_51 : decode prog_32_method_3_code 51 = .ok (.putfield 58, 3) := by decide +kernel
theorem d7_54 : decode prog_32_method_3_code 54 = .ok (.aload_n 0, 1) := by decide +kernel
theorem d7_55 : decode prog_32_method_3_code 55 = .ok (.iconst (-1), 1) := by decide +kernel
theorem d7_56 : decode prog_32_method_3_code 56 = .ok (.putfield 7, 3) := by decide +kernel
theorem d7_59 : decode prog_32_method_3_code 59 = .ok (.return_, 1) := by decide +kernel
def k7 : OM := (prog_32_method_3_code, 3, "com/example/tollbook/tollbook/ber/TlvChains", "forget", none, { frames := 0, cells := 0, slots := 0, locals := 0 })
theorem pn7 : plainFor (⟨"com/example/tollbook/tollbook/ber/TlvChains", "forget", "()V"⟩ : MethodName) = true := plainFor_of_name (by first | (simp [plainName, overriddenIn]; done) | decide +kernel)
theorem pd7 : parseMethodDescriptor "()V" = some ⟨[], none⟩ := by decide +kernel
set_option maxRecDepth 65536 in
set_option maxHeartbeats 4000000 in
theorem C_forget0 {Z : State} {ω : OW} {h : Heap} (hw_ : ∀ d ∈ tables_1, d.before ω.2.2 Z = true) (hn_ : ω.2.1 ≤ h.size) (a : Addr) (v_from v_limit v_nexts v_jumps v_depths v_tagClasses v_tagNumbers v_nearest v_failures v_learnt v_soughtClass v_path : Value) (F0 : TC Z h a v_from v_limit v_nexts v_jumps v_depths v_tagClasses v_tagNumbers v_nearest v_failures v_learnt (.int (0 : Int32)) v_soughtClass v_path) (ga : ω.2.1 ≤ a) :
    oC Z ω (⟨"com/example/tollbook/tollbook/ber/TlvChains", "forget", "()V"⟩ : MethodName) k7 [] #[.ref a] h (fun v h' => v = none ∧ Keep h h' [a] ∧ TC Z h' a v_from (.int (-1 : Int32)) v_nexts v_jumps v_depths v_tagClasses v_tagNumbers v_nearest v_failures v_learnt (.int (0 : Int32)) v_soughtClass v_path) := by
  refine oC_of hw_ hn_ pn7 rfl rfl (L := #[.val (.ref a), .unset, .unset]) (fun m => by first | (simp [entryFrame, mkF, argsToLocals, Value.category, k7]; done) | rfl) ?_
  intro γ T X
  refine ow_iconst X 1 (0 : Int32) d7_0 rfl rfl ?_
  refine ow_istoreN X 2 (L' := #[.val (.ref a), .val (.int (0 : Int32)), .unset]) d7_1 rfl rfl ?_
  refine ow_iloadN X 3 d7_2 rfl rfl ?_
  refine ow_aloadN X 4 d7_3 rfl rfl rfl ?_
  refine ow_getF X 7 84 rfl rfl F0.2.2.2.2.2.2.2.2.2.2.2.1 d7_4 rfl ?_
  intro T_65 X_65
  refine ow_icmp_ge X_65 10 49 d7_7 rfl rfl (fun (c7 : 0 ≤ 0) => ?_) (fun (c7 : 0 < 0) => absurd c7 (by decide))
  refine ow_aloadN X_65 50 d7_49 rfl rfl rfl ?_
  refine ow_iconst X_65 51 (0 : Int32) d7_50 rfl rfl ?_
  refine ow_putF X_65 54 84 3 rfl rfl F0.2.2.2.2.2.2.2.2.2.2.2.1 F0.1 (Or.inl (oSt_at X_65 85 rfl)) rfl (ty := .int) (by decide) rfl rfl ga d7_51 rfl ?_
  intro T_66 h_66 X_66 W_66
  have f67_0 : TC Z h_66 a v_from v_limit v_nexts v_jumps v_depths v_tagClasses v_tagNumbers v_nearest v_failures v_learnt (.int (0 : Int32)) v_soughtClass v_path := TC.set_learntCount (oSt_w X_66) F0 W_66
  have f67_1 : Keep h h_66 [a] := (Keep.refl h [a]).wr W_66 (Or.inl (List.mem_of_getElem? (i := 0) rfl))
  refine ow_aloadN X_66 55 d7_54 rfl rfl rfl ?_
  refine ow_iconst X_66 56 (-1 : Int32) d7_55 rfl rfl ?_
  refine ow_putF X_66 59 11 3 rfl rfl f67_0.2.2.1 f67_0.1 (Or.inl (oSt_at X_66 12 rfl)) rfl (ty := .int) (by decide) rfl rfl ga d7_56 rfl ?_
  intro T_68 h_68 X_68 W_68
  have f69_0 : TC Z h_68 a v_from (.int (-1 : Int32)) v_nexts v_jumps v_depths v_tagClasses v_tagNumbers v_nearest v_failures v_learnt (.int (0 : Int32)) v_soughtClass v_path := TC.set_limit (oSt_w X_68) f67_0 W_68
  have f69_1 : Keep h h_68 [a] := f67_1.wr W_68 (Or.inl (List.mem_of_getElem? (i := 0) rfl))
  refine ow_retV X_68 rfl d7_59 (by decide) (by decide) ?_
  exact ⟨rfl, f69_1, f69_0⟩
theorem d8_0 : decode prog_32_method_15_code 0 = .ok (.aload_n 0, 1) := by decide +kernel
theorem d8_1 : decode prog_32_method_15_code 1 = .ok (.iload_n 1, 1) := by decide +kernel
theorem d8_2 : decode prog_32_method_15_code 2 = .ok (.newarray .int, 2) := by decide +kernel
theorem d8_4 : decode prog_32_method_15_code 4 = .ok (.putfield 13, 3) := by decide +kernel
theorem d8_7 : decode prog_32_method_15_code 7 = .ok (.aload_n 0, 1) := by decide +kernel
theorem d8_8 : decode prog_32_method_15_code 8 = .ok (.iload_n 1, 1) := by decide +kernel
theorem d8_9 : decode prog_32_method_15_code 9 = .ok (.newarray .int, 2) := by decide +kernel
theorem d8_11 : decode prog_32_method_15_code 11 = .ok (.putfield 17, 3) := by decide +kernel
theorem d8_14 : decode prog_32_method_15_code 14 = .ok (.aload_n 0, 1) := by decide +kernel
theorem d8_15 : decode prog_32_method_15_code 15 = .ok (.iload_n 1, 1) := by decide +kernel
theorem d8_16 : decode prog_32_method_15_code 16 = .ok (.newarray .int, 2) := by decide +kernel
theorem d8_18 : decode prog_32_method_15_code 18 = .ok (.putfield 20, 3) := by decide +kernel
theorem d8_21 : decode prog_32_method_15_code 21 = .ok (.aload_n 0, 1) := by decide +kernel
theorem d8_22 : decode prog_32_method_15_code 22 = .ok (.iload_n 1, 1) := by decide +kernel
theorem d8_23 : decode prog_32_method_15_code 23 = .ok (.newarray .byte, 2) := by decide +kernel
theorem d8_25 : decode prog_32_method_15_code 25 = .ok (.putfield 23, 3) := by decide +kernel
theorem d8_28 : decode prog_32_method_15_code 28 = .ok (.aload_n 0, 1) := by decide +kernel
theorem d8_29 : decode prog_32_method_15_code 29 = .ok (.iload_n 1, 1) := by decide +kernel
theorem d8_30 : decode prog_32_method_15_code 30 = .ok (.newarray .int, 2) := by decide +kernel
theorem d8_32 : decode prog_32_method_15_code 32 = .ok (.putfield 27, 3) := by decide +kernel
theorem d8_35 : decode prog_32_method_15_code 35 = .ok (.aload_n 0, 1) := by decide +kernel
theorem d8_36 : decode prog_32_method_15_code 36 = .ok (.iload_n 1, 1) := by decide +kernel
theorem d8_37 : decode prog_32_method_15_code 37 = .ok (.newarray .int, 2) := by decide +kernel
theorem d8_39 : decode prog_32_method_15_code 39 = .ok (.putfield 30, 3) := by decide +kernel
theorem d8_42 : decode prog_32_method_15_code 42 = .ok (.aload_n 0, 1) := by decide +kernel
theorem d8_43 : decode prog_32_method_15_code 43 = .ok (.iload_n 1, 1) := by decide +kernel
theorem d8_44 : decode prog_32_method_15_code 44 = .ok (.anewarray 33, 3) := by decide +kernel
theorem d8_47 : decode prog_32_method_15_code 47 = .ok (.putfield 35, 3) := by decide +kernel
theorem d8_50 : decode prog_32_method_15_code 50 = .ok (.return_, 1) := by decide +kernel
def k8 : OM := (prog_32_method_15_code, 2, "com/example/tollbook/tollbook/ber/TlvChains", "allocate", none, { frames := 0, cells := 7, slots := 63, locals := 0 })
theorem pn8 : plainFor (⟨"com/example/tollbook/tollbook/ber/TlvChains", "allocate", "(I)V"⟩ : MethodName) = true := plainFor_of_name (by first | (simp [plainName, overriddenIn]; done) | decide +kernel)
theorem pd8 : parseMethodDescriptor "(I)V" = some ⟨[.int], none⟩ := by decide +kernel
set_option maxRecDepth 65536 in
set_option maxHeartbeats 4000000 in
theorem C_alloc {Z : State} {ω : OW} {h : Heap} (hw_ : ∀ d ∈ tables_1, d.before ω.2.2 Z = true) (hn_ : ω.2.1 ≤ h.size) (a : Addr) (sz : Int32) (v_from v_limit v_nexts v_jumps v_depths v_tagClasses v_tagNumbers v_nearest v_failures v_learnt v_learntCount v_soughtClass v_path : Value) (F0 : TC Z h a v_from v_limit v_nexts v_jumps v_depths v_tagClasses v_tagNumbers v_nearest v_failures v_learnt v_learntCount v_soughtClass v_path) (ga : ω.2.1 ≤ a) (h0 : 0 ≤ sz.toInt) (h1 : sz.toInt ≤ 9) :
    oC Z ω (⟨"com/example/tollbook/tollbook/ber/TlvChains", "allocate", "(I)V"⟩ : MethodName) k8 [] #[.ref a, .int sz] h (fun v h' => v = none ∧ ∃ aN aJ aD aC aT aR aF, Keep h h' [a] ∧ List.Nodup [a, aN, aJ, aD, aC, aT, aR, aF] ∧ (∀ x ∈ [a, aN, aJ, aD, aC, aT, aR, aF], ω.2.1 ≤ x) ∧ (∀ x ∈ [aN, aJ, aD, aC, aT, aR, aF], h.size ≤ x) ∧ TC Z h' a v_from v_limit (.ref aN) (.ref aJ) (.ref aD) (.ref aC) (.ref aT) (.ref aR) (.ref aF) v_learnt v_learntCount v_soughtClass v_path ∧ oA Z h' aN .int sz.toInt.toNat (fun i => .int (oZI i)) ∧ oA Z h' aJ .int sz.toInt.toNat (fun i => .int (oZI i)) ∧ oA Z h' aD .int sz.toInt.toNat (fun i => .int (oZI i)) ∧ oA Z h' aC .byte sz.toInt.toNat (fun i => .int (oZI i)) ∧ oA Z h' aT .int sz.toInt.toNat (fun i => .int (oZI i)) ∧ oA Z h' aR .int sz.toInt.toNat (fun i => .int (oZI i)) ∧ oA Z h' aF (.object "com/example/tollbook/tollbook/ber/BerException") sz.toInt.toNat (fun _ => .null) ∧ oOv Z h' aF "com/example/tollbook/tollbook/ber/BerException") := by
  refine oC_of hw_ hn_ pn8 rfl rfl (L := #[.val (.ref a), .val (.int sz)]) (fun m => by first | (simp [entryFrame, mkF, argsToLocals, Value.category, k8]; done) | rfl) ?_
  intro γ T X
  refine ow_aloadN X 1 d8_0 rfl rfl rfl ?_
  refine ow_iloadN X 2 d8_1 rfl rfl ?_
  refine ow_newP X 4 13 (cap := 9) rfl d8_2 rfl h0 h1 (by decide) (by decide) (by decide) ?_
  intro T_70 h_70 a_70 q_70 X_70 E_70 A_70 g_70
  have ne_a_a_70 : a ≠ a_70 := by rw [q_70]; exact Nat.ne_of_lt F0.lt
  have ge_h_a_70 : h.size ≤ a_70 := by rw [q_70]; exact (Keep.refl h [a]).1
  have f71_0 : TC Z h_70 a v_from v_limit v_nexts v_jumps v_depths v_tagClasses v_tagNumbers v_nearest v_failures v_learnt v_learntCount v_soughtClass v_path := F0.ext E_70
  have f71_1 : Keep h h_70 [a] := (Keep.refl h [a]).ext E_70
  have A_70 : oA Z h_70 a_70 .int sz.toInt.toNat (fun i_ => .int (oZI i_)) := A_70
  refine ow_putF X_70 7 14 3 rfl rfl f71_0.2.2.2.1 f71_0.1 (Or.inl (oSt_at X_70 15 rfl)) rfl (ty := (.array .int)) (by decide) rfl rfl ga d8_4 rfl ?_
  intro T_72 h_72 X_72 W_72
  have f73_0 : TC Z h_72 a v_from v_limit (.ref a_70) v_jumps v_depths v_tagClasses v_tagNumbers v_nearest v_failures v_learnt v_learntCount v_soughtClass v_path := TC.set_nexts (oSt_w X_72) f71_0 W_72
  have f73_1 : Keep h h_72 [a] := f71_1.wr W_72 (Or.inl (List.mem_of_getElem? (i := 0) rfl))
  have f73_2 : oA Z h_72 a_70 .int sz.toInt.toNat (fun i_ => .int (oZI i_)) := A_70.other W_72 (Ne.symm ne_a_a_70)
  refine ow_aloadN X_72 8 d8_7 rfl rfl rfl ?_
  refine ow_iloadN X_72 9 d8_8 rfl rfl ?_
  refine ow_newP X_72 11 13 (cap := 9) rfl d8_9 rfl h0 h1 (by decide) (by decide) (by decide) ?_
  intro T_74 h_74 a_74 q_74 X_74 E_74 A_74 g_74
  have ne_a_a_74 : a ≠ a_74 := by rw [q_74]; exact Nat.ne_of_lt f73_0.lt
  have ge_h_a_74 : h.size ≤ a_74 := by rw [q_74]; exact f73_1.1
  have ne_a_70_a_74 : a_70 ≠ a_74 := by rw [q_74]; exact Nat.ne_of_lt f73_2.lt
  have f75_0 : TC Z h_74 a v_from v_limit (.ref a_70) v_jumps v_depths v_tagClasses v_tagNumbers v_nearest v_failures v_learnt v_learntCount v_soughtClass v_path := f73_0.ext E_74
  have f75_1 : Keep h h_74 [a] := f73_1.ext E_74
  have f75_2 : oA Z h_74 a_70 .int sz.toInt.toNat (fun i_ => .int (oZI i_)) := f73_2.ext E_74
  have A_74 : oA Z h_74 a_74 .int sz.toInt.toNat (fun i_ => .int (oZI i_)) := A_74
  refine ow_putF X_74 14 16 3 rfl rfl f75_0.2.2.2.2.1 f75_0.1 (Or.inl (oSt_at X_74 17 rfl)) rfl (ty := (.array .int)) (by decide) rfl rfl ga d8_11 rfl ?_
  intro T_76 h_76 X_76 W_76
  have f77_0 : TC Z h_76 a v_from v_limit (.ref a_70) (.ref a_74) v_depths v_tagClasses v_tagNumbers v_nearest v_failures v_learnt v_learntCount v_soughtClass v_path := TC.set_jumps (oSt_w X_76) f75_0 W_76
  have f77_1 : Keep h h_76 [a] := f75_1.wr W_76 (Or.inl (List.mem_of_getElem? (i := 0) rfl))
  have f77_2 : oA Z h_76 a_70 .int sz.toInt.toNat (fun i_ => .int (oZI i_)) := f75_2.other W_76 (Ne.symm ne_a_a_70)
  have f77_3 : oA Z h_76 a_74 .int sz.toInt.toNat (fun i_ => .int (oZI i_)) := A_74.other W_76 (Ne.symm ne_a_a_74)
  refine ow_aloadN X_76 15 d8_14 rfl rfl rfl ?_
  refine ow_iloadN X_76 16 d8_15 rfl rfl ?_
  refine ow_newP X_76 18 13 (cap := 9) rfl d8_16 rfl h0 h1 (by decide) (by decide) (by decide) ?_
  intro T_78 h_78 a_78 q_78 X_78 E_78 A_78 g_78
  have ne_a_a_78 : a ≠ a_78 := by rw [q_78]; exact Nat.ne_of_lt f77_0.lt
  have ge_h_a_78 : h.size ≤ a_78 := by rw [q_78]; exact f77_1.1
  have ne_a_70_a_78 : a_70 ≠ a_78 := by rw [q_78]; exact Nat.ne_of_lt f77_2.lt
  have ne_a_74_a_78 : a_74 ≠ a_78 := by rw [q_78]; exact Nat.ne_of_lt f77_3.lt
  have f79_0 : TC Z h_78 a v_from v_limit (.ref a_70) (.ref a_74) v_depths v_tagClasses v_tagNumbers v_nearest v_failures v_learnt v_learntCount v_soughtClass v_path := f77_0.ext E_78
  have f79_1 : Keep h h_78 [a] := f77_1.ext E_78
  have f79_2 : oA Z h_78 a_70 .int sz.toInt.toNat (fun i_ => .int (oZI i_)) := f77_2.ext E_78
  have f79_3 : oA Z h_78 a_74 .int sz.toInt.toNat (fun i_ => .int (oZI i_)) := f77_3.ext E_78
  have A_78 : oA Z h_78 a_78 .int sz.toInt.toNat (fun i_ => .int (oZI i_)) := A_78
  refine ow_putF X_78 21 18 3 rfl rfl f79_0.2.2.2.2.2.1 f79_0.1 (Or.inl (oSt_at X_78 19 rfl)) rfl (ty := (.array .int)) (by decide) rfl rfl ga d8_18 rfl ?_
  intro T_80 h_80 X_80 W_80
  have f81_0 : TC Z h_80 a v_from v_limit (.ref a_70) (.ref a_74) (.ref a_78) v_tagClasses v_tagNumbers v_nearest v_failures v_learnt v_learntCount v_soughtClass v_path := TC.set_depths (oSt_w X_80) f79_0 W_80
  have f81_1 : Keep h h_80 [a] := f79_1.wr W_80 (Or.inl (List.mem_of_getElem? (i := 0) rfl))
  have f81_2 : oA Z h_80 a_70 .int sz.toInt.toNat (fun i_ => .int (oZI i_)) := f79_2.other W_80 (Ne.symm ne_a_a_70)
  have f81_3 : oA Z h_80 a_74 .int sz.toInt.toNat (fun i_ => .int (oZI i_)) := f79_3.other W_80 (Ne.symm ne_a_a_74)
  have f81_4 : oA Z h_80 a_78 .int sz.toInt.toNat (fun i_ => .int (oZI i_)) := A_78.other W_80 (Ne.symm ne_a_a_78)
  refine ow_aloadN X_80 22 d8_21 rfl rfl rfl ?_
  refine ow_iloadN X_80 23 d8_22 rfl rfl ?_
  refine ow_newP X_80 25 20 (cap := 9) rfl d8_23 rfl h0 h1 (by decide) (by decide) (by decide) ?_
  intro T_82 h_82 a_82 q_82 X_82 E_82 A_82 g_82
  have ne_a_a_82 : a ≠ a_82 := by rw [q_82]; exact Nat.ne_of_lt f81_0.lt
  have ge_h_a_82 : h.size ≤ a_82 := by rw [q_82]; exact f81_1.1
  have ne_a_70_a_82 : a_70 ≠ a_82 := by rw [q_82]; exact Nat.ne_of_lt f81_2.lt
  have ne_a_74_a_82 : a_74 ≠ a_82 := by rw [q_82]; exact Nat.ne_of_lt f81_3.lt
  have ne_a_78_a_82 : a_78 ≠ a_82 := by rw [q_82]; exact Nat.ne_of_lt f81_4.lt
  have f83_0 : TC Z h_82 a v_from v_limit (.ref a_70) (.ref a_74) (.ref a_78) v_tagClasses v_tagNumbers v_nearest v_failures v_learnt v_learntCount v_soughtClass v_path := f81_0.ext E_82
  have f83_1 : Keep h h_82 [a] := f81_1.ext E_82
  have f83_2 : oA Z h_82 a_70 .int sz.toInt.toNat (fun i_ => .int (oZI i_)) := f81_2.ext E_82
  have f83_3 : oA Z h_82 a_74 .int sz.toInt.toNat (fun i_ => .int (oZI i_)) := f81_3.ext E_82
  have f83_4 : oA Z h_82 a_78 .int sz.toInt.toNat (fun i_ => .int (oZI i_)) := f81_4.ext E_82
  have A_82 : oA Z h_82 a_82 .byte sz.toInt.toNat (fun i_ => .int (oZI i_)) := A_82
  refine ow_putF X_82 28 21 3 rfl rfl f83_0.2.2.2.2.2.2.1 f83_0.1 (Or.inl (oSt_at X_82 22 rfl)) rfl (ty := (.array .byte)) (by decide) rfl rfl ga d8_25 rfl ?_
  intro T_84 h_84 X_84 W_84
  have f85_0 : TC Z h_84 a v_from v_limit (.ref a_70) (.ref a_74) (.ref a_78) (.ref a_82) v_tagNumbers v_nearest v_failures v_learnt v_learntCount v_soughtClass v_path := TC.set_tagClasses (oSt_w X_84) f83_0 W_84
  have f85_1 : Keep h h_84 [a] := f83_1.wr W_84 (Or.inl (List.mem_of_getElem? (i := 0) rfl))
  have f85_2 : oA Z h_84 a_70 .int sz.toInt.toNat (fun i_ => .int (oZI i_)) := f83_2.other W_84 (Ne.symm ne_a_a_70)
  have f85_3 : oA Z h_84 a_74 .int sz.toInt.toNat (fun i_ => .int (oZI i_)) := f83_3.other W_84 (Ne.symm ne_a_a_74)
  have f85_4 : oA Z h_84 a_78 .int sz.toInt.toNat (fun i_ => .int (oZI i_)) := f83_4.other W_84 (Ne.symm ne_a_a_78)
  have f85_5 : oA Z h_84 a_82 .byte sz.toInt.toNat (fun i_ => .int (oZI i_)) := A_82.other W_84 (Ne.symm ne_a_a_82)
  refine ow_aloadN X_84 29 d8_28 rfl rfl rfl ?_
  refine ow_iloadN X_84 30 d8_29 rfl rfl ?_
  refine ow_newP X_84 32 13 (cap := 9) rfl d8_30 rfl h0 h1 (by decide) (by decide) (by decide) ?_
  intro T_86 h_86 a_86 q_86 X_86 E_86 A_86 g_86
  have ne_a_a_86 : a ≠ a_86 := by rw [q_86]; exact Nat.ne_of_lt f85_0.lt
  have ge_h_a_86 : h.size ≤ a_86 := by rw [q_86]; exact f85_1.1
  have ne_a_70_a_86 : a_70 ≠ a_86 := by rw [q_86]; exact Nat.ne_of_lt f85_2.lt
  have ne_a_74_a_86 : a_74 ≠ a_86 := by rw [q_86]; exact Nat.ne_of_lt f85_3.lt
  have ne_a_78_a_86 : a_78 ≠ a_86 := by rw [q_86]; exact Nat.ne_of_lt f85_4.lt
  have ne_a_82_a_86 : a_82 ≠ a_86 := by rw [q_86]; exact Nat.ne_of_lt f85_5.lt
  have f87_0 : TC Z h_86 a v_from v_limit (.ref a_70) (.ref a_74) (.ref a_78) (.ref a_82) v_tagNumbers v_nearest v_failures v_learnt v_learntCount v_soughtClass v_path := f85_0.ext E_86
  have f87_1 : Keep h h_86 [a] := f85_1.ext E_86
  have f87_2 : oA Z h_86 a_70 .int sz.toInt.toNat (fun i_ => .int (oZI i_)) := f85_2.ext E_86
  have f87_3 : oA Z h_86 a_74 .int sz.toInt.toNat (fun i_ => .int (oZI i_)) := f85_3.ext E_86
  have f87_4 : oA Z h_86 a_78 .int sz.toInt.toNat (fun i_ => .int (oZI i_)) := f85_4.ext E_86
  have f87_5 : oA Z h_86 a_82 .byte sz.toInt.toNat (fun i_ => .int (oZI i_)) := f85_5.ext E_86
  have A_86 : oA Z h_86 a_86 .int sz.toInt.toNat (fun i_ => .int (oZI i_)) := A_86
  refine ow_putF X_86 35 23 3 rfl rfl f87_0.2.2.2.2.2.2.2.1 f87_0.1 (Or.inl (oSt_at X_86 24 rfl)) rfl (ty := (.array .int)) (by decide) rfl rfl ga d8_32 rfl ?_
  intro T_88 h_88 X_88 W_88
  have f89_0 : TC Z h_88 a v_from v_limit (.ref a_70) (.ref a_74) (.ref a_78) (.ref a_82) (.ref a_86) v_nearest v_failures v_learnt v_learntCount v_soughtClass v_path := TC.set_tagNumbers (oSt_w X_88) f87_0 W_88
  have f89_1 : Keep h h_88 [a] := f87_1.wr W_88 (Or.inl (List.mem_of_getElem? (i := 0) rfl))
  have f89_2 : oA Z h_88 a_70 .int sz.toInt.toNat (fun i_ => .int (oZI i_)) := f87_2.other W_88 (Ne.symm ne_a_a_70)
  have f89_3 : oA Z h_88 a_74 .int sz.toInt.toNat (fun i_ => .int (oZI i_)) := f87_3.other W_88 (Ne.symm ne_a_a_74)
  have f89_4 : oA Z h_88 a_78 .int sz.toInt.toNat (fun i_ => .int (oZI i_)) := f87_4.other W_88 (Ne.symm ne_a_a_78)
  have f89_5 : oA Z h_88 a_82 .byte sz.toInt.toNat (fun i_ => .int (oZI i_)) := f87_5.other W_88 (Ne.symm ne_a_a_82)
  have f89_6 : oA Z h_88 a_86 .int sz.toInt.toNat (fun i_ => .int (oZI i_)) := A_86.other W_88 (Ne.symm ne_a_a_86)
  refine ow_aloadN X_88 36 d8_35 rfl rfl rfl ?_
  refine ow_iloadN X_88 37 d8_36 rfl rfl ?_
  refine ow_newP X_88 39 13 (cap := 9) rfl d8_37 rfl h0 h1 (by decide) (by decide) (by decide) ?_
  intro T_90 h_90 a_90 q_90 X_90 E_90 A_90 g_90
  have ne_a_a_90 : a ≠ a_90 := by rw [q_90]; exact Nat.ne_of_lt f89_0.lt
  have ge_h_a_90 : h.size ≤ a_90 := by rw [q_90]; exact f89_1.1
  have ne_a_70_a_90 : a_70 ≠ a_90 := by rw [q_90]; exact Nat.ne_of_lt f89_2.lt
  have ne_a_74_a_90 : a_74 ≠ a_90 := by rw [q_90]; exact Nat.ne_of_lt f89_3.lt
  have ne_a_78_a_90 : a_78 ≠ a_90 := by rw [q_90]; exact Nat.ne_of_lt f89_4.lt
  have ne_a_82_a_90 : a_82 ≠ a_90 := by rw [q_90]; exact Nat.ne_of_lt f89_5.lt
  have ne_a_86_a_90 : a_86 ≠ a_90 := by rw [q_90]; exact Nat.ne_of_lt f89_6.lt
  have f91_0 : TC Z h_90 a v_from v_limit (.ref a_70) (.ref a_74) (.ref a_78) (.ref a_82) (.ref a_86) v_nearest v_failures v_learnt v_learntCount v_soughtClass v_path := f89_0.ext E_90
  have f91_1 : Keep h h_90 [a] := f89_1.ext E_90
  have f91_2 : oA Z h_90 a_70 .int sz.toInt.toNat (fun i_ => .int (oZI i_)) := f89_2.ext E_90
  have f91_3 : oA Z h_90 a_74 .int sz.toInt.toNat (fun i_ => .int (oZI i_)) := f89_3.ext E_90
  have f91_4 : oA Z h_90 a_78 .int sz.toInt.toNat (fun i_ => .int (oZI i_)) := f89_4.ext E_90
  have f91_5 : oA Z h_90 a_82 .byte sz.toInt.toNat (fun i_ => .int (oZI i_)) := f89_5.ext E_90
  have f91_6 : oA Z h_90 a_86 .int sz.toInt.toNat (fun i_ => .int (oZI i_)) := f89_6.ext E_90
  have A_90 : oA Z h_90 a_90 .int sz.toInt.toNat (fun i_ => .int (oZI i_)) := A_90
  refine ow_putF X_90 42 25 3 rfl rfl f91_0.2.2.2.2.2.2.2.2.1 f91_0.1 (Or.inl (oSt_at X_90 26 rfl)) rfl (ty := (.array .int)) (by decide) rfl rfl ga d8_39 rfl ?_
  intro T_92 h_92 X_92 W_92
  have f93_0 : TC Z h_92 a v_from v_limit (.ref a_70) (.ref a_74) (.ref a_78) (.ref a_82) (.ref a_86) (.ref a_90) v_failures v_learnt v_learntCount v_soughtClass v_path := TC.set_nearest (oSt_w X_92) f91_0 W_92
  have f93_1 : Keep h h_92 [a] := f91_1.wr W_92 (Or.inl (List.mem_of_getElem? (i := 0) rfl))
  have f93_2 : oA Z h_92 a_70 .int sz.toInt.toNat (fun i_ => .int (oZI i_)) := f91_2.other W_92 (Ne.symm ne_a_a_70)
  have f93_3 : oA Z h_92 a_74 .int sz.toInt.toNat (fun i_ => .int (oZI i_)) := f91_3.other W_92 (Ne.symm ne_a_a_74)
  have f93_4 : oA Z h_92 a_78 .int sz.toInt.toNat (fun i_ => .int (oZI i_)) := f91_4.other W_92 (Ne.symm ne_a_a_78)
  have f93_5 : oA Z h_92 a_82 .byte sz.toInt.toNat (fun i_ => .int (oZI i_)) := f91_5.other W_92 (Ne.symm ne_a_a_82)
  have f93_6 : oA Z h_92 a_86 .int sz.toInt.toNat (fun i_ => .int (oZI i_)) := f91_6.other W_92 (Ne.symm ne_a_a_86)
  have f93_7 : oA Z h_92 a_90 .int sz.toInt.toNat (fun i_ => .int (oZI i_)) := A_90.other W_92 (Ne.symm ne_a_a_90)
  refine ow_aloadN X_92 43 d8_42 rfl rfl rfl ?_
  refine ow_iloadN X_92 44 d8_43 rfl rfl ?_
  refine ow_newR X_92 47 27 28 (cap := 9) rfl rfl rfl d8_44 rfl h0 h1 (by decide) (by decide) (by decide) ?_
  intro T_94 h_94 a_94 q_94 X_94 E_94 A_94 O_94 g_94
  have ne_a_a_94 : a ≠ a_94 := by rw [q_94]; exact Nat.ne_of_lt f93_0.lt
  have ge_h_a_94 : h.size ≤ a_94 := by rw [q_94]; exact f93_1.1
  have ne_a_70_a_94 : a_70 ≠ a_94 := by rw [q_94]; exact Nat.ne_of_lt f93_2.lt
  have ne_a_74_a_94 : a_74 ≠ a_94 := by rw [q_94]; exact Nat.ne_of_lt f93_3.lt
  have ne_a_78_a_94 : a_78 ≠ a_94 := by rw [q_94]; exact Nat.ne_of_lt f93_4.lt
  have ne_a_82_a_94 : a_82 ≠ a_94 := by rw [q_94]; exact Nat.ne_of_lt f93_5.lt
  have ne_a_86_a_94 : a_86 ≠ a_94 := by rw [q_94]; exact Nat.ne_of_lt f93_6.lt
  have ne_a_90_a_94 : a_90 ≠ a_94 := by rw [q_94]; exact Nat.ne_of_lt f93_7.lt
  have f95_0 : TC Z h_94 a v_from v_limit (.ref a_70) (.ref a_74) (.ref a_78) (.ref a_82) (.ref a_86) (.ref a_90) v_failures v_learnt v_learntCount v_soughtClass v_path := f93_0.ext E_94
  have f95_1 : Keep h h_94 [a] := f93_1.ext E_94
  have f95_2 : oA Z h_94 a_70 .int sz.toInt.toNat (fun i_ => .int (oZI i_)) := f93_2.ext E_94
  have f95_3 : oA Z h_94 a_74 .int sz.toInt.toNat (fun i_ => .int (oZI i_)) := f93_3.ext E_94
  have f95_4 : oA Z h_94 a_78 .int sz.toInt.toNat (fun i_ => .int (oZI i_)) := f93_4.ext E_94
  have f95_5 : oA Z h_94 a_82 .byte sz.toInt.toNat (fun i_ => .int (oZI i_)) := f93_5.ext E_94
  have f95_6 : oA Z h_94 a_86 .int sz.toInt.toNat (fun i_ => .int (oZI i_)) := f93_6.ext E_94
  have f95_7 : oA Z h_94 a_90 .int sz.toInt.toNat (fun i_ => .int (oZI i_)) := f93_7.ext E_94
  refine ow_putF X_94 50 29 3 rfl rfl f95_0.2.2.2.2.2.2.2.2.2.1 f95_0.1 (Or.inl (oSt_at X_94 30 rfl)) rfl (ty := (.array (.object "com/example/tollbook/tollbook/ber/BerException"))) (by decide) rfl rfl ga d8_47 rfl ?_
  intro T_96 h_96 X_96 W_96
  have f97_0 : TC Z h_96 a v_from v_limit (.ref a_70) (.ref a_74) (.ref a_78) (.ref a_82) (.ref a_86) (.ref a_90) (.ref a_94) v_learnt v_learntCount v_soughtClass v_path := TC.set_failures (oSt_w X_96) f95_0 W_96
  have f97_1 : Keep h h_96 [a] := f95_1.wr W_96 (Or.inl (List.mem_of_getElem? (i := 0) rfl))
  have f97_2 : oA Z h_96 a_70 .int sz.toInt.toNat (fun i_ => .int (oZI i_)) := f95_2.other W_96 (Ne.symm ne_a_a_70)
  have f97_3 : oA Z h_96 a_74 .int sz.toInt.toNat (fun i_ => .int (oZI i_)) := f95_3.other W_96 (Ne.symm ne_a_a_74)
  have f97_4 : oA Z h_96 a_78 .int sz.toInt.toNat (fun i_ => .int (oZI i_)) := f95_4.other W_96 (Ne.symm ne_a_a_78)
  have f97_5 : oA Z h_96 a_82 .byte sz.toInt.toNat (fun i_ => .int (oZI i_)) := f95_5.other W_96 (Ne.symm ne_a_a_82)
  have f97_6 : oA Z h_96 a_86 .int sz.toInt.toNat (fun i_ => .int (oZI i_)) := f95_6.other W_96 (Ne.symm ne_a_a_86)
  have f97_7 : oA Z h_96 a_90 .int sz.toInt.toNat (fun i_ => .int (oZI i_)) := f95_7.other W_96 (Ne.symm ne_a_a_90)
  have f97_8 : oA Z h_96 a_94 (.object "com/example/tollbook/tollbook/ber/BerException") sz.toInt.toNat (fun _ => .null) := A_94.other W_96 (Ne.symm ne_a_a_94)
  have f97_9 : oOv Z h_96 a_94 "com/example/tollbook/tollbook/ber/BerException" := O_94.wr W_96
  refine ow_retV X_96 rfl d8_50 (by decide) (by decide) ?_
  exact ⟨rfl, a_70, a_74, a_78, a_82, a_86, a_90, a_94, f97_1, (List.nodup_cons.mpr ⟨(ninS ne_a_a_70 (ninS ne_a_a_74 (ninS ne_a_a_78 (ninS ne_a_a_82 (ninS ne_a_a_86 (ninS ne_a_a_90 (ninS ne_a_a_94 nin0))))))), (List.nodup_cons.mpr ⟨(ninS ne_a_70_a_74 (ninS ne_a_70_a_78 (ninS ne_a_70_a_82 (ninS ne_a_70_a_86 (ninS ne_a_70_a_90 (ninS ne_a_70_a_94 nin0)))))), (List.nodup_cons.mpr ⟨(ninS ne_a_74_a_78 (ninS ne_a_74_a_82 (ninS ne_a_74_a_86 (ninS ne_a_74_a_90 (ninS ne_a_74_a_94 nin0))))), (List.nodup_cons.mpr ⟨(ninS ne_a_78_a_82 (ninS ne_a_78_a_86 (ninS ne_a_78_a_90 (ninS ne_a_78_a_94 nin0)))), (List.nodup_cons.mpr ⟨(ninS ne_a_82_a_86 (ninS ne_a_82_a_90 (ninS ne_a_82_a_94 nin0))), (List.nodup_cons.mpr ⟨(ninS ne_a_86_a_90 (ninS ne_a_86_a_94 nin0)), (List.nodup_cons.mpr ⟨(ninS ne_a_90_a_94 nin0), (List.nodup_cons.mpr ⟨nin0, List.nodup_nil⟩)⟩)⟩)⟩)⟩)⟩)⟩)⟩), (allS ga (allS g_70 (allS g_74 (allS g_78 (allS g_82 (allS g_86 (allS g_90 (allS g_94 all0)))))))), (allS ge_h_a_70 (allS ge_h_a_74 (allS ge_h_a_78 (allS ge_h_a_82 (allS ge_h_a_86 (allS ge_h_a_90 (allS ge_h_a_94 all0))))))), f97_0, f97_2, f97_3, f97_4, f97_5, f97_6, f97_7, f97_8, f97_9⟩
theorem d6_0 : decode prog_32_method_2_code 0 = .ok (.aload_n 0, 1) := by decide +kernel
theorem d6_1 : decode prog_32_method_2_code 1 = .ok (.invokevirtual 48, 3) := by decide +kernel
theorem d6_4 : decode prog_32_method_2_code 4 = .ok (.aload_n 0, 1) := by decide +kernel
theorem d6_5 : decode prog_32_method_2_code 5 = .ok (.iload_n 1, 1) := by decide +kernel
theorem d6_6 : decode prog_32_method_2_code 6 = .ok (.putfield 51, 3) := by decide +kernel
theorem d6_9 : decode prog_32_method_2_code 9 = .ok (.aload_n 0, 1) := by decide +kernel
theorem d6_10 : decode prog_32_method_2_code 10 = .ok (.iload_n 2, 1) := by decide +kernel
theorem d6_11 : decode prog_32_method_2_code 11 = .ok (.putfield 7, 3) := by decide +kernel
theorem d6_14 : decode prog_32_method_2_code 14 = .ok (.aload_n 0, 1) := by decide +kernel
theorem d6_15 : decode prog_32_method_2_code 15 = .ok (.getfield 13, 3) := by decide +kernel
theorem d6_18 : decode prog_32_method_2_code 18 = .ok (.arraylength, 1) := by decide +kernel
theorem d6_19 : decode prog_32_method_2_code 19 = .ok (.iload_n 2, 1) := by decide +kernel
theorem d6_20 : decode prog_32_method_2_code 20 = .ok (.iload_n 1, 1) := by decide +kernel
theorem d6_21 : decode prog_32_method_2_code 21 = .ok (.isub, 1) := by decide +kernel
theorem d6_22 : decode prog_32_method_2_code 22 = .ok (.iconst 1, 1) := by decide +kernel
theorem d6_23 : decode prog_32_method_2_code 23 = .ok (.iadd, 1) := by decide +kernel
theorem d6_24 : decode prog_32_method_2_code 24 = .ok (.if_icmp .ge 12, 3) := by decide +kernel
theorem d6_27 : decode prog_32_method_2_code 27 = .ok (.aload_n 0, 1) := by decide +kernel
theorem d6_28 : decode prog_32_method_2_code 28 = .ok (.iload_n 2, 1) := by decide +kernel
theorem d6_29 : decode prog_32_method_2_code 29 = .ok (.iload_n 1, 1) := by decide +kernel
theorem d6_30 : decode prog_32_method_2_code 30 = .ok (.isub, 1) := by decide +kernel
theorem d6_31 : decode prog_32_method_2_code 31 = .ok (.iconst 1, 1) := by decide +kernel
theorem d6_32 : decode prog_32_method_2_code 32 = .ok (.iadd, 1) := by decide +kernel
theorem d6_33 : decode prog_32_method_2_code 33 = .ok (.invokevirtual 54, 3) := by decide +kernel
theorem d6_36 : decode prog_32_method_2_code 36 = .ok (.return_, 1) := by decide +kernel
def k6 : OM := (prog_32_method_2_code, 3, "com/example/tollbook/tollbook/ber/TlvChains", "reset", none, { frames := 1, cells := 7, slots := 63, locals := 14 })
theorem pn6 : plainFor (⟨"com/example/tollbook/tollbook/ber/TlvChains", "reset", "(II)V"⟩ : MethodName) = true := plainFor_of_name (by first | (simp [plainName, overriddenIn]; done) | decide +kernel)
theorem pd6 : parseMethodDescriptor "(II)V" = some ⟨[.int, .int], none⟩ := by decide +kernel
set_option maxRecDepth 65536 in
set_option maxHeartbeats 4000000 in
theorem C_reset {Z : State} {ω : OW} {h : Heap} (hw_ : ∀ d ∈ tables_1, d.before ω.2.2 Z = true) (hn_ : ω.2.1 ≤ h.size) (a aN0 : Addr) (fr lim sz : Int32) (v_from v_limit v_jumps v_depths v_tagClasses v_tagNumbers v_nearest v_failures v_learnt v_soughtClass v_path : Value) (F0 : TC Z h a v_from v_limit (.ref aN0) v_jumps v_depths v_tagClasses v_tagNumbers v_nearest v_failures v_learnt (.int (0 : Int32)) v_soughtClass v_path) (A0 : oA Z h aN0 .int 0 (fun i_ => .int (oZI i_))) (ga : ω.2.1 ≤ a) (ne : a ≠ aN0) (hz : lim - fr + (1 : Int32) = sz) (h0 : 0 < sz.toInt) (h1 : sz.toInt ≤ 9) :
    oC Z ω (⟨"com/example/tollbook/tollbook/ber/TlvChains", "reset", "(II)V"⟩ : MethodName) k6 [] #[.ref a, .int fr, .int lim] h (fun v h' => v = none ∧ ∃ aN aJ aD aC aT aR aF, Keep h h' [a] ∧ List.Nodup [a, aN, aJ, aD, aC, aT, aR, aF] ∧ (∀ x ∈ [a, aN, aJ, aD, aC, aT, aR, aF], ω.2.1 ≤ x) ∧ (∀ x ∈ [aN, aJ, aD, aC, aT, aR, aF], h.size ≤ x) ∧ TC Z h' a (.int fr) (.int lim) (.ref aN) (.ref aJ) (.ref aD) (.ref aC) (.ref aT) (.ref aR) (.ref aF) v_learnt (.int (0 : Int32)) v_soughtClass v_path ∧ oA Z h' aN .int sz.toInt.toNat (fun i => .int (oZI i)) ∧ oA Z h' aJ .int sz.toInt.toNat (fun i => .int (oZI i)) ∧ oA Z h' aD .int sz.toInt.toNat (fun i => .int (oZI i)) ∧ oA Z h' aC .byte sz.toInt.toNat (fun i => .int (oZI i)) ∧ oA Z h' aT .int sz.toInt.toNat (fun i => .int (oZI i)) ∧ oA Z h' aR .int sz.toInt.toNat (fun i => .int (oZI i)) ∧ oA Z h' aF (.object "com/example/tollbook/tollbook/ber/BerException") sz.toInt.toNat (fun _ => .null) ∧ oOv Z h' aF "com/example/tollbook/tollbook/ber/BerException") := by
  refine oC_of hw_ hn_ pn6 rfl rfl (L := #[.val (.ref a), .val (.int fr), .val (.int lim)]) (fun m => by first | (simp [entryFrame, mkF, argsToLocals, Value.category, k6]; done) | rfl) ?_
  intro γ T X
  refine ow_aloadN X 1 d6_0 rfl rfl rfl ?_
  refine ow_callV X 4 79 80 82 81 83 4 (κ' := k7) (as := []) (S := []) (W := 0) rfl rfl rfl rfl rfl rfl rfl (by decide) F0.1 (C_forget0 (oSt_w X) (oSt_n0 X) a _ _ _ _ _ _ _ _ _ _ _ _ F0 ga) (by decide) (by decide) (Nat.le_of_eq rfl) (by decide) (by decide) pd7 rfl rfl rfl d6_1 rfl ?_
  intro γ v_98 T_98 h_98 X_98 q_98
  obtain ⟨rfl, K98, R98⟩ := q_98
  have f99_1 : oA Z h_98 aN0 .int 0 (fun i_ => .int (oZI i_)) := A0.keep K98 (ninS (Ne.symm ne) nin0)
  have f99_2 : Keep h h_98 [a] := (Keep.refl h [a]).trans K98 (allS (Or.inl (List.mem_of_getElem? (i := 0) rfl)) all0)
  show oWP ω γ k6 _ T_98 4 #[.val (.ref a), .val (.int fr), .val (.int lim)] []
  refine ow_aloadN X_98 5 d6_4 rfl rfl rfl ?_
  refine ow_iloadN X_98 6 d6_5 rfl rfl ?_
  refine ow_putF X_98 9 86 3 rfl rfl R98.2.1 R98.1 (Or.inl (oSt_at X_98 87 rfl)) rfl (ty := .int) (by decide) rfl rfl ga d6_6 rfl ?_
  intro T_100 h_100 X_100 W_100
  have f101_0 : oA Z h_100 aN0 .int 0 (fun i_ => .int (oZI i_)) := f99_1.other W_100 (Ne.symm ne)
  have f101_1 : Keep h h_100 [a] := f99_2.wr W_100 (Or.inl (List.mem_of_getElem? (i := 0) rfl))
  have f101_2 : TC Z h_100 a (.int fr) (.int (-1 : Int32)) (.ref aN0) v_jumps v_depths v_tagClasses v_tagNumbers v_nearest v_failures v_learnt (.int (0 : Int32)) v_soughtClass v_path := TC.set_from (oSt_w X_100) R98 W_100
  refine ow_aloadN X_100 10 d6_9 rfl rfl rfl ?_
  refine ow_iloadN X_100 11 d6_10 rfl rfl ?_
  refine ow_putF X_100 14 11 3 rfl rfl f101_2.2.2.1 f101_2.1 (Or.inl (oSt_at X_100 12 rfl)) rfl (ty := .int) (by decide) rfl rfl ga d6_11 rfl ?_
  intro T_102 h_102 X_102 W_102
  have f103_0 : oA Z h_102 aN0 .int 0 (fun i_ => .int (oZI i_)) := f101_0.other W_102 (Ne.symm ne)
  have f103_1 : Keep h h_102 [a] := f101_1.wr W_102 (Or.inl (List.mem_of_getElem? (i := 0) rfl))
  have f103_2 : TC Z h_102 a (.int fr) (.int lim) (.ref aN0) v_jumps v_depths v_tagClasses v_tagNumbers v_nearest v_failures v_learnt (.int (0 : Int32)) v_soughtClass v_path := TC.set_limit (oSt_w X_102) f101_2 W_102
  refine ow_aloadN X_102 15 d6_14 rfl rfl rfl ?_
  refine ow_getF X_102 18 14 rfl rfl f103_2.2.2.2.1 d6_15 rfl ?_
  intro T_104 X_104
  refine ow_alen X_104 19 (v := 0) f103_0 d6_18 rfl rfl ?_
  refine ow_iloadN X_104 20 d6_19 rfl rfl ?_
  refine ow_iloadN X_104 21 d6_20 rfl rfl ?_
  refine ow_isub X_104 22 d6_21 rfl ?_
  refine ow_iconst X_104 23 (1 : Int32) d6_22 rfl rfl ?_
  refine ow_iadd X_104 24 d6_23 rfl ?_
  rw [hz]
  refine ow_icmp_ge X_104 27 36 d6_24 rfl rfl (fun (c24 : sz.toInt ≤ 0) => absurd c24 (by omega)) (fun (c24 : 0 < sz.toInt) => ?_)
  refine ow_aloadN X_104 28 d6_27 rfl rfl rfl ?_
  refine ow_iloadN X_104 29 d6_28 rfl rfl ?_
  refine ow_iloadN X_104 30 d6_29 rfl rfl ?_
  refine ow_isub X_104 31 d6_30 rfl ?_
  refine ow_iconst X_104 32 (1 : Int32) d6_31 rfl rfl ?_
  refine ow_iadd X_104 33 d6_32 rfl ?_
  rw [hz]
  refine ow_callP X_104 36 88 89 90 4 91 3 (κ' := k8) (as := [.int sz]) (S := []) (W := 0) rfl rfl rfl rfl rfl rfl rfl (by decide) f103_2.1 (C_alloc (oSt_w X_104) (oSt_n0 X_104) a sz _ _ _ _ _ _ _ _ _ _ _ _ _ f103_2 ga (by omega) (by omega)) (by decide) (by decide) (Nat.le_of_eq rfl) (by decide) (by decide) pd8 rfl rfl rfl d6_33 rfl ?_
  intro γ v_105 T_105 h_105 X_105 q_105
  obtain ⟨rfl, aN, aJ, aD, aC, aT, aR, aF, K105, nd105, gs105, fr105, R105, Fs105⟩ := q_105
  have f106_0 : oA Z h_105 aN0 .int 0 (fun i_ => .int (oZI i_)) := f103_0.keep K105 (ninS (Ne.symm ne) nin0)
  have f106_1 : Keep h h_105 [a] := f103_1.trans K105 (allS (Or.inl (List.mem_of_getElem? (i := 0) rfl)) all0)
  show oWP ω γ k6 _ T_105 36 #[.val (.ref a), .val (.int fr), .val (.int lim)] []
  refine ow_retV X_105 rfl d6_36 (by decide) (by decide) ?_
  exact ⟨rfl, aN, aJ, aD, aC, aT, aR, aF, f106_1, nd105, gs105, (fun x hx => Nat.le_trans f103_1.1 (fr105 x hx)), R105, Fs105⟩
theorem d10_0 : decode prog_32_method_14_code 0 = .ok (.aload_n 0, 1) := by decide +kernel
theorem d10_1 : decode prog_32_method_14_code 1 = .ok (.getfield 58, 3) := by decide +kernel
theorem d10_4 : decode prog_32_method_14_code 4 = .ok (.aload_n 0, 1) := by decide +kernel
theorem d10_5 : decode prog_32_method_14_code 5 = .ok (.getfield 39, 3) := by decide +kernel
theorem d10_8 : decode prog_32_method_14_code 8 = .ok (.arraylength, 1) := by decide +kernel
theorem d10_9 : decode prog_32_method_14_code 9 = .ok (.if_icmp .ne 20, 3) := by decide +kernel
theorem d10_12 : decode prog_32_method_14_code 12 = .ok (.aload_n 0, 1) := by decide +kernel
theorem d10_13 : decode prog_32_method_14_code 13 = .ok (.aload_n 0, 1) := by decide +kernel
theorem d10_14 : decode prog_32_method_14_code 14 = .ok (.getfield 39, 3) := by decide +kernel
theorem d10_17 : decode prog_32_method_14_code 17 = .ok (.iconst 2, 1) := by decide +kernel
theorem d10_18 : decode prog_32_method_14_code 18 = .ok (.aload_n 0, 1) := by decide +kernel
theorem d10_19 : decode prog_32_method_14_code 19 = .ok (.getfield 58, 3) := by decide +kernel
theorem d10_22 : decode prog_32_method_14_code 22 = .ok (.imul, 1) := by decide +kernel
theorem d10_23 : decode prog_32_method_14_code 23 = .ok (.invokestatic 75, 3) := by decide +kernel
theorem d10_26 : decode prog_32_method_14_code 26 = .ok (.putfield 39, 3) := by decide +kernel
theorem d10_29 : decode prog_32_method_14_code 29 = .ok (.aload_n 0, 1) := by decide +kernel
theorem d10_30 : decode prog_32_method_14_code 30 = .ok (.getfield 39, 3) := by decide +kernel
theorem d10_33 : decode prog_32_method_14_code 33 = .ok (.aload_n 0, 1) := by decide +kernel
theorem d10_34 : decode prog_32_method_14_code 34 = .ok (.dup, 1) := by decide +kernel
theorem d10_35 : decode prog_32_method_14_code 35 = .ok (.getfield 58, 3) := by decide +kernel
theorem d10_38 : decode prog_32_method_14_code 38 = .ok (.dup_x1, 1) := by decide +kernel
theorem d10_39 : decode prog_32_method_14_code 39 = .ok (.iconst 1, 1) := by decide +kernel
theorem d10_40 : decode prog_32_method_14_code 40 = .ok (.iadd, 1) := by decide +kernel
theorem d10_41 : decode prog_32_method_14_code 41 = .ok (.putfield 58, 3) := by decide +kernel
theorem d10_44 : decode prog_32_method_14_code 44 = .ok (.iload_n 1, 1) := by decide +kernel
theorem d10_45 : decode prog_32_method_14_code 45 = .ok (.iastore, 1) := by decide +kernel
theorem d10_46 : decode prog_32_method_14_code 46 = .ok (.iload_n 1, 1) := by decide +kernel
theorem d10_47 : decode prog_32_method_14_code 47 = .ok (.aload_n 0, 1) := by decide +kernel
theorem d10_48 : decode prog_32_method_14_code 48 = .ok (.getfield 51, 3) := by decide +kernel
theorem d10_51 : decode prog_32_method_14_code 51 = .ok (.isub, 1) := by decide +kernel
theorem d10_52 : decode prog_32_method_14_code 52 = .ok (.ireturn, 1) := by decide +kernel
def k10 : OM := (prog_32_method_14_code, 2, "com/example/tollbook/tollbook/ber/TlvChains", "learn", (some .int), { frames := 0, cells := 0, slots := 0, locals := 0 })
theorem pn10 : plainFor (⟨"com/example/tollbook/tollbook/ber/TlvChains", "learn", "(I)I"⟩ : MethodName) = true := plainFor_of_name (by first | (simp [plainName, overriddenIn]; done) | decide +kernel)
theorem pd10 : parseMethodDescriptor "(I)I" = some ⟨[.int], (some .int)⟩ := by decide +kernel
set_option maxRecDepth 65536 in
set_option maxHeartbeats 4000000 in
theorem C_learn {Z : State} {ω : OW} {h : Heap} (hw_ : ∀ d ∈ tables_1, d.before ω.2.2 Z = true) (hn_ : ω.2.1 ≤ h.size) (a aL : Addr) (st fr lc : Int32) (G : Nat → Int32) (v_limit v_nexts v_jumps v_depths v_tagClasses v_tagNumbers v_nearest v_failures v_soughtClass v_path : Value) (F0 : TC Z h a (.int fr) v_limit v_nexts v_jumps v_depths v_tagClasses v_tagNumbers v_nearest v_failures (.ref aL) (.int lc) v_soughtClass v_path) (A0 : oA Z h aL .int 16 (fun i_ => .int (G i_))) (ga : ω.2.1 ≤ a) (gl : ω.2.1 ≤ aL) (ne : a ≠ aL) (h0 : 0 ≤ lc.toInt) (h1 : lc.toInt < 16) :
    oC Z ω (⟨"com/example/tollbook/tollbook/ber/TlvChains", "learn", "(I)I"⟩ : MethodName) k10 [] #[.ref a, .int st] h (fun v h' => v = some (.int (st - fr)) ∧ Keep h h' [a, aL] ∧ TC Z h' a (.int fr) v_limit v_nexts v_jumps v_depths v_tagClasses v_tagNumbers v_nearest v_failures (.ref aL) (.int (lc + (1 : Int32))) v_soughtClass v_path ∧ oA Z h' aL .int 16 (fun i => .int (oUpd G lc.toInt.toNat st i))) := by
  refine oC_of hw_ hn_ pn10 rfl rfl (L := #[.val (.ref a), .val (.int st)]) (fun m => by first | (simp [entryFrame, mkF, argsToLocals, Value.category, k10]; done) | rfl) ?_
  intro γ T X
  refine ow_aloadN X 1 d10_0 rfl rfl rfl ?_
  refine ow_getF X 4 84 rfl rfl F0.2.2.2.2.2.2.2.2.2.2.2.1 d10_1 rfl ?_
  intro T_107 X_107
  refine ow_aloadN X_107 5 d10_4 rfl rfl rfl ?_
  refine ow_getF X_107 8 31 rfl rfl F0.2.2.2.2.2.2.2.2.2.2.1 d10_5 rfl ?_
  intro T_108 X_108
  refine ow_alen X_108 9 (v := 16) A0 d10_8 rfl rfl ?_
  refine ow_icmp_ne X_108 12 29 d10_9 rfl rfl (fun (c9 : lc.toInt ≠ 16) => ?_) (fun (c9 : lc.toInt = 16) => by exfalso; omega)
  refine ow_aloadN X_108 30 d10_29 rfl rfl rfl ?_
  refine ow_getF X_108 33 31 rfl rfl F0.2.2.2.2.2.2.2.2.2.2.1 d10_30 rfl ?_
  intro T_109 X_109
  refine ow_aloadN X_109 34 d10_33 rfl rfl rfl ?_
  refine ow_dup X_109 35 d10_34 rfl rfl ?_
  refine ow_getF X_109 38 84 rfl rfl F0.2.2.2.2.2.2.2.2.2.2.2.1 d10_35 rfl ?_
  intro T_110 X_110
  refine ow_dupX1 X_110 39 d10_38 rfl rfl rfl ?_
  refine ow_iconst X_110 40 (1 : Int32) d10_39 rfl rfl ?_
  refine ow_iadd X_110 41 d10_40 rfl ?_
  refine ow_putF X_110 44 84 3 rfl rfl F0.2.2.2.2.2.2.2.2.2.2.2.1 F0.1 (Or.inl (oSt_at X_110 85 rfl)) rfl (ty := .int) (by decide) rfl rfl ga d10_41 rfl ?_
  intro T_111 h_111 X_111 W_111
  have f112_0 : TC Z h_111 a (.int fr) v_limit v_nexts v_jumps v_depths v_tagClasses v_tagNumbers v_nearest v_failures (.ref aL) (.int (lc + (1 : Int32))) v_soughtClass v_path := TC.set_learntCount (oSt_w X_111) F0 W_111
  have f112_1 : oA Z h_111 aL .int 16 (fun i_ => .int (G i_)) := A0.other W_111 (Ne.symm ne)
  have f112_2 : Keep h h_111 [a, aL] := (Keep.refl h [a, aL]).wr W_111 (Or.inl (List.mem_of_getElem? (i := 0) rfl))
  refine ow_iloadN X_111 45 d10_44 rfl rfl ?_
  refine ow_iastore X_111 46 f112_1 gl d10_45 rfl h0 (by omega) ?_
  intro T_113 h_113 X_113 W_113
  have f114_0 : TC Z h_113 a (.int fr) v_limit v_nexts v_jumps v_depths v_tagClasses v_tagNumbers v_nearest v_failures (.ref aL) (.int (lc + (1 : Int32))) v_soughtClass v_path := f112_0.other W_113 ne
  have f114_1 : oA Z h_113 aL .int 16 (fun i_ => .int ((oUpd G lc.toInt.toNat st) i_)) := f112_1.setI W_113
  have f114_2 : Keep h h_113 [a, aL] := f112_2.wr W_113 (Or.inl (List.mem_of_getElem? (i := 1) rfl))
  refine ow_iloadN X_113 47 d10_46 rfl rfl ?_
  refine ow_aloadN X_113 48 d10_47 rfl rfl rfl ?_
  refine ow_getF X_113 51 86 rfl rfl f114_0.2.1 d10_48 rfl ?_
  intro T_115 X_115
  refine ow_isub X_115 52 d10_51 rfl ?_
  refine ow_retI X_115 rfl d10_52 (by decide) (by decide) ?_
  exact ⟨rfl, f114_2, f114_0, f114_1⟩
theorem d9_0 : decode prog_32_method_7_code 0 = .ok (.aload_n 0, 1) := by decide +kernel
theorem d9_1 : decode prog_32_method_7_code 1 = .ok (.iload_n 1, 1) := by decide +kernel
theorem d9_2 : decode prog_32_method_7_code 2 = .ok (.invokevirtual 61, 3) := by decide +kernel
theorem d9_5 : decode prog_32_method_7_code 5 = .ok (.istore_n 3, 1) := by decide +kernel
theorem d9_6 : decode prog_32_method_7_code 6 = .ok (.aload_n 0, 1) := by decide +kernel
theorem d9_7 : decode prog_32_method_7_code 7 = .ok (.getfield 13, 3) := by decide +kernel
theorem d9_10 : decode prog_32_method_7_code 10 = .ok (.iload_n 3, 1) := by decide +kernel
theorem d9_11 : decode prog_32_method_7_code 11 = .ok (.iconst (-1), 1) := by decide +kernel
theorem d9_12 : decode prog_32_method_7_code 12 = .ok (.iastore, 1) := by decide +kernel
theorem d9_13 : decode prog_32_method_7_code 13 = .ok (.aload_n 0, 1) := by decide +kernel
theorem d9_14 : decode prog_32_method_7_code 14 = .ok (.getfield 17, 3) := by decide +kernel
theorem d9_17 : decode prog_32_method_7_code 17 = .ok (.iload_n 3, 1) := by decide +kernel
theorem d9_18 : decode prog_32_method_7_code 18 = .ok (.iload_n 1, 1) := by decide +kernel
theorem d9_19 : decode prog_32_method_7_code 19 = .ok (.iastore, 1) := by decide +kernel
theorem d9_20 : decode prog_32_method_7_code 20 = .ok (.aload_n 0, 1) := by decide +kernel
theorem d9_21 : decode prog_32_method_7_code 21 = .ok (.getfield 20, 3) := by decide +kernel
theorem d9_24 : decode prog_32_method_7_code 24 = .ok (.iload_n 3, 1) := by decide +kernel
theorem d9_25 : decode prog_32_method_7_code 25 = .ok (.iconst 0, 1) := by decide +kernel
theorem d9_26 : decode prog_32_method_7_code 26 = .ok (.iastore, 1) := by decide +kernel
theorem d9_27 : decode prog_32_method_7_code 27 = .ok (.aload_n 0, 1) := by decide +kernel
theorem d9_28 : decode prog_32_method_7_code 28 = .ok (.getfield 35, 3) := by decide +kernel
theorem d9_31 : decode prog_32_method_7_code 31 = .ok (.iload_n 3, 1) := by decide +kernel
theorem d9_32 : decode prog_32_method_7_code 32 = .ok (.aload_n 2, 1) := by decide +kernel
theorem d9_33 : decode prog_32_method_7_code 33 = .ok (.aastore, 1) := by decide +kernel
theorem d9_34 : decode prog_32_method_7_code 34 = .ok (.return_, 1) := by decide +kernel
def k9 : OM := (prog_32_method_7_code, 4, "com/example/tollbook/tollbook/ber/TlvChains", "stops", none, { frames := 1, cells := 0, slots := 0, locals := 14 })
theorem pn9 : plainFor (⟨"com/example/tollbook/tollbook/ber/TlvChains", "stops", "(ILcom/example/tollbook/tollbook/ber/BerException;)V"⟩ : MethodName) = true := plainFor_of_name (by first | (simp [plainName, overriddenIn]; done) | decide +kernel)
theorem pd9 : parseMethodDescriptor "(ILcom/example/tollbook/tollbook/ber/BerException;)V" = some ⟨[.int, (.object "com/example/tollbook/tollbook/ber/BerException")], none⟩ := by decide +kernel
set_option maxRecDepth 65536 in
set_option maxHeartbeats 4000000 in
theorem C_stops {Z : State} {ω : OW} {h : Heap} (hw_ : ∀ d ∈ tables_1, d.before ω.2.2 Z = true) (hn_ : ω.2.1 ≤ h.size) (a aL aN aJ aD aF x : Addr) (st fr lc : Int32) (n : Nat) (N J D G : Nat → Int32) (Fv : Nat → Value) (v_limit v_tagClasses v_tagNumbers v_nearest v_soughtClass v_path : Value) (F0 : TC Z h a (.int fr) v_limit (.ref aN) (.ref aJ) (.ref aD) v_tagClasses v_tagNumbers v_nearest (.ref aF) (.ref aL) (.int lc) v_soughtClass v_path) (AaN : oA Z h aN .int n (fun i_ => .int (N i_))) (AaJ : oA Z h aJ .int n (fun i_ => .int (J i_))) (AaD : oA Z h aD .int n (fun i_ => .int (D i_))) (AaF : oA Z h aF (.object "com/example/tollbook/tollbook/ber/BerException") n Fv) (AaL : oA Z h aL .int 16 (fun i_ => .int (G i_))) (Ex : Exa Z h x "com/example/tollbook/tollbook/ber/BerException") (Ov : oOv Z h aF "com/example/tollbook/tollbook/ber/BerException") (nd : List.Nodup [a, aL, aN, aJ, aD, aF]) (gs : ∀ x ∈ [a, aL, aN, aJ, aD, aF], ω.2.1 ≤ x) (h0 : 0 ≤ lc.toInt) (h1 : lc.toInt < 16) (hx0 : 0 ≤ (st - fr).toInt) (hx1 : (st - fr).toInt < n) :
    oC Z ω (⟨"com/example/tollbook/tollbook/ber/TlvChains", "stops", "(ILcom/example/tollbook/tollbook/ber/BerException;)V"⟩ : MethodName) k9 [] #[.ref a, .int st, .ref x] h (fun v h' => v = none ∧ Keep h h' [a, aL, aN, aJ, aD, aF] ∧ TC Z h' a (.int fr) v_limit (.ref aN) (.ref aJ) (.ref aD) v_tagClasses v_tagNumbers v_nearest (.ref aF) (.ref aL) (.int (lc + (1 : Int32))) v_soughtClass v_path ∧ oA Z h' aN .int n (fun i => .int (oUpd N (st - fr).toInt.toNat (-1 : Int32) i)) ∧ oA Z h' aJ .int n (fun i => .int (oUpd J (st - fr).toInt.toNat st i)) ∧ oA Z h' aD .int n (fun i => .int (oUpd D (st - fr).toInt.toNat (0 : Int32) i)) ∧ oA Z h' aL .int 16 (fun i => .int (oUpd G lc.toInt.toNat st i))) := by
  refine oC_of hw_ hn_ pn9 rfl rfl (L := #[.val (.ref a), .val (.int st), .val (.ref x), .unset]) (fun m => by first | (simp [entryFrame, mkF, argsToLocals, Value.category, k9]; done) | rfl) ?_
  intro γ T X
  refine ow_aloadN X 1 d9_0 rfl rfl rfl ?_
  refine ow_iloadN X 2 d9_1 rfl rfl ?_
  refine ow_callP X 5 97 98 99 4 100 3 (κ' := k10) (as := [.int st]) (S := []) (W := 0) rfl rfl rfl rfl rfl rfl rfl (by decide) F0.1 (C_learn (oSt_w X) (oSt_n0 X) a aL st fr lc G _ _ _ _ _ _ _ _ _ _ F0 AaL (gs _ (List.mem_of_getElem? (i := 0) rfl)) (gs _ (List.mem_of_getElem? (i := 1) rfl)) (oNd nd 0 1 (by decide) rfl rfl) h0 h1) (by decide) (by decide) (Nat.le_of_eq rfl) (by decide) (by decide) pd10 rfl rfl rfl d9_2 rfl ?_
  intro γ v_116 T_116 h_116 X_116 q_116
  obtain ⟨rfl, K116, R116, AL116⟩ := q_116
  have f117_1 : oA Z h_116 aN .int n (fun i_ => .int (N i_)) := AaN.keep K116 (ninS (oNd nd 2 0 (by decide) rfl rfl) (ninS (oNd nd 2 1 (by decide) rfl rfl) nin0))
  have f117_2 : oA Z h_116 aJ .int n (fun i_ => .int (J i_)) := AaJ.keep K116 (ninS (oNd nd 3 0 (by decide) rfl rfl) (ninS (oNd nd 3 1 (by decide) rfl rfl) nin0))
  have f117_3 : oA Z h_116 aD .int n (fun i_ => .int (D i_)) := AaD.keep K116 (ninS (oNd nd 4 0 (by decide) rfl rfl) (ninS (oNd nd 4 1 (by decide) rfl rfl) nin0))
  have f117_4 : oA Z h_116 aF (.object "com/example/tollbook/tollbook/ber/BerException") n Fv := AaF.keep K116 (ninS (oNd nd 5 0 (by decide) rfl rfl) (ninS (oNd nd 5 1 (by decide) rfl rfl) nin0))
  have f117_6 : Exa Z h_116 x "com/example/tollbook/tollbook/ber/BerException" := Ex.keep K116
  have f117_7 : oOv Z h_116 aF "com/example/tollbook/tollbook/ber/BerException" := Ov.keep K116 (ninS (oNd nd 5 0 (by decide) rfl rfl) (ninS (oNd nd 5 1 (by decide) rfl rfl) nin0))
  have f117_8 : Keep h h_116 [a, aL, aN, aJ, aD, aF] := (Keep.refl h [a, aL, aN, aJ, aD, aF]).trans K116 (allS (Or.inl (List.mem_of_getElem? (i := 0) rfl)) (allS (Or.inl (List.mem_of_getElem? (i := 1) rfl)) all0))
  show oWP ω γ k9 _ T_116 5 #[.val (.ref a), .val (.int st), .val (.ref x), .unset] [.int (st - fr)]
  refine ow_istoreN X_116 6 (L' := #[.val (.ref a), .val (.int st), .val (.ref x), .val (.int (st - fr))]) d9_5 rfl rfl ?_
  refine ow_aloadN X_116 7 d9_6 rfl rfl rfl ?_
  refine ow_getF X_116 10 14 rfl rfl R116.2.2.2.1 d9_7 rfl ?_
  intro T_118 X_118
  refine ow_iloadN X_118 11 d9_10 rfl rfl ?_
  refine ow_iconst X_118 12 (-1 : Int32) d9_11 rfl rfl ?_
  refine ow_iastore X_118 13 f117_1 (gs _ (List.mem_of_getElem? (i := 2) rfl)) d9_12 rfl hx0 (by omega) ?_
  intro T_119 h_119 X_119 W_119
  have f120_0 : oA Z h_119 aN .int n (fun i_ => .int ((oUpd N ((st - fr).toInt.toNat) (-1 : Int32)) i_)) := f117_1.setI W_119
  have f120_1 : oA Z h_119 aJ .int n (fun i_ => .int (J i_)) := f117_2.other W_119 (oNd nd 3 2 (by decide) rfl rfl)
  have f120_2 : oA Z h_119 aD .int n (fun i_ => .int (D i_)) := f117_3.other W_119 (oNd nd 4 2 (by decide) rfl rfl)
  have f120_3 : oA Z h_119 aF (.object "com/example/tollbook/tollbook/ber/BerException") n Fv := f117_4.other W_119 (oNd nd 5 2 (by decide) rfl rfl)
  have f120_4 : Exa Z h_119 x "com/example/tollbook/tollbook/ber/BerException" := f117_6.wr W_119
  have f120_5 : oOv Z h_119 aF "com/example/tollbook/tollbook/ber/BerException" := f117_7.wr W_119
  have f120_6 : Keep h h_119 [a, aL, aN, aJ, aD, aF] := f117_8.wr W_119 (Or.inl (List.mem_of_getElem? (i := 2) rfl))
  have f120_7 : TC Z h_119 a (.int fr) v_limit (.ref aN) (.ref aJ) (.ref aD) v_tagClasses v_tagNumbers v_nearest (.ref aF) (.ref aL) (.int (lc + (1 : Int32))) v_soughtClass v_path := R116.other W_119 (oNd nd 0 2 (by decide) rfl rfl)
  have f120_8 : oA Z h_119 aL .int 16 (fun i_ => .int ((oUpd G lc.toInt.toNat st) i_)) := AL116.other W_119 (oNd nd 1 2 (by decide) rfl rfl)
  refine ow_aloadN X_119 14 d9_13 rfl rfl rfl ?_
  refine ow_getF X_119 17 16 rfl rfl f120_7.2.2.2.2.1 d9_14 rfl ?_
  intro T_121 X_121
  refine ow_iloadN X_121 18 d9_17 rfl rfl ?_
  refine ow_iloadN X_121 19 d9_18 rfl rfl ?_
  refine ow_iastore X_121 20 f120_1 (gs _ (List.mem_of_getElem? (i := 3) rfl)) d9_19 rfl hx0 (by omega) ?_
  intro T_122 h_122 X_122 W_122
  have f123_0 : oA Z h_122 aN .int n (fun i_ => .int ((oUpd N ((st - fr).toInt.toNat) (-1 : Int32)) i_)) := f120_0.other W_122 (oNd nd 2 3 (by decide) rfl rfl)
  have f123_1 : oA Z h_122 aJ .int n (fun i_ => .int ((oUpd J ((st - fr).toInt.toNat) st) i_)) := f120_1.setI W_122
  have f123_2 : oA Z h_122 aD .int n (fun i_ => .int (D i_)) := f120_2.other W_122 (oNd nd 4 3 (by decide) rfl rfl)
  have f123_3 : oA Z h_122 aF (.object "com/example/tollbook/tollbook/ber/BerException") n Fv := f120_3.other W_122 (oNd nd 5 3 (by decide) rfl rfl)
  have f123_4 : Exa Z h_122 x "com/example/tollbook/tollbook/ber/BerException" := f120_4.wr W_122
  have f123_5 : oOv Z h_122 aF "com/example/tollbook/tollbook/ber/BerException" := f120_5.wr W_122
  have f123_6 : Keep h h_122 [a, aL, aN, aJ, aD, aF] := f120_6.wr W_122 (Or.inl (List.mem_of_getElem? (i := 3) rfl))
  have f123_7 : TC Z h_122 a (.int fr) v_limit (.ref aN) (.ref aJ) (.ref aD) v_tagClasses v_tagNumbers v_nearest (.ref aF) (.ref aL) (.int (lc + (1 : Int32))) v_soughtClass v_path := f120_7.other W_122 (oNd nd 0 3 (by decide) rfl rfl)
  have f123_8 : oA Z h_122 aL .int 16 (fun i_ => .int ((oUpd G lc.toInt.toNat st) i_)) := f120_8.other W_122 (oNd nd 1 3 (by decide) rfl rfl)
  refine ow_aloadN X_122 21 d9_20 rfl rfl rfl ?_
  refine ow_getF X_122 24 18 rfl rfl f123_7.2.2.2.2.2.1 d9_21 rfl ?_
  intro T_124 X_124
  refine ow_iloadN X_124 25 d9_24 rfl rfl ?_
  refine ow_iconst X_124 26 (0 : Int32) d9_25 rfl rfl ?_
  refine ow_iastore X_124 27 f123_2 (gs _ (List.mem_of_getElem? (i := 4) rfl)) d9_26 rfl hx0 (by omega) ?_
  intro T_125 h_125 X_125 W_125
  have f126_0 : oA Z h_125 aN .int n (fun i_ => .int ((oUpd N ((st - fr).toInt.toNat) (-1 : Int32)) i_)) := f123_0.other W_125 (oNd nd 2 4 (by decide) rfl rfl)
  have f126_1 : oA Z h_125 aJ .int n (fun i_ => .int ((oUpd J ((st - fr).toInt.toNat) st) i_)) := f123_1.other W_125 (oNd nd 3 4 (by decide) rfl rfl)
  have f126_2 : oA Z h_125 aD .int n (fun i_ => .int ((oUpd D ((st - fr).toInt.toNat) (0 : Int32)) i_)) := f123_2.setI W_125
  have f126_3 : oA Z h_125 aF (.object "com/example/tollbook/tollbook/ber/BerException") n Fv := f123_3.other W_125 (oNd nd 5 4 (by decide) rfl rfl)
  have f126_4 : Exa Z h_125 x "com/example/tollbook/tollbook/ber/BerException" := f123_4.wr W_125
  have f126_5 : oOv Z h_125 aF "com/example/tollbook/tollbook/ber/BerException" := f123_5.wr W_125
  have f126_6 : Keep h h_125 [a, aL, aN, aJ, aD, aF] := f123_6.wr W_125 (Or.inl (List.mem_of_getElem? (i := 4) rfl))
  have f126_7 : TC Z h_125 a (.int fr) v_limit (.ref aN) (.ref aJ) (.ref aD) v_tagClasses v_tagNumbers v_nearest (.ref aF) (.ref aL) (.int (lc + (1 : Int32))) v_soughtClass v_path := f123_7.other W_125 (oNd nd 0 4 (by decide) rfl rfl)
  have f126_8 : oA Z h_125 aL .int 16 (fun i_ => .int ((oUpd G lc.toInt.toNat st) i_)) := f123_8.other W_125 (oNd nd 1 4 (by decide) rfl rfl)
  refine ow_aloadN X_125 28 d9_27 rfl rfl rfl ?_
  refine ow_getF X_125 31 29 rfl rfl f126_7.2.2.2.2.2.2.2.2.2.1 d9_28 rfl ?_
  intro T_127 X_127
  refine ow_iloadN X_127 32 d9_31 rfl rfl ?_
  refine ow_aloadN X_127 33 d9_32 rfl rfl rfl ?_
  refine ow_aastore X_127 34 f126_3 rfl (f126_5.sto (Ins.self f126_4)) (gs _ (List.mem_of_getElem? (i := 5) rfl)) d9_33 rfl hx0 (by omega) ?_
  intro T_128 h_128 X_128 W_128
  have f129_0 : oA Z h_128 aN .int n (fun i_ => .int ((oUpd N ((st - fr).toInt.toNat) (-1 : Int32)) i_)) := f126_0.other W_128 (oNd nd 2 5 (by decide) rfl rfl)
  have f129_1 : oA Z h_128 aJ .int n (fun i_ => .int ((oUpd J ((st - fr).toInt.toNat) st) i_)) := f126_1.other W_128 (oNd nd 3 5 (by decide) rfl rfl)
  have f129_2 : oA Z h_128 aD .int n (fun i_ => .int ((oUpd D ((st - fr).toInt.toNat) (0 : Int32)) i_)) := f126_2.other W_128 (oNd nd 4 5 (by decide) rfl rfl)
  have f129_3 : oA Z h_128 aF (.object "com/example/tollbook/tollbook/ber/BerException") n (fun i => if i = (st - fr).toInt.toNat then .ref x else Fv i) := f126_3.set W_128
  have f129_4 : Exa Z h_128 x "com/example/tollbook/tollbook/ber/BerException" := f126_4.wr W_128
  have f129_5 : oOv Z h_128 aF "com/example/tollbook/tollbook/ber/BerException" := f126_5.wr W_128
  have f129_6 : Keep h h_128 [a, aL, aN, aJ, aD, aF] := f126_6.wr W_128 (Or.inl (List.mem_of_getElem? (i := 5) rfl))
  have f129_7 : TC Z h_128 a (.int fr) v_limit (.ref aN) (.ref aJ) (.ref aD) v_tagClasses v_tagNumbers v_nearest (.ref aF) (.ref aL) (.int (lc + (1 : Int32))) v_soughtClass v_path := f126_7.other W_128 (oNd nd 0 5 (by decide) rfl rfl)
  have f129_8 : oA Z h_128 aL .int 16 (fun i_ => .int ((oUpd G lc.toInt.toNat st) i_)) := f126_8.other W_128 (oNd nd 1 5 (by decide) rfl rfl)
  refine ow_retV X_128 rfl d9_34 (by decide) (by decide) ?_
  exact ⟨rfl, f129_6, f129_7, f129_0, f129_1, f129_2, f129_8⟩
theorem d11_0 : decode prog_32_method_6_code 0 = .ok (.iload_n 2, 1) := by decide +kernel
theorem d11_1 : decode prog_32_method_6_code 1 = .ok (.aload_n 0, 1) := by decide +kernel
theorem d11_2 : decode prog_32_method_6_code 2 = .ok (.getfield 51, 3) := by decide +kernel
theorem d11_5 : decode prog_32_method_6_code 5 = .ok (.isub, 1) := by decide +kernel
theorem d11_6 : decode prog_32_method_6_code 6 = .ok (.istore 5, 2) := by decide +kernel
theorem d11_8 : decode prog_32_method_6_code 8 = .ok (.aload_n 0, 1) := by decide +kernel
theorem d11_9 : decode prog_32_method_6_code 9 = .ok (.getfield 17, 3) := by decide +kernel
theorem d11_12 : decode prog_32_method_6_code 12 = .ok (.iload 5, 2) := by decide +kernel
theorem d11_14 : decode prog_32_method_6_code 14 = .ok (.iaload, 1) := by decide +kernel
theorem d11_15 : decode prog_32_method_6_code 15 = .ok (.aload_n 0, 1) := by decide +kernel
theorem d11_16 : decode prog_32_method_6_code 16 = .ok (.getfield 51, 3) := by decide +kernel
theorem d11_19 : decode prog_32_method_6_code 19 = .ok (.isub, 1) := by decide +kernel
theorem d11_20 : decode prog_32_method_6_code 20 = .ok (.istore 6, 2) := by decide +kernel
theorem d11_22 : decode prog_32_method_6_code 22 = .ok (.aload_n 0, 1) := by decide +kernel
theorem d11_23 : decode prog_32_method_6_code 23 = .ok (.getfield 17, 3) := by decide +kernel
theorem d11_26 : decode prog_32_method_6_code 26 = .ok (.iload 6, 2) := by decide +kernel
theorem d11_28 : decode prog_32_method_6_code 28 = .ok (.iaload, 1) := by decide +kernel
theorem d11_29 : decode prog_32_method_6_code 29 = .ok (.aload_n 0, 1) := by decide +kernel
theorem d11_30 : decode prog_32_method_6_code 30 = .ok (.getfield 51, 3) := by decide +kernel
theorem d11_33 : decode prog_32_method_6_code 33 = .ok (.isub, 1) := by decide +kernel
theorem d11_34 : decode prog_32_method_6_code 34 = .ok (.istore 7, 2) := by decide +kernel
theorem d11_36 : decode prog_32_method_6_code 36 = .ok (.aload_n 0, 1) := by decide +kernel
theorem d11_37 : decode prog_32_method_6_code 37 = .ok (.iload_n 1, 1) := by decide +kernel
theorem d11_38 : decode prog_32_method_6_code 38 = .ok (.invokevirtual 61, 3) := by decide +kernel
theorem d11_41 : decode prog_32_method_6_code 41 = .ok (.istore 8, 2) := by decide +kernel
theorem d11_43 : decode prog_32_method_6_code 43 = .ok (.aload_n 0, 1) := by decide +kernel
theorem d11_44 : decode prog_32_method_6_code 44 = .ok (.getfield 13, 3) := by decide +kernel
theorem d11_47 : decode prog_32_method_6_code 47 = .ok (.iload 8, 2) := by decide +kernel
theorem d11_49 : decode prog_32_method_6_code 49 = .ok (.iload_n 2, 1) := by decide +kernel
theorem d11_50 : decode prog_32_method_6_code 50 = .ok (.iastore, 1) := by decide +kernel
theorem d11_51 : decode prog_32_method_6_code 51 = .ok (.aload_n 0, 1) := by decide +kernel
theorem d11_52 : decode prog_32_method_6_code 52 = .ok (.getfield 17, 3) := by decide +kernel
theorem d11_55 : decode prog_32_method_6_code 55 = .ok (.iload 8, 2) := by decide +kernel
theorem d11_57 : decode prog_32_method_6_code 57 = .ok (.aload_n 0, 1) := by decide +kernel
theorem d11_58 : decode prog_32_method_6_code 58 = .ok (.getfield 20, 3) := by decide +kernel
theorem d11_61 : decode prog_32_method_6_code 61 = .ok (.iload 5, 2) := by decide +kernel
theorem d11_63 : decode prog_32_method_6_code 63 = .ok (.iaload, 1) := by decide +kernel
theorem d11_64 : decode prog_32_method_6_code 64 = .ok (.aload_n 0, 1) := by decide +kernel
theorem d11_65 : decode prog_32_method_6_code 65 = .ok (.getfield 20, 3) := by decide +kernel
theorem d11_68 : decode prog_32_method_6_code 68 = .ok (.iload 6, 2) := by decide +kernel
theorem d11_70 : decode prog_32_method_6_code 70 = .ok (.iaload, 1) := by decide +kernel
theorem d11_71 : decode prog_32_method_6_code 71 = .ok (.isub, 1) := by decide +kernel
theorem d11_72 : decode prog_32_method_6_code 72 = .ok (.aload_n 0, 1) := by decide +kernel
theorem d11_73 : decode prog_32_method_6_code 73 = .ok (.getfield 20, 3) := by decide +kernel
theorem d11_76 : decode prog_32_method_6_code 76 = .ok (.iload 6, 2) := by decide +kernel
theorem d11_78 : decode prog_32_method_6_code 78 = .ok (.iaload, 1) := by decide +kernel
theorem d11_79 : decode prog_32_method_6_code 79 = .ok (.aload_n 0, 1) := by decide +kernel
theorem d11_80 : decode prog_32_method_6_code 80 = .ok (.getfield 20, 3) := by decide +kernel
theorem d11_83 : decode prog_32_method_6_code 83 = .ok (.iload 7, 2) := by decide +kernel
theorem d11_85 : decode prog_32_method_6_code 85 = .ok (.iaload, 1) := by decide +kernel
theorem d11_86 : decode prog_32_method_6_code 86 = .ok (.isub, 1) := by decide +kernel
theorem d11_87 : decode prog_32_method_6_code 87 = .ok (.if_icmp .ne 13, 3) := by decide +kernel
theorem d11_90 : decode prog_32_method_6_code 90 = .ok (.aload_n 0, 1) := by decide +kernel
theorem d11_91 : decode prog_32_method_6_code 91 = .ok (.getfield 17, 3) := by decide +kernel
theorem d11_94 : decode prog_32_method_6_code 94 = .ok (.iload 6, 2) := by decide +kernel
theorem d11_96 : decode prog_32_method_6_code 96 = .ok (.iaload, 1) := by decide +kernel
theorem d11_97 : decode prog_32_method_6_code 97 = .ok (.goto 4, 3) := by decide +kernel
theorem d11_100 : decode prog_32_method_6_code 100 = .ok (.iload_n 2, 1) := by decide +kernel
theorem d11_101 : decode prog_32_method_6_code 101 = .ok (.iastore, 1) := by decide +kernel
theorem d11_102 : decode prog_32_method_6_code 102 = .ok (.aload_n 0, 1) := by decide +kernel
theorem d11_103 : decode prog_32_method_6_code 103 = .ok (.getfield 20, 3) := by decide +kernel
theorem d11_106 : decode prog_32_method_6_code 106 = .ok (.iload 8, 2) := by decide +kernel
theorem d11_108 : decode prog_32_method_6_code 108 = .ok (.aload_n 0, 1) := by decide +kernel
theorem d11_109 : decode prog_32_method_6_code 109 = .ok (.getfield 20, 3) := by decide +kernel
theorem d11_112 : decode prog_32_method_6_code 112 = .ok (.iload 5, 2) := by decide +kernel
theorem d11_114 : decode prog_32_method_6_code 114 = .ok (.iaload, 1) := by decide +kernel
theorem d11_115 : decode prog_32_method_6_code 115 = .ok (.iconst 1, 1) := by decide +kernel
theorem d11_116 : decode prog_32_method_6_code 116 = .ok (.iadd, 1) := by decide +kernel
theorem d11_117 : decode prog_32_method_6_code 117 = .ok (.iastore, 1) := by decide +kernel
theorem d11_118 : decode prog_32_method_6_code 118 = .ok (.aload_n 0, 1) := by decide +kernel
theorem d11_119 : decode prog_32_method_6_code 119 = .ok (.getfield 23, 3) := by decide +kernel
theorem d11_122 : decode prog_32_method_6_code 122 = .ok (.iload 8, 2) := by decide +kernel
theorem d11_124 : decode prog_32_method_6_code 124 = .ok (.iload_n 3, 1) := by decide +kernel
theorem d11_125 : decode prog_32_method_6_code 125 = .ok (.i2b, 1) := by decide +kernel
theorem d11_126 : decode prog_32_method_6_code 126 = .ok (.bastore, 1) := by decide +kernel
theorem d11_127 : decode prog_32_method_6_code 127 = .ok (.aload_n 0, 1) := by decide +kernel
theorem d11_128 : decode prog_32_method_6_code 128 = .ok (.getfield 27, 3) := by decide +kernel
theorem d11_131 : decode prog_32_method_6_code 131 = .ok (.iload 8, 2) := by decide +kernel
theorem d11_133 : decode prog_32_method_6_code 133 = .ok (.iload 4, 2) := by decide +kernel
theorem d11_135 : decode prog_32_method_6_code 135 = .ok (.iastore, 1) := by decide +kernel
theorem d11_136 : decode prog_32_method_6_code 136 = .ok (.return_, 1) := by decide +kernel
def k11 : OM := (prog_32_method_6_code, 9, "com/example/tollbook/tollbook/ber/TlvChains", "link", none, { frames := 1, cells := 0, slots := 0, locals := 14 })
theorem pn11 : plainFor (⟨"com/example/tollbook/tollbook/ber/TlvChains", "link", "(IIII)V"⟩ : MethodName) = true := plainFor_of_name (by first | (simp [plainName, overriddenIn]; done) | decide +kernel)
theorem pd11 : parseMethodDescriptor "(IIII)V" = some ⟨[.int, .int, .int, .int], none⟩ := by decide +kernel
set_option maxRecDepth 65536 in
set_option maxHeartbeats 4000000 in
theorem C_link {Z : State} {ω : OW} {h : Heap} (hw_ : ∀ d ∈ tables_1, d.before ω.2.2 Z = true) (hn_ : ω.2.1 ≤ h.size) (a aL aN aJ aD aC aT : Addr) (st nx tc tn fr lc : Int32) (n : Nat) (N J D Cc Tn G : Nat → Int32) (v_limit v_nearest v_failures v_soughtClass v_path : Value) (F0 : TC Z h a (.int fr) v_limit (.ref aN) (.ref aJ) (.ref aD) (.ref aC) (.ref aT) v_nearest v_failures (.ref aL) (.int lc) v_soughtClass v_path) (AaN : oA Z h aN .int n (fun i_ => .int (N i_))) (AaJ : oA Z h aJ .int n (fun i_ => .int (J i_))) (AaD : oA Z h aD .int n (fun i_ => .int (D i_))) (AaC : oA Z h aC .byte n (fun i_ => .int (Cc i_))) (AaT : oA Z h aT .int n (fun i_ => .int (Tn i_))) (AaL : oA Z h aL .int 16 (fun i_ => .int (G i_))) (nd : List.Nodup [a, aL, aN, aJ, aD, aC, aT]) (gs : ∀ x ∈ [a, aL, aN, aJ, aD, aC, aT], ω.2.1 ≤ x) (h0 : 0 ≤ lc.toInt) (h1 : lc.toInt < 16) (hx0 : 0 ≤ (st - fr).toInt) (hx1 : (st - fr).toInt < n) (hp0 : 0 ≤ (nx - fr).toInt) (hp1 : (nx - fr).toInt < n) (hj0 : 0 ≤ (J (nx - fr).toInt.toNat - fr).toInt) (hj1 : (J (nx - fr).toInt.toNat - fr).toInt < n) (hf0 : 0 ≤ (J (J (nx - fr).toInt.toNat - fr).toInt.toNat - fr).toInt) (hf1 : (J (J (nx - fr).toInt.toNat - fr).toInt.toNat - fr).toInt < n) :
    oC Z ω (⟨"com/example/tollbook/tollbook/ber/TlvChains", "link", "(IIII)V"⟩ : MethodName) k11 [] #[.ref a, .int st, .int nx, .int tc, .int tn] h (fun v h' => v = none ∧ Keep h h' [a, aL, aN, aJ, aD, aC, aT] ∧ TC Z h' a (.int fr) v_limit (.ref aN) (.ref aJ) (.ref aD) (.ref aC) (.ref aT) v_nearest v_failures (.ref aL) (.int (lc + (1 : Int32))) v_soughtClass v_path ∧ oA Z h' aN .int n (fun i => .int (oUpd N (st - fr).toInt.toNat nx i)) ∧ (∃ jv : Int32, oA Z h' aJ .int n (fun i => .int (oUpd J (st - fr).toInt.toNat jv i)) ∧ (jv = nx ∨ jv = J (J (nx - fr).toInt.toNat - fr).toInt.toNat)) ∧ (∃ D' : Nat → Int32, oA Z h' aD .int n (fun i => .int (D' i))) ∧ oA Z h' aC .byte n (fun i => .int (oUpd Cc (st - fr).toInt.toNat (tc.toInt8.toInt32.toInt8.toInt32) i)) ∧ oA Z h' aT .int n (fun i => .int (oUpd Tn (st - fr).toInt.toNat tn i)) ∧ oA Z h' aL .int 16 (fun i => .int (oUpd G lc.toInt.toNat st i))) := by
  refine oC_of hw_ hn_ pn11 rfl rfl (L := #[.val (.ref a), .val (.int st), .val (.int nx), .val (.int tc), .val (.int tn), .unset, .unset, .unset, .unset]) (fun m => by first | (simp [entryFrame, mkF, argsToLocals, Value.category, k11]; done) | rfl) ?_
  intro γ T X
  refine ow_iloadN X 1 d11_0 rfl rfl ?_
  refine ow_aloadN X 2 d11_1 rfl rfl rfl ?_
  refine ow_getF X 5 86 rfl rfl F0.2.1 d11_2 rfl ?_
  intro T_130 X_130
  refine ow_isub X_130 6 d11_5 rfl ?_
  refine ow_istore X_130 8 (L' := #[.val (.ref a), .val (.int st), .val (.int nx), .val (.int tc), .val (.int tn), .val (.int (nx - fr)), .unset, .unset, .unset]) d11_6 rfl rfl ?_
  refine ow_aloadN X_130 9 d11_8 rfl rfl rfl ?_
  refine ow_getF X_130 12 16 rfl rfl F0.2.2.2.2.1 d11_9 rfl ?_
  intro T_131 X_131
  refine ow_iload X_131 14 d11_12 rfl rfl ?_
  refine ow_iaload X_131 15 AaJ d11_14 rfl hp0 (by omega) rfl ?_
  refine ow_aloadN X_131 16 d11_15 rfl rfl rfl ?_
  refine ow_getF X_131 19 86 rfl rfl F0.2.1 d11_16 rfl ?_
  intro T_132 X_132
  refine ow_isub X_132 20 d11_19 rfl ?_
  refine ow_istore X_132 22 (L' := #[.val (.ref a), .val (.int st), .val (.int nx), .val (.int tc), .val (.int tn), .val (.int (nx - fr)), .val (.int ((J (nx - fr).toInt.toNat) - fr)), .unset, .unset]) d11_20 rfl rfl ?_
  refine ow_aloadN X_132 23 d11_22 rfl rfl rfl ?_
  refine ow_getF X_132 26 16 rfl rfl F0.2.2.2.2.1 d11_23 rfl ?_
  intro T_133 X_133
  refine ow_iload X_133 28 d11_26 rfl rfl ?_
  refine ow_iaload X_133 29 AaJ d11_28 rfl hj0 (by omega) rfl ?_
  refine ow_aloadN X_133 30 d11_29 rfl rfl rfl ?_
  refine ow_getF X_133 33 86 rfl rfl F0.2.1 d11_30 rfl ?_
  intro T_134 X_134
  refine ow_isub X_134 34 d11_33 rfl ?_
  refine ow_istore X_134 36 (L' := #[.val (.ref a), .val (.int st), .val (.int nx), .val (.int tc), .val (.int tn), .val (.int (nx - fr)), .val (.int ((J (nx - fr).toInt.toNat) - fr)), .val (.int ((J ((J (nx - fr).toInt.toNat) - fr).toInt.toNat) - fr)), .unset]) d11_34 rfl rfl ?_
  refine ow_aloadN X_134 37 d11_36 rfl rfl rfl ?_
  refine ow_iloadN X_134 38 d11_37 rfl rfl ?_
  refine ow_callP X_134 41 97 98 99 4 100 3 (κ' := k10) (as := [.int st]) (S := []) (W := 0) rfl rfl rfl rfl rfl rfl rfl (by decide) F0.1 (C_learn (oSt_w X_134) (oSt_n0 X_134) a aL st fr lc G _ _ _ _ _ _ _ _ _ _ F0 AaL (gs _ (List.mem_of_getElem? (i := 0) rfl)) (gs _ (List.mem_of_getElem? (i := 1) rfl)) (oNd nd 0 1 (by decide) rfl rfl) h0 h1) (by decide) (by decide) (Nat.le_of_eq rfl) (by decide) (by decide) pd10 rfl rfl rfl d11_38 rfl ?_
  intro γ v_135 T_135 h_135 X_135 q_135
  obtain ⟨rfl, K135, R135, AL135⟩ := q_135
  have f136_1 : oA Z h_135 aN .int n (fun i_ => .int (N i_)) := AaN.keep K135 (ninS (oNd nd 2 0 (by decide) rfl rfl) (ninS (oNd nd 2 1 (by decide) rfl rfl) nin0))
  have f136_2 : oA Z h_135 aJ .int n (fun i_ => .int (J i_)) := AaJ.keep K135 (ninS (oNd nd 3 0 (by decide) rfl rfl) (ninS (oNd nd 3 1 (by decide) rfl rfl) nin0))
  have f136_3 : oA Z h_135 aD .int n (fun i_ => .int (D i_)) := AaD.keep K135 (ninS (oNd nd 4 0 (by decide) rfl rfl) (ninS (oNd nd 4 1 (by decide) rfl rfl) nin0))
  have f136_4 : oA Z h_135 aC .byte n (fun i_ => .int (Cc i_)) := AaC.keep K135 (ninS (oNd nd 5 0 (by decide) rfl rfl) (ninS (oNd nd 5 1 (by decide) rfl rfl) nin0))
  have f136_5 : oA Z h_135 aT .int n (fun i_ => .int (Tn i_)) := AaT.keep K135 (ninS (oNd nd 6 0 (by decide) rfl rfl) (ninS (oNd nd 6 1 (by decide) rfl rfl) nin0))
  have f136_7 : Keep h h_135 [a, aL, aN, aJ, aD, aC, aT] := (Keep.refl h [a, aL, aN, aJ, aD, aC, aT]).trans K135 (allS (Or.inl (List.mem_of_getElem? (i := 0) rfl)) (allS (Or.inl (List.mem_of_getElem? (i := 1) rfl)) all0))
  show oWP ω γ k11 _ T_135 41 #[.val (.ref a), .val (.int st), .val (.int nx), .val (.int tc), .val (.int tn), .val (.int (nx - fr)), .val (.int ((J (nx - fr).toInt.toNat) - fr)), .val (.int ((J ((J (nx - fr).toInt.toNat) - fr).toInt.toNat) - fr)), .unset] [.int (st - fr)]
  refine ow_istore X_135 43 (L' := #[.val (.ref a), .val (.int st), .val (.int nx), .val (.int tc), .val (.int tn), .val (.int (nx - fr)), .val (.int ((J (nx - fr).toInt.toNat) - fr)), .val (.int ((J ((J (nx - fr).toInt.toNat) - fr).toInt.toNat) - fr)), .val (.int (st - fr))]) d11_41 rfl rfl ?_
  refine ow_aloadN X_135 44 d11_43 rfl rfl rfl ?_
  refine ow_getF X_135 47 14 rfl rfl R135.2.2.2.1 d11_44 rfl ?_
  intro T_137 X_137
  refine ow_iload X_137 49 d11_47 rfl rfl ?_
  refine ow_iloadN X_137 50 d11_49 rfl rfl ?_
  refine ow_iastore X_137 51 f136_1 (gs _ (List.mem_of_getElem? (i := 2) rfl)) d11_50 rfl hx0 (by omega) ?_
  intro T_138 h_138 X_138 W_138
  have f139_0 : oA Z h_138 aN .int n (fun i_ => .int ((oUpd N ((st - fr).toInt.toNat) nx) i_)) := f136_1.setI W_138
  have f139_1 : oA Z h_138 aJ .int n (fun i_ => .int (J i_)) := f136_2.other W_138 (oNd nd 3 2 (by decide) rfl rfl)
  have f139_2 : oA Z h_138 aD .int n (fun i_ => .int (D i_)) := f136_3.other W_138 (oNd nd 4 2 (by decide) rfl rfl)
  have f139_3 : oA Z h_138 aC .byte n (fun i_ => .int (Cc i_)) := f136_4.other W_138 (oNd nd 5 2 (by decide) rfl rfl)
  have f139_4 : oA Z h_138 aT .int n (fun i_ => .int (Tn i_)) := f136_5.other W_138 (oNd nd 6 2 (by decide) rfl rfl)
  have f139_5 : Keep h h_138 [a, aL, aN, aJ, aD, aC, aT] := f136_7.wr W_138 (Or.inl (List.mem_of_getElem? (i := 2) rfl))
  have f139_6 : TC Z h_138 a (.int fr) v_limit (.ref aN) (.ref aJ) (.ref aD) (.ref aC) (.ref aT) v_nearest v_failures (.ref aL) (.int (lc + (1 : Int32))) v_soughtClass v_path := R135.other W_138 (oNd nd 0 2 (by decide) rfl rfl)
  have f139_7 : oA Z h_138 aL .int 16 (fun i_ => .int ((oUpd G lc.toInt.toNat st) i_)) := AL135.other W_138 (oNd nd 1 2 (by decide) rfl rfl)
  refine ow_aloadN X_138 52 d11_51 rfl rfl rfl ?_
  refine ow_getF X_138 55 16 rfl rfl f139_6.2.2.2.2.1 d11_52 rfl ?_
  intro T_140 X_140
  refine ow_iload X_140 57 d11_55 rfl rfl ?_
  refine ow_aloadN X_140 58 d11_57 rfl rfl rfl ?_
  refine ow_getF X_140 61 18 rfl rfl f139_6.2.2.2.2.2.1 d11_58 rfl ?_
  intro T_141 X_141
  refine ow_iload X_141 63 d11_61 rfl rfl ?_
  refine ow_iaload X_141 64 f139_2 d11_63 rfl hp0 (by omega) rfl ?_
  refine ow_aloadN X_141 65 d11_64 rfl rfl rfl ?_
  refine ow_getF X_141 68 18 rfl rfl f139_6.2.2.2.2.2.1 d11_65 rfl ?_
  intro T_142 X_142
  refine ow_iload X_142 70 d11_68 rfl rfl ?_
  refine ow_iaload X_142 71 f139_2 d11_70 rfl hj0 (by omega) rfl ?_
  refine ow_isub X_142 72 d11_71 rfl ?_
  refine ow_aloadN X_142 73 d11_72 rfl rfl rfl ?_
  refine ow_getF X_142 76 18 rfl rfl f139_6.2.2.2.2.2.1 d11_73 rfl ?_
  intro T_143 X_143
  refine ow_iload X_143 78 d11_76 rfl rfl ?_
  refine ow_iaload X_143 79 f139_2 d11_78 rfl hj0 (by omega) rfl ?_
  refine ow_aloadN X_143 80 d11_79 rfl rfl rfl ?_
  refine ow_getF X_143 83 18 rfl rfl f139_6.2.2.2.2.2.1 d11_80 rfl ?_
  intro T_144 X_144
  refine ow_iload X_144 85 d11_83 rfl rfl ?_
  refine ow_iaload X_144 86 f139_2 d11_85 rfl hf0 (by omega) rfl ?_
  refine ow_isub X_144 87 d11_86 rfl ?_
  refine ow_icmp_ne X_144 90 100 d11_87 rfl rfl (fun (c87 : ((D (nx - fr).toInt.toNat) - (D ((J (nx - fr).toInt.toNat) - fr).toInt.toNat)).toInt ≠ ((D ((J (nx - fr).toInt.toNat) - fr).toInt.toNat) - (D ((J ((J (nx - fr).toInt.toNat) - fr).toInt.toNat) - fr).toInt.toNat)).toInt) => ?_) (fun (c87 : ((D (nx - fr).toInt.toNat) - (D ((J (nx - fr).toInt.toNat) - fr).toInt.toNat)).toInt = ((D ((J (nx - fr).toInt.toNat) - fr).toInt.toNat) - (D ((J ((J (nx - fr).toInt.toNat) - fr).toInt.toNat) - fr).toInt.toNat)).toInt) => ?_)
  · refine ow_iloadN X_144 101 d11_100 rfl rfl ?_
    refine ow_iastore X_144 102 f139_1 (gs _ (List.mem_of_getElem? (i := 3) rfl)) d11_101 rfl hx0 (by omega) ?_
    intro T_145 h_145 X_145 W_145
    have f146_0 : oA Z h_145 aN .int n (fun i_ => .int ((oUpd N ((st - fr).toInt.toNat) nx) i_)) := f139_0.other W_145 (oNd nd 2 3 (by decide) rfl rfl)
    have f146_1 : oA Z h_145 aJ .int n (fun i_ => .int ((oUpd J ((st - fr).toInt.toNat) nx) i_)) := f139_1.setI W_145
    have f146_2 : oA Z h_145 aD .int n (fun i_ => .int (D i_)) := f139_2.other W_145 (oNd nd 4 3 (by decide) rfl rfl)
    have f146_3 : oA Z h_145 aC .byte n (fun i_ => .int (Cc i_)) := f139_3.other W_145 (oNd nd 5 3 (by decide) rfl rfl)
    have f146_4 : oA Z h_145 aT .int n (fun i_ => .int (Tn i_)) := f139_4.other W_145 (oNd nd 6 3 (by decide) rfl rfl)
    have f146_5 : Keep h h_145 [a, aL, aN, aJ, aD, aC, aT] := f139_5.wr W_145 (Or.inl (List.mem_of_getElem? (i := 3) rfl))
    have f146_6 : TC Z h_145 a (.int fr) v_limit (.ref aN) (.ref aJ) (.ref aD) (.ref aC) (.ref aT) v_nearest v_failures (.ref aL) (.int (lc + (1 : Int32))) v_soughtClass v_path := f139_6.other W_145 (oNd nd 0 3 (by decide) rfl rfl)
    have f146_7 : oA Z h_145 aL .int 16 (fun i_ => .int ((oUpd G lc.toInt.toNat st) i_)) := f139_7.other W_145 (oNd nd 1 3 (by decide) rfl rfl)
    refine ow_aloadN X_145 103 d11_102 rfl rfl rfl ?_
    refine ow_getF X_145 106 18 rfl rfl f146_6.2.2.2.2.2.1 d11_103 rfl ?_
    intro T_147 X_147
    refine ow_iload X_147 108 d11_106 rfl rfl ?_
    refine ow_aloadN X_147 109 d11_108 rfl rfl rfl ?_
    refine ow_getF X_147 112 18 rfl rfl f146_6.2.2.2.2.2.1 d11_109 rfl ?_
    intro T_148 X_148
    refine ow_iload X_148 114 d11_112 rfl rfl ?_
    refine ow_iaload X_148 115 f146_2 d11_114 rfl hp0 (by omega) rfl ?_
    refine ow_iconst X_148 116 (1 : Int32) d11_115 rfl rfl ?_
    refine ow_iadd X_148 117 d11_116 rfl ?_
    refine ow_iastore X_148 118 f146_2 (gs _ (List.mem_of_getElem? (i := 4) rfl)) d11_117 rfl hx0 (by omega) ?_
    intro T_149 h_149 X_149 W_149
    have f150_0 : oA Z h_149 aN .int n (fun i_ => .int ((oUpd N ((st - fr).toInt.toNat) nx) i_)) := f146_0.other W_149 (oNd nd 2 4 (by decide) rfl rfl)
    have f150_1 : oA Z h_149 aJ .int n (fun i_ => .int ((oUpd J ((st - fr).toInt.toNat) nx) i_)) := f146_1.other W_149 (oNd nd 3 4 (by decide) rfl rfl)
    have f150_2 : oA Z h_149 aD .int n (fun i_ => .int ((oUpd D ((st - fr).toInt.toNat) ((D (nx - fr).toInt.toNat) + (1 : Int32))) i_)) := f146_2.setI W_149
    have f150_3 : oA Z h_149 aC .byte n (fun i_ => .int (Cc i_)) := f146_3.other W_149 (oNd nd 5 4 (by decide) rfl rfl)
    have f150_4 : oA Z h_149 aT .int n (fun i_ => .int (Tn i_)) := f146_4.other W_149 (oNd nd 6 4 (by decide) rfl rfl)
    have f150_5 : Keep h h_149 [a, aL, aN, aJ, aD, aC, aT] := f146_5.wr W_149 (Or.inl (List.mem_of_getElem? (i := 4) rfl))
    have f150_6 : TC Z h_149 a (.int fr) v_limit (.ref aN) (.ref aJ) (.ref aD) (.ref aC) (.ref aT) v_nearest v_failures (.ref aL) (.int (lc + (1 : Int32))) v_soughtClass v_path := f146_6.other W_149 (oNd nd 0 4 (by decide) rfl rfl)
    have f150_7 : oA Z h_149 aL .int 16 (fun i_ => .int ((oUpd G lc.toInt.toNat st) i_)) := f146_7.other W_149 (oNd nd 1 4 (by decide) rfl rfl)
    refine ow_aloadN X_149 119 d11_118 rfl rfl rfl ?_
    refine ow_getF X_149 122 21 rfl rfl f150_6.2.2.2.2.2.2.1 d11_119 rfl ?_
    intro T_151 X_151
    refine ow_iload X_151 124 d11_122 rfl rfl ?_
    refine ow_iloadN X_151 125 d11_124 rfl rfl ?_
    refine ow_i2b X_151 126 d11_125 rfl ?_
    refine ow_bastore X_151 127 f150_3 (gs _ (List.mem_of_getElem? (i := 5) rfl)) d11_126 rfl hx0 (by omega) ?_
    intro T_152 h_152 X_152 W_152
    have f153_0 : oA Z h_152 aN .int n (fun i_ => .int ((oUpd N ((st - fr).toInt.toNat) nx) i_)) := f150_0.other W_152 (oNd nd 2 5 (by decide) rfl rfl)
    have f153_1 : oA Z h_152 aJ .int n (fun i_ => .int ((oUpd J ((st - fr).toInt.toNat) nx) i_)) := f150_1.other W_152 (oNd nd 3 5 (by decide) rfl rfl)
    have f153_2 : oA Z h_152 aD .int n (fun i_ => .int ((oUpd D ((st - fr).toInt.toNat) ((D (nx - fr).toInt.toNat) + (1 : Int32))) i_)) := f150_2.other W_152 (oNd nd 4 5 (by decide) rfl rfl)
    have f153_3 : oA Z h_152 aC .byte n (fun i_ => .int ((oUpd Cc ((st - fr).toInt.toNat) tc.toInt8.toInt32.toInt8.toInt32) i_)) := f150_3.setI W_152
    have f153_4 : oA Z h_152 aT .int n (fun i_ => .int (Tn i_)) := f150_4.other W_152 (oNd nd 6 5 (by decide) rfl rfl)
    have f153_5 : Keep h h_152 [a, aL, aN, aJ, aD, aC, aT] := f150_5.wr W_152 (Or.inl (List.mem_of_getElem? (i := 5) rfl))
    have f153_6 : TC Z h_152 a (.int fr) v_limit (.ref aN) (.ref aJ) (.ref aD) (.ref aC) (.ref aT) v_nearest v_failures (.ref aL) (.int (lc + (1 : Int32))) v_soughtClass v_path := f150_6.other W_152 (oNd nd 0 5 (by decide) rfl rfl)
    have f153_7 : oA Z h_152 aL .int 16 (fun i_ => .int ((oUpd G lc.toInt.toNat st) i_)) := f150_7.other W_152 (oNd nd 1 5 (by decide) rfl rfl)
    refine ow_aloadN X_152 128 d11_127 rfl rfl rfl ?_
    refine ow_getF X_152 131 23 rfl rfl f153_6.2.2.2.2.2.2.2.1 d11_128 rfl ?_
    intro T_154 X_154
    refine ow_iload X_154 133 d11_131 rfl rfl ?_
    refine ow_iload X_154 135 d11_133 rfl rfl ?_
    refine ow_iastore X_154 136 f153_4 (gs _ (List.mem_of_getElem? (i := 6) rfl)) d11_135 rfl hx0 (by omega) ?_
    intro T_155 h_155 X_155 W_155
    have f156_0 : oA Z h_155 aN .int n (fun i_ => .int ((oUpd N ((st - fr).toInt.toNat) nx) i_)) := f153_0.other W_155 (oNd nd 2 6 (by decide) rfl rfl)
    have f156_1 : oA Z h_155 aJ .int n (fun i_ => .int ((oUpd J ((st - fr).toInt.toNat) nx) i_)) := f153_1.other W_155 (oNd nd 3 6 (by decide) rfl rfl)
    have f156_2 : oA Z h_155 aD .int n (fun i_ => .int ((oUpd D ((st - fr).toInt.toNat) ((D (nx - fr).toInt.toNat) + (1 : Int32))) i_)) := f153_2.other W_155 (oNd nd 4 6 (by decide) rfl rfl)
    have f156_3 : oA Z h_155 aC .byte n (fun i_ => .int ((oUpd Cc ((st - fr).toInt.toNat) tc.toInt8.toInt32.toInt8.toInt32) i_)) := f153_3.other W_155 (oNd nd 5 6 (by decide) rfl rfl)
    have f156_4 : oA Z h_155 aT .int n (fun i_ => .int ((oUpd Tn ((st - fr).toInt.toNat) tn) i_)) := f153_4.setI W_155
    have f156_5 : Keep h h_155 [a, aL, aN, aJ, aD, aC, aT] := f153_5.wr W_155 (Or.inl (List.mem_of_getElem? (i := 6) rfl))
    have f156_6 : TC Z h_155 a (.int fr) v_limit (.ref aN) (.ref aJ) (.ref aD) (.ref aC) (.ref aT) v_nearest v_failures (.ref aL) (.int (lc + (1 : Int32))) v_soughtClass v_path := f153_6.other W_155 (oNd nd 0 6 (by decide) rfl rfl)
    have f156_7 : oA Z h_155 aL .int 16 (fun i_ => .int ((oUpd G lc.toInt.toNat st) i_)) := f153_7.other W_155 (oNd nd 1 6 (by decide) rfl rfl)
    refine ow_retV X_155 rfl d11_136 (by decide) (by decide) ?_
    exact ⟨rfl, f156_5, f156_6, f156_0, ⟨_, f156_1, Or.inl rfl⟩, ⟨_, f156_2⟩, f156_3, f156_4, f156_7⟩
  · refine ow_aloadN X_144 91 d11_90 rfl rfl rfl ?_
    refine ow_getF X_144 94 16 rfl rfl f139_6.2.2.2.2.1 d11_91 rfl ?_
    intro T_157 X_157
    refine ow_iload X_157 96 d11_94 rfl rfl ?_
    refine ow_iaload X_157 97 f139_1 d11_96 rfl hj0 (by omega) rfl ?_
    refine ow_goto X_157 101 d11_97 rfl ?_
    refine ow_iastore X_157 102 f139_1 (gs _ (List.mem_of_getElem? (i := 3) rfl)) d11_101 rfl hx0 (by omega) ?_
    intro T_158 h_158 X_158 W_158
    have f159_0 : oA Z h_158 aN .int n (fun i_ => .int ((oUpd N ((st - fr).toInt.toNat) nx) i_)) := f139_0.other W_158 (oNd nd 2 3 (by decide) rfl rfl)
    have f159_1 : oA Z h_158 aJ .int n (fun i_ => .int ((oUpd J ((st - fr).toInt.toNat) (J ((J (nx - fr).toInt.toNat) - fr).toInt.toNat)) i_)) := f139_1.setI W_158
    have f159_2 : oA Z h_158 aD .int n (fun i_ => .int (D i_)) := f139_2.other W_158 (oNd nd 4 3 (by decide) rfl rfl)
    have f159_3 : oA Z h_158 aC .byte n (fun i_ => .int (Cc i_)) := f139_3.other W_158 (oNd nd 5 3 (by decide) rfl rfl)
    have f159_4 : oA Z h_158 aT .int n (fun i_ => .int (Tn i_)) := f139_4.other W_158 (oNd nd 6 3 (by decide) rfl rfl)
    have f159_5 : Keep h h_158 [a, aL, aN, aJ, aD, aC, aT] := f139_5.wr W_158 (Or.inl (List.mem_of_getElem? (i := 3) rfl))
    have f159_6 : TC Z h_158 a (.int fr) v_limit (.ref aN) (.ref aJ) (.ref aD) (.ref aC) (.ref aT) v_nearest v_failures (.ref aL) (.int (lc + (1 : Int32))) v_soughtClass v_path := f139_6.other W_158 (oNd nd 0 3 (by decide) rfl rfl)
    have f159_7 : oA Z h_158 aL .int 16 (fun i_ => .int ((oUpd G lc.toInt.toNat st) i_)) := f139_7.other W_158 (oNd nd 1 3 (by decide) rfl rfl)
    refine ow_aloadN X_158 103 d11_102 rfl rfl rfl ?_
    refine ow_getF X_158 106 18 rfl rfl f159_6.2.2.2.2.2.1 d11_103 rfl ?_
    intro T_160 X_160
    refine ow_iload X_160 108 d11_106 rfl rfl ?_
    refine ow_aloadN X_160 109 d11_108 rfl rfl rfl ?_
    refine ow_getF X_160 112 18 rfl rfl f159_6.2.2.2.2.2.1 d11_109 rfl ?_
    intro T_161 X_161
    refine ow_iload X_161 114 d11_112 rfl rfl ?_
    refine ow_iaload X_161 115 f159_2 d11_114 rfl hp0 (by omega) rfl ?_
    refine ow_iconst X_161 116 (1 : Int32) d11_115 rfl rfl ?_
    refine ow_iadd X_161 117 d11_116 rfl ?_
    refine ow_iastore X_161 118 f159_2 (gs _ (List.mem_of_getElem? (i := 4) rfl)) d11_117 rfl hx0 (by omega) ?_
    intro T_162 h_162 X_162 W_162
    have f163_0 : oA Z h_162 aN .int n (fun i_ => .int ((oUpd N ((st - fr).toInt.toNat) nx) i_)) := f159_0.other W_162 (oNd nd 2 4 (by decide) rfl rfl)
    have f163_1 : oA Z h_162 aJ .int n (fun i_ => .int ((oUpd J ((st - fr).toInt.toNat) (J ((J (nx - fr).toInt.toNat) - fr).toInt.toNat)) i_)) := f159_1.other W_162 (oNd nd 3 4 (by decide) rfl rfl)
    have f163_2 : oA Z h_162 aD .int n (fun i_ => .int ((oUpd D ((st - fr).toInt.toNat) ((D (nx - fr).toInt.toNat) + (1 : Int32))) i_)) := f159_2.setI W_162
    have f163_3 : oA Z h_162 aC .byte n (fun i_ => .int (Cc i_)) := f159_3.other W_162 (oNd nd 5 4 (by decide) rfl rfl)
    have f163_4 : oA Z h_162 aT .int n (fun i_ => .int (Tn i_)) := f159_4.other W_162 (oNd nd 6 4 (by decide) rfl rfl)
    have f163_5 : Keep h h_162 [a, aL, aN, aJ, aD, aC, aT] := f159_5.wr W_162 (Or.inl (List.mem_of_getElem? (i := 4) rfl))
    have f163_6 : TC Z h_162 a (.int fr) v_limit (.ref aN) (.ref aJ) (.ref aD) (.ref aC) (.ref aT) v_nearest v_failures (.ref aL) (.int (lc + (1 : Int32))) v_soughtClass v_path := f159_6.other W_162 (oNd nd 0 4 (by decide) rfl rfl)
    have f163_7 : oA Z h_162 aL .int 16 (fun i_ => .int ((oUpd G lc.toInt.toNat st) i_)) := f159_7.other W_162 (oNd nd 1 4 (by decide) rfl rfl)
    refine ow_aloadN X_162 119 d11_118 rfl rfl rfl ?_
    refine ow_getF X_162 122 21 rfl rfl f163_6.2.2.2.2.2.2.1 d11_119 rfl ?_
    intro T_164 X_164
    refine ow_iload X_164 124 d11_122 rfl rfl ?_
    refine ow_iloadN X_164 125 d11_124 rfl rfl ?_
    refine ow_i2b X_164 126 d11_125 rfl ?_
    refine ow_bastore X_164 127 f163_3 (gs _ (List.mem_of_getElem? (i := 5) rfl)) d11_126 rfl hx0 (by omega) ?_
    intro T_165 h_165 X_165 W_165
    have f166_0 : oA Z h_165 aN .int n (fun i_ => .int ((oUpd N ((st - fr).toInt.toNat) nx) i_)) := f163_0.other W_165 (oNd nd 2 5 (by decide) rfl rfl)
    have f166_1 : oA Z h_165 aJ .int n (fun i_ => .int ((oUpd J ((st - fr).toInt.toNat) (J ((J (nx - fr).toInt.toNat) - fr).toInt.toNat)) i_)) := f163_1.other W_165 (oNd nd 3 5 (by decide) rfl rfl)
    have f166_2 : oA Z h_165 aD .int n (fun i_ => .int ((oUpd D ((st - fr).toInt.toNat) ((D (nx - fr).toInt.toNat) + (1 : Int32))) i_)) := f163_2.other W_165 (oNd nd 4 5 (by decide) rfl rfl)
    have f166_3 : oA Z h_165 aC .byte n (fun i_ => .int ((oUpd Cc ((st - fr).toInt.toNat) tc.toInt8.toInt32.toInt8.toInt32) i_)) := f163_3.setI W_165
    have f166_4 : oA Z h_165 aT .int n (fun i_ => .int (Tn i_)) := f163_4.other W_165 (oNd nd 6 5 (by decide) rfl rfl)
    have f166_5 : Keep h h_165 [a, aL, aN, aJ, aD, aC, aT] := f163_5.wr W_165 (Or.inl (List.mem_of_getElem? (i := 5) rfl))
    have f166_6 : TC Z h_165 a (.int fr) v_limit (.ref aN) (.ref aJ) (.ref aD) (.ref aC) (.ref aT) v_nearest v_failures (.ref aL) (.int (lc + (1 : Int32))) v_soughtClass v_path := f163_6.other W_165 (oNd nd 0 5 (by decide) rfl rfl)
    have f166_7 : oA Z h_165 aL .int 16 (fun i_ => .int ((oUpd G lc.toInt.toNat st) i_)) := f163_7.other W_165 (oNd nd 1 5 (by decide) rfl rfl)
    refine ow_aloadN X_165 128 d11_127 rfl rfl rfl ?_
    refine ow_getF X_165 131 23 rfl rfl f166_6.2.2.2.2.2.2.2.1 d11_128 rfl ?_
    intro T_167 X_167
    refine ow_iload X_167 133 d11_131 rfl rfl ?_
    refine ow_iload X_167 135 d11_133 rfl rfl ?_
    refine ow_iastore X_167 136 f166_4 (gs _ (List.mem_of_getElem? (i := 6) rfl)) d11_135 rfl hx0 (by omega) ?_
    intro T_168 h_168 X_168 W_168
    have f169_0 : oA Z h_168 aN .int n (fun i_ => .int ((oUpd N ((st - fr).toInt.toNat) nx) i_)) := f166_0.other W_168 (oNd nd 2 6 (by decide) rfl rfl)
    have f169_1 : oA Z h_168 aJ .int n (fun i_ => .int ((oUpd J ((st - fr).toInt.toNat) (J ((J (nx - fr).toInt.toNat) - fr).toInt.toNat)) i_)) := f166_1.other W_168 (oNd nd 3 6 (by decide) rfl rfl)
    have f169_2 : oA Z h_168 aD .int n (fun i_ => .int ((oUpd D ((st - fr).toInt.toNat) ((D (nx - fr).toInt.toNat) + (1 : Int32))) i_)) := f166_2.other W_168 (oNd nd 4 6 (by decide) rfl rfl)
    have f169_3 : oA Z h_168 aC .byte n (fun i_ => .int ((oUpd Cc ((st - fr).toInt.toNat) tc.toInt8.toInt32.toInt8.toInt32) i_)) := f166_3.other W_168 (oNd nd 5 6 (by decide) rfl rfl)
    have f169_4 : oA Z h_168 aT .int n (fun i_ => .int ((oUpd Tn ((st - fr).toInt.toNat) tn) i_)) := f166_4.setI W_168
    have f169_5 : Keep h h_168 [a, aL, aN, aJ, aD, aC, aT] := f166_5.wr W_168 (Or.inl (List.mem_of_getElem? (i := 6) rfl))
    have f169_6 : TC Z h_168 a (.int fr) v_limit (.ref aN) (.ref aJ) (.ref aD) (.ref aC) (.ref aT) v_nearest v_failures (.ref aL) (.int (lc + (1 : Int32))) v_soughtClass v_path := f166_6.other W_168 (oNd nd 0 6 (by decide) rfl rfl)
    have f169_7 : oA Z h_168 aL .int 16 (fun i_ => .int ((oUpd G lc.toInt.toNat st) i_)) := f166_7.other W_168 (oNd nd 1 6 (by decide) rfl rfl)
    refine ow_retV X_168 rfl d11_136 (by decide) (by decide) ?_
    exact ⟨rfl, f169_5, f169_6, f169_0, ⟨_, f169_1, Or.inr rfl⟩, ⟨_, f169_2⟩, f169_3, f169_4, f169_7⟩
theorem d12_0 : decode prog_32_method_10_code 0 = .ok (.aload_n 0, 1) := by decide +kernel
theorem d12_1 : decode prog_32_method_10_code 1 = .ok (.getfield 13, 3) := by decide +kernel
theorem d12_4 : decode prog_32_method_10_code 4 = .ok (.iload_n 1, 1) := by decide +kernel
theorem d12_5 : decode prog_32_method_10_code 5 = .ok (.aload_n 0, 1) := by decide +kernel
theorem d12_6 : decode prog_32_method_10_code 6 = .ok (.getfield 51, 3) := by decide +kernel
theorem d12_9 : decode prog_32_method_10_code 9 = .ok (.isub, 1) := by decide +kernel
theorem d12_10 : decode prog_32_method_10_code 10 = .ok (.iaload, 1) := by decide +kernel
theorem d12_11 : decode prog_32_method_10_code 11 = .ok (.istore_n 2, 1) := by decide +kernel
theorem d12_12 : decode prog_32_method_10_code 12 = .ok (.iload_n 2, 1) := by decide +kernel
theorem d12_13 : decode prog_32_method_10_code 13 = .ok (.iconst (-1), 1) := by decide +kernel
theorem d12_14 : decode prog_32_method_10_code 14 = .ok (.if_icmp .ne 15, 3) := by decide +kernel
theorem d12_17 : decode prog_32_method_10_code 17 = .ok (.aload_n 0, 1) := by decide +kernel
theorem d12_18 : decode prog_32_method_10_code 18 = .ok (.getfield 35, 3) := by decide +kernel
theorem d12_21 : decode prog_32_method_10_code 21 = .ok (.iload_n 1, 1) := by decide +kernel
theorem d12_22 : decode prog_32_method_10_code 22 = .ok (.aload_n 0, 1) := by decide +kernel
theorem d12_23 : decode prog_32_method_10_code 23 = .ok (.getfield 51, 3) := by decide +kernel
theorem d12_26 : decode prog_32_method_10_code 26 = .ok (.isub, 1) := by decide +kernel
theorem d12_27 : decode prog_32_method_10_code 27 = .ok (.aaload, 1) := by decide +kernel
theorem d12_28 : decode prog_32_method_10_code 28 = .ok (.athrow, 1) := by decide +kernel
theorem d12_29 : decode prog_32_method_10_code 29 = .ok (.iload_n 2, 1) := by decide +kernel
theorem d12_30 : decode prog_32_method_10_code 30 = .ok (.ireturn, 1) := by decide +kernel
def k12 : OM := (prog_32_method_10_code, 3, "com/example/tollbook/tollbook/ber/TlvChains", "end", (some .int), { frames := 0, cells := 0, slots := 0, locals := 0 })
theorem pn12 : plainFor (⟨"com/example/tollbook/tollbook/ber/TlvChains", "end", "(I)I"⟩ : MethodName) = true := plainFor_of_name (by first | (simp [plainName, overriddenIn]; done) | decide +kernel)
theorem pd12 : parseMethodDescriptor "(I)I" = some ⟨[.int], (some .int)⟩ := by decide +kernel
set_option maxRecDepth 65536 in
set_option maxHeartbeats 4000000 in
theorem C_end {Z : State} {ω : OW} {h : Heap} (hw_ : ∀ d ∈ tables_1, d.before ω.2.2 Z = true) (hn_ : ω.2.1 ≤ h.size) (a aN : Addr) (st fr : Int32) (n : Nat) (N : Nat → Int32) (v_limit v_jumps v_depths v_tagClasses v_tagNumbers v_nearest v_failures v_learnt v_learntCount v_soughtClass v_path : Value) (F0 : TC Z h a (.int fr) v_limit (.ref aN) v_jumps v_depths v_tagClasses v_tagNumbers v_nearest v_failures v_learnt v_learntCount v_soughtClass v_path) (A0 : oA Z h aN .int n (fun i_ => .int (N i_))) (hx0 : 0 ≤ (st - fr).toInt) (hx1 : (st - fr).toInt < n) (hne : (N (st - fr).toInt.toNat).toInt ≠ -1) :
    oC Z ω (⟨"com/example/tollbook/tollbook/ber/TlvChains", "end", "(I)I"⟩ : MethodName) k12 [] #[.ref a, .int st] h (fun v h' => v = some (.int (N (st - fr).toInt.toNat)) ∧ h = h') := by
  refine oC_of hw_ hn_ pn12 rfl rfl (L := #[.val (.ref a), .val (.int st), .unset]) (fun m => by first | (simp [entryFrame, mkF, argsToLocals, Value.category, k12]; done) | rfl) ?_
  intro γ T X
  refine ow_aloadN X 1 d12_0 rfl rfl rfl ?_
  refine ow_getF X 4 14 rfl rfl F0.2.2.2.1 d12_1 rfl ?_
  intro T_170 X_170
  refine ow_iloadN X_170 5 d12_4 rfl rfl ?_
  refine ow_aloadN X_170 6 d12_5 rfl rfl rfl ?_
  refine ow_getF X_170 9 86 rfl rfl F0.2.1 d12_6 rfl ?_
  intro T_171 X_171
  refine ow_isub X_171 10 d12_9 rfl ?_
  refine ow_iaload X_171 11 A0 d12_10 rfl hx0 hx1 rfl ?_
  refine ow_istoreN X_171 12 (L' := #[.val (.ref a), .val (.int st), .val (.int (N (st - fr).toInt.toNat))]) d12_11 rfl rfl ?_
  refine ow_iloadN X_171 13 d12_12 rfl rfl ?_
  refine ow_iconst X_171 14 (-1 : Int32) d12_13 rfl rfl ?_
  refine ow_icmp_ne X_171 17 29 d12_14 rfl rfl (fun (c14 : (N (st - fr).toInt.toNat).toInt ≠ (-1)) => ?_) (fun (c14 : (N (st - fr).toInt.toNat).toInt = (-1)) => absurd c14 hne)
  refine ow_iloadN X_171 30 d12_29 rfl rfl ?_
  refine ow_retI X_171 rfl d12_30 (by decide) (by decide) ?_
  exact ⟨rfl, rfl⟩
def k0 : OM := (code, maxLocals, "com/example/tollbook/tollbook/ber/TlvChainsEndPinLaw", "law", ret, room_1)
theorem pn0 : plainFor Jvm.Pilot.@@N@@.x = true := plainFor_of_name (by first | (simp [plainName, overriddenIn]; done) | decide +kernel)
theorem pd0 : parseMethodDescriptor "(IIIIII)Z" = some ⟨[.int, .int, .int, .int, .int, .int], (some .boolean)⟩ := by decide +kernel
theorem own_cx (f x : Int32) : (f + x - f).toInt = x.toInt := by
  have e : f + x - f = x := by
    apply Int32.toBitVec_inj.mp
    show f.toBitVec + x.toBitVec - f.toBitVec = x.toBitVec
    rw [BitVec.add_comm, BitVec.add_sub_cancel]
  rw [e]
theorem own_hz (f : Int32) : f + (8 : Int32) - f + (1 : Int32) = 9 := by
  have e : f + 8 - f = 8 := by
    apply Int32.toBitVec_inj.mp
    show f.toBitVec + (8 : Int32).toBitVec - f.toBitVec = (8 : Int32).toBitVec
    rw [BitVec.add_comm, BitVec.add_sub_cancel]
  rw [e]; decide
theorem own_f (p : Int32) : 0 ≤ ((p &&& (2147483647 : Int32)) % (2147483632 : Int32)).toInt ∧ ((p &&& (2147483647 : Int32)) % (2147483632 : Int32)).toInt < 2147483632 := by
  have h := (c_andS p 2147483647).2.2 (by decide)
  have := (c_irem (p &&& 2147483647) 2147483632 2147483632 rfl).1 h
  omega
theorem own_st (q : Int32) : 5 ≤ ((5 : Int32) + (q &&& (3 : Int32))).toInt ∧ ((5 : Int32) + (q &&& (3 : Int32))).toInt ≤ 8 := by
  have h := c_and q 3 (by decide); have k : (3 : Int32).toInt = 3 := rfl; have k1 : (5 : Int32).toInt = 5 := rfl
  have e := c_iadd 5 (q &&& 3); have r := rng32 ((5 : Int32) + (q &&& (3 : Int32)))
  omega
theorem own_sa (x : Int32) : 2 ≤ ((2 : Int32) + ((x &&& (2147483647 : Int32)) % (3 : Int32))).toInt ∧ ((2 : Int32) + ((x &&& (2147483647 : Int32)) % (3 : Int32))).toInt ≤ 4 := by
  have h := (c_andS x 2147483647).2.2 (by decide)
  have q := (c_irem (x &&& 2147483647) 3 3 rfl).1 h; have k1 : (2 : Int32).toInt = 2 := rfl
  have e := c_iadd 2 ((x &&& 2147483647) % 3); have r := rng32 ((2 : Int32) + ((x &&& (2147483647 : Int32)) % (3 : Int32)))
  omega
theorem own_sb (x : Int32) : 0 ≤ (x &&& (1 : Int32)).toInt ∧ (x &&& (1 : Int32)).toInt ≤ 1 := c_and x 1 (by decide)
theorem own_sc (b : Int32) (h : 0 ≤ b.toInt ∧ b.toInt ≤ 1) : ((1 : Int32) - b).toInt = 1 - b.toInt := own_sub 1 b (by have k : (1 : Int32).toInt = 1 := rfl; omega) (by have k : (1 : Int32).toInt = 1 := rfl; omega)
theorem own_ps (f x : Int32) (hf : 0 ≤ f.toInt ∧ f.toInt < 2147483632) (hx : 0 ≤ x.toInt ∧ x.toInt ≤ 8) : (f + x).toInt ≠ -1 := by
  have := own_add f x (by omega) (by omega)
  omega
set_option maxRecDepth 65536 in
set_option maxHeartbeats 4000000 in
theorem C_law {Z : State} {ω : OW} {h : Heap} (hw_ : ∀ d ∈ tables_1, d.before ω.2.2 Z = true) (hn_ : ω.2.1 ≤ h.size) (p0 p1 p2 p3 p4 p5 : Int32) (xU xS : Addr) (SU : Sta Z h "java/lang/Throwable" "UNASSIGNED_STACK" "[Ljava/lang/StackTraceElement;" (.ref xU)) (SS : Sta Z h "java/lang/Throwable" "SUPPRESSED_SENTINEL" "Ljava/util/List;" (.ref xS)) :
    oC Z ω Jvm.Pilot.@@N@@.x k0 tables_1 #[.int p0, .int p1, .int p2, .int p3, .int p4, .int p5] h (fun v _ => v = some (.int 1)) := by
  refine oC_of hw_ hn_ pn0 rfl rfl (L := #[.val (.int p0), .val (.int p1), .val (.int p2), .val (.int p3), .val (.int p4), .val (.int p5), .unset, .unset, .unset, .unset, .unset, .unset, .unset, .unset, .unset, .unset]) (fun m => by first | (simp [entryFrame, mkF, argsToLocals, Value.category, k0, maxLocals]; done) | rfl) ?_
  intro γ T X
  refine ow_iloadN X 1 at_0 rfl rfl ?_
  refine ow_ldcI X 3 0 rfl rfl at_1 rfl ?_
  refine ow_iand X 4 at_3 rfl ?_
  refine ow_ldcI X 6 1 rfl rfl at_4 rfl ?_
  refine ow_irem X 7 at_6 rfl (by decide) ?_
  refine ow_istore X 9 (L' := #[.val (.int p0), .val (.int p1), .val (.int p2), .val (.int p3), .val (.int p4), .val (.int p5), .val (.int ((p0 &&& (2147483647 : Int32)) % (2147483632 : Int32))), .unset, .unset, .unset, .unset, .unset, .unset, .unset, .unset, .unset]) at_7 rfl rfl ?_
  have hf := own_f p0
  generalize (p0 &&& (2147483647 : Int32)) % (2147483632 : Int32) = f at hf ⊢
  refine ow_iconst X 10 (5 : Int32) at_9 rfl rfl ?_
  refine ow_iloadN X 11 at_10 rfl rfl ?_
  refine ow_iconst X 12 (3 : Int32) at_11 rfl rfl ?_
  refine ow_iand X 13 at_12 rfl ?_
  refine ow_iadd X 14 at_13 rfl ?_
  refine ow_istore X 16 (L' := #[.val (.int p0), .val (.int p1), .val (.int p2), .val (.int p3), .val (.int p4), .val (.int p5), .val (.int f), .val (.int ((5 : Int32) + (p1 &&& (3 : Int32)))), .unset, .unset, .unset, .unset, .unset, .unset, .unset, .unset]) at_14 rfl rfl ?_
  have hst := own_st p1
  generalize (5 : Int32) + (p1 &&& (3 : Int32)) = st at hst ⊢
  refine ow_iconst X 17 (2 : Int32) at_16 rfl rfl ?_
  refine ow_iloadN X 18 at_17 rfl rfl ?_
  refine ow_ldcI X 20 0 rfl rfl at_18 rfl ?_
  refine ow_iand X 21 at_20 rfl ?_
  refine ow_iconst X 22 (3 : Int32) at_21 rfl rfl ?_
  refine ow_irem X 23 at_22 rfl (by decide) ?_
  refine ow_iadd X 24 at_23 rfl ?_
  refine ow_istore X 26 (L' := #[.val (.int p0), .val (.int p1), .val (.int p2), .val (.int p3), .val (.int p4), .val (.int p5), .val (.int f), .val (.int st), .val (.int ((2 : Int32) + ((p2 &&& (2147483647 : Int32)) % (3 : Int32)))), .unset, .unset, .unset, .unset, .unset, .unset, .unset]) at_24 rfl rfl ?_
  have hsa := own_sa p2
  generalize (2 : Int32) + ((p2 &&& (2147483647 : Int32)) % (3 : Int32)) = sa at hsa ⊢
  refine ow_iloadN X 27 at_26 rfl rfl ?_
  refine ow_iconst X 28 (1 : Int32) at_27 rfl rfl ?_
  refine ow_iand X 29 at_28 rfl ?_
  refine ow_istore X 31 (L' := #[.val (.int p0), .val (.int p1), .val (.int p2), .val (.int p3), .val (.int p4), .val (.int p5), .val (.int f), .val (.int st), .val (.int sa), .val (.int (p3 &&& (1 : Int32))), .unset, .unset, .unset, .unset, .unset, .unset]) at_29 rfl rfl ?_
  have hsb := own_sb p3
  generalize p3 &&& (1 : Int32) = sb at hsb ⊢
  refine ow_iconst X 32 (1 : Int32) at_31 rfl rfl ?_
  refine ow_iload X 34 at_32 rfl rfl ?_
  refine ow_isub X 35 at_34 rfl ?_
  refine ow_istore X 37 (L' := #[.val (.int p0), .val (.int p1), .val (.int p2), .val (.int p3), .val (.int p4), .val (.int p5), .val (.int f), .val (.int st), .val (.int sa), .val (.int sb), .val (.int ((1 : Int32) - sb)), .unset, .unset, .unset, .unset, .unset]) at_35 rfl rfl ?_
  have hsc := own_sc sb hsb
  generalize (1 : Int32) - sb = sc at hsc ⊢
  have e9 : (9 : Int32).toInt.toNat = 9 := rfl
  have e_st := own_cx f st
  have e_sa := own_cx f sa
  have e_sb := own_cx f sb
  have e_sc := own_cx f sc
  refine ow_new X 40 2 3 4 rfl rfl rfl rfl at_37 rfl (by decide) (by decide) ?_
  intro T_172 h_172 a_172 q_172 X_172 E_172 A_172 D_172 g_172
  have f173_0 : Sta Z h_172 "java/lang/Throwable" "UNASSIGNED_STACK" "[Ljava/lang/StackTraceElement;" (.ref xU) := Sta.ext E_172 SU
  have f173_1 : Sta Z h_172 "java/lang/Throwable" "SUPPRESSED_SENTINEL" "Ljava/util/List;" (.ref xS) := Sta.ext E_172 SS
  have R_172 : TC Z h_172 a_172 (.int (0 : Int32)) (.int (0 : Int32)) .null .null .null .null .null .null .null .null (.int (0 : Int32)) (.int (0 : Int32)) .null := ⟨A_172, D_172 (Or.inl (oSt_at X_172 87 rfl)) (ty := .int) (by decide), D_172 (Or.inl (oSt_at X_172 12 rfl)) (ty := .int) (by decide), D_172 (Or.inl (oSt_at X_172 15 rfl)) (ty := (.array .int)) (by decide), D_172 (Or.inl (oSt_at X_172 17 rfl)) (ty := (.array .int)) (by decide), D_172 (Or.inl (oSt_at X_172 19 rfl)) (ty := (.array .int)) (by decide), D_172 (Or.inl (oSt_at X_172 22 rfl)) (ty := (.array .byte)) (by decide), D_172 (Or.inl (oSt_at X_172 24 rfl)) (ty := (.array .int)) (by decide), D_172 (Or.inl (oSt_at X_172 26 rfl)) (ty := (.array .int)) (by decide), D_172 (Or.inl (oSt_at X_172 30 rfl)) (ty := (.array (.object "com/example/tollbook/tollbook/ber/BerException"))) (by decide), D_172 (Or.inl (oSt_at X_172 32 rfl)) (ty := (.array .int)) (by decide), D_172 (Or.inl (oSt_at X_172 85 rfl)) (ty := .int) (by decide), D_172 (Or.inl (oSt_at X_172 34 rfl)) (ty := .int) (by decide), D_172 (Or.inl (oSt_at X_172 36 rfl)) (ty := (.array .int)) (by decide)⟩
  refine ow_dup X_172 41 at_40 rfl rfl ?_
  refine ow_callC X_172 44 5 6 4 7 (κ' := k1) (as := []) (S := [.ref a_172]) (W := 1) rfl rfl rfl rfl rfl rfl rfl (by decide) (C_init (oSt_w X_172) (oSt_n0 X_172) a_172 R_172 g_172) (by decide) (by decide) (Nat.le_of_eq rfl) (by decide) (by decide) pd1 rfl rfl rfl at_41 rfl ?_
  intro γ v_174 T_174 h_174 X_174 q_174
  obtain ⟨rfl, aN, aJ, aD, aC, aT, aR, aF, aL, aP, K174, nd174, gs174, fr174, R174, AaN174, AaL174, AaP174⟩ := q_174
  have f175_0 : Sta Z h_174 "java/lang/Throwable" "UNASSIGNED_STACK" "[Ljava/lang/StackTraceElement;" (.ref xU) := oSta_keep f173_0 K174 (allS (oExS R_172.1) all0)
  have f175_1 : Sta Z h_174 "java/lang/Throwable" "SUPPRESSED_SENTINEL" "Ljava/util/List;" (.ref xS) := oSta_keep f173_1 K174 (allS (oExS R_172.1) all0)
  show oWP ω γ k0 _ T_174 44 #[.val (.int p0), .val (.int p1), .val (.int p2), .val (.int p3), .val (.int p4), .val (.int p5), .val (.int f), .val (.int st), .val (.int sa), .val (.int sb), .val (.int sc), .unset, .unset, .unset, .unset, .unset] [.ref a_172]
  refine ow_astore X_174 46 (L' := #[.val (.int p0), .val (.int p1), .val (.int p2), .val (.int p3), .val (.int p4), .val (.int p5), .val (.int f), .val (.int st), .val (.int sa), .val (.int sb), .val (.int sc), .val (.ref a_172), .unset, .unset, .unset, .unset]) at_44 rfl rfl rfl ?_
  refine ow_new X_174 49 37 38 39 rfl rfl rfl rfl at_46 rfl (by decide) (by decide) ?_
  intro T_176 h_176 a_176 q_176 X_176 E_176 A_176 D_176 g_176
  have ne_a_172_a_176 : a_172 ≠ a_176 := by rw [q_176]; exact Nat.ne_of_lt R174.lt
  have ne_aN_a_176 : aN ≠ a_176 := by rw [q_176]; exact Nat.ne_of_lt AaN174.lt
  have ne_aL_a_176 : aL ≠ a_176 := by rw [q_176]; exact Nat.ne_of_lt AaL174.lt
  have ne_aP_a_176 : aP ≠ a_176 := by rw [q_176]; exact Nat.ne_of_lt AaP174.lt
  have f177_0 : Sta Z h_176 "java/lang/Throwable" "UNASSIGNED_STACK" "[Ljava/lang/StackTraceElement;" (.ref xU) := Sta.ext E_176 f175_0
  have f177_1 : Sta Z h_176 "java/lang/Throwable" "SUPPRESSED_SENTINEL" "Ljava/util/List;" (.ref xS) := Sta.ext E_176 f175_1
  have f177_2 : TC Z h_176 a_172 (.int (0 : Int32)) (.int (-1 : Int32)) (.ref aN) (.ref aJ) (.ref aD) (.ref aC) (.ref aT) (.ref aR) (.ref aF) (.ref aL) (.int (0 : Int32)) (.int (-1 : Int32)) (.ref aP) := R174.ext E_176
  have f177_3 : oA Z h_176 aN .int 0 (fun i_ => .int (oZI i_)) := AaN174.ext E_176
  have f177_4 : oA Z h_176 aL .int 16 (fun i_ => .int (oZI i_)) := AaL174.ext E_176
  have f177_5 : oA Z h_176 aP .int 16 (fun i_ => .int (oZI i_)) := AaP174.ext E_176
  have R_176 : BX Z h_176 a_176 .null .null .null .null (.long (0 : Int64)) := ⟨A_176, D_176 (Or.inl (oSt_at X_176 63 rfl)) (ty := (.object "java/lang/Throwable")) (by decide), D_176 (Or.inl (oSt_at X_176 66 rfl)) (ty := (.array (.object "java/lang/StackTraceElement"))) (by decide), D_176 (Or.inl (oSt_at X_176 69 rfl)) (ty := (.object "java/util/List")) (by decide), D_176 (Or.inl (oSt_at X_176 71 rfl)) (ty := (.object "java/lang/String")) (by decide), D_176 (Or.inr (oSt_at X_176 73 rfl)) (ty := .long) (by decide)⟩
  refine ow_dup X_176 50 at_49 rfl rfl ?_
  refine ow_ldcStr X_176 52 40 36 rfl rfl own_sA (by decide +kernel) (by decide) (by decide) (by decide) at_50 rfl ?_
  intro γ T_178 h_178 a_178 X_178 E_178
  have f179_0 : Sta Z h_178 "java/lang/Throwable" "UNASSIGNED_STACK" "[Ljava/lang/StackTraceElement;" (.ref xU) := Sta.ext E_178 f177_0
  have f179_1 : Sta Z h_178 "java/lang/Throwable" "SUPPRESSED_SENTINEL" "Ljava/util/List;" (.ref xS) := Sta.ext E_178 f177_1
  have f179_2 : TC Z h_178 a_172 (.int (0 : Int32)) (.int (-1 : Int32)) (.ref aN) (.ref aJ) (.ref aD) (.ref aC) (.ref aT) (.ref aR) (.ref aF) (.ref aL) (.int (0 : Int32)) (.int (-1 : Int32)) (.ref aP) := f177_2.ext E_178
  have f179_3 : oA Z h_178 aN .int 0 (fun i_ => .int (oZI i_)) := f177_3.ext E_178
  have f179_4 : oA Z h_178 aL .int 16 (fun i_ => .int (oZI i_)) := f177_4.ext E_178
  have f179_5 : oA Z h_178 aP .int 16 (fun i_ => .int (oZI i_)) := f177_5.ext E_178
  have f179_6 : BX Z h_178 a_176 .null .null .null .null (.long (0 : Int64)) := R_176.ext E_178
  refine ow_lconst X_178 53 (0 : Int64) at_52 rfl rfl ?_
  refine ow_callC X_178 56 47 48 39 49 (κ' := k3) (as := [.ref a_178, .long (0 : Int64)]) (S := [.ref a_176]) (W := 1) rfl rfl rfl rfl rfl rfl rfl (by decide) (C_ber (oSt_w X_178) (oSt_n0 X_178) a_176 a_178 xU xS f179_6 f179_0 f179_1 g_176) (by decide) (by decide) (Nat.le_of_eq rfl) (by decide) (by decide) pd3 rfl rfl rfl at_53 rfl ?_
  intro γ v_180 T_180 h_180 X_180 q_180
  obtain ⟨rfl, K180, R180⟩ := q_180
  have f181_0 : TC Z h_180 a_172 (.int (0 : Int32)) (.int (-1 : Int32)) (.ref aN) (.ref aJ) (.ref aD) (.ref aC) (.ref aT) (.ref aR) (.ref aF) (.ref aL) (.int (0 : Int32)) (.int (-1 : Int32)) (.ref aP) := f179_2.keep K180 (ninS ne_a_172_a_176 nin0)
  have f181_1 : oA Z h_180 aN .int 0 (fun i_ => .int (oZI i_)) := f179_3.keep K180 (ninS ne_aN_a_176 nin0)
  have f181_2 : oA Z h_180 aL .int 16 (fun i_ => .int (oZI i_)) := f179_4.keep K180 (ninS ne_aL_a_176 nin0)
  have f181_3 : oA Z h_180 aP .int 16 (fun i_ => .int (oZI i_)) := f179_5.keep K180 (ninS ne_aP_a_176 nin0)
  show oWP ω γ k0 _ T_180 56 #[.val (.int p0), .val (.int p1), .val (.int p2), .val (.int p3), .val (.int p4), .val (.int p5), .val (.int f), .val (.int st), .val (.int sa), .val (.int sb), .val (.int sc), .val (.ref a_172), .unset, .unset, .unset, .unset] [.ref a_176]
  refine ow_astore X_180 58 (L' := #[.val (.int p0), .val (.int p1), .val (.int p2), .val (.int p3), .val (.int p4), .val (.int p5), .val (.int f), .val (.int st), .val (.int sa), .val (.int sb), .val (.int sc), .val (.ref a_172), .val (.ref a_176), .unset, .unset, .unset]) at_56 rfl rfl rfl ?_
  refine ow_aload X_180 60 at_58 rfl rfl rfl ?_
  refine ow_iload X_180 62 at_60 rfl rfl ?_
  refine ow_iload X_180 64 at_62 rfl rfl ?_
  refine ow_bipush X_180 66 (8 : Int32) at_64 rfl rfl ?_
  refine ow_iadd X_180 67 at_66 rfl ?_
  refine ow_callV X_180 70 74 75 77 76 78 4 (κ' := k6) (as := [.int f, .int (f + (8 : Int32))]) (S := []) (W := 0) rfl rfl rfl rfl rfl rfl rfl (by decide) f181_0.1 (C_reset (oSt_w X_180) (oSt_n0 X_180) a_172 aN f (f + (8 : Int32)) (9 : Int32) _ _ _ _ _ _ _ _ _ _ _ f181_0 f181_1 g_172 (oNd nd174 0 1 (by decide) rfl rfl) (own_hz f) (by decide) (by decide)) (by decide) (by decide) (Nat.le_of_eq rfl) (by decide) (by decide) pd6 rfl rfl rfl at_67 rfl ?_
  intro γ v_182 T_182 h_182 X_182 q_182
  obtain ⟨rfl, aN1, aJ1, aD1, aC1, aT1, aR1, aF1, K182, nd182, gs182, fr182, R182, Fs182⟩ := q_182
  have ne_aN_aN1 : aN ≠ aN1 := Nat.ne_of_lt (Nat.lt_of_lt_of_le f181_1.lt (fr182 _ (List.mem_of_getElem? (i := 0) rfl)))
  have ne_aN_aJ1 : aN ≠ aJ1 := Nat.ne_of_lt (Nat.lt_of_lt_of_le f181_1.lt (fr182 _ (List.mem_of_getElem? (i := 1) rfl)))
  have ne_aN_aD1 : aN ≠ aD1 := Nat.ne_of_lt (Nat.lt_of_lt_of_le f181_1.lt (fr182 _ (List.mem_of_getElem? (i := 2) rfl)))
  have ne_aN_aC1 : aN ≠ aC1 := Nat.ne_of_lt (Nat.lt_of_lt_of_le f181_1.lt (fr182 _ (List.mem_of_getElem? (i := 3) rfl)))
  have ne_aN_aT1 : aN ≠ aT1 := Nat.ne_of_lt (Nat.lt_of_lt_of_le f181_1.lt (fr182 _ (List.mem_of_getElem? (i := 4) rfl)))
  have ne_aN_aR1 : aN ≠ aR1 := Nat.ne_of_lt (Nat.lt_of_lt_of_le f181_1.lt (fr182 _ (List.mem_of_getElem? (i := 5) rfl)))
  have ne_aN_aF1 : aN ≠ aF1 := Nat.ne_of_lt (Nat.lt_of_lt_of_le f181_1.lt (fr182 _ (List.mem_of_getElem? (i := 6) rfl)))
  have ne_aL_aN1 : aL ≠ aN1 := Nat.ne_of_lt (Nat.lt_of_lt_of_le f181_2.lt (fr182 _ (List.mem_of_getElem? (i := 0) rfl)))
  have ne_aL_aJ1 : aL ≠ aJ1 := Nat.ne_of_lt (Nat.lt_of_lt_of_le f181_2.lt (fr182 _ (List.mem_of_getElem? (i := 1) rfl)))
  have ne_aL_aD1 : aL ≠ aD1 := Nat.ne_of_lt (Nat.lt_of_lt_of_le f181_2.lt (fr182 _ (List.mem_of_getElem? (i := 2) rfl)))
  have ne_aL_aC1 : aL ≠ aC1 := Nat.ne_of_lt (Nat.lt_of_lt_of_le f181_2.lt (fr182 _ (List.mem_of_getElem? (i := 3) rfl)))
  have ne_aL_aT1 : aL ≠ aT1 := Nat.ne_of_lt (Nat.lt_of_lt_of_le f181_2.lt (fr182 _ (List.mem_of_getElem? (i := 4) rfl)))
  have ne_aL_aR1 : aL ≠ aR1 := Nat.ne_of_lt (Nat.lt_of_lt_of_le f181_2.lt (fr182 _ (List.mem_of_getElem? (i := 5) rfl)))
  have ne_aL_aF1 : aL ≠ aF1 := Nat.ne_of_lt (Nat.lt_of_lt_of_le f181_2.lt (fr182 _ (List.mem_of_getElem? (i := 6) rfl)))
  have ne_aP_aN1 : aP ≠ aN1 := Nat.ne_of_lt (Nat.lt_of_lt_of_le f181_3.lt (fr182 _ (List.mem_of_getElem? (i := 0) rfl)))
  have ne_aP_aJ1 : aP ≠ aJ1 := Nat.ne_of_lt (Nat.lt_of_lt_of_le f181_3.lt (fr182 _ (List.mem_of_getElem? (i := 1) rfl)))
  have ne_aP_aD1 : aP ≠ aD1 := Nat.ne_of_lt (Nat.lt_of_lt_of_le f181_3.lt (fr182 _ (List.mem_of_getElem? (i := 2) rfl)))
  have ne_aP_aC1 : aP ≠ aC1 := Nat.ne_of_lt (Nat.lt_of_lt_of_le f181_3.lt (fr182 _ (List.mem_of_getElem? (i := 3) rfl)))
  have ne_aP_aT1 : aP ≠ aT1 := Nat.ne_of_lt (Nat.lt_of_lt_of_le f181_3.lt (fr182 _ (List.mem_of_getElem? (i := 4) rfl)))
  have ne_aP_aR1 : aP ≠ aR1 := Nat.ne_of_lt (Nat.lt_of_lt_of_le f181_3.lt (fr182 _ (List.mem_of_getElem? (i := 5) rfl)))
  have ne_aP_aF1 : aP ≠ aF1 := Nat.ne_of_lt (Nat.lt_of_lt_of_le f181_3.lt (fr182 _ (List.mem_of_getElem? (i := 6) rfl)))
  have ne_a_176_aN1 : a_176 ≠ aN1 := Nat.ne_of_lt (Nat.lt_of_lt_of_le R180.lt (fr182 _ (List.mem_of_getElem? (i := 0) rfl)))
  have ne_a_176_aJ1 : a_176 ≠ aJ1 := Nat.ne_of_lt (Nat.lt_of_lt_of_le R180.lt (fr182 _ (List.mem_of_getElem? (i := 1) rfl)))
  have ne_a_176_aD1 : a_176 ≠ aD1 := Nat.ne_of_lt (Nat.lt_of_lt_of_le R180.lt (fr182 _ (List.mem_of_getElem? (i := 2) rfl)))
  have ne_a_176_aC1 : a_176 ≠ aC1 := Nat.ne_of_lt (Nat.lt_of_lt_of_le R180.lt (fr182 _ (List.mem_of_getElem? (i := 3) rfl)))
  have ne_a_176_aT1 : a_176 ≠ aT1 := Nat.ne_of_lt (Nat.lt_of_lt_of_le R180.lt (fr182 _ (List.mem_of_getElem? (i := 4) rfl)))
  have ne_a_176_aR1 : a_176 ≠ aR1 := Nat.ne_of_lt (Nat.lt_of_lt_of_le R180.lt (fr182 _ (List.mem_of_getElem? (i := 5) rfl)))
  have ne_a_176_aF1 : a_176 ≠ aF1 := Nat.ne_of_lt (Nat.lt_of_lt_of_le R180.lt (fr182 _ (List.mem_of_getElem? (i := 6) rfl)))
  have f183_2 : oA Z h_182 aL .int 16 (fun i_ => .int (oZI i_)) := f181_2.keep K182 (ninS (oNd nd174 8 0 (by decide) rfl rfl) nin0)
  have f183_3 : oA Z h_182 aP .int 16 (fun i_ => .int (oZI i_)) := f181_3.keep K182 (ninS (oNd nd174 9 0 (by decide) rfl rfl) nin0)
  have f183_4 : BX Z h_182 a_176 .null .null .null (.ref a_178) (.long (0 : Int64)) := R180.keep K182 (ninS (Ne.symm ne_a_172_a_176) nin0)
  obtain ⟨AaN1, AaJ1, AaD1, AaC1, AaT1, AaR1, AaF1, OvF⟩ := Fs182
  show oWP ω γ k0 _ T_182 70 #[.val (.int p0), .val (.int p1), .val (.int p2), .val (.int p3), .val (.int p4), .val (.int p5), .val (.int f), .val (.int st), .val (.int sa), .val (.int sb), .val (.int sc), .val (.ref a_172), .val (.ref a_176), .unset, .unset, .unset] []
  refine ow_aload X_182 72 at_70 rfl rfl rfl ?_
  refine ow_iload X_182 74 at_72 rfl rfl ?_
  refine ow_iload X_182 76 at_74 rfl rfl ?_
  refine ow_iadd X_182 77 at_76 rfl ?_
  refine ow_aload X_182 79 at_77 rfl rfl rfl ?_
  refine ow_callV X_182 82 92 93 95 94 96 4 (κ' := k9) (as := [.int (f + st), .ref a_176]) (S := []) (W := 0) rfl rfl rfl rfl rfl rfl rfl (by decide) R182.1 (C_stops (oSt_w X_182) (oSt_n0 X_182) a_172 aL aN1 aJ1 aD1 aF1 a_176 (f + st) f (0 : Int32) ((9 : Int32).toInt.toNat) oZI oZI oZI oZI (fun _ => .null) _ _ _ _ _ _ R182 AaN1 AaJ1 AaD1 AaF1 f183_2 f183_4.1 OvF (List.nodup_cons.mpr ⟨(ninS (oNd nd174 0 8 (by decide) rfl rfl) (ninS (oNd nd182 0 1 (by decide) rfl rfl) (ninS (oNd nd182 0 2 (by decide) rfl rfl) (ninS (oNd nd182 0 3 (by decide) rfl rfl) (ninS (oNd nd182 0 7 (by decide) rfl rfl) nin0))))), (List.nodup_cons.mpr ⟨(ninS ne_aL_aN1 (ninS ne_aL_aJ1 (ninS ne_aL_aD1 (ninS ne_aL_aF1 nin0)))), (List.nodup_cons.mpr ⟨(ninS (oNd nd182 1 2 (by decide) rfl rfl) (ninS (oNd nd182 1 3 (by decide) rfl rfl) (ninS (oNd nd182 1 7 (by decide) rfl rfl) nin0))), (List.nodup_cons.mpr ⟨(ninS (oNd nd182 2 3 (by decide) rfl rfl) (ninS (oNd nd182 2 7 (by decide) rfl rfl) nin0)), (List.nodup_cons.mpr ⟨(ninS (oNd nd182 3 7 (by decide) rfl rfl) nin0), (List.nodup_cons.mpr ⟨nin0, List.nodup_nil⟩)⟩)⟩)⟩)⟩)⟩) (allS g_172 (allS (gs174 _ (List.mem_of_getElem? (i := 8) rfl)) (allS (gs182 _ (List.mem_of_getElem? (i := 1) rfl)) (allS (gs182 _ (List.mem_of_getElem? (i := 2) rfl)) (allS (gs182 _ (List.mem_of_getElem? (i := 3) rfl)) (allS (gs182 _ (List.mem_of_getElem? (i := 7) rfl)) all0)))))) (by decide) (by decide) (by omega) (by omega)) (by decide) (by decide) (Nat.le_of_eq rfl) (by decide) (by decide) pd9 rfl rfl rfl at_79 rfl ?_
  intro γ v_184 T_184 h_184 X_184 q_184
  obtain ⟨rfl, K184, R184, AN184, AJ184, AD184, AL184⟩ := q_184
  have f185_1 : oA Z h_184 aP .int 16 (fun i_ => .int (oZI i_)) := f183_3.keep K184 (ninS (oNd nd174 9 0 (by decide) rfl rfl) (ninS (oNd nd174 9 8 (by decide) rfl rfl) (ninS ne_aP_aN1 (ninS ne_aP_aJ1 (ninS ne_aP_aD1 (ninS ne_aP_aF1 nin0))))))
  have f185_6 : oA Z h_184 aC1 .byte ((9 : Int32).toInt.toNat) (fun i_ => .int (oZI i_)) := AaC1.keep K184 (ninS (oNd nd182 4 0 (by decide) rfl rfl) (ninS (Ne.symm ne_aL_aC1) (ninS (oNd nd182 4 1 (by decide) rfl rfl) (ninS (oNd nd182 4 2 (by decide) rfl rfl) (ninS (oNd nd182 4 3 (by decide) rfl rfl) (ninS (oNd nd182 4 7 (by decide) rfl rfl) nin0))))))
  have f185_7 : oA Z h_184 aT1 .int ((9 : Int32).toInt.toNat) (fun i_ => .int (oZI i_)) := AaT1.keep K184 (ninS (oNd nd182 5 0 (by decide) rfl rfl) (ninS (Ne.symm ne_aL_aT1) (ninS (oNd nd182 5 1 (by decide) rfl rfl) (ninS (oNd nd182 5 2 (by decide) rfl rfl) (ninS (oNd nd182 5 3 (by decide) rfl rfl) (ninS (oNd nd182 5 7 (by decide) rfl rfl) nin0))))))
  have f185_8 : oA Z h_184 aR1 .int ((9 : Int32).toInt.toNat) (fun i_ => .int (oZI i_)) := AaR1.keep K184 (ninS (oNd nd182 6 0 (by decide) rfl rfl) (ninS (Ne.symm ne_aL_aR1) (ninS (oNd nd182 6 1 (by decide) rfl rfl) (ninS (oNd nd182 6 2 (by decide) rfl rfl) (ninS (oNd nd182 6 3 (by decide) rfl rfl) (ninS (oNd nd182 6 7 (by decide) rfl rfl) nin0))))))
  show oWP ω γ k0 _ T_184 82 #[.val (.int p0), .val (.int p1), .val (.int p2), .val (.int p3), .val (.int p4), .val (.int p5), .val (.int f), .val (.int st), .val (.int sa), .val (.int sb), .val (.int sc), .val (.ref a_172), .val (.ref a_176), .unset, .unset, .unset] []
  refine ow_aload X_184 84 at_82 rfl rfl rfl ?_
  refine ow_iload X_184 86 at_84 rfl rfl ?_
  refine ow_iload X_184 88 at_86 rfl rfl ?_
  refine ow_iadd X_184 89 at_88 rfl ?_
  refine ow_iload X_184 91 at_89 rfl rfl ?_
  refine ow_iload X_184 93 at_91 rfl rfl ?_
  refine ow_iadd X_184 94 at_93 rfl ?_
  refine ow_iload X_184 96 at_94 rfl rfl ?_
  refine ow_iload X_184 98 at_96 rfl rfl ?_
  have eJ1 : (oUpd oZI ((f + st) - f).toInt.toNat (f + st)) (f + st - f).toInt.toNat = f + st := oUpd_hit _ _ _
  refine ow_callV X_184 101 102 103 105 104 106 4 (κ' := k11) (as := [.int (f + sa), .int (f + st), .int p4, .int p5]) (S := []) (W := 0) rfl rfl rfl rfl rfl rfl rfl (by decide) R184.1 (C_link (oSt_w X_184) (oSt_n0 X_184) a_172 aL aN1 aJ1 aD1 aC1 aT1 (f + sa) (f + st) p4 p5 f ((0 : Int32) + (1 : Int32)) ((9 : Int32).toInt.toNat) (oUpd oZI ((f + st) - f).toInt.toNat (-1 : Int32)) (oUpd oZI ((f + st) - f).toInt.toNat (f + st)) (oUpd oZI ((f + st) - f).toInt.toNat (0 : Int32)) oZI oZI (oUpd oZI (0 : Int32).toInt.toNat (f + st)) _ _ _ _ _ R184 AN184 AJ184 AD184 f185_6 f185_7 AL184 (List.nodup_cons.mpr ⟨(ninS (oNd nd174 0 8 (by decide) rfl rfl) (ninS (oNd nd182 0 1 (by decide) rfl rfl) (ninS (oNd nd182 0 2 (by decide) rfl rfl) (ninS (oNd nd182 0 3 (by decide) rfl rfl) (ninS (oNd nd182 0 4 (by decide) rfl rfl) (ninS (oNd nd182 0 5 (by decide) rfl rfl) nin0)))))), (List.nodup_cons.mpr ⟨(ninS ne_aL_aN1 (ninS ne_aL_aJ1 (ninS ne_aL_aD1 (ninS ne_aL_aC1 (ninS ne_aL_aT1 nin0))))), (List.nodup_cons.mpr ⟨(ninS (oNd nd182 1 2 (by decide) rfl rfl) (ninS (oNd nd182 1 3 (by decide) rfl rfl) (ninS (oNd nd182 1 4 (by decide) rfl rfl) (ninS (oNd nd182 1 5 (by decide) rfl rfl) nin0)))), (List.nodup_cons.mpr ⟨(ninS (oNd nd182 2 3 (by decide) rfl rfl) (ninS (oNd nd182 2 4 (by decide) rfl rfl) (ninS (oNd nd182 2 5 (by decide) rfl rfl) nin0))), (List.nodup_cons.mpr ⟨(ninS (oNd nd182 3 4 (by decide) rfl rfl) (ninS (oNd nd182 3 5 (by decide) rfl rfl) nin0)), (List.nodup_cons.mpr ⟨(ninS (oNd nd182 4 5 (by decide) rfl rfl) nin0), (List.nodup_cons.mpr ⟨nin0, List.nodup_nil⟩)⟩)⟩)⟩)⟩)⟩)⟩) (allS g_172 (allS (gs174 _ (List.mem_of_getElem? (i := 8) rfl)) (allS (gs182 _ (List.mem_of_getElem? (i := 1) rfl)) (allS (gs182 _ (List.mem_of_getElem? (i := 2) rfl)) (allS (gs182 _ (List.mem_of_getElem? (i := 3) rfl)) (allS (gs182 _ (List.mem_of_getElem? (i := 4) rfl)) (allS (gs182 _ (List.mem_of_getElem? (i := 5) rfl)) all0))))))) (by decide) (by decide) (by omega) (by omega) (by omega) (by omega) (by rw [eJ1]; omega) (by rw [eJ1]; omega) (by rw [eJ1, eJ1]; omega) (by rw [eJ1, eJ1]; omega)) (by decide) (by decide) (Nat.le_of_eq rfl) (by decide) (by decide) pd11 rfl rfl rfl at_98 rfl ?_
  intro γ v_186 T_186 h_186 X_186 q_186
  obtain ⟨rfl, K186, R186, AN186, ⟨jv186, AJ186, hjv186⟩, ⟨D186, AD186⟩, AC186, AT186, AL186⟩ := q_186
  have f187_0 : oA Z h_186 aP .int 16 (fun i_ => .int (oZI i_)) := f185_1.keep K186 (ninS (oNd nd174 9 0 (by decide) rfl rfl) (ninS (oNd nd174 9 8 (by decide) rfl rfl) (ninS ne_aP_aN1 (ninS ne_aP_aJ1 (ninS ne_aP_aD1 (ninS ne_aP_aC1 (ninS ne_aP_aT1 nin0)))))))
  have f187_3 : oA Z h_186 aR1 .int ((9 : Int32).toInt.toNat) (fun i_ => .int (oZI i_)) := f185_8.keep K186 (ninS (oNd nd182 6 0 (by decide) rfl rfl) (ninS (Ne.symm ne_aL_aR1) (ninS (oNd nd182 6 1 (by decide) rfl rfl) (ninS (oNd nd182 6 2 (by decide) rfl rfl) (ninS (oNd nd182 6 3 (by decide) rfl rfl) (ninS (oNd nd182 6 4 (by decide) rfl rfl) (ninS (oNd nd182 6 5 (by decide) rfl rfl) nin0)))))))
  show oWP ω γ k0 _ T_186 101 #[.val (.int p0), .val (.int p1), .val (.int p2), .val (.int p3), .val (.int p4), .val (.int p5), .val (.int f), .val (.int st), .val (.int sa), .val (.int sb), .val (.int sc), .val (.ref a_172), .val (.ref a_176), .unset, .unset, .unset] []
  refine ow_aload X_186 103 at_101 rfl rfl rfl ?_
  refine ow_iload X_186 105 at_103 rfl rfl ?_
  refine ow_iload X_186 107 at_105 rfl rfl ?_
  refine ow_iadd X_186 108 at_107 rfl ?_
  refine ow_iload X_186 110 at_108 rfl rfl ?_
  refine ow_iload X_186 112 at_110 rfl rfl ?_
  refine ow_iadd X_186 113 at_112 rfl ?_
  refine ow_iload X_186 115 at_113 rfl rfl ?_
  refine ow_iload X_186 117 at_115 rfl rfl ?_
  have ej1 : jv186 = f + st := by
    rcases hjv186 with e | e
    · exact e
    · rw [e, eJ1, eJ1]
  have eJa : (oUpd (oUpd oZI ((f + st) - f).toInt.toNat (f + st)) ((f + sa) - f).toInt.toNat jv186) (f + sa - f).toInt.toNat = f + st := (oUpd_hit _ _ _).trans ej1
  have eJs : (oUpd (oUpd oZI ((f + st) - f).toInt.toNat (f + st)) ((f + sa) - f).toInt.toNat jv186) (f + st - f).toInt.toNat = f + st := (oUpd_miss _ _ (by omega)).trans eJ1
  refine ow_callV X_186 120 102 103 105 104 106 4 (κ' := k11) (as := [.int (f + sb), .int (f + sa), .int p5, .int p4]) (S := []) (W := 0) rfl rfl rfl rfl rfl rfl rfl (by decide) R186.1 (C_link (oSt_w X_186) (oSt_n0 X_186) a_172 aL aN1 aJ1 aD1 aC1 aT1 (f + sb) (f + sa) p5 p4 f (((0 : Int32) + (1 : Int32)) + (1 : Int32)) ((9 : Int32).toInt.toNat) (oUpd (oUpd oZI ((f + st) - f).toInt.toNat (-1 : Int32)) ((f + sa) - f).toInt.toNat (f + st)) (oUpd (oUpd oZI ((f + st) - f).toInt.toNat (f + st)) ((f + sa) - f).toInt.toNat jv186) D186 (oUpd oZI ((f + sa) - f).toInt.toNat (p4.toInt8.toInt32.toInt8.toInt32)) (oUpd oZI ((f + sa) - f).toInt.toNat p5) (oUpd (oUpd oZI (0 : Int32).toInt.toNat (f + st)) ((0 : Int32) + (1 : Int32)).toInt.toNat (f + sa)) _ _ _ _ _ R186 AN186 AJ186 AD186 AC186 AT186 AL186 (List.nodup_cons.mpr ⟨(ninS (oNd nd174 0 8 (by decide) rfl rfl) (ninS (oNd nd182 0 1 (by decide) rfl rfl) (ninS (oNd nd182 0 2 (by decide) rfl rfl) (ninS (oNd nd182 0 3 (by decide) rfl rfl) (ninS (oNd nd182 0 4 (by decide) rfl rfl) (ninS (oNd nd182 0 5 (by decide) rfl rfl) nin0)))))), (List.nodup_cons.mpr ⟨(ninS ne_aL_aN1 (ninS ne_aL_aJ1 (ninS ne_aL_aD1 (ninS ne_aL_aC1 (ninS ne_aL_aT1 nin0))))), (List.nodup_cons.mpr ⟨(ninS (oNd nd182 1 2 (by decide) rfl rfl) (ninS (oNd nd182 1 3 (by decide) rfl rfl) (ninS (oNd nd182 1 4 (by decide) rfl rfl) (ninS (oNd nd182 1 5 (by decide) rfl rfl) nin0)))), (List.nodup_cons.mpr ⟨(ninS (oNd nd182 2 3 (by decide) rfl rfl) (ninS (oNd nd182 2 4 (by decide) rfl rfl) (ninS (oNd nd182 2 5 (by decide) rfl rfl) nin0))), (List.nodup_cons.mpr ⟨(ninS (oNd nd182 3 4 (by decide) rfl rfl) (ninS (oNd nd182 3 5 (by decide) rfl rfl) nin0)), (List.nodup_cons.mpr ⟨(ninS (oNd nd182 4 5 (by decide) rfl rfl) nin0), (List.nodup_cons.mpr ⟨nin0, List.nodup_nil⟩)⟩)⟩)⟩)⟩)⟩)⟩) (allS g_172 (allS (gs174 _ (List.mem_of_getElem? (i := 8) rfl)) (allS (gs182 _ (List.mem_of_getElem? (i := 1) rfl)) (allS (gs182 _ (List.mem_of_getElem? (i := 2) rfl)) (allS (gs182 _ (List.mem_of_getElem? (i := 3) rfl)) (allS (gs182 _ (List.mem_of_getElem? (i := 4) rfl)) (allS (gs182 _ (List.mem_of_getElem? (i := 5) rfl)) all0))))))) (by decide) (by decide) (by omega) (by omega) (by omega) (by omega) (by rw [eJa]; omega) (by rw [eJa]; omega) (by rw [eJa, eJs]; omega) (by rw [eJa, eJs]; omega)) (by decide) (by decide) (Nat.le_of_eq rfl) (by decide) (by decide) pd11 rfl rfl rfl at_117 rfl ?_
  intro γ v_188 T_188 h_188 X_188 q_188
  obtain ⟨rfl, K188, R188, AN188, ⟨jv188, AJ188, hjv188⟩, ⟨D188, AD188⟩, AC188, AT188, AL188⟩ := q_188
  have f189_0 : oA Z h_188 aP .int 16 (fun i_ => .int (oZI i_)) := f187_0.keep K188 (ninS (oNd nd174 9 0 (by decide) rfl rfl) (ninS (oNd nd174 9 8 (by decide) rfl rfl) (ninS ne_aP_aN1 (ninS ne_aP_aJ1 (ninS ne_aP_aD1 (ninS ne_aP_aC1 (ninS ne_aP_aT1 nin0)))))))
  have f189_1 : oA Z h_188 aR1 .int ((9 : Int32).toInt.toNat) (fun i_ => .int (oZI i_)) := f187_3.keep K188 (ninS (oNd nd182 6 0 (by decide) rfl rfl) (ninS (Ne.symm ne_aL_aR1) (ninS (oNd nd182 6 1 (by decide) rfl rfl) (ninS (oNd nd182 6 2 (by decide) rfl rfl) (ninS (oNd nd182 6 3 (by decide) rfl rfl) (ninS (oNd nd182 6 4 (by decide) rfl rfl) (ninS (oNd nd182 6 5 (by decide) rfl rfl) nin0)))))))
  show oWP ω γ k0 _ T_188 120 #[.val (.int p0), .val (.int p1), .val (.int p2), .val (.int p3), .val (.int p4), .val (.int p5), .val (.int f), .val (.int st), .val (.int sa), .val (.int sb), .val (.int sc), .val (.ref a_172), .val (.ref a_176), .unset, .unset, .unset] []
  refine ow_aload X_188 122 at_120 rfl rfl rfl ?_
  refine ow_iload X_188 124 at_122 rfl rfl ?_
  refine ow_iload X_188 126 at_124 rfl rfl ?_
  refine ow_iadd X_188 127 at_126 rfl ?_
  refine ow_iload X_188 129 at_127 rfl rfl ?_
  refine ow_iload X_188 131 at_129 rfl rfl ?_
  refine ow_iadd X_188 132 at_131 rfl ?_
  refine ow_iload X_188 134 at_132 rfl rfl ?_
  refine ow_iload X_188 136 at_134 rfl rfl ?_
  have eJt : (oUpd (oUpd (oUpd oZI ((f + st) - f).toInt.toNat (f + st)) ((f + sa) - f).toInt.toNat jv186) ((f + sb) - f).toInt.toNat jv188) (f + st - f).toInt.toNat = f + st := (oUpd_miss _ _ (by omega)).trans eJs
  refine ow_callV X_188 139 102 103 105 104 106 4 (κ' := k11) (as := [.int (f + sc), .int (f + st), .int p4, .int p4]) (S := []) (W := 0) rfl rfl rfl rfl rfl rfl rfl (by decide) R188.1 (C_link (oSt_w X_188) (oSt_n0 X_188) a_172 aL aN1 aJ1 aD1 aC1 aT1 (f + sc) (f + st) p4 p4 f ((((0 : Int32) + (1 : Int32)) + (1 : Int32)) + (1 : Int32)) ((9 : Int32).toInt.toNat) (oUpd (oUpd (oUpd oZI ((f + st) - f).toInt.toNat (-1 : Int32)) ((f + sa) - f).toInt.toNat (f + st)) ((f + sb) - f).toInt.toNat (f + sa)) (oUpd (oUpd (oUpd oZI ((f + st) - f).toInt.toNat (f + st)) ((f + sa) - f).toInt.toNat jv186) ((f + sb) - f).toInt.toNat jv188) D188 (oUpd (oUpd oZI ((f + sa) - f).toInt.toNat (p4.toInt8.toInt32.toInt8.toInt32)) ((f + sb) - f).toInt.toNat (p5.toInt8.toInt32.toInt8.toInt32)) (oUpd (oUpd oZI ((f + sa) - f).toInt.toNat p5) ((f + sb) - f).toInt.toNat p4) (oUpd (oUpd (oUpd oZI (0 : Int32).toInt.toNat (f + st)) ((0 : Int32) + (1 : Int32)).toInt.toNat (f + sa)) (((0 : Int32) + (1 : Int32)) + (1 : Int32)).toInt.toNat (f + sb)) _ _ _ _ _ R188 AN188 AJ188 AD188 AC188 AT188 AL188 (List.nodup_cons.mpr ⟨(ninS (oNd nd174 0 8 (by decide) rfl rfl) (ninS (oNd nd182 0 1 (by decide) rfl rfl) (ninS (oNd nd182 0 2 (by decide) rfl rfl) (ninS (oNd nd182 0 3 (by decide) rfl rfl) (ninS (oNd nd182 0 4 (by decide) rfl rfl) (ninS (oNd nd182 0 5 (by decide) rfl rfl) nin0)))))), (List.nodup_cons.mpr ⟨(ninS ne_aL_aN1 (ninS ne_aL_aJ1 (ninS ne_aL_aD1 (ninS ne_aL_aC1 (ninS ne_aL_aT1 nin0))))), (List.nodup_cons.mpr ⟨(ninS (oNd nd182 1 2 (by decide) rfl rfl) (ninS (oNd nd182 1 3 (by decide) rfl rfl) (ninS (oNd nd182 1 4 (by decide) rfl rfl) (ninS (oNd nd182 1 5 (by decide) rfl rfl) nin0)))), (List.nodup_cons.mpr ⟨(ninS (oNd nd182 2 3 (by decide) rfl rfl) (ninS (oNd nd182 2 4 (by decide) rfl rfl) (ninS (oNd nd182 2 5 (by decide) rfl rfl) nin0))), (List.nodup_cons.mpr ⟨(ninS (oNd nd182 3 4 (by decide) rfl rfl) (ninS (oNd nd182 3 5 (by decide) rfl rfl) nin0)), (List.nodup_cons.mpr ⟨(ninS (oNd nd182 4 5 (by decide) rfl rfl) nin0), (List.nodup_cons.mpr ⟨nin0, List.nodup_nil⟩)⟩)⟩)⟩)⟩)⟩)⟩) (allS g_172 (allS (gs174 _ (List.mem_of_getElem? (i := 8) rfl)) (allS (gs182 _ (List.mem_of_getElem? (i := 1) rfl)) (allS (gs182 _ (List.mem_of_getElem? (i := 2) rfl)) (allS (gs182 _ (List.mem_of_getElem? (i := 3) rfl)) (allS (gs182 _ (List.mem_of_getElem? (i := 4) rfl)) (allS (gs182 _ (List.mem_of_getElem? (i := 5) rfl)) all0))))))) (by decide) (by decide) (by omega) (by omega) (by omega) (by omega) (by rw [eJt]; omega) (by rw [eJt]; omega) (by rw [eJt, eJt]; omega) (by rw [eJt, eJt]; omega)) (by decide) (by decide) (Nat.le_of_eq rfl) (by decide) (by decide) pd11 rfl rfl rfl at_136 rfl ?_
  intro γ v_190 T_190 h_190 X_190 q_190
  obtain ⟨rfl, K190, R190, AN190, ⟨jv190, AJ190, hjv190⟩, ⟨D190, AD190⟩, AC190, AT190, AL190⟩ := q_190
  have f191_0 : oA Z h_190 aP .int 16 (fun i_ => .int (oZI i_)) := f189_0.keep K190 (ninS (oNd nd174 9 0 (by decide) rfl rfl) (ninS (oNd nd174 9 8 (by decide) rfl rfl) (ninS ne_aP_aN1 (ninS ne_aP_aJ1 (ninS ne_aP_aD1 (ninS ne_aP_aC1 (ninS ne_aP_aT1 nin0)))))))
  have f191_1 : oA Z h_190 aR1 .int ((9 : Int32).toInt.toNat) (fun i_ => .int (oZI i_)) := f189_1.keep K190 (ninS (oNd nd182 6 0 (by decide) rfl rfl) (ninS (Ne.symm ne_aL_aR1) (ninS (oNd nd182 6 1 (by decide) rfl rfl) (ninS (oNd nd182 6 2 (by decide) rfl rfl) (ninS (oNd nd182 6 3 (by decide) rfl rfl) (ninS (oNd nd182 6 4 (by decide) rfl rfl) (ninS (oNd nd182 6 5 (by decide) rfl rfl) nin0)))))))
  show oWP ω γ k0 _ T_190 139 #[.val (.int p0), .val (.int p1), .val (.int p2), .val (.int p3), .val (.int p4), .val (.int p5), .val (.int f), .val (.int st), .val (.int sa), .val (.int sb), .val (.int sc), .val (.ref a_172), .val (.ref a_176), .unset, .unset, .unset] []
  have eNb : (oUpd (oUpd (oUpd (oUpd oZI ((f + st) - f).toInt.toNat (-1 : Int32)) ((f + sa) - f).toInt.toNat (f + st)) ((f + sb) - f).toInt.toNat (f + sa)) ((f + sc) - f).toInt.toNat (f + st)) (f + sb - f).toInt.toNat = f + sa := (oUpd_miss _ _ (by omega)).trans (oUpd_hit _ _ _)
  have eNa : (oUpd (oUpd (oUpd (oUpd oZI ((f + st) - f).toInt.toNat (-1 : Int32)) ((f + sa) - f).toInt.toNat (f + st)) ((f + sb) - f).toInt.toNat (f + sa)) ((f + sc) - f).toInt.toNat (f + st)) (f + sa - f).toInt.toNat = f + st := (oUpd_miss _ _ (by omega)).trans ((oUpd_miss _ _ (by omega)).trans (oUpd_hit _ _ _))
  have eNc : (oUpd (oUpd (oUpd (oUpd oZI ((f + st) - f).toInt.toNat (-1 : Int32)) ((f + sa) - f).toInt.toNat (f + st)) ((f + sb) - f).toInt.toNat (f + sa)) ((f + sc) - f).toInt.toNat (f + st)) (f + sc - f).toInt.toNat = f + st := oUpd_hit _ _ _
  refine ow_aload X_190 141 at_139 rfl rfl rfl ?_
  refine ow_iload X_190 143 at_141 rfl rfl ?_
  refine ow_iload X_190 145 at_143 rfl rfl ?_
  refine ow_iadd X_190 146 at_145 rfl ?_
  refine ow_callV X_190 149 107 108 110 109 111 4 (κ' := k12) (as := [.int (f + sb)]) (S := []) (W := 0) rfl rfl rfl rfl rfl rfl rfl (by decide) R190.1 (C_end (oSt_w X_190) (oSt_n0 X_190) a_172 aN1 (f + sb) f ((9 : Int32).toInt.toNat) (oUpd (oUpd (oUpd (oUpd oZI ((f + st) - f).toInt.toNat (-1 : Int32)) ((f + sa) - f).toInt.toNat (f + st)) ((f + sb) - f).toInt.toNat (f + sa)) ((f + sc) - f).toInt.toNat (f + st)) _ _ _ _ _ _ _ _ _ _ _ R190 AN190 (by omega) (by omega) (by rw [eNb]; exact own_ps f sa hf (by omega))) (by decide) (by decide) (Nat.le_of_eq rfl) (by decide) (by decide) pd12 rfl rfl rfl at_146 rfl ?_
  intro γ v_192 T_192 h_192 X_192 q_192
  obtain ⟨rfl, rfl⟩ := q_192
  rw [eNb]
  show oWP ω γ k0 _ T_192 149 #[.val (.int p0), .val (.int p1), .val (.int p2), .val (.int p3), .val (.int p4), .val (.int p5), .val (.int f), .val (.int st), .val (.int sa), .val (.int sb), .val (.int sc), .val (.ref a_172), .val (.ref a_176), .unset, .unset, .unset] [.int (f + sa)]
  refine ow_istore X_192 151 (L' := #[.val (.int p0), .val (.int p1), .val (.int p2), .val (.int p3), .val (.int p4), .val (.int p5), .val (.int f), .val (.int st), .val (.int sa), .val (.int sb), .val (.int sc), .val (.ref a_172), .val (.ref a_176), .val (.int (f + sa)), .unset, .unset]) at_149 rfl rfl ?_
  refine ow_aload X_192 153 at_151 rfl rfl rfl ?_
  refine ow_iload X_192 155 at_153 rfl rfl ?_
  refine ow_iload X_192 157 at_155 rfl rfl ?_
  refine ow_iadd X_192 158 at_157 rfl ?_
  refine ow_callV X_192 161 107 108 110 109 111 4 (κ' := k12) (as := [.int (f + sa)]) (S := []) (W := 0) rfl rfl rfl rfl rfl rfl rfl (by decide) R190.1 (C_end (oSt_w X_192) (oSt_n0 X_192) a_172 aN1 (f + sa) f ((9 : Int32).toInt.toNat) (oUpd (oUpd (oUpd (oUpd oZI ((f + st) - f).toInt.toNat (-1 : Int32)) ((f + sa) - f).toInt.toNat (f + st)) ((f + sb) - f).toInt.toNat (f + sa)) ((f + sc) - f).toInt.toNat (f + st)) _ _ _ _ _ _ _ _ _ _ _ R190 AN190 (by omega) (by omega) (by rw [eNa]; exact own_ps f st hf (by omega))) (by decide) (by decide) (Nat.le_of_eq rfl) (by decide) (by decide) pd12 rfl rfl rfl at_158 rfl ?_
  intro γ v_193 T_193 h_193 X_193 q_193
  obtain ⟨rfl, rfl⟩ := q_193
  rw [eNa]
  show oWP ω γ k0 _ T_193 161 #[.val (.int p0), .val (.int p1), .val (.int p2), .val (.int p3), .val (.int p4), .val (.int p5), .val (.int f), .val (.int st), .val (.int sa), .val (.int sb), .val (.int sc), .val (.ref a_172), .val (.ref a_176), .val (.int (f + sa)), .unset, .unset] [.int (f + st)]
  refine ow_istore X_193 163 (L' := #[.val (.int p0), .val (.int p1), .val (.int p2), .val (.int p3), .val (.int p4), .val (.int p5), .val (.int f), .val (.int st), .val (.int sa), .val (.int sb), .val (.int sc), .val (.ref a_172), .val (.ref a_176), .val (.int (f + sa)), .val (.int (f + st)), .unset]) at_161 rfl rfl ?_
  refine ow_aload X_193 165 at_163 rfl rfl rfl ?_
  refine ow_iload X_193 167 at_165 rfl rfl ?_
  refine ow_iload X_193 169 at_167 rfl rfl ?_
  refine ow_iadd X_193 170 at_169 rfl ?_
  refine ow_callV X_193 173 107 108 110 109 111 4 (κ' := k12) (as := [.int (f + sc)]) (S := []) (W := 0) rfl rfl rfl rfl rfl rfl rfl (by decide) R190.1 (C_end (oSt_w X_193) (oSt_n0 X_193) a_172 aN1 (f + sc) f ((9 : Int32).toInt.toNat) (oUpd (oUpd (oUpd (oUpd oZI ((f + st) - f).toInt.toNat (-1 : Int32)) ((f + sa) - f).toInt.toNat (f + st)) ((f + sb) - f).toInt.toNat (f + sa)) ((f + sc) - f).toInt.toNat (f + st)) _ _ _ _ _ _ _ _ _ _ _ R190 AN190 (by omega) (by omega) (by rw [eNc]; exact own_ps f st hf (by omega))) (by decide) (by decide) (Nat.le_of_eq rfl) (by decide) (by decide) pd12 rfl rfl rfl at_170 rfl ?_
  intro γ v_194 T_194 h_194 X_194 q_194
  obtain ⟨rfl, rfl⟩ := q_194
  rw [eNc]
  show oWP ω γ k0 _ T_194 173 #[.val (.int p0), .val (.int p1), .val (.int p2), .val (.int p3), .val (.int p4), .val (.int p5), .val (.int f), .val (.int st), .val (.int sa), .val (.int sb), .val (.int sc), .val (.ref a_172), .val (.ref a_176), .val (.int (f + sa)), .val (.int (f + st)), .unset] [.int (f + st)]
  refine ow_istore X_194 175 (L' := #[.val (.int p0), .val (.int p1), .val (.int p2), .val (.int p3), .val (.int p4), .val (.int p5), .val (.int f), .val (.int st), .val (.int sa), .val (.int sb), .val (.int sc), .val (.ref a_172), .val (.ref a_176), .val (.int (f + sa)), .val (.int (f + st)), .val (.int (f + st))]) at_173 rfl rfl ?_
  refine ow_iload X_194 177 at_175 rfl rfl ?_
  refine ow_iload X_194 179 at_177 rfl rfl ?_
  refine ow_iload X_194 181 at_179 rfl rfl ?_
  refine ow_iadd X_194 182 at_181 rfl ?_
  refine ow_icmp_ne X_194 185 209 at_182 rfl rfl (fun (c182 : (f + sa).toInt ≠ (f + sa).toInt) => absurd rfl c182) (fun (c182 : (f + sa).toInt = (f + sa).toInt) => ?_)
  refine ow_iload X_194 187 at_185 rfl rfl ?_
  refine ow_iload X_194 189 at_187 rfl rfl ?_
  refine ow_iload X_194 191 at_189 rfl rfl ?_
  refine ow_iadd X_194 192 at_191 rfl ?_
  refine ow_icmp_ne X_194 195 209 at_192 rfl rfl (fun (c192 : (f + st).toInt ≠ (f + st).toInt) => absurd rfl c192) (fun (c192 : (f + st).toInt = (f + st).toInt) => ?_)
  refine ow_iload X_194 197 at_195 rfl rfl ?_
  refine ow_iload X_194 199 at_197 rfl rfl ?_
  refine ow_iload X_194 201 at_199 rfl rfl ?_
  refine ow_iadd X_194 202 at_201 rfl ?_
  refine ow_icmp_ne X_194 205 209 at_202 rfl rfl (fun (c202 : (f + st).toInt ≠ (f + st).toInt) => absurd rfl c202) (fun (c202 : (f + st).toInt = (f + st).toInt) => ?_)
  refine ow_iconst X_194 206 (1 : Int32) at_205 rfl rfl ?_
  refine ow_goto X_194 210 at_206 rfl ?_
  refine ow_retZ X_194 rfl at_210 (by decide) (by decide) (by decide) ?_
  rfl
set_option maxRecDepth 65536 in
set_option maxHeartbeats 4000000 in
theorem comes_1 {Post : Tables → Env → Array Value → State → Outcome → State → Prop} (hpost : ∀ tb e args s v u, (limb_1_1.after args s (.returned v) u = true ∧ limb_1_2.after args s (.returned v) u = true ∧ True) → ReturnedEndW s (.returned v) u (Jvm.fieldLocs frame_1_writes args s ++ Jvm.arrayLocs frame_1_arrays args s ++ Jvm.staticLocs frame_1_statics s) 48 1344 → Post tb e args s (.returned v) u) :
    ArmFor flags0 classFile x code maxLocals ret World_1 tables_1 room_1 Calls_1 rest_1 Pre_1 Post := by
  intro l hfl _ _ p e ha hc hk s m args below hf hA hF happ hP
  obtain ⟨hcalls, hrest, hpre⟩ := hP
  obtain ⟨-, -, -, hnamed, -, -, -, hat⟩ := (Spec.applies_iff hf).mp happ
  obtain ⟨hg, hn⟩ := and_e (Cond.before_iff.mp (show (Jvm.Cond.and given_1 narrow_1).before args s = true from hpre))
  obtain ⟨hcount, hg0⟩ := and_e hg
  obtain ⟨ha0, hg1⟩ := and_e hg0
  obtain ⟨ha1, hg2⟩ := and_e hg1
  obtain ⟨ha2, hg3⟩ := and_e hg2
  obtain ⟨ha3, hg4⟩ := and_e hg3
  obtain ⟨ha4, hg5⟩ := and_e hg4
  have ha5 := hg5
  obtain ⟨w0, w1, w2, w3, w4, w5, rfl⟩ : ∃ w0 w1 w2 w3 w4 w5 : Value, args = #[w0, w1, w2, w3, w4, w5] := by
    have hs : args.size = 6 := by simpa [Cond.value, given_1] using hcount
    obtain ⟨L⟩ := args
    match L, hs with
    | [w0, w1, w2, w3, w4, w5], _ => exact ⟨w0, w1, w2, w3, w4, w5, rfl⟩
  have hw := fun d (hd : d ∈ tables_1) => atoms_spec (ws := Jvm.Cond.code x code maxLocals ret :: tables_1) hat d (List.mem_cons_of_mem _ hd)
  have hfit : Fit s := fun {y c} hc i hi => by
    obtain ⟨ha, rfl⟩ := Array.getElem?_eq_some_iff.mp hc
    have q := List.all_eq_true.mp ((Array.all_eq_true_iff_forall_mem.mp hF) _ (Array.getElem_mem ha)) i (List.mem_range.mpr hi)
    simpa [Array.getElem?_eq_getElem hi] using q
  obtain ⟨i0, e0⟩ := is_v ha0
  obtain rfl : w0 = (.int i0) := Option.some.inj e0
  obtain ⟨i1, e1⟩ := is_v ha1
  obtain rfl : w1 = (.int i1) := Option.some.inj e1
  obtain ⟨i2, e2⟩ := is_v ha2
  obtain rfl : w2 = (.int i2) := Option.some.inj e2
  obtain ⟨i3, e3⟩ := is_v ha3
  obtain rfl : w3 = (.int i3) := Option.some.inj e3
  obtain ⟨i4, e4⟩ := is_v ha4
  obtain rfl : w4 = (.int i4) := Option.some.inj e4
  obtain ⟨i5, e5⟩ := is_v ha5
  obtain rfl : w5 = (.int i5) := Option.some.inj e5
  have hJ := own_fold jdkStatics_1 restOwn_1 (by rw [← rest_1_c_eq]; exact hrest)
  obtain ⟨xU, vU⟩ := arr_v (Cond.before_iff.mp (hJ _ (List.mem_of_getElem? (i := 8) rfl)))
  have SU : Sta s s.heap "java/lang/Throwable" "UNASSIGNED_STACK" "[Ljava/lang/StackTraceElement;" (.ref xU) := Sta.start vU (Or.inl (hJ _ (List.mem_of_getElem? (i := 6) rfl)))
  obtain ⟨xS, vS⟩ := exa_v (Cond.before_iff.mp (hJ _ (List.mem_of_getElem? (i := 13) rfl)))
  have SS : Sta s s.heap "java/lang/Throwable" "SUPPRESSED_SENTINEL" "Ljava/util/List;" (.ref xS) := Sta.start vS (Or.inl (hJ _ (List.mem_of_getElem? (i := 11) rfl)))
  obtain ⟨n, o, h1, h2, h3, _, L, rfl, ⟨N, rfl⟩, hq⟩ := C_law (Z := s) (ω := (l, s.heap.size, _)) hw (Nat.le_refl _) i0 i1 i2 i3 i4 i5 xU xS SU SS p e ha hc hk s m _ below hf ((Spec.applies_iff_loose hf).mp happ).1 ⟨rfl, State.Warmed39.refl s, rfl⟩ trivial
  refine ⟨n, _, h1, h2, h3, hpost _ _ _ _ _ _ ⟨Cond.after_iff.mpr rfl, Cond.after_iff.mpr (eq_i res_at (Term.int_eval (1)) rfl), trivial⟩ ⟨hq.1, hq.2.1, hq.2.2.1, (hq.2.2.2.sift fun y hy => Or.inr (N y hy)).mono (by decide) (by decide)⟩⟩
theorem main_1_1 : Claimed_1_1 := comes_1 fun _ _ _ _ _ _ h hF => ⟨h.1, hF⟩
theorem main_1_2 : Claimed_1_2 := comes_1 fun _ _ _ _ _ _ h hF => ⟨h.2.1, hF⟩
end Jvm.Pilot.@@N@@
namespace Jvm.Pilot.@@N@@
open Jvm Jvm.ClassFile Sem Op Lib Jvm.Free Jvm.Stand Jvm.Pilot.@@N@@.Jvm.D
/-! MADE BY PROGRAM (witnessworld.py) out of the Statement's table words and the real class files: 30 classes; the members and pool entries that the words name. The judged class is class 1, her method 1. -/
namespace start1
open Jvm.ClassFile
def u (s : String) : CpInfo := .utf8 (stringToUtf16 s)
/-- a pool by its gaps: so many unusable entries, then the entry; so many at the end -/
def gap : Nat → List CpInfo → List CpInfo
  | 0, r => r
  | n + 1, r => .unusable :: gap n r
def poolList (es : List (Nat × CpInfo)) (last : Nat) : List CpInfo := es.foldr (fun e r => gap e.1 (e.2 :: r)) (gap last [])
def pool (es : List (Nat × CpInfo)) (last : Nat) : Array CpInfo := ⟨poolList es last⟩
def fileOf (pool : Array CpInfo) (this : Nat) (attrs : Array Attribute := #[]) (ms : Array MethodInfo := #[]) (fl : Nat := 33) (sup : Nat := 0) (ifs : Array Nat := #[]) (fds : Array FieldInfo := #[]) : ClassFile where
  minorVersion := 0
  majorVersion := 65
  constantPool := pool
  accessFlags := fl
  thisClass := this
  superClass := sup
  interfaces := ifs
  fields := fds
  methods := ms
  attributes := attrs
def plain (name : String) (sup : Option ClassId) : Class where
  name := name
  kind := .ordinary
  loader := none
  accessFlags := 33
  super := sup
  interfaces := #[]
  cf := none
  fields := #[]
  methods := #[]
  instanceTypes := #[]
  staticTypes := #[]
  resolved := #[]
  callSites := []
  init := .initialized
  statics := none
  mirror := none

def pool0 : Array CpInfo := pool [(5, u "<init>"), (0, u "()V"), (1, .class_ 10), (1, u "java/lang/Object")] 113

def k0c0 : Code := { maxStack := 0, maxLocals := 1, code := object_method_1_code, exceptionTable := #[], attributes := #[] }
def k0m0 : Method := { name := "<init>", desc := "()V", sig := { parameters := [], returnType := none }, accessFlags := 1, code := some k0c0 }
/-- java/lang/Object -/
def k0 : Class := { plain "java/lang/Object" none with
  accessFlags := 33
  interfaces := #[]
  cf := some (fileOf pool0 8 #[] #[{ accessFlags := 1, nameIndex := 5, descriptorIndex := 6, attributes := #[] }] 33 0 #[] #[])
  fields := #[]
  methods := #[k0m0]
  instanceTypes := #[]
  staticTypes := #[]
  resolved := Array.replicate 124 none
  statics := none }

def pool1 : Array CpInfo := pool [(2, .class_ 4), (0, .nameAndType 5 6), (0, u "java/lang/Object"), (0, u "<init>"), (0, u "()V"), (0, .integer 2147483647), (0, .integer 2147483632), (0, .class_ 10), (0, u "com/example/tollbook/tollbook/ber/TlvChains"), (0, .methodref 9 3), (0, .class_ 13), (0, u "com/example/tollbook/tollbook/ber/BerException"), (0, .string 15), (0, u "malformed"), (0, .methodref 12 17), (0, .nameAndType 5 18), (0, u "(Ljava/lang/String;J)V"), (0, .methodref 9 20), (0, .nameAndType 21 22), (0, u "reset"), (0, u "(II)V"), (0, .methodref 9 24), (0, .nameAndType 25 26), (0, u "stops"), (0, u "(ILcom/example/tollbook/tollbook/ber/BerException;)V"), (0, .methodref 9 28), (0, .nameAndType 29 30), (0, u "link"), (0, u "(IIII)V"), (0, .methodref 9 32), (0, .nameAndType 33 34), (0, u "end"), (0, u "(I)I"), (0, .class_ 36), (0, u "com/example/tollbook/tollbook/ber/TlvChainsEndPinLaw"), (2, u "law"), (0, u "(IIIIII)Z")] 6

def k1m0 : Method := { name := "<init>", desc := "()V", sig := { parameters := [], returnType := none }, accessFlags := 1, code := none }
def k1c1 : Code := { maxStack := 5, maxLocals := 16, code := code, exceptionTable := #[], attributes := #[] }
def k1m1 : Method := { name := "law", desc := "(IIIIII)Z", sig := { parameters := [.int, .int, .int, .int, .int, .int], returnType := some .boolean }, accessFlags := 9, code := some k1c1 }
/-- com/example/tollbook/tollbook/ber/TlvChainsEndPinLaw -/
def k1 : Class := { plain "com/example/tollbook/tollbook/ber/TlvChainsEndPinLaw" (some 0) with
  accessFlags := 49
  interfaces := #[]
  cf := some (fileOf pool1 35 #[] #[{ accessFlags := 1, nameIndex := 5, descriptorIndex := 6, attributes := #[] }, { accessFlags := 9, nameIndex := 39, descriptorIndex := 40, attributes := #[] }] 49 2 #[] #[])
  fields := #[]
  methods := #[k1m0, k1m1]
  instanceTypes := #[]
  staticTypes := #[]
  resolved := Array.replicate 47 none
  statics := none }

def pool2 : Array CpInfo := pool [(1, .methodref 2 3), (0, .class_ 4), (0, .nameAndType 5 6), (0, u "java/lang/Object"), (0, u "<init>"), (0, u "()V"), (0, .fieldref 8 9), (0, .class_ 10), (0, .nameAndType 11 12), (0, u "com/example/tollbook/tollbook/ber/TlvChains"), (0, u "limit"), (0, u "I"), (0, .fieldref 8 14), (0, .nameAndType 15 16), (0, u "nexts"), (0, u "[I"), (0, .fieldref 8 18), (0, .nameAndType 19 16), (0, u "jumps"), (0, .fieldref 8 21), (0, .nameAndType 22 16), (0, u "depths"), (0, .fieldref 8 24), (0, .nameAndType 25 26), (0, u "tagClasses"), (0, u "[B"), (0, .fieldref 8 28), (0, .nameAndType 29 16), (0, u "tagNumbers"), (0, .fieldref 8 31), (0, .nameAndType 32 16), (0, u "nearest"), (0, .class_ 34), (0, u "com/example/tollbook/tollbook/ber/BerException"), (0, .fieldref 8 36), (0, .nameAndType 37 38), (0, u "failures"), (0, u "[Lcom/example/tollbook/tollbook/ber/BerException;"), (0, .fieldref 8 40), (0, .nameAndType 41 16), (0, u "learnt"), (0, .fieldref 8 43), (0, .nameAndType 44 12), (0, u "soughtClass"), (0, .fieldref 8 46), (0, .nameAndType 47 16), (0, u "path"), (0, .methodref 8 49), (0, .nameAndType 50 6), (0, u "forget"), (0, .fieldref 8 52), (0, .nameAndType 53 12), (0, u "from"), (0, .methodref 8 55), (0, .nameAndType 56 57), (0, u "allocate"), (0, u "(I)V"), (0, .fieldref 8 59), (0, .nameAndType 60 12), (0, u "learntCount"), (0, .methodref 8 62), (0, .nameAndType 63 64), (0, u "learn"), (0, u "(I)I"), (5, u "soughtNumber"), (10, u "UNKNOWN"), (2, u "STOP"), (1, u "UNSOUGHT"), (0, u "NONE"), (2, u "reset"), (0, u "(II)V"), (4, u "link"), (0, u "(IIII)V"), (1, u "stops"), (0, u "(ILcom/example/tollbook/tollbook/ber/BerException;)V"), (3, u "end")] 5

def k2c0 : Code := { maxStack := 2, maxLocals := 1, code := prog_32_method_1_code, exceptionTable := #[], attributes := #[] }
def k2m0 : Method := { name := "<init>", desc := "()V", sig := { parameters := [], returnType := none }, accessFlags := 0, code := some k2c0 }
def k2c1 : Code := { maxStack := 3, maxLocals := 3, code := prog_32_method_2_code, exceptionTable := #[], attributes := #[] }
def k2m1 : Method := { name := "reset", desc := "(II)V", sig := { parameters := [.int, .int], returnType := none }, accessFlags := 0, code := some k2c1 }
def k2c2 : Code := { maxStack := 3, maxLocals := 3, code := prog_32_method_3_code, exceptionTable := #[], attributes := #[] }
def k2m2 : Method := { name := "forget", desc := "()V", sig := { parameters := [], returnType := none }, accessFlags := 0, code := some k2c2 }
def k2c3 : Code := { maxStack := 6, maxLocals := 9, code := prog_32_method_6_code, exceptionTable := #[], attributes := #[] }
def k2m3 : Method := { name := "link", desc := "(IIII)V", sig := { parameters := [.int, .int, .int, .int], returnType := none }, accessFlags := 0, code := some k2c3 }
def k2c4 : Code := { maxStack := 3, maxLocals := 4, code := prog_32_method_7_code, exceptionTable := #[], attributes := #[] }
def k2m4 : Method := { name := "stops", desc := "(ILcom/example/tollbook/tollbook/ber/BerException;)V", sig := { parameters := [.int, (.object "com/example/tollbook/tollbook/ber/BerException")], returnType := none }, accessFlags := 0, code := some k2c4 }
def k2c5 : Code := { maxStack := 3, maxLocals := 3, code := prog_32_method_10_code, exceptionTable := #[], attributes := #[] }
def k2m5 : Method := { name := "end", desc := "(I)I", sig := { parameters := [.int], returnType := some .int }, accessFlags := 0, code := some k2c5 }
def k2c6 : Code := { maxStack := 5, maxLocals := 2, code := prog_32_method_14_code, exceptionTable := #[], attributes := #[] }
def k2m6 : Method := { name := "learn", desc := "(I)I", sig := { parameters := [.int], returnType := some .int }, accessFlags := 2, code := some k2c6 }
def k2c7 : Code := { maxStack := 2, maxLocals := 2, code := prog_32_method_15_code, exceptionTable := #[], attributes := #[] }
def k2m7 : Method := { name := "allocate", desc := "(I)V", sig := { parameters := [.int], returnType := none }, accessFlags := 2, code := some k2c7 }
/-- com/example/tollbook/tollbook/ber/TlvChains -/
def k2 : Class := { plain "com/example/tollbook/tollbook/ber/TlvChains" (some 0) with
  accessFlags := 32
  interfaces := #[]
  cf := some (fileOf pool2 8 #[] #[{ accessFlags := 0, nameIndex := 5, descriptorIndex := 6, attributes := #[] }, { accessFlags := 0, nameIndex := 90, descriptorIndex := 91, attributes := #[] }, { accessFlags := 0, nameIndex := 50, descriptorIndex := 6, attributes := #[] }, { accessFlags := 0, nameIndex := 96, descriptorIndex := 97, attributes := #[] }, { accessFlags := 0, nameIndex := 99, descriptorIndex := 100, attributes := #[] }, { accessFlags := 0, nameIndex := 104, descriptorIndex := 64, attributes := #[] }, { accessFlags := 2, nameIndex := 63, descriptorIndex := 64, attributes := #[] }, { accessFlags := 2, nameIndex := 56, descriptorIndex := 57, attributes := #[] }] 32 2 #[] #[{ accessFlags := 26, nameIndex := 81, descriptorIndex := 12, attributes := #[] }, { accessFlags := 26, nameIndex := 84, descriptorIndex := 12, attributes := #[] }, { accessFlags := 26, nameIndex := 86, descriptorIndex := 12, attributes := #[] }, { accessFlags := 26, nameIndex := 87, descriptorIndex := 12, attributes := #[] }, { accessFlags := 2, nameIndex := 53, descriptorIndex := 12, attributes := #[] }, { accessFlags := 2, nameIndex := 11, descriptorIndex := 12, attributes := #[] }, { accessFlags := 2, nameIndex := 15, descriptorIndex := 16, attributes := #[] }, { accessFlags := 2, nameIndex := 19, descriptorIndex := 16, attributes := #[] }, { accessFlags := 2, nameIndex := 22, descriptorIndex := 16, attributes := #[] }, { accessFlags := 2, nameIndex := 25, descriptorIndex := 26, attributes := #[] }, { accessFlags := 2, nameIndex := 29, descriptorIndex := 16, attributes := #[] }, { accessFlags := 2, nameIndex := 32, descriptorIndex := 16, attributes := #[] }, { accessFlags := 2, nameIndex := 37, descriptorIndex := 38, attributes := #[] }, { accessFlags := 2, nameIndex := 41, descriptorIndex := 16, attributes := #[] }, { accessFlags := 2, nameIndex := 60, descriptorIndex := 12, attributes := #[] }, { accessFlags := 2, nameIndex := 44, descriptorIndex := 12, attributes := #[] }, { accessFlags := 2, nameIndex := 70, descriptorIndex := 12, attributes := #[] }, { accessFlags := 2, nameIndex := 47, descriptorIndex := 16, attributes := #[] }])
  fields := #[{ name := "UNKNOWN", type := .int, accessFlags := 26, slot := 0, constantValue := 0 }, { name := "STOP", type := .int, accessFlags := 26, slot := 1, constantValue := 0 }, { name := "UNSOUGHT", type := .int, accessFlags := 26, slot := 2, constantValue := 0 }, { name := "NONE", type := .int, accessFlags := 26, slot := 3, constantValue := 0 }, { name := "from", type := .int, accessFlags := 2, slot := 0, constantValue := 0 }, { name := "limit", type := .int, accessFlags := 2, slot := 1, constantValue := 0 }, { name := "nexts", type := (.array .int), accessFlags := 2, slot := 2, constantValue := 0 }, { name := "jumps", type := (.array .int), accessFlags := 2, slot := 3, constantValue := 0 }, { name := "depths", type := (.array .int), accessFlags := 2, slot := 4, constantValue := 0 }, { name := "tagClasses", type := (.array .byte), accessFlags := 2, slot := 5, constantValue := 0 }, { name := "tagNumbers", type := (.array .int), accessFlags := 2, slot := 6, constantValue := 0 }, { name := "nearest", type := (.array .int), accessFlags := 2, slot := 7, constantValue := 0 }, { name := "failures", type := (.array (.object "com/example/tollbook/tollbook/ber/BerException")), accessFlags := 2, slot := 8, constantValue := 0 }, { name := "learnt", type := (.array .int), accessFlags := 2, slot := 9, constantValue := 0 }, { name := "learntCount", type := .int, accessFlags := 2, slot := 10, constantValue := 0 }, { name := "soughtClass", type := .int, accessFlags := 2, slot := 11, constantValue := 0 }, { name := "soughtNumber", type := .int, accessFlags := 2, slot := 12, constantValue := 0 }, { name := "path", type := (.array .int), accessFlags := 2, slot := 13, constantValue := 0 }]
  methods := #[k2m0, k2m1, k2m2, k2m3, k2m4, k2m5, k2m6, k2m7]
  instanceTypes := #[.int, .int, (.array .int), (.array .int), (.array .int), (.array .byte), (.array .int), (.array .int), (.array (.object "com/example/tollbook/tollbook/ber/BerException")), (.array .int), .int, .int, .int, (.array .int)]
  staticTypes := #[.int, .int, .int, .int]
  resolved := Array.replicate 110 none
  statics := none }

def pool3 : Array CpInfo := pool [(1, .class_ 2), (0, u "java/io/Serializable"), (0, .class_ 4), (0, u "java/lang/Object")] 2

/-- java/io/Serializable -/
def k3 : Class := { plain "java/io/Serializable" (some 0) with
  accessFlags := 1537
  interfaces := #[]
  cf := some (fileOf pool3 1 #[] #[] 1537 3 #[] #[])
  fields := #[]
  methods := #[]
  instanceTypes := #[]
  staticTypes := #[]
  resolved := Array.replicate 7 none
  statics := none }

def pool4 : Array CpInfo := pool [(1, .methodref 2 3), (0, .class_ 4), (0, .nameAndType 5 6), (0, u "java/lang/Object"), (0, u "<init>"), (0, u "()V"), (0, .fieldref 8 9), (0, .class_ 10), (0, .nameAndType 11 12), (0, u "java/lang/Throwable"), (0, u "cause"), (0, u "Ljava/lang/Throwable;"), (0, .fieldref 8 14), (0, .nameAndType 15 16), (0, u "UNASSIGNED_STACK"), (0, u "[Ljava/lang/StackTraceElement;"), (0, .fieldref 8 18), (0, .nameAndType 19 16), (0, u "stackTrace"), (0, .fieldref 8 21), (0, .nameAndType 22 23), (0, u "SUPPRESSED_SENTINEL"), (0, u "Ljava/util/List;"), (0, .fieldref 8 25), (0, .nameAndType 26 23), (0, u "suppressedExceptions"), (4, .fieldref 8 32), (0, .nameAndType 33 34), (0, u "detailMessage"), (0, u "Ljava/lang/String;"), (58, .class_ 94), (0, u "java/lang/Throwable$WrappedPrintStream"), (6, .class_ 103), (1, u "java/lang/Throwable$PrintStreamOrWriter"), (61, u "$assertionsDisabled"), (0, u "Z"), (26, .class_ 194), (0, u "java/lang/Throwable$WrappedPrintWriter"), (5, u "backtrace"), (0, u "Ljava/lang/Object;"), (9, u "depth"), (0, u "I"), (56, .class_ 271), (1, u "java/lang/Throwable$SentinelHolder"), (32, u "EMPTY_THROWABLE_ARRAY"), (0, u "[Ljava/lang/Throwable;"), (12, .class_ 319), (0, u "java/io/Serializable"), (0, u "serialVersionUID"), (0, u "J"), (5, u "NULL_CAUSE_MESSAGE"), (0, u "SELF_SUPPRESSION_MESSAGE"), (0, u "CAUSE_CAPTION"), (0, u "SUPPRESSED_CAPTION"), (9, u "(Ljava/lang/String;Ljava/lang/Throwable;ZZ)V")] 63

def k4m0 : Method := { name := "<init>", desc := "()V", sig := { parameters := [], returnType := none }, accessFlags := 1, code := none }
def k4c1 : Code := { maxStack := 2, maxLocals := 5, code := jdk_78_method_5_code, exceptionTable := #[], attributes := #[] }
def k4m1 : Method := { name := "<init>", desc := "(Ljava/lang/String;Ljava/lang/Throwable;ZZ)V", sig := { parameters := [(.object "java/lang/String"), (.object "java/lang/Throwable"), .boolean, .boolean], returnType := none }, accessFlags := 4, code := some k4c1 }
/-- java/lang/Throwable -/
def k4 : Class := { plain "java/lang/Throwable" (some 0) with
  accessFlags := 33
  interfaces := #[3]
  cf := some (fileOf pool4 8 #[.nestMembers #[193, 93, 101, 269]] #[{ accessFlags := 1, nameIndex := 5, descriptorIndex := 6, attributes := #[] }, { accessFlags := 4, nameIndex := 5, descriptorIndex := 340, attributes := #[] }] 33 2 #[318] #[{ accessFlags := 26, nameIndex := 320, descriptorIndex := 321, attributes := #[] }, { accessFlags := 130, nameIndex := 200, descriptorIndex := 201, attributes := #[] }, { accessFlags := 2, nameIndex := 33, descriptorIndex := 34, attributes := #[] }, { accessFlags := 26, nameIndex := 15, descriptorIndex := 16, attributes := #[] }, { accessFlags := 2, nameIndex := 11, descriptorIndex := 12, attributes := #[] }, { accessFlags := 2, nameIndex := 19, descriptorIndex := 16, attributes := #[] }, { accessFlags := 130, nameIndex := 211, descriptorIndex := 212, attributes := #[] }, { accessFlags := 26, nameIndex := 22, descriptorIndex := 23, attributes := #[] }, { accessFlags := 2, nameIndex := 26, descriptorIndex := 23, attributes := #[] }, { accessFlags := 26, nameIndex := 327, descriptorIndex := 34, attributes := #[] }, { accessFlags := 26, nameIndex := 328, descriptorIndex := 34, attributes := #[] }, { accessFlags := 26, nameIndex := 329, descriptorIndex := 34, attributes := #[] }, { accessFlags := 26, nameIndex := 330, descriptorIndex := 34, attributes := #[] }, { accessFlags := 26, nameIndex := 304, descriptorIndex := 305, attributes := #[] }, { accessFlags := 4120, nameIndex := 165, descriptorIndex := 166, attributes := #[] }])
  fields := #[{ name := "serialVersionUID", type := .long, accessFlags := 26, slot := 0, constantValue := 0 }, { name := "backtrace", type := (.object "java/lang/Object"), accessFlags := 130, slot := 0, constantValue := 0 }, { name := "detailMessage", type := (.object "java/lang/String"), accessFlags := 2, slot := 1, constantValue := 0 }, { name := "UNASSIGNED_STACK", type := (.array (.object "java/lang/StackTraceElement")), accessFlags := 26, slot := 1, constantValue := 0 }, { name := "cause", type := (.object "java/lang/Throwable"), accessFlags := 2, slot := 2, constantValue := 0 }, { name := "stackTrace", type := (.array (.object "java/lang/StackTraceElement")), accessFlags := 2, slot := 3, constantValue := 0 }, { name := "depth", type := .int, accessFlags := 130, slot := 4, constantValue := 0 }, { name := "SUPPRESSED_SENTINEL", type := (.object "java/util/List"), accessFlags := 26, slot := 2, constantValue := 0 }, { name := "suppressedExceptions", type := (.object "java/util/List"), accessFlags := 2, slot := 5, constantValue := 0 }, { name := "NULL_CAUSE_MESSAGE", type := (.object "java/lang/String"), accessFlags := 26, slot := 3, constantValue := 0 }, { name := "SELF_SUPPRESSION_MESSAGE", type := (.object "java/lang/String"), accessFlags := 26, slot := 4, constantValue := 0 }, { name := "CAUSE_CAPTION", type := (.object "java/lang/String"), accessFlags := 26, slot := 5, constantValue := 0 }, { name := "SUPPRESSED_CAPTION", type := (.object "java/lang/String"), accessFlags := 26, slot := 6, constantValue := 0 }, { name := "EMPTY_THROWABLE_ARRAY", type := (.array (.object "java/lang/Throwable")), accessFlags := 26, slot := 7, constantValue := 0 }, { name := "$assertionsDisabled", type := .boolean, accessFlags := 4120, slot := 8, constantValue := 0 }]
  methods := #[k4m0, k4m1]
  instanceTypes := #[(.object "java/lang/Object"), (.object "java/lang/String"), (.object "java/lang/Throwable"), (.array (.object "java/lang/StackTraceElement")), .int, (.object "java/util/List")]
  staticTypes := #[.long, (.array (.object "java/lang/StackTraceElement")), (.object "java/util/List"), (.object "java/lang/String"), (.object "java/lang/String"), (.object "java/lang/String"), (.object "java/lang/String"), (.array (.object "java/lang/Throwable")), .boolean]
  resolved := Array.replicate 404 none
  statics := some 0 }

def pool5 : Array CpInfo := pool [(2, .class_ 4), (1, u "java/lang/Throwable"), (0, u "<init>"), (0, u "()V"), (9, .methodref 2 17), (0, .nameAndType 5 18), (0, u "(Ljava/lang/String;Ljava/lang/Throwable;ZZ)V"), (0, .class_ 20), (0, u "java/lang/Exception"), (0, u "serialVersionUID"), (0, u "J")] 17

def k5m0 : Method := { name := "<init>", desc := "()V", sig := { parameters := [], returnType := none }, accessFlags := 1, code := none }
def k5c1 : Code := { maxStack := 5, maxLocals := 5, code := jdk_59_method_5_code, exceptionTable := #[], attributes := #[] }
def k5m1 : Method := { name := "<init>", desc := "(Ljava/lang/String;Ljava/lang/Throwable;ZZ)V", sig := { parameters := [(.object "java/lang/String"), (.object "java/lang/Throwable"), .boolean, .boolean], returnType := none }, accessFlags := 4, code := some k5c1 }
/-- java/lang/Exception -/
def k5 : Class := { plain "java/lang/Exception" (some 4) with
  accessFlags := 33
  interfaces := #[]
  cf := some (fileOf pool5 19 #[] #[{ accessFlags := 1, nameIndex := 5, descriptorIndex := 6, attributes := #[] }, { accessFlags := 4, nameIndex := 5, descriptorIndex := 18, attributes := #[] }] 33 2 #[] #[{ accessFlags := 24, nameIndex := 21, descriptorIndex := 22, attributes := #[] }])
  fields := #[{ name := "serialVersionUID", type := .long, accessFlags := 24, slot := 0, constantValue := 0 }]
  methods := #[k5m0, k5m1]
  instanceTypes := #[(.object "java/lang/Object"), (.object "java/lang/String"), (.object "java/lang/Throwable"), (.array (.object "java/lang/StackTraceElement")), .int, (.object "java/util/List")]
  staticTypes := #[.long]
  resolved := Array.replicate 40 none
  statics := none }

def pool6 : Array CpInfo := pool [(1, .methodref 2 3), (0, .class_ 4), (0, .nameAndType 5 6), (0, u "java/lang/Exception"), (0, u "<init>"), (0, u "(Ljava/lang/String;Ljava/lang/Throwable;ZZ)V"), (0, .fieldref 8 9), (0, .class_ 10), (0, .nameAndType 11 12), (0, u "com/example/tollbook/tollbook/ber/BerException"), (0, u "shortBy"), (0, u "J"), (0, u "serialVersionUID"), (3, u "(Ljava/lang/String;J)V")] 8

def k6c0 : Code := { maxStack := 5, maxLocals := 4, code := prog_30_method_1_code, exceptionTable := #[], attributes := #[] }
def k6m0 : Method := { name := "<init>", desc := "(Ljava/lang/String;J)V", sig := { parameters := [(.object "java/lang/String"), .long], returnType := none }, accessFlags := 0, code := some k6c0 }
/-- com/example/tollbook/tollbook/ber/BerException -/
def k6 : Class := { plain "com/example/tollbook/tollbook/ber/BerException" (some 5) with
  accessFlags := 33
  interfaces := #[]
  cf := some (fileOf pool6 8 #[] #[{ accessFlags := 0, nameIndex := 5, descriptorIndex := 17, attributes := #[] }] 33 2 #[] #[{ accessFlags := 26, nameIndex := 13, descriptorIndex := 12, attributes := #[] }, { accessFlags := 18, nameIndex := 11, descriptorIndex := 12, attributes := #[] }])
  fields := #[{ name := "serialVersionUID", type := .long, accessFlags := 26, slot := 0, constantValue := 0 }, { name := "shortBy", type := .long, accessFlags := 18, slot := 6, constantValue := 0 }]
  methods := #[k6m0]
  instanceTypes := #[(.object "java/lang/Object"), (.object "java/lang/String"), (.object "java/lang/Throwable"), (.array (.object "java/lang/StackTraceElement")), .int, (.object "java/util/List"), .long]
  staticTypes := #[.long]
  resolved := Array.replicate 26 none
  statics := none }

def pool7 : Array CpInfo := pool [(1, .class_ 2), (0, u "java/lang/Comparable"), (0, .class_ 4), (0, u "java/lang/Object")] 7

/-- java/lang/Comparable -/
def k7 : Class := { plain "java/lang/Comparable" (some 0) with
  accessFlags := 1537
  interfaces := #[]
  cf := some (fileOf pool7 1 #[] #[] 1537 3 #[] #[])
  fields := #[]
  methods := #[]
  instanceTypes := #[]
  staticTypes := #[]
  resolved := Array.replicate 12 none
  statics := none }

def pool8 : Array CpInfo := pool [(2, .class_ 4), (1, u "java/lang/CharSequence"), (42, .class_ 48), (0, u "java/lang/CharSequence$1CodePointIterator"), (10, .class_ 60), (0, u "java/lang/CharSequence$1CharIterator"), (5, .class_ 67), (0, u "java/lang/Object")] 63

/-- java/lang/CharSequence -/
def k8 : Class := { plain "java/lang/CharSequence" (some 0) with
  accessFlags := 1537
  interfaces := #[]
  cf := some (fileOf pool8 2 #[.nestMembers #[47, 59]] #[] 1537 66 #[] #[])
  fields := #[]
  methods := #[]
  instanceTypes := #[]
  staticTypes := #[]
  resolved := Array.replicate 131 none
  statics := none }

def pool9 : Array CpInfo := pool [(1, .class_ 2), (0, u "java/lang/constant/Constable"), (0, .class_ 4), (0, u "java/lang/Object")] 6

/-- java/lang/constant/Constable -/
def k9 : Class := { plain "java/lang/constant/Constable" (some 0) with
  accessFlags := 1537
  interfaces := #[]
  cf := some (fileOf pool9 1 #[] #[] 1537 3 #[] #[])
  fields := #[]
  methods := #[]
  instanceTypes := #[]
  staticTypes := #[]
  resolved := Array.replicate 11 none
  statics := none }

def pool10 : Array CpInfo := pool [(1, .class_ 2), (0, u "java/lang/constant/ConstantDesc"), (0, .class_ 4), (0, u "java/lang/Object")] 32

/-- java/lang/constant/ConstantDesc -/
def k10 : Class := { plain "java/lang/constant/ConstantDesc" (some 0) with
  accessFlags := 1537
  interfaces := #[]
  cf := some (fileOf pool10 1 #[] #[] 1537 3 #[] #[])
  fields := #[]
  methods := #[]
  instanceTypes := #[]
  staticTypes := #[]
  resolved := Array.replicate 37 none
  statics := none }

def pool11 : Array CpInfo := pool [(2, .class_ 4), (1, u "java/lang/Object"), (0, u "<init>"), (0, u "()V"), (3, .class_ 12), (1, u "java/lang/String"), (0, u "value"), (0, u "[B"), (2, u "coder"), (0, u "B"), (2, u "hash"), (0, u "I"), (2, u "hashIsZero"), (0, u "Z"), (13, u "COMPACT_STRINGS"), (534, .class_ 576), (0, u "java/lang/CharSequence"), (22, u "CASE_INSENSITIVE_ORDER"), (0, u "Ljava/util/Comparator;"), (500, u "serialPersistentFields"), (0, u "[Ljava/io/ObjectStreamField;"), (0, .class_ 1104), (0, u "java/lang/String$CaseInsensitiveComparator"), (1, .class_ 1107), (0, u "java/io/Serializable"), (0, .class_ 1109), (0, u "java/lang/Comparable"), (0, .class_ 1111), (0, u "java/lang/constant/Constable"), (0, .class_ 1113), (0, u "java/lang/constant/ConstantDesc"), (2, u "serialVersionUID"), (0, u "J"), (3, u "REPL"), (0, u "C"), (2, u "LATIN1"), (1, u "UTF16")] 323

def k11m0 : Method := { name := "<init>", desc := "()V", sig := { parameters := [], returnType := none }, accessFlags := 1, code := none }
/-- java/lang/String -/
def k11 : Class := { plain "java/lang/String" (some 0) with
  accessFlags := 49
  interfaces := #[3, 7, 8, 9, 10]
  cf := some (fileOf pool11 10 #[.nestMembers #[1103]] #[{ accessFlags := 1, nameIndex := 5, descriptorIndex := 6, attributes := #[] }] 49 2 #[1106, 1108, 575, 1110, 1112] #[{ accessFlags := 18, nameIndex := 13, descriptorIndex := 14, attributes := #[] }, { accessFlags := 18, nameIndex := 17, descriptorIndex := 18, attributes := #[] }, { accessFlags := 2, nameIndex := 21, descriptorIndex := 22, attributes := #[] }, { accessFlags := 2, nameIndex := 25, descriptorIndex := 26, attributes := #[] }, { accessFlags := 26, nameIndex := 1116, descriptorIndex := 1117, attributes := #[] }, { accessFlags := 24, nameIndex := 40, descriptorIndex := 26, attributes := #[] }, { accessFlags := 26, nameIndex := 1101, descriptorIndex := 1102, attributes := #[] }, { accessFlags := 26, nameIndex := 1121, descriptorIndex := 1122, attributes := #[] }, { accessFlags := 25, nameIndex := 599, descriptorIndex := 600, attributes := #[] }, { accessFlags := 24, nameIndex := 1125, descriptorIndex := 18, attributes := #[] }, { accessFlags := 24, nameIndex := 1127, descriptorIndex := 18, attributes := #[] }])
  fields := #[{ name := "value", type := (.array .byte), accessFlags := 18, slot := 0, constantValue := 0 }, { name := "coder", type := .byte, accessFlags := 18, slot := 1, constantValue := 0 }, { name := "hash", type := .int, accessFlags := 2, slot := 2, constantValue := 0 }, { name := "hashIsZero", type := .boolean, accessFlags := 2, slot := 3, constantValue := 0 }, { name := "serialVersionUID", type := .long, accessFlags := 26, slot := 0, constantValue := 0 }, { name := "COMPACT_STRINGS", type := .boolean, accessFlags := 24, slot := 1, constantValue := 0 }, { name := "serialPersistentFields", type := (.array (.object "java/io/ObjectStreamField")), accessFlags := 26, slot := 2, constantValue := 0 }, { name := "REPL", type := .char, accessFlags := 26, slot := 3, constantValue := 0 }, { name := "CASE_INSENSITIVE_ORDER", type := (.object "java/util/Comparator"), accessFlags := 25, slot := 4, constantValue := 0 }, { name := "LATIN1", type := .byte, accessFlags := 24, slot := 5, constantValue := 0 }, { name := "UTF16", type := .byte, accessFlags := 24, slot := 6, constantValue := 0 }]
  methods := #[k11m0]
  instanceTypes := #[(.array .byte), .byte, .int, .boolean]
  staticTypes := #[.long, .boolean, (.array (.object "java/io/ObjectStreamField")), .char, (.object "java/util/Comparator"), .byte, .byte]
  resolved := Array.replicate 1451 none
  statics := none }

def pool12 : Array CpInfo := pool [(2, .class_ 4), (1, u "java/lang/Object"), (0, u "<init>"), (0, u "()V"), (12, .class_ 20), (0, u "java/util/Collections"), (63, u "r"), (0, u "Ljava/util/Random;"), (80, .class_ 167), (0, u "java/util/Collections$UnmodifiableCollection"), (6, .class_ 175), (0, u "java/util/Collections$UnmodifiableSequencedCollection"), (6, .class_ 183), (0, u "java/util/Collections$UnmodifiableSet"), (6, .class_ 191), (0, u "java/util/Collections$UnmodifiableSequencedSet"), (6, .class_ 199), (0, u "java/util/Collections$UnmodifiableSortedSet"), (6, .class_ 207), (0, u "java/util/Collections$UnmodifiableNavigableSet"), (4, .class_ 213), (0, u "java/util/Collections$UnmodifiableList"), (1, .class_ 216), (0, u "java/util/Collections$UnmodifiableRandomAccessList"), (6, .class_ 224), (0, u "java/util/Collections$UnmodifiableMap"), (6, .class_ 232), (0, u "java/util/Collections$UnmodifiableSequencedMap"), (4, .class_ 238), (0, u "java/util/Collections$UnmodifiableSortedMap"), (6, .class_ 246), (0, u "java/util/Collections$UnmodifiableNavigableMap"), (3, .class_ 251), (0, u "java/util/Collections$SynchronizedCollection"), (4, .class_ 257), (0, u "java/util/Collections$SynchronizedSet"), (4, .class_ 263), (0, u "java/util/Collections$SynchronizedSortedSet"), (1, .class_ 266), (0, u "java/util/Collections$SynchronizedNavigableSet"), (1, .class_ 269), (0, u "java/util/Collections$SynchronizedRandomAccessList"), (1, .class_ 272), (0, u "java/util/Collections$SynchronizedList"), (5, .class_ 279), (0, u "java/util/Collections$SynchronizedMap"), (1, .class_ 282), (0, u "java/util/Collections$SynchronizedSortedMap"), (1, .class_ 285), (0, u "java/util/Collections$SynchronizedNavigableMap"), (1, .class_ 288), (0, u "java/util/Collections$CheckedCollection"), (11, .class_ 301), (0, u "java/util/Collections$CheckedQueue"), (3, .class_ 306), (0, u "java/util/Collections$CheckedSet"), (3, .class_ 311), (0, u "java/util/Collections$CheckedSortedSet"), (3, .class_ 316), (0, u "java/util/Collections$CheckedNavigableSet"), (3, .class_ 321), (0, u "java/util/Collections$CheckedRandomAccessList"), (3, .class_ 326), (0, u "java/util/Collections$CheckedList"), (1, .class_ 329), (0, u "java/util/Collections$CheckedMap"), (3, .class_ 334), (0, u "java/util/Collections$CheckedSortedMap"), (3, .class_ 339), (0, u "java/util/Collections$CheckedNavigableMap"), (4, .class_ 346), (1, u "java/util/Collections$EmptyIterator"), (3, .class_ 352), (1, u "java/util/Collections$EmptyListIterator"), (2, .class_ 357), (1, u "java/util/Collections$EmptyEnumeration"), (4, u "EMPTY_SET"), (0, u "Ljava/util/Set;"), (6, u "EMPTY_LIST"), (0, u "Ljava/util/List;"), (2, u "EMPTY_MAP"), (0, u "Ljava/util/Map;"), (4, .class_ 381), (0, u "java/util/Collections$SingletonSet"), (2, .class_ 385), (0, u "java/util/Collections$1"), (1, .class_ 388), (0, u "java/util/Collections$2"), (1, .class_ 391), (0, u "java/util/Collections$SingletonList"), (1, .class_ 394), (0, u "java/util/Collections$SingletonMap"), (22, .class_ 418), (0, u "java/util/Collections$CopiesList"), (4, .class_ 425), (1, u "java/util/Collections$ReverseComparator"), (8, .class_ 435), (0, u "java/util/Collections$ReverseComparator2"), (6, .class_ 443), (0, u "java/util/Collections$3"), (25, .class_ 470), (0, u "java/util/Collections$SetFromMap"), (2, .class_ 474), (0, u "java/util/Collections$SequencedSetFromMap"), (3, .class_ 479), (0, u "java/util/Collections$AsLIFOQueue"), (11, .class_ 492), (0, u "java/util/Collections$EmptySet"), (1, .class_ 495), (0, u "java/util/Collections$EmptyList"), (1, .class_ 498), (0, u "java/util/Collections$EmptyMap"), (1, u "BINARYSEARCH_THRESHOLD"), (0, u "I"), (2, u "REVERSE_THRESHOLD"), (1, u "SHUFFLE_THRESHOLD"), (1, u "FILL_THRESHOLD"), (1, u "ROTATE_THRESHOLD"), (1, u "COPY_THRESHOLD"), (1, u "REPLACEALL_THRESHOLD"), (1, u "INDEXOFSUBLIST_THRESHOLD"), (333, .class_ 851), (0, u "java/util/Collections$CheckedMap$CheckedEntrySet"), (0, .class_ 853), (0, u "java/util/Collections$CheckedMap$CheckedEntrySet$CheckedEntry"), (0, .class_ 855), (0, u "java/util/Collections$CheckedMap$CheckedEntrySet$1"), (0, .class_ 857), (0, u "java/util/Collections$CheckedList$1"), (0, .class_ 859), (0, u "java/util/Collections$CheckedCollection$1"), (0, .class_ 861), (0, u "java/util/Collections$UnmodifiableNavigableMap$EmptyNavigableMap"), (0, .class_ 863), (0, u "java/util/Collections$UnmodifiableMap$UnmodifiableEntrySet"), (0, .class_ 865), (0, u "java/util/Collections$UnmodifiableMap$UnmodifiableEntrySet$UnmodifiableEntry"), (0, .class_ 867), (0, u "java/util/Collections$UnmodifiableMap$UnmodifiableEntrySet$UnmodifiableEntrySetSpliterator"), (0, .class_ 869), (0, u "java/util/Collections$UnmodifiableMap$UnmodifiableEntrySet$1"), (0, .class_ 871), (0, u "java/util/Collections$UnmodifiableList$1"), (0, .class_ 873), (0, u "java/util/Collections$UnmodifiableNavigableSet$EmptyNavigableSet"), (0, .class_ 875), (0, u "java/util/Collections$UnmodifiableCollection$1")] 57

def k12m0 : Method := { name := "<init>", desc := "()V", sig := { parameters := [], returnType := none }, accessFlags := 2, code := none }
/-- java/util/Collections -/
def k12 : Class := { plain "java/util/Collections" (some 0) with
  accessFlags := 33
  interfaces := #[]
  cf := some (fileOf pool12 19 #[.nestMembers #[478, 473, 469, 434, 423, 417, 393, 390, 380, 497, 494, 491, 355, 350, 344, 338, 333, 328, 850, 852, 854, 320, 325, 856, 315, 310, 305, 300, 287, 858, 284, 281, 278, 268, 271, 265, 262, 256, 250, 245, 860, 237, 231, 223, 862, 864, 866, 868, 215, 212, 870, 206, 872, 198, 190, 182, 174, 166, 874, 442, 387, 384]] #[{ accessFlags := 2, nameIndex := 5, descriptorIndex := 6, attributes := #[] }] 33 2 #[] #[{ accessFlags := 26, nameIndex := 500, descriptorIndex := 501, attributes := #[] }, { accessFlags := 26, nameIndex := 504, descriptorIndex := 501, attributes := #[] }, { accessFlags := 26, nameIndex := 506, descriptorIndex := 501, attributes := #[] }, { accessFlags := 26, nameIndex := 508, descriptorIndex := 501, attributes := #[] }, { accessFlags := 26, nameIndex := 510, descriptorIndex := 501, attributes := #[] }, { accessFlags := 26, nameIndex := 512, descriptorIndex := 501, attributes := #[] }, { accessFlags := 26, nameIndex := 514, descriptorIndex := 501, attributes := #[] }, { accessFlags := 26, nameIndex := 516, descriptorIndex := 501, attributes := #[] }, { accessFlags := 10, nameIndex := 84, descriptorIndex := 85, attributes := #[] }, { accessFlags := 25, nameIndex := 362, descriptorIndex := 363, attributes := #[] }, { accessFlags := 25, nameIndex := 370, descriptorIndex := 371, attributes := #[] }, { accessFlags := 25, nameIndex := 374, descriptorIndex := 375, attributes := #[] }])
  fields := #[{ name := "BINARYSEARCH_THRESHOLD", type := .int, accessFlags := 26, slot := 0, constantValue := 0 }, { name := "REVERSE_THRESHOLD", type := .int, accessFlags := 26, slot := 1, constantValue := 0 }, { name := "SHUFFLE_THRESHOLD", type := .int, accessFlags := 26, slot := 2, constantValue := 0 }, { name := "FILL_THRESHOLD", type := .int, accessFlags := 26, slot := 3, constantValue := 0 }, { name := "ROTATE_THRESHOLD", type := .int, accessFlags := 26, slot := 4, constantValue := 0 }, { name := "COPY_THRESHOLD", type := .int, accessFlags := 26, slot := 5, constantValue := 0 }, { name := "REPLACEALL_THRESHOLD", type := .int, accessFlags := 26, slot := 6, constantValue := 0 }, { name := "INDEXOFSUBLIST_THRESHOLD", type := .int, accessFlags := 26, slot := 7, constantValue := 0 }, { name := "r", type := (.object "java/util/Random"), accessFlags := 10, slot := 8, constantValue := 0 }, { name := "EMPTY_SET", type := (.object "java/util/Set"), accessFlags := 25, slot := 9, constantValue := 0 }, { name := "EMPTY_LIST", type := (.object "java/util/List"), accessFlags := 25, slot := 10, constantValue := 0 }, { name := "EMPTY_MAP", type := (.object "java/util/Map"), accessFlags := 25, slot := 11, constantValue := 0 }]
  methods := #[k12m0]
  instanceTypes := #[]
  staticTypes := #[.int, .int, .int, .int, .int, .int, .int, .int, (.object "java/util/Random"), (.object "java/util/Set"), (.object "java/util/List"), (.object "java/util/Map")]
  resolved := Array.replicate 933 none
  statics := some 1 }

def pool13 : Array CpInfo := pool [(8, .class_ 10), (1, u "java/lang/Iterable"), (24, .class_ 36), (0, u "java/lang/Object")] 25

/-- java/lang/Iterable -/
def k13 : Class := { plain "java/lang/Iterable" (some 0) with
  accessFlags := 1537
  interfaces := #[]
  cf := some (fileOf pool13 8 #[] #[] 1537 35 #[] #[])
  fields := #[]
  methods := #[]
  instanceTypes := #[]
  staticTypes := #[]
  resolved := Array.replicate 62 none
  statics := none }

def pool14 : Array CpInfo := pool [(10, .class_ 12), (1, u "java/util/Collection"), (47, .class_ 61), (0, u "java/lang/Object"), (0, .class_ 63), (0, u "java/lang/Iterable")] 51

/-- java/util/Collection -/
def k14 : Class := { plain "java/util/Collection" (some 0) with
  accessFlags := 1537
  interfaces := #[13]
  cf := some (fileOf pool14 10 #[] #[] 1537 60 #[62] #[])
  fields := #[]
  methods := #[]
  instanceTypes := #[]
  staticTypes := #[]
  resolved := Array.replicate 115 none
  statics := none }

def pool15 : Array CpInfo := pool [(2, .class_ 4), (1, u "java/lang/Object"), (0, u "<init>"), (0, u "()V"), (1, .class_ 10), (1, u "java/util/AbstractCollection"), (66, .class_ 78), (0, u "java/util/Collection")] 81

def k15m0 : Method := { name := "<init>", desc := "()V", sig := { parameters := [], returnType := none }, accessFlags := 4, code := none }
/-- java/util/AbstractCollection -/
def k15 : Class := { plain "java/util/AbstractCollection" (some 0) with
  accessFlags := 1057
  interfaces := #[14]
  cf := some (fileOf pool15 8 #[] #[{ accessFlags := 4, nameIndex := 5, descriptorIndex := 6, attributes := #[] }] 1057 2 #[77] #[])
  fields := #[]
  methods := #[k15m0]
  instanceTypes := #[]
  staticTypes := #[]
  resolved := Array.replicate 160 none
  statics := none }

def pool16 : Array CpInfo := pool [(8, .class_ 10), (1, u "java/util/SequencedCollection"), (15, .class_ 27), (0, u "java/lang/Object"), (0, .class_ 29), (0, u "java/util/Collection")] 27

/-- java/util/SequencedCollection -/
def k16 : Class := { plain "java/util/SequencedCollection" (some 0) with
  accessFlags := 1537
  interfaces := #[14]
  cf := some (fileOf pool16 8 #[] #[] 1537 26 #[28] #[])
  fields := #[]
  methods := #[]
  instanceTypes := #[]
  staticTypes := #[]
  resolved := Array.replicate 57 none
  statics := none }

def pool17 : Array CpInfo := pool [(8, .class_ 10), (1, u "java/util/List"), (92, .class_ 104), (0, u "java/lang/Object"), (15, .class_ 121), (0, u "java/util/SequencedCollection")] 129

/-- java/util/List -/
def k17 : Class := { plain "java/util/List" (some 0) with
  accessFlags := 1537
  interfaces := #[16]
  cf := some (fileOf pool17 8 #[] #[] 1537 103 #[120] #[])
  fields := #[]
  methods := #[]
  instanceTypes := #[]
  staticTypes := #[]
  resolved := Array.replicate 251 none
  statics := none }

def pool18 : Array CpInfo := pool [(2, .class_ 4), (1, u "java/util/AbstractCollection"), (0, u "<init>"), (0, u "()V"), (1, .class_ 10), (1, u "java/util/AbstractList"), (0, u "modCount"), (0, u "I"), (64, .class_ 78), (0, u "java/util/AbstractList$Itr"), (3, .class_ 83), (0, u "java/util/AbstractList$ListItr"), (9, .class_ 94), (0, u "java/util/AbstractList$RandomAccessSubList"), (3, .class_ 99), (0, u "java/util/AbstractList$SubList"), (33, .class_ 134), (0, u "java/util/List"), (73, .class_ 209), (0, u "java/util/AbstractList$SubList$1"), (0, .class_ 211), (0, u "java/util/AbstractList$RandomAccessSpliterator")] 6

def k18m0 : Method := { name := "<init>", desc := "()V", sig := { parameters := [], returnType := none }, accessFlags := 4, code := none }
/-- java/util/AbstractList -/
def k18 : Class := { plain "java/util/AbstractList" (some 15) with
  accessFlags := 1057
  interfaces := #[17]
  cf := some (fileOf pool18 8 #[.nestMembers #[93, 98, 208, 210, 82, 77]] #[{ accessFlags := 4, nameIndex := 5, descriptorIndex := 6, attributes := #[] }] 1057 2 #[133] #[{ accessFlags := 132, nameIndex := 11, descriptorIndex := 12, attributes := #[] }])
  fields := #[{ name := "modCount", type := .int, accessFlags := 132, slot := 0, constantValue := 0 }]
  methods := #[k18m0]
  instanceTypes := #[.int]
  staticTypes := #[]
  resolved := Array.replicate 218 none
  statics := none }

def pool19 : Array CpInfo := pool [(1, .class_ 2), (0, u "java/util/RandomAccess"), (0, .class_ 4), (0, u "java/lang/Object")] 2

/-- java/util/RandomAccess -/
def k19 : Class := { plain "java/util/RandomAccess" (some 0) with
  accessFlags := 1537
  interfaces := #[]
  cf := some (fileOf pool19 1 #[] #[] 1537 3 #[] #[])
  fields := #[]
  methods := #[]
  instanceTypes := #[]
  staticTypes := #[]
  resolved := Array.replicate 7 none
  statics := none }

def pool20 : Array CpInfo := pool [(2, .class_ 4), (1, u "java/util/AbstractList"), (0, u "<init>"), (0, u "()V"), (1, .class_ 10), (1, u "java/util/Collections"), (54, .class_ 66), (0, u "java/util/Collections$EmptyList"), (0, .class_ 68), (0, u "java/util/RandomAccess"), (0, .class_ 70), (0, u "java/io/Serializable"), (0, u "serialVersionUID"), (0, u "J")] 77

def k20m0 : Method := { name := "<init>", desc := "()V", sig := { parameters := [], returnType := none }, accessFlags := 2, code := none }
/-- java/util/Collections$EmptyList -/
def k20 : Class := { plain "java/util/Collections$EmptyList" (some 18) with
  accessFlags := 32
  interfaces := #[19, 3]
  cf := some (fileOf pool20 65 #[.nestHost 8] #[{ accessFlags := 2, nameIndex := 5, descriptorIndex := 6, attributes := #[] }] 32 2 #[67, 69] #[{ accessFlags := 26, nameIndex := 71, descriptorIndex := 72, attributes := #[] }])
  fields := #[{ name := "serialVersionUID", type := .long, accessFlags := 26, slot := 0, constantValue := 0 }]
  methods := #[k20m0]
  instanceTypes := #[.int]
  staticTypes := #[.long]
  resolved := Array.replicate 150 none
  statics := none }

def pool21 : Array CpInfo := pool [(2, .class_ 4), (1, u "java/lang/StackTraceElement"), (0, u "<init>"), (2, .class_ 10), (1, u "java/lang/Object"), (0, u "()V"), (2, u "format"), (0, u "B"), (2, u "classLoaderName"), (0, u "Ljava/lang/String;"), (2, u "moduleName"), (2, u "moduleVersion"), (12, u "declaringClass"), (4, u "methodName"), (2, u "fileName"), (2, u "lineNumber"), (0, u "I"), (65, u "declaringClassObject"), (0, u "Ljava/lang/Class;"), (33, .class_ 153), (1, u "java/lang/StackTraceElement$HashedModules"), (17, .class_ 172), (0, u "java/io/Serializable"), (0, u "NATIVE_METHOD"), (1, u "UNKNOWN_SOURCE"), (2, u "BUILTIN_CLASS_LOADER"), (1, u "JDK_NON_UPGRADEABLE_MODULE"), (1, u "serialVersionUID"), (0, u "J")] 51

def k21m0 : Method := { name := "<init>", desc := "()V", sig := { parameters := [], returnType := none }, accessFlags := 2, code := none }
/-- java/lang/StackTraceElement -/
def k21 : Class := { plain "java/lang/StackTraceElement" (some 0) with
  accessFlags := 49
  interfaces := #[3]
  cf := some (fileOf pool21 2 #[.nestMembers #[151]] #[{ accessFlags := 2, nameIndex := 5, descriptorIndex := 11, attributes := #[] }] 49 8 #[171] #[{ accessFlags := 26, nameIndex := 173, descriptorIndex := 19, attributes := #[] }, { accessFlags := 26, nameIndex := 175, descriptorIndex := 19, attributes := #[] }, { accessFlags := 130, nameIndex := 116, descriptorIndex := 117, attributes := #[] }, { accessFlags := 2, nameIndex := 18, descriptorIndex := 19, attributes := #[] }, { accessFlags := 2, nameIndex := 22, descriptorIndex := 19, attributes := #[] }, { accessFlags := 2, nameIndex := 25, descriptorIndex := 19, attributes := #[] }, { accessFlags := 2, nameIndex := 38, descriptorIndex := 19, attributes := #[] }, { accessFlags := 2, nameIndex := 43, descriptorIndex := 19, attributes := #[] }, { accessFlags := 2, nameIndex := 46, descriptorIndex := 19, attributes := #[] }, { accessFlags := 2, nameIndex := 49, descriptorIndex := 50, attributes := #[] }, { accessFlags := 2, nameIndex := 14, descriptorIndex := 15, attributes := #[] }, { accessFlags := 26, nameIndex := 178, descriptorIndex := 15, attributes := #[] }, { accessFlags := 26, nameIndex := 180, descriptorIndex := 15, attributes := #[] }, { accessFlags := 26, nameIndex := 182, descriptorIndex := 183, attributes := #[] }])
  fields := #[{ name := "NATIVE_METHOD", type := (.object "java/lang/String"), accessFlags := 26, slot := 0, constantValue := 0 }, { name := "UNKNOWN_SOURCE", type := (.object "java/lang/String"), accessFlags := 26, slot := 1, constantValue := 0 }, { name := "declaringClassObject", type := (.object "java/lang/Class"), accessFlags := 130, slot := 0, constantValue := 0 }, { name := "classLoaderName", type := (.object "java/lang/String"), accessFlags := 2, slot := 1, constantValue := 0 }, { name := "moduleName", type := (.object "java/lang/String"), accessFlags := 2, slot := 2, constantValue := 0 }, { name := "moduleVersion", type := (.object "java/lang/String"), accessFlags := 2, slot := 3, constantValue := 0 }, { name := "declaringClass", type := (.object "java/lang/String"), accessFlags := 2, slot := 4, constantValue := 0 }, { name := "methodName", type := (.object "java/lang/String"), accessFlags := 2, slot := 5, constantValue := 0 }, { name := "fileName", type := (.object "java/lang/String"), accessFlags := 2, slot := 6, constantValue := 0 }, { name := "lineNumber", type := .int, accessFlags := 2, slot := 7, constantValue := 0 }, { name := "format", type := .byte, accessFlags := 2, slot := 8, constantValue := 0 }, { name := "BUILTIN_CLASS_LOADER", type := .byte, accessFlags := 26, slot := 2, constantValue := 0 }, { name := "JDK_NON_UPGRADEABLE_MODULE", type := .byte, accessFlags := 26, slot := 3, constantValue := 0 }, { name := "serialVersionUID", type := .long, accessFlags := 26, slot := 4, constantValue := 0 }]
  methods := #[k21m0]
  instanceTypes := #[(.object "java/lang/Class"), (.object "java/lang/String"), (.object "java/lang/String"), (.object "java/lang/String"), (.object "java/lang/String"), (.object "java/lang/String"), (.object "java/lang/String"), .int, .byte]
  staticTypes := #[(.object "java/lang/String"), (.object "java/lang/String"), .byte, .byte, .long]
  resolved := Array.replicate 235 none
  statics := none }

def pool22 : Array CpInfo := pool [(1, u "java/lang/Cloneable"), (0, .class_ 1), (0, u "java/lang/Object"), (0, .class_ 3)] 3

/-- java/lang/Cloneable -/
def k22 : Class := { plain "java/lang/Cloneable" (some 0) with
  accessFlags := 1537
  interfaces := #[]
  cf := some (fileOf pool22 2 #[] #[] 1537 4 #[] #[])
  fields := #[]
  methods := #[]
  instanceTypes := #[]
  staticTypes := #[]
  resolved := Array.replicate 8 none
  statics := none }

/-- the primitive byte -/
def k23 : Class := { plain "byte" none with kind := .primitive 'B', accessFlags := 0x411 }
/-- [B -/
def k24 : Class := { plain "[B" (some 0) with kind := .array 23 .byte, interfaces := #[22, 3], accessFlags := 1041 }

/-- the primitive int -/
def k25 : Class := { plain "int" none with kind := .primitive 'I', accessFlags := 0x411 }
/-- [I -/
def k26 : Class := { plain "[I" (some 0) with kind := .array 25 .int, interfaces := #[22, 3], accessFlags := 1041 }

/-- [Lcom/example/tollbook/tollbook/ber/BerException; -/
def k27 : Class := { plain "[Lcom/example/tollbook/tollbook/ber/BerException;" (some 0) with kind := .array 6 (.object "com/example/tollbook/tollbook/ber/BerException"), interfaces := #[22, 3], accessFlags := 1041 }

/-- [Ljava/lang/StackTraceElement; -/
def k28 : Class := { plain "[Ljava/lang/StackTraceElement;" (some 0) with kind := .array 21 (.object "java/lang/StackTraceElement"), interfaces := #[22, 3], accessFlags := 1041 }

/-- [Ljava/lang/Throwable; -/
def k29 : Class := { plain "[Ljava/lang/Throwable;" (some 0) with kind := .array 4 (.object "java/lang/Throwable"), interfaces := #[22, 3], accessFlags := 1041 }

def heap : Heap := #[{ cls := 4, slots := #[.long 0, .ref 2, .ref 3, .null, .null, .null, .null, .ref 4, .int 1], vm := .statics 4 },
  { cls := 12, slots := #[.int 0, .int 0, .int 0, .int 0, .int 0, .int 0, .int 0, .int 0, .null, .null, .ref 3, .null], vm := .statics 12 },
  { cls := 28, slots := #[], vm := .none },
  { cls := 20, slots := #[.int 0], vm := .none },
  { cls := 29, slots := #[], vm := .none }]
def classes : Array Class := #[k0, k1, k2, k3, k4, k5, k6, k7, k8, k9, k10, k11, k12, k13, k14, k15, k16, k17, k18, k19, k20, k21, k22, k23, k24, k25, k26, k27, k28, k29]
def interned : List (Array UInt16 × Addr) := []
def slotsUsed : Nat := 22
def theMethod : MethodId := ⟨1, 1⟩
def args0 : Array Value := #[.int 3, .int 1, .int 2, .int 1, .int 5, .int 6]
def aboutOver (below : List Frame) : State where
  vm := { classes := classes, interned := interned.toArray }
  heap := heap
  slotsUsed := slotsUsed
  threads := #[{ frames := .invoking theMethod args0 :: below }]
def below0 : List Frame := [.native { method := ⟨0, 0⟩, args := #[] }]
def about1 : State := aboutOver below0
def p0 : Program := .bare "" "" ""
def e0 : Env := launch0.env 0 0 0
theorem w_frames : about1.frames = Frame.invoking theMethod args0 :: below0 := rfl
set_option maxRecDepth 65536 in
theorem w_args : argsFit about1.vm theMethod args0 = true := by decide +kernel
set_option maxRecDepth 65536 in
theorem w_heap : heapFits about1 = true := by decide +kernel
set_option maxRecDepth 65536 in
theorem w_runnable : about1.curStatus? = some .runnable := by decide +kernel
set_option maxRecDepth 65536 in
theorem w_alone : about1.alone = true := by decide +kernel
set_option maxRecDepth 65536 in
theorem w_named : about1.methodNamed? x = some theMethod := by decide +kernel
set_option maxRecDepth 65536 in
theorem w_hears : about1.hears theMethod below0 = true := by decide +kernel
set_option maxRecDepth 65536 in
theorem w_ripe : about1.ripe theMethod args0 below0 = true := by decide +kernel
theorem w_running : about1.status = .running := rfl
set_option maxRecDepth 65536 in
theorem w_room : about1.hasRoom e0.platform room_1 = true :=
  launch0.hasRoom_least _ room_1 (by decide +kernel) (by decide +kernel) (by decide +kernel) (by decide +kernel) (by decide +kernel) (by decide +kernel)
theorem allAtoms_all (ts : List Jvm.Cond) (a : Array Jvm.Value) (st : Jvm.State) : (allAtoms ts).before a st = ts.all (fun c => c.before a st) := by
  induction ts with
  | nil => rfl
  | cons c t ih =>
    show (Jvm.Cond.and c (allAtoms t)).before a st = _
    rw [Jvm.Cond.before_and, ih, List.all_cons]
def words1 : List Jvm.Cond := Jvm.Cond.code x code maxLocals ret :: tables_1
/-- a 'code' word, met by the world's own term for the bytes: nothing is compared byte by byte -/
theorem code_word {y : MethodName} {bytes : ByteArray} {mx : Nat} {rt : Option FieldType} {a : Array Value} {s : State} {m : MethodId} {meth : Method} {c : Code} (h1 : s.methodNamed? y = some m) (h2 : s.vm.method? m = some meth) (h3 : meth.code = some c) (h4 : c.code = bytes)
    (h5 : (c.maxLocals == mx && c.exceptionTable.isEmpty && decide (c.maxStack ≤ mostOperands) && decide (meth.sig.returnType = rt) && !meth.locks && decide (parseMethodDescriptor y.desc = some meth.sig)) = true) : (Jvm.Cond.code y bytes mx rt).before a s = true := by
  simp only [Bool.and_eq_true, beq_iff_eq, Bool.not_eq_true', decide_eq_true_eq] at h5
  obtain ⟨⟨⟨⟨⟨g1, g2⟩, g3⟩, g4⟩, g5⟩, g6⟩ := h5
  simp [Cond.before, Cond.holds, Cond.value, h1, h2, h3, h4, g1, g2, g3, g4, g5, g6]
def isCode : Jvm.Cond → Bool
  | .code _ _ _ _ => true
  | _ => false
theorem all_split {L : List Jvm.Cond} {P : Jvm.Cond → Bool} (h1 : L.all (fun c => isCode c || P c) = true) (h2 : ∀ c ∈ L.filter isCode, P c = true) : L.all P = true := by
  refine List.all_eq_true.mpr fun c hc => ?_
  have h := List.all_eq_true.mp h1 c hc
  rcases Bool.eq_false_or_eq_true (isCode c) with hi | hi
  · exact h2 c (List.mem_filter.mpr ⟨hc, hi⟩)
  · simpa [hi] using h
set_option maxRecDepth 65536 in
theorem w_c0 : (Jvm.Cond.code x code maxLocals ret).before args0 about1 = true := code_word (m := ⟨1, 1⟩) (meth := k1m1) (c := k1c1) (by decide +kernel) rfl rfl rfl (by decide +kernel)
set_option maxRecDepth 65536 in
theorem w_c1 : (Jvm.Cond.code ({ cls := "com/example/tollbook/tollbook/ber/TlvChains", name := "<init>", desc := "()V" } : Jvm.MethodName) prog_32_method_1_code (1 : Nat) (Option.none : Option Jvm.ClassFile.FieldType)).before args0 about1 = true := code_word (m := ⟨2, 0⟩) (meth := k2m0) (c := k2c0) (by decide +kernel) rfl rfl rfl (by decide +kernel)
set_option maxRecDepth 65536 in
theorem w_c2 : (Jvm.Cond.code ({ cls := "java/lang/Object", name := "<init>", desc := "()V" } : Jvm.MethodName) object_method_1_code (1 : Nat) (Option.none : Option Jvm.ClassFile.FieldType)).before args0 about1 = true := code_word (m := ⟨0, 0⟩) (meth := k0m0) (c := k0c0) (by decide +kernel) rfl rfl rfl (by decide +kernel)
set_option maxRecDepth 65536 in
theorem w_c3 : (Jvm.Cond.code ({ cls := "com/example/tollbook/tollbook/ber/BerException", name := "<init>", desc := "(Ljava/lang/String;J)V" } : Jvm.MethodName) prog_30_method_1_code (4 : Nat) (Option.none : Option Jvm.ClassFile.FieldType)).before args0 about1 = true := code_word (m := ⟨6, 0⟩) (meth := k6m0) (c := k6c0) (by decide +kernel) rfl rfl rfl (by decide +kernel)
set_option maxRecDepth 65536 in
theorem w_c4 : (Jvm.Cond.code ({ cls := "java/lang/Exception", name := "<init>", desc := "(Ljava/lang/String;Ljava/lang/Throwable;ZZ)V" } : Jvm.MethodName) jdk_59_method_5_code (5 : Nat) (Option.none : Option Jvm.ClassFile.FieldType)).before args0 about1 = true := code_word (m := ⟨5, 1⟩) (meth := k5m1) (c := k5c1) (by decide +kernel) rfl rfl rfl (by decide +kernel)
set_option maxRecDepth 65536 in
theorem w_c5 : (Jvm.Cond.code ({ cls := "java/lang/Throwable", name := "<init>", desc := "(Ljava/lang/String;Ljava/lang/Throwable;ZZ)V" } : Jvm.MethodName) jdk_78_method_5_code (5 : Nat) (Option.none : Option Jvm.ClassFile.FieldType)).before args0 about1 = true := code_word (m := ⟨4, 1⟩) (meth := k4m1) (c := k4c1) (by decide +kernel) rfl rfl rfl (by decide +kernel)
set_option maxRecDepth 65536 in
theorem w_c6 : (Jvm.Cond.code ({ cls := "com/example/tollbook/tollbook/ber/TlvChains", name := "reset", desc := "(II)V" } : Jvm.MethodName) prog_32_method_2_code (3 : Nat) (Option.none : Option Jvm.ClassFile.FieldType)).before args0 about1 = true := code_word (m := ⟨2, 1⟩) (meth := k2m1) (c := k2c1) (by decide +kernel) rfl rfl rfl (by decide +kernel)
set_option maxRecDepth 65536 in
theorem w_c7 : (Jvm.Cond.code ({ cls := "com/example/tollbook/tollbook/ber/TlvChains", name := "forget", desc := "()V" } : Jvm.MethodName) prog_32_method_3_code (3 : Nat) (Option.none : Option Jvm.ClassFile.FieldType)).before args0 about1 = true := code_word (m := ⟨2, 2⟩) (meth := k2m2) (c := k2c2) (by decide +kernel) rfl rfl rfl (by decide +kernel)
set_option maxRecDepth 65536 in
theorem w_c8 : (Jvm.Cond.code ({ cls := "com/example/tollbook/tollbook/ber/TlvChains", name := "allocate", desc := "(I)V" } : Jvm.MethodName) prog_32_method_15_code (2 : Nat) (Option.none : Option Jvm.ClassFile.FieldType)).before args0 about1 = true := code_word (m := ⟨2, 7⟩) (meth := k2m7) (c := k2c7) (by decide +kernel) rfl rfl rfl (by decide +kernel)
set_option maxRecDepth 65536 in
theorem w_c9 : (Jvm.Cond.code ({ cls := "com/example/tollbook/tollbook/ber/TlvChains", name := "stops", desc := "(ILcom/example/tollbook/tollbook/ber/BerException;)V" } : Jvm.MethodName) prog_32_method_7_code (4 : Nat) (Option.none : Option Jvm.ClassFile.FieldType)).before args0 about1 = true := code_word (m := ⟨2, 4⟩) (meth := k2m4) (c := k2c4) (by decide +kernel) rfl rfl rfl (by decide +kernel)
set_option maxRecDepth 65536 in
theorem w_c10 : (Jvm.Cond.code ({ cls := "com/example/tollbook/tollbook/ber/TlvChains", name := "learn", desc := "(I)I" } : Jvm.MethodName) prog_32_method_14_code (2 : Nat) (Option.some Jvm.ClassFile.FieldType.int)).before args0 about1 = true := code_word (m := ⟨2, 6⟩) (meth := k2m6) (c := k2c6) (by decide +kernel) rfl rfl rfl (by decide +kernel)
set_option maxRecDepth 65536 in
theorem w_c11 : (Jvm.Cond.code ({ cls := "com/example/tollbook/tollbook/ber/TlvChains", name := "link", desc := "(IIII)V" } : Jvm.MethodName) prog_32_method_6_code (9 : Nat) (Option.none : Option Jvm.ClassFile.FieldType)).before args0 about1 = true := code_word (m := ⟨2, 3⟩) (meth := k2m3) (c := k2c3) (by decide +kernel) rfl rfl rfl (by decide +kernel)
set_option maxRecDepth 65536 in
theorem w_c12 : (Jvm.Cond.code ({ cls := "com/example/tollbook/tollbook/ber/TlvChains", name := "end", desc := "(I)I" } : Jvm.MethodName) prog_32_method_10_code (3 : Nat) (Option.some Jvm.ClassFile.FieldType.int)).before args0 about1 = true := code_word (m := ⟨2, 5⟩) (meth := k2m5) (c := k2c5) (by decide +kernel) rfl rfl rfl (by decide +kernel)
def codes1 : List Jvm.Cond := [Jvm.Cond.code x code maxLocals ret, Jvm.Cond.code ({ cls := "com/example/tollbook/tollbook/ber/TlvChains", name := "<init>", desc := "()V" } : Jvm.MethodName) prog_32_method_1_code (1 : Nat) (Option.none : Option Jvm.ClassFile.FieldType), Jvm.Cond.code ({ cls := "java/lang/Object", name := "<init>", desc := "()V" } : Jvm.MethodName) object_method_1_code (1 : Nat) (Option.none : Option Jvm.ClassFile.FieldType), Jvm.Cond.code ({ cls := "com/example/tollbook/tollbook/ber/BerException", name := "<init>", desc := "(Ljava/lang/String;J)V" } : Jvm.MethodName) prog_30_method_1_code (4 : Nat) (Option.none : Option Jvm.ClassFile.FieldType), Jvm.Cond.code ({ cls := "java/lang/Exception", name := "<init>", desc := "(Ljava/lang/String;Ljava/lang/Throwable;ZZ)V" } : Jvm.MethodName) jdk_59_method_5_code (5 : Nat) (Option.none : Option Jvm.ClassFile.FieldType), Jvm.Cond.code ({ cls := "java/lang/Throwable", name := "<init>", desc := "(Ljava/lang/String;Ljava/lang/Throwable;ZZ)V" } : Jvm.MethodName) jdk_78_method_5_code (5 : Nat) (Option.none : Option Jvm.ClassFile.FieldType), Jvm.Cond.code ({ cls := "com/example/tollbook/tollbook/ber/TlvChains", name := "reset", desc := "(II)V" } : Jvm.MethodName) prog_32_method_2_code (3 : Nat) (Option.none : Option Jvm.ClassFile.FieldType), Jvm.Cond.code ({ cls := "com/example/tollbook/tollbook/ber/TlvChains", name := "forget", desc := "()V" } : Jvm.MethodName) prog_32_method_3_code (3 : Nat) (Option.none : Option Jvm.ClassFile.FieldType), Jvm.Cond.code ({ cls := "com/example/tollbook/tollbook/ber/TlvChains", name := "allocate", desc := "(I)V" } : Jvm.MethodName) prog_32_method_15_code (2 : Nat) (Option.none : Option Jvm.ClassFile.FieldType), Jvm.Cond.code ({ cls := "com/example/tollbook/tollbook/ber/TlvChains", name := "stops", desc := "(ILcom/example/tollbook/tollbook/ber/BerException;)V" } : Jvm.MethodName) prog_32_method_7_code (4 : Nat) (Option.none : Option Jvm.ClassFile.FieldType), Jvm.Cond.code ({ cls := "com/example/tollbook/tollbook/ber/TlvChains", name := "learn", desc := "(I)I" } : Jvm.MethodName) prog_32_method_14_code (2 : Nat) (Option.some Jvm.ClassFile.FieldType.int), Jvm.Cond.code ({ cls := "com/example/tollbook/tollbook/ber/TlvChains", name := "link", desc := "(IIII)V" } : Jvm.MethodName) prog_32_method_6_code (9 : Nat) (Option.none : Option Jvm.ClassFile.FieldType), Jvm.Cond.code ({ cls := "com/example/tollbook/tollbook/ber/TlvChains", name := "end", desc := "(I)I" } : Jvm.MethodName) prog_32_method_10_code (3 : Nat) (Option.some Jvm.ClassFile.FieldType.int)]
set_option maxRecDepth 65536 in
theorem codes_eq : words1.filter isCode = codes1 := rfl
theorem w_codes : ∀ c ∈ words1.filter isCode, c.before args0 about1 = true := by
  rw [codes_eq]
  intro c hc
  simp only [codes1, List.mem_cons, List.not_mem_nil, or_false] at hc
  rcases hc with rfl | rfl | rfl | rfl | rfl | rfl | rfl | rfl | rfl | rfl | rfl | rfl | rfl
  · exact w_c0
  · exact w_c1
  · exact w_c2
  · exact w_c3
  · exact w_c4
  · exact w_c5
  · exact w_c6
  · exact w_c7
  · exact w_c8
  · exact w_c9
  · exact w_c10
  · exact w_c11
  · exact w_c12
set_option maxRecDepth 65536 in
theorem w_t1 : (words1.take 24).all (fun c => isCode c || c.before args0 about1) = true := by decide +kernel
set_option maxRecDepth 65536 in
theorem w_t2 : ((words1.drop 24).take 24).all (fun c => isCode c || c.before args0 about1) = true := by decide +kernel
set_option maxRecDepth 65536 in
theorem w_t3 : (((words1.drop 24).drop 24).take 24).all (fun c => isCode c || c.before args0 about1) = true := by decide +kernel
set_option maxRecDepth 65536 in
theorem w_t4 : ((((words1.drop 24).drop 24).drop 24).take 24).all (fun c => isCode c || c.before args0 about1) = true := by decide +kernel
set_option maxRecDepth 65536 in
theorem w_t5 : ((((words1.drop 24).drop 24).drop 24).drop 24).all (fun c => isCode c || c.before args0 about1) = true := by decide +kernel
theorem w_tables : (allAtoms (Jvm.Cond.code x code maxLocals ret :: tables_1)).before args0 about1 = true := by
  rw [allAtoms_all]
  show words1.all (fun c => c.before args0 about1) = true
  refine all_split ?_ w_codes
  rw [← List.take_append_drop 24 words1, List.all_append, w_t1, ← List.take_append_drop 24 (words1.drop 24), List.all_append, w_t2, ← List.take_append_drop 24 ((words1.drop 24).drop 24), List.all_append, w_t3, ← List.take_append_drop 24 (((words1.drop 24).drop 24).drop 24), List.all_append, w_t4, w_t5]
  rfl
set_option maxRecDepth 65536 in
theorem w_rest : rest_1_c.before args0 about1 = true := by decide +kernel
set_option maxRecDepth 65536 in
theorem w_case : (Jvm.Cond.and given_1 narrow_1).before args0 about1 = true := by decide +kernel
theorem w_applies : (headSpec (Jvm.Cond.code x code maxLocals ret :: tables_1) room_1).applies x e0.platform about1 = true :=
  (Spec.applies_iff w_frames).mpr ⟨w_running, w_runnable, w_alone, w_named, w_hears, w_ripe, w_room, w_tables⟩
theorem atStart : AtStart classFile x code maxLocals ret World_1 tables_1 room_1 Calls_1 rest_1 Pre_1 launch0 p0 e0 about1 theMethod args0 below0 :=
  ⟨lists_1, trivial, launch0.admits_env _ _ _, launch0.least_env, fairChoices_fair.cas, fairChoices_fair.clock, w_frames, w_args, w_heap, w_applies, trivial, w_rest, w_case⟩
end start1
theorem witness_1 : WitnessClaimed_1 := ⟨start1.p0, start1.e0, start1.about1, start1.theMethod, start1.args0, start1.below0, start1.atStart⟩
end Jvm.Pilot.@@N@@
