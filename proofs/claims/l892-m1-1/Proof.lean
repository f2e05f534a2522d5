import JvmDerived
import JvmDerived.Pilot.@@N@@Statement
import JvmDerived.Pilot.@@N@@Code
set_option linter.unusedVariables false
set_option linter.unusedSimpArgs false
@@BLOCK:NumsL.lean.txt@@
namespace Jvm.Pilot.@@N@@
open Jvm Jvm.ClassFile Sem Op Lib Jvm.Free Jvm.Stand Jvm.LawKit Jvm.RoadKit Bundle Jvm.Pilot.@@N@@.Jvm.D
/-! THE OWN KIT: walks by continuation. oWP says: from this frame over this heap the body runs to its end, and Q holds there. -/
/-- what a conditional branch asks, in plain words -/
def oC : ClassFile.Cond → Int32 → Int32 → Prop
  | .eq, x, w => x = w
  | .ne, x, w => ¬ x = w
  | .lt, x, w => x < w
  | .ge, x, w => ¬ x < w
  | .gt, x, w => w < x
  | .le, x, w => ¬ w < x
theorem oC_cases (cd : ClassFile.Cond) (x w : Int32) : (if_icmp.holds cd x w = true ∧ oC cd x w) ∨ (if_icmp.holds cd x w = false ∧ ¬ oC cd x w) := by
  cases cd with
  | eq =>
    by_cases q : x = w
    · exact Or.inl ⟨(teq q).1, q⟩
    · exact Or.inr ⟨(feq q).1, q⟩
  | ne =>
    by_cases q : x = w
    · exact Or.inr ⟨(teq q).2, fun r => r q⟩
    · exact Or.inl ⟨(feq q).2, q⟩
  | lt =>
    by_cases q : x < w
    · exact Or.inl ⟨(tlt q).1, q⟩
    · exact Or.inr ⟨(flt q).1, q⟩
  | ge =>
    by_cases q : x < w
    · exact Or.inr ⟨(tlt q).2.1, fun r => r q⟩
    · exact Or.inl ⟨(flt q).2.1, q⟩
  | gt =>
    by_cases q : w < x
    · exact Or.inl ⟨(tlt q).2.2.1, q⟩
    · exact Or.inr ⟨(flt q).2.2.1, q⟩
  | le =>
    by_cases q : w < x
    · exact Or.inr ⟨(tlt q).2.2.2, fun r => r q⟩
    · exact Or.inl ⟨(flt q).2.2.2, q⟩
def oA : ACond → Value → Value → Prop
  | .eq, x, w => x = w
  | .ne, x, w => ¬ x = w
theorem oA_cases (cd : ACond) (x w : Value) : (acV cd (decide (x = w)) = true ∧ oA cd x w) ∨ (acV cd (decide (x = w)) = false ∧ ¬ oA cd x w) := by
  cases cd with
  | eq =>
    by_cases q : x = w
    · exact Or.inl ⟨decide_eq_true q, q⟩
    · exact Or.inr ⟨decide_eq_false q, q⟩
  | ne =>
    by_cases q : x = w
    · exact Or.inr ⟨by rw [decide_eq_true q]; rfl, fun r => r q⟩
    · exact Or.inl ⟨by rw [decide_eq_false q]; rfl, q⟩
section OwnKit
variable {b : Bool} {p : Program} {l : Launch} {e : Env} {R : Room} {s : State} {m : MethodId} {args : Array Value} {below : List Frame} {meth : Method} {c : Code} {P : Addr → Prop} {Q : Option Value → Heap → Vm → Prop} {J : Vm → Prop} {h : Heap} {k n : Nat} {Z : State} {a0 : Array Value} {y : MethodName} {B : ByteArray} {ml : Nat} {rt : Option FieldType}
/-- every place written lies in a cell that may be written -/
def oAl (P : Addr → Prop) (L : List Loc) : Prop := ∀ q ∈ L, P q.base
theorem oAl.snoc {L : List Loc} {a : Addr} {sl : Nat} (N : oAl P L) (q : P a) : oAl P (L ++ [⟨a, sl⟩]) := fun z hz => (List.mem_append.mp hz).elim (N z) fun hz => by cases List.mem_singleton.mp hz; exact q
theorem oAl.app {L L' : List Loc} (N : oAl P L) (N' : oAl P L') : oAl P (L ++ L') := fun z hz => (List.mem_append.mp hz).elim (N z) (N' z)
/-- from h to h': no cell went, classes and sizes stay, a cell that P does not name stays as it is -/
def oKp (P : Addr → Prop) (h h' : Heap) : Prop := h.size ≤ h'.size ∧ ∀ (x : Addr) (c : Cell), h[x]? = some c → ∃ c' : Cell, h'[x]? = some c' ∧ c'.cls = c.cls ∧ c'.vm = c.vm ∧ c'.slots.size = c.slots.size ∧ (¬ P x → c' = c)
theorem oKp.of_same {t : State} {L : List Loc} {ck cn : Nat} (hS : s.sameButNew t L ck cn) (N : oAl P L) : oKp P s.heap t.heap := by
  obtain ⟨-, h1, -, -, -, hh⟩ := hS
  refine ⟨h1, fun x c hx => ?_⟩
  obtain ⟨c', e1, e2, e3, e4⟩ := hh x c hx
  refine ⟨c', e1, by rw [e2], by rw [e2], e3, fun q => ?_⟩
  have e5 : c'.slots = c.slots := Array.ext_getElem? fun i => e4 i fun z => q (N _ z)
  rw [e2, e5]
theorem oKp.ext {h' : Heap} (K : oKp (fun a => h.size ≤ a) h h') : Ext h h' := ⟨K.1, fun a c hc => by
  obtain ⟨c', e1, -, -, -, e5⟩ := K.2 a c hc
  rw [e5 (Nat.not_le.mpr (Array.getElem?_eq_some_iff.mp hc).1)] at e1; exact e1⟩
theorem oKp.fld {h' : Heap} {a : Addr} {C f d : String} {v : Value} (K : oKp P h h') (F : Fld Z h a C f d v) (q : ¬ P a) : Fld Z h' a C f d v := by
  obtain ⟨cell, cf, k, i, f, h1, r⟩ := F
  obtain ⟨c', e1, -, -, -, e5⟩ := K.2 a cell h1
  rw [e5 q] at e1; exact ⟨cell, cf, k, i, f, e1, r⟩
theorem oKp.exa {h' : Heap} {a : Addr} {C : String} (K : oKp P h h') (F : Exa Z h a C) : Exa Z h' a C := by
  obtain ⟨cell, k, h1, h2, h3, h4, h5⟩ := F
  obtain ⟨c', e1, e2, e3, e4, -⟩ := K.2 a cell h1
  exact ⟨c', k, e1, by rw [e2]; exact h2, by rw [e2]; exact h3, by rw [e3]; exact h4, by rw [e4]; exact h5⟩
theorem oKp.arr {h' : Heap} {a : Addr} {cl : Cell} {ty : FieldType} (K : oKp P h h') (F : Arr Z h a cl ty) (q : ¬ P a) : Arr Z h' a cl ty := by
  obtain ⟨c', e1, -, -, -, e5⟩ := K.2 a cl F.1
  rw [e5 q] at e1; exact ⟨e1, F.2⟩
theorem oKp.trans {h' h'' : Heap} {P' : Addr → Prop} (K : oKp P h h') (K' : oKp P' h' h'') (q : ∀ a, P' a → P a) : oKp P h h'' := by
  refine ⟨Nat.le_trans K.1 K'.1, fun x c hx => ?_⟩
  obtain ⟨c1, a1, a2, a3, a4, a5⟩ := K.2 x c hx
  obtain ⟨c2, b1, b2, b3, b4, b5⟩ := K'.2 x c1 a1
  exact ⟨c2, b1, b2.trans a2, b3.trans a3, b4.trans a4, fun r => (b5 fun z => r (q x z)).trans (a5 r)⟩
/-- what is fixed along one body's walk -/
def oCx (p : Program) (s : State) (m : MethodId) (meth : Method) (c : Code) (P : Addr → Prop) (Z : State) (y : MethodName) (B : ByteArray) (ml : Nat) (rt : Option FieldType) : Prop :=
  p.tables.exec = Jvm.exec ∧ c.code = B ∧ c.maxLocals = ml ∧ meth.sig.returnType = rt ∧ meth.locks = false ∧ Z.Warmed39 s.vm ∧ s.vm.findClass y.cls = some m.cls ∧ meth.name = y.name ∧ Ext Z.heap s.heap ∧ (∀ a, s.heap.size ≤ a → P a) ∧ (∀ a, P a → Z.heap.size ≤ a)
theorem oCx.hml (C : oCx p s m meth c P Z y B ml rt) : c.maxLocals = ml := C.2.2.1
theorem oCx.hrt (C : oCx p s m meth c P Z y B ml rt) : meth.sig.returnType = rt := C.2.2.2.1
theorem oCx.locks (C : oCx p s m meth c P Z y B ml rt) : meth.locks = false := C.2.2.2.2.1
theorem oCx.hZ (C : oCx p s m meth c P Z y B ml rt) : Z.Warmed39 s.vm := C.2.2.2.2.2.1
theorem oCx.own (C : oCx p s m meth c P Z y B ml rt) : s.vm.findClass y.cls = some m.cls := C.2.2.2.2.2.2.1
theorem oCx.nm (C : oCx p s m meth c P Z y B ml rt) : meth.name = y.name := C.2.2.2.2.2.2.2.1
theorem oCx.old (C : oCx p s m meth c P Z y B ml rt) : Ext Z.heap s.heap := C.2.2.2.2.2.2.2.2.1
theorem oCx.new (C : oCx p s m meth c P Z y B ml rt) : ∀ a, s.heap.size ≤ a → P a := C.2.2.2.2.2.2.2.2.2.1
theorem oCx.young (C : oCx p s m meth c P Z y B ml rt) : ∀ a, P a → Z.heap.size ≤ a := C.2.2.2.2.2.2.2.2.2.2
theorem oCx.rebase {vm0 : Vm} {k0 : Nat} (C : oCx p s m meth c P Z y B ml rt) (hS : s.Since vm0 k0) : oCx p (s.setVm vm0) m meth c P Z y B ml rt :=
  ⟨C.1, C.2.1, C.2.2.1, C.2.2.2.1, C.2.2.2.2.1, State.Warmed39.trans C.hZ hS.1, by show vm0.findClass y.cls = _; rw [hS.1.alike.findClass]; exact C.own, C.2.2.2.2.2.2.2⟩
/-- J holds on, whatever classes, fields and methods come to be resolved -/
def oJs (J : Vm → Prop) : Prop := ∀ (s : State) (vm' : Vm), J s.vm → s.WarmedH vm' → J vm'
def oT : Vm → Prop := fun _ => True
theorem oTs : oJs oT := fun _ _ _ _ => trivial
/-- the end of a body: wide, and narrow where b says so -/
def oEnd (b : Bool) (s : State) (o : Outcome) (u : State) (L : List Loc) (k n : Nat) : Prop := (b = false → FrameEnd s o u L k n) ∧ ReturnedEndW s o u L k n
def oSd (b : Bool) (p : Program) (l : Launch) (e : Env) (R : Room) (s : State) (m : MethodId) (args : Array Value) (below : List Frame) (meth : Method) (c : Code) (P : Addr → Prop) (J : Vm → Prop) (h : Heap) (k n : Nat) (T : State) : Prop :=
  ∃ (vm0 : Vm) (k0 : Nat) (locs : List Loc) (ck cn : Nat), Stand p l e R (s.setVm vm0) m args below meth c T locs ck cn ∧ T.heap = h ∧ oAl P locs ∧ ck ≤ k ∧ cn ≤ n ∧ s.Since vm0 k0 ∧ k0 ≤ h.size ∧ (b = false → vm0 = s.vm) ∧ J vm0 ∧ oJs J
/-- from the frame g over the heap h the body runs to its end and Q holds there -/
def oWP (b : Bool) (p : Program) (l : Launch) (e : Env) (R : Room) (s : State) (m : MethodId) (args : Array Value) (below : List Frame) (meth : Method) (c : Code) (P : Addr → Prop) (Q : Option Value → Heap → Vm → Prop) (J : Vm → Prop) (h : Heap) (k n : Nat) (g : JFrame) : Prop :=
  ∀ T, oSd b p l e R s m args below meth c P J h k n T → ∃ u o, Steps p.tables e below (T.setTop g) u ∧ u.status = .running ∧ Ended u below o ∧ ∃ v L, o = .returned v ∧ (Q v u.heap u.vm ∧ oAl P L) ∧ oEnd b s o u L R.cells R.slots
abbrev oF (m : MethodId) (pc : Nat) (Ls : List Slot) (S : List Value) : JFrame := mkF m pc (Array.mk Ls) S
/-- a body's contract, where it resolves no string -/
def oMeets (l : Launch) (Z : State) (y : MethodName) (B : ByteArray) (ml : Nat) (rt : Option FieldType) (rm : Room) (as' : Array Value) (h0 : Heap) (P : Addr → Prop) (Q : Option Value → Heap → Prop) : Prop :=
  Ext Z.heap h0 → ∀ ws, MetFree l y (head1 (Jvm.Cond.code y B ml rt :: ws) rm) (fun a U => a = as' ∧ Z.Warmed39 U.vm ∧ U.heap = h0) (fun _ _ _ _ _ => True) (fun _ U o U' => ∃ v L, o = .returned v ∧ (Q v U'.heap ∧ oAl P L ∧ oKp P h0 U'.heap) ∧ FrameEnd U o U' L rm.cells rm.slots)
/-- a body's contract, where it may; J: what it asks of the tables -/
def oMeetsW (l : Launch) (Z : State) (y : MethodName) (B : ByteArray) (ml : Nat) (rt : Option FieldType) (rm : Room) (as' : Array Value) (h0 : Heap) (P : Addr → Prop) (J : Vm → Prop) (Q : Option Value → Heap → Vm → Prop) : Prop :=
  Ext Z.heap h0 → ∀ ws, MetFree l y (head1 (Jvm.Cond.code y B ml rt :: ws) rm) (fun a U => a = as' ∧ Z.Warmed39 U.vm ∧ U.heap = h0 ∧ J U.vm) (fun _ _ _ _ _ => True) (fun _ U o U' => ∃ v L, o = .returned v ∧ (Q v U'.heap U'.vm ∧ oAl P L ∧ oKp P h0 U'.heap) ∧ ReturnedEndW U o U' L rm.cells rm.slots)
theorem oMeets.of {rm : Room} {as' : Array Value} {h0 : Heap} {Ls : List Slot} {Q : Option Value → Heap → Prop} (hpl : plainFor y = true) (hP0 : ∀ a, h0.size ≤ a → P a) (hPn : Ext Z.heap h0 → ∀ a, P a → Z.heap.size ≤ a) (hef : ∀ m, entryFrame m as' ml = oF m 0 Ls [])
    (body : ∀ (p : Program) (e : Env) (s : State) (m : MethodId) (below : List Frame) (meth : Method) (c : Code), oCx p s m meth c P Z y B ml rt → s.heap = h0 → oWP false p l e rm s m as' below meth c P (fun v h _ => Q v h) oT h0 0 0 (oF m 0 Ls [])) : oMeets l Z y B ml rt rm as' h0 P Q := by
  intro hE ws
  refine MetFree.of_bodySF hpl hisR ?_
  intro p e s m args below meth c s₁ Bd hml0 hP hK
  obtain ⟨rfl, hZ, hh⟩ := hP
  have C : oCx p s m meth c P Z y B ml rt := ⟨Bd.exec, Bd.bytes, hml0, Bd.returns, Bd.notSynchronized, hZ, findClass_of_methodNamed Bd.named, (name_of_methodNamed Bd.named Bd.method).1, by rw [hh]; exact hE, by rw [hh]; exact hP0, hPn hE⟩
  have X0 : Stand p l e rm s m args below meth c s₁ [] 0 0 := Stand.of_body Bd
  have e0 : s₁.heap = h0 := by rw [← hh, Bd.state]; rfl
  obtain ⟨u, o, h1, h2, h3, v, L, rfl, ⟨hQ, hN⟩, hF⟩ := body p e s m below meth c C hh s₁ ⟨s.vm, 0, [], 0, 0, X0, e0, fun _ q => (nomatch q), Nat.le_refl _, Nat.le_refl _, (State.WarmedH.refl s).since 0, Nat.zero_le _, fun _ => rfl, trivial, oTs⟩
  refine ⟨u, _, castTop (hef m) h1, h2, h3, v, L, rfl, ⟨hQ, hN, ?_⟩, hF.1 rfl⟩
  rw [← hh]
  exact oKp.of_same (t := { u with vm := s.vm }) hF.2.2.2.2 hN
theorem oMeetsW.of {rm : Room} {as' : Array Value} {h0 : Heap} {Ls : List Slot} (hpl : plainFor y = true) (hP0 : ∀ a, h0.size ≤ a → P a) (hPn : Ext Z.heap h0 → ∀ a, P a → Z.heap.size ≤ a) (hef : ∀ m, entryFrame m as' ml = oF m 0 Ls []) (hJs : oJs J)
    (body : ∀ (p : Program) (e : Env) (s : State) (m : MethodId) (below : List Frame) (meth : Method) (c : Code), oCx p s m meth c P Z y B ml rt → s.heap = h0 → oWP true p l e rm s m as' below meth c P Q J h0 0 0 (oF m 0 Ls [])) : oMeetsW l Z y B ml rt rm as' h0 P J Q := by
  intro hE ws
  refine MetFree.of_bodySF hpl hisR ?_
  intro p e s m args below meth c s₁ Bd hml0 hP hK
  obtain ⟨rfl, hZ, hh, hJ⟩ := hP
  have C : oCx p s m meth c P Z y B ml rt := ⟨Bd.exec, Bd.bytes, hml0, Bd.returns, Bd.notSynchronized, hZ, findClass_of_methodNamed Bd.named, (name_of_methodNamed Bd.named Bd.method).1, by rw [hh]; exact hE, by rw [hh]; exact hP0, hPn hE⟩
  have X0 : Stand p l e rm s m args below meth c s₁ [] 0 0 := Stand.of_body Bd
  have e0 : s₁.heap = h0 := by rw [← hh, Bd.state]; rfl
  obtain ⟨u, o, h1, h2, h3, v, L, rfl, ⟨hQ, hN⟩, hF⟩ := body p e s m below meth c C hh s₁ ⟨s.vm, 0, [], 0, 0, X0, e0, fun _ q => (nomatch q), Nat.le_refl _, Nat.le_refl _, (State.WarmedH.refl s).since 0, Nat.zero_le _, fun _ => rfl, hJ, hJs⟩
  refine ⟨u, _, castTop (hef m) h1, h2, h3, v, L, rfl, ⟨hQ, hN, ?_⟩, hF.2⟩
  rw [← hh]
  exact oKp.of_same (t := { u with vm := s.vm }) hF.2.2.2.2 hN
theorem oMeets.mono {rm : Room} {as' : Array Value} {h0 : Heap} {Q Q' : Option Value → Heap → Prop} (M : oMeets l Z y B ml rt rm as' h0 P Q) (i : ∀ v h, Q v h → Q' v h) : oMeets l Z y B ml rt rm as' h0 P Q' := fun hE ws p e h1 h2 h3 s m a d h4 h5 h6 h7 => by
  obtain ⟨n, o, g1, g2, g3, v, L, rfl, ⟨hQ, r⟩, hF⟩ := M hE ws p e h1 h2 h3 s m a d h4 h5 h6 h7
  exact ⟨n, _, g1, g2, g3, v, L, rfl, ⟨i _ _ hQ, r⟩, hF⟩
theorem oWP.step {g g' : JFrame} (st : ∀ T, At T m c below → ∀ target, Steps p.tables e below (T.setTop g') target → Steps p.tables e below (T.setTop g) target) (K : oWP b p l e R s m args below meth c P Q J h k n g') : oWP b p l e R s m args below meth c P Q J h k n g := fun T hT => by
  obtain ⟨u, o, h1, h2⟩ := K T hT
  obtain ⟨_, _, _, _, _, X, -⟩ := hT
  exact ⟨u, o, st T X.here u h1, h2⟩
theorem oWP.stepX {g g' : JFrame} (st : ∀ s' T locs ck cn, Stand p l e R s' m args below meth c T locs ck cn → ∀ target, Steps p.tables e below (T.setTop g') target → Steps p.tables e below (T.setTop g) target) (K : oWP b p l e R s m args below meth c P Q J h k n g') : oWP b p l e R s m args below meth c P Q J h k n g := fun T hT => by
  obtain ⟨u, o, h1, h2⟩ := K T hT
  obtain ⟨_, _, _, _, _, X, -⟩ := hT
  exact ⟨u, o, st _ T _ _ _ X u h1, h2⟩
/-- a step by a law that hands back a new state over the same heap -/
theorem oWP.law {g g' : JFrame} (K : oWP b p l e R s m args below meth c P Q J h k n g') (C : oCx p s m meth c P Z y B ml rt) (st : ∀ s', oCx p s' m meth c P Z y B ml rt → ∀ T locs ck cn, Stand p l e R s' m args below meth c T locs ck cn → T.heap = h → ∃ T', Stand p l e R s' m args below meth c T' locs ck cn ∧ T'.heap = h ∧ ∀ target, Steps p.tables e below (T'.setTop g') target → Steps p.tables e below (T.setTop g) target) : oWP b p l e R s m args below meth c P Q J h k n g := fun T hT => by
  obtain ⟨vm0, k0, locs, ck, cn, X, eT, N, q1, q2, hS, hk0, hbv, hJ⟩ := hT
  obtain ⟨T', X', e', st'⟩ := st _ (C.rebase hS) T locs ck cn X eT
  obtain ⟨u, o, h1, h2⟩ := K T' ⟨vm0, k0, locs, ck, cn, X', e', N, q1, q2, hS, hk0, hbv, hJ⟩
  exact ⟨u, o, st' u h1, h2⟩
theorem oWP.more {g : JFrame} {k' n' : Nat} (K : oWP b p l e R s m args below meth c P Q J h k' n' g) (hk : k ≤ k') (hn : n ≤ n') : oWP b p l e R s m args below meth c P Q J h k n g := fun T hT => by
  obtain ⟨vm0, k0, locs, ck, cn, X, eT, N, q1, q2, r⟩ := hT
  exact K T ⟨vm0, k0, locs, ck, cn, X, eT, N, Nat.le_trans q1 hk, Nat.le_trans q2 hn, r⟩
theorem oSd.old {T : State} (C : oCx p s m meth c P Z y B ml rt) (hT : oSd b p l e R s m args below meth c P J h k n T) : Ext Z.heap h ∧ s.heap.size ≤ h.size ∧ oKp P s.heap h := by
  obtain ⟨vm0, k0, locs, ck, cn, X, rfl, N, -⟩ := hT
  have K : oKp P s.heap T.heap := oKp.of_same (s := s.setVm vm0) (t := T.setVm (s.setVm vm0).vm) X.same N
  refine ⟨⟨Nat.le_trans C.old.1 K.1, fun a cl ha => ?_⟩, K.1, K⟩
  obtain ⟨c', e1, -, -, -, e5⟩ := K.2 a cl (C.old.2 a cl ha)
  rw [e5 fun q => absurd (C.young a q) (Nat.not_le.mpr (Array.getElem?_eq_some_iff.mp ha).1)] at e1
  exact e1
/-- what stood at the start stands here; the heap only grew; and what the body kept so far -/
theorem K_old {g : JFrame} (C : oCx p s m meth c P Z y B ml rt) (K : Ext Z.heap h → s.heap.size ≤ h.size → oKp P s.heap h → oWP b p l e R s m args below meth c P Q J h k n g) : oWP b p l e R s m args below meth c P Q J h k n g := fun T hT => by
  obtain ⟨h1, h2, h3⟩ := oSd.old C hT
  exact K h1 h2 h3 T hT
variable {pc : Nat} {Ls : List Slot} {S : List Value}
theorem K_iloadN (C : oCx p s m meth c P Z y B ml rt) {i : Fin 4} {v : Int32} (hd : decode B pc = .ok (.iload_n i, 1)) (hl : (Array.mk Ls)[i.val]? = some (.val (.int v))) (K : oWP b p l e R s m args below meth c P Q J h k n (oF m (pc + 1) Ls ((.int v) :: S))) : oWP b p l e R s m args below meth c P Q J h k n (oF m pc Ls S) := K.step fun _ A _ => XS.iloadN A C.1 rfl (hb C.2.1 hd) hl
theorem K_iload (C : oCx p s m meth c P Z y B ml rt) {i : Nat} {v : Int32} (hd : decode B pc = .ok (.iload i, 2)) (hl : (Array.mk Ls)[i]? = some (.val (.int v))) (K : oWP b p l e R s m args below meth c P Q J h k n (oF m (pc + 2) Ls ((.int v) :: S))) : oWP b p l e R s m args below meth c P Q J h k n (oF m pc Ls S) := K.step fun _ A _ => XS.iload A C.1 rfl (hb C.2.1 hd) hl
theorem K_lloadN (C : oCx p s m meth c P Z y B ml rt) {i : Fin 4} {v : Int64} (hd : decode B pc = .ok (.lload_n i, 1)) (hl : (Array.mk Ls)[i.val]? = some (.val (.long v))) (K : oWP b p l e R s m args below meth c P Q J h k n (oF m (pc + 1) Ls ((.long v) :: S))) : oWP b p l e R s m args below meth c P Q J h k n (oF m pc Ls S) := K.step fun _ A _ => XT.lloadN A C.1 rfl (hb C.2.1 hd) hl
theorem K_lload (C : oCx p s m meth c P Z y B ml rt) {i : Nat} {v : Int64} (hd : decode B pc = .ok (.lload i, 2)) (hl : (Array.mk Ls)[i]? = some (.val (.long v))) (K : oWP b p l e R s m args below meth c P Q J h k n (oF m (pc + 2) Ls ((.long v) :: S))) : oWP b p l e R s m args below meth c P Q J h k n (oF m pc Ls S) := K.step fun _ A _ => XT.lload A C.1 rfl (hb C.2.1 hd) hl
theorem K_aloadN (C : oCx p s m meth c P Z y B ml rt) {i : Fin 4} {v : Value} (hd : decode B pc = .ok (.aload_n i, 1)) (hl : (Array.mk Ls)[i.val]? = some (.val v)) (hv : v.isRef = true) (K : oWP b p l e R s m args below meth c P Q J h k n (oF m (pc + 1) Ls (v :: S))) : oWP b p l e R s m args below meth c P Q J h k n (oF m pc Ls S) := K.step fun _ A _ => XS.aloadN A C.1 rfl (hb C.2.1 hd) hl hv
theorem K_aload (C : oCx p s m meth c P Z y B ml rt) {i : Nat} {v : Value} (hd : decode B pc = .ok (.aload i, 2)) (hl : (Array.mk Ls)[i]? = some (.val v)) (hv : v.isRef = true) (K : oWP b p l e R s m args below meth c P Q J h k n (oF m (pc + 2) Ls (v :: S))) : oWP b p l e R s m args below meth c P Q J h k n (oF m pc Ls S) := K.step fun _ A _ => XS.aload A C.1 rfl (hb C.2.1 hd) hl hv
theorem K_istoreN (C : oCx p s m meth c P Z y B ml rt) {i : Fin 4} {v : Int32} {Ls' : List Slot} (hd : decode B pc = .ok (.istore_n i, 1)) (hl : storeLocals (Array.mk Ls) i.val (.int v) = some (Array.mk Ls')) (K : oWP b p l e R s m args below meth c P Q J h k n (oF m (pc + 1) Ls' S)) : oWP b p l e R s m args below meth c P Q J h k n (oF m pc Ls ((.int v) :: S)) := K.step fun _ A _ => XS.istoreN A C.1 rfl (hb C.2.1 hd) rfl hl
theorem K_istore (C : oCx p s m meth c P Z y B ml rt) {i : Nat} {v : Int32} {Ls' : List Slot} (hd : decode B pc = .ok (.istore i, 2)) (hl : storeLocals (Array.mk Ls) i (.int v) = some (Array.mk Ls')) (K : oWP b p l e R s m args below meth c P Q J h k n (oF m (pc + 2) Ls' S)) : oWP b p l e R s m args below meth c P Q J h k n (oF m pc Ls ((.int v) :: S)) := K.step fun _ A _ => XS.istore A C.1 rfl (hb C.2.1 hd) rfl hl
theorem K_lstoreN (C : oCx p s m meth c P Z y B ml rt) {i : Fin 4} {v : Int64} {Ls' : List Slot} (hd : decode B pc = .ok (.lstore_n i, 1)) (hl : storeLocals (Array.mk Ls) i.val (.long v) = some (Array.mk Ls')) (K : oWP b p l e R s m args below meth c P Q J h k n (oF m (pc + 1) Ls' S)) : oWP b p l e R s m args below meth c P Q J h k n (oF m pc Ls ((.long v) :: S)) := K.step fun _ A _ => XT.lstoreN A C.1 rfl (hb C.2.1 hd) rfl hl
theorem K_lstore (C : oCx p s m meth c P Z y B ml rt) {i : Nat} {v : Int64} {Ls' : List Slot} (hd : decode B pc = .ok (.lstore i, 2)) (hl : storeLocals (Array.mk Ls) i (.long v) = some (Array.mk Ls')) (K : oWP b p l e R s m args below meth c P Q J h k n (oF m (pc + 2) Ls' S)) : oWP b p l e R s m args below meth c P Q J h k n (oF m pc Ls ((.long v) :: S)) := K.step fun _ A _ => XT.lstore A C.1 rfl (hb C.2.1 hd) rfl hl
theorem K_astoreN (C : oCx p s m meth c P Z y B ml rt) {i : Fin 4} {v : Value} {Ls' : List Slot} (hd : decode B pc = .ok (.astore_n i, 1)) (hv : v.isRef = true) (hl : storeLocals (Array.mk Ls) i.val v = some (Array.mk Ls')) (K : oWP b p l e R s m args below meth c P Q J h k n (oF m (pc + 1) Ls' S)) : oWP b p l e R s m args below meth c P Q J h k n (oF m pc Ls (v :: S)) := K.step fun _ A _ => XS.astoreN A C.1 rfl (hb C.2.1 hd) rfl hv hl
theorem K_astore (C : oCx p s m meth c P Z y B ml rt) {i : Nat} {v : Value} {Ls' : List Slot} (hd : decode B pc = .ok (.astore i, 2)) (hv : v.isRef = true) (hl : storeLocals (Array.mk Ls) i v = some (Array.mk Ls')) (K : oWP b p l e R s m args below meth c P Q J h k n (oF m (pc + 2) Ls' S)) : oWP b p l e R s m args below meth c P Q J h k n (oF m pc Ls (v :: S)) := K.step fun _ A _ => XS.astore A C.1 rfl (hb C.2.1 hd) rfl hv hl
theorem K_iinc (C : oCx p s m meth c P Z y B ml rt) {i : Nat} {cst : Int} {v w : Int32} {Ls' : List Slot} (hd : decode B pc = .ok (.iinc i cst, 3)) (hc : Int32.ofInt cst = w) (hl : (Array.mk Ls)[i]? = some (.val (.int v))) (hl' : storeLocals (Array.mk Ls) i (.int (v + w)) = some (Array.mk Ls')) (K : oWP b p l e R s m args below meth c P Q J h k n (oF m (pc + 3) Ls' S)) : oWP b p l e R s m args below meth c P Q J h k n (oF m pc Ls S) := K.step fun _ A _ => XS.iinc A C.1 rfl (hb C.2.1 hd) hl (hc ▸ hl')
theorem K_iconst (C : oCx p s m meth c P Z y B ml rt) {i : Int} (v : Int32) (hd : decode B pc = .ok (.iconst i, 1)) (hv : Int32.ofInt i = v) (K : oWP b p l e R s m args below meth c P Q J h k n (oF m (pc + 1) Ls (.int v :: S))) : oWP b p l e R s m args below meth c P Q J h k n (oF m pc Ls S) := K.step fun _ A _ => XT.iconstV A C.1 rfl v (hb C.2.1 hd) hv
theorem K_bipush (C : oCx p s m meth c P Z y B ml rt) {i : Int} (v : Int32) (hd : decode B pc = .ok (.bipush i, 2)) (hv : (Int8.ofInt i).toInt32 = v) (K : oWP b p l e R s m args below meth c P Q J h k n (oF m (pc + 2) Ls (.int v :: S))) : oWP b p l e R s m args below meth c P Q J h k n (oF m pc Ls S) := K.step fun _ A _ => XT.bipushV A C.1 rfl v (hb C.2.1 hd) hv
theorem K_sipush (C : oCx p s m meth c P Z y B ml rt) {i : Int} (v : Int32) (hd : decode B pc = .ok (.sipush i, 3)) (hv : (Int16.ofInt i).toInt32 = v) (K : oWP b p l e R s m args below meth c P Q J h k n (oF m (pc + 3) Ls (.int v :: S))) : oWP b p l e R s m args below meth c P Q J h k n (oF m pc Ls S) := K.step fun _ A _ => XT.sipushV A C.1 rfl v (hb C.2.1 hd) hv
theorem K_lconst (C : oCx p s m meth c P Z y B ml rt) {i : Fin 2} (v : Int64) (hd : decode B pc = .ok (.lconst i, 1)) (hv : Int64.ofNat i = v) (K : oWP b p l e R s m args below meth c P Q J h k n (oF m (pc + 1) Ls (.long v :: S))) : oWP b p l e R s m args below meth c P Q J h k n (oF m pc Ls S) := K.step fun _ A _ => XT.lconstV A C.1 rfl v (hb C.2.1 hd) hv
theorem K_aconst_null (C : oCx p s m meth c P Z y B ml rt)  (hd : decode B pc = .ok (.aconst_null, 1)) (K : oWP b p l e R s m args below meth c P Q J h k n (oF m (pc + 1) Ls (.null :: S))) : oWP b p l e R s m args below meth c P Q J h k n (oF m pc Ls (S)) := K.step fun _ A _ => XS.aconstNull A C.1 rfl (hb C.2.1 hd)
theorem K_dup (C : oCx p s m meth c P Z y B ml rt) {v : Value} (hd : decode B pc = .ok (.dup, 1)) (hc : v.category = 1) (K : oWP b p l e R s m args below meth c P Q J h k n (oF m (pc + 1) Ls (v :: v :: S))) : oWP b p l e R s m args below meth c P Q J h k n (oF m pc Ls (v :: S)) := K.step fun _ A _ => XS.dup A C.1 rfl (hb C.2.1 hd) rfl hc
theorem K_dup_x1 (C : oCx p s m meth c P Z y B ml rt) {v w : Value} (hd : decode B pc = .ok (.dup_x1, 1)) (hc : v.category = 1) (hc' : w.category = 1) (K : oWP b p l e R s m args below meth c P Q J h k n (oF m (pc + 1) Ls (v :: w :: v :: S))) : oWP b p l e R s m args below meth c P Q J h k n (oF m pc Ls (v :: w :: S)) := K.step fun _ A _ => XT.dupX1 A C.1 rfl (hb C.2.1 hd) rfl hc hc'
theorem K_dup2 (C : oCx p s m meth c P Z y B ml rt) {v w : Value} (hd : decode B pc = .ok (.dup2, 1)) (hc : v.category = 1) (hc' : w.category = 1) (K : oWP b p l e R s m args below meth c P Q J h k n (oF m (pc + 1) Ls (v :: w :: v :: w :: S))) : oWP b p l e R s m args below meth c P Q J h k n (oF m pc Ls (v :: w :: S)) := K.step fun _ A _ => XT.dup2 A C.1 rfl (hb C.2.1 hd) rfl hc hc'
theorem K_pop (C : oCx p s m meth c P Z y B ml rt) {v : Value} (hd : decode B pc = .ok (.pop, 1)) (hc : v.category = 1) (K : oWP b p l e R s m args below meth c P Q J h k n (oF m (pc + 1) Ls (S))) : oWP b p l e R s m args below meth c P Q J h k n (oF m pc Ls (v :: S)) := K.step fun _ A _ => XT.pop A C.1 rfl (hb C.2.1 hd) rfl hc
theorem K_goto (C : oCx p s m meth c P Z y B ml rt) {o : Int} (q : Nat) (hd : decode B pc = .ok (.goto o, 3)) (ho : 0 ≤ (pc : Int) + o) (hp : ((pc : Int) + o).toNat = q) (K : oWP b p l e R s m args below meth c P Q J h k n (oF m q Ls S)) : oWP b p l e R s m args below meth c P Q J h k n (oF m pc Ls S) := K.step fun _ A _ => XS.goto A C.1 rfl rfl (hb C.2.1 hd) ho hp
theorem K_if (C : oCx p s m meth c P Z y B ml rt) {cd : ClassFile.Cond} {x : Int32} {o : Int} (q : Nat) (hd : decode B pc = .ok (.ifCond cd o, 3)) (ho : 0 ≤ (pc : Int) + o) (hp : ((pc : Int) + o).toNat = q) (K1 : oC cd x 0 → oWP b p l e R s m args below meth c P Q J h k n (oF m q Ls S)) (K2 : ¬ oC cd x 0 → oWP b p l e R s m args below meth c P Q J h k n (oF m (pc + 3) Ls S)) : oWP b p l e R s m args below meth c P Q J h k n (oF m pc Ls (.int x :: S)) := by
  rcases oC_cases cd x 0 with ⟨h1, h2⟩ | ⟨h1, h2⟩
  · exact (K1 h2).step fun _ A _ => XS.ifYes A C.1 rfl rfl (hb C.2.1 hd) rfl ((if0 _ _).trans h1) ho hp
  · exact (K2 h2).step fun _ A _ => XS.ifNo A C.1 rfl (hb C.2.1 hd) rfl ((if0 _ _).trans h1)
theorem K_icmp (C : oCx p s m meth c P Z y B ml rt) {cd : ClassFile.Cond} {x w : Int32} {o : Int} (q : Nat) (hd : decode B pc = .ok (.if_icmp cd o, 3)) (ho : 0 ≤ (pc : Int) + o) (hp : ((pc : Int) + o).toNat = q) (K1 : oC cd x w → oWP b p l e R s m args below meth c P Q J h k n (oF m q Ls S)) (K2 : ¬ oC cd x w → oWP b p l e R s m args below meth c P Q J h k n (oF m (pc + 3) Ls S)) : oWP b p l e R s m args below meth c P Q J h k n (oF m pc Ls (.int w :: .int x :: S)) := by
  rcases oC_cases cd x w with ⟨h1, h2⟩ | ⟨h1, h2⟩
  · exact (K1 h2).step fun _ A _ => XS.icmpYes A C.1 rfl rfl (hb C.2.1 hd) rfl h1 ho hp
  · exact (K2 h2).step fun _ A _ => XS.icmpNo A C.1 rfl (hb C.2.1 hd) rfl h1
theorem K_acmp (C : oCx p s m meth c P Z y B ml rt) {cd : ACond} {x w : Value} {o : Int} (q : Nat) (hd : decode B pc = .ok (.if_acmp cd o, 3)) (h1 : x.isRef = true) (h2 : w.isRef = true) (ho : 0 ≤ (pc : Int) + o) (hp : ((pc : Int) + o).toNat = q)
    (K1 : oA cd x w → oWP b p l e R s m args below meth c P Q J h k n (oF m q Ls S)) (K2 : ¬ oA cd x w → oWP b p l e R s m args below meth c P Q J h k n (oF m (pc + 3) Ls S)) : oWP b p l e R s m args below meth c P Q J h k n (oF m pc Ls (w :: x :: S)) := by
  rcases oA_cases cd x w with ⟨g1, g2⟩ | ⟨g1, g2⟩
  · exact (K1 g2).stepX fun _ T locs ck cn X target hr => RoadKit.acmp (g := oF m pc Ls (w :: x :: S)) X C.1 rfl h1 h2 (pc0 := pc) (pc' := q) rfl (hb C.2.1 hd) rfl rfl ho (by rw [g1, ← hp]; rfl) hr
  · exact (K2 g2).stepX fun _ T locs ck cn X target hr => RoadKit.acmp (g := oF m pc Ls (w :: x :: S)) X C.1 rfl h1 h2 (pc0 := pc) (pc' := pc + 3) rfl (hb C.2.1 hd) rfl rfl ho (by rw [g1]; rfl) hr
theorem K_ifnull_ref (C : oCx p s m meth c P Z y B ml rt) {a : Addr} {o : Int} (hd : decode B pc = .ok (.ifnull o, 3)) (K : oWP b p l e R s m args below meth c P Q J h k n (oF m (pc + 3) Ls S)) : oWP b p l e R s m args below meth c P Q J h k n (oF m pc Ls (.ref a :: S)) := K.step fun _ A _ => XS.ifnullNo A C.1 rfl (hb C.2.1 hd) rfl
theorem K_ifnull_null (C : oCx p s m meth c P Z y B ml rt) {o : Int} (q : Nat) (hd : decode B pc = .ok (.ifnull o, 3)) (ho : 0 ≤ (pc : Int) + o) (hp : ((pc : Int) + o).toNat = q) (K : oWP b p l e R s m args below meth c P Q J h k n (oF m q Ls S)) : oWP b p l e R s m args below meth c P Q J h k n (oF m pc Ls (.null :: S)) := K.step fun _ A _ => XS.ifnullYes A C.1 rfl rfl (hb C.2.1 hd) rfl ho hp
theorem K_ifnonnull_ref (C : oCx p s m meth c P Z y B ml rt) {a : Addr} {o : Int} (q : Nat) (hd : decode B pc = .ok (.ifnonnull o, 3)) (ho : 0 ≤ (pc : Int) + o) (hp : ((pc : Int) + o).toNat = q) (K : oWP b p l e R s m args below meth c P Q J h k n (oF m q Ls S)) : oWP b p l e R s m args below meth c P Q J h k n (oF m pc Ls (.ref a :: S)) := K.step fun _ A _ => XT.ifnonnullYes A C.1 rfl rfl (hb C.2.1 hd) rfl ho hp
theorem K_ifnonnull_null (C : oCx p s m meth c P Z y B ml rt) {o : Int} (hd : decode B pc = .ok (.ifnonnull o, 3)) (K : oWP b p l e R s m args below meth c P Q J h k n (oF m (pc + 3) Ls S)) : oWP b p l e R s m args below meth c P Q J h k n (oF m pc Ls (.null :: S)) := K.step fun _ A _ => XT.ifnonnullNo A C.1 rfl (hb C.2.1 hd) rfl
theorem K_tsw (C : oCx p s m meth c P Z y B ml rt) {dflt low high o : Int} {offs : Array Int} {len : Nat} {i : Int32} (q : Nat) (hd : decode B pc = .ok (.tableswitch dflt low high offs, len)) (hin : ¬ (i.toInt < low ∨ i.toInt > high)) (hoff : offs[(i.toInt - low).toNat]? = some o) (ho : 0 ≤ (pc : Int) + o) (hp : ((pc : Int) + o).toNat = q) (K : oWP b p l e R s m args below meth c P Q J h k n (oF m q Ls S)) : oWP b p l e R s m args below meth c P Q J h k n (oF m pc Ls (.int i :: S)) := K.step fun _ A _ => XS.tswIn (g := oF m pc Ls (.int i :: S)) A C.1 rfl (pc0 := pc) rfl (hb C.2.1 hd) rfl hin hoff ho hp
theorem K_tswOut (C : oCx p s m meth c P Z y B ml rt) {dflt low high : Int} {offs : Array Int} {len : Nat} {i : Int32} (q : Nat) (hd : decode B pc = .ok (.tableswitch dflt low high offs, len)) (hout : i.toInt < low ∨ i.toInt > high) (ho : 0 ≤ (pc : Int) + dflt) (hp : ((pc : Int) + dflt).toNat = q) (K : oWP b p l e R s m args below meth c P Q J h k n (oF m q Ls S)) : oWP b p l e R s m args below meth c P Q J h k n (oF m pc Ls (.int i :: S)) := K.step fun _ A _ => XS.tswOut (g := oF m pc Ls (.int i :: S)) A C.1 rfl (pc0 := pc) rfl (hb C.2.1 hd) rfl hout ho hp
theorem K_iadd (C : oCx p s m meth c P Z y B ml rt) {x w : Int32} (hd : decode B pc = .ok (.iadd, 1)) (K : oWP b p l e R s m args below meth c P Q J h k n (oF m (pc + 1) Ls (.int (x + w) :: S))) : oWP b p l e R s m args below meth c P Q J h k n (oF m pc Ls (.int w :: .int x :: S)) := K.step fun _ A _ => XS.iadd A C.1 rfl (hb C.2.1 hd) rfl
theorem K_isub (C : oCx p s m meth c P Z y B ml rt) {x w : Int32} (hd : decode B pc = .ok (.isub, 1)) (K : oWP b p l e R s m args below meth c P Q J h k n (oF m (pc + 1) Ls (.int (x - w) :: S))) : oWP b p l e R s m args below meth c P Q J h k n (oF m pc Ls (.int w :: .int x :: S)) := K.step fun _ A _ => XS.isub A C.1 rfl (hb C.2.1 hd) rfl
theorem K_iand (C : oCx p s m meth c P Z y B ml rt) {x w : Int32} (hd : decode B pc = .ok (.iand, 1)) (K : oWP b p l e R s m args below meth c P Q J h k n (oF m (pc + 1) Ls (.int (x &&& w) :: S))) : oWP b p l e R s m args below meth c P Q J h k n (oF m pc Ls (.int w :: .int x :: S)) := K.step fun _ A _ => XS.iand A C.1 rfl (hb C.2.1 hd) rfl
theorem K_imul (C : oCx p s m meth c P Z y B ml rt) {x w : Int32} (hd : decode B pc = .ok (.imul, 1)) (K : oWP b p l e R s m args below meth c P Q J h k n (oF m (pc + 1) Ls (.int (x * w) :: S))) : oWP b p l e R s m args below meth c P Q J h k n (oF m pc Ls (.int w :: .int x :: S)) := K.step fun _ A _ => XS.imul A C.1 rfl (hb C.2.1 hd) rfl
theorem K_ior (C : oCx p s m meth c P Z y B ml rt) {x w : Int32} (hd : decode B pc = .ok (.ior, 1)) (K : oWP b p l e R s m args below meth c P Q J h k n (oF m (pc + 1) Ls (.int (x ||| w) :: S))) : oWP b p l e R s m args below meth c P Q J h k n (oF m pc Ls (.int w :: .int x :: S)) := K.step fun _ A _ => XT.ior A C.1 rfl (hb C.2.1 hd) rfl
theorem K_ixor (C : oCx p s m meth c P Z y B ml rt) {x w : Int32} (hd : decode B pc = .ok (.ixor, 1)) (K : oWP b p l e R s m args below meth c P Q J h k n (oF m (pc + 1) Ls (.int (x ^^^ w) :: S))) : oWP b p l e R s m args below meth c P Q J h k n (oF m pc Ls (.int w :: .int x :: S)) := K.step fun _ A _ => XT.ixor A C.1 rfl (hb C.2.1 hd) rfl
theorem K_ishl (C : oCx p s m meth c P Z y B ml rt) {x w : Int32} (hd : decode B pc = .ok (.ishl, 1)) (K : oWP b p l e R s m args below meth c P Q J h k n (oF m (pc + 1) Ls (.int (x <<< (w &&& 31)) :: S))) : oWP b p l e R s m args below meth c P Q J h k n (oF m pc Ls (.int w :: .int x :: S)) := K.step fun _ A _ => XT.ishl A C.1 rfl (hb C.2.1 hd) rfl
theorem K_ishr (C : oCx p s m meth c P Z y B ml rt) {x w : Int32} (hd : decode B pc = .ok (.ishr, 1)) (K : oWP b p l e R s m args below meth c P Q J h k n (oF m (pc + 1) Ls (.int (x >>> (w &&& 31)) :: S))) : oWP b p l e R s m args below meth c P Q J h k n (oF m pc Ls (.int w :: .int x :: S)) := K.step fun _ A _ => XT.ishr A C.1 rfl (hb C.2.1 hd) rfl
theorem K_iushr (C : oCx p s m meth c P Z y B ml rt) {x w : Int32} (hd : decode B pc = .ok (.iushr, 1)) (K : oWP b p l e R s m args below meth c P Q J h k n (oF m (pc + 1) Ls (.int (XT.ushr x w) :: S))) : oWP b p l e R s m args below meth c P Q J h k n (oF m pc Ls (.int w :: .int x :: S)) := K.step fun _ A _ => XT.iushr A C.1 rfl (hb C.2.1 hd) rfl
theorem K_idiv (C : oCx p s m meth c P Z y B ml rt) {x w : Int32} (hd : decode B pc = .ok (.idiv, 1)) (hy : w ≠ 0) (K : oWP b p l e R s m args below meth c P Q J h k n (oF m (pc + 1) Ls (.int (x / w) :: S))) : oWP b p l e R s m args below meth c P Q J h k n (oF m pc Ls (.int w :: .int x :: S)) := K.step fun _ A _ => XS.idiv A C.1 rfl (hb C.2.1 hd) rfl hy
theorem K_ladd (C : oCx p s m meth c P Z y B ml rt) {x w : Int64} (hd : decode B pc = .ok (.ladd, 1)) (K : oWP b p l e R s m args below meth c P Q J h k n (oF m (pc + 1) Ls (.long (x + w) :: S))) : oWP b p l e R s m args below meth c P Q J h k n (oF m pc Ls (.long w :: .long x :: S)) := K.step fun _ A _ => XT.ladd A C.1 rfl (hb C.2.1 hd) rfl
theorem K_lsub (C : oCx p s m meth c P Z y B ml rt) {x w : Int64} (hd : decode B pc = .ok (.lsub, 1)) (K : oWP b p l e R s m args below meth c P Q J h k n (oF m (pc + 1) Ls (.long (x - w) :: S))) : oWP b p l e R s m args below meth c P Q J h k n (oF m pc Ls (.long w :: .long x :: S)) := K.step fun _ A _ => XT.lsub A C.1 rfl (hb C.2.1 hd) rfl
theorem K_lmul (C : oCx p s m meth c P Z y B ml rt) {x w : Int64} (hd : decode B pc = .ok (.lmul, 1)) (K : oWP b p l e R s m args below meth c P Q J h k n (oF m (pc + 1) Ls (.long (x * w) :: S))) : oWP b p l e R s m args below meth c P Q J h k n (oF m pc Ls (.long w :: .long x :: S)) := K.step fun _ A _ => XT.lmul A C.1 rfl (hb C.2.1 hd) rfl
theorem K_land (C : oCx p s m meth c P Z y B ml rt) {x w : Int64} (hd : decode B pc = .ok (.land, 1)) (K : oWP b p l e R s m args below meth c P Q J h k n (oF m (pc + 1) Ls (.long (x &&& w) :: S))) : oWP b p l e R s m args below meth c P Q J h k n (oF m pc Ls (.long w :: .long x :: S)) := K.step fun _ A _ => XT.land A C.1 rfl (hb C.2.1 hd) rfl
theorem K_lor (C : oCx p s m meth c P Z y B ml rt) {x w : Int64} (hd : decode B pc = .ok (.lor, 1)) (K : oWP b p l e R s m args below meth c P Q J h k n (oF m (pc + 1) Ls (.long (x ||| w) :: S))) : oWP b p l e R s m args below meth c P Q J h k n (oF m pc Ls (.long w :: .long x :: S)) := K.step fun _ A _ => XT.lor A C.1 rfl (hb C.2.1 hd) rfl
theorem K_lxor (C : oCx p s m meth c P Z y B ml rt) {x w : Int64} (hd : decode B pc = .ok (.lxor, 1)) (K : oWP b p l e R s m args below meth c P Q J h k n (oF m (pc + 1) Ls (.long (x ^^^ w) :: S))) : oWP b p l e R s m args below meth c P Q J h k n (oF m pc Ls (.long w :: .long x :: S)) := K.step fun _ A _ => XT.lxor A C.1 rfl (hb C.2.1 hd) rfl
theorem K_ldiv (C : oCx p s m meth c P Z y B ml rt) {x w : Int64} (hd : decode B pc = .ok (.ldiv, 1)) (hy : w ≠ 0) (K : oWP b p l e R s m args below meth c P Q J h k n (oF m (pc + 1) Ls (.long (x / w) :: S))) : oWP b p l e R s m args below meth c P Q J h k n (oF m pc Ls (.long w :: .long x :: S)) := K.step fun _ A _ => XT.ldiv A C.1 rfl (hb C.2.1 hd) rfl hy
theorem K_irem (C : oCx p s m meth c P Z y B ml rt) {x w : Int32} (hd : decode B pc = .ok (.irem, 1)) (hy : w ≠ 0) (K : oWP b p l e R s m args below meth c P Q J h k n (oF m (pc + 1) Ls (.int (x % w) :: S))) : oWP b p l e R s m args below meth c P Q J h k n (oF m pc Ls (.int w :: .int x :: S)) := K.stepX fun _ T _ _ _ X _ hr => iremM X C.1 rfl (hb C.2.1 hd) rfl hy hr
theorem K_lrem (C : oCx p s m meth c P Z y B ml rt) {x w : Int64} (hd : decode B pc = .ok (.lrem, 1)) (hy : w ≠ 0) (K : oWP b p l e R s m args below meth c P Q J h k n (oF m (pc + 1) Ls (.long (x - (x / w) * w) :: S))) : oWP b p l e R s m args below meth c P Q J h k n (oF m pc Ls (.long w :: .long x :: S)) := K.step fun _ A _ => XT.lrem A C.1 rfl (hb C.2.1 hd) rfl hy
theorem K_lshl (C : oCx p s m meth c P Z y B ml rt) {x : Int64} {w : Int32} (hd : decode B pc = .ok (.lshl, 1)) (K : oWP b p l e R s m args below meth c P Q J h k n (oF m (pc + 1) Ls (.long (x <<< (w.toInt64 &&& 63)) :: S))) : oWP b p l e R s m args below meth c P Q J h k n (oF m pc Ls (.int w :: .long x :: S)) := K.step fun _ A _ => XT.lshl A C.1 rfl (hb C.2.1 hd) rfl
theorem K_lshr (C : oCx p s m meth c P Z y B ml rt) {x : Int64} {w : Int32} (hd : decode B pc = .ok (.lshr, 1)) (K : oWP b p l e R s m args below meth c P Q J h k n (oF m (pc + 1) Ls (.long (x >>> (w.toInt64 &&& 63)) :: S))) : oWP b p l e R s m args below meth c P Q J h k n (oF m pc Ls (.int w :: .long x :: S)) := K.step fun _ A _ => XT.lshr A C.1 rfl (hb C.2.1 hd) rfl
theorem K_lushr (C : oCx p s m meth c P Z y B ml rt) {x : Int64} {w : Int32} (hd : decode B pc = .ok (.lushr, 1)) (K : oWP b p l e R s m args below meth c P Q J h k n (oF m (pc + 1) Ls (.long (XT.ushrL x w) :: S))) : oWP b p l e R s m args below meth c P Q J h k n (oF m pc Ls (.int w :: .long x :: S)) := K.step fun _ A _ => XT.lushr A C.1 rfl (hb C.2.1 hd) rfl
theorem K_ineg (C : oCx p s m meth c P Z y B ml rt) {x : Int32} (hd : decode B pc = .ok (.ineg, 1)) (K : oWP b p l e R s m args below meth c P Q J h k n (oF m (pc + 1) Ls (.int (-x) :: S))) : oWP b p l e R s m args below meth c P Q J h k n (oF m pc Ls (.int x :: S)) := K.step fun _ A _ => XS.ineg A C.1 rfl (hb C.2.1 hd) rfl
theorem K_lneg (C : oCx p s m meth c P Z y B ml rt) {x : Int64} (hd : decode B pc = .ok (.lneg, 1)) (K : oWP b p l e R s m args below meth c P Q J h k n (oF m (pc + 1) Ls (.long (-x) :: S))) : oWP b p l e R s m args below meth c P Q J h k n (oF m pc Ls (.long x :: S)) := K.step fun _ A _ => XT.lneg A C.1 rfl (hb C.2.1 hd) rfl
theorem K_i2l (C : oCx p s m meth c P Z y B ml rt) {x : Int32} (hd : decode B pc = .ok (.i2l, 1)) (K : oWP b p l e R s m args below meth c P Q J h k n (oF m (pc + 1) Ls (.long (x.toInt64) :: S))) : oWP b p l e R s m args below meth c P Q J h k n (oF m pc Ls (.int x :: S)) := K.step fun _ A _ => XT.i2l A C.1 rfl (hb C.2.1 hd) rfl
theorem K_l2i (C : oCx p s m meth c P Z y B ml rt) {x : Int64} (hd : decode B pc = .ok (.l2i, 1)) (K : oWP b p l e R s m args below meth c P Q J h k n (oF m (pc + 1) Ls (.int (x.toInt32) :: S))) : oWP b p l e R s m args below meth c P Q J h k n (oF m pc Ls (.long x :: S)) := K.step fun _ A _ => XT.l2i A C.1 rfl (hb C.2.1 hd) rfl
theorem K_i2b (C : oCx p s m meth c P Z y B ml rt) {x : Int32} (hd : decode B pc = .ok (.i2b, 1)) (K : oWP b p l e R s m args below meth c P Q J h k n (oF m (pc + 1) Ls (.int (x.toInt8.toInt32) :: S))) : oWP b p l e R s m args below meth c P Q J h k n (oF m pc Ls (.int x :: S)) := K.step fun _ A _ => XT.i2b A C.1 rfl (hb C.2.1 hd) rfl
theorem K_i2c (C : oCx p s m meth c P Z y B ml rt) {x : Int32} (hd : decode B pc = .ok (.i2c, 1)) (K : oWP b p l e R s m args below meth c P Q J h k n (oF m (pc + 1) Ls (.int (x.toUInt32.toUInt16.toUInt32.toInt32) :: S))) : oWP b p l e R s m args below meth c P Q J h k n (oF m pc Ls (.int x :: S)) := K.step fun _ A _ => XT.i2c A C.1 rfl (hb C.2.1 hd) rfl
theorem K_i2s (C : oCx p s m meth c P Z y B ml rt) {x : Int32} (hd : decode B pc = .ok (.i2s, 1)) (K : oWP b p l e R s m args below meth c P Q J h k n (oF m (pc + 1) Ls (.int (x.toInt16.toInt32) :: S))) : oWP b p l e R s m args below meth c P Q J h k n (oF m pc Ls (.int x :: S)) := K.step fun _ A _ => XT.i2s A C.1 rfl (hb C.2.1 hd) rfl
theorem K_lcmp (C : oCx p s m meth c P Z y B ml rt) {x w : Int64} (hd : decode B pc = .ok (.lcmp, 1)) (K : oWP b p l e R s m args below meth c P Q J h k n (oF m (pc + 1) Ls (.int (XT.cmpL x w) :: S))) : oWP b p l e R s m args below meth c P Q J h k n (oF m pc Ls (.long w :: .long x :: S)) := K.step fun _ A _ => XT.lcmp A C.1 rfl (hb C.2.1 hd) rfl
theorem K_ret (C : oCx p s m meth c P Z y B ml rt) {v : Option Value} {g : JFrame} (hv : rt = none → v = none) (hk : k ≤ R.cells) (hn : n ≤ R.slots) (hQ : ∀ vm, J vm → Q v h vm)
    (st : ∀ s' T locs ck cn, Stand p l e R s' m args below meth c T locs ck cn → ∀ fs, (∀ (f : JFrame) (acts : List Action), f.method = m → f.locked = none → f.entered = [] → (doReturn e (T.setTop f) acts v).1 = T.setFrames fs) → Steps p.tables e below (T.setTop g) (T.setFrames fs)) : oWP b p l e R s m args below meth c P Q J h k n g := fun T hT => by
  obtain ⟨vm0, k0, locs, ck, cn, X, eT, N, q1, q2, hS, hk0, hbv, hJ⟩ := hT
  obtain ⟨fs, hr, hrun, hended, hW, hsame⟩ := X.leave (v := v) (by rw [C.hrt]; exact hv) C.locks
  obtain ⟨r1, r2, r3⟩ := hS.ended (U := T.setFrames fs) hW (by show k0 ≤ T.heap.size; rw [eT]; exact hk0) hsame
  have hs3 := r3.mono (Nat.le_trans q1 hk) (Nat.le_trans q2 hn)
  refine ⟨_, _, st _ T _ _ _ X fs hr, hrun, hended, _, _, rfl, ⟨?_, N⟩, fun hb => ⟨⟨_, rfl⟩, ?_, hs3⟩, ⟨_, rfl⟩, r1, r2, hs3⟩
  · show Q v T.heap T.vm
    rw [eT]; exact hQ _ (hJ.2 (s.setVm vm0) _ hJ.1 X.warmed)
  · have hb' := hbv hb
    subst hb'
    exact hW
theorem K_ireturn {t : FieldType} (C : oCx p s m meth c P Z y B ml (some t)) {z z' : Int32} (hd : decode B pc = .ok (.ireturn, 1)) (ht : t = .int ∨ t = .boolean ∨ t = .byte ∨ t = .char ∨ t = .short) (hz : nar t z = z') (hk : k ≤ R.cells) (hn : n ≤ R.slots) (hQ : ∀ vm, J vm → Q (some (.int z')) h vm) : oWP b p l e R s m args below meth c P Q J h k n (oF m pc Ls (.int z :: S)) := by
  subst hz
  refine K_ret C (v := some (.int (nar t z))) (fun q => nomatch q) hk hn hQ fun _ T locs ck cn X fs hr => ?_
  rcases ht with rfl | ht
  · exact retOut X C.1 C.hrt rfl (Or.inl ⟨rfl, Or.inl rfl, z, rfl⟩) (hb C.2.1 hd) hr
  · exact retN X C.1 C.hrt ht (hb C.2.1 hd) hr
theorem K_areturn {t : FieldType} (C : oCx p s m meth c P Z y B ml (some t)) {w : Value} (hd : decode B pc = .ok (.areturn, 1)) (ht : t.isReference = true) (hw : w.isRef = true) (hnw : narrow t w = w) (hk : k ≤ R.cells) (hn : n ≤ R.slots) (hQ : ∀ vm, J vm → Q (some w) h vm) : oWP b p l e R s m args below meth c P Q J h k n (oF m pc Ls (w :: S)) :=
  K_ret C (fun q => nomatch q) hk hn hQ fun _ T locs ck cn X fs hr => retOut X C.1 C.hrt hnw (Or.inr (Or.inr (Or.inr (Or.inr ⟨rfl, ht, hw⟩)))) (hb C.2.1 hd) hr
theorem K_lreturn (C : oCx p s m meth c P Z y B ml (some .long)) {w : Int64} (hd : decode B pc = .ok (.lreturn, 1)) (hk : k ≤ R.cells) (hn : n ≤ R.slots) (hQ : ∀ vm, J vm → Q (some (.long w)) h vm) : oWP b p l e R s m args below meth c P Q J h k n (oF m pc Ls (.long w :: S)) :=
  K_ret C (fun q => nomatch q) hk hn hQ fun _ T locs ck cn X fs hr => retOut X C.1 C.hrt rfl (Or.inr (Or.inl ⟨rfl, rfl, w, rfl⟩)) (hb C.2.1 hd) hr
theorem K_return (C : oCx p s m meth c P Z y B ml none) (hd : decode B pc = .ok (.return_, 1)) (hk : k ≤ R.cells) (hn : n ≤ R.slots) (hQ : ∀ vm, J vm → Q none h vm) : oWP b p l e R s m args below meth c P Q J h k n (oF m pc Ls []) :=
  K_ret C (fun _ => rfl) hk hn hQ fun _ T locs ck cn X fs hr => X.returnOut C.1 C.hrt (hb C.2.1 hd) hr
theorem K_ldcI (C : oCx p s m meth c P Z y B ml rt) {idx : Nat} {v : Int32} (w : (Jvm.Cond.constant y.cls idx v).before a0 Z = true) (hd : decode B pc = .ok (.ldc idx, 2)) (K : oWP b p l e R s m args below meth c P Q J h k n (oF m (pc + 2) Ls (.int v :: S))) : oWP b p l e R s m args below meth c P Q J h k n (oF m pc Ls S) := K.law C fun _ C T _ _ _ X eT => ⟨T, X, eT, X.ldcInt C.1 C.own (mvT C.hZ w) (g := oF m pc Ls S) rfl (hb C.2.1 hd)⟩
theorem K_ldcwI (C : oCx p s m meth c P Z y B ml rt) {idx : Nat} {v : Int32} (w : (Jvm.Cond.constant y.cls idx v).before a0 Z = true) (hd : decode B pc = .ok (.ldc_w idx, 3)) (K : oWP b p l e R s m args below meth c P Q J h k n (oF m (pc + 3) Ls (.int v :: S))) : oWP b p l e R s m args below meth c P Q J h k n (oF m pc Ls S) := K.law C fun _ C T _ _ _ X eT => ⟨T, X, eT, X.ldcwInt C.1 C.own (mvT C.hZ w) (g := oF m pc Ls S) rfl (hb C.2.1 hd)⟩
theorem K_ldc2J (C : oCx p s m meth c P Z y B ml rt) {idx : Nat} {v : Int64} (w : (Jvm.Cond.constantLong y.cls idx v).before a0 Z = true) (hd : decode B pc = .ok (.ldc2_w idx, 3)) (K : oWP b p l e R s m args below meth c P Q J h k n (oF m (pc + 3) Ls (.long v :: S))) : oWP b p l e R s m args below meth c P Q J h k n (oF m pc Ls S) := K.law C fun _ C T _ _ _ X eT => ⟨T, X, eT, X.ldc2Long C.1 C.own (mvT C.hZ w) (g := oF m pc Ls S) rfl (hb C.2.1 hd)⟩
theorem K_ldcS (C : oCx p s m meth c P Z y B ml rt) {idx nn : Nat} {text : String} (w : (Jvm.Cond.stringLink y.cls idx text).before a0 Z = true) (wS : ∀ a ∈ Bundle.stringAtoms, a.before a0 Z = true) (hd : decode B pc = .ok (.ldc idx, 2)) (hnn : 4 * text.toList.length ≤ nn) (hbig : nn ≤ 536870912) (hk : k + 2 ≤ R.cells) (hn : n + (nn + 4) ≤ R.slots) (K : ∀ a h', Ext h h' → oWP true p l e R s m args below meth c P Q oT h' (k + 2) (n + (nn + 4)) (oF m (pc + 2) Ls (.ref a :: S))) : oWP true p l e R s m args below meth c P Q oT h k n (oF m pc Ls S) := fun T hT => by
  obtain ⟨vm0, k0, locs, ck, cn, X, eT, N, q1, q2, hS, hk0, hbv, hJ⟩ := hT
  have C' := C.rebase hS
  obtain ⟨a, T', h', k1, X', e', E, hS1, hk1, -, -, st⟩ := ldcS X C.1 C'.hZ C'.own w wS eT hS hk0 (g := oF m pc Ls S) rfl (hb C.2.1 hd) hnn hbig (by omega) (by omega)
  obtain ⟨u, o, g1, g2⟩ := K a h' E T' ⟨_, k1, locs, _, _, X', e', N, by omega, by omega, hS1, hk1, (fun q => nomatch q), trivial, oTs⟩
  exact ⟨u, o, st u g1, g2⟩
theorem K_ldcwS (C : oCx p s m meth c P Z y B ml rt) {idx nn : Nat} {text : String} (w : (Jvm.Cond.stringLink y.cls idx text).before a0 Z = true) (wS : ∀ a ∈ Bundle.stringAtoms, a.before a0 Z = true) (hd : decode B pc = .ok (.ldc_w idx, 3)) (hnn : 4 * text.toList.length ≤ nn) (hbig : nn ≤ 536870912) (hk : k + 2 ≤ R.cells) (hn : n + (nn + 4) ≤ R.slots) (K : ∀ a h', Ext h h' → oWP true p l e R s m args below meth c P Q oT h' (k + 2) (n + (nn + 4)) (oF m (pc + 3) Ls (.ref a :: S))) : oWP true p l e R s m args below meth c P Q oT h k n (oF m pc Ls S) := fun T hT => by
  obtain ⟨vm0, k0, locs, ck, cn, X, eT, N, q1, q2, hS, hk0, hbv, hJ⟩ := hT
  have C' := C.rebase hS
  obtain ⟨a, T', h', k1, X', e', E, hS1, hk1, -, -, st⟩ := ldcSW X C.1 C'.hZ C'.own w wS eT hS hk0 (g := oF m pc Ls S) rfl (hb C.2.1 hd) hnn hbig (by omega) (by omega)
  obtain ⟨u, o, g1, g2⟩ := K a h' E T' ⟨_, k1, locs, _, _, X', e', N, by omega, by omega, hS1, hk1, (fun q => nomatch q), trivial, oTs⟩
  exact ⟨u, o, st u g1, g2⟩
theorem K_getF (C : oCx p s m meth c P Z y B ml rt) {R0 O f d : String} {idx : Nat} {a : Addr} {v : Value} (w : (Jvm.Cond.fieldLink y.cls idx R0 f d).before a0 Z = true) (via : Via Z R0 O f d) (F : Fld Z h a O f d v) (hd : decode B pc = .ok (.getfield idx, 3)) (K : oWP b p l e R s m args below meth c P Q J h k n (oF m (pc + 3) Ls (v :: S))) : oWP b p l e R s m args below meth c P Q J h k n (oF m pc Ls (.ref a :: S)) := K.law C fun _ C T _ _ _ X eT => getF X C.1 C.hZ C.own (host := "") (Or.inl w) via eT F (g := oF m pc Ls (.ref a :: S)) rfl rfl (hb C.2.1 hd)
theorem K_getS (C : oCx p s m meth c P Z y B ml rt) {R0 O f d : String} {idx : Nat} {v : Value} (w : (Jvm.Cond.fieldLink y.cls idx R0 f d).before a0 Z = true) (via : Via Z R0 O f d) (F : Sta Z Z.heap O f d v) (hd : decode B pc = .ok (.getstatic idx, 3)) (K : oWP b p l e R s m args below meth c P Q J h k n (oF m (pc + 3) Ls (v :: S))) : oWP b p l e R s m args below meth c P Q J h k n (oF m pc Ls S) := K_old C fun hE _ _ => K.law C fun _ C T _ _ _ X eT => getS2 X C.1 C.hZ C.own (host := "") (Or.inl w) via eT (F.ext hE) (g := oF m pc Ls S) rfl (hb C.2.1 hd)
theorem K_putF (C : oCx p s m meth c P Z y B ml rt) {R0 O f d Cn : String} {idx kk : Nat} {ty : FieldType} {a : Addr} {v old : Value} (w : (Jvm.Cond.fieldLink y.cls idx R0 f d).before a0 Z = true) (via : Via Z R0 O f d) (F : Fld Z h a O f d old) (E : Exa Z h a Cn) (L : (Jvm.Cond.lays Cn O f d).before a0 Z = true ∨ ((Jvm.Cond.laysFinal Cn O f d).before a0 Z = true ∧ y.cls = O ∧ y.name = "<init>")) (wi : (Jvm.Cond.instantiable Cn kk).before a0 Z = true)
    (hty : parseFieldDescriptor d = some ty) (hnv : narrow ty v = v) (hf : fits ty v = true) (hP : P a) (hd : decode B pc = .ok (.putfield idx, 3)) (K : ∀ h', Wr h h' a (RoadKit.slotOf Z O f d) v → oWP b p l e R s m args below meth c P Q J h' k n (oF m (pc + 3) Ls S)) : oWP b p l e R s m args below meth c P Q J h k n (oF m pc Ls (v :: .ref a :: S)) := fun T hT => by
  obtain ⟨vm0, k0, locs, ck, cn, X, eT, N, q1, q2, hS, hk0, hbv, hJ⟩ := hT
  have C' := C.rebase hS
  obtain ⟨T', h', X', e', Wr1, st⟩ := putF X C.1 C'.hZ C'.own (host := "") (Or.inl w) via eT F E (L.imp id fun q => ⟨q.1, q.2.1, C.nm.trans q.2.2⟩) wi hty hnv hf (g := oF m pc Ls (v :: .ref a :: S)) rfl rfl (hb C.2.1 hd)
  obtain ⟨u, o, g1, g2⟩ := K h' Wr1 T' ⟨vm0, k0, _, ck, cn, X', e', N.snoc hP, q1, q2, hS, by rw [Wr1.size]; exact hk0, hbv, hJ⟩
  exact ⟨u, o, st u g1, g2⟩
theorem K_getFN (C : oCx p s m meth c P Z y B ml rt) {R0 O f d : String} {host : String} {idx : Nat} {a : Addr} {v : Value} (w : (Jvm.Cond.fieldLinkNest y.cls idx R0 f d host).before a0 Z = true) (via : Via Z R0 O f d) (F : Fld Z h a O f d v) (hd : decode B pc = .ok (.getfield idx, 3)) (K : oWP b p l e R s m args below meth c P Q J h k n (oF m (pc + 3) Ls (v :: S))) : oWP b p l e R s m args below meth c P Q J h k n (oF m pc Ls (.ref a :: S)) := K.law C fun _ C T _ _ _ X eT => getF X C.1 C.hZ C.own (Or.inr w) via eT F (g := oF m pc Ls (.ref a :: S)) rfl rfl (hb C.2.1 hd)
theorem K_getSN (C : oCx p s m meth c P Z y B ml rt) {R0 O f d : String} {host : String} {idx : Nat} {v : Value} (w : (Jvm.Cond.fieldLinkNest y.cls idx R0 f d host).before a0 Z = true) (via : Via Z R0 O f d) (F : Sta Z Z.heap O f d v) (hd : decode B pc = .ok (.getstatic idx, 3)) (K : oWP b p l e R s m args below meth c P Q J h k n (oF m (pc + 3) Ls (v :: S))) : oWP b p l e R s m args below meth c P Q J h k n (oF m pc Ls S) := K_old C fun hE _ _ => K.law C fun _ C T _ _ _ X eT => getS2 X C.1 C.hZ C.own (Or.inr w) via eT (F.ext hE) (g := oF m pc Ls S) rfl (hb C.2.1 hd)
theorem K_putFN (C : oCx p s m meth c P Z y B ml rt) {R0 O f d Cn : String} {host : String} {idx kk : Nat} {ty : FieldType} {a : Addr} {v old : Value} (w : (Jvm.Cond.fieldLinkNest y.cls idx R0 f d host).before a0 Z = true) (via : Via Z R0 O f d) (F : Fld Z h a O f d old) (E : Exa Z h a Cn) (L : (Jvm.Cond.lays Cn O f d).before a0 Z = true ∨ ((Jvm.Cond.laysFinal Cn O f d).before a0 Z = true ∧ y.cls = O ∧ y.name = "<init>")) (wi : (Jvm.Cond.instantiable Cn kk).before a0 Z = true)
    (hty : parseFieldDescriptor d = some ty) (hnv : narrow ty v = v) (hf : fits ty v = true) (hP : P a) (hd : decode B pc = .ok (.putfield idx, 3)) (K : ∀ h', Wr h h' a (RoadKit.slotOf Z O f d) v → oWP b p l e R s m args below meth c P Q J h' k n (oF m (pc + 3) Ls S)) : oWP b p l e R s m args below meth c P Q J h k n (oF m pc Ls (v :: .ref a :: S)) := fun T hT => by
  obtain ⟨vm0, k0, locs, ck, cn, X, eT, N, q1, q2, hS, hk0, hbv, hJ⟩ := hT
  have C' := C.rebase hS
  obtain ⟨T', h', X', e', Wr1, st⟩ := putF X C.1 C'.hZ C'.own (Or.inr w) via eT F E (L.imp id fun q => ⟨q.1, q.2.1, C.nm.trans q.2.2⟩) wi hty hnv hf (g := oF m pc Ls (v :: .ref a :: S)) rfl rfl (hb C.2.1 hd)
  obtain ⟨u, o, g1, g2⟩ := K h' Wr1 T' ⟨vm0, k0, _, ck, cn, X', e', N.snoc hP, q1, q2, hS, by rw [Wr1.size]; exact hk0, hbv, hJ⟩
  exact ⟨u, o, st u g1, g2⟩
theorem K_new (C : oCx p s m meth c P Z y B ml rt) {Cn : String} {idx sz : Nat} (w : (Jvm.Cond.classLink y.cls idx Cn).before a0 Z = true) (wi : (Jvm.Cond.instantiable Cn sz).before a0 Z = true) (wz : (Jvm.Cond.initialized Cn).before a0 Z = true) (hd : decode B pc = .ok (.new idx, 3)) (hk : k + 1 ≤ R.cells) (hn : n + sz ≤ R.slots)
    (K : ∀ h' a, a = h.size → P a → Ext h h' → Exa Z h' a Cn → (∀ {O nm d : String} {ty : FieldType}, Laid Z a0 Cn O nm d → parseFieldDescriptor d = some ty → Fld Z h' a O nm d (defaultValue ty)) → oWP b p l e R s m args below meth c P Q J h' (k + 1) (n + sz) (oF m (pc + 3) Ls (.ref a :: S))) : oWP b p l e R s m args below meth c P Q J h k n (oF m pc Ls S) := fun T hT => by
  have hO := oSd.old C hT
  obtain ⟨vm0, k0, locs, ck, cn, X, eT, N, q1, q2, hS, hk0, hbv, hJ⟩ := hT
  have C' := C.rebase hS
  obtain ⟨T', h', X', e', E, A, D, -, st⟩ := newO X C.1 C'.hZ C'.own w wi wz eT (g := oF m pc Ls S) rfl (hb C.2.1 hd) (by omega) (by omega)
  obtain ⟨u, o, g1, g2⟩ := K h' h.size rfl (C.new _ hO.2.1) E A D T' ⟨vm0, k0, locs, _, _, X', e', N, by omega, by omega, hS, Nat.le_trans hk0 E.1, hbv, hJ⟩
  exact ⟨u, o, st u g1, g2⟩
theorem K_initO (C : oCx p s m meth c P Z y B ml rt) {idx : Nat} {a : Addr} (w1 : (Jvm.Cond.methodLink y.cls idx Lib.objectInit).before a0 Z = true) (w2 : (Jvm.Cond.instanceMethod Lib.objectInit).before a0 Z = true) (w3 : (Jvm.Cond.code Lib.objectInit ⟨#[0xb1]⟩ 1 none).before a0 Z = true) (hd : decode B pc = .ok (.invokespecial idx, 3)) (hml : Ls.length = ml) (hf : 1 ≤ R.frames) (hl : (S.map fun v => v.category).sum + 12 ≤ R.locals) (K : oWP b p l e R s m args below meth c P Q J h k n (oF m (pc + 3) Ls S)) : oWP b p l e R s m args below meth c P Q J h k n (oF m pc Ls (.ref a :: S)) :=
  K.law C fun _ C T _ _ _ X eT => initO X C.1 C.hZ C.own w1 w2 w3 eT (g := oF m pc Ls (.ref a :: S)) rfl (by rw [C.hml]; exact hml) rfl (hb C.2.1 hd) hf (W := (S.map fun v => v.category).sum) (by show 2 * 0 + _ ≤ _; exact Nat.le_of_eq (Nat.zero_add _)) hl
theorem oBackW {s' : State} {z : MethodName} {B' : ByteArray} {ml' len W : Nat} {rt' : Option FieldType} {rm : Room} {as' : Array Value} {P' : Addr → Prop} {J' : Vm → Prop} {Q' : Option Value → Heap → Vm → Prop}
    (M : oMeetsW l Z z B' ml' rt' rm as' h P' J' Q') (hE : Ext Z.heap h) (hZ : Z.Warmed39 s'.vm) (wc : (Jvm.Cond.code z B' ml' rt').before a0 Z = true) (wz : (Jvm.Cond.initialized z.cls).before a0 Z = true) (hf : rm.frames + 1 ≤ R.frames) (hl : W + (ml' + 11) + rm.locals ≤ R.locals) :
    BackS l R p e below s' args z len W (fun A a => a = as' ∧ A.U.heap = h ∧ A.cells + rm.cells ≤ R.cells ∧ A.slots + rm.slots ≤ R.slots ∧ J' A.U.vm)
      (fun A _ v B => ∃ L, (Q' v B.U.heap B.U.vm ∧ oAl P' L ∧ oKp P' h B.U.heap) ∧ B.locs = A.locs ++ L ∧ B.cells = A.cells + rm.cells ∧ B.slots = A.slots + rm.slots) :=
  BackS.of_freeW (bytes := B') (maxL := ml') (ret := rt') (E := fun _ _ o t L k n => k = rm.cells ∧ n = rm.slots ∧ ∃ v, o = .returned v ∧ (Q' v t.heap t.vm ∧ oAl P' L ∧ oKp P' h t.heap)) (M hE []) hf hl
    (fun m meth c A a Y hp => have hU : Z.Warmed39 A.U.vm := wtrans hZ Y.warmed
      ⟨by show (Jvm.Cond.and _ .tt).before a A.U = true; rw [Cond.before_and, mv hU wc]; rfl, mv hU wc, mv hU wz, hp.2.2.1, hp.2.2.2.1⟩)
    (fun m meth c A a g mk Y hp => ⟨hp.1, wtrans hZ Y.warmed, hp.2.1, hp.2.2.2.2⟩) (fun _ _ _ _ _ _ _ _ _ => trivial)
    (fun _ _ _ _ ⟨v, L, h1, h2, h3⟩ => ⟨L, _, _, h3, rfl, rfl, v, h1, h2⟩)
    (fun m meth c A a g mk v t L k n Y hp _ _ ⟨e1, e2, v', e3, e4⟩ => by cases e3; subst e1 e2; exact ⟨L, e4, rfl, rfl, rfl⟩)
theorem K_static (C : oCx p s m meth c P Z y B ml rt) {idx : Nat} {z : MethodName} {B' : ByteArray} {ml' : Nat} {rt' : Option FieldType} {rm : Room} {as' : Array Value} {P' : Addr → Prop} {Q' : Option Value → Heap → Prop} {argsL rest : List Value} {ps : List FieldType} {rr : Option FieldType} (M : oMeets l Z z B' ml' rt' rm as' h P' Q') (w1 : (Jvm.Cond.methodLink y.cls idx z).before a0 Z = true) (w2 : (Jvm.Cond.static z).before a0 Z = true) (w3 : (Jvm.Cond.initialized z.cls).before a0 Z = true) (w4 : (Jvm.Cond.code z B' ml' rt').before a0 Z = true) (hy : z.cls ≠ "java/lang/invoke/MethodHandle" ∧ z.cls ≠ "java/lang/invoke/VarHandle") (hpd : parseMethodDescriptor z.desc = some ⟨ps, rr⟩) (hd : decode B pc = .ok (.invokestatic idx, 3)) (hS : S = argsL.reverse ++ rest) (hlen : argsL.length = ps.length) (ha : argsL.toArray = as') (hml : Ls.length = ml) (hP : ∀ a, s.heap.size ≤ h.size → P' a → P a) (hf : rm.frames + 1 ≤ R.frames) (hl : (rest.map fun v => v.category).sum + (ml' + 11) + rm.locals ≤ R.locals) (hk : k + rm.cells ≤ R.cells) (hn : n + rm.slots ≤ R.slots)
    (K : ∀ v h', Q' v h' → oKp P' h h' → oWP b p l e R s m args below meth c P Q J h' (k + rm.cells) (n + rm.slots) (oF m (pc + 3) Ls (v.toList ++ rest))) : oWP b p l e R s m args below meth c P Q J h k n (oF m pc Ls S) := fun T hT => by
  obtain ⟨hE, hle, -⟩ := oSd.old C hT
  obtain ⟨vm0, k0, locs, ck, cn, X, eT, N, q1, q2, hSi, hk0, hbv, hJ⟩ := hT
  subst hS
  have C' := C.rebase hSi
  obtain ⟨v, vm₁, ⟨T', L', k', n'⟩, -, X', ⟨Lc, ⟨hQ, hN, hK⟩, e1, e2, e3⟩, st⟩ := Jvm.LawKit.callS X C.1 (y := z) C'.own (mvT C'.hZ w1) (mvT C'.hZ w2) (mvT C'.hZ w3) (mvT C'.hZ w4) hy (backOf (W := (rest.map fun v => v.category).sum) (Q := fun v h' L => Q' v h' ∧ oAl P' L ∧ oKp P' h h') (M hE []) C'.hZ w4 w3 hf hl) (g := oF m pc Ls (argsL.reverse ++ rest)) rfl (by rw [C.hml]; exact hml) (argsL := argsL) (rest := rest) (lenOf hpd hlen) rfl (by show 2 * 0 + _ ≤ _; exact Nat.le_of_eq (Nat.zero_add _)) (hb C.2.1 hd) (fun vm₁ hw₁ => ⟨ha, eT, by show ck + _ ≤ _; omega, by show cn + _ ≤ _; omega⟩)
  dsimp only [Pt.U, Pt.locs, Pt.cells, Pt.slots] at X' e1 e2 e3 st hQ hK
  subst e1 e2 e3
  obtain ⟨u, o, g1, g2⟩ := K v T'.heap hQ hK T' ⟨vm0, k0, _, _, _, X', rfl, N.app fun q hq => hP _ hle (hN q hq), by omega, by omega, hSi, Nat.le_trans hk0 hK.1, hbv, hJ⟩
  exact ⟨u, o, st u g1, g2⟩
theorem K_special (C : oCx p s m meth c P Z y B ml rt) {idx : Nat} {z : MethodName} {B' : ByteArray} {ml' : Nat} {rm : Room} {as' : Array Value} {P' : Addr → Prop} {Q' : Option Value → Heap → Prop} {argsL rest : List Value} {ps : List FieldType} {rr : Option FieldType} (M : oMeets l Z z B' ml' none rm as' h P' Q') {a : Addr} (w1 : (Jvm.Cond.methodLink y.cls idx z).before a0 Z = true) (w2 : (Jvm.Cond.instanceMethod z).before a0 Z = true) (w3 : (Jvm.Cond.initialized z.cls).before a0 Z = true) (w4 : (Jvm.Cond.code z B' ml' none).before a0 Z = true) (hi : z.name = "<init>") (hy : z.cls ≠ "java/lang/invoke/MethodHandle" ∧ z.cls ≠ "java/lang/invoke/VarHandle") (hpd : parseMethodDescriptor z.desc = some ⟨ps, rr⟩) (hd : decode B pc = .ok (.invokespecial idx, 3)) (hS : S = argsL.reverse ++ .ref a :: rest) (hlen : argsL.length = ps.length) (ha : (.ref a :: argsL).toArray = as') (hml : Ls.length = ml) (hP : ∀ a, s.heap.size ≤ h.size → P' a → P a) (hf : rm.frames + 1 ≤ R.frames) (hl : (rest.map fun v => v.category).sum + (ml' + 11) + rm.locals ≤ R.locals) (hk : k + rm.cells ≤ R.cells) (hn : n + rm.slots ≤ R.slots)
    (K : ∀ v h', Q' v h' → oKp P' h h' → oWP b p l e R s m args below meth c P Q J h' (k + rm.cells) (n + rm.slots) (oF m (pc + 3) Ls (v.toList ++ rest))) : oWP b p l e R s m args below meth c P Q J h k n (oF m pc Ls S) := fun T hT => by
  obtain ⟨hE, hle, -⟩ := oSd.old C hT
  obtain ⟨vm0, k0, locs, ck, cn, X, eT, N, q1, q2, hSi, hk0, hbv, hJ⟩ := hT
  subst hS
  have C' := C.rebase hSi
  obtain ⟨v, vm₁, ⟨T', L', k', n'⟩, -, X', ⟨Lc, ⟨hQ, hN, hK⟩, e1, e2, e3⟩, st⟩ := X.specialBack C.1 (y := z) hi C'.own (mvT C'.hZ w1) (mvT C'.hZ w2) (mvT C'.hZ w4) hy (backOf (W := (rest.map fun v => v.category).sum) (Q := fun v h' L => Q' v h' ∧ oAl P' L ∧ oKp P' h h') (M hE []) C'.hZ w4 w3 hf hl) (g := oF m pc Ls (argsL.reverse ++ .ref a :: rest)) rfl (by rw [C.hml]; exact hml) (Steps.refl _) (a := a) (argsL := argsL) (rest := rest) (lenOf hpd hlen) rfl (by show 2 * 0 + _ ≤ _; exact Nat.le_of_eq (Nat.zero_add _)) (hb C.2.1 hd) (fun vm₁ hw₁ => ⟨ha, eT, by show ck + _ ≤ _; omega, by show cn + _ ≤ _; omega⟩)
  dsimp only [Pt.U, Pt.locs, Pt.cells, Pt.slots] at X' e1 e2 e3 st hQ hK
  subst e1 e2 e3
  obtain ⟨u, o, g1, g2⟩ := K v T'.heap hQ hK T' ⟨vm0, k0, _, _, _, X', rfl, N.app fun q hq => hP _ hle (hN q hq), by omega, by omega, hSi, Nat.le_trans hk0 hK.1, hbv, hJ⟩
  exact ⟨u, o, st.trans g1, g2⟩
theorem K_virtual (C : oCx p s m meth c P Z y B ml rt) {idx : Nat} {z z0 : MethodName} {B' : ByteArray} {ml' : Nat} {rt' : Option FieldType} {rm : Room} {as' : Array Value} {P' : Addr → Prop} {Q' : Option Value → Heap → Prop} {argsL rest : List Value} {ps : List FieldType} {rr : Option FieldType} (M : oMeets l Z z B' ml' rt' rm as' h P' Q') {a : Addr} {Cn : String} (E : Exa Z h a Cn) (w1 : (Jvm.Cond.methodLink y.cls idx z0).before a0 Z = true) (wd : (Jvm.Cond.declares z0).before a0 Z = true) (nf : ∀ s', Z.Warmed39 s'.vm → NotFace s' z0) (ws : (Jvm.Cond.selects Cn z0 z).before a0 Z = true) (w2 : (Jvm.Cond.instanceMethod z).before a0 Z = true) (w3 : (Jvm.Cond.initialized z.cls).before a0 Z = true) (w4 : (Jvm.Cond.code z B' ml' rt').before a0 Z = true) (hy : z0.cls ≠ "java/lang/invoke/MethodHandle" ∧ z0.cls ≠ "java/lang/invoke/VarHandle") (hpd : parseMethodDescriptor z0.desc = some ⟨ps, rr⟩) (hd : decode B pc = .ok (.invokevirtual idx, 3)) (hS : S = argsL.reverse ++ .ref a :: rest) (hlen : argsL.length = ps.length) (ha : (.ref a :: argsL).toArray = as') (hml : Ls.length = ml) (hP : ∀ a, s.heap.size ≤ h.size → P' a → P a) (hf : rm.frames + 1 ≤ R.frames) (hl : (rest.map fun v => v.category).sum + (ml' + 11) + rm.locals ≤ R.locals) (hk : k + rm.cells ≤ R.cells) (hn : n + rm.slots ≤ R.slots)
    (K : ∀ v h', Q' v h' → oKp P' h h' → oWP b p l e R s m args below meth c P Q J h' (k + rm.cells) (n + rm.slots) (oF m (pc + 3) Ls (v.toList ++ rest))) : oWP b p l e R s m args below meth c P Q J h k n (oF m pc Ls S) := fun T hT => by
  obtain ⟨hE, hle, -⟩ := oSd.old C hT
  obtain ⟨vm0, k0, locs, ck, cn, X, eT, N, q1, q2, hSi, hk0, hbv, hJ⟩ := hT
  subst hS
  have C' := C.rebase hSi
  obtain ⟨cq, kq, qa, qb, qc⟩ := isOf C'.hZ eT E
  obtain ⟨v, vm₁, ⟨T', L', k', n'⟩, -, X', ⟨Lc, ⟨hQ, hN, hK⟩, e1, e2, e3⟩, st⟩ := X.virtualBack C.1 (y := z0) (z := z) C'.own (mvT C'.hZ w1) (mvT C'.hZ wd) (nf _ C'.hZ) (mvT C'.hZ ws) (mvT C'.hZ w2) hy (backOf (W := (rest.map fun v => v.category).sum) (Q := fun v h' L => Q' v h' ∧ oAl P' L ∧ oKp P' h h') (M hE []) C'.hZ w4 w3 hf hl) qa qc (g := oF m pc Ls (argsL.reverse ++ .ref a :: rest)) rfl (by rw [C.hml]; exact hml) (Steps.refl _) (argsL := argsL) (rest := rest) (lenOf hpd hlen) rfl (by show 2 * 0 + _ ≤ _; exact Nat.le_of_eq (Nat.zero_add _)) (hb C.2.1 hd) (fun vm₁ hw₁ => ⟨ha, eT, by show ck + _ ≤ _; omega, by show cn + _ ≤ _; omega⟩)
  dsimp only [Pt.U, Pt.locs, Pt.cells, Pt.slots] at X' e1 e2 e3 st hQ hK
  subst e1 e2 e3
  obtain ⟨u, o, g1, g2⟩ := K v T'.heap hQ hK T' ⟨vm0, k0, _, _, _, X', rfl, N.app fun q hq => hP _ hle (hN q hq), by omega, by omega, hSi, Nat.le_trans hk0 hK.1, hbv, hJ⟩
  exact ⟨u, o, st.trans g1, g2⟩
theorem K_virtualUp (C : oCx p s m meth c P Z y B ml rt) {idx : Nat} {z z0 : MethodName} {B' : ByteArray} {ml' : Nat} {rt' : Option FieldType} {rm : Room} {as' : Array Value} {P' : Addr → Prop} {Q' : Option Value → Heap → Prop} {argsL rest : List Value} {ps : List FieldType} {rr : Option FieldType} (M : oMeets l Z z B' ml' rt' rm as' h P' Q') {a : Addr} {Cn owner : String} (E : Exa Z h a Cn) (w1 : (Jvm.Cond.methodLink y.cls idx z0).before a0 Z = true) (wsm : (Jvm.Cond.sameMethod z0.cls owner z0.name z0.desc).before a0 Z = true) (wd : (Jvm.Cond.declares ⟨owner, z0.name, z0.desc⟩).before a0 Z = true) (ws : (Jvm.Cond.selects Cn z0 z).before a0 Z = true) (w2 : (Jvm.Cond.instanceMethod z).before a0 Z = true) (w3 : (Jvm.Cond.initialized z.cls).before a0 Z = true) (w4 : (Jvm.Cond.code z B' ml' rt').before a0 Z = true) (hy : owner ≠ "java/lang/invoke/MethodHandle" ∧ owner ≠ "java/lang/invoke/VarHandle") (hpd : parseMethodDescriptor z0.desc = some ⟨ps, rr⟩) (hd : decode B pc = .ok (.invokevirtual idx, 3)) (hS : S = argsL.reverse ++ .ref a :: rest) (hlen : argsL.length = ps.length) (ha : (.ref a :: argsL).toArray = as') (hml : Ls.length = ml) (hP : ∀ a, s.heap.size ≤ h.size → P' a → P a) (hf : rm.frames + 1 ≤ R.frames) (hl : (rest.map fun v => v.category).sum + (ml' + 11) + rm.locals ≤ R.locals) (hk : k + rm.cells ≤ R.cells) (hn : n + rm.slots ≤ R.slots)
    (K : ∀ v h', Q' v h' → oKp P' h h' → oWP b p l e R s m args below meth c P Q J h' (k + rm.cells) (n + rm.slots) (oF m (pc + 3) Ls (v.toList ++ rest))) : oWP b p l e R s m args below meth c P Q J h k n (oF m pc Ls S) := fun T hT => by
  obtain ⟨hE, hle, -⟩ := oSd.old C hT
  obtain ⟨vm0, k0, locs, ck, cn, X, eT, N, q1, q2, hSi, hk0, hbv, hJ⟩ := hT
  subst hS
  have C' := C.rebase hSi
  obtain ⟨cq, kq, qa, qb, qc⟩ := isOf C'.hZ eT E
  obtain ⟨v, vm₁, ⟨T', L', k', n'⟩, -, X', ⟨Lc, ⟨hQ, hN, hK⟩, e1, e2, e3⟩, st⟩ := X.virtualBackUp C.1 (x := z0) (y := z) C'.own (mvT C'.hZ w1) (mvT C'.hZ wsm) (mvT C'.hZ wd) hy (mvT C'.hZ ws) (mvT C'.hZ w2) (backOf (W := (rest.map fun v => v.category).sum) (Q := fun v h' L => Q' v h' ∧ oAl P' L ∧ oKp P' h h') (M hE []) C'.hZ w4 w3 hf hl) qa qc (g := oF m pc Ls (argsL.reverse ++ .ref a :: rest)) rfl (by rw [C.hml]; exact hml) (Steps.refl _) (argsL := argsL) (rest := rest) (lenOf hpd hlen) rfl (by show 2 * 0 + _ ≤ _; exact Nat.le_of_eq (Nat.zero_add _)) (hb C.2.1 hd) (fun vm₁ hw₁ => ⟨ha, eT, by show ck + _ ≤ _; omega, by show cn + _ ≤ _; omega⟩)
  dsimp only [Pt.U, Pt.locs, Pt.cells, Pt.slots] at X' e1 e2 e3 st hQ hK
  subst e1 e2 e3
  obtain ⟨u, o, g1, g2⟩ := K v T'.heap hQ hK T' ⟨vm0, k0, _, _, _, X', rfl, N.app fun q hq => hP _ hle (hN q hq), by omega, by omega, hSi, Nat.le_trans hk0 hK.1, hbv, hJ⟩
  exact ⟨u, o, st.trans g1, g2⟩
theorem K_staticW (C : oCx p s m meth c P Z y B ml rt) {idx : Nat} {z : MethodName} {B' : ByteArray} {ml' : Nat} {rt' : Option FieldType} {rm : Room} {as' : Array Value} {P' : Addr → Prop} {J' : Vm → Prop} {Q' : Option Value → Heap → Vm → Prop} {argsL rest : List Value} {ps : List FieldType} {rr : Option FieldType} (M : oMeetsW l Z z B' ml' rt' rm as' h P' J' Q') (hJJ : ∀ vm, J vm → J' vm) (w1 : (Jvm.Cond.methodLink y.cls idx z).before a0 Z = true) (w2 : (Jvm.Cond.static z).before a0 Z = true) (w3 : (Jvm.Cond.initialized z.cls).before a0 Z = true) (w4 : (Jvm.Cond.code z B' ml' rt').before a0 Z = true) (hy : z.cls ≠ "java/lang/invoke/MethodHandle" ∧ z.cls ≠ "java/lang/invoke/VarHandle") (hpd : parseMethodDescriptor z.desc = some ⟨ps, rr⟩) (hd : decode B pc = .ok (.invokestatic idx, 3)) (hS : S = argsL.reverse ++ rest) (hlen : argsL.length = ps.length) (ha : argsL.toArray = as') (hml : Ls.length = ml) (hP : ∀ a, s.heap.size ≤ h.size → P' a → P a) (hf : rm.frames + 1 ≤ R.frames) (hl : (rest.map fun v => v.category).sum + (ml' + 11) + rm.locals ≤ R.locals) (hk : k + rm.cells ≤ R.cells) (hn : n + rm.slots ≤ R.slots)
    (K : ∀ v h' vm', Q' v h' vm' → oKp P' h h' → ∃ J1 : Vm → Prop, J1 vm' ∧ oJs J1 ∧ oWP true p l e R s m args below meth c P Q J1 h' (k + rm.cells) (n + rm.slots) (oF m (pc + 3) Ls (v.toList ++ rest))) : oWP true p l e R s m args below meth c P Q J h k n (oF m pc Ls S) := fun T hT => by
  obtain ⟨hE, hle, -⟩ := oSd.old C hT
  obtain ⟨vm0, k0, locs, ck, cn, X, eT, N, q1, q2, hSi, hk0, hbv, hJ⟩ := hT
  subst hS
  have C' := C.rebase hSi
  obtain ⟨v, vm₁, ⟨T', L', k', n'⟩, -, X', hS2, hgr, ⟨Lc, ⟨hQ, hN, hK⟩, e1, e2, e3⟩, st⟩ := callSS X C.1 (y := z) C'.own (mvT C'.hZ w1) (mvT C'.hZ w2) (mvT C'.hZ w3) (mvT C'.hZ w4) hy (oBackW (W := (rest.map fun v => v.category).sum) M hE C'.hZ w4 w3 hf hl) (g := oF m pc Ls (argsL.reverse ++ rest)) rfl (by rw [C.hml]; exact hml) (argsL := argsL) (rest := rest) (lenOf hpd hlen) rfl (by show 2 * 0 + _ ≤ _; exact Nat.le_of_eq (Nat.zero_add _)) (hb C.2.1 hd) (fun vm₁ hw₁ => ⟨ha, eT, by show ck + _ ≤ _; omega, by show cn + _ ≤ _; omega, hJJ _ (hJ.2 (s.setVm vm0) _ hJ.1 hw₁)⟩)
  dsimp only [Pt.U, Pt.locs, Pt.cells, Pt.slots] at X' hS2 hgr e1 e2 e3 st hQ hK
  subst e1 e2 e3
  obtain ⟨J1, j1, j2, K1⟩ := K v T'.heap T'.vm hQ hK
  obtain ⟨u, o, g1, g2⟩ := K1 T' ⟨T'.vm, T'.heap.size, _, _, _, X', rfl, N.app fun q hq => hP _ hle (hN q hq), by omega, by omega, foldS hSi (by rw [eT]; exact hk0) hS2 hgr, Nat.le_refl _, (fun q => nomatch q), j1, j2⟩
  exact ⟨u, o, st.trans g1, g2⟩
theorem K_specialW (C : oCx p s m meth c P Z y B ml rt) {idx : Nat} {z : MethodName} {B' : ByteArray} {ml' : Nat} {rm : Room} {as' : Array Value} {P' : Addr → Prop} {J' : Vm → Prop} {Q' : Option Value → Heap → Vm → Prop} {argsL rest : List Value} {ps : List FieldType} {rr : Option FieldType} (M : oMeetsW l Z z B' ml' none rm as' h P' J' Q') (hJJ : ∀ vm, J vm → J' vm) {a : Addr} (w1 : (Jvm.Cond.methodLink y.cls idx z).before a0 Z = true) (w2 : (Jvm.Cond.instanceMethod z).before a0 Z = true) (w3 : (Jvm.Cond.initialized z.cls).before a0 Z = true) (w4 : (Jvm.Cond.code z B' ml' none).before a0 Z = true) (hi : z.name = "<init>") (hy : z.cls ≠ "java/lang/invoke/MethodHandle" ∧ z.cls ≠ "java/lang/invoke/VarHandle") (hpd : parseMethodDescriptor z.desc = some ⟨ps, rr⟩) (hd : decode B pc = .ok (.invokespecial idx, 3)) (hS : S = argsL.reverse ++ .ref a :: rest) (hlen : argsL.length = ps.length) (ha : (.ref a :: argsL).toArray = as') (hml : Ls.length = ml) (hP : ∀ a, s.heap.size ≤ h.size → P' a → P a) (hf : rm.frames + 1 ≤ R.frames) (hl : (rest.map fun v => v.category).sum + (ml' + 11) + rm.locals ≤ R.locals) (hk : k + rm.cells ≤ R.cells) (hn : n + rm.slots ≤ R.slots)
    (K : ∀ v h' vm', Q' v h' vm' → oKp P' h h' → ∃ J1 : Vm → Prop, J1 vm' ∧ oJs J1 ∧ oWP true p l e R s m args below meth c P Q J1 h' (k + rm.cells) (n + rm.slots) (oF m (pc + 3) Ls (v.toList ++ rest))) : oWP true p l e R s m args below meth c P Q J h k n (oF m pc Ls S) := fun T hT => by
  obtain ⟨hE, hle, -⟩ := oSd.old C hT
  obtain ⟨vm0, k0, locs, ck, cn, X, eT, N, q1, q2, hSi, hk0, hbv, hJ⟩ := hT
  subst hS
  have C' := C.rebase hSi
  obtain ⟨v, vm₁, ⟨T', L', k', n'⟩, -, X', hS2, hgr, ⟨Lc, ⟨hQ, hN, hK⟩, e1, e2, e3⟩, st⟩ := X.specialBackS C.1 (y := z) hi C'.own (mvT C'.hZ w1) (mvT C'.hZ w2) (mvT C'.hZ w4) hy (oBackW (W := (rest.map fun v => v.category).sum) M hE C'.hZ w4 w3 hf hl) (g := oF m pc Ls (argsL.reverse ++ .ref a :: rest)) rfl (by rw [C.hml]; exact hml) (Steps.refl _) (a := a) (argsL := argsL) (rest := rest) (lenOf hpd hlen) rfl (by show 2 * 0 + _ ≤ _; exact Nat.le_of_eq (Nat.zero_add _)) (hb C.2.1 hd) (fun vm₁ hw₁ => ⟨ha, eT, by show ck + _ ≤ _; omega, by show cn + _ ≤ _; omega, hJJ _ (hJ.2 (s.setVm vm0) _ hJ.1 hw₁)⟩)
  dsimp only [Pt.U, Pt.locs, Pt.cells, Pt.slots] at X' hS2 hgr e1 e2 e3 st hQ hK
  subst e1 e2 e3
  obtain ⟨J1, j1, j2, K1⟩ := K v T'.heap T'.vm hQ hK
  obtain ⟨u, o, g1, g2⟩ := K1 T' ⟨T'.vm, T'.heap.size, _, _, _, X', rfl, N.app fun q hq => hP _ hle (hN q hq), by omega, by omega, foldS hSi (by rw [eT]; exact hk0) hS2 hgr, Nat.le_refl _, (fun q => nomatch q), j1, j2⟩
  exact ⟨u, o, st.trans g1, g2⟩
theorem K_virtualW (C : oCx p s m meth c P Z y B ml rt) {idx : Nat} {z z0 : MethodName} {B' : ByteArray} {ml' : Nat} {rt' : Option FieldType} {rm : Room} {as' : Array Value} {P' : Addr → Prop} {J' : Vm → Prop} {Q' : Option Value → Heap → Vm → Prop} {argsL rest : List Value} {ps : List FieldType} {rr : Option FieldType} (M : oMeetsW l Z z B' ml' rt' rm as' h P' J' Q') (hJJ : ∀ vm, J vm → J' vm) {a : Addr} {Cn : String} (E : Exa Z h a Cn) (w1 : (Jvm.Cond.methodLink y.cls idx z0).before a0 Z = true) (wd : (Jvm.Cond.declares z0).before a0 Z = true) (nf : ∀ s', Z.Warmed39 s'.vm → NotFace s' z0) (ws : (Jvm.Cond.selects Cn z0 z).before a0 Z = true) (w2 : (Jvm.Cond.instanceMethod z).before a0 Z = true) (w3 : (Jvm.Cond.initialized z.cls).before a0 Z = true) (w4 : (Jvm.Cond.code z B' ml' rt').before a0 Z = true) (hy : z0.cls ≠ "java/lang/invoke/MethodHandle" ∧ z0.cls ≠ "java/lang/invoke/VarHandle") (hpd : parseMethodDescriptor z0.desc = some ⟨ps, rr⟩) (hd : decode B pc = .ok (.invokevirtual idx, 3)) (hS : S = argsL.reverse ++ .ref a :: rest) (hlen : argsL.length = ps.length) (ha : (.ref a :: argsL).toArray = as') (hml : Ls.length = ml) (hP : ∀ a, s.heap.size ≤ h.size → P' a → P a) (hf : rm.frames + 1 ≤ R.frames) (hl : (rest.map fun v => v.category).sum + (ml' + 11) + rm.locals ≤ R.locals) (hk : k + rm.cells ≤ R.cells) (hn : n + rm.slots ≤ R.slots)
    (K : ∀ v h' vm', Q' v h' vm' → oKp P' h h' → ∃ J1 : Vm → Prop, J1 vm' ∧ oJs J1 ∧ oWP true p l e R s m args below meth c P Q J1 h' (k + rm.cells) (n + rm.slots) (oF m (pc + 3) Ls (v.toList ++ rest))) : oWP true p l e R s m args below meth c P Q J h k n (oF m pc Ls S) := fun T hT => by
  obtain ⟨hE, hle, -⟩ := oSd.old C hT
  obtain ⟨vm0, k0, locs, ck, cn, X, eT, N, q1, q2, hSi, hk0, hbv, hJ⟩ := hT
  subst hS
  have C' := C.rebase hSi
  obtain ⟨cq, kq, qa, qb, qc⟩ := isOf C'.hZ eT E
  obtain ⟨v, vm₁, ⟨T', L', k', n'⟩, -, X', hS2, hgr, ⟨Lc, ⟨hQ, hN, hK⟩, e1, e2, e3⟩, st⟩ := X.virtualBackS C.1 (y := z0) (z := z) C'.own (mvT C'.hZ w1) (mvT C'.hZ wd) (nf _ C'.hZ) (mvT C'.hZ ws) (mvT C'.hZ w2) hy (oBackW (W := (rest.map fun v => v.category).sum) M hE C'.hZ w4 w3 hf hl) qa qc (g := oF m pc Ls (argsL.reverse ++ .ref a :: rest)) rfl (by rw [C.hml]; exact hml) (Steps.refl _) (argsL := argsL) (rest := rest) (lenOf hpd hlen) rfl (by show 2 * 0 + _ ≤ _; exact Nat.le_of_eq (Nat.zero_add _)) (hb C.2.1 hd) (fun vm₁ hw₁ => ⟨ha, eT, by show ck + _ ≤ _; omega, by show cn + _ ≤ _; omega, hJJ _ (hJ.2 (s.setVm vm0) _ hJ.1 hw₁)⟩)
  dsimp only [Pt.U, Pt.locs, Pt.cells, Pt.slots] at X' hS2 hgr e1 e2 e3 st hQ hK
  subst e1 e2 e3
  obtain ⟨J1, j1, j2, K1⟩ := K v T'.heap T'.vm hQ hK
  obtain ⟨u, o, g1, g2⟩ := K1 T' ⟨T'.vm, T'.heap.size, _, _, _, X', rfl, N.app fun q hq => hP _ hle (hN q hq), by omega, by omega, foldS hSi (by rw [eT]; exact hk0) hS2 hgr, Nat.le_refl _, (fun q => nomatch q), j1, j2⟩
  exact ⟨u, o, st.trans g1, g2⟩
theorem K_virtualUpW (C : oCx p s m meth c P Z y B ml rt) {idx : Nat} {z z0 : MethodName} {B' : ByteArray} {ml' : Nat} {rt' : Option FieldType} {rm : Room} {as' : Array Value} {P' : Addr → Prop} {J' : Vm → Prop} {Q' : Option Value → Heap → Vm → Prop} {argsL rest : List Value} {ps : List FieldType} {rr : Option FieldType} (M : oMeetsW l Z z B' ml' rt' rm as' h P' J' Q') (hJJ : ∀ vm, J vm → J' vm) {a : Addr} {Cn owner : String} (E : Exa Z h a Cn) (w1 : (Jvm.Cond.methodLink y.cls idx z0).before a0 Z = true) (wsm : (Jvm.Cond.sameMethod z0.cls owner z0.name z0.desc).before a0 Z = true) (wd : (Jvm.Cond.declares ⟨owner, z0.name, z0.desc⟩).before a0 Z = true) (ws : (Jvm.Cond.selects Cn z0 z).before a0 Z = true) (w2 : (Jvm.Cond.instanceMethod z).before a0 Z = true) (w3 : (Jvm.Cond.initialized z.cls).before a0 Z = true) (w4 : (Jvm.Cond.code z B' ml' rt').before a0 Z = true) (hy : owner ≠ "java/lang/invoke/MethodHandle" ∧ owner ≠ "java/lang/invoke/VarHandle") (hpd : parseMethodDescriptor z0.desc = some ⟨ps, rr⟩) (hd : decode B pc = .ok (.invokevirtual idx, 3)) (hS : S = argsL.reverse ++ .ref a :: rest) (hlen : argsL.length = ps.length) (ha : (.ref a :: argsL).toArray = as') (hml : Ls.length = ml) (hP : ∀ a, s.heap.size ≤ h.size → P' a → P a) (hf : rm.frames + 1 ≤ R.frames) (hl : (rest.map fun v => v.category).sum + (ml' + 11) + rm.locals ≤ R.locals) (hk : k + rm.cells ≤ R.cells) (hn : n + rm.slots ≤ R.slots)
    (K : ∀ v h' vm', Q' v h' vm' → oKp P' h h' → ∃ J1 : Vm → Prop, J1 vm' ∧ oJs J1 ∧ oWP true p l e R s m args below meth c P Q J1 h' (k + rm.cells) (n + rm.slots) (oF m (pc + 3) Ls (v.toList ++ rest))) : oWP true p l e R s m args below meth c P Q J h k n (oF m pc Ls S) := fun T hT => by
  obtain ⟨hE, hle, -⟩ := oSd.old C hT
  obtain ⟨vm0, k0, locs, ck, cn, X, eT, N, q1, q2, hSi, hk0, hbv, hJ⟩ := hT
  subst hS
  have C' := C.rebase hSi
  obtain ⟨cq, kq, qa, qb, qc⟩ := isOf C'.hZ eT E
  obtain ⟨v, vm₁, ⟨T', L', k', n'⟩, -, X', hS2, hgr, ⟨Lc, ⟨hQ, hN, hK⟩, e1, e2, e3⟩, st⟩ := X.virtualBackUpS C.1 (x := z0) (y := z) C'.own (mvT C'.hZ w1) (mvT C'.hZ wsm) (mvT C'.hZ wd) hy (mvT C'.hZ ws) (mvT C'.hZ w2) (oBackW (W := (rest.map fun v => v.category).sum) M hE C'.hZ w4 w3 hf hl) qa qc (g := oF m pc Ls (argsL.reverse ++ .ref a :: rest)) rfl (by rw [C.hml]; exact hml) (Steps.refl _) (argsL := argsL) (rest := rest) (lenOf hpd hlen) rfl (by show 2 * 0 + _ ≤ _; exact Nat.le_of_eq (Nat.zero_add _)) (hb C.2.1 hd) (fun vm₁ hw₁ => ⟨ha, eT, by show ck + _ ≤ _; omega, by show cn + _ ≤ _; omega, hJJ _ (hJ.2 (s.setVm vm0) _ hJ.1 hw₁)⟩)
  dsimp only [Pt.U, Pt.locs, Pt.cells, Pt.slots] at X' hS2 hgr e1 e2 e3 st hQ hK
  subst e1 e2 e3
  obtain ⟨J1, j1, j2, K1⟩ := K v T'.heap T'.vm hQ hK
  obtain ⟨u, o, g1, g2⟩ := K1 T' ⟨T'.vm, T'.heap.size, _, _, _, X', rfl, N.app fun q hq => hP _ hle (hN q hq), by omega, by omega, foldS hSi (by rw [eT]; exact hk0) hS2 hgr, Nat.le_refl _, (fun q => nomatch q), j1, j2⟩
  exact ⟨u, o, st.trans g1, g2⟩
theorem oNF {Cn : String} {z : MethodName} (w : (Jvm.Cond.selects Cn z z).before a0 Z = true) : ∀ s' : State, Z.Warmed39 s'.vm → NotFace s' z := fun _ hZ => notFace_of_selects (args := #[]) (mvT hZ w)
theorem oNFs {S' : String} {z : MethodName} (w : (Jvm.Cond.superclass z.cls S').before a0 Z = true) : ∀ s' : State, Z.Warmed39 s'.vm → NotFace s' z := fun _ hZ => nf_super (args := #[]) (mvT hZ w)
theorem K_putFn (C : oCx p s m meth c P Z y B ml rt) {R0 O f d Cn : String} {idx kk : Nat} {ty : FieldType} {a : Addr} {v v' old : Value} (w : (Jvm.Cond.fieldLink y.cls idx R0 f d).before a0 Z = true) (via : Via Z R0 O f d) (F : Fld Z h a O f d old) (E : Exa Z h a Cn) (L : (Jvm.Cond.lays Cn O f d).before a0 Z = true ∨ ((Jvm.Cond.laysFinal Cn O f d).before a0 Z = true ∧ y.cls = O ∧ y.name = "<init>")) (wi : (Jvm.Cond.instantiable Cn kk).before a0 Z = true)
    (hty : parseFieldDescriptor d = some ty) (hnv : narrow ty v = v') (hf : fits ty v' = true) (hP : P a) (hd : decode B pc = .ok (.putfield idx, 3)) (K : ∀ h', Wr h h' a (RoadKit.slotOf Z O f d) v' → oWP b p l e R s m args below meth c P Q J h' k n (oF m (pc + 3) Ls S)) : oWP b p l e R s m args below meth c P Q J h k n (oF m pc Ls (v :: .ref a :: S)) := fun T hT => by
  obtain ⟨vm0, k0, locs, ck, cn, X, eT, N, q1, q2, hS, hk0, hbv, hJ⟩ := hT
  have C' := C.rebase hS
  obtain ⟨T', h', X', e', Wr1, st⟩ := putFN X C.1 C'.hZ C'.own w via eT F E (L.imp id fun q => ⟨q.1, q.2.1, C.nm.trans q.2.2⟩) wi hty hnv hf (g := oF m pc Ls (v :: .ref a :: S)) rfl rfl (hb C.2.1 hd)
  obtain ⟨u, o, g1, g2⟩ := K h' Wr1 T' ⟨vm0, k0, _, ck, cn, X', e', N.snoc hP, q1, q2, hS, by rw [Wr1.size]; exact hk0, hbv, hJ⟩
  exact ⟨u, o, st u g1, g2⟩
theorem K_castY (C : oCx p s m meth c P Z y B ml rt) {idx : Nat} {a : Addr} {Cn : String} (w : (Jvm.Cond.classLink y.cls idx Cn).before a0 Z = true) (F : Ins Z h a Cn true) (hd : decode B pc = .ok (.checkcast idx, 3)) (K : oWP b p l e R s m args below meth c P Q J h k n (oF m (pc + 3) Ls (.ref a :: S))) : oWP b p l e R s m args below meth c P Q J h k n (oF m pc Ls (.ref a :: S)) := K.law C fun _ C T _ _ _ X eT => castY X C.1 C.hZ C.own w eT F (g := oF m pc Ls (.ref a :: S)) rfl rfl (hb C.2.1 hd)
theorem K_instY (C : oCx p s m meth c P Z y B ml rt) {idx : Nat} {a : Addr} {Cn : String} (w : (Jvm.Cond.classLink y.cls idx Cn).before a0 Z = true) (F : Ins Z h a Cn true) (hd : decode B pc = .ok (.instanceof idx, 3)) (K : oWP b p l e R s m args below meth c P Q J h k n (oF m (pc + 3) Ls (.int 1 :: S))) : oWP b p l e R s m args below meth c P Q J h k n (oF m pc Ls (.ref a :: S)) := K.law C fun _ C T _ _ _ X eT => instY X C.1 C.hZ C.own w eT F (g := oF m pc Ls (.ref a :: S)) rfl rfl (hb C.2.1 hd)
theorem K_iaload (C : oCx p s m meth c P Z y B ml rt) {a : Addr} {cl : Cell} {j : Int32} {v : Value} (A : Arr Z h a cl .int) (hj : ¬ (j < 0 ∨ cl.slots.size ≤ j.toNatClampNeg)) (hv : cl.slots[j.toNatClampNeg]? = some v) (hd : decode B pc = .ok (.iaload, 1)) (K : oWP b p l e R s m args below meth c P Q J h k n (oF m (pc + 1) Ls (v :: S))) : oWP b p l e R s m args below meth c P Q J h k n (oF m pc Ls (.int j :: .ref a :: S)) := K.law C fun _ C T _ _ _ X eT => ⟨T, X, eT, X.iaload C.1 (by rw [eT]; exact A.1) (State.isArrayOf_alike C.hZ.alike A.2.1) A.2.2 hj hv (g := oF m pc Ls (.int j :: .ref a :: S)) rfl rfl (hb C.2.1 hd)⟩
theorem K_caload (C : oCx p s m meth c P Z y B ml rt) {a : Addr} {cl : Cell} {j : Int32} {v : Value} (A : Arr Z h a cl .char) (hj : ¬ (j < 0 ∨ cl.slots.size ≤ j.toNatClampNeg)) (hv : cl.slots[j.toNatClampNeg]? = some v) (hd : decode B pc = .ok (.caload, 1)) (K : oWP b p l e R s m args below meth c P Q J h k n (oF m (pc + 1) Ls (v :: S))) : oWP b p l e R s m args below meth c P Q J h k n (oF m pc Ls (.int j :: .ref a :: S)) := K.law C fun _ C T _ _ _ X eT => ⟨T, X, eT, X.caload C.1 (by rw [eT]; exact A.1) (State.isArrayOf_alike C.hZ.alike A.2.1) A.2.2 hj hv (g := oF m pc Ls (.int j :: .ref a :: S)) rfl rfl (hb C.2.1 hd)⟩
theorem K_laload (C : oCx p s m meth c P Z y B ml rt) {a : Addr} {cl : Cell} {j : Int32} {v : Value} (A : Arr Z h a cl .long) (hj : ¬ (j < 0 ∨ cl.slots.size ≤ j.toNatClampNeg)) (hv : cl.slots[j.toNatClampNeg]? = some v) (hd : decode B pc = .ok (.laload, 1)) (K : oWP b p l e R s m args below meth c P Q J h k n (oF m (pc + 1) Ls (v :: S))) : oWP b p l e R s m args below meth c P Q J h k n (oF m pc Ls (.int j :: .ref a :: S)) := K.law C fun _ C T _ _ _ X eT => ⟨T, X, eT, X.laload C.1 (by rw [eT]; exact A.1) (State.isArrayOf_alike C.hZ.alike A.2.1) A.2.2 hj hv (g := oF m pc Ls (.int j :: .ref a :: S)) rfl rfl (hb C.2.1 hd)⟩
theorem K_baload (C : oCx p s m meth c P Z y B ml rt) {a : Addr} {cl : Cell} {j : Int32} {v : Value} (A : Arr Z h a cl .byte) (hj : ¬ (j < 0 ∨ cl.slots.size ≤ j.toNatClampNeg)) (hv : cl.slots[j.toNatClampNeg]? = some v) (hd : decode B pc = .ok (.baload, 1)) (K : oWP b p l e R s m args below meth c P Q J h k n (oF m (pc + 1) Ls (v :: S))) : oWP b p l e R s m args below meth c P Q J h k n (oF m pc Ls (.int j :: .ref a :: S)) := K.law C fun _ C T _ _ _ X eT => ⟨T, X, eT, X.baloadBytes C.1 (by rw [eT]; exact A.1) (State.isArrayOf_alike C.hZ.alike A.2.1) A.2.2 hj hv (g := oF m pc Ls (.int j :: .ref a :: S)) rfl rfl (hb C.2.1 hd)⟩
theorem K_aaload (C : oCx p s m meth c P Z y B ml rt) {a : Addr} {cl : Cell} {ty : FieldType} {j : Int32} {v : Value} (A : Arr Z h a cl ty) (hty : ty.isReference = true) (hj : ¬ (j < 0 ∨ cl.slots.size ≤ j.toNatClampNeg)) (hv : cl.slots[j.toNatClampNeg]? = some v) (hd : decode B pc = .ok (.aaload, 1)) (K : oWP b p l e R s m args below meth c P Q J h k n (oF m (pc + 1) Ls (v :: S))) : oWP b p l e R s m args below meth c P Q J h k n (oF m pc Ls (.int j :: .ref a :: S)) := K.law C fun _ C T _ _ _ X eT => ⟨T, X, eT, X.aaload C.1 (by rw [eT]; exact A.1) (State.isArrayOf_alike C.hZ.alike A.2.1) hty A.2.2 hj hv (g := oF m pc Ls (.int j :: .ref a :: S)) rfl rfl (hb C.2.1 hd)⟩
theorem K_arraylength (C : oCx p s m meth c P Z y B ml rt) {a : Addr} {cl : Cell} {ty : FieldType} (A : Arr Z h a cl ty) (hd : decode B pc = .ok (.arraylength, 1)) (K : oWP b p l e R s m args below meth c P Q J h k n (oF m (pc + 1) Ls (.int cl.slots.size.toInt32 :: S))) : oWP b p l e R s m args below meth c P Q J h k n (oF m pc Ls (.ref a :: S)) := K.law C fun _ C T _ _ _ X eT => ⟨T, X, eT, X.arraylength C.1 (by rw [eT]; exact A.1) (State.isArrayOf_alike C.hZ.alike A.2.1) (g := oF m pc Ls (.ref a :: S)) rfl rfl (hb C.2.1 hd)⟩
theorem K_newarray (C : oCx p s m meth c P Z y B ml rt) {aty : ArrayType} {z : Int32} {cap : Nat} (w : (Jvm.Cond.arrayClass (newarray.typeOf aty)).before a0 Z = true) (hd : decode B pc = .ok (.newarray aty, 2)) (hz : ¬ z < 0) (hcap : z.toNatClampNeg ≤ cap) (hb8 : cap * 8 ≤ 536870912) (hk : k + 1 ≤ R.cells) (hn : n + cap ≤ R.slots)
    (K : ∀ h' a cA, a = h.size → P a → Ext h h' → Arr Z h' a (newA cA (newarray.typeOf aty) z) (newarray.typeOf aty) → oWP b p l e R s m args below meth c P Q J h' (k + 1) (n + cap) (oF m (pc + 2) Ls (.ref a :: S))) : oWP b p l e R s m args below meth c P Q J h k n (oF m pc Ls (.int z :: S)) := fun T hT => by
  have hO := oSd.old C hT
  obtain ⟨vm0, k0, locs, ck, cn, X, eT, N, q1, q2, hS, hk0, hbv, hJ⟩ := hT
  have C' := C.rebase hS
  obtain ⟨T', h', cA, X', e', E, A, st⟩ := newP X C.1 C'.hZ w eT (g := oF m pc Ls (.int z :: S)) rfl (hb C.2.1 hd) rfl hz hcap hb8 (by omega) (by omega)
  obtain ⟨u, o, g1, g2⟩ := K h' h.size cA rfl (C.new _ hO.2.1) E A T' ⟨vm0, k0, locs, _, _, X', e', N, by omega, by omega, hS, Nat.le_trans hk0 E.1, hbv, hJ⟩
  exact ⟨u, o, st u g1, g2⟩
theorem K_iastore (C : oCx p s m meth c P Z y B ml rt) {a : Addr} {cl : Cell} {j : Int32} {x : Int32} (A : Arr Z h a cl .int) (hj : ¬ (j < 0 ∨ cl.slots.size ≤ j.toNatClampNeg)) (hP : P a) (hd : decode B pc = .ok (.iastore, 1)) (K : ∀ h', Wr h h' a j.toNatClampNeg (.int x) → oWP b p l e R s m args below meth c P Q J h' k n (oF m (pc + 1) Ls S)) : oWP b p l e R s m args below meth c P Q J h k n (oF m pc Ls (.int x :: .int j :: .ref a :: S)) := fun T hT => by
  obtain ⟨vm0, k0, locs, ck, cn, X, eT, N, q1, q2, hS, hk0, hbv, hJ⟩ := hT
  have C' := C.rebase hS
  obtain ⟨T', h', X', e', Wr1, st⟩ := stI X C.1 C'.hZ eT A hj (g := oF m pc Ls (.int x :: .int j :: .ref a :: S)) rfl rfl (hb C.2.1 hd)
  obtain ⟨u, o, g1, g2⟩ := K h' Wr1 T' ⟨vm0, k0, _, ck, cn, X', e', N.snoc hP, q1, q2, hS, by rw [Wr1.size]; exact hk0, hbv, hJ⟩
  exact ⟨u, o, st u g1, g2⟩
theorem K_castore (C : oCx p s m meth c P Z y B ml rt) {a : Addr} {cl : Cell} {j : Int32} {x : Int32} (A : Arr Z h a cl .char) (hj : ¬ (j < 0 ∨ cl.slots.size ≤ j.toNatClampNeg)) (hP : P a) (hd : decode B pc = .ok (.castore, 1)) (K : ∀ h', Wr h h' a j.toNatClampNeg (.int (nar .char x)) → oWP b p l e R s m args below meth c P Q J h' k n (oF m (pc + 1) Ls S)) : oWP b p l e R s m args below meth c P Q J h k n (oF m pc Ls (.int x :: .int j :: .ref a :: S)) := fun T hT => by
  obtain ⟨vm0, k0, locs, ck, cn, X, eT, N, q1, q2, hS, hk0, hbv, hJ⟩ := hT
  have C' := C.rebase hS
  obtain ⟨T', h', X', e', Wr1, st⟩ := stC X C.1 C'.hZ eT A hj (g := oF m pc Ls (.int x :: .int j :: .ref a :: S)) rfl rfl (hb C.2.1 hd)
  obtain ⟨u, o, g1, g2⟩ := K h' Wr1 T' ⟨vm0, k0, _, ck, cn, X', e', N.snoc hP, q1, q2, hS, by rw [Wr1.size]; exact hk0, hbv, hJ⟩
  exact ⟨u, o, st u g1, g2⟩
theorem K_bastore (C : oCx p s m meth c P Z y B ml rt) {a : Addr} {cl : Cell} {j : Int32} {x : Int32} (A : Arr Z h a cl .byte) (hj : ¬ (j < 0 ∨ cl.slots.size ≤ j.toNatClampNeg)) (hP : P a) (hd : decode B pc = .ok (.bastore, 1)) (K : ∀ h', Wr h h' a j.toNatClampNeg (.int (nar .byte x)) → oWP b p l e R s m args below meth c P Q J h' k n (oF m (pc + 1) Ls S)) : oWP b p l e R s m args below meth c P Q J h k n (oF m pc Ls (.int x :: .int j :: .ref a :: S)) := fun T hT => by
  obtain ⟨vm0, k0, locs, ck, cn, X, eT, N, q1, q2, hS, hk0, hbv, hJ⟩ := hT
  have C' := C.rebase hS
  obtain ⟨T', h', X', e', Wr1, st⟩ := stB X C.1 C'.hZ eT A hj (g := oF m pc Ls (.int x :: .int j :: .ref a :: S)) rfl rfl (hb C.2.1 hd)
  obtain ⟨u, o, g1, g2⟩ := K h' Wr1 T' ⟨vm0, k0, _, ck, cn, X', e', N.snoc hP, q1, q2, hS, by rw [Wr1.size]; exact hk0, hbv, hJ⟩
  exact ⟨u, o, st u g1, g2⟩
theorem K_zastore (C : oCx p s m meth c P Z y B ml rt) {a : Addr} {cl : Cell} {j : Int32} {x : Int32} (A : Arr Z h a cl .boolean) (hj : ¬ (j < 0 ∨ cl.slots.size ≤ j.toNatClampNeg)) (hP : P a) (hd : decode B pc = .ok (.bastore, 1)) (K : ∀ h', Wr h h' a j.toNatClampNeg (.int (nar .boolean x)) → oWP b p l e R s m args below meth c P Q J h' k n (oF m (pc + 1) Ls S)) : oWP b p l e R s m args below meth c P Q J h k n (oF m pc Ls (.int x :: .int j :: .ref a :: S)) := fun T hT => by
  obtain ⟨vm0, k0, locs, ck, cn, X, eT, N, q1, q2, hS, hk0, hbv, hJ⟩ := hT
  have C' := C.rebase hS
  obtain ⟨T', h', X', e', Wr1, st⟩ := stZ X C.1 C'.hZ eT A hj (g := oF m pc Ls (.int x :: .int j :: .ref a :: S)) rfl rfl (hb C.2.1 hd)
  obtain ⟨u, o, g1, g2⟩ := K h' Wr1 T' ⟨vm0, k0, _, ck, cn, X', e', N.snoc hP, q1, q2, hS, by rw [Wr1.size]; exact hk0, hbv, hJ⟩
  exact ⟨u, o, st u g1, g2⟩
theorem K_lastore (C : oCx p s m meth c P Z y B ml rt) {a : Addr} {cl : Cell} {j : Int32} {x : Int64} (A : Arr Z h a cl .long) (hj : ¬ (j < 0 ∨ cl.slots.size ≤ j.toNatClampNeg)) (hP : P a) (hd : decode B pc = .ok (.lastore, 1)) (K : ∀ h', Wr h h' a j.toNatClampNeg (.long x) → oWP b p l e R s m args below meth c P Q J h' k n (oF m (pc + 1) Ls S)) : oWP b p l e R s m args below meth c P Q J h k n (oF m pc Ls (.long x :: .int j :: .ref a :: S)) := fun T hT => by
  obtain ⟨vm0, k0, locs, ck, cn, X, eT, N, q1, q2, hS, hk0, hbv, hJ⟩ := hT
  have C' := C.rebase hS
  obtain ⟨T', h', X', e', Wr1, st⟩ := stJ X C.1 C'.hZ eT A hj (g := oF m pc Ls (.long x :: .int j :: .ref a :: S)) rfl rfl (hb C.2.1 hd)
  obtain ⟨u, o, g1, g2⟩ := K h' Wr1 T' ⟨vm0, k0, _, ck, cn, X', e', N.snoc hP, q1, q2, hS, by rw [Wr1.size]; exact hk0, hbv, hJ⟩
  exact ⟨u, o, st u g1, g2⟩
end OwnKit
section OwnKit3
theorem oNarB0 : nar .boolean 0 = 0 := by decide
theorem oNarB1 : nar .boolean 1 = 1 := by decide
theorem oEqI {args : Array Value} {s : State} {t : Term} {k : Int32} (h : (Jvm.Cond.eq t (.int k)).value args s none s [] = some true) : t.eval args s none [] s = some (.int k) := by
  obtain ⟨x, y, hx, hy, hk, -⟩ := cmp_v (Or.inl h)
  cases (Term.int_eval k).symm.trans hy
  cases x with
  | int z => simp [Cond.value, hx, Term.int_eval] at h; rw [hx, h]
  | _ => simp [Kin, Value.isRef] at hk
theorem oEqR {args : Array Value} {s : State} {t u : Term} {w : Addr} (h : (Jvm.Cond.eq t u).value args s none s [] = some true) (hu : u.eval args s none [] s = some (.ref w)) : t.eval args s none [] s = some (.ref w) := by
  obtain ⟨x, y, hx, hy, hk, -⟩ := cmp_v (Or.inl h)
  cases hu.symm.trans hy
  cases x with
  | ref z => simp [Cond.value, hx, hu] at h; rw [hx, h]
  | null => simp [Cond.value, hx, hu] at h
  | _ => simp [Kin, Value.isRef] at hk
/-- a mask that is one below a power of two, then a remainder: some small natural -/
theorem oRem (x : Int32) (q : Nat) (hq : 0 < q) (hq2 : q < 2 ^ 31) : ∃ i : Nat, i < q ∧ (x &&& 2147483647) % Int32.ofNat q = Int32.ofNat i := by
  have e1 : (x &&& 2147483647).toInt = x.toInt % 2 ^ 31 := Jvm.Kit.i32_mask x 2147483647 (k := 31) (by decide) (by decide)
  have hb : 0 ≤ (x &&& 2147483647).toInt := by rw [e1]; exact Int.emod_nonneg _ (by decide)
  have e2 : (Int32.ofNat q).toInt = q := Int32.toInt_ofNat_of_lt hq2
  have e3 : ((x &&& 2147483647) % Int32.ofNat q).toInt = (x &&& 2147483647).toInt % q := by
    rw [Int32.toInt_mod, e2, Int.tmod_eq_emod_of_nonneg hb]
  refine ⟨((x &&& 2147483647).toInt % q).toNat, ?_, ?_⟩
  · have := Int.emod_lt_of_pos (x &&& 2147483647).toInt (b := (q : Int)) (by omega)
    have := Int.emod_nonneg (x &&& 2147483647).toInt (b := (q : Int)) (by omega)
    omega
  · apply Int32.toInt_inj.mp
    have h1 := Int.emod_lt_of_pos (x &&& 2147483647).toInt (b := (q : Int)) (by omega)
    have h2 := Int.emod_nonneg (x &&& 2147483647).toInt (b := (q : Int)) (by omega)
    rw [e3, Int32.toInt_ofNat_of_lt (by omega)]
    omega
theorem oAnd3 (x : Int32) : x &&& 3 = 0 ∨ x &&& 3 = 1 ∨ x &&& 3 = 2 ∨ x &&& 3 = 3 := by
  have e1 : (x &&& 3).toInt = x.toInt % 2 ^ 2 := Jvm.Kit.i32_mask x 3 (k := 2) (by decide) (by decide)
  have h1 := Int.emod_lt_of_pos x.toInt (b := 4) (by decide)
  have h2 := Int.emod_nonneg x.toInt (b := 4) (by decide)
  have : x.toInt % 2 ^ 2 = 0 ∨ x.toInt % 2 ^ 2 = 1 ∨ x.toInt % 2 ^ 2 = 2 ∨ x.toInt % 2 ^ 2 = 3 := by omega
  rcases this with q | q | q | q
  · exact Or.inl (Int32.toInt_inj.mp (by rw [e1, q]; rfl))
  · exact Or.inr (Or.inl (Int32.toInt_inj.mp (by rw [e1, q]; rfl)))
  · exact Or.inr (Or.inr (Or.inl (Int32.toInt_inj.mp (by rw [e1, q]; rfl))))
  · exact Or.inr (Or.inr (Or.inr (Int32.toInt_inj.mp (by rw [e1, q]; rfl))))
theorem oExt.tr {h1 h2 h3 : Heap} (a : Ext h1 h2) (b : Ext h2 h3) : Ext h1 h3 := ⟨Nat.le_trans a.1 b.1, fun x c q => b.2 x c (a.2 x c q)⟩
theorem oEqL {args : Array Value} {s : State} {t : Term} {k : Int64} (h : (Jvm.Cond.eq t (.long k)).value args s none s [] = some true) : t.eval args s none [] s = some (.long k) := by
  obtain ⟨x, y, hx, hy, hk, -⟩ := cmp_v (Or.inl h)
  have e : (Term.long k).eval args s none [] s = some (.long k) := rfl
  cases e.symm.trans hy
  cases x with
  | long z => simp [Cond.value, hx, e] at h; rw [hx, h]
  | _ => simp [Kin, Value.isRef] at hk
theorem oLen {args : Array Value} {s : State} {t : Term} {a : Addr} {c : Cell} {ty : FieldType} {z : Int32} (ea : t.eval args s none [] s = some (.ref a)) (A : Arr s s.heap a c ty) (h : (Jvm.Cond.eq (Term.length t) (.int z)).value args s none s [] = some true) : c.slots.size = z.toInt.toNat := by
  have h1 := oEqI h
  have h2 := Arr.fin (State.Warmed39.refl s).alike A
  simp only [Term.eval, ea, h2, Option.bind_eq_bind, Option.bind_some] at h1
  split at h1
  · rename_i hlt
    cases h1
    rw [len_toInt hlt]; simp
  · cases h1
end OwnKit3
theorem tw0 {Z : State} {a0 : Array Value} (hw : ∀ d ∈ tables_1, d.before a0 Z = true) : ((Jvm.Cond.methodLink "com/example/roomyield/roomyield/RoomStatisticsNonePinLaw" (7 : Nat) ({ cls := "com/example/roomyield/roomyield/RoomStatistics", name := "none", desc := "(Z)Lcom/example/roomyield/roomyield/RoomStatistics;" } : Jvm.MethodName))).before a0 Z = true := hw _ (List.mem_of_getElem? (i := 0) rfl)
theorem tw1 {Z : State} {a0 : Array Value} (hw : ∀ d ∈ tables_1, d.before a0 Z = true) : ((Jvm.Cond.static ({ cls := "com/example/roomyield/roomyield/RoomStatistics", name := "none", desc := "(Z)Lcom/example/roomyield/roomyield/RoomStatistics;" } : Jvm.MethodName))).before a0 Z = true := hw _ (List.mem_of_getElem? (i := 1) rfl)
theorem tw2 {Z : State} {a0 : Array Value} (hw : ∀ d ∈ tables_1, d.before a0 Z = true) : ((Jvm.Cond.initialized "com/example/roomyield/roomyield/RoomStatistics")).before a0 Z = true := hw _ (List.mem_of_getElem? (i := 2) rfl)
theorem tw3 {Z : State} {a0 : Array Value} (hw : ∀ d ∈ tables_1, d.before a0 Z = true) : ((Jvm.Cond.code ({ cls := "com/example/roomyield/roomyield/RoomStatistics", name := "none", desc := "(Z)Lcom/example/roomyield/roomyield/RoomStatistics;" } : Jvm.MethodName) prog_18_method_2_code (2 : Nat) (Option.some (Jvm.ClassFile.FieldType.object "com/example/roomyield/roomyield/RoomStatistics")))).before a0 Z = true := hw _ (List.mem_of_getElem? (i := 3) rfl)
theorem tw4 {Z : State} {a0 : Array Value} (hw : ∀ d ∈ tables_1, d.before a0 Z = true) : ((Jvm.Cond.classLink "com/example/roomyield/roomyield/RoomStatistics" (7 : Nat) "com/example/roomyield/roomyield/RoomStatistics")).before a0 Z = true := hw _ (List.mem_of_getElem? (i := 4) rfl)
theorem tw5 {Z : State} {a0 : Array Value} (hw : ∀ d ∈ tables_1, d.before a0 Z = true) : ((Jvm.Cond.instantiable "com/example/roomyield/roomyield/RoomStatistics" (6 : Nat))).before a0 Z = true := hw _ (List.mem_of_getElem? (i := 5) rfl)
theorem tw6 {Z : State} {a0 : Array Value} (hw : ∀ d ∈ tables_1, d.before a0 Z = true) : ((Jvm.Cond.fieldLink "com/example/roomyield/roomyield/RoomStatistics" (1 : Nat) "java/math/BigDecimal" "ZERO" "Ljava/math/BigDecimal;")).before a0 Z = true := hw _ (List.mem_of_getElem? (i := 6) rfl)
theorem tw7 {Z : State} {a0 : Array Value} (hw : ∀ d ∈ tables_1, d.before a0 Z = true) : ((Jvm.Cond.initialized "java/math/BigDecimal")).before a0 Z = true := hw _ (List.mem_of_getElem? (i := 7) rfl)
theorem tw8 {Z : State} {a0 : Array Value} (hw : ∀ d ∈ tables_1, d.before a0 Z = true) : ((Jvm.Cond.methodLink "com/example/roomyield/roomyield/RoomStatistics" (9 : Nat) ({ cls := "com/example/roomyield/roomyield/RoomStatistics", name := "<init>", desc := "(Ljava/math/BigDecimal;Ljava/math/BigDecimal;Ljava/math/BigDecimal;Ljava/math/BigDecimal;Ljava/math/BigDecimal;Ljava/math/BigDecimal;)V" } : Jvm.MethodName))).before a0 Z = true := hw _ (List.mem_of_getElem? (i := 8) rfl)
theorem tw9 {Z : State} {a0 : Array Value} (hw : ∀ d ∈ tables_1, d.before a0 Z = true) : ((Jvm.Cond.instanceMethod ({ cls := "com/example/roomyield/roomyield/RoomStatistics", name := "<init>", desc := "(Ljava/math/BigDecimal;Ljava/math/BigDecimal;Ljava/math/BigDecimal;Ljava/math/BigDecimal;Ljava/math/BigDecimal;Ljava/math/BigDecimal;)V" } : Jvm.MethodName))).before a0 Z = true := hw _ (List.mem_of_getElem? (i := 9) rfl)
theorem tw10 {Z : State} {a0 : Array Value} (hw : ∀ d ∈ tables_1, d.before a0 Z = true) : ((Jvm.Cond.code ({ cls := "com/example/roomyield/roomyield/RoomStatistics", name := "<init>", desc := "(Ljava/math/BigDecimal;Ljava/math/BigDecimal;Ljava/math/BigDecimal;Ljava/math/BigDecimal;Ljava/math/BigDecimal;Ljava/math/BigDecimal;)V" } : Jvm.MethodName) prog_18_method_1_code (7 : Nat) (Option.none : Option Jvm.ClassFile.FieldType))).before a0 Z = true := hw _ (List.mem_of_getElem? (i := 10) rfl)
theorem tw11 {Z : State} {a0 : Array Value} (hw : ∀ d ∈ tables_1, d.before a0 Z = true) : ((Jvm.Cond.methodLink "com/example/roomyield/roomyield/RoomStatistics" (13 : Nat) ({ cls := "java/lang/Record", name := "<init>", desc := "()V" } : Jvm.MethodName))).before a0 Z = true := hw _ (List.mem_of_getElem? (i := 11) rfl)
theorem tw12 {Z : State} {a0 : Array Value} (hw : ∀ d ∈ tables_1, d.before a0 Z = true) : ((Jvm.Cond.instanceMethod ({ cls := "java/lang/Record", name := "<init>", desc := "()V" } : Jvm.MethodName))).before a0 Z = true := hw _ (List.mem_of_getElem? (i := 12) rfl)
theorem tw14 {Z : State} {a0 : Array Value} (hw : ∀ d ∈ tables_1, d.before a0 Z = true) : ((Jvm.Cond.initialized "java/lang/Record")).before a0 Z = true := hw _ (List.mem_of_getElem? (i := 14) rfl)
theorem tw15 {Z : State} {a0 : Array Value} (hw : ∀ d ∈ tables_1, d.before a0 Z = true) : ((Jvm.Cond.code ({ cls := "java/lang/Record", name := "<init>", desc := "()V" } : Jvm.MethodName) jdk_30_method_1_code (1 : Nat) (Option.none : Option Jvm.ClassFile.FieldType))).before a0 Z = true := hw _ (List.mem_of_getElem? (i := 15) rfl)
theorem tw16 {Z : State} {a0 : Array Value} (hw : ∀ d ∈ tables_1, d.before a0 Z = true) : ((Jvm.Cond.methodLink "java/lang/Record" (1 : Nat) ({ cls := "java/lang/Object", name := "<init>", desc := "()V" } : Jvm.MethodName))).before a0 Z = true := hw _ (List.mem_of_getElem? (i := 16) rfl)
theorem tw17 {Z : State} {a0 : Array Value} (hw : ∀ d ∈ tables_1, d.before a0 Z = true) : ((Jvm.Cond.instanceMethod ({ cls := "java/lang/Object", name := "<init>", desc := "()V" } : Jvm.MethodName))).before a0 Z = true := hw _ (List.mem_of_getElem? (i := 17) rfl)
theorem tw18 {Z : State} {a0 : Array Value} (hw : ∀ d ∈ tables_1, d.before a0 Z = true) : ((Jvm.Cond.code ({ cls := "java/lang/Object", name := "<init>", desc := "()V" } : Jvm.MethodName) object_method_1_code (1 : Nat) (Option.none : Option Jvm.ClassFile.FieldType))).before a0 Z = true := hw _ (List.mem_of_getElem? (i := 18) rfl)
theorem tw19 {Z : State} {a0 : Array Value} (hw : ∀ d ∈ tables_1, d.before a0 Z = true) : ((Jvm.Cond.stringLink "com/example/roomyield/roomyield/RoomStatistics" (18 : Nat) "roomsAvailable")).before a0 Z = true := hw _ (List.mem_of_getElem? (i := 19) rfl)
theorem tw20 {Z : State} {a0 : Array Value} (hw : ∀ d ∈ tables_1, d.before a0 Z = true) : ((Jvm.Cond.initialized "java/lang/String")).before a0 Z = true := hw _ (List.mem_of_getElem? (i := 20) rfl)
theorem tw21 {Z : State} {a0 : Array Value} (hw : ∀ d ∈ tables_1, d.before a0 Z = true) : ((Jvm.Cond.instantiable "java/lang/String" (4 : Nat))).before a0 Z = true := hw _ (List.mem_of_getElem? (i := 21) rfl)
theorem tw22 {Z : State} {a0 : Array Value} (hw : ∀ d ∈ tables_1, d.before a0 Z = true) : ((Jvm.Cond.arrayClass Jvm.ClassFile.FieldType.byte)).before a0 Z = true := hw _ (List.mem_of_getElem? (i := 22) rfl)
theorem tw23 {Z : State} {a0 : Array Value} (hw : ∀ d ∈ tables_1, d.before a0 Z = true) : ((Jvm.Cond.laysFinal "java/lang/String" "java/lang/String" "value" "[B")).before a0 Z = true := hw _ (List.mem_of_getElem? (i := 23) rfl)
theorem tw24 {Z : State} {a0 : Array Value} (hw : ∀ d ∈ tables_1, d.before a0 Z = true) : ((Jvm.Cond.laysFinal "java/lang/String" "java/lang/String" "coder" "B")).before a0 Z = true := hw _ (List.mem_of_getElem? (i := 24) rfl)
theorem tw25 {Z : State} {a0 : Array Value} (hw : ∀ d ∈ tables_1, d.before a0 Z = true) : ((Jvm.Cond.soleField "java/lang/String" "value")).before a0 Z = true := hw _ (List.mem_of_getElem? (i := 25) rfl)
theorem tw26 {Z : State} {a0 : Array Value} (hw : ∀ d ∈ tables_1, d.before a0 Z = true) : ((Jvm.Cond.soleField "java/lang/String" "coder")).before a0 Z = true := hw _ (List.mem_of_getElem? (i := 26) rfl)
theorem tw27 {Z : State} {a0 : Array Value} (hw : ∀ d ∈ tables_1, d.before a0 Z = true) : ((Jvm.Cond.methodLink "com/example/roomyield/roomyield/RoomStatistics" (20 : Nat) ({ cls := "java/util/Objects", name := "requireNonNull", desc := "(Ljava/lang/Object;Ljava/lang/String;)Ljava/lang/Object;" } : Jvm.MethodName))).before a0 Z = true := hw _ (List.mem_of_getElem? (i := 27) rfl)
theorem tw28 {Z : State} {a0 : Array Value} (hw : ∀ d ∈ tables_1, d.before a0 Z = true) : ((Jvm.Cond.static ({ cls := "java/util/Objects", name := "requireNonNull", desc := "(Ljava/lang/Object;Ljava/lang/String;)Ljava/lang/Object;" } : Jvm.MethodName))).before a0 Z = true := hw _ (List.mem_of_getElem? (i := 28) rfl)
theorem tw29 {Z : State} {a0 : Array Value} (hw : ∀ d ∈ tables_1, d.before a0 Z = true) : ((Jvm.Cond.initialized "java/util/Objects")).before a0 Z = true := hw _ (List.mem_of_getElem? (i := 29) rfl)
theorem tw30 {Z : State} {a0 : Array Value} (hw : ∀ d ∈ tables_1, d.before a0 Z = true) : ((Jvm.Cond.code ({ cls := "java/util/Objects", name := "requireNonNull", desc := "(Ljava/lang/Object;Ljava/lang/String;)Ljava/lang/Object;" } : Jvm.MethodName) jdk_31_method_11_code (2 : Nat) (Option.some (Jvm.ClassFile.FieldType.object "java/lang/Object")))).before a0 Z = true := hw _ (List.mem_of_getElem? (i := 30) rfl)
theorem tw31 {Z : State} {a0 : Array Value} (hw : ∀ d ∈ tables_1, d.before a0 Z = true) : ((Jvm.Cond.stringLink "com/example/roomyield/roomyield/RoomStatistics" (26 : Nat) "roomsSold")).before a0 Z = true := hw _ (List.mem_of_getElem? (i := 31) rfl)
theorem tw32 {Z : State} {a0 : Array Value} (hw : ∀ d ∈ tables_1, d.before a0 Z = true) : ((Jvm.Cond.stringLink "com/example/roomyield/roomyield/RoomStatistics" (28 : Nat) "complimentary")).before a0 Z = true := hw _ (List.mem_of_getElem? (i := 32) rfl)
theorem tw33 {Z : State} {a0 : Array Value} (hw : ∀ d ∈ tables_1, d.before a0 Z = true) : ((Jvm.Cond.stringLink "com/example/roomyield/roomyield/RoomStatistics" (30 : Nat) "roomRevenue")).before a0 Z = true := hw _ (List.mem_of_getElem? (i := 33) rfl)
theorem tw34 {Z : State} {a0 : Array Value} (hw : ∀ d ∈ tables_1, d.before a0 Z = true) : ((Jvm.Cond.fieldLink "com/example/roomyield/roomyield/RoomStatistics" (32 : Nat) "com/example/roomyield/roomyield/RoomStatistics" "roomsAvailable" "Ljava/math/BigDecimal;")).before a0 Z = true := hw _ (List.mem_of_getElem? (i := 34) rfl)
theorem tw35 {Z : State} {a0 : Array Value} (hw : ∀ d ∈ tables_1, d.before a0 Z = true) : ((Jvm.Cond.laysFinal "com/example/roomyield/roomyield/RoomStatistics" "com/example/roomyield/roomyield/RoomStatistics" "roomsAvailable" "Ljava/math/BigDecimal;")).before a0 Z = true := hw _ (List.mem_of_getElem? (i := 35) rfl)
theorem tw36 {Z : State} {a0 : Array Value} (hw : ∀ d ∈ tables_1, d.before a0 Z = true) : ((Jvm.Cond.fieldLink "com/example/roomyield/roomyield/RoomStatistics" (34 : Nat) "com/example/roomyield/roomyield/RoomStatistics" "roomsSold" "Ljava/math/BigDecimal;")).before a0 Z = true := hw _ (List.mem_of_getElem? (i := 36) rfl)
theorem tw37 {Z : State} {a0 : Array Value} (hw : ∀ d ∈ tables_1, d.before a0 Z = true) : ((Jvm.Cond.laysFinal "com/example/roomyield/roomyield/RoomStatistics" "com/example/roomyield/roomyield/RoomStatistics" "roomsSold" "Ljava/math/BigDecimal;")).before a0 Z = true := hw _ (List.mem_of_getElem? (i := 37) rfl)
theorem tw38 {Z : State} {a0 : Array Value} (hw : ∀ d ∈ tables_1, d.before a0 Z = true) : ((Jvm.Cond.fieldLink "com/example/roomyield/roomyield/RoomStatistics" (36 : Nat) "com/example/roomyield/roomyield/RoomStatistics" "complimentary" "Ljava/math/BigDecimal;")).before a0 Z = true := hw _ (List.mem_of_getElem? (i := 38) rfl)
theorem tw39 {Z : State} {a0 : Array Value} (hw : ∀ d ∈ tables_1, d.before a0 Z = true) : ((Jvm.Cond.laysFinal "com/example/roomyield/roomyield/RoomStatistics" "com/example/roomyield/roomyield/RoomStatistics" "complimentary" "Ljava/math/BigDecimal;")).before a0 Z = true := hw _ (List.mem_of_getElem? (i := 39) rfl)
theorem tw40 {Z : State} {a0 : Array Value} (hw : ∀ d ∈ tables_1, d.before a0 Z = true) : ((Jvm.Cond.fieldLink "com/example/roomyield/roomyield/RoomStatistics" (38 : Nat) "com/example/roomyield/roomyield/RoomStatistics" "roomRevenue" "Ljava/math/BigDecimal;")).before a0 Z = true := hw _ (List.mem_of_getElem? (i := 40) rfl)
theorem tw41 {Z : State} {a0 : Array Value} (hw : ∀ d ∈ tables_1, d.before a0 Z = true) : ((Jvm.Cond.laysFinal "com/example/roomyield/roomyield/RoomStatistics" "com/example/roomyield/roomyield/RoomStatistics" "roomRevenue" "Ljava/math/BigDecimal;")).before a0 Z = true := hw _ (List.mem_of_getElem? (i := 41) rfl)
theorem tw42 {Z : State} {a0 : Array Value} (hw : ∀ d ∈ tables_1, d.before a0 Z = true) : ((Jvm.Cond.fieldLink "com/example/roomyield/roomyield/RoomStatistics" (40 : Nat) "com/example/roomyield/roomyield/RoomStatistics" "guests" "Ljava/math/BigDecimal;")).before a0 Z = true := hw _ (List.mem_of_getElem? (i := 42) rfl)
theorem tw43 {Z : State} {a0 : Array Value} (hw : ∀ d ∈ tables_1, d.before a0 Z = true) : ((Jvm.Cond.laysFinal "com/example/roomyield/roomyield/RoomStatistics" "com/example/roomyield/roomyield/RoomStatistics" "guests" "Ljava/math/BigDecimal;")).before a0 Z = true := hw _ (List.mem_of_getElem? (i := 43) rfl)
theorem tw44 {Z : State} {a0 : Array Value} (hw : ∀ d ∈ tables_1, d.before a0 Z = true) : ((Jvm.Cond.fieldLink "com/example/roomyield/roomyield/RoomStatistics" (43 : Nat) "com/example/roomyield/roomyield/RoomStatistics" "multipleOccupied" "Ljava/math/BigDecimal;")).before a0 Z = true := hw _ (List.mem_of_getElem? (i := 44) rfl)
theorem tw45 {Z : State} {a0 : Array Value} (hw : ∀ d ∈ tables_1, d.before a0 Z = true) : ((Jvm.Cond.laysFinal "com/example/roomyield/roomyield/RoomStatistics" "com/example/roomyield/roomyield/RoomStatistics" "multipleOccupied" "Ljava/math/BigDecimal;")).before a0 Z = true := hw _ (List.mem_of_getElem? (i := 45) rfl)
theorem tw46 {Z : State} {a0 : Array Value} (hw : ∀ d ∈ tables_1, d.before a0 Z = true) : ((Jvm.Cond.methodLink "com/example/roomyield/roomyield/RoomStatisticsNonePinLaw" (13 : Nat) ({ cls := "com/example/roomyield/roomyield/RoomStatistics", name := "guests", desc := "()Ljava/math/BigDecimal;" } : Jvm.MethodName))).before a0 Z = true := hw _ (List.mem_of_getElem? (i := 46) rfl)
theorem tw47 {Z : State} {a0 : Array Value} (hw : ∀ d ∈ tables_1, d.before a0 Z = true) : ((Jvm.Cond.declares ({ cls := "com/example/roomyield/roomyield/RoomStatistics", name := "guests", desc := "()Ljava/math/BigDecimal;" } : Jvm.MethodName))).before a0 Z = true := hw _ (List.mem_of_getElem? (i := 47) rfl)
theorem tw48 {Z : State} {a0 : Array Value} (hw : ∀ d ∈ tables_1, d.before a0 Z = true) : ((Jvm.Cond.instanceMethod ({ cls := "com/example/roomyield/roomyield/RoomStatistics", name := "guests", desc := "()Ljava/math/BigDecimal;" } : Jvm.MethodName))).before a0 Z = true := hw _ (List.mem_of_getElem? (i := 48) rfl)
theorem tw49 {Z : State} {a0 : Array Value} (hw : ∀ d ∈ tables_1, d.before a0 Z = true) : ((Jvm.Cond.selects "com/example/roomyield/roomyield/RoomStatistics" ({ cls := "com/example/roomyield/roomyield/RoomStatistics", name := "guests", desc := "()Ljava/math/BigDecimal;" } : Jvm.MethodName) ({ cls := "com/example/roomyield/roomyield/RoomStatistics", name := "guests", desc := "()Ljava/math/BigDecimal;" } : Jvm.MethodName))).before a0 Z = true := hw _ (List.mem_of_getElem? (i := 49) rfl)
theorem tw50 {Z : State} {a0 : Array Value} (hw : ∀ d ∈ tables_1, d.before a0 Z = true) : ((Jvm.Cond.code ({ cls := "com/example/roomyield/roomyield/RoomStatistics", name := "guests", desc := "()Ljava/math/BigDecimal;" } : Jvm.MethodName) prog_18_method_17_code (1 : Nat) (Option.some (Jvm.ClassFile.FieldType.object "java/math/BigDecimal")))).before a0 Z = true := hw _ (List.mem_of_getElem? (i := 50) rfl)
theorem tw51 {Z : State} {a0 : Array Value} (hw : ∀ d ∈ tables_1, d.before a0 Z = true) : ((Jvm.Cond.methodLink "com/example/roomyield/roomyield/RoomStatisticsNonePinLaw" (17 : Nat) ({ cls := "com/example/roomyield/roomyield/RoomStatistics", name := "multipleOccupied", desc := "()Ljava/math/BigDecimal;" } : Jvm.MethodName))).before a0 Z = true := hw _ (List.mem_of_getElem? (i := 51) rfl)
theorem tw52 {Z : State} {a0 : Array Value} (hw : ∀ d ∈ tables_1, d.before a0 Z = true) : ((Jvm.Cond.declares ({ cls := "com/example/roomyield/roomyield/RoomStatistics", name := "multipleOccupied", desc := "()Ljava/math/BigDecimal;" } : Jvm.MethodName))).before a0 Z = true := hw _ (List.mem_of_getElem? (i := 52) rfl)
theorem tw53 {Z : State} {a0 : Array Value} (hw : ∀ d ∈ tables_1, d.before a0 Z = true) : ((Jvm.Cond.instanceMethod ({ cls := "com/example/roomyield/roomyield/RoomStatistics", name := "multipleOccupied", desc := "()Ljava/math/BigDecimal;" } : Jvm.MethodName))).before a0 Z = true := hw _ (List.mem_of_getElem? (i := 53) rfl)
theorem tw54 {Z : State} {a0 : Array Value} (hw : ∀ d ∈ tables_1, d.before a0 Z = true) : ((Jvm.Cond.selects "com/example/roomyield/roomyield/RoomStatistics" ({ cls := "com/example/roomyield/roomyield/RoomStatistics", name := "multipleOccupied", desc := "()Ljava/math/BigDecimal;" } : Jvm.MethodName) ({ cls := "com/example/roomyield/roomyield/RoomStatistics", name := "multipleOccupied", desc := "()Ljava/math/BigDecimal;" } : Jvm.MethodName))).before a0 Z = true := hw _ (List.mem_of_getElem? (i := 54) rfl)
theorem tw55 {Z : State} {a0 : Array Value} (hw : ∀ d ∈ tables_1, d.before a0 Z = true) : ((Jvm.Cond.code ({ cls := "com/example/roomyield/roomyield/RoomStatistics", name := "multipleOccupied", desc := "()Ljava/math/BigDecimal;" } : Jvm.MethodName) prog_18_method_18_code (1 : Nat) (Option.some (Jvm.ClassFile.FieldType.object "java/math/BigDecimal")))).before a0 Z = true := hw _ (List.mem_of_getElem? (i := 55) rfl)
theorem tw56 {Z : State} {a0 : Array Value} (hw : ∀ d ∈ tables_1, d.before a0 Z = true) : ((Jvm.Cond.methodLink "com/example/roomyield/roomyield/RoomStatisticsNonePinLaw" (20 : Nat) ({ cls := "com/example/roomyield/roomyield/RoomStatistics", name := "occupancyPct", desc := "()Ljava/math/BigDecimal;" } : Jvm.MethodName))).before a0 Z = true := hw _ (List.mem_of_getElem? (i := 56) rfl)
theorem tw57 {Z : State} {a0 : Array Value} (hw : ∀ d ∈ tables_1, d.before a0 Z = true) : ((Jvm.Cond.declares ({ cls := "com/example/roomyield/roomyield/RoomStatistics", name := "occupancyPct", desc := "()Ljava/math/BigDecimal;" } : Jvm.MethodName))).before a0 Z = true := hw _ (List.mem_of_getElem? (i := 57) rfl)
theorem tw58 {Z : State} {a0 : Array Value} (hw : ∀ d ∈ tables_1, d.before a0 Z = true) : ((Jvm.Cond.instanceMethod ({ cls := "com/example/roomyield/roomyield/RoomStatistics", name := "occupancyPct", desc := "()Ljava/math/BigDecimal;" } : Jvm.MethodName))).before a0 Z = true := hw _ (List.mem_of_getElem? (i := 58) rfl)
theorem tw59 {Z : State} {a0 : Array Value} (hw : ∀ d ∈ tables_1, d.before a0 Z = true) : ((Jvm.Cond.selects "com/example/roomyield/roomyield/RoomStatistics" ({ cls := "com/example/roomyield/roomyield/RoomStatistics", name := "occupancyPct", desc := "()Ljava/math/BigDecimal;" } : Jvm.MethodName) ({ cls := "com/example/roomyield/roomyield/RoomStatistics", name := "occupancyPct", desc := "()Ljava/math/BigDecimal;" } : Jvm.MethodName))).before a0 Z = true := hw _ (List.mem_of_getElem? (i := 59) rfl)
theorem tw60 {Z : State} {a0 : Array Value} (hw : ∀ d ∈ tables_1, d.before a0 Z = true) : ((Jvm.Cond.code ({ cls := "com/example/roomyield/roomyield/RoomStatistics", name := "occupancyPct", desc := "()Ljava/math/BigDecimal;" } : Jvm.MethodName) prog_18_method_5_code (1 : Nat) (Option.some (Jvm.ClassFile.FieldType.object "java/math/BigDecimal")))).before a0 Z = true := hw _ (List.mem_of_getElem? (i := 60) rfl)
theorem tw61 {Z : State} {a0 : Array Value} (hw : ∀ d ∈ tables_1, d.before a0 Z = true) : ((Jvm.Cond.methodLink "com/example/roomyield/roomyield/RoomStatistics" (54 : Nat) ({ cls := "com/example/roomyield/roomyield/Figures", name := "percent", desc := "(Ljava/math/BigDecimal;Ljava/math/BigDecimal;)Ljava/math/BigDecimal;" } : Jvm.MethodName))).before a0 Z = true := hw _ (List.mem_of_getElem? (i := 61) rfl)
theorem tw62 {Z : State} {a0 : Array Value} (hw : ∀ d ∈ tables_1, d.before a0 Z = true) : ((Jvm.Cond.static ({ cls := "com/example/roomyield/roomyield/Figures", name := "percent", desc := "(Ljava/math/BigDecimal;Ljava/math/BigDecimal;)Ljava/math/BigDecimal;" } : Jvm.MethodName))).before a0 Z = true := hw _ (List.mem_of_getElem? (i := 62) rfl)
theorem tw63 {Z : State} {a0 : Array Value} (hw : ∀ d ∈ tables_1, d.before a0 Z = true) : ((Jvm.Cond.initialized "com/example/roomyield/roomyield/Figures")).before a0 Z = true := hw _ (List.mem_of_getElem? (i := 63) rfl)
theorem tw64 {Z : State} {a0 : Array Value} (hw : ∀ d ∈ tables_1, d.before a0 Z = true) : ((Jvm.Cond.code ({ cls := "com/example/roomyield/roomyield/Figures", name := "percent", desc := "(Ljava/math/BigDecimal;Ljava/math/BigDecimal;)Ljava/math/BigDecimal;" } : Jvm.MethodName) prog_4_method_6_code (3 : Nat) (Option.some (Jvm.ClassFile.FieldType.object "java/math/BigDecimal")))).before a0 Z = true := hw _ (List.mem_of_getElem? (i := 64) rfl)
theorem tw65 {Z : State} {a0 : Array Value} (hw : ∀ d ∈ tables_1, d.before a0 Z = true) : ((Jvm.Cond.methodLink "com/example/roomyield/roomyield/Figures" (89 : Nat) ({ cls := "com/example/roomyield/roomyield/Figures", name := "ratio", desc := "(Ljava/math/BigDecimal;Ljava/math/BigDecimal;)Ljava/math/BigDecimal;" } : Jvm.MethodName))).before a0 Z = true := hw _ (List.mem_of_getElem? (i := 65) rfl)
theorem tw66 {Z : State} {a0 : Array Value} (hw : ∀ d ∈ tables_1, d.before a0 Z = true) : ((Jvm.Cond.static ({ cls := "com/example/roomyield/roomyield/Figures", name := "ratio", desc := "(Ljava/math/BigDecimal;Ljava/math/BigDecimal;)Ljava/math/BigDecimal;" } : Jvm.MethodName))).before a0 Z = true := hw _ (List.mem_of_getElem? (i := 66) rfl)
theorem tw67 {Z : State} {a0 : Array Value} (hw : ∀ d ∈ tables_1, d.before a0 Z = true) : ((Jvm.Cond.code ({ cls := "com/example/roomyield/roomyield/Figures", name := "ratio", desc := "(Ljava/math/BigDecimal;Ljava/math/BigDecimal;)Ljava/math/BigDecimal;" } : Jvm.MethodName) prog_4_method_2_code (3 : Nat) (Option.some (Jvm.ClassFile.FieldType.object "java/math/BigDecimal")))).before a0 Z = true := hw _ (List.mem_of_getElem? (i := 67) rfl)
theorem tw68 {Z : State} {a0 : Array Value} (hw : ∀ d ∈ tables_1, d.before a0 Z = true) : ((Jvm.Cond.methodLink "com/example/roomyield/roomyield/Figures" (7 : Nat) ({ cls := "java/math/BigDecimal", name := "signum", desc := "()I" } : Jvm.MethodName))).before a0 Z = true := hw _ (List.mem_of_getElem? (i := 68) rfl)
theorem tw69 {Z : State} {a0 : Array Value} (hw : ∀ d ∈ tables_1, d.before a0 Z = true) : ((Jvm.Cond.declares ({ cls := "java/math/BigDecimal", name := "signum", desc := "()I" } : Jvm.MethodName))).before a0 Z = true := hw _ (List.mem_of_getElem? (i := 69) rfl)
theorem tw70 {Z : State} {a0 : Array Value} (hw : ∀ d ∈ tables_1, d.before a0 Z = true) : ((Jvm.Cond.instanceMethod ({ cls := "java/math/BigDecimal", name := "signum", desc := "()I" } : Jvm.MethodName))).before a0 Z = true := hw _ (List.mem_of_getElem? (i := 70) rfl)
theorem tw71 {Z : State} {a0 : Array Value} (hw : ∀ d ∈ tables_1, d.before a0 Z = true) : ((Jvm.Cond.selects "java/math/BigDecimal" ({ cls := "java/math/BigDecimal", name := "signum", desc := "()I" } : Jvm.MethodName) ({ cls := "java/math/BigDecimal", name := "signum", desc := "()I" } : Jvm.MethodName))).before a0 Z = true := hw _ (List.mem_of_getElem? (i := 71) rfl)
theorem tw72 {Z : State} {a0 : Array Value} (hw : ∀ d ∈ tables_1, d.before a0 Z = true) : ((Jvm.Cond.code ({ cls := "java/math/BigDecimal", name := "signum", desc := "()I" } : Jvm.MethodName) jdk_17_method_58_code (1 : Nat) (Option.some Jvm.ClassFile.FieldType.int))).before a0 Z = true := hw _ (List.mem_of_getElem? (i := 72) rfl)
theorem tw73 {Z : State} {a0 : Array Value} (hw : ∀ d ∈ tables_1, d.before a0 Z = true) : ((Jvm.Cond.fieldLink "java/math/BigDecimal" (24 : Nat) "java/math/BigDecimal" "intCompact" "J")).before a0 Z = true := hw _ (List.mem_of_getElem? (i := 73) rfl)
theorem tw75 {Z : State} {a0 : Array Value} (hw : ∀ d ∈ tables_1, d.before a0 Z = true) : ((Jvm.Cond.constantLong "java/math/BigDecimal" (125 : Nat) (-9223372036854775808 : Int64))).before a0 Z = true := hw _ (List.mem_of_getElem? (i := 75) rfl)
theorem tw76 {Z : State} {a0 : Array Value} (hw : ∀ d ∈ tables_1, d.before a0 Z = true) : ((Jvm.Cond.methodLink "java/math/BigDecimal" (596 : Nat) ({ cls := "java/lang/Long", name := "signum", desc := "(J)I" } : Jvm.MethodName))).before a0 Z = true := hw _ (List.mem_of_getElem? (i := 76) rfl)
theorem tw77 {Z : State} {a0 : Array Value} (hw : ∀ d ∈ tables_1, d.before a0 Z = true) : ((Jvm.Cond.static ({ cls := "java/lang/Long", name := "signum", desc := "(J)I" } : Jvm.MethodName))).before a0 Z = true := hw _ (List.mem_of_getElem? (i := 77) rfl)
theorem tw78 {Z : State} {a0 : Array Value} (hw : ∀ d ∈ tables_1, d.before a0 Z = true) : ((Jvm.Cond.initialized "java/lang/Long")).before a0 Z = true := hw _ (List.mem_of_getElem? (i := 78) rfl)
theorem tw79 {Z : State} {a0 : Array Value} (hw : ∀ d ∈ tables_1, d.before a0 Z = true) : ((Jvm.Cond.code ({ cls := "java/lang/Long", name := "signum", desc := "(J)I" } : Jvm.MethodName) jdk_35_method_57_code (2 : Nat) (Option.some Jvm.ClassFile.FieldType.int))).before a0 Z = true := hw _ (List.mem_of_getElem? (i := 79) rfl)
theorem tw80 {Z : State} {a0 : Array Value} (hw : ∀ d ∈ tables_1, d.before a0 Z = true) : ((Jvm.Cond.methodLink "com/example/roomyield/roomyield/RoomStatisticsNonePinLaw" (23 : Nat) ({ cls := "com/example/roomyield/roomyield/RoomStatistics", name := "revpar", desc := "()Ljava/math/BigDecimal;" } : Jvm.MethodName))).before a0 Z = true := hw _ (List.mem_of_getElem? (i := 80) rfl)
theorem tw81 {Z : State} {a0 : Array Value} (hw : ∀ d ∈ tables_1, d.before a0 Z = true) : ((Jvm.Cond.declares ({ cls := "com/example/roomyield/roomyield/RoomStatistics", name := "revpar", desc := "()Ljava/math/BigDecimal;" } : Jvm.MethodName))).before a0 Z = true := hw _ (List.mem_of_getElem? (i := 81) rfl)
theorem tw82 {Z : State} {a0 : Array Value} (hw : ∀ d ∈ tables_1, d.before a0 Z = true) : ((Jvm.Cond.instanceMethod ({ cls := "com/example/roomyield/roomyield/RoomStatistics", name := "revpar", desc := "()Ljava/math/BigDecimal;" } : Jvm.MethodName))).before a0 Z = true := hw _ (List.mem_of_getElem? (i := 82) rfl)
theorem tw83 {Z : State} {a0 : Array Value} (hw : ∀ d ∈ tables_1, d.before a0 Z = true) : ((Jvm.Cond.selects "com/example/roomyield/roomyield/RoomStatistics" ({ cls := "com/example/roomyield/roomyield/RoomStatistics", name := "revpar", desc := "()Ljava/math/BigDecimal;" } : Jvm.MethodName) ({ cls := "com/example/roomyield/roomyield/RoomStatistics", name := "revpar", desc := "()Ljava/math/BigDecimal;" } : Jvm.MethodName))).before a0 Z = true := hw _ (List.mem_of_getElem? (i := 83) rfl)
theorem tw84 {Z : State} {a0 : Array Value} (hw : ∀ d ∈ tables_1, d.before a0 Z = true) : ((Jvm.Cond.code ({ cls := "com/example/roomyield/roomyield/RoomStatistics", name := "revpar", desc := "()Ljava/math/BigDecimal;" } : Jvm.MethodName) prog_18_method_9_code (1 : Nat) (Option.some (Jvm.ClassFile.FieldType.object "java/math/BigDecimal")))).before a0 Z = true := hw _ (List.mem_of_getElem? (i := 84) rfl)
theorem tw85 {Z : State} {a0 : Array Value} (hw : ∀ d ∈ tables_1, d.before a0 Z = true) : ((Jvm.Cond.methodLink "com/example/roomyield/roomyield/RoomStatistics" (62 : Nat) ({ cls := "com/example/roomyield/roomyield/Figures", name := "ratio", desc := "(Ljava/math/BigDecimal;Ljava/math/BigDecimal;)Ljava/math/BigDecimal;" } : Jvm.MethodName))).before a0 Z = true := hw _ (List.mem_of_getElem? (i := 85) rfl)
theorem tw86 {Z : State} {a0 : Array Value} (hw : ∀ d ∈ tables_1, d.before a0 Z = true) : ((Jvm.Cond.methodLink "com/example/roomyield/roomyield/RoomStatisticsNonePinLaw" (26 : Nat) ({ cls := "com/example/roomyield/roomyield/RoomStatistics", name := "adr", desc := "()Ljava/math/BigDecimal;" } : Jvm.MethodName))).before a0 Z = true := hw _ (List.mem_of_getElem? (i := 86) rfl)
theorem tw87 {Z : State} {a0 : Array Value} (hw : ∀ d ∈ tables_1, d.before a0 Z = true) : ((Jvm.Cond.declares ({ cls := "com/example/roomyield/roomyield/RoomStatistics", name := "adr", desc := "()Ljava/math/BigDecimal;" } : Jvm.MethodName))).before a0 Z = true := hw _ (List.mem_of_getElem? (i := 87) rfl)
theorem tw88 {Z : State} {a0 : Array Value} (hw : ∀ d ∈ tables_1, d.before a0 Z = true) : ((Jvm.Cond.instanceMethod ({ cls := "com/example/roomyield/roomyield/RoomStatistics", name := "adr", desc := "()Ljava/math/BigDecimal;" } : Jvm.MethodName))).before a0 Z = true := hw _ (List.mem_of_getElem? (i := 88) rfl)
theorem tw89 {Z : State} {a0 : Array Value} (hw : ∀ d ∈ tables_1, d.before a0 Z = true) : ((Jvm.Cond.selects "com/example/roomyield/roomyield/RoomStatistics" ({ cls := "com/example/roomyield/roomyield/RoomStatistics", name := "adr", desc := "()Ljava/math/BigDecimal;" } : Jvm.MethodName) ({ cls := "com/example/roomyield/roomyield/RoomStatistics", name := "adr", desc := "()Ljava/math/BigDecimal;" } : Jvm.MethodName))).before a0 Z = true := hw _ (List.mem_of_getElem? (i := 89) rfl)
theorem tw90 {Z : State} {a0 : Array Value} (hw : ∀ d ∈ tables_1, d.before a0 Z = true) : ((Jvm.Cond.code ({ cls := "com/example/roomyield/roomyield/RoomStatistics", name := "adr", desc := "()Ljava/math/BigDecimal;" } : Jvm.MethodName) prog_18_method_8_code (1 : Nat) (Option.some (Jvm.ClassFile.FieldType.object "java/math/BigDecimal")))).before a0 Z = true := hw _ (List.mem_of_getElem? (i := 90) rfl)
theorem tw91 {Z : State} {a0 : Array Value} (hw : ∀ d ∈ tables_1, d.before a0 Z = true) : ((Jvm.Cond.methodLink "com/example/roomyield/roomyield/RoomStatisticsNonePinLaw" (29 : Nat) ({ cls := "com/example/roomyield/roomyield/RoomStatistics", name := "doubleOccupancyPct", desc := "()Ljava/math/BigDecimal;" } : Jvm.MethodName))).before a0 Z = true := hw _ (List.mem_of_getElem? (i := 91) rfl)
theorem tw92 {Z : State} {a0 : Array Value} (hw : ∀ d ∈ tables_1, d.before a0 Z = true) : ((Jvm.Cond.declares ({ cls := "com/example/roomyield/roomyield/RoomStatistics", name := "doubleOccupancyPct", desc := "()Ljava/math/BigDecimal;" } : Jvm.MethodName))).before a0 Z = true := hw _ (List.mem_of_getElem? (i := 92) rfl)
theorem tw93 {Z : State} {a0 : Array Value} (hw : ∀ d ∈ tables_1, d.before a0 Z = true) : ((Jvm.Cond.instanceMethod ({ cls := "com/example/roomyield/roomyield/RoomStatistics", name := "doubleOccupancyPct", desc := "()Ljava/math/BigDecimal;" } : Jvm.MethodName))).before a0 Z = true := hw _ (List.mem_of_getElem? (i := 93) rfl)
theorem tw94 {Z : State} {a0 : Array Value} (hw : ∀ d ∈ tables_1, d.before a0 Z = true) : ((Jvm.Cond.selects "com/example/roomyield/roomyield/RoomStatistics" ({ cls := "com/example/roomyield/roomyield/RoomStatistics", name := "doubleOccupancyPct", desc := "()Ljava/math/BigDecimal;" } : Jvm.MethodName) ({ cls := "com/example/roomyield/roomyield/RoomStatistics", name := "doubleOccupancyPct", desc := "()Ljava/math/BigDecimal;" } : Jvm.MethodName))).before a0 Z = true := hw _ (List.mem_of_getElem? (i := 94) rfl)
theorem tw95 {Z : State} {a0 : Array Value} (hw : ∀ d ∈ tables_1, d.before a0 Z = true) : ((Jvm.Cond.code ({ cls := "com/example/roomyield/roomyield/RoomStatistics", name := "doubleOccupancyPct", desc := "()Ljava/math/BigDecimal;" } : Jvm.MethodName) prog_18_method_6_code (1 : Nat) (Option.some (Jvm.ClassFile.FieldType.object "java/math/BigDecimal")))).before a0 Z = true := hw _ (List.mem_of_getElem? (i := 95) rfl)
theorem tw96 {Z : State} {a0 : Array Value} (hw : ∀ d ∈ tables_1, d.before a0 Z = true) : ((Jvm.Cond.methodLink "com/example/roomyield/roomyield/RoomStatisticsNonePinLaw" (32 : Nat) ({ cls := "com/example/roomyield/roomyield/RoomStatistics", name := "multipleOccupancyPct", desc := "()Ljava/math/BigDecimal;" } : Jvm.MethodName))).before a0 Z = true := hw _ (List.mem_of_getElem? (i := 96) rfl)
theorem tw97 {Z : State} {a0 : Array Value} (hw : ∀ d ∈ tables_1, d.before a0 Z = true) : ((Jvm.Cond.declares ({ cls := "com/example/roomyield/roomyield/RoomStatistics", name := "multipleOccupancyPct", desc := "()Ljava/math/BigDecimal;" } : Jvm.MethodName))).before a0 Z = true := hw _ (List.mem_of_getElem? (i := 97) rfl)
theorem tw98 {Z : State} {a0 : Array Value} (hw : ∀ d ∈ tables_1, d.before a0 Z = true) : ((Jvm.Cond.instanceMethod ({ cls := "com/example/roomyield/roomyield/RoomStatistics", name := "multipleOccupancyPct", desc := "()Ljava/math/BigDecimal;" } : Jvm.MethodName))).before a0 Z = true := hw _ (List.mem_of_getElem? (i := 98) rfl)
theorem tw99 {Z : State} {a0 : Array Value} (hw : ∀ d ∈ tables_1, d.before a0 Z = true) : ((Jvm.Cond.selects "com/example/roomyield/roomyield/RoomStatistics" ({ cls := "com/example/roomyield/roomyield/RoomStatistics", name := "multipleOccupancyPct", desc := "()Ljava/math/BigDecimal;" } : Jvm.MethodName) ({ cls := "com/example/roomyield/roomyield/RoomStatistics", name := "multipleOccupancyPct", desc := "()Ljava/math/BigDecimal;" } : Jvm.MethodName))).before a0 Z = true := hw _ (List.mem_of_getElem? (i := 99) rfl)
theorem tw100 {Z : State} {a0 : Array Value} (hw : ∀ d ∈ tables_1, d.before a0 Z = true) : ((Jvm.Cond.code ({ cls := "com/example/roomyield/roomyield/RoomStatistics", name := "multipleOccupancyPct", desc := "()Ljava/math/BigDecimal;" } : Jvm.MethodName) prog_18_method_7_code (1 : Nat) (Option.some (Jvm.ClassFile.FieldType.object "java/math/BigDecimal")))).before a0 Z = true := hw _ (List.mem_of_getElem? (i := 100) rfl)
theorem tw101 {Z : State} {a0 : Array Value} (hw : ∀ d ∈ tables_1, d.before a0 Z = true) : ((Jvm.Cond.methodLink "com/example/roomyield/roomyield/RoomStatistics" (59 : Nat) ({ cls := "java/math/BigDecimal", name := "subtract", desc := "(Ljava/math/BigDecimal;)Ljava/math/BigDecimal;" } : Jvm.MethodName))).before a0 Z = true := hw _ (List.mem_of_getElem? (i := 101) rfl)
theorem tw102 {Z : State} {a0 : Array Value} (hw : ∀ d ∈ tables_1, d.before a0 Z = true) : ((Jvm.Cond.declares ({ cls := "java/math/BigDecimal", name := "subtract", desc := "(Ljava/math/BigDecimal;)Ljava/math/BigDecimal;" } : Jvm.MethodName))).before a0 Z = true := hw _ (List.mem_of_getElem? (i := 102) rfl)
theorem tw103 {Z : State} {a0 : Array Value} (hw : ∀ d ∈ tables_1, d.before a0 Z = true) : ((Jvm.Cond.instanceMethod ({ cls := "java/math/BigDecimal", name := "subtract", desc := "(Ljava/math/BigDecimal;)Ljava/math/BigDecimal;" } : Jvm.MethodName))).before a0 Z = true := hw _ (List.mem_of_getElem? (i := 103) rfl)
theorem tw104 {Z : State} {a0 : Array Value} (hw : ∀ d ∈ tables_1, d.before a0 Z = true) : ((Jvm.Cond.selects "java/math/BigDecimal" ({ cls := "java/math/BigDecimal", name := "subtract", desc := "(Ljava/math/BigDecimal;)Ljava/math/BigDecimal;" } : Jvm.MethodName) ({ cls := "java/math/BigDecimal", name := "subtract", desc := "(Ljava/math/BigDecimal;)Ljava/math/BigDecimal;" } : Jvm.MethodName))).before a0 Z = true := hw _ (List.mem_of_getElem? (i := 104) rfl)
theorem tw105 {Z : State} {a0 : Array Value} (hw : ∀ d ∈ tables_1, d.before a0 Z = true) : ((Jvm.Cond.code ({ cls := "java/math/BigDecimal", name := "subtract", desc := "(Ljava/math/BigDecimal;)Ljava/math/BigDecimal;" } : Jvm.MethodName) jdk_17_method_29_code (2 : Nat) (Option.some (Jvm.ClassFile.FieldType.object "java/math/BigDecimal")))).before a0 Z = true := hw _ (List.mem_of_getElem? (i := 105) rfl)
theorem tw106 {Z : State} {a0 : Array Value} (hw : ∀ d ∈ tables_1, d.before a0 Z = true) : ((Jvm.Cond.fieldLink "java/math/BigDecimal" (17 : Nat) "java/math/BigDecimal" "scale" "I")).before a0 Z = true := hw _ (List.mem_of_getElem? (i := 106) rfl)
theorem tw108 {Z : State} {a0 : Array Value} (hw : ∀ d ∈ tables_1, d.before a0 Z = true) : ((Jvm.Cond.methodLink "java/math/BigDecimal" (257 : Nat) ({ cls := "java/math/BigDecimal", name := "add", desc := "(JIJI)Ljava/math/BigDecimal;" } : Jvm.MethodName))).before a0 Z = true := hw _ (List.mem_of_getElem? (i := 108) rfl)
theorem tw109 {Z : State} {a0 : Array Value} (hw : ∀ d ∈ tables_1, d.before a0 Z = true) : ((Jvm.Cond.static ({ cls := "java/math/BigDecimal", name := "add", desc := "(JIJI)Ljava/math/BigDecimal;" } : Jvm.MethodName))).before a0 Z = true := hw _ (List.mem_of_getElem? (i := 109) rfl)
theorem tw110 {Z : State} {a0 : Array Value} (hw : ∀ d ∈ tables_1, d.before a0 Z = true) : ((Jvm.Cond.code ({ cls := "java/math/BigDecimal", name := "add", desc := "(JIJI)Ljava/math/BigDecimal;" } : Jvm.MethodName) jdk_17_method_134_code (12 : Nat) (Option.some (Jvm.ClassFile.FieldType.object "java/math/BigDecimal")))).before a0 Z = true := hw _ (List.mem_of_getElem? (i := 110) rfl)
theorem tw111 {Z : State} {a0 : Array Value} (hw : ∀ d ∈ tables_1, d.before a0 Z = true) : ((Jvm.Cond.methodLink "java/math/BigDecimal" (1000 : Nat) ({ cls := "java/math/BigDecimal", name := "add", desc := "(JJI)Ljava/math/BigDecimal;" } : Jvm.MethodName))).before a0 Z = true := hw _ (List.mem_of_getElem? (i := 111) rfl)
theorem tw112 {Z : State} {a0 : Array Value} (hw : ∀ d ∈ tables_1, d.before a0 Z = true) : ((Jvm.Cond.static ({ cls := "java/math/BigDecimal", name := "add", desc := "(JJI)Ljava/math/BigDecimal;" } : Jvm.MethodName))).before a0 Z = true := hw _ (List.mem_of_getElem? (i := 112) rfl)
theorem tw113 {Z : State} {a0 : Array Value} (hw : ∀ d ∈ tables_1, d.before a0 Z = true) : ((Jvm.Cond.code ({ cls := "java/math/BigDecimal", name := "add", desc := "(JJI)Ljava/math/BigDecimal;" } : Jvm.MethodName) jdk_17_method_133_code (7 : Nat) (Option.some (Jvm.ClassFile.FieldType.object "java/math/BigDecimal")))).before a0 Z = true := hw _ (List.mem_of_getElem? (i := 113) rfl)
theorem tw114 {Z : State} {a0 : Array Value} (hw : ∀ d ∈ tables_1, d.before a0 Z = true) : ((Jvm.Cond.methodLink "java/math/BigDecimal" (996 : Nat) ({ cls := "java/math/BigDecimal", name := "add", desc := "(JJ)J" } : Jvm.MethodName))).before a0 Z = true := hw _ (List.mem_of_getElem? (i := 114) rfl)
theorem tw115 {Z : State} {a0 : Array Value} (hw : ∀ d ∈ tables_1, d.before a0 Z = true) : ((Jvm.Cond.static ({ cls := "java/math/BigDecimal", name := "add", desc := "(JJ)J" } : Jvm.MethodName))).before a0 Z = true := hw _ (List.mem_of_getElem? (i := 115) rfl)
theorem tw116 {Z : State} {a0 : Array Value} (hw : ∀ d ∈ tables_1, d.before a0 Z = true) : ((Jvm.Cond.code ({ cls := "java/math/BigDecimal", name := "add", desc := "(JJ)J" } : Jvm.MethodName) jdk_17_method_132_code (6 : Nat) (Option.some Jvm.ClassFile.FieldType.long))).before a0 Z = true := hw _ (List.mem_of_getElem? (i := 116) rfl)
theorem tw117 {Z : State} {a0 : Array Value} (hw : ∀ d ∈ tables_1, d.before a0 Z = true) : ((Jvm.Cond.methodLink "java/math/BigDecimal" (328 : Nat) ({ cls := "java/math/BigDecimal", name := "valueOf", desc := "(JI)Ljava/math/BigDecimal;" } : Jvm.MethodName))).before a0 Z = true := hw _ (List.mem_of_getElem? (i := 117) rfl)
theorem tw118 {Z : State} {a0 : Array Value} (hw : ∀ d ∈ tables_1, d.before a0 Z = true) : ((Jvm.Cond.static ({ cls := "java/math/BigDecimal", name := "valueOf", desc := "(JI)Ljava/math/BigDecimal;" } : Jvm.MethodName))).before a0 Z = true := hw _ (List.mem_of_getElem? (i := 118) rfl)
theorem tw119 {Z : State} {a0 : Array Value} (hw : ∀ d ∈ tables_1, d.before a0 Z = true) : ((Jvm.Cond.code ({ cls := "java/math/BigDecimal", name := "valueOf", desc := "(JI)Ljava/math/BigDecimal;" } : Jvm.MethodName) jdk_17_method_20_code (3 : Nat) (Option.some (Jvm.ClassFile.FieldType.object "java/math/BigDecimal")))).before a0 Z = true := hw _ (List.mem_of_getElem? (i := 119) rfl)
theorem tw120 {Z : State} {a0 : Array Value} (hw : ∀ d ∈ tables_1, d.before a0 Z = true) : ((Jvm.Cond.methodLink "java/math/BigDecimal" (236 : Nat) ({ cls := "java/math/BigDecimal", name := "valueOf", desc := "(J)Ljava/math/BigDecimal;" } : Jvm.MethodName))).before a0 Z = true := hw _ (List.mem_of_getElem? (i := 120) rfl)
theorem tw121 {Z : State} {a0 : Array Value} (hw : ∀ d ∈ tables_1, d.before a0 Z = true) : ((Jvm.Cond.static ({ cls := "java/math/BigDecimal", name := "valueOf", desc := "(J)Ljava/math/BigDecimal;" } : Jvm.MethodName))).before a0 Z = true := hw _ (List.mem_of_getElem? (i := 121) rfl)
theorem tw122 {Z : State} {a0 : Array Value} (hw : ∀ d ∈ tables_1, d.before a0 Z = true) : ((Jvm.Cond.code ({ cls := "java/math/BigDecimal", name := "valueOf", desc := "(J)Ljava/math/BigDecimal;" } : Jvm.MethodName) jdk_17_method_21_code (2 : Nat) (Option.some (Jvm.ClassFile.FieldType.object "java/math/BigDecimal")))).before a0 Z = true := hw _ (List.mem_of_getElem? (i := 122) rfl)
theorem tw123 {Z : State} {a0 : Array Value} (hw : ∀ d ∈ tables_1, d.before a0 Z = true) : ((Jvm.Cond.fieldLink "java/math/BigDecimal" (246 : Nat) "java/math/BigDecimal" "ZERO_THROUGH_TEN" "[Ljava/math/BigDecimal;")).before a0 Z = true := hw _ (List.mem_of_getElem? (i := 123) rfl)
theorem d1_0 : decode prog_18_method_2_code 0 = .ok (.iload_n 0, 1) := by decide +kernel
theorem d1_1 : decode prog_18_method_2_code 1 = .ok (.ifCond .eq 9, 3) := by decide +kernel
theorem d1_4 : decode prog_18_method_2_code 4 = .ok (.getstatic 1, 3) := by decide +kernel
theorem d1_7 : decode prog_18_method_2_code 7 = .ok (.goto 4, 3) := by decide +kernel
theorem d1_10 : decode prog_18_method_2_code 10 = .ok (.aconst_null, 1) := by decide +kernel
theorem d1_11 : decode prog_18_method_2_code 11 = .ok (.astore_n 1, 1) := by decide +kernel
theorem d1_12 : decode prog_18_method_2_code 12 = .ok (.new 7, 3) := by decide +kernel
theorem d1_15 : decode prog_18_method_2_code 15 = .ok (.dup, 1) := by decide +kernel
theorem d1_16 : decode prog_18_method_2_code 16 = .ok (.getstatic 1, 3) := by decide +kernel
theorem d1_19 : decode prog_18_method_2_code 19 = .ok (.getstatic 1, 3) := by decide +kernel
theorem d1_22 : decode prog_18_method_2_code 22 = .ok (.getstatic 1, 3) := by decide +kernel
theorem d1_25 : decode prog_18_method_2_code 25 = .ok (.getstatic 1, 3) := by decide +kernel
theorem d1_28 : decode prog_18_method_2_code 28 = .ok (.aload_n 1, 1) := by decide +kernel
theorem d1_29 : decode prog_18_method_2_code 29 = .ok (.aload_n 1, 1) := by decide +kernel
theorem d1_30 : decode prog_18_method_2_code 30 = .ok (.invokespecial 9, 3) := by decide +kernel
theorem d1_33 : decode prog_18_method_2_code 33 = .ok (.areturn, 1) := by decide +kernel
theorem d2_0 : decode prog_18_method_1_code 0 = .ok (.aload_n 0, 1) := by decide +kernel
theorem d2_1 : decode prog_18_method_1_code 1 = .ok (.invokespecial 13, 3) := by decide +kernel
theorem d2_4 : decode prog_18_method_1_code 4 = .ok (.aload_n 1, 1) := by decide +kernel
theorem d2_5 : decode prog_18_method_1_code 5 = .ok (.ldc 18, 2) := by decide +kernel
theorem d2_7 : decode prog_18_method_1_code 7 = .ok (.invokestatic 20, 3) := by decide +kernel
theorem d2_10 : decode prog_18_method_1_code 10 = .ok (.pop, 1) := by decide +kernel
theorem d2_11 : decode prog_18_method_1_code 11 = .ok (.aload_n 2, 1) := by decide +kernel
theorem d2_12 : decode prog_18_method_1_code 12 = .ok (.ldc 26, 2) := by decide +kernel
theorem d2_14 : decode prog_18_method_1_code 14 = .ok (.invokestatic 20, 3) := by decide +kernel
theorem d2_17 : decode prog_18_method_1_code 17 = .ok (.pop, 1) := by decide +kernel
theorem d2_18 : decode prog_18_method_1_code 18 = .ok (.aload_n 3, 1) := by decide +kernel
theorem d2_19 : decode prog_18_method_1_code 19 = .ok (.ldc 28, 2) := by decide +kernel
theorem d2_21 : decode prog_18_method_1_code 21 = .ok (.invokestatic 20, 3) := by decide +kernel
theorem d2_24 : decode prog_18_method_1_code 24 = .ok (.pop, 1) := by decide +kernel
theorem d2_25 : decode prog_18_method_1_code 25 = .ok (.aload 4, 2) := by decide +kernel
theorem d2_27 : decode prog_18_method_1_code 27 = .ok (.ldc 30, 2) := by decide +kernel
theorem d2_29 : decode prog_18_method_1_code 29 = .ok (.invokestatic 20, 3) := by decide +kernel
theorem d2_32 : decode prog_18_method_1_code 32 = .ok (.pop, 1) := by decide +kernel
theorem d2_33 : decode prog_18_method_1_code 33 = .ok (.aload_n 0, 1) := by decide +kernel
theorem d2_34 : decode prog_18_method_1_code 34 = .ok (.aload_n 1, 1) := by decide +kernel
theorem d2_35 : decode prog_18_method_1_code 35 = .ok (.putfield 32, 3) := by decide +kernel
theorem d2_38 : decode prog_18_method_1_code 38 = .ok (.aload_n 0, 1) := by decide +kernel
theorem d2_39 : decode prog_18_method_1_code 39 = .ok (.aload_n 2, 1) := by decide +kernel
theorem d2_40 : decode prog_18_method_1_code 40 = .ok (.putfield 34, 3) := by decide +kernel
theorem d2_43 : decode prog_18_method_1_code 43 = .ok (.aload_n 0, 1) := by decide +kernel
theorem d2_44 : decode prog_18_method_1_code 44 = .ok (.aload_n 3, 1) := by decide +kernel
theorem d2_45 : decode prog_18_method_1_code 45 = .ok (.putfield 36, 3) := by decide +kernel
theorem d2_48 : decode prog_18_method_1_code 48 = .ok (.aload_n 0, 1) := by decide +kernel
theorem d2_49 : decode prog_18_method_1_code 49 = .ok (.aload 4, 2) := by decide +kernel
theorem d2_51 : decode prog_18_method_1_code 51 = .ok (.putfield 38, 3) := by decide +kernel
theorem d2_54 : decode prog_18_method_1_code 54 = .ok (.aload_n 0, 1) := by decide +kernel
theorem d2_55 : decode prog_18_method_1_code 55 = .ok (.aload 5, 2) := by decide +kernel
theorem d2_57 : decode prog_18_method_1_code 57 = .ok (.putfield 40, 3) := by decide +kernel
theorem d2_60 : decode prog_18_method_1_code 60 = .ok (.aload_n 0, 1) := by decide +kernel
theorem d2_61 : decode prog_18_method_1_code 61 = .ok (.aload 6, 2) := by decide +kernel
theorem d2_63 : decode prog_18_method_1_code 63 = .ok (.putfield 43, 3) := by decide +kernel
theorem d2_66 : decode prog_18_method_1_code 66 = .ok (.return_, 1) := by decide +kernel
theorem d3_0 : decode jdk_30_method_1_code 0 = .ok (.aload_n 0, 1) := by decide +kernel
theorem d3_1 : decode jdk_30_method_1_code 1 = .ok (.invokespecial 1, 3) := by decide +kernel
theorem d3_4 : decode jdk_30_method_1_code 4 = .ok (.return_, 1) := by decide +kernel
theorem d5_0 : decode jdk_31_method_11_code 0 = .ok (.aload_n 0, 1) := by decide +kernel
theorem d5_1 : decode jdk_31_method_11_code 1 = .ok (.ifnonnull 12, 3) := by decide +kernel
theorem d5_13 : decode jdk_31_method_11_code 13 = .ok (.aload_n 0, 1) := by decide +kernel
theorem d5_14 : decode jdk_31_method_11_code 14 = .ok (.areturn, 1) := by decide +kernel
theorem d6_0 : decode prog_18_method_17_code 0 = .ok (.aload_n 0, 1) := by decide +kernel
theorem d6_1 : decode prog_18_method_17_code 1 = .ok (.getfield 40, 3) := by decide +kernel
theorem d6_4 : decode prog_18_method_17_code 4 = .ok (.areturn, 1) := by decide +kernel
theorem d7_0 : decode prog_18_method_18_code 0 = .ok (.aload_n 0, 1) := by decide +kernel
theorem d7_1 : decode prog_18_method_18_code 1 = .ok (.getfield 43, 3) := by decide +kernel
theorem d7_4 : decode prog_18_method_18_code 4 = .ok (.areturn, 1) := by decide +kernel
theorem d8_0 : decode prog_18_method_5_code 0 = .ok (.aload_n 0, 1) := by decide +kernel
theorem d8_1 : decode prog_18_method_5_code 1 = .ok (.getfield 34, 3) := by decide +kernel
theorem d8_4 : decode prog_18_method_5_code 4 = .ok (.aload_n 0, 1) := by decide +kernel
theorem d8_5 : decode prog_18_method_5_code 5 = .ok (.getfield 32, 3) := by decide +kernel
theorem d8_8 : decode prog_18_method_5_code 8 = .ok (.invokestatic 54, 3) := by decide +kernel
theorem d8_11 : decode prog_18_method_5_code 11 = .ok (.areturn, 1) := by decide +kernel
theorem d9_0 : decode prog_4_method_6_code 0 = .ok (.aload_n 0, 1) := by decide +kernel
theorem d9_1 : decode prog_4_method_6_code 1 = .ok (.aload_n 1, 1) := by decide +kernel
theorem d9_2 : decode prog_4_method_6_code 2 = .ok (.invokestatic 89, 3) := by decide +kernel
theorem d9_5 : decode prog_4_method_6_code 5 = .ok (.astore_n 2, 1) := by decide +kernel
theorem d9_6 : decode prog_4_method_6_code 6 = .ok (.aload_n 2, 1) := by decide +kernel
theorem d9_7 : decode prog_4_method_6_code 7 = .ok (.ifnonnull 7, 3) := by decide +kernel
theorem d9_10 : decode prog_4_method_6_code 10 = .ok (.aconst_null, 1) := by decide +kernel
theorem d9_11 : decode prog_4_method_6_code 11 = .ok (.goto 10, 3) := by decide +kernel
theorem d9_21 : decode prog_4_method_6_code 21 = .ok (.areturn, 1) := by decide +kernel
theorem d10_0 : decode prog_4_method_2_code 0 = .ok (.aload_n 1, 1) := by decide +kernel
theorem d10_1 : decode prog_4_method_2_code 1 = .ok (.invokevirtual 7, 3) := by decide +kernel
theorem d10_4 : decode prog_4_method_2_code 4 = .ok (.ifCond .ne 5, 3) := by decide +kernel
theorem d10_7 : decode prog_4_method_2_code 7 = .ok (.aconst_null, 1) := by decide +kernel
theorem d10_8 : decode prog_4_method_2_code 8 = .ok (.areturn, 1) := by decide +kernel
theorem d11_0 : decode jdk_17_method_58_code 0 = .ok (.aload_n 0, 1) := by decide +kernel
theorem d11_1 : decode jdk_17_method_58_code 1 = .ok (.getfield 24, 3) := by decide +kernel
theorem d11_4 : decode jdk_17_method_58_code 4 = .ok (.ldc2_w 125, 3) := by decide +kernel
theorem d11_7 : decode jdk_17_method_58_code 7 = .ok (.lcmp, 1) := by decide +kernel
theorem d11_8 : decode jdk_17_method_58_code 8 = .ok (.ifCond .eq 13, 3) := by decide +kernel
theorem d11_11 : decode jdk_17_method_58_code 11 = .ok (.aload_n 0, 1) := by decide +kernel
theorem d11_12 : decode jdk_17_method_58_code 12 = .ok (.getfield 24, 3) := by decide +kernel
theorem d11_15 : decode jdk_17_method_58_code 15 = .ok (.invokestatic 596, 3) := by decide +kernel
theorem d11_18 : decode jdk_17_method_58_code 18 = .ok (.goto 10, 3) := by decide +kernel
theorem d11_28 : decode jdk_17_method_58_code 28 = .ok (.ireturn, 1) := by decide +kernel
theorem d12_0 : decode jdk_35_method_57_code 0 = .ok (.lload_n 0, 1) := by decide +kernel
theorem d12_1 : decode jdk_35_method_57_code 1 = .ok (.bipush 63, 2) := by decide +kernel
theorem d12_3 : decode jdk_35_method_57_code 3 = .ok (.lshr, 1) := by decide +kernel
theorem d12_4 : decode jdk_35_method_57_code 4 = .ok (.lload_n 0, 1) := by decide +kernel
theorem d12_5 : decode jdk_35_method_57_code 5 = .ok (.lneg, 1) := by decide +kernel
theorem d12_6 : decode jdk_35_method_57_code 6 = .ok (.bipush 63, 2) := by decide +kernel
theorem d12_8 : decode jdk_35_method_57_code 8 = .ok (.lushr, 1) := by decide +kernel
theorem d12_9 : decode jdk_35_method_57_code 9 = .ok (.lor, 1) := by decide +kernel
theorem d12_10 : decode jdk_35_method_57_code 10 = .ok (.l2i, 1) := by decide +kernel
theorem d12_11 : decode jdk_35_method_57_code 11 = .ok (.ireturn, 1) := by decide +kernel
theorem d13_0 : decode prog_18_method_9_code 0 = .ok (.aload_n 0, 1) := by decide +kernel
theorem d13_1 : decode prog_18_method_9_code 1 = .ok (.getfield 38, 3) := by decide +kernel
theorem d13_4 : decode prog_18_method_9_code 4 = .ok (.aload_n 0, 1) := by decide +kernel
theorem d13_5 : decode prog_18_method_9_code 5 = .ok (.getfield 32, 3) := by decide +kernel
theorem d13_8 : decode prog_18_method_9_code 8 = .ok (.invokestatic 62, 3) := by decide +kernel
theorem d13_11 : decode prog_18_method_9_code 11 = .ok (.areturn, 1) := by decide +kernel
theorem d14_0 : decode prog_18_method_8_code 0 = .ok (.aload_n 0, 1) := by decide +kernel
theorem d14_1 : decode prog_18_method_8_code 1 = .ok (.getfield 38, 3) := by decide +kernel
theorem d14_4 : decode prog_18_method_8_code 4 = .ok (.aload_n 0, 1) := by decide +kernel
theorem d14_5 : decode prog_18_method_8_code 5 = .ok (.getfield 34, 3) := by decide +kernel
theorem d14_8 : decode prog_18_method_8_code 8 = .ok (.invokestatic 62, 3) := by decide +kernel
theorem d14_11 : decode prog_18_method_8_code 11 = .ok (.areturn, 1) := by decide +kernel
theorem d15_0 : decode prog_18_method_6_code 0 = .ok (.aload_n 0, 1) := by decide +kernel
theorem d15_1 : decode prog_18_method_6_code 1 = .ok (.getfield 40, 3) := by decide +kernel
theorem d15_4 : decode prog_18_method_6_code 4 = .ok (.ifnonnull 7, 3) := by decide +kernel
theorem d15_7 : decode prog_18_method_6_code 7 = .ok (.aconst_null, 1) := by decide +kernel
theorem d15_8 : decode prog_18_method_6_code 8 = .ok (.goto 21, 3) := by decide +kernel
theorem d15_11 : decode prog_18_method_6_code 11 = .ok (.aload_n 0, 1) := by decide +kernel
theorem d15_12 : decode prog_18_method_6_code 12 = .ok (.getfield 40, 3) := by decide +kernel
theorem d15_15 : decode prog_18_method_6_code 15 = .ok (.aload_n 0, 1) := by decide +kernel
theorem d15_16 : decode prog_18_method_6_code 16 = .ok (.getfield 34, 3) := by decide +kernel
theorem d15_19 : decode prog_18_method_6_code 19 = .ok (.invokevirtual 59, 3) := by decide +kernel
theorem d15_22 : decode prog_18_method_6_code 22 = .ok (.aload_n 0, 1) := by decide +kernel
theorem d15_23 : decode prog_18_method_6_code 23 = .ok (.getfield 34, 3) := by decide +kernel
theorem d15_26 : decode prog_18_method_6_code 26 = .ok (.invokestatic 54, 3) := by decide +kernel
theorem d15_29 : decode prog_18_method_6_code 29 = .ok (.areturn, 1) := by decide +kernel
theorem d16_0 : decode prog_18_method_7_code 0 = .ok (.aload_n 0, 1) := by decide +kernel
theorem d16_1 : decode prog_18_method_7_code 1 = .ok (.getfield 43, 3) := by decide +kernel
theorem d16_4 : decode prog_18_method_7_code 4 = .ok (.ifnonnull 7, 3) := by decide +kernel
theorem d16_7 : decode prog_18_method_7_code 7 = .ok (.aconst_null, 1) := by decide +kernel
theorem d16_8 : decode prog_18_method_7_code 8 = .ok (.goto 14, 3) := by decide +kernel
theorem d16_11 : decode prog_18_method_7_code 11 = .ok (.aload_n 0, 1) := by decide +kernel
theorem d16_12 : decode prog_18_method_7_code 12 = .ok (.getfield 43, 3) := by decide +kernel
theorem d16_15 : decode prog_18_method_7_code 15 = .ok (.aload_n 0, 1) := by decide +kernel
theorem d16_16 : decode prog_18_method_7_code 16 = .ok (.getfield 34, 3) := by decide +kernel
theorem d16_19 : decode prog_18_method_7_code 19 = .ok (.invokestatic 54, 3) := by decide +kernel
theorem d16_22 : decode prog_18_method_7_code 22 = .ok (.areturn, 1) := by decide +kernel
theorem d17_0 : decode jdk_17_method_29_code 0 = .ok (.aload_n 0, 1) := by decide +kernel
theorem d17_1 : decode jdk_17_method_29_code 1 = .ok (.getfield 24, 3) := by decide +kernel
theorem d17_4 : decode jdk_17_method_29_code 4 = .ok (.ldc2_w 125, 3) := by decide +kernel
theorem d17_7 : decode jdk_17_method_29_code 7 = .ok (.lcmp, 1) := by decide +kernel
theorem d17_8 : decode jdk_17_method_29_code 8 = .ok (.ifCond .eq 58, 3) := by decide +kernel
theorem d17_11 : decode jdk_17_method_29_code 11 = .ok (.aload_n 1, 1) := by decide +kernel
theorem d17_12 : decode jdk_17_method_29_code 12 = .ok (.getfield 24, 3) := by decide +kernel
theorem d17_15 : decode jdk_17_method_29_code 15 = .ok (.ldc2_w 125, 3) := by decide +kernel
theorem d17_18 : decode jdk_17_method_29_code 18 = .ok (.lcmp, 1) := by decide +kernel
theorem d17_19 : decode jdk_17_method_29_code 19 = .ok (.ifCond .eq 24, 3) := by decide +kernel
theorem d17_22 : decode jdk_17_method_29_code 22 = .ok (.aload_n 0, 1) := by decide +kernel
theorem d17_23 : decode jdk_17_method_29_code 23 = .ok (.getfield 24, 3) := by decide +kernel
theorem d17_26 : decode jdk_17_method_29_code 26 = .ok (.aload_n 0, 1) := by decide +kernel
theorem d17_27 : decode jdk_17_method_29_code 27 = .ok (.getfield 17, 3) := by decide +kernel
theorem d17_30 : decode jdk_17_method_29_code 30 = .ok (.aload_n 1, 1) := by decide +kernel
theorem d17_31 : decode jdk_17_method_29_code 31 = .ok (.getfield 24, 3) := by decide +kernel
theorem d17_34 : decode jdk_17_method_29_code 34 = .ok (.lneg, 1) := by decide +kernel
theorem d17_35 : decode jdk_17_method_29_code 35 = .ok (.aload_n 1, 1) := by decide +kernel
theorem d17_36 : decode jdk_17_method_29_code 36 = .ok (.getfield 17, 3) := by decide +kernel
theorem d17_39 : decode jdk_17_method_29_code 39 = .ok (.invokestatic 257, 3) := by decide +kernel
theorem d17_42 : decode jdk_17_method_29_code 42 = .ok (.areturn, 1) := by decide +kernel
theorem d18_0 : decode jdk_17_method_134_code 0 = .ok (.iload_n 2, 1) := by decide +kernel
theorem d18_1 : decode jdk_17_method_134_code 1 = .ok (.i2l, 1) := by decide +kernel
theorem d18_2 : decode jdk_17_method_134_code 2 = .ok (.iload 5, 2) := by decide +kernel
theorem d18_4 : decode jdk_17_method_134_code 4 = .ok (.i2l, 1) := by decide +kernel
theorem d18_5 : decode jdk_17_method_134_code 5 = .ok (.lsub, 1) := by decide +kernel
theorem d18_6 : decode jdk_17_method_134_code 6 = .ok (.lstore 6, 2) := by decide +kernel
theorem d18_8 : decode jdk_17_method_134_code 8 = .ok (.lload 6, 2) := by decide +kernel
theorem d18_10 : decode jdk_17_method_134_code 10 = .ok (.lconst 0, 1) := by decide +kernel
theorem d18_11 : decode jdk_17_method_134_code 11 = .ok (.lcmp, 1) := by decide +kernel
theorem d18_12 : decode jdk_17_method_134_code 12 = .ok (.ifCond .ne 10, 3) := by decide +kernel
theorem d18_15 : decode jdk_17_method_134_code 15 = .ok (.lload_n 0, 1) := by decide +kernel
theorem d18_16 : decode jdk_17_method_134_code 16 = .ok (.lload_n 3, 1) := by decide +kernel
theorem d18_17 : decode jdk_17_method_134_code 17 = .ok (.iload_n 2, 1) := by decide +kernel
theorem d18_18 : decode jdk_17_method_134_code 18 = .ok (.invokestatic 1000, 3) := by decide +kernel
theorem d18_21 : decode jdk_17_method_134_code 21 = .ok (.areturn, 1) := by decide +kernel
theorem d19_0 : decode jdk_17_method_133_code 0 = .ok (.lload_n 0, 1) := by decide +kernel
theorem d19_1 : decode jdk_17_method_133_code 1 = .ok (.lload_n 2, 1) := by decide +kernel
theorem d19_2 : decode jdk_17_method_133_code 2 = .ok (.invokestatic 996, 3) := by decide +kernel
theorem d19_5 : decode jdk_17_method_133_code 5 = .ok (.lstore 5, 2) := by decide +kernel
theorem d19_7 : decode jdk_17_method_133_code 7 = .ok (.lload 5, 2) := by decide +kernel
theorem d19_9 : decode jdk_17_method_133_code 9 = .ok (.ldc2_w 125, 3) := by decide +kernel
theorem d19_12 : decode jdk_17_method_133_code 12 = .ok (.lcmp, 1) := by decide +kernel
theorem d19_13 : decode jdk_17_method_133_code 13 = .ok (.ifCond .eq 11, 3) := by decide +kernel
theorem d19_16 : decode jdk_17_method_133_code 16 = .ok (.lload 5, 2) := by decide +kernel
theorem d19_18 : decode jdk_17_method_133_code 18 = .ok (.iload 4, 2) := by decide +kernel
theorem d19_20 : decode jdk_17_method_133_code 20 = .ok (.invokestatic 328, 3) := by decide +kernel
theorem d19_23 : decode jdk_17_method_133_code 23 = .ok (.areturn, 1) := by decide +kernel
theorem d20_0 : decode jdk_17_method_132_code 0 = .ok (.lload_n 0, 1) := by decide +kernel
theorem d20_1 : decode jdk_17_method_132_code 1 = .ok (.lload_n 2, 1) := by decide +kernel
theorem d20_2 : decode jdk_17_method_132_code 2 = .ok (.ladd, 1) := by decide +kernel
theorem d20_3 : decode jdk_17_method_132_code 3 = .ok (.lstore 4, 2) := by decide +kernel
theorem d20_5 : decode jdk_17_method_132_code 5 = .ok (.lload 4, 2) := by decide +kernel
theorem d20_7 : decode jdk_17_method_132_code 7 = .ok (.lload_n 0, 1) := by decide +kernel
theorem d20_8 : decode jdk_17_method_132_code 8 = .ok (.lxor, 1) := by decide +kernel
theorem d20_9 : decode jdk_17_method_132_code 9 = .ok (.lload 4, 2) := by decide +kernel
theorem d20_11 : decode jdk_17_method_132_code 11 = .ok (.lload_n 2, 1) := by decide +kernel
theorem d20_12 : decode jdk_17_method_132_code 12 = .ok (.lxor, 1) := by decide +kernel
theorem d20_13 : decode jdk_17_method_132_code 13 = .ok (.land, 1) := by decide +kernel
theorem d20_14 : decode jdk_17_method_132_code 14 = .ok (.lconst 0, 1) := by decide +kernel
theorem d20_15 : decode jdk_17_method_132_code 15 = .ok (.lcmp, 1) := by decide +kernel
theorem d20_16 : decode jdk_17_method_132_code 16 = .ok (.ifCond .lt 6, 3) := by decide +kernel
theorem d20_19 : decode jdk_17_method_132_code 19 = .ok (.lload 4, 2) := by decide +kernel
theorem d20_21 : decode jdk_17_method_132_code 21 = .ok (.lreturn, 1) := by decide +kernel
theorem d21_0 : decode jdk_17_method_20_code 0 = .ok (.iload_n 2, 1) := by decide +kernel
theorem d21_1 : decode jdk_17_method_20_code 1 = .ok (.ifCond .ne 8, 3) := by decide +kernel
theorem d21_4 : decode jdk_17_method_20_code 4 = .ok (.lload_n 0, 1) := by decide +kernel
theorem d21_5 : decode jdk_17_method_20_code 5 = .ok (.invokestatic 236, 3) := by decide +kernel
theorem d21_8 : decode jdk_17_method_20_code 8 = .ok (.areturn, 1) := by decide +kernel
theorem d22_0 : decode jdk_17_method_21_code 0 = .ok (.lload_n 0, 1) := by decide +kernel
theorem d22_1 : decode jdk_17_method_21_code 1 = .ok (.lconst 0, 1) := by decide +kernel
theorem d22_2 : decode jdk_17_method_21_code 2 = .ok (.lcmp, 1) := by decide +kernel
theorem d22_3 : decode jdk_17_method_21_code 3 = .ok (.ifCond .lt 20, 3) := by decide +kernel
theorem d22_6 : decode jdk_17_method_21_code 6 = .ok (.lload_n 0, 1) := by decide +kernel
theorem d22_7 : decode jdk_17_method_21_code 7 = .ok (.getstatic 246, 3) := by decide +kernel
theorem d22_10 : decode jdk_17_method_21_code 10 = .ok (.arraylength, 1) := by decide +kernel
theorem d22_11 : decode jdk_17_method_21_code 11 = .ok (.i2l, 1) := by decide +kernel
theorem d22_12 : decode jdk_17_method_21_code 12 = .ok (.lcmp, 1) := by decide +kernel
theorem d22_13 : decode jdk_17_method_21_code 13 = .ok (.ifCond .ge 10, 3) := by decide +kernel
theorem d22_16 : decode jdk_17_method_21_code 16 = .ok (.getstatic 246, 3) := by decide +kernel
theorem d22_19 : decode jdk_17_method_21_code 19 = .ok (.lload_n 0, 1) := by decide +kernel
theorem d22_20 : decode jdk_17_method_21_code 20 = .ok (.l2i, 1) := by decide +kernel
theorem d22_21 : decode jdk_17_method_21_code 21 = .ok (.aaload, 1) := by decide +kernel
theorem d22_22 : decode jdk_17_method_21_code 22 = .ok (.areturn, 1) := by decide +kernel
theorem pdo_0 : parseMethodDescriptor "()V" = some ⟨[], none⟩ := by decide +kernel
theorem pdo_1 : parseMethodDescriptor "(Ljava/lang/Object;Ljava/lang/String;)Ljava/lang/Object;" = some ⟨[(.object "java/lang/Object"), (.object "java/lang/String")], some (.object "java/lang/Object")⟩ := by decide +kernel
theorem pdo_2 : parseMethodDescriptor "(Ljava/math/BigDecimal;Ljava/math/BigDecimal;Ljava/math/BigDecimal;Ljava/math/BigDecimal;Ljava/math/BigDecimal;Ljava/math/BigDecimal;)V" = some ⟨[(.object "java/math/BigDecimal"), (.object "java/math/BigDecimal"), (.object "java/math/BigDecimal"), (.object "java/math/BigDecimal"), (.object "java/math/BigDecimal"), (.object "java/math/BigDecimal")], none⟩ := by decide +kernel
theorem pdo_3 : parseMethodDescriptor "(J)I" = some ⟨[.long], some .int⟩ := by decide +kernel
theorem pdo_4 : parseMethodDescriptor "()I" = some ⟨[], some .int⟩ := by decide +kernel
theorem pdo_5 : parseMethodDescriptor "(Ljava/math/BigDecimal;Ljava/math/BigDecimal;)Ljava/math/BigDecimal;" = some ⟨[(.object "java/math/BigDecimal"), (.object "java/math/BigDecimal")], some (.object "java/math/BigDecimal")⟩ := by decide +kernel
theorem pdo_6 : parseMethodDescriptor "(J)Ljava/math/BigDecimal;" = some ⟨[.long], some (.object "java/math/BigDecimal")⟩ := by decide +kernel
theorem pdo_7 : parseMethodDescriptor "(JJ)J" = some ⟨[.long, .long], some .long⟩ := by decide +kernel
theorem pdo_8 : parseMethodDescriptor "(JI)Ljava/math/BigDecimal;" = some ⟨[.long, .int], some (.object "java/math/BigDecimal")⟩ := by decide +kernel
theorem pdo_9 : parseMethodDescriptor "(JJI)Ljava/math/BigDecimal;" = some ⟨[.long, .long, .int], some (.object "java/math/BigDecimal")⟩ := by decide +kernel
theorem pdo_10 : parseMethodDescriptor "(JIJI)Ljava/math/BigDecimal;" = some ⟨[.long, .int, .long, .int], some (.object "java/math/BigDecimal")⟩ := by decide +kernel
theorem pdo_11 : parseMethodDescriptor "(Ljava/math/BigDecimal;)Ljava/math/BigDecimal;" = some ⟨[(.object "java/math/BigDecimal")], some (.object "java/math/BigDecimal")⟩ := by decide +kernel
theorem pdo_12 : parseMethodDescriptor "(Z)Lcom/example/roomyield/roomyield/RoomStatistics;" = some ⟨[.boolean], some (.object "com/example/roomyield/roomyield/RoomStatistics")⟩ := by decide +kernel
theorem pdo_13 : parseMethodDescriptor "()Ljava/math/BigDecimal;" = some ⟨[], some (.object "java/math/BigDecimal")⟩ := by decide +kernel
theorem wSo {Z : State} {a0 : Array Value} (hw : ∀ d ∈ tables_1, d.before a0 Z = true) : ∀ a ∈ Bundle.stringAtoms, a.before a0 Z = true := by
  intro a ha
  simp only [Bundle.stringAtoms, List.mem_cons, List.not_mem_nil, or_false] at ha
  rcases ha with rfl | rfl | rfl | rfl | rfl | rfl | rfl
  · exact (tw20 hw)
  · exact (tw21 hw)
  · exact (tw22 hw)
  · exact (tw23 hw)
  · exact (tw24 hw)
  · exact (tw25 hw)
  · exact (tw26 hw)
theorem pno_3 : plainFor (⟨"java/lang/Record", "<init>", "()V"⟩ : MethodName) = true := by first | exact plainFor_of_name (by first | (simp [plainName, overriddenIn]; done) | decide +kernel) | decide +kernel
theorem efo_3 (m : MethodId) (x0 : Addr) : entryFrame m #[.ref x0] 1 = oF m 0 [.val (.ref x0)] [] := by first | (simp [entryFrame, oF, mkF, argsToLocals, Value.category]; done) | rfl
set_option maxRecDepth 65536 in
set_option maxHeartbeats 40000000 in
theorem m3 (l : Launch) (Z : State) (a0 : Array Value) (hw : ∀ d ∈ tables_1, d.before a0 Z = true) (a : Addr) (h0 : Heap) :
    oMeets l Z (⟨"java/lang/Record", "<init>", "()V"⟩ : MethodName) jdk_30_method_1_code 1 none ({ frames := 1, cells := 0, slots := 0, locals := 12 } : Room) #[.ref a] h0 (fun a => h0.size ≤ a) (fun v h => v = none ∧ h = h0) := by
  refine oMeets.of pno_3 (fun _ q => q) (fun E _ q => Nat.le_trans E.1 q) (Ls := [.val (.ref a)]) (fun m => efo_3 m a) ?_
  intro p e s m below meth c C hs
  refine K_aloadN C (pc := 0) d3_0 rfl rfl ?_
  refine K_initO C (pc := 1) (tw16 hw) (tw17 hw) (tw18 hw) d3_1 rfl (by decide) (Nat.le_of_ble_eq_true rfl) ?_
  refine K_return C (pc := 4) d3_4 (by decide) (by decide) (fun _ _ => ⟨rfl, rfl⟩)
theorem pno_5 : plainFor (⟨"java/util/Objects", "requireNonNull", "(Ljava/lang/Object;Ljava/lang/String;)Ljava/lang/Object;"⟩ : MethodName) = true := by first | exact plainFor_of_name (by first | (simp [plainName, overriddenIn]; done) | decide +kernel) | decide +kernel
theorem efo_5 (m : MethodId) (x0 : Addr) (x1 : Addr) : entryFrame m #[.ref x0, .ref x1] 2 = oF m 0 [.val (.ref x0), .val (.ref x1)] [] := by first | (simp [entryFrame, oF, mkF, argsToLocals, Value.category]; done) | rfl
set_option maxRecDepth 65536 in
set_option maxHeartbeats 40000000 in
theorem m5 (l : Launch) (Z : State) (a0 : Array Value) (hw : ∀ d ∈ tables_1, d.before a0 Z = true) (a b : Addr) (h0 : Heap) :
    oMeets l Z (⟨"java/util/Objects", "requireNonNull", "(Ljava/lang/Object;Ljava/lang/String;)Ljava/lang/Object;"⟩ : MethodName) jdk_31_method_11_code 2 (some (.object "java/lang/Object")) ({ frames := 0, cells := 0, slots := 0, locals := 0 } : Room) #[.ref a, .ref b] h0 (fun a => h0.size ≤ a) (fun v h => v = some (.ref a) ∧ h = h0) := by
  refine oMeets.of pno_5 (fun _ q => q) (fun E _ q => Nat.le_trans E.1 q) (Ls := [.val (.ref a), .val (.ref b)]) (fun m => efo_5 m a b) ?_
  intro p e s m below meth c C hs
  refine K_aloadN C (pc := 0) d5_0 rfl rfl ?_
  refine K_ifnonnull_ref C (pc := 1) 13 d5_1 (by decide) (by decide) ?_
  refine K_aloadN C (pc := 13) d5_13 rfl rfl ?_
  refine K_areturn C (pc := 14) d5_14 rfl rfl rfl (by decide) (by decide) (fun _ _ => ⟨rfl, rfl⟩)
theorem pno_2 : plainFor (⟨"com/example/roomyield/roomyield/RoomStatistics", "<init>", "(Ljava/math/BigDecimal;Ljava/math/BigDecimal;Ljava/math/BigDecimal;Ljava/math/BigDecimal;Ljava/math/BigDecimal;Ljava/math/BigDecimal;)V"⟩ : MethodName) = true := by first | exact plainFor_of_name (by first | (simp [plainName, overriddenIn]; done) | decide +kernel) | decide +kernel
theorem efo_2 (m : MethodId) (x0 : Addr) (x1 : Addr) (x2 : Addr) (x3 : Addr) (x4 : Addr) (x5 : Addr) (x6 : Addr) : entryFrame m #[.ref x0, .ref x1, .ref x2, .ref x3, .ref x4, .ref x5, .ref x6] 7 = oF m 0 [.val (.ref x0), .val (.ref x1), .val (.ref x2), .val (.ref x3), .val (.ref x4), .val (.ref x5), .val (.ref x6)] [] := by first | (simp [entryFrame, oF, mkF, argsToLocals, Value.category]; done) | rfl
theorem efo_2nn (m : MethodId) (x0 : Addr) (x1 : Addr) (x2 : Addr) (x3 : Addr) (x4 : Addr) : entryFrame m #[.ref x0, .ref x1, .ref x2, .ref x3, .ref x4, .null, .null] 7 = oF m 0 [.val (.ref x0), .val (.ref x1), .val (.ref x2), .val (.ref x3), .val (.ref x4), .val .null, .val .null] [] := by first | (simp [entryFrame, oF, mkF, argsToLocals, Value.category]; done) | rfl
set_option maxRecDepth 65536 in
set_option maxHeartbeats 40000000 in
theorem m2 (l : Launch) (Z : State) (a0 : Array Value) (hw : ∀ d ∈ tables_1, d.before a0 Z = true) (a r1 r2 r3 r4 r5 r6 : Addr) (h0 : Heap) (hya : Z.heap.size ≤ a) (X : Exa Z h0 a "com/example/roomyield/roomyield/RoomStatistics") (F_roomsAvailable : Fld Z h0 a "com/example/roomyield/roomyield/RoomStatistics" "roomsAvailable" "Ljava/math/BigDecimal;" .null) (F_roomsSold : Fld Z h0 a "com/example/roomyield/roomyield/RoomStatistics" "roomsSold" "Ljava/math/BigDecimal;" .null) (F_complimentary : Fld Z h0 a "com/example/roomyield/roomyield/RoomStatistics" "complimentary" "Ljava/math/BigDecimal;" .null) (F_roomRevenue : Fld Z h0 a "com/example/roomyield/roomyield/RoomStatistics" "roomRevenue" "Ljava/math/BigDecimal;" .null) (F_guests : Fld Z h0 a "com/example/roomyield/roomyield/RoomStatistics" "guests" "Ljava/math/BigDecimal;" .null) (F_multipleOccupied : Fld Z h0 a "com/example/roomyield/roomyield/RoomStatistics" "multipleOccupied" "Ljava/math/BigDecimal;" .null) :
    oMeetsW l Z (⟨"com/example/roomyield/roomyield/RoomStatistics", "<init>", "(Ljava/math/BigDecimal;Ljava/math/BigDecimal;Ljava/math/BigDecimal;Ljava/math/BigDecimal;Ljava/math/BigDecimal;Ljava/math/BigDecimal;)V"⟩ : MethodName) prog_18_method_1_code 7 none ({ frames := 2, cells := 8, slots := 204, locals := 40 } : Room) #[.ref a, .ref r1, .ref r2, .ref r3, .ref r4, .ref r5, .ref r6] h0 (fun x => x = a ∨ h0.size ≤ x) oT (fun v h _ => v = none ∧ Exa Z h a "com/example/roomyield/roomyield/RoomStatistics" ∧ Fld Z h a "com/example/roomyield/roomyield/RoomStatistics" "roomsAvailable" "Ljava/math/BigDecimal;" (.ref r1) ∧ Fld Z h a "com/example/roomyield/roomyield/RoomStatistics" "roomsSold" "Ljava/math/BigDecimal;" (.ref r2) ∧ Fld Z h a "com/example/roomyield/roomyield/RoomStatistics" "complimentary" "Ljava/math/BigDecimal;" (.ref r3) ∧ Fld Z h a "com/example/roomyield/roomyield/RoomStatistics" "roomRevenue" "Ljava/math/BigDecimal;" (.ref r4) ∧ Fld Z h a "com/example/roomyield/roomyield/RoomStatistics" "guests" "Ljava/math/BigDecimal;" (.ref r5) ∧ Fld Z h a "com/example/roomyield/roomyield/RoomStatistics" "multipleOccupied" "Ljava/math/BigDecimal;" (.ref r6)) := by
  refine oMeetsW.of pno_2 (fun _ q => Or.inr q) (fun E x q => q.elim (fun r => r ▸ hya) (fun r => Nat.le_trans E.1 r)) (Ls := [.val (.ref a), .val (.ref r1), .val (.ref r2), .val (.ref r3), .val (.ref r4), .val (.ref r5), .val (.ref r6)]) (fun m => efo_2 m a r1 r2 r3 r4 r5 r6) oTs ?_
  intro p e s m below meth c C hs
  refine K_aloadN C (pc := 0) d2_0 rfl rfl ?_
  refine K_special C (pc := 1) (m3 l Z a0 hw a _) (tw11 hw) (tw12 hw) (tw14 hw) (tw15 hw) rfl (by decide) pdo_0 d2_1 (argsL := []) (rest := _) rfl rfl rfl rfl (fun a q r => C.new a (Nat.le_trans q r)) (by decide) (Nat.le_of_ble_eq_true rfl) (by decide) (by decide) ?_
  rintro _ h1 ⟨rfl, rfl⟩ -
  dsimp only [Option.toList, List.cons_append, List.nil_append]
  refine K_aloadN C (pc := 4) d2_4 rfl rfl ?_
  refine K_ldcS C (pc := 5) (tw19 hw) (wSo hw) d2_5 (nn := 56) (by decide) (by decide) (by decide) (by decide) ?_
  intro s5 g5 E5
  refine K_static C (pc := 7) (m5 l Z a0 hw r1 _ _) (tw27 hw) (tw28 hw) (tw29 hw) (tw30 hw) (by decide) pdo_1 d2_7 (argsL := [_, _]) (rest := _) rfl rfl rfl rfl (fun a q r => C.new a (Nat.le_trans q r)) (by decide) (Nat.le_of_ble_eq_true rfl) (by decide) (by decide) ?_
  rintro _ h1 ⟨rfl, rfl⟩ -
  dsimp only [Option.toList, List.cons_append, List.nil_append]
  refine K_pop C (pc := 10) d2_10 rfl ?_
  refine K_aloadN C (pc := 11) d2_11 rfl rfl ?_
  refine K_ldcS C (pc := 12) (tw31 hw) (wSo hw) d2_12 (nn := 36) (by decide) (by decide) (by decide) (by decide) ?_
  intro s12 g12 E12
  refine K_static C (pc := 14) (m5 l Z a0 hw r2 _ _) (tw27 hw) (tw28 hw) (tw29 hw) (tw30 hw) (by decide) pdo_1 d2_14 (argsL := [_, _]) (rest := _) rfl rfl rfl rfl (fun a q r => C.new a (Nat.le_trans q r)) (by decide) (Nat.le_of_ble_eq_true rfl) (by decide) (by decide) ?_
  rintro _ h1 ⟨rfl, rfl⟩ -
  dsimp only [Option.toList, List.cons_append, List.nil_append]
  refine K_pop C (pc := 17) d2_17 rfl ?_
  refine K_aloadN C (pc := 18) d2_18 rfl rfl ?_
  refine K_ldcS C (pc := 19) (tw32 hw) (wSo hw) d2_19 (nn := 52) (by decide) (by decide) (by decide) (by decide) ?_
  intro s19 g19 E19
  refine K_static C (pc := 21) (m5 l Z a0 hw r3 _ _) (tw27 hw) (tw28 hw) (tw29 hw) (tw30 hw) (by decide) pdo_1 d2_21 (argsL := [_, _]) (rest := _) rfl rfl rfl rfl (fun a q r => C.new a (Nat.le_trans q r)) (by decide) (Nat.le_of_ble_eq_true rfl) (by decide) (by decide) ?_
  rintro _ h1 ⟨rfl, rfl⟩ -
  dsimp only [Option.toList, List.cons_append, List.nil_append]
  refine K_pop C (pc := 24) d2_24 rfl ?_
  refine K_aload C (pc := 25) d2_25 rfl rfl ?_
  refine K_ldcS C (pc := 27) (tw33 hw) (wSo hw) d2_27 (nn := 44) (by decide) (by decide) (by decide) (by decide) ?_
  intro s27 g27 E27
  refine K_static C (pc := 29) (m5 l Z a0 hw r4 _ _) (tw27 hw) (tw28 hw) (tw29 hw) (tw30 hw) (by decide) pdo_1 d2_29 (argsL := [_, _]) (rest := _) rfl rfl rfl rfl (fun a q r => C.new a (Nat.le_trans q r)) (by decide) (Nat.le_of_ble_eq_true rfl) (by decide) (by decide) ?_
  rintro _ h1 ⟨rfl, rfl⟩ -
  dsimp only [Option.toList, List.cons_append, List.nil_append]
  refine K_pop C (pc := 32) d2_32 rfl ?_
  refine K_aloadN C (pc := 33) d2_33 rfl rfl ?_
  refine K_aloadN C (pc := 34) d2_34 rfl rfl ?_
  have EE := oExt.tr (oExt.tr (oExt.tr E5 E12) E19) E27
  have X' := X.ext EE
  have FroomsAvailable' := F_roomsAvailable.ext EE
  have FroomsSold' := F_roomsSold.ext EE
  have Fcomplimentary' := F_complimentary.ext EE
  have FroomRevenue' := F_roomRevenue.ext EE
  have Fguests' := F_guests.ext EE
  have FmultipleOccupied' := F_multipleOccupied.ext EE
  refine K_putF C (pc := 35) (tw34 hw) Via.refl FroomsAvailable' X' (Or.inr ⟨(tw35 hw), rfl, rfl⟩) (tw5 hw) (ty := (.object "java/math/BigDecimal")) (by decide) rfl rfl (Or.inl rfl) d2_35 ?_
  intro k0 W0
  have FroomsAvailable_0 := Fld.same W0 FroomsAvailable'
  have FroomsSold_0 := (Fld.other W0 FroomsSold' (Or.inr (slot_ne (Or.inr (tw37 hw)) (Or.inr (tw35 hw)) (by decide) (t := (.object "java/math/BigDecimal")) (t' := (.object "java/math/BigDecimal")) (by decide) (by decide))))
  have Fcomplimentary_0 := (Fld.other W0 Fcomplimentary' (Or.inr (slot_ne (Or.inr (tw39 hw)) (Or.inr (tw35 hw)) (by decide) (t := (.object "java/math/BigDecimal")) (t' := (.object "java/math/BigDecimal")) (by decide) (by decide))))
  have FroomRevenue_0 := (Fld.other W0 FroomRevenue' (Or.inr (slot_ne (Or.inr (tw41 hw)) (Or.inr (tw35 hw)) (by decide) (t := (.object "java/math/BigDecimal")) (t' := (.object "java/math/BigDecimal")) (by decide) (by decide))))
  have Fguests_0 := (Fld.other W0 Fguests' (Or.inr (slot_ne (Or.inr (tw43 hw)) (Or.inr (tw35 hw)) (by decide) (t := (.object "java/math/BigDecimal")) (t' := (.object "java/math/BigDecimal")) (by decide) (by decide))))
  have FmultipleOccupied_0 := (Fld.other W0 FmultipleOccupied' (Or.inr (slot_ne (Or.inr (tw45 hw)) (Or.inr (tw35 hw)) (by decide) (t := (.object "java/math/BigDecimal")) (t' := (.object "java/math/BigDecimal")) (by decide) (by decide))))
  have X_0 := X'.wr W0
  refine K_aloadN C (pc := 38) d2_38 rfl rfl ?_
  refine K_aloadN C (pc := 39) d2_39 rfl rfl ?_
  refine K_putF C (pc := 40) (tw36 hw) Via.refl FroomsSold_0 X_0 (Or.inr ⟨(tw37 hw), rfl, rfl⟩) (tw5 hw) (ty := (.object "java/math/BigDecimal")) (by decide) rfl rfl (Or.inl rfl) d2_40 ?_
  intro k1 W1
  have FroomsAvailable_1 := (Fld.other W1 FroomsAvailable_0 (Or.inr (slot_ne (Or.inr (tw35 hw)) (Or.inr (tw37 hw)) (by decide) (t := (.object "java/math/BigDecimal")) (t' := (.object "java/math/BigDecimal")) (by decide) (by decide))))
  have FroomsSold_1 := Fld.same W1 FroomsSold_0
  have Fcomplimentary_1 := (Fld.other W1 Fcomplimentary_0 (Or.inr (slot_ne (Or.inr (tw39 hw)) (Or.inr (tw37 hw)) (by decide) (t := (.object "java/math/BigDecimal")) (t' := (.object "java/math/BigDecimal")) (by decide) (by decide))))
  have FroomRevenue_1 := (Fld.other W1 FroomRevenue_0 (Or.inr (slot_ne (Or.inr (tw41 hw)) (Or.inr (tw37 hw)) (by decide) (t := (.object "java/math/BigDecimal")) (t' := (.object "java/math/BigDecimal")) (by decide) (by decide))))
  have Fguests_1 := (Fld.other W1 Fguests_0 (Or.inr (slot_ne (Or.inr (tw43 hw)) (Or.inr (tw37 hw)) (by decide) (t := (.object "java/math/BigDecimal")) (t' := (.object "java/math/BigDecimal")) (by decide) (by decide))))
  have FmultipleOccupied_1 := (Fld.other W1 FmultipleOccupied_0 (Or.inr (slot_ne (Or.inr (tw45 hw)) (Or.inr (tw37 hw)) (by decide) (t := (.object "java/math/BigDecimal")) (t' := (.object "java/math/BigDecimal")) (by decide) (by decide))))
  have X_1 := X_0.wr W1
  refine K_aloadN C (pc := 43) d2_43 rfl rfl ?_
  refine K_aloadN C (pc := 44) d2_44 rfl rfl ?_
  refine K_putF C (pc := 45) (tw38 hw) Via.refl Fcomplimentary_1 X_1 (Or.inr ⟨(tw39 hw), rfl, rfl⟩) (tw5 hw) (ty := (.object "java/math/BigDecimal")) (by decide) rfl rfl (Or.inl rfl) d2_45 ?_
  intro k2 W2
  have FroomsAvailable_2 := (Fld.other W2 FroomsAvailable_1 (Or.inr (slot_ne (Or.inr (tw35 hw)) (Or.inr (tw39 hw)) (by decide) (t := (.object "java/math/BigDecimal")) (t' := (.object "java/math/BigDecimal")) (by decide) (by decide))))
  have FroomsSold_2 := (Fld.other W2 FroomsSold_1 (Or.inr (slot_ne (Or.inr (tw37 hw)) (Or.inr (tw39 hw)) (by decide) (t := (.object "java/math/BigDecimal")) (t' := (.object "java/math/BigDecimal")) (by decide) (by decide))))
  have Fcomplimentary_2 := Fld.same W2 Fcomplimentary_1
  have FroomRevenue_2 := (Fld.other W2 FroomRevenue_1 (Or.inr (slot_ne (Or.inr (tw41 hw)) (Or.inr (tw39 hw)) (by decide) (t := (.object "java/math/BigDecimal")) (t' := (.object "java/math/BigDecimal")) (by decide) (by decide))))
  have Fguests_2 := (Fld.other W2 Fguests_1 (Or.inr (slot_ne (Or.inr (tw43 hw)) (Or.inr (tw39 hw)) (by decide) (t := (.object "java/math/BigDecimal")) (t' := (.object "java/math/BigDecimal")) (by decide) (by decide))))
  have FmultipleOccupied_2 := (Fld.other W2 FmultipleOccupied_1 (Or.inr (slot_ne (Or.inr (tw45 hw)) (Or.inr (tw39 hw)) (by decide) (t := (.object "java/math/BigDecimal")) (t' := (.object "java/math/BigDecimal")) (by decide) (by decide))))
  have X_2 := X_1.wr W2
  refine K_aloadN C (pc := 48) d2_48 rfl rfl ?_
  refine K_aload C (pc := 49) d2_49 rfl rfl ?_
  refine K_putF C (pc := 51) (tw40 hw) Via.refl FroomRevenue_2 X_2 (Or.inr ⟨(tw41 hw), rfl, rfl⟩) (tw5 hw) (ty := (.object "java/math/BigDecimal")) (by decide) rfl rfl (Or.inl rfl) d2_51 ?_
  intro k3 W3
  have FroomsAvailable_3 := (Fld.other W3 FroomsAvailable_2 (Or.inr (slot_ne (Or.inr (tw35 hw)) (Or.inr (tw41 hw)) (by decide) (t := (.object "java/math/BigDecimal")) (t' := (.object "java/math/BigDecimal")) (by decide) (by decide))))
  have FroomsSold_3 := (Fld.other W3 FroomsSold_2 (Or.inr (slot_ne (Or.inr (tw37 hw)) (Or.inr (tw41 hw)) (by decide) (t := (.object "java/math/BigDecimal")) (t' := (.object "java/math/BigDecimal")) (by decide) (by decide))))
  have Fcomplimentary_3 := (Fld.other W3 Fcomplimentary_2 (Or.inr (slot_ne (Or.inr (tw39 hw)) (Or.inr (tw41 hw)) (by decide) (t := (.object "java/math/BigDecimal")) (t' := (.object "java/math/BigDecimal")) (by decide) (by decide))))
  have FroomRevenue_3 := Fld.same W3 FroomRevenue_2
  have Fguests_3 := (Fld.other W3 Fguests_2 (Or.inr (slot_ne (Or.inr (tw43 hw)) (Or.inr (tw41 hw)) (by decide) (t := (.object "java/math/BigDecimal")) (t' := (.object "java/math/BigDecimal")) (by decide) (by decide))))
  have FmultipleOccupied_3 := (Fld.other W3 FmultipleOccupied_2 (Or.inr (slot_ne (Or.inr (tw45 hw)) (Or.inr (tw41 hw)) (by decide) (t := (.object "java/math/BigDecimal")) (t' := (.object "java/math/BigDecimal")) (by decide) (by decide))))
  have X_3 := X_2.wr W3
  refine K_aloadN C (pc := 54) d2_54 rfl rfl ?_
  refine K_aload C (pc := 55) d2_55 rfl rfl ?_
  refine K_putF C (pc := 57) (tw42 hw) Via.refl Fguests_3 X_3 (Or.inr ⟨(tw43 hw), rfl, rfl⟩) (tw5 hw) (ty := (.object "java/math/BigDecimal")) (by decide) rfl rfl (Or.inl rfl) d2_57 ?_
  intro k4 W4
  have FroomsAvailable_4 := (Fld.other W4 FroomsAvailable_3 (Or.inr (slot_ne (Or.inr (tw35 hw)) (Or.inr (tw43 hw)) (by decide) (t := (.object "java/math/BigDecimal")) (t' := (.object "java/math/BigDecimal")) (by decide) (by decide))))
  have FroomsSold_4 := (Fld.other W4 FroomsSold_3 (Or.inr (slot_ne (Or.inr (tw37 hw)) (Or.inr (tw43 hw)) (by decide) (t := (.object "java/math/BigDecimal")) (t' := (.object "java/math/BigDecimal")) (by decide) (by decide))))
  have Fcomplimentary_4 := (Fld.other W4 Fcomplimentary_3 (Or.inr (slot_ne (Or.inr (tw39 hw)) (Or.inr (tw43 hw)) (by decide) (t := (.object "java/math/BigDecimal")) (t' := (.object "java/math/BigDecimal")) (by decide) (by decide))))
  have FroomRevenue_4 := (Fld.other W4 FroomRevenue_3 (Or.inr (slot_ne (Or.inr (tw41 hw)) (Or.inr (tw43 hw)) (by decide) (t := (.object "java/math/BigDecimal")) (t' := (.object "java/math/BigDecimal")) (by decide) (by decide))))
  have Fguests_4 := Fld.same W4 Fguests_3
  have FmultipleOccupied_4 := (Fld.other W4 FmultipleOccupied_3 (Or.inr (slot_ne (Or.inr (tw45 hw)) (Or.inr (tw43 hw)) (by decide) (t := (.object "java/math/BigDecimal")) (t' := (.object "java/math/BigDecimal")) (by decide) (by decide))))
  have X_4 := X_3.wr W4
  refine K_aloadN C (pc := 60) d2_60 rfl rfl ?_
  refine K_aload C (pc := 61) d2_61 rfl rfl ?_
  refine K_putF C (pc := 63) (tw44 hw) Via.refl FmultipleOccupied_4 X_4 (Or.inr ⟨(tw45 hw), rfl, rfl⟩) (tw5 hw) (ty := (.object "java/math/BigDecimal")) (by decide) rfl rfl (Or.inl rfl) d2_63 ?_
  intro k5 W5
  have FroomsAvailable_5 := (Fld.other W5 FroomsAvailable_4 (Or.inr (slot_ne (Or.inr (tw35 hw)) (Or.inr (tw45 hw)) (by decide) (t := (.object "java/math/BigDecimal")) (t' := (.object "java/math/BigDecimal")) (by decide) (by decide))))
  have FroomsSold_5 := (Fld.other W5 FroomsSold_4 (Or.inr (slot_ne (Or.inr (tw37 hw)) (Or.inr (tw45 hw)) (by decide) (t := (.object "java/math/BigDecimal")) (t' := (.object "java/math/BigDecimal")) (by decide) (by decide))))
  have Fcomplimentary_5 := (Fld.other W5 Fcomplimentary_4 (Or.inr (slot_ne (Or.inr (tw39 hw)) (Or.inr (tw45 hw)) (by decide) (t := (.object "java/math/BigDecimal")) (t' := (.object "java/math/BigDecimal")) (by decide) (by decide))))
  have FroomRevenue_5 := (Fld.other W5 FroomRevenue_4 (Or.inr (slot_ne (Or.inr (tw41 hw)) (Or.inr (tw45 hw)) (by decide) (t := (.object "java/math/BigDecimal")) (t' := (.object "java/math/BigDecimal")) (by decide) (by decide))))
  have Fguests_5 := (Fld.other W5 Fguests_4 (Or.inr (slot_ne (Or.inr (tw43 hw)) (Or.inr (tw45 hw)) (by decide) (t := (.object "java/math/BigDecimal")) (t' := (.object "java/math/BigDecimal")) (by decide) (by decide))))
  have FmultipleOccupied_5 := Fld.same W5 FmultipleOccupied_4
  have X_5 := X_4.wr W5
  refine K_return C (pc := 66) d2_66 (by decide) (by decide) (fun _ _ => ⟨rfl, X_5, FroomsAvailable_5, FroomsSold_5, Fcomplimentary_5, FroomRevenue_5, Fguests_5, FmultipleOccupied_5⟩)
set_option maxRecDepth 65536 in
set_option maxHeartbeats 40000000 in
theorem m2n (l : Launch) (Z : State) (a0 : Array Value) (hw : ∀ d ∈ tables_1, d.before a0 Z = true) (a r1 r2 r3 r4 : Addr) (h0 : Heap) (hya : Z.heap.size ≤ a) (X : Exa Z h0 a "com/example/roomyield/roomyield/RoomStatistics") (F_roomsAvailable : Fld Z h0 a "com/example/roomyield/roomyield/RoomStatistics" "roomsAvailable" "Ljava/math/BigDecimal;" .null) (F_roomsSold : Fld Z h0 a "com/example/roomyield/roomyield/RoomStatistics" "roomsSold" "Ljava/math/BigDecimal;" .null) (F_complimentary : Fld Z h0 a "com/example/roomyield/roomyield/RoomStatistics" "complimentary" "Ljava/math/BigDecimal;" .null) (F_roomRevenue : Fld Z h0 a "com/example/roomyield/roomyield/RoomStatistics" "roomRevenue" "Ljava/math/BigDecimal;" .null) (F_guests : Fld Z h0 a "com/example/roomyield/roomyield/RoomStatistics" "guests" "Ljava/math/BigDecimal;" .null) (F_multipleOccupied : Fld Z h0 a "com/example/roomyield/roomyield/RoomStatistics" "multipleOccupied" "Ljava/math/BigDecimal;" .null) :
    oMeetsW l Z (⟨"com/example/roomyield/roomyield/RoomStatistics", "<init>", "(Ljava/math/BigDecimal;Ljava/math/BigDecimal;Ljava/math/BigDecimal;Ljava/math/BigDecimal;Ljava/math/BigDecimal;Ljava/math/BigDecimal;)V"⟩ : MethodName) prog_18_method_1_code 7 none ({ frames := 2, cells := 8, slots := 204, locals := 40 } : Room) #[.ref a, .ref r1, .ref r2, .ref r3, .ref r4, .null, .null] h0 (fun x => x = a ∨ h0.size ≤ x) oT (fun v h _ => v = none ∧ Exa Z h a "com/example/roomyield/roomyield/RoomStatistics" ∧ Fld Z h a "com/example/roomyield/roomyield/RoomStatistics" "roomsAvailable" "Ljava/math/BigDecimal;" (.ref r1) ∧ Fld Z h a "com/example/roomyield/roomyield/RoomStatistics" "roomsSold" "Ljava/math/BigDecimal;" (.ref r2) ∧ Fld Z h a "com/example/roomyield/roomyield/RoomStatistics" "complimentary" "Ljava/math/BigDecimal;" (.ref r3) ∧ Fld Z h a "com/example/roomyield/roomyield/RoomStatistics" "roomRevenue" "Ljava/math/BigDecimal;" (.ref r4) ∧ Fld Z h a "com/example/roomyield/roomyield/RoomStatistics" "guests" "Ljava/math/BigDecimal;" .null ∧ Fld Z h a "com/example/roomyield/roomyield/RoomStatistics" "multipleOccupied" "Ljava/math/BigDecimal;" .null) := by
  refine oMeetsW.of pno_2 (fun _ q => Or.inr q) (fun E x q => q.elim (fun r => r ▸ hya) (fun r => Nat.le_trans E.1 r)) (Ls := [.val (.ref a), .val (.ref r1), .val (.ref r2), .val (.ref r3), .val (.ref r4), .val .null, .val .null]) (fun m => efo_2nn m a r1 r2 r3 r4) oTs ?_
  intro p e s m below meth c C hs
  refine K_aloadN C (pc := 0) d2_0 rfl rfl ?_
  refine K_special C (pc := 1) (m3 l Z a0 hw a _) (tw11 hw) (tw12 hw) (tw14 hw) (tw15 hw) rfl (by decide) pdo_0 d2_1 (argsL := []) (rest := _) rfl rfl rfl rfl (fun a q r => C.new a (Nat.le_trans q r)) (by decide) (Nat.le_of_ble_eq_true rfl) (by decide) (by decide) ?_
  rintro _ h1 ⟨rfl, rfl⟩ -
  dsimp only [Option.toList, List.cons_append, List.nil_append]
  refine K_aloadN C (pc := 4) d2_4 rfl rfl ?_
  refine K_ldcS C (pc := 5) (tw19 hw) (wSo hw) d2_5 (nn := 56) (by decide) (by decide) (by decide) (by decide) ?_
  intro s5 g5 E5
  refine K_static C (pc := 7) (m5 l Z a0 hw r1 _ _) (tw27 hw) (tw28 hw) (tw29 hw) (tw30 hw) (by decide) pdo_1 d2_7 (argsL := [_, _]) (rest := _) rfl rfl rfl rfl (fun a q r => C.new a (Nat.le_trans q r)) (by decide) (Nat.le_of_ble_eq_true rfl) (by decide) (by decide) ?_
  rintro _ h1 ⟨rfl, rfl⟩ -
  dsimp only [Option.toList, List.cons_append, List.nil_append]
  refine K_pop C (pc := 10) d2_10 rfl ?_
  refine K_aloadN C (pc := 11) d2_11 rfl rfl ?_
  refine K_ldcS C (pc := 12) (tw31 hw) (wSo hw) d2_12 (nn := 36) (by decide) (by decide) (by decide) (by decide) ?_
  intro s12 g12 E12
  refine K_static C (pc := 14) (m5 l Z a0 hw r2 _ _) (tw27 hw) (tw28 hw) (tw29 hw) (tw30 hw) (by decide) pdo_1 d2_14 (argsL := [_, _]) (rest := _) rfl rfl rfl rfl (fun a q r => C.new a (Nat.le_trans q r)) (by decide) (Nat.le_of_ble_eq_true rfl) (by decide) (by decide) ?_
  rintro _ h1 ⟨rfl, rfl⟩ -
  dsimp only [Option.toList, List.cons_append, List.nil_append]
  refine K_pop C (pc := 17) d2_17 rfl ?_
  refine K_aloadN C (pc := 18) d2_18 rfl rfl ?_
  refine K_ldcS C (pc := 19) (tw32 hw) (wSo hw) d2_19 (nn := 52) (by decide) (by decide) (by decide) (by decide) ?_
  intro s19 g19 E19
  refine K_static C (pc := 21) (m5 l Z a0 hw r3 _ _) (tw27 hw) (tw28 hw) (tw29 hw) (tw30 hw) (by decide) pdo_1 d2_21 (argsL := [_, _]) (rest := _) rfl rfl rfl rfl (fun a q r => C.new a (Nat.le_trans q r)) (by decide) (Nat.le_of_ble_eq_true rfl) (by decide) (by decide) ?_
  rintro _ h1 ⟨rfl, rfl⟩ -
  dsimp only [Option.toList, List.cons_append, List.nil_append]
  refine K_pop C (pc := 24) d2_24 rfl ?_
  refine K_aload C (pc := 25) d2_25 rfl rfl ?_
  refine K_ldcS C (pc := 27) (tw33 hw) (wSo hw) d2_27 (nn := 44) (by decide) (by decide) (by decide) (by decide) ?_
  intro s27 g27 E27
  refine K_static C (pc := 29) (m5 l Z a0 hw r4 _ _) (tw27 hw) (tw28 hw) (tw29 hw) (tw30 hw) (by decide) pdo_1 d2_29 (argsL := [_, _]) (rest := _) rfl rfl rfl rfl (fun a q r => C.new a (Nat.le_trans q r)) (by decide) (Nat.le_of_ble_eq_true rfl) (by decide) (by decide) ?_
  rintro _ h1 ⟨rfl, rfl⟩ -
  dsimp only [Option.toList, List.cons_append, List.nil_append]
  refine K_pop C (pc := 32) d2_32 rfl ?_
  refine K_aloadN C (pc := 33) d2_33 rfl rfl ?_
  refine K_aloadN C (pc := 34) d2_34 rfl rfl ?_
  have EE := oExt.tr (oExt.tr (oExt.tr E5 E12) E19) E27
  have X' := X.ext EE
  have FroomsAvailable' := F_roomsAvailable.ext EE
  have FroomsSold' := F_roomsSold.ext EE
  have Fcomplimentary' := F_complimentary.ext EE
  have FroomRevenue' := F_roomRevenue.ext EE
  have Fguests' := F_guests.ext EE
  have FmultipleOccupied' := F_multipleOccupied.ext EE
  refine K_putF C (pc := 35) (tw34 hw) Via.refl FroomsAvailable' X' (Or.inr ⟨(tw35 hw), rfl, rfl⟩) (tw5 hw) (ty := (.object "java/math/BigDecimal")) (by decide) rfl rfl (Or.inl rfl) d2_35 ?_
  intro k0 W0
  have FroomsAvailable_0 := Fld.same W0 FroomsAvailable'
  have FroomsSold_0 := (Fld.other W0 FroomsSold' (Or.inr (slot_ne (Or.inr (tw37 hw)) (Or.inr (tw35 hw)) (by decide) (t := (.object "java/math/BigDecimal")) (t' := (.object "java/math/BigDecimal")) (by decide) (by decide))))
  have Fcomplimentary_0 := (Fld.other W0 Fcomplimentary' (Or.inr (slot_ne (Or.inr (tw39 hw)) (Or.inr (tw35 hw)) (by decide) (t := (.object "java/math/BigDecimal")) (t' := (.object "java/math/BigDecimal")) (by decide) (by decide))))
  have FroomRevenue_0 := (Fld.other W0 FroomRevenue' (Or.inr (slot_ne (Or.inr (tw41 hw)) (Or.inr (tw35 hw)) (by decide) (t := (.object "java/math/BigDecimal")) (t' := (.object "java/math/BigDecimal")) (by decide) (by decide))))
  have Fguests_0 := (Fld.other W0 Fguests' (Or.inr (slot_ne (Or.inr (tw43 hw)) (Or.inr (tw35 hw)) (by decide) (t := (.object "java/math/BigDecimal")) (t' := (.object "java/math/BigDecimal")) (by decide) (by decide))))
  have FmultipleOccupied_0 := (Fld.other W0 FmultipleOccupied' (Or.inr (slot_ne (Or.inr (tw45 hw)) (Or.inr (tw35 hw)) (by decide) (t := (.object "java/math/BigDecimal")) (t' := (.object "java/math/BigDecimal")) (by decide) (by decide))))
  have X_0 := X'.wr W0
  refine K_aloadN C (pc := 38) d2_38 rfl rfl ?_
  refine K_aloadN C (pc := 39) d2_39 rfl rfl ?_
  refine K_putF C (pc := 40) (tw36 hw) Via.refl FroomsSold_0 X_0 (Or.inr ⟨(tw37 hw), rfl, rfl⟩) (tw5 hw) (ty := (.object "java/math/BigDecimal")) (by decide) rfl rfl (Or.inl rfl) d2_40 ?_
  intro k1 W1
  have FroomsAvailable_1 := (Fld.other W1 FroomsAvailable_0 (Or.inr (slot_ne (Or.inr (tw35 hw)) (Or.inr (tw37 hw)) (by decide) (t := (.object "java/math/BigDecimal")) (t' := (.object "java/math/BigDecimal")) (by decide) (by decide))))
  have FroomsSold_1 := Fld.same W1 FroomsSold_0
  have Fcomplimentary_1 := (Fld.other W1 Fcomplimentary_0 (Or.inr (slot_ne (Or.inr (tw39 hw)) (Or.inr (tw37 hw)) (by decide) (t := (.object "java/math/BigDecimal")) (t' := (.object "java/math/BigDecimal")) (by decide) (by decide))))
  have FroomRevenue_1 := (Fld.other W1 FroomRevenue_0 (Or.inr (slot_ne (Or.inr (tw41 hw)) (Or.inr (tw37 hw)) (by decide) (t := (.object "java/math/BigDecimal")) (t' := (.object "java/math/BigDecimal")) (by decide) (by decide))))
  have Fguests_1 := (Fld.other W1 Fguests_0 (Or.inr (slot_ne (Or.inr (tw43 hw)) (Or.inr (tw37 hw)) (by decide) (t := (.object "java/math/BigDecimal")) (t' := (.object "java/math/BigDecimal")) (by decide) (by decide))))
  have FmultipleOccupied_1 := (Fld.other W1 FmultipleOccupied_0 (Or.inr (slot_ne (Or.inr (tw45 hw)) (Or.inr (tw37 hw)) (by decide) (t := (.object "java/math/BigDecimal")) (t' := (.object "java/math/BigDecimal")) (by decide) (by decide))))
  have X_1 := X_0.wr W1
  refine K_aloadN C (pc := 43) d2_43 rfl rfl ?_
  refine K_aloadN C (pc := 44) d2_44 rfl rfl ?_
  refine K_putF C (pc := 45) (tw38 hw) Via.refl Fcomplimentary_1 X_1 (Or.inr ⟨(tw39 hw), rfl, rfl⟩) (tw5 hw) (ty := (.object "java/math/BigDecimal")) (by decide) rfl rfl (Or.inl rfl) d2_45 ?_
  intro k2 W2
  have FroomsAvailable_2 := (Fld.other W2 FroomsAvailable_1 (Or.inr (slot_ne (Or.inr (tw35 hw)) (Or.inr (tw39 hw)) (by decide) (t := (.object "java/math/BigDecimal")) (t' := (.object "java/math/BigDecimal")) (by decide) (by decide))))
  have FroomsSold_2 := (Fld.other W2 FroomsSold_1 (Or.inr (slot_ne (Or.inr (tw37 hw)) (Or.inr (tw39 hw)) (by decide) (t := (.object "java/math/BigDecimal")) (t' := (.object "java/math/BigDecimal")) (by decide) (by decide))))
  have Fcomplimentary_2 := Fld.same W2 Fcomplimentary_1
  have FroomRevenue_2 := (Fld.other W2 FroomRevenue_1 (Or.inr (slot_ne (Or.inr (tw41 hw)) (Or.inr (tw39 hw)) (by decide) (t := (.object "java/math/BigDecimal")) (t' := (.object "java/math/BigDecimal")) (by decide) (by decide))))
  have Fguests_2 := (Fld.other W2 Fguests_1 (Or.inr (slot_ne (Or.inr (tw43 hw)) (Or.inr (tw39 hw)) (by decide) (t := (.object "java/math/BigDecimal")) (t' := (.object "java/math/BigDecimal")) (by decide) (by decide))))
  have FmultipleOccupied_2 := (Fld.other W2 FmultipleOccupied_1 (Or.inr (slot_ne (Or.inr (tw45 hw)) (Or.inr (tw39 hw)) (by decide) (t := (.object "java/math/BigDecimal")) (t' := (.object "java/math/BigDecimal")) (by decide) (by decide))))
  have X_2 := X_1.wr W2
  refine K_aloadN C (pc := 48) d2_48 rfl rfl ?_
  refine K_aload C (pc := 49) d2_49 rfl rfl ?_
  refine K_putF C (pc := 51) (tw40 hw) Via.refl FroomRevenue_2 X_2 (Or.inr ⟨(tw41 hw), rfl, rfl⟩) (tw5 hw) (ty := (.object "java/math/BigDecimal")) (by decide) rfl rfl (Or.inl rfl) d2_51 ?_
  intro k3 W3
  have FroomsAvailable_3 := (Fld.other W3 FroomsAvailable_2 (Or.inr (slot_ne (Or.inr (tw35 hw)) (Or.inr (tw41 hw)) (by decide) (t := (.object "java/math/BigDecimal")) (t' := (.object "java/math/BigDecimal")) (by decide) (by decide))))
  have FroomsSold_3 := (Fld.other W3 FroomsSold_2 (Or.inr (slot_ne (Or.inr (tw37 hw)) (Or.inr (tw41 hw)) (by decide) (t := (.object "java/math/BigDecimal")) (t' := (.object "java/math/BigDecimal")) (by decide) (by decide))))
  have Fcomplimentary_3 := (Fld.other W3 Fcomplimentary_2 (Or.inr (slot_ne (Or.inr (tw39 hw)) (Or.inr (tw41 hw)) (by decide) (t := (.object "java/math/BigDecimal")) (t' := (.object "java/math/BigDecimal")) (by decide) (by decide))))
  have FroomRevenue_3 := Fld.same W3 FroomRevenue_2
  have Fguests_3 := (Fld.other W3 Fguests_2 (Or.inr (slot_ne (Or.inr (tw43 hw)) (Or.inr (tw41 hw)) (by decide) (t := (.object "java/math/BigDecimal")) (t' := (.object "java/math/BigDecimal")) (by decide) (by decide))))
  have FmultipleOccupied_3 := (Fld.other W3 FmultipleOccupied_2 (Or.inr (slot_ne (Or.inr (tw45 hw)) (Or.inr (tw41 hw)) (by decide) (t := (.object "java/math/BigDecimal")) (t' := (.object "java/math/BigDecimal")) (by decide) (by decide))))
  have X_3 := X_2.wr W3
  refine K_aloadN C (pc := 54) d2_54 rfl rfl ?_
  refine K_aload C (pc := 55) d2_55 rfl rfl ?_
  refine K_putF C (pc := 57) (tw42 hw) Via.refl Fguests_3 X_3 (Or.inr ⟨(tw43 hw), rfl, rfl⟩) (tw5 hw) (ty := (.object "java/math/BigDecimal")) (by decide) rfl rfl (Or.inl rfl) d2_57 ?_
  intro k4 W4
  have FroomsAvailable_4 := (Fld.other W4 FroomsAvailable_3 (Or.inr (slot_ne (Or.inr (tw35 hw)) (Or.inr (tw43 hw)) (by decide) (t := (.object "java/math/BigDecimal")) (t' := (.object "java/math/BigDecimal")) (by decide) (by decide))))
  have FroomsSold_4 := (Fld.other W4 FroomsSold_3 (Or.inr (slot_ne (Or.inr (tw37 hw)) (Or.inr (tw43 hw)) (by decide) (t := (.object "java/math/BigDecimal")) (t' := (.object "java/math/BigDecimal")) (by decide) (by decide))))
  have Fcomplimentary_4 := (Fld.other W4 Fcomplimentary_3 (Or.inr (slot_ne (Or.inr (tw39 hw)) (Or.inr (tw43 hw)) (by decide) (t := (.object "java/math/BigDecimal")) (t' := (.object "java/math/BigDecimal")) (by decide) (by decide))))
  have FroomRevenue_4 := (Fld.other W4 FroomRevenue_3 (Or.inr (slot_ne (Or.inr (tw41 hw)) (Or.inr (tw43 hw)) (by decide) (t := (.object "java/math/BigDecimal")) (t' := (.object "java/math/BigDecimal")) (by decide) (by decide))))
  have Fguests_4 := Fld.same W4 Fguests_3
  have FmultipleOccupied_4 := (Fld.other W4 FmultipleOccupied_3 (Or.inr (slot_ne (Or.inr (tw45 hw)) (Or.inr (tw43 hw)) (by decide) (t := (.object "java/math/BigDecimal")) (t' := (.object "java/math/BigDecimal")) (by decide) (by decide))))
  have X_4 := X_3.wr W4
  refine K_aloadN C (pc := 60) d2_60 rfl rfl ?_
  refine K_aload C (pc := 61) d2_61 rfl rfl ?_
  refine K_putF C (pc := 63) (tw44 hw) Via.refl FmultipleOccupied_4 X_4 (Or.inr ⟨(tw45 hw), rfl, rfl⟩) (tw5 hw) (ty := (.object "java/math/BigDecimal")) (by decide) rfl rfl (Or.inl rfl) d2_63 ?_
  intro k5 W5
  have FroomsAvailable_5 := (Fld.other W5 FroomsAvailable_4 (Or.inr (slot_ne (Or.inr (tw35 hw)) (Or.inr (tw45 hw)) (by decide) (t := (.object "java/math/BigDecimal")) (t' := (.object "java/math/BigDecimal")) (by decide) (by decide))))
  have FroomsSold_5 := (Fld.other W5 FroomsSold_4 (Or.inr (slot_ne (Or.inr (tw37 hw)) (Or.inr (tw45 hw)) (by decide) (t := (.object "java/math/BigDecimal")) (t' := (.object "java/math/BigDecimal")) (by decide) (by decide))))
  have Fcomplimentary_5 := (Fld.other W5 Fcomplimentary_4 (Or.inr (slot_ne (Or.inr (tw39 hw)) (Or.inr (tw45 hw)) (by decide) (t := (.object "java/math/BigDecimal")) (t' := (.object "java/math/BigDecimal")) (by decide) (by decide))))
  have FroomRevenue_5 := (Fld.other W5 FroomRevenue_4 (Or.inr (slot_ne (Or.inr (tw41 hw)) (Or.inr (tw45 hw)) (by decide) (t := (.object "java/math/BigDecimal")) (t' := (.object "java/math/BigDecimal")) (by decide) (by decide))))
  have Fguests_5 := (Fld.other W5 Fguests_4 (Or.inr (slot_ne (Or.inr (tw43 hw)) (Or.inr (tw45 hw)) (by decide) (t := (.object "java/math/BigDecimal")) (t' := (.object "java/math/BigDecimal")) (by decide) (by decide))))
  have FmultipleOccupied_5 := Fld.same W5 FmultipleOccupied_4
  have X_5 := X_4.wr W5
  refine K_return C (pc := 66) d2_66 (by decide) (by decide) (fun _ _ => ⟨rfl, X_5, FroomsAvailable_5, FroomsSold_5, Fcomplimentary_5, FroomRevenue_5, Fguests_5, FmultipleOccupied_5⟩)
theorem pno_1 : plainFor (⟨"com/example/roomyield/roomyield/RoomStatistics", "none", "(Z)Lcom/example/roomyield/roomyield/RoomStatistics;"⟩ : MethodName) = true := by first | exact plainFor_of_name (by first | (simp [plainName, overriddenIn]; done) | decide +kernel) | decide +kernel
theorem efo_1 (m : MethodId) (x0 : Int32) : entryFrame m #[.int x0] 2 = oF m 0 [.val (.int x0), .unset] [] := by first | (simp [entryFrame, oF, mkF, argsToLocals, Value.category]; done) | rfl
set_option maxRecDepth 65536 in
set_option maxHeartbeats 40000000 in
theorem m1_0 (l : Launch) (Z : State) (a0 : Array Value) (hw : ∀ d ∈ tables_1, d.before a0 Z = true) (h0 : Heap) (z0 : Addr) (S_ZERO : Sta Z Z.heap "java/math/BigDecimal" "ZERO" "Ljava/math/BigDecimal;" (.ref z0)) :
    oMeetsW l Z (⟨"com/example/roomyield/roomyield/RoomStatistics", "none", "(Z)Lcom/example/roomyield/roomyield/RoomStatistics;"⟩ : MethodName) prog_18_method_2_code 2 (some (.object "com/example/roomyield/roomyield/RoomStatistics")) ({ frames := 3, cells := 9, slots := 210, locals := 60 } : Room) #[.int 0] h0 (fun a => h0.size ≤ a) oT (fun v h _ => ∃ a, v = some (.ref a) ∧ Exa Z h a "com/example/roomyield/roomyield/RoomStatistics" ∧ Fld Z h a "com/example/roomyield/roomyield/RoomStatistics" "roomsAvailable" "Ljava/math/BigDecimal;" (.ref z0) ∧ Fld Z h a "com/example/roomyield/roomyield/RoomStatistics" "roomsSold" "Ljava/math/BigDecimal;" (.ref z0) ∧ Fld Z h a "com/example/roomyield/roomyield/RoomStatistics" "complimentary" "Ljava/math/BigDecimal;" (.ref z0) ∧ Fld Z h a "com/example/roomyield/roomyield/RoomStatistics" "roomRevenue" "Ljava/math/BigDecimal;" (.ref z0) ∧ Fld Z h a "com/example/roomyield/roomyield/RoomStatistics" "guests" "Ljava/math/BigDecimal;" .null ∧ Fld Z h a "com/example/roomyield/roomyield/RoomStatistics" "multipleOccupied" "Ljava/math/BigDecimal;" .null) := by
  refine oMeetsW.of pno_1 (fun _ q => q) (fun E _ q => Nat.le_trans E.1 q) (Ls := [.val (.int 0), .unset]) (fun m => efo_1 m 0) oTs ?_
  intro p e s m below meth c C hs
  refine K_iloadN C (pc := 0) d1_0 rfl ?_
  refine K_if C (pc := 1) 10 d1_1 (by decide) (by decide) (fun hc1 => ?_) (fun hc1 => ?_)
  · simp only [oC, Classical.not_not] at hc1
    refine K_aconst_null C (pc := 10) d1_10 ?_
    refine K_astoreN C (pc := 11) (Ls' := [_, _]) d1_11 rfl rfl ?_
    refine K_new C (pc := 12) (tw4 hw) (tw5 hw) (tw2 hw) d1_12 (by decide) (by decide) ?_
    intro h1 a ha hPa E1 X1 D1
    have F_roomsAvailable := D1 (Or.inr (tw35 hw)) (ty := (.object "java/math/BigDecimal")) (by decide)
    have F_roomsSold := D1 (Or.inr (tw37 hw)) (ty := (.object "java/math/BigDecimal")) (by decide)
    have F_complimentary := D1 (Or.inr (tw39 hw)) (ty := (.object "java/math/BigDecimal")) (by decide)
    have F_roomRevenue := D1 (Or.inr (tw41 hw)) (ty := (.object "java/math/BigDecimal")) (by decide)
    have F_guests := D1 (Or.inr (tw43 hw)) (ty := (.object "java/math/BigDecimal")) (by decide)
    have F_multipleOccupied := D1 (Or.inr (tw45 hw)) (ty := (.object "java/math/BigDecimal")) (by decide)
    refine K_dup C (pc := 15) d1_15 rfl ?_
    refine K_getS C (pc := 16) (tw6 hw) Via.refl S_ZERO d1_16 ?_
    refine K_getS C (pc := 19) (tw6 hw) Via.refl S_ZERO d1_19 ?_
    refine K_getS C (pc := 22) (tw6 hw) Via.refl S_ZERO d1_22 ?_
    refine K_getS C (pc := 25) (tw6 hw) Via.refl S_ZERO d1_25 ?_
    refine K_aloadN C (pc := 28) d1_28 rfl rfl ?_
    refine K_aloadN C (pc := 29) d1_29 rfl rfl ?_
    refine K_old C (fun hE hle _ => ?_)
    have hya : Z.heap.size ≤ a := C.young a hPa
    refine K_specialW C (pc := 30) (m2n l Z a0 hw a z0 z0 z0 z0 h1 hya X1 F_roomsAvailable F_roomsSold F_complimentary F_roomRevenue F_guests F_multipleOccupied) (fun _ _ => trivial) (tw8 hw) (tw9 hw) (tw2 hw) (tw10 hw) rfl (by decide) pdo_2 d1_30 (argsL := [_, _, _, _, _, _]) (rest := _) rfl rfl rfl rfl (fun x q r => r.elim (fun z => z ▸ hPa) (fun z => C.new x (Nat.le_trans q z))) (by decide) (Nat.le_of_ble_eq_true rfl) (by decide) (by decide) ?_
    rintro _ h2 _ ⟨rfl, X2, G_roomsAvailable, G_roomsSold, G_complimentary, G_roomRevenue, G_guests, G_multipleOccupied⟩ -
    refine ⟨oT, trivial, oTs, ?_⟩
    dsimp only [Option.toList, List.cons_append, List.nil_append]
    refine K_areturn C (pc := 33) d1_33 rfl rfl rfl (by decide) (by decide) (fun _ _ => ⟨a, rfl, X2, G_roomsAvailable, G_roomsSold, G_complimentary, G_roomRevenue, G_guests, G_multipleOccupied⟩)
  · simp only [oC, Classical.not_not] at hc1
    exact absurd hc1 (by decide)
set_option maxRecDepth 65536 in
set_option maxHeartbeats 40000000 in
theorem m1_1 (l : Launch) (Z : State) (a0 : Array Value) (hw : ∀ d ∈ tables_1, d.before a0 Z = true) (h0 : Heap) (z0 : Addr) (S_ZERO : Sta Z Z.heap "java/math/BigDecimal" "ZERO" "Ljava/math/BigDecimal;" (.ref z0)) :
    oMeetsW l Z (⟨"com/example/roomyield/roomyield/RoomStatistics", "none", "(Z)Lcom/example/roomyield/roomyield/RoomStatistics;"⟩ : MethodName) prog_18_method_2_code 2 (some (.object "com/example/roomyield/roomyield/RoomStatistics")) ({ frames := 3, cells := 9, slots := 210, locals := 60 } : Room) #[.int 1] h0 (fun a => h0.size ≤ a) oT (fun v h _ => ∃ a, v = some (.ref a) ∧ Exa Z h a "com/example/roomyield/roomyield/RoomStatistics" ∧ Fld Z h a "com/example/roomyield/roomyield/RoomStatistics" "roomsAvailable" "Ljava/math/BigDecimal;" (.ref z0) ∧ Fld Z h a "com/example/roomyield/roomyield/RoomStatistics" "roomsSold" "Ljava/math/BigDecimal;" (.ref z0) ∧ Fld Z h a "com/example/roomyield/roomyield/RoomStatistics" "complimentary" "Ljava/math/BigDecimal;" (.ref z0) ∧ Fld Z h a "com/example/roomyield/roomyield/RoomStatistics" "roomRevenue" "Ljava/math/BigDecimal;" (.ref z0) ∧ Fld Z h a "com/example/roomyield/roomyield/RoomStatistics" "guests" "Ljava/math/BigDecimal;" (.ref z0) ∧ Fld Z h a "com/example/roomyield/roomyield/RoomStatistics" "multipleOccupied" "Ljava/math/BigDecimal;" (.ref z0)) := by
  refine oMeetsW.of pno_1 (fun _ q => q) (fun E _ q => Nat.le_trans E.1 q) (Ls := [.val (.int 1), .unset]) (fun m => efo_1 m 1) oTs ?_
  intro p e s m below meth c C hs
  refine K_iloadN C (pc := 0) d1_0 rfl ?_
  refine K_if C (pc := 1) 10 d1_1 (by decide) (by decide) (fun hc1 => ?_) (fun hc1 => ?_)
  · simp only [oC, Classical.not_not] at hc1
    exact absurd hc1 (by decide)
  · simp only [oC, Classical.not_not] at hc1
    refine K_getS C (pc := 4) (tw6 hw) Via.refl S_ZERO d1_4 ?_
    refine K_goto C (pc := 7) 11 d1_7 (by decide) (by decide) ?_
    refine K_astoreN C (pc := 11) (Ls' := [_, _]) d1_11 rfl rfl ?_
    refine K_new C (pc := 12) (tw4 hw) (tw5 hw) (tw2 hw) d1_12 (by decide) (by decide) ?_
    intro h1 a ha hPa E1 X1 D1
    have F_roomsAvailable := D1 (Or.inr (tw35 hw)) (ty := (.object "java/math/BigDecimal")) (by decide)
    have F_roomsSold := D1 (Or.inr (tw37 hw)) (ty := (.object "java/math/BigDecimal")) (by decide)
    have F_complimentary := D1 (Or.inr (tw39 hw)) (ty := (.object "java/math/BigDecimal")) (by decide)
    have F_roomRevenue := D1 (Or.inr (tw41 hw)) (ty := (.object "java/math/BigDecimal")) (by decide)
    have F_guests := D1 (Or.inr (tw43 hw)) (ty := (.object "java/math/BigDecimal")) (by decide)
    have F_multipleOccupied := D1 (Or.inr (tw45 hw)) (ty := (.object "java/math/BigDecimal")) (by decide)
    refine K_dup C (pc := 15) d1_15 rfl ?_
    refine K_getS C (pc := 16) (tw6 hw) Via.refl S_ZERO d1_16 ?_
    refine K_getS C (pc := 19) (tw6 hw) Via.refl S_ZERO d1_19 ?_
    refine K_getS C (pc := 22) (tw6 hw) Via.refl S_ZERO d1_22 ?_
    refine K_getS C (pc := 25) (tw6 hw) Via.refl S_ZERO d1_25 ?_
    refine K_aloadN C (pc := 28) d1_28 rfl rfl ?_
    refine K_aloadN C (pc := 29) d1_29 rfl rfl ?_
    refine K_old C (fun hE hle _ => ?_)
    have hya : Z.heap.size ≤ a := C.young a hPa
    refine K_specialW C (pc := 30) (m2 l Z a0 hw a z0 z0 z0 z0 z0 z0 h1 hya X1 F_roomsAvailable F_roomsSold F_complimentary F_roomRevenue F_guests F_multipleOccupied) (fun _ _ => trivial) (tw8 hw) (tw9 hw) (tw2 hw) (tw10 hw) rfl (by decide) pdo_2 d1_30 (argsL := [_, _, _, _, _, _]) (rest := _) rfl rfl rfl rfl (fun x q r => r.elim (fun z => z ▸ hPa) (fun z => C.new x (Nat.le_trans q z))) (by decide) (Nat.le_of_ble_eq_true rfl) (by decide) (by decide) ?_
    rintro _ h2 _ ⟨rfl, X2, G_roomsAvailable, G_roomsSold, G_complimentary, G_roomRevenue, G_guests, G_multipleOccupied⟩ -
    refine ⟨oT, trivial, oTs, ?_⟩
    dsimp only [Option.toList, List.cons_append, List.nil_append]
    refine K_areturn C (pc := 33) d1_33 rfl rfl rfl (by decide) (by decide) (fun _ _ => ⟨a, rfl, X2, G_roomsAvailable, G_roomsSold, G_complimentary, G_roomRevenue, G_guests, G_multipleOccupied⟩)
theorem pno_6 : plainFor (⟨"com/example/roomyield/roomyield/RoomStatistics", "guests", "()Ljava/math/BigDecimal;"⟩ : MethodName) = true := by first | exact plainFor_of_name (by first | (simp [plainName, overriddenIn]; done) | decide +kernel) | decide +kernel
theorem efo_6 (m : MethodId) (x0 : Addr) : entryFrame m #[.ref x0] 1 = oF m 0 [.val (.ref x0)] [] := by first | (simp [entryFrame, oF, mkF, argsToLocals, Value.category]; done) | rfl
set_option maxRecDepth 65536 in
set_option maxHeartbeats 40000000 in
theorem m6 (l : Launch) (Z : State) (a0 : Array Value) (hw : ∀ d ∈ tables_1, d.before a0 Z = true) (a : Addr) (w : Value) (hv : w.isRef = true) (h0 : Heap) (F : Fld Z h0 a "com/example/roomyield/roomyield/RoomStatistics" "guests" "Ljava/math/BigDecimal;" w) :
    oMeets l Z (⟨"com/example/roomyield/roomyield/RoomStatistics", "guests", "()Ljava/math/BigDecimal;"⟩ : MethodName) prog_18_method_17_code 1 (some (.object "java/math/BigDecimal")) ({ frames := 0, cells := 0, slots := 0, locals := 0 } : Room) #[.ref a] h0 (fun a => h0.size ≤ a) (fun v h => v = some w ∧ h = h0) := by
  refine oMeets.of pno_6 (fun _ q => q) (fun E _ q => Nat.le_trans E.1 q) (Ls := [.val (.ref a)]) (fun m => efo_6 m a) ?_
  intro p e s m below meth c C hs
  refine K_aloadN C (pc := 0) d6_0 rfl rfl ?_
  refine K_getF C (pc := 1) (tw42 hw) Via.refl F d6_1 ?_
  refine K_areturn C (pc := 4) d6_4 rfl hv rfl (by decide) (by decide) (fun _ _ => ⟨rfl, rfl⟩)
theorem pno_7 : plainFor (⟨"com/example/roomyield/roomyield/RoomStatistics", "multipleOccupied", "()Ljava/math/BigDecimal;"⟩ : MethodName) = true := by first | exact plainFor_of_name (by first | (simp [plainName, overriddenIn]; done) | decide +kernel) | decide +kernel
theorem efo_7 (m : MethodId) (x0 : Addr) : entryFrame m #[.ref x0] 1 = oF m 0 [.val (.ref x0)] [] := by first | (simp [entryFrame, oF, mkF, argsToLocals, Value.category]; done) | rfl
set_option maxRecDepth 65536 in
set_option maxHeartbeats 40000000 in
theorem m7 (l : Launch) (Z : State) (a0 : Array Value) (hw : ∀ d ∈ tables_1, d.before a0 Z = true) (a : Addr) (w : Value) (hv : w.isRef = true) (h0 : Heap) (F : Fld Z h0 a "com/example/roomyield/roomyield/RoomStatistics" "multipleOccupied" "Ljava/math/BigDecimal;" w) :
    oMeets l Z (⟨"com/example/roomyield/roomyield/RoomStatistics", "multipleOccupied", "()Ljava/math/BigDecimal;"⟩ : MethodName) prog_18_method_18_code 1 (some (.object "java/math/BigDecimal")) ({ frames := 0, cells := 0, slots := 0, locals := 0 } : Room) #[.ref a] h0 (fun a => h0.size ≤ a) (fun v h => v = some w ∧ h = h0) := by
  refine oMeets.of pno_7 (fun _ q => q) (fun E _ q => Nat.le_trans E.1 q) (Ls := [.val (.ref a)]) (fun m => efo_7 m a) ?_
  intro p e s m below meth c C hs
  refine K_aloadN C (pc := 0) d7_0 rfl rfl ?_
  refine K_getF C (pc := 1) (tw44 hw) Via.refl F d7_1 ?_
  refine K_areturn C (pc := 4) d7_4 rfl hv rfl (by decide) (by decide) (fun _ _ => ⟨rfl, rfl⟩)
theorem pno_12 : plainFor (⟨"java/lang/Long", "signum", "(J)I"⟩ : MethodName) = true := by first | exact plainFor_of_name (by first | (simp [plainName, overriddenIn]; done) | decide +kernel) | decide +kernel
theorem efo_12 (m : MethodId) (x0 : Int64) : entryFrame m #[.long x0] 2 = oF m 0 [.val (.long x0), .second] [] := by first | (simp [entryFrame, oF, mkF, argsToLocals, Value.category]; done) | rfl
set_option maxRecDepth 65536 in
set_option maxHeartbeats 40000000 in
theorem m12 (l : Launch) (Z : State) (a0 : Array Value) (hw : ∀ d ∈ tables_1, d.before a0 Z = true) (h0 : Heap) :
    oMeets l Z (⟨"java/lang/Long", "signum", "(J)I"⟩ : MethodName) jdk_35_method_57_code 2 (some .int) ({ frames := 0, cells := 0, slots := 0, locals := 0 } : Room) #[.long 0] h0 (fun a => h0.size ≤ a) (fun v h => v = some (.int 0) ∧ h = h0) := by
  refine oMeets.of pno_12 (fun _ q => q) (fun E _ q => Nat.le_trans E.1 q) (Ls := [.val (.long 0), .second]) (fun m => efo_12 m 0) ?_
  intro p e s m below meth c C hs
  refine K_lloadN C (pc := 0) d12_0 rfl ?_
  refine K_bipush C (pc := 1) 63 d12_1 (by decide) ?_
  refine K_lshr C (pc := 3) d12_3 ?_
  refine K_lloadN C (pc := 4) d12_4 rfl ?_
  refine K_lneg C (pc := 5) d12_5 ?_
  refine K_bipush C (pc := 6) 63 d12_6 (by decide) ?_
  refine K_lushr C (pc := 8) d12_8 ?_
  refine K_lor C (pc := 9) d12_9 ?_
  refine K_l2i C (pc := 10) d12_10 ?_
  refine K_ireturn C (pc := 11) d12_11 (by simp) (z' := 0) (by decide) (by decide) (by decide) (fun _ _ => ⟨rfl, rfl⟩)
theorem pno_11 : plainFor (⟨"java/math/BigDecimal", "signum", "()I"⟩ : MethodName) = true := by first | exact plainFor_of_name (by first | (simp [plainName, overriddenIn]; done) | decide +kernel) | decide +kernel
theorem efo_11 (m : MethodId) (x0 : Addr) : entryFrame m #[.ref x0] 1 = oF m 0 [.val (.ref x0)] [] := by first | (simp [entryFrame, oF, mkF, argsToLocals, Value.category]; done) | rfl
set_option maxRecDepth 65536 in
set_option maxHeartbeats 40000000 in
theorem m11 (l : Launch) (Z : State) (a0 : Array Value) (hw : ∀ d ∈ tables_1, d.before a0 Z = true) (h0 : Heap) (z0 : Addr) (X0 : Exa Z Z.heap z0 "java/math/BigDecimal") (F0 : Fld Z Z.heap z0 "java/math/BigDecimal" "intCompact" "J" (.long 0)) (G0 : Fld Z Z.heap z0 "java/math/BigDecimal" "scale" "I" (.int 0)) :
    oMeets l Z (⟨"java/math/BigDecimal", "signum", "()I"⟩ : MethodName) jdk_17_method_58_code 1 (some .int) ({ frames := 1, cells := 0, slots := 0, locals := 16 } : Room) #[.ref z0] h0 (fun a => h0.size ≤ a) (fun v h => v = some (.int 0) ∧ h = h0) := by
  refine oMeets.of pno_11 (fun _ q => q) (fun E _ q => Nat.le_trans E.1 q) (Ls := [.val (.ref z0)]) (fun m => efo_11 m z0) ?_
  intro p e s m below meth c C hs
  refine K_old C (fun hE _ _ => ?_)
  refine K_aloadN C (pc := 0) d11_0 rfl rfl ?_
  refine K_getF C (pc := 1) (tw73 hw) Via.refl (F0.ext hE) d11_1 ?_
  refine K_ldc2J C (pc := 4) (tw75 hw) d11_4 ?_
  refine K_lcmp C (pc := 7) d11_7 ?_
  refine K_if C (pc := 8) 21 d11_8 (by decide) (by decide) (fun hc8 => ?_) (fun hc8 => ?_)
  · simp only [oC, Classical.not_not] at hc8
    exact absurd hc8 (by decide)
  · simp only [oC, Classical.not_not] at hc8
    refine K_aloadN C (pc := 11) d11_11 rfl rfl ?_
    refine K_getF C (pc := 12) (tw73 hw) Via.refl (F0.ext hE) d11_12 ?_
    refine K_static C (pc := 15) (m12 l Z a0 hw _) (tw76 hw) (tw77 hw) (tw78 hw) (tw79 hw) (by decide) pdo_3 d11_15 (argsL := [_]) (rest := _) rfl rfl rfl rfl (fun a q r => C.new a (Nat.le_trans q r)) (by decide) (Nat.le_of_ble_eq_true rfl) (by decide) (by decide) ?_
    rintro _ h1 ⟨rfl, rfl⟩ -
    dsimp only [Option.toList, List.cons_append, List.nil_append]
    refine K_goto C (pc := 18) 28 d11_18 (by decide) (by decide) ?_
    refine K_ireturn C (pc := 28) d11_28 (by simp) rfl (by decide) (by decide) (fun _ _ => ⟨rfl, rfl⟩)
theorem pno_10 : plainFor (⟨"com/example/roomyield/roomyield/Figures", "ratio", "(Ljava/math/BigDecimal;Ljava/math/BigDecimal;)Ljava/math/BigDecimal;"⟩ : MethodName) = true := by first | exact plainFor_of_name (by first | (simp [plainName, overriddenIn]; done) | decide +kernel) | decide +kernel
theorem efo_10 (m : MethodId) (x0 : Addr) (x1 : Addr) : entryFrame m #[.ref x0, .ref x1] 3 = oF m 0 [.val (.ref x0), .val (.ref x1), .unset] [] := by first | (simp [entryFrame, oF, mkF, argsToLocals, Value.category]; done) | rfl
theorem pno_9 : plainFor (⟨"com/example/roomyield/roomyield/Figures", "percent", "(Ljava/math/BigDecimal;Ljava/math/BigDecimal;)Ljava/math/BigDecimal;"⟩ : MethodName) = true := by first | exact plainFor_of_name (by first | (simp [plainName, overriddenIn]; done) | decide +kernel) | decide +kernel
theorem efo_9 (m : MethodId) (x0 : Addr) (x1 : Addr) : entryFrame m #[.ref x0, .ref x1] 3 = oF m 0 [.val (.ref x0), .val (.ref x1), .unset] [] := by first | (simp [entryFrame, oF, mkF, argsToLocals, Value.category]; done) | rfl
set_option maxRecDepth 65536 in
set_option maxHeartbeats 40000000 in
theorem m10 (l : Launch) (Z : State) (a0 : Array Value) (hw : ∀ d ∈ tables_1, d.before a0 Z = true) (a : Addr) (h0 : Heap) (z0 : Addr) (X0 : Exa Z Z.heap z0 "java/math/BigDecimal") (F0 : Fld Z Z.heap z0 "java/math/BigDecimal" "intCompact" "J" (.long 0)) (G0 : Fld Z Z.heap z0 "java/math/BigDecimal" "scale" "I" (.int 0)) :
    oMeets l Z (⟨"com/example/roomyield/roomyield/Figures", "ratio", "(Ljava/math/BigDecimal;Ljava/math/BigDecimal;)Ljava/math/BigDecimal;"⟩ : MethodName) prog_4_method_2_code 3 (some (.object "java/math/BigDecimal")) ({ frames := 2, cells := 0, slots := 0, locals := 32 } : Room) #[.ref a, .ref z0] h0 (fun a => h0.size ≤ a) (fun v h => v = some .null ∧ h = h0) := by
  refine oMeets.of pno_10 (fun _ q => q) (fun E _ q => Nat.le_trans E.1 q) (Ls := [.val (.ref a), .val (.ref z0), .unset]) (fun m => efo_10 m a z0) ?_
  intro p e s m below meth c C hs
  refine K_aloadN C (pc := 0) d10_0 rfl rfl ?_
  refine K_old C (fun hE _ _ => ?_)
  refine K_virtual C (pc := 1) (m11 l Z a0 hw _ z0 X0 F0 G0) (X0.ext hE) (tw68 hw) (tw69 hw) (oNF (tw71 hw)) (tw71 hw) (tw70 hw) (tw7 hw) (tw72 hw) (by decide) pdo_4 d10_1 (argsL := []) (rest := _) rfl rfl rfl rfl (fun a q r => C.new a (Nat.le_trans q r)) (by decide) (Nat.le_of_ble_eq_true rfl) (by decide) (by decide) ?_
  rintro _ h1 ⟨rfl, rfl⟩ -
  dsimp only [Option.toList, List.cons_append, List.nil_append]
  refine K_if C (pc := 4) 9 d10_4 (by decide) (by decide) (fun hc4 => ?_) (fun hc4 => ?_)
  · simp only [oC, Classical.not_not] at hc4
    exact absurd hc4 (by simp)
  · simp only [oC, Classical.not_not] at hc4
    refine K_aconst_null C (pc := 7) d10_7 ?_
    refine K_areturn C (pc := 8) d10_8 rfl rfl rfl (by decide) (by decide) (fun _ _ => ⟨rfl, rfl⟩)
set_option maxRecDepth 65536 in
set_option maxHeartbeats 40000000 in
theorem m9 (l : Launch) (Z : State) (a0 : Array Value) (hw : ∀ d ∈ tables_1, d.before a0 Z = true) (a : Addr) (h0 : Heap) (z0 : Addr) (X0 : Exa Z Z.heap z0 "java/math/BigDecimal") (F0 : Fld Z Z.heap z0 "java/math/BigDecimal" "intCompact" "J" (.long 0)) (G0 : Fld Z Z.heap z0 "java/math/BigDecimal" "scale" "I" (.int 0)) :
    oMeets l Z (⟨"com/example/roomyield/roomyield/Figures", "percent", "(Ljava/math/BigDecimal;Ljava/math/BigDecimal;)Ljava/math/BigDecimal;"⟩ : MethodName) prog_4_method_6_code 3 (some (.object "java/math/BigDecimal")) ({ frames := 3, cells := 0, slots := 0, locals := 48 } : Room) #[.ref a, .ref z0] h0 (fun a => h0.size ≤ a) (fun v h => v = some .null ∧ h = h0) := by
  refine oMeets.of pno_9 (fun _ q => q) (fun E _ q => Nat.le_trans E.1 q) (Ls := [.val (.ref a), .val (.ref z0), .unset]) (fun m => efo_9 m a z0) ?_
  intro p e s m below meth c C hs
  refine K_aloadN C (pc := 0) d9_0 rfl rfl ?_
  refine K_aloadN C (pc := 1) d9_1 rfl rfl ?_
  refine K_static C (pc := 2) (m10 l Z a0 hw a _ z0 X0 F0 G0) (tw65 hw) (tw66 hw) (tw63 hw) (tw67 hw) (by decide) pdo_5 d9_2 (argsL := [_, _]) (rest := _) rfl rfl rfl rfl (fun a q r => C.new a (Nat.le_trans q r)) (by decide) (Nat.le_of_ble_eq_true rfl) (by decide) (by decide) ?_
  rintro _ h1 ⟨rfl, rfl⟩ -
  dsimp only [Option.toList, List.cons_append, List.nil_append]
  refine K_astoreN C (pc := 5) (Ls' := [_, _, _]) d9_5 rfl rfl ?_
  refine K_aloadN C (pc := 6) d9_6 rfl rfl ?_
  refine K_ifnonnull_null C (pc := 7) d9_7 ?_
  refine K_aconst_null C (pc := 10) d9_10 ?_
  refine K_goto C (pc := 11) 21 d9_11 (by decide) (by decide) ?_
  refine K_areturn C (pc := 21) d9_21 rfl rfl rfl (by decide) (by decide) (fun _ _ => ⟨rfl, rfl⟩)
theorem pno_22 : plainFor (⟨"java/math/BigDecimal", "valueOf", "(J)Ljava/math/BigDecimal;"⟩ : MethodName) = true := by first | exact plainFor_of_name (by first | (simp [plainName, overriddenIn]; done) | decide +kernel) | decide +kernel
theorem efo_22 (m : MethodId) (x0 : Int64) : entryFrame m #[.long x0] 2 = oF m 0 [.val (.long x0), .second] [] := by first | (simp [entryFrame, oF, mkF, argsToLocals, Value.category]; done) | rfl
theorem pno_21 : plainFor (⟨"java/math/BigDecimal", "valueOf", "(JI)Ljava/math/BigDecimal;"⟩ : MethodName) = true := by first | exact plainFor_of_name (by first | (simp [plainName, overriddenIn]; done) | decide +kernel) | decide +kernel
theorem efo_21 (m : MethodId) (x0 : Int64) (x1 : Int32) : entryFrame m #[.long x0, .int x1] 3 = oF m 0 [.val (.long x0), .second, .val (.int x1)] [] := by first | (simp [entryFrame, oF, mkF, argsToLocals, Value.category]; done) | rfl
theorem pno_20 : plainFor (⟨"java/math/BigDecimal", "add", "(JJ)J"⟩ : MethodName) = true := by first | exact plainFor_of_name (by first | (simp [plainName, overriddenIn]; done) | decide +kernel) | decide +kernel
theorem efo_20 (m : MethodId) (x0 : Int64) (x1 : Int64) : entryFrame m #[.long x0, .long x1] 6 = oF m 0 [.val (.long x0), .second, .val (.long x1), .second, .unset, .unset] [] := by first | (simp [entryFrame, oF, mkF, argsToLocals, Value.category]; done) | rfl
theorem pno_19 : plainFor (⟨"java/math/BigDecimal", "add", "(JJI)Ljava/math/BigDecimal;"⟩ : MethodName) = true := by first | exact plainFor_of_name (by first | (simp [plainName, overriddenIn]; done) | decide +kernel) | decide +kernel
theorem efo_19 (m : MethodId) (x0 : Int64) (x1 : Int64) (x2 : Int32) : entryFrame m #[.long x0, .long x1, .int x2] 7 = oF m 0 [.val (.long x0), .second, .val (.long x1), .second, .val (.int x2), .unset, .unset] [] := by first | (simp [entryFrame, oF, mkF, argsToLocals, Value.category]; done) | rfl
theorem pno_18 : plainFor (⟨"java/math/BigDecimal", "add", "(JIJI)Ljava/math/BigDecimal;"⟩ : MethodName) = true := by first | exact plainFor_of_name (by first | (simp [plainName, overriddenIn]; done) | decide +kernel) | decide +kernel
theorem efo_18 (m : MethodId) (x0 : Int64) (x1 : Int32) (x2 : Int64) (x3 : Int32) : entryFrame m #[.long x0, .int x1, .long x2, .int x3] 12 = oF m 0 [.val (.long x0), .second, .val (.int x1), .val (.long x2), .second, .val (.int x3), .unset, .unset, .unset, .unset, .unset, .unset] [] := by first | (simp [entryFrame, oF, mkF, argsToLocals, Value.category]; done) | rfl
theorem pno_17 : plainFor (⟨"java/math/BigDecimal", "subtract", "(Ljava/math/BigDecimal;)Ljava/math/BigDecimal;"⟩ : MethodName) = true := by first | exact plainFor_of_name (by first | (simp [plainName, overriddenIn]; done) | decide +kernel) | decide +kernel
theorem efo_17 (m : MethodId) (x0 : Addr) (x1 : Addr) : entryFrame m #[.ref x0, .ref x1] 2 = oF m 0 [.val (.ref x0), .val (.ref x1)] [] := by first | (simp [entryFrame, oF, mkF, argsToLocals, Value.category]; done) | rfl
set_option maxRecDepth 65536 in
set_option maxHeartbeats 40000000 in
theorem m22 (l : Launch) (Z : State) (a0 : Array Value) (hw : ∀ d ∈ tables_1, d.before a0 Z = true) (h0 : Heap) (z0 : Addr) (za : Addr) (ca : Cell) (S_ZERO_THROUGH_TEN : Sta Z Z.heap "java/math/BigDecimal" "ZERO_THROUGH_TEN" "[Ljava/math/BigDecimal;" (.ref za)) (A0 : Arr Z Z.heap za ca (.object "java/math/BigDecimal")) (hlen : ca.slots.size = 11) (hel : ca.slots[0]? = some (.ref z0)) :
    oMeets l Z (⟨"java/math/BigDecimal", "valueOf", "(J)Ljava/math/BigDecimal;"⟩ : MethodName) jdk_17_method_21_code 2 (some (.object "java/math/BigDecimal")) ({ frames := 0, cells := 0, slots := 0, locals := 0 } : Room) #[.long 0] h0 (fun a => h0.size ≤ a) (fun v h => v = some (.ref z0) ∧ h = h0) := by
  refine oMeets.of pno_22 (fun _ q => q) (fun E _ q => Nat.le_trans E.1 q) (Ls := [.val (.long 0), .second]) (fun m => efo_22 m 0) ?_
  intro p e s m below meth c C hs
  refine K_old C (fun hE _ _ => ?_)
  refine K_lloadN C (pc := 0) d22_0 rfl ?_
  refine K_lconst C (pc := 1) 0 d22_1 (by decide) ?_
  refine K_lcmp C (pc := 2) d22_2 ?_
  refine K_if C (pc := 3) 23 d22_3 (by decide) (by decide) (fun hc3 => ?_) (fun hc3 => ?_)
  · simp only [oC, Classical.not_not] at hc3
    exact absurd hc3 (by decide)
  · simp only [oC, Classical.not_not] at hc3
    refine K_lloadN C (pc := 6) d22_6 rfl ?_
    refine K_getS C (pc := 7) (tw123 hw) Via.refl S_ZERO_THROUGH_TEN d22_7 ?_
    refine K_arraylength C (pc := 10) (A0.ext hE) d22_10 ?_
    rw [hlen]
    refine K_i2l C (pc := 11) d22_11 ?_
    refine K_lcmp C (pc := 12) d22_12 ?_
    refine K_if C (pc := 13) 23 d22_13 (by decide) (by decide) (fun hc13 => ?_) (fun hc13 => ?_)
    · simp only [oC, Classical.not_not] at hc13
      exact absurd hc13 (by decide)
    · simp only [oC, Classical.not_not] at hc13
      refine K_getS C (pc := 16) (tw123 hw) Via.refl S_ZERO_THROUGH_TEN d22_16 ?_
      refine K_lloadN C (pc := 19) d22_19 rfl ?_
      refine K_l2i C (pc := 20) d22_20 ?_
      refine K_aaload C (pc := 21) (j := 0) (A0.ext hE) rfl (by rw [hlen]; decide) hel d22_21 ?_
      refine K_areturn C (pc := 22) d22_22 rfl rfl rfl (by decide) (by decide) (fun _ _ => ⟨rfl, rfl⟩)
set_option maxRecDepth 65536 in
set_option maxHeartbeats 40000000 in
theorem m21 (l : Launch) (Z : State) (a0 : Array Value) (hw : ∀ d ∈ tables_1, d.before a0 Z = true) (h0 : Heap) (z0 : Addr) (za : Addr) (ca : Cell) (S_ZERO_THROUGH_TEN : Sta Z Z.heap "java/math/BigDecimal" "ZERO_THROUGH_TEN" "[Ljava/math/BigDecimal;" (.ref za)) (A0 : Arr Z Z.heap za ca (.object "java/math/BigDecimal")) (hlen : ca.slots.size = 11) (hel : ca.slots[0]? = some (.ref z0)) :
    oMeets l Z (⟨"java/math/BigDecimal", "valueOf", "(JI)Ljava/math/BigDecimal;"⟩ : MethodName) jdk_17_method_20_code 3 (some (.object "java/math/BigDecimal")) ({ frames := 1, cells := 0, slots := 0, locals := 16 } : Room) #[.long 0, .int 0] h0 (fun a => h0.size ≤ a) (fun v h => v = some (.ref z0) ∧ h = h0) := by
  refine oMeets.of pno_21 (fun _ q => q) (fun E _ q => Nat.le_trans E.1 q) (Ls := [.val (.long 0), .second, .val (.int 0)]) (fun m => efo_21 m 0 0) ?_
  intro p e s m below meth c C hs
  refine K_iloadN C (pc := 0) d21_0 rfl ?_
  refine K_if C (pc := 1) 9 d21_1 (by decide) (by decide) (fun hc1 => ?_) (fun hc1 => ?_)
  · simp only [oC, Classical.not_not] at hc1
    exact absurd hc1 (by simp)
  · simp only [oC, Classical.not_not] at hc1
    refine K_lloadN C (pc := 4) d21_4 rfl ?_
    refine K_static C (pc := 5) (m22 l Z a0 hw _ z0 za ca S_ZERO_THROUGH_TEN A0 hlen hel) (tw120 hw) (tw121 hw) (tw7 hw) (tw122 hw) (by decide) pdo_6 d21_5 (argsL := [_]) (rest := _) rfl rfl rfl rfl (fun a q r => C.new a (Nat.le_trans q r)) (by decide) (Nat.le_of_ble_eq_true rfl) (by decide) (by decide) ?_
    rintro _ h1 ⟨rfl, rfl⟩ -
    dsimp only [Option.toList, List.cons_append, List.nil_append]
    refine K_areturn C (pc := 8) d21_8 rfl rfl rfl (by decide) (by decide) (fun _ _ => ⟨rfl, rfl⟩)
set_option maxRecDepth 65536 in
set_option maxHeartbeats 40000000 in
theorem m20 (l : Launch) (Z : State) (a0 : Array Value) (hw : ∀ d ∈ tables_1, d.before a0 Z = true) (h0 : Heap) :
    oMeets l Z (⟨"java/math/BigDecimal", "add", "(JJ)J"⟩ : MethodName) jdk_17_method_132_code 6 (some .long) ({ frames := 0, cells := 0, slots := 0, locals := 0 } : Room) #[.long 0, .long 0] h0 (fun a => h0.size ≤ a) (fun v h => v = some (.long 0) ∧ h = h0) := by
  refine oMeets.of pno_20 (fun _ q => q) (fun E _ q => Nat.le_trans E.1 q) (Ls := [.val (.long 0), .second, .val (.long 0), .second, .unset, .unset]) (fun m => efo_20 m 0 0) ?_
  intro p e s m below meth c C hs
  refine K_lloadN C (pc := 0) d20_0 rfl ?_
  refine K_lloadN C (pc := 1) d20_1 rfl ?_
  refine K_ladd C (pc := 2) d20_2 ?_
  refine K_lstore C (pc := 3) (Ls' := [_, _, _, _, _, _]) d20_3 rfl ?_
  refine K_lload C (pc := 5) d20_5 rfl ?_
  refine K_lloadN C (pc := 7) d20_7 rfl ?_
  refine K_lxor C (pc := 8) d20_8 ?_
  refine K_lload C (pc := 9) d20_9 rfl ?_
  refine K_lloadN C (pc := 11) d20_11 rfl ?_
  refine K_lxor C (pc := 12) d20_12 ?_
  refine K_land C (pc := 13) d20_13 ?_
  refine K_lconst C (pc := 14) 0 d20_14 (by decide) ?_
  refine K_lcmp C (pc := 15) d20_15 ?_
  refine K_if C (pc := 16) 22 d20_16 (by decide) (by decide) (fun hc16 => ?_) (fun hc16 => ?_)
  · simp only [oC, Classical.not_not] at hc16
    exact absurd hc16 (by decide)
  · simp only [oC, Classical.not_not] at hc16
    refine K_lload C (pc := 19) d20_19 rfl ?_
    refine K_lreturn C (pc := 21) d20_21 (by decide) (by decide) (fun _ _ => ⟨by first | rfl | decide, rfl⟩)
set_option maxRecDepth 65536 in
set_option maxHeartbeats 40000000 in
theorem m19 (l : Launch) (Z : State) (a0 : Array Value) (hw : ∀ d ∈ tables_1, d.before a0 Z = true) (h0 : Heap) (z0 : Addr) (za : Addr) (ca : Cell) (S_ZERO_THROUGH_TEN : Sta Z Z.heap "java/math/BigDecimal" "ZERO_THROUGH_TEN" "[Ljava/math/BigDecimal;" (.ref za)) (A0 : Arr Z Z.heap za ca (.object "java/math/BigDecimal")) (hlen : ca.slots.size = 11) (hel : ca.slots[0]? = some (.ref z0)) :
    oMeets l Z (⟨"java/math/BigDecimal", "add", "(JJI)Ljava/math/BigDecimal;"⟩ : MethodName) jdk_17_method_133_code 7 (some (.object "java/math/BigDecimal")) ({ frames := 2, cells := 0, slots := 0, locals := 32 } : Room) #[.long 0, .long 0, .int 0] h0 (fun a => h0.size ≤ a) (fun v h => v = some (.ref z0) ∧ h = h0) := by
  refine oMeets.of pno_19 (fun _ q => q) (fun E _ q => Nat.le_trans E.1 q) (Ls := [.val (.long 0), .second, .val (.long 0), .second, .val (.int 0), .unset, .unset]) (fun m => efo_19 m 0 0 0) ?_
  intro p e s m below meth c C hs
  refine K_lloadN C (pc := 0) d19_0 rfl ?_
  refine K_lloadN C (pc := 1) d19_1 rfl ?_
  refine K_static C (pc := 2) (m20 l Z a0 hw _) (tw114 hw) (tw115 hw) (tw7 hw) (tw116 hw) (by decide) pdo_7 d19_2 (argsL := [_, _]) (rest := _) rfl rfl rfl rfl (fun a q r => C.new a (Nat.le_trans q r)) (by decide) (Nat.le_of_ble_eq_true rfl) (by decide) (by decide) ?_
  rintro _ h1 ⟨rfl, rfl⟩ -
  dsimp only [Option.toList, List.cons_append, List.nil_append]
  refine K_lstore C (pc := 5) (Ls' := [_, _, _, _, _, _, _]) d19_5 rfl ?_
  refine K_lload C (pc := 7) d19_7 rfl ?_
  refine K_ldc2J C (pc := 9) (tw75 hw) d19_9 ?_
  refine K_lcmp C (pc := 12) d19_12 ?_
  refine K_if C (pc := 13) 24 d19_13 (by decide) (by decide) (fun hc13 => ?_) (fun hc13 => ?_)
  · simp only [oC, Classical.not_not] at hc13
    exact absurd hc13 (by decide)
  · simp only [oC, Classical.not_not] at hc13
    refine K_lload C (pc := 16) d19_16 rfl ?_
    refine K_iload C (pc := 18) d19_18 rfl ?_
    refine K_static C (pc := 20) (m21 l Z a0 hw _ z0 za ca S_ZERO_THROUGH_TEN A0 hlen hel) (tw117 hw) (tw118 hw) (tw7 hw) (tw119 hw) (by decide) pdo_8 d19_20 (argsL := [_, _]) (rest := _) rfl rfl rfl rfl (fun a q r => C.new a (Nat.le_trans q r)) (by decide) (Nat.le_of_ble_eq_true rfl) (by decide) (by decide) ?_
    rintro _ h1 ⟨rfl, rfl⟩ -
    dsimp only [Option.toList, List.cons_append, List.nil_append]
    refine K_areturn C (pc := 23) d19_23 rfl rfl rfl (by decide) (by decide) (fun _ _ => ⟨rfl, rfl⟩)
set_option maxRecDepth 65536 in
set_option maxHeartbeats 40000000 in
theorem m18 (l : Launch) (Z : State) (a0 : Array Value) (hw : ∀ d ∈ tables_1, d.before a0 Z = true) (h0 : Heap) (z0 : Addr) (za : Addr) (ca : Cell) (S_ZERO_THROUGH_TEN : Sta Z Z.heap "java/math/BigDecimal" "ZERO_THROUGH_TEN" "[Ljava/math/BigDecimal;" (.ref za)) (A0 : Arr Z Z.heap za ca (.object "java/math/BigDecimal")) (hlen : ca.slots.size = 11) (hel : ca.slots[0]? = some (.ref z0)) :
    oMeets l Z (⟨"java/math/BigDecimal", "add", "(JIJI)Ljava/math/BigDecimal;"⟩ : MethodName) jdk_17_method_134_code 12 (some (.object "java/math/BigDecimal")) ({ frames := 3, cells := 0, slots := 0, locals := 52 } : Room) #[.long 0, .int 0, .long 0, .int 0] h0 (fun a => h0.size ≤ a) (fun v h => v = some (.ref z0) ∧ h = h0) := by
  refine oMeets.of pno_18 (fun _ q => q) (fun E _ q => Nat.le_trans E.1 q) (Ls := [.val (.long 0), .second, .val (.int 0), .val (.long 0), .second, .val (.int 0), .unset, .unset, .unset, .unset, .unset, .unset]) (fun m => efo_18 m 0 0 0 0) ?_
  intro p e s m below meth c C hs
  refine K_iloadN C (pc := 0) d18_0 rfl ?_
  refine K_i2l C (pc := 1) d18_1 ?_
  refine K_iload C (pc := 2) d18_2 rfl ?_
  refine K_i2l C (pc := 4) d18_4 ?_
  refine K_lsub C (pc := 5) d18_5 ?_
  refine K_lstore C (pc := 6) (Ls' := [_, _, _, _, _, _, _, _, _, _, _, _]) d18_6 rfl ?_
  refine K_lload C (pc := 8) d18_8 rfl ?_
  refine K_lconst C (pc := 10) 0 d18_10 (by decide) ?_
  refine K_lcmp C (pc := 11) d18_11 ?_
  refine K_if C (pc := 12) 22 d18_12 (by decide) (by decide) (fun hc12 => ?_) (fun hc12 => ?_)
  · simp only [oC, Classical.not_not] at hc12
    exact absurd hc12 (by decide)
  · simp only [oC, Classical.not_not] at hc12
    refine K_lloadN C (pc := 15) d18_15 rfl ?_
    refine K_lloadN C (pc := 16) d18_16 rfl ?_
    refine K_iloadN C (pc := 17) d18_17 rfl ?_
    refine K_static C (pc := 18) (m19 l Z a0 hw _ z0 za ca S_ZERO_THROUGH_TEN A0 hlen hel) (tw111 hw) (tw112 hw) (tw7 hw) (tw113 hw) (by decide) pdo_9 d18_18 (argsL := [_, _, _]) (rest := _) rfl rfl rfl rfl (fun a q r => C.new a (Nat.le_trans q r)) (by decide) (Nat.le_of_ble_eq_true rfl) (by decide) (by decide) ?_
    rintro _ h1 ⟨rfl, rfl⟩ -
    dsimp only [Option.toList, List.cons_append, List.nil_append]
    refine K_areturn C (pc := 21) d18_21 rfl rfl rfl (by decide) (by decide) (fun _ _ => ⟨rfl, rfl⟩)
set_option maxRecDepth 65536 in
set_option maxHeartbeats 40000000 in
theorem m17 (l : Launch) (Z : State) (a0 : Array Value) (hw : ∀ d ∈ tables_1, d.before a0 Z = true) (h0 : Heap) (z0 : Addr) (X0 : Exa Z Z.heap z0 "java/math/BigDecimal") (F0 : Fld Z Z.heap z0 "java/math/BigDecimal" "intCompact" "J" (.long 0)) (G0 : Fld Z Z.heap z0 "java/math/BigDecimal" "scale" "I" (.int 0)) (za : Addr) (ca : Cell) (S_ZERO_THROUGH_TEN : Sta Z Z.heap "java/math/BigDecimal" "ZERO_THROUGH_TEN" "[Ljava/math/BigDecimal;" (.ref za)) (A0 : Arr Z Z.heap za ca (.object "java/math/BigDecimal")) (hlen : ca.slots.size = 11) (hel : ca.slots[0]? = some (.ref z0)) :
    oMeets l Z (⟨"java/math/BigDecimal", "subtract", "(Ljava/math/BigDecimal;)Ljava/math/BigDecimal;"⟩ : MethodName) jdk_17_method_29_code 2 (some (.object "java/math/BigDecimal")) ({ frames := 4, cells := 0, slots := 0, locals := 76 } : Room) #[.ref z0, .ref z0] h0 (fun a => h0.size ≤ a) (fun v h => v = some (.ref z0) ∧ h = h0) := by
  refine oMeets.of pno_17 (fun _ q => q) (fun E _ q => Nat.le_trans E.1 q) (Ls := [.val (.ref z0), .val (.ref z0)]) (fun m => efo_17 m z0 z0) ?_
  intro p e s m below meth c C hs
  refine K_old C (fun hE _ _ => ?_)
  refine K_aloadN C (pc := 0) d17_0 rfl rfl ?_
  refine K_getF C (pc := 1) (tw73 hw) Via.refl (F0.ext hE) d17_1 ?_
  refine K_ldc2J C (pc := 4) (tw75 hw) d17_4 ?_
  refine K_lcmp C (pc := 7) d17_7 ?_
  refine K_if C (pc := 8) 66 d17_8 (by decide) (by decide) (fun hc8 => ?_) (fun hc8 => ?_)
  · simp only [oC, Classical.not_not] at hc8
    exact absurd hc8 (by decide)
  · simp only [oC, Classical.not_not] at hc8
    refine K_aloadN C (pc := 11) d17_11 rfl rfl ?_
    refine K_getF C (pc := 12) (tw73 hw) Via.refl (F0.ext hE) d17_12 ?_
    refine K_ldc2J C (pc := 15) (tw75 hw) d17_15 ?_
    refine K_lcmp C (pc := 18) d17_18 ?_
    refine K_if C (pc := 19) 43 d17_19 (by decide) (by decide) (fun hc19 => ?_) (fun hc19 => ?_)
    · simp only [oC, Classical.not_not] at hc19
      exact absurd hc19 (by decide)
    · simp only [oC, Classical.not_not] at hc19
      refine K_aloadN C (pc := 22) d17_22 rfl rfl ?_
      refine K_getF C (pc := 23) (tw73 hw) Via.refl (F0.ext hE) d17_23 ?_
      refine K_aloadN C (pc := 26) d17_26 rfl rfl ?_
      refine K_getF C (pc := 27) (tw106 hw) Via.refl (G0.ext hE) d17_27 ?_
      refine K_aloadN C (pc := 30) d17_30 rfl rfl ?_
      refine K_getF C (pc := 31) (tw73 hw) Via.refl (F0.ext hE) d17_31 ?_
      refine K_lneg C (pc := 34) d17_34 ?_
      refine K_aloadN C (pc := 35) d17_35 rfl rfl ?_
      refine K_getF C (pc := 36) (tw106 hw) Via.refl (G0.ext hE) d17_36 ?_
      refine K_static C (pc := 39) (m18 l Z a0 hw _ z0 za ca S_ZERO_THROUGH_TEN A0 hlen hel) (tw108 hw) (tw109 hw) (tw7 hw) (tw110 hw) (by decide) pdo_10 d17_39 (argsL := [_, _, _, _]) (rest := _) rfl rfl rfl rfl (fun a q r => C.new a (Nat.le_trans q r)) (by decide) (Nat.le_of_ble_eq_true rfl) (by decide) (by decide) ?_
      rintro _ h1 ⟨rfl, rfl⟩ -
      dsimp only [Option.toList, List.cons_append, List.nil_append]
      refine K_areturn C (pc := 42) d17_42 rfl rfl rfl (by decide) (by decide) (fun _ _ => ⟨rfl, rfl⟩)
theorem pno_8 : plainFor (⟨"com/example/roomyield/roomyield/RoomStatistics", "occupancyPct", "()Ljava/math/BigDecimal;"⟩ : MethodName) = true := by first | exact plainFor_of_name (by first | (simp [plainName, overriddenIn]; done) | decide +kernel) | decide +kernel
theorem efo_8 (m : MethodId) (x0 : Addr) : entryFrame m #[.ref x0] 1 = oF m 0 [.val (.ref x0)] [] := by first | (simp [entryFrame, oF, mkF, argsToLocals, Value.category]; done) | rfl
theorem pno_13 : plainFor (⟨"com/example/roomyield/roomyield/RoomStatistics", "revpar", "()Ljava/math/BigDecimal;"⟩ : MethodName) = true := by first | exact plainFor_of_name (by first | (simp [plainName, overriddenIn]; done) | decide +kernel) | decide +kernel
theorem efo_13 (m : MethodId) (x0 : Addr) : entryFrame m #[.ref x0] 1 = oF m 0 [.val (.ref x0)] [] := by first | (simp [entryFrame, oF, mkF, argsToLocals, Value.category]; done) | rfl
theorem pno_14 : plainFor (⟨"com/example/roomyield/roomyield/RoomStatistics", "adr", "()Ljava/math/BigDecimal;"⟩ : MethodName) = true := by first | exact plainFor_of_name (by first | (simp [plainName, overriddenIn]; done) | decide +kernel) | decide +kernel
theorem efo_14 (m : MethodId) (x0 : Addr) : entryFrame m #[.ref x0] 1 = oF m 0 [.val (.ref x0)] [] := by first | (simp [entryFrame, oF, mkF, argsToLocals, Value.category]; done) | rfl
theorem pno_15 : plainFor (⟨"com/example/roomyield/roomyield/RoomStatistics", "doubleOccupancyPct", "()Ljava/math/BigDecimal;"⟩ : MethodName) = true := by first | exact plainFor_of_name (by first | (simp [plainName, overriddenIn]; done) | decide +kernel) | decide +kernel
theorem efo_15 (m : MethodId) (x0 : Addr) : entryFrame m #[.ref x0] 1 = oF m 0 [.val (.ref x0)] [] := by first | (simp [entryFrame, oF, mkF, argsToLocals, Value.category]; done) | rfl
theorem pno_16 : plainFor (⟨"com/example/roomyield/roomyield/RoomStatistics", "multipleOccupancyPct", "()Ljava/math/BigDecimal;"⟩ : MethodName) = true := by first | exact plainFor_of_name (by first | (simp [plainName, overriddenIn]; done) | decide +kernel) | decide +kernel
theorem efo_16 (m : MethodId) (x0 : Addr) : entryFrame m #[.ref x0] 1 = oF m 0 [.val (.ref x0)] [] := by first | (simp [entryFrame, oF, mkF, argsToLocals, Value.category]; done) | rfl
set_option maxRecDepth 65536 in
set_option maxHeartbeats 40000000 in
theorem m8 (l : Launch) (Z : State) (a0 : Array Value) (hw : ∀ d ∈ tables_1, d.before a0 Z = true) (a : Addr) (h0 : Heap) (z0 : Addr) (X0 : Exa Z Z.heap z0 "java/math/BigDecimal") (F0 : Fld Z Z.heap z0 "java/math/BigDecimal" "intCompact" "J" (.long 0)) (G0 : Fld Z Z.heap z0 "java/math/BigDecimal" "scale" "I" (.int 0)) (F_roomsSold : Fld Z h0 a "com/example/roomyield/roomyield/RoomStatistics" "roomsSold" "Ljava/math/BigDecimal;" (.ref z0)) (F_roomsAvailable : Fld Z h0 a "com/example/roomyield/roomyield/RoomStatistics" "roomsAvailable" "Ljava/math/BigDecimal;" (.ref z0)) :
    oMeets l Z (⟨"com/example/roomyield/roomyield/RoomStatistics", "occupancyPct", "()Ljava/math/BigDecimal;"⟩ : MethodName) prog_18_method_5_code 1 (some (.object "java/math/BigDecimal")) ({ frames := 4, cells := 0, slots := 0, locals := 64 } : Room) #[.ref a] h0 (fun a => h0.size ≤ a) (fun v h => v = some .null ∧ h = h0) := by
  refine oMeets.of pno_8 (fun _ q => q) (fun E _ q => Nat.le_trans E.1 q) (Ls := [.val (.ref a)]) (fun m => efo_8 m a) ?_
  intro p e s m below meth c C hs
  refine K_aloadN C (pc := 0) d8_0 rfl rfl ?_
  refine K_getF C (pc := 1) (tw36 hw) Via.refl F_roomsSold d8_1 ?_
  refine K_aloadN C (pc := 4) d8_4 rfl rfl ?_
  refine K_getF C (pc := 5) (tw34 hw) Via.refl F_roomsAvailable d8_5 ?_
  refine K_static C (pc := 8) (m9 l Z a0 hw z0 _ z0 X0 F0 G0) (tw61 hw) (tw62 hw) (tw63 hw) (tw64 hw) (by decide) pdo_5 d8_8 (argsL := [_, _]) (rest := _) rfl rfl rfl rfl (fun a q r => C.new a (Nat.le_trans q r)) (by decide) (Nat.le_of_ble_eq_true rfl) (by decide) (by decide) ?_
  rintro _ h1 ⟨rfl, rfl⟩ -
  dsimp only [Option.toList, List.cons_append, List.nil_append]
  refine K_areturn C (pc := 11) d8_11 rfl rfl rfl (by decide) (by decide) (fun _ _ => ⟨rfl, rfl⟩)
set_option maxRecDepth 65536 in
set_option maxHeartbeats 40000000 in
theorem m13 (l : Launch) (Z : State) (a0 : Array Value) (hw : ∀ d ∈ tables_1, d.before a0 Z = true) (a : Addr) (h0 : Heap) (z0 : Addr) (X0 : Exa Z Z.heap z0 "java/math/BigDecimal") (F0 : Fld Z Z.heap z0 "java/math/BigDecimal" "intCompact" "J" (.long 0)) (G0 : Fld Z Z.heap z0 "java/math/BigDecimal" "scale" "I" (.int 0)) (F_roomRevenue : Fld Z h0 a "com/example/roomyield/roomyield/RoomStatistics" "roomRevenue" "Ljava/math/BigDecimal;" (.ref z0)) (F_roomsAvailable : Fld Z h0 a "com/example/roomyield/roomyield/RoomStatistics" "roomsAvailable" "Ljava/math/BigDecimal;" (.ref z0)) :
    oMeets l Z (⟨"com/example/roomyield/roomyield/RoomStatistics", "revpar", "()Ljava/math/BigDecimal;"⟩ : MethodName) prog_18_method_9_code 1 (some (.object "java/math/BigDecimal")) ({ frames := 4, cells := 0, slots := 0, locals := 64 } : Room) #[.ref a] h0 (fun a => h0.size ≤ a) (fun v h => v = some .null ∧ h = h0) := by
  refine oMeets.of pno_13 (fun _ q => q) (fun E _ q => Nat.le_trans E.1 q) (Ls := [.val (.ref a)]) (fun m => efo_13 m a) ?_
  intro p e s m below meth c C hs
  refine K_aloadN C (pc := 0) d13_0 rfl rfl ?_
  refine K_getF C (pc := 1) (tw40 hw) Via.refl F_roomRevenue d13_1 ?_
  refine K_aloadN C (pc := 4) d13_4 rfl rfl ?_
  refine K_getF C (pc := 5) (tw34 hw) Via.refl F_roomsAvailable d13_5 ?_
  refine K_static C (pc := 8) (m10 l Z a0 hw z0 _ z0 X0 F0 G0) (tw85 hw) (tw66 hw) (tw63 hw) (tw67 hw) (by decide) pdo_5 d13_8 (argsL := [_, _]) (rest := _) rfl rfl rfl rfl (fun a q r => C.new a (Nat.le_trans q r)) (by decide) (Nat.le_of_ble_eq_true rfl) (by decide) (by decide) ?_
  rintro _ h1 ⟨rfl, rfl⟩ -
  dsimp only [Option.toList, List.cons_append, List.nil_append]
  refine K_areturn C (pc := 11) d13_11 rfl rfl rfl (by decide) (by decide) (fun _ _ => ⟨rfl, rfl⟩)
set_option maxRecDepth 65536 in
set_option maxHeartbeats 40000000 in
theorem m14 (l : Launch) (Z : State) (a0 : Array Value) (hw : ∀ d ∈ tables_1, d.before a0 Z = true) (a : Addr) (h0 : Heap) (z0 : Addr) (X0 : Exa Z Z.heap z0 "java/math/BigDecimal") (F0 : Fld Z Z.heap z0 "java/math/BigDecimal" "intCompact" "J" (.long 0)) (G0 : Fld Z Z.heap z0 "java/math/BigDecimal" "scale" "I" (.int 0)) (F_roomRevenue : Fld Z h0 a "com/example/roomyield/roomyield/RoomStatistics" "roomRevenue" "Ljava/math/BigDecimal;" (.ref z0)) (F_roomsSold : Fld Z h0 a "com/example/roomyield/roomyield/RoomStatistics" "roomsSold" "Ljava/math/BigDecimal;" (.ref z0)) :
    oMeets l Z (⟨"com/example/roomyield/roomyield/RoomStatistics", "adr", "()Ljava/math/BigDecimal;"⟩ : MethodName) prog_18_method_8_code 1 (some (.object "java/math/BigDecimal")) ({ frames := 4, cells := 0, slots := 0, locals := 64 } : Room) #[.ref a] h0 (fun a => h0.size ≤ a) (fun v h => v = some .null ∧ h = h0) := by
  refine oMeets.of pno_14 (fun _ q => q) (fun E _ q => Nat.le_trans E.1 q) (Ls := [.val (.ref a)]) (fun m => efo_14 m a) ?_
  intro p e s m below meth c C hs
  refine K_aloadN C (pc := 0) d14_0 rfl rfl ?_
  refine K_getF C (pc := 1) (tw40 hw) Via.refl F_roomRevenue d14_1 ?_
  refine K_aloadN C (pc := 4) d14_4 rfl rfl ?_
  refine K_getF C (pc := 5) (tw36 hw) Via.refl F_roomsSold d14_5 ?_
  refine K_static C (pc := 8) (m10 l Z a0 hw z0 _ z0 X0 F0 G0) (tw85 hw) (tw66 hw) (tw63 hw) (tw67 hw) (by decide) pdo_5 d14_8 (argsL := [_, _]) (rest := _) rfl rfl rfl rfl (fun a q r => C.new a (Nat.le_trans q r)) (by decide) (Nat.le_of_ble_eq_true rfl) (by decide) (by decide) ?_
  rintro _ h1 ⟨rfl, rfl⟩ -
  dsimp only [Option.toList, List.cons_append, List.nil_append]
  refine K_areturn C (pc := 11) d14_11 rfl rfl rfl (by decide) (by decide) (fun _ _ => ⟨rfl, rfl⟩)
set_option maxRecDepth 65536 in
set_option maxHeartbeats 40000000 in
theorem m15 (l : Launch) (Z : State) (a0 : Array Value) (hw : ∀ d ∈ tables_1, d.before a0 Z = true) (a : Addr) (h0 : Heap) (z0 : Addr) (X0 : Exa Z Z.heap z0 "java/math/BigDecimal") (F0 : Fld Z Z.heap z0 "java/math/BigDecimal" "intCompact" "J" (.long 0)) (G0 : Fld Z Z.heap z0 "java/math/BigDecimal" "scale" "I" (.int 0)) (za : Addr) (ca : Cell) (S_ZERO_THROUGH_TEN : Sta Z Z.heap "java/math/BigDecimal" "ZERO_THROUGH_TEN" "[Ljava/math/BigDecimal;" (.ref za)) (A0 : Arr Z Z.heap za ca (.object "java/math/BigDecimal")) (hlen : ca.slots.size = 11) (hel : ca.slots[0]? = some (.ref z0)) (F_guests : Fld Z h0 a "com/example/roomyield/roomyield/RoomStatistics" "guests" "Ljava/math/BigDecimal;" (.ref z0)) (F_roomsSold : Fld Z h0 a "com/example/roomyield/roomyield/RoomStatistics" "roomsSold" "Ljava/math/BigDecimal;" (.ref z0)) :
    oMeets l Z (⟨"com/example/roomyield/roomyield/RoomStatistics", "doubleOccupancyPct", "()Ljava/math/BigDecimal;"⟩ : MethodName) prog_18_method_6_code 1 (some (.object "java/math/BigDecimal")) ({ frames := 5, cells := 0, slots := 0, locals := 92 } : Room) #[.ref a] h0 (fun a => h0.size ≤ a) (fun v h => v = some .null ∧ h = h0) := by
  refine oMeets.of pno_15 (fun _ q => q) (fun E _ q => Nat.le_trans E.1 q) (Ls := [.val (.ref a)]) (fun m => efo_15 m a) ?_
  intro p e s m below meth c C hs
  refine K_aloadN C (pc := 0) d15_0 rfl rfl ?_
  refine K_getF C (pc := 1) (tw42 hw) Via.refl F_guests d15_1 ?_
  refine K_ifnonnull_ref C (pc := 4) 11 d15_4 (by decide) (by decide) ?_
  refine K_aloadN C (pc := 11) d15_11 rfl rfl ?_
  refine K_getF C (pc := 12) (tw42 hw) Via.refl F_guests d15_12 ?_
  refine K_aloadN C (pc := 15) d15_15 rfl rfl ?_
  refine K_getF C (pc := 16) (tw36 hw) Via.refl F_roomsSold d15_16 ?_
  refine K_old C (fun hE _ _ => ?_)
  refine K_virtual C (pc := 19) (m17 l Z a0 hw _ z0 X0 F0 G0 za ca S_ZERO_THROUGH_TEN A0 hlen hel) (X0.ext hE) (tw101 hw) (tw102 hw) (oNF (tw104 hw)) (tw104 hw) (tw103 hw) (tw7 hw) (tw105 hw) (by decide) pdo_11 d15_19 (argsL := [_]) (rest := _) rfl rfl rfl rfl (fun a q r => C.new a (Nat.le_trans q r)) (by decide) (Nat.le_of_ble_eq_true rfl) (by decide) (by decide) ?_
  rintro _ h1 ⟨rfl, rfl⟩ -
  dsimp only [Option.toList, List.cons_append, List.nil_append]
  refine K_aloadN C (pc := 22) d15_22 rfl rfl ?_
  refine K_getF C (pc := 23) (tw36 hw) Via.refl F_roomsSold d15_23 ?_
  refine K_static C (pc := 26) (m9 l Z a0 hw z0 _ z0 X0 F0 G0) (tw61 hw) (tw62 hw) (tw63 hw) (tw64 hw) (by decide) pdo_5 d15_26 (argsL := [_, _]) (rest := _) rfl rfl rfl rfl (fun a q r => C.new a (Nat.le_trans q r)) (by decide) (Nat.le_of_ble_eq_true rfl) (by decide) (by decide) ?_
  rintro _ h1 ⟨rfl, rfl⟩ -
  dsimp only [Option.toList, List.cons_append, List.nil_append]
  refine K_areturn C (pc := 29) d15_29 rfl rfl rfl (by decide) (by decide) (fun _ _ => ⟨rfl, rfl⟩)
set_option maxRecDepth 65536 in
set_option maxHeartbeats 40000000 in
theorem m16 (l : Launch) (Z : State) (a0 : Array Value) (hw : ∀ d ∈ tables_1, d.before a0 Z = true) (a : Addr) (h0 : Heap) (z0 : Addr) (X0 : Exa Z Z.heap z0 "java/math/BigDecimal") (F0 : Fld Z Z.heap z0 "java/math/BigDecimal" "intCompact" "J" (.long 0)) (G0 : Fld Z Z.heap z0 "java/math/BigDecimal" "scale" "I" (.int 0)) (F_multipleOccupied : Fld Z h0 a "com/example/roomyield/roomyield/RoomStatistics" "multipleOccupied" "Ljava/math/BigDecimal;" (.ref z0)) (F_roomsSold : Fld Z h0 a "com/example/roomyield/roomyield/RoomStatistics" "roomsSold" "Ljava/math/BigDecimal;" (.ref z0)) :
    oMeets l Z (⟨"com/example/roomyield/roomyield/RoomStatistics", "multipleOccupancyPct", "()Ljava/math/BigDecimal;"⟩ : MethodName) prog_18_method_7_code 1 (some (.object "java/math/BigDecimal")) ({ frames := 5, cells := 0, slots := 0, locals := 92 } : Room) #[.ref a] h0 (fun a => h0.size ≤ a) (fun v h => v = some .null ∧ h = h0) := by
  refine oMeets.of pno_16 (fun _ q => q) (fun E _ q => Nat.le_trans E.1 q) (Ls := [.val (.ref a)]) (fun m => efo_16 m a) ?_
  intro p e s m below meth c C hs
  refine K_aloadN C (pc := 0) d16_0 rfl rfl ?_
  refine K_getF C (pc := 1) (tw44 hw) Via.refl F_multipleOccupied d16_1 ?_
  refine K_ifnonnull_ref C (pc := 4) 11 d16_4 (by decide) (by decide) ?_
  refine K_aloadN C (pc := 11) d16_11 rfl rfl ?_
  refine K_getF C (pc := 12) (tw44 hw) Via.refl F_multipleOccupied d16_12 ?_
  refine K_aloadN C (pc := 15) d16_15 rfl rfl ?_
  refine K_getF C (pc := 16) (tw36 hw) Via.refl F_roomsSold d16_16 ?_
  refine K_static C (pc := 19) (m9 l Z a0 hw z0 _ z0 X0 F0 G0) (tw61 hw) (tw62 hw) (tw63 hw) (tw64 hw) (by decide) pdo_5 d16_19 (argsL := [_, _]) (rest := _) rfl rfl rfl rfl (fun a q r => C.new a (Nat.le_trans q r)) (by decide) (Nat.le_of_ble_eq_true rfl) (by decide) (by decide) ?_
  rintro _ h1 ⟨rfl, rfl⟩ -
  dsimp only [Option.toList, List.cons_append, List.nil_append]
  refine K_areturn C (pc := 22) d16_22 rfl rfl rfl (by decide) (by decide) (fun _ _ => ⟨rfl, rfl⟩)
set_option maxRecDepth 65536 in
set_option maxHeartbeats 40000000 in
theorem m15n (l : Launch) (Z : State) (a0 : Array Value) (hw : ∀ d ∈ tables_1, d.before a0 Z = true) (a : Addr) (h0 : Heap) (F_guests : Fld Z h0 a "com/example/roomyield/roomyield/RoomStatistics" "guests" "Ljava/math/BigDecimal;" .null) :
    oMeets l Z (⟨"com/example/roomyield/roomyield/RoomStatistics", "doubleOccupancyPct", "()Ljava/math/BigDecimal;"⟩ : MethodName) prog_18_method_6_code 1 (some (.object "java/math/BigDecimal")) ({ frames := 0, cells := 0, slots := 0, locals := 0 } : Room) #[.ref a] h0 (fun a => h0.size ≤ a) (fun v h => v = some .null ∧ h = h0) := by
  refine oMeets.of pno_15 (fun _ q => q) (fun E _ q => Nat.le_trans E.1 q) (Ls := [.val (.ref a)]) (fun m => efo_15 m a) ?_
  intro p e s m below meth c C hs
  refine K_aloadN C (pc := 0) d15_0 rfl rfl ?_
  refine K_getF C (pc := 1) (tw42 hw) Via.refl F_guests d15_1 ?_
  refine K_ifnonnull_null C (pc := 4) d15_4 ?_
  refine K_aconst_null C (pc := 7) d15_7 ?_
  refine K_goto C (pc := 8) 29 d15_8 (by decide) (by decide) ?_
  refine K_areturn C (pc := 29) d15_29 rfl rfl rfl (by decide) (by decide) (fun _ _ => ⟨rfl, rfl⟩)
set_option maxRecDepth 65536 in
set_option maxHeartbeats 40000000 in
theorem m16n (l : Launch) (Z : State) (a0 : Array Value) (hw : ∀ d ∈ tables_1, d.before a0 Z = true) (a : Addr) (h0 : Heap) (F_multipleOccupied : Fld Z h0 a "com/example/roomyield/roomyield/RoomStatistics" "multipleOccupied" "Ljava/math/BigDecimal;" .null) :
    oMeets l Z (⟨"com/example/roomyield/roomyield/RoomStatistics", "multipleOccupancyPct", "()Ljava/math/BigDecimal;"⟩ : MethodName) prog_18_method_7_code 1 (some (.object "java/math/BigDecimal")) ({ frames := 0, cells := 0, slots := 0, locals := 0 } : Room) #[.ref a] h0 (fun a => h0.size ≤ a) (fun v h => v = some .null ∧ h = h0) := by
  refine oMeets.of pno_16 (fun _ q => q) (fun E _ q => Nat.le_trans E.1 q) (Ls := [.val (.ref a)]) (fun m => efo_16 m a) ?_
  intro p e s m below meth c C hs
  refine K_aloadN C (pc := 0) d16_0 rfl rfl ?_
  refine K_getF C (pc := 1) (tw44 hw) Via.refl F_multipleOccupied d16_1 ?_
  refine K_ifnonnull_null C (pc := 4) d16_4 ?_
  refine K_aconst_null C (pc := 7) d16_7 ?_
  refine K_goto C (pc := 8) 22 d16_8 (by decide) (by decide) ?_
  refine K_areturn C (pc := 22) d16_22 rfl rfl rfl (by decide) (by decide) (fun _ _ => ⟨rfl, rfl⟩)
theorem pno_0 : plainFor x = true := by first | exact plainFor_of_name (by first | (simp [plainName, overriddenIn]; done) | decide +kernel) | decide +kernel
theorem efo_0 (m : MethodId) (x0 : Int32) : entryFrame m #[.int x0] maxLocals = oF m 0 [.val (.int x0), .unset, .unset, .unset, .unset, .unset, .unset, .unset, .unset] [] := by first | (simp [entryFrame, oF, mkF, argsToLocals, Value.category, maxLocals]; done) | rfl
set_option maxRecDepth 65536 in
set_option maxHeartbeats 40000000 in
theorem m0_0 (l : Launch) (Z : State) (a0 : Array Value) (hw : ∀ d ∈ tables_1, d.before a0 Z = true) (p1 : Int32) (h0 : Heap) (hb3 : p1 &&& 1 = 0) (z0 : Addr) (X0 : Exa Z Z.heap z0 "java/math/BigDecimal") (F0 : Fld Z Z.heap z0 "java/math/BigDecimal" "intCompact" "J" (.long 0)) (G0 : Fld Z Z.heap z0 "java/math/BigDecimal" "scale" "I" (.int 0)) (S_ZERO : Sta Z Z.heap "java/math/BigDecimal" "ZERO" "Ljava/math/BigDecimal;" (.ref z0)) (za : Addr) (ca : Cell) (S_ZERO_THROUGH_TEN : Sta Z Z.heap "java/math/BigDecimal" "ZERO_THROUGH_TEN" "[Ljava/math/BigDecimal;" (.ref za)) (A0 : Arr Z Z.heap za ca (.object "java/math/BigDecimal")) (hlen : ca.slots.size = 11) (hel : ca.slots[0]? = some (.ref z0)) :
    oMeetsW l Z x code maxLocals ret room_1 #[.int p1] h0 (fun a => h0.size ≤ a) oT (fun v _ _ => v = some (.int 1)) := by
  refine oMeetsW.of pno_0 (fun _ q => q) (fun E _ q => Nat.le_trans E.1 q) (Ls := [.val (.int p1), .unset, .unset, .unset, .unset, .unset, .unset, .unset, .unset]) (fun m => efo_0 m p1) oTs ?_
  intro p e s m below meth c C hs
  refine K_iloadN C (pc := 0) at_0 rfl ?_
  refine K_iconst C (pc := 1) 1 at_1 (by decide) ?_
  refine K_iand C (pc := 2) at_2 ?_
  refine K_if C (pc := 3) 10 at_3 (by decide) (by decide) (fun hc3 => ?_) (fun hc3 => ?_)
  · simp only [oC, Classical.not_not] at hc3
    refine K_iconst C (pc := 10) 0 at_10 (by decide) ?_
    refine K_istoreN C (pc := 11) (Ls' := [_, _, _, _, _, _, _, _, _]) at_11 rfl ?_
    refine K_iloadN C (pc := 12) at_12 rfl ?_
    refine K_staticW C (pc := 13) (m1_0 l Z a0 hw _ z0 S_ZERO) (fun _ _ => trivial) (tw0 hw) (tw1 hw) (tw2 hw) (tw3 hw) (by decide) pdo_12 at_13 (argsL := [_]) (rest := _) rfl rfl rfl rfl (fun a q r => C.new a (Nat.le_trans q r)) (by decide) (Nat.le_of_ble_eq_true rfl) (by decide) (by decide) ?_
    rintro _ h1 _ ⟨a, rfl, X, F_roomsAvailable, F_roomsSold, F_complimentary, F_roomRevenue, F_guests, F_multipleOccupied⟩ -
    refine ⟨oT, trivial, oTs, ?_⟩
    dsimp only [Option.toList, List.cons_append, List.nil_append]
    refine K_astoreN C (pc := 16) (Ls' := [_, _, _, _, _, _, _, _, _]) at_16 rfl rfl ?_
    refine K_aloadN C (pc := 17) at_17 rfl rfl ?_
    refine K_virtual C (pc := 18) (m6 l Z a0 hw a .null rfl _ F_guests) (X) (tw46 hw) (tw47 hw) (oNF (tw49 hw)) (tw49 hw) (tw48 hw) (tw2 hw) (tw50 hw) (by decide) pdo_13 at_18 (argsL := []) (rest := _) rfl rfl rfl rfl (fun a q r => C.new a (Nat.le_trans q r)) (by decide) (Nat.le_of_ble_eq_true rfl) (by decide) (by decide) ?_
    rintro _ h2 ⟨rfl, rfl⟩ -
    dsimp only [Option.toList, List.cons_append, List.nil_append]
    refine K_ifnull_null C (pc := 21) 28 at_21 (by decide) (by decide) ?_
    refine K_iconst C (pc := 28) 0 at_28 (by decide) ?_
    refine K_istoreN C (pc := 29) (Ls' := [_, _, _, _, _, _, _, _, _]) at_29 rfl ?_
    refine K_aloadN C (pc := 30) at_30 rfl rfl ?_
    refine K_virtual C (pc := 31) (m7 l Z a0 hw a .null rfl _ F_multipleOccupied) (X) (tw51 hw) (tw52 hw) (oNF (tw54 hw)) (tw54 hw) (tw53 hw) (tw2 hw) (tw55 hw) (by decide) pdo_13 at_31 (argsL := []) (rest := _) rfl rfl rfl rfl (fun a q r => C.new a (Nat.le_trans q r)) (by decide) (Nat.le_of_ble_eq_true rfl) (by decide) (by decide) ?_
    rintro _ h2 ⟨rfl, rfl⟩ -
    dsimp only [Option.toList, List.cons_append, List.nil_append]
    refine K_ifnull_null C (pc := 34) 41 at_34 (by decide) (by decide) ?_
    refine K_iconst C (pc := 41) 0 at_41 (by decide) ?_
    refine K_istore C (pc := 42) (Ls' := [_, _, _, _, _, _, _, _, _]) at_42 rfl ?_
    refine K_iloadN C (pc := 44) at_44 rfl ?_
    refine K_iloadN C (pc := 45) at_45 rfl ?_
    refine K_icmp C (pc := 46) 59 at_46 (by decide) (by decide) (fun hc46 => ?_) (fun hc46 => ?_)
    · simp only [oC, Classical.not_not] at hc46
      exact absurd hc46 (by simp)
    · simp only [oC, Classical.not_not] at hc46
      refine K_iload C (pc := 49) at_49 rfl ?_
      refine K_iloadN C (pc := 51) at_51 rfl ?_
      refine K_icmp C (pc := 52) 59 at_52 (by decide) (by decide) (fun hc52 => ?_) (fun hc52 => ?_)
      · simp only [oC, Classical.not_not] at hc52
        exact absurd hc52 (by simp)
      · simp only [oC, Classical.not_not] at hc52
        refine K_iconst C (pc := 55) 1 at_55 (by decide) ?_
        refine K_goto C (pc := 56) 60 at_56 (by decide) (by decide) ?_
        refine K_istore C (pc := 60) (Ls' := [_, _, _, _, _, _, _, _, _]) at_60 rfl ?_
        refine K_aloadN C (pc := 62) at_62 rfl rfl ?_
        refine K_virtual C (pc := 63) (m8 l Z a0 hw a _ z0 X0 F0 G0 F_roomsSold F_roomsAvailable) (X) (tw56 hw) (tw57 hw) (oNF (tw59 hw)) (tw59 hw) (tw58 hw) (tw2 hw) (tw60 hw) (by decide) pdo_13 at_63 (argsL := []) (rest := _) rfl rfl rfl rfl (fun a q r => C.new a (Nat.le_trans q r)) (by decide) (Nat.le_of_ble_eq_true rfl) (by decide) (by decide) ?_
        rintro _ h2 ⟨rfl, rfl⟩ -
        dsimp only [Option.toList, List.cons_append, List.nil_append]
        refine K_ifnonnull_null C (pc := 66) at_66 ?_
        refine K_aloadN C (pc := 69) at_69 rfl rfl ?_
        refine K_virtual C (pc := 70) (m13 l Z a0 hw a _ z0 X0 F0 G0 F_roomRevenue F_roomsAvailable) (X) (tw80 hw) (tw81 hw) (oNF (tw83 hw)) (tw83 hw) (tw82 hw) (tw2 hw) (tw84 hw) (by decide) pdo_13 at_70 (argsL := []) (rest := _) rfl rfl rfl rfl (fun a q r => C.new a (Nat.le_trans q r)) (by decide) (Nat.le_of_ble_eq_true rfl) (by decide) (by decide) ?_
        rintro _ h2 ⟨rfl, rfl⟩ -
        dsimp only [Option.toList, List.cons_append, List.nil_append]
        refine K_ifnonnull_null C (pc := 73) at_73 ?_
        refine K_iconst C (pc := 76) 1 at_76 (by decide) ?_
        refine K_goto C (pc := 77) 81 at_77 (by decide) (by decide) ?_
        refine K_istore C (pc := 81) (Ls' := [_, _, _, _, _, _, _, _, _]) at_81 rfl ?_
        refine K_aloadN C (pc := 83) at_83 rfl rfl ?_
        refine K_virtual C (pc := 84) (m14 l Z a0 hw a _ z0 X0 F0 G0 F_roomRevenue F_roomsSold) (X) (tw86 hw) (tw87 hw) (oNF (tw89 hw)) (tw89 hw) (tw88 hw) (tw2 hw) (tw90 hw) (by decide) pdo_13 at_84 (argsL := []) (rest := _) rfl rfl rfl rfl (fun a q r => C.new a (Nat.le_trans q r)) (by decide) (Nat.le_of_ble_eq_true rfl) (by decide) (by decide) ?_
        rintro _ h2 ⟨rfl, rfl⟩ -
        dsimp only [Option.toList, List.cons_append, List.nil_append]
        refine K_ifnonnull_null C (pc := 87) at_87 ?_
        refine K_iconst C (pc := 90) 1 at_90 (by decide) ?_
        refine K_goto C (pc := 91) 95 at_91 (by decide) (by decide) ?_
        refine K_istore C (pc := 95) (Ls' := [_, _, _, _, _, _, _, _, _]) at_95 rfl ?_
        refine K_aloadN C (pc := 97) at_97 rfl rfl ?_
        refine K_virtual C (pc := 98) (m15n l Z a0 hw a _ F_guests) (X) (tw91 hw) (tw92 hw) (oNF (tw94 hw)) (tw94 hw) (tw93 hw) (tw2 hw) (tw95 hw) (by decide) pdo_13 at_98 (argsL := []) (rest := _) rfl rfl rfl rfl (fun a q r => C.new a (Nat.le_trans q r)) (by decide) (Nat.le_of_ble_eq_true rfl) (by decide) (by decide) ?_
        rintro _ h2 ⟨rfl, rfl⟩ -
        dsimp only [Option.toList, List.cons_append, List.nil_append]
        refine K_ifnonnull_null C (pc := 101) at_101 ?_
        refine K_aloadN C (pc := 104) at_104 rfl rfl ?_
        refine K_virtual C (pc := 105) (m16n l Z a0 hw a _ F_multipleOccupied) (X) (tw96 hw) (tw97 hw) (oNF (tw99 hw)) (tw99 hw) (tw98 hw) (tw2 hw) (tw100 hw) (by decide) pdo_13 at_105 (argsL := []) (rest := _) rfl rfl rfl rfl (fun a q r => C.new a (Nat.le_trans q r)) (by decide) (Nat.le_of_ble_eq_true rfl) (by decide) (by decide) ?_
        rintro _ h2 ⟨rfl, rfl⟩ -
        dsimp only [Option.toList, List.cons_append, List.nil_append]
        refine K_ifnonnull_null C (pc := 108) at_108 ?_
        refine K_iconst C (pc := 111) 1 at_111 (by decide) ?_
        refine K_goto C (pc := 112) 116 at_112 (by decide) (by decide) ?_
        refine K_istore C (pc := 116) (Ls' := [_, _, _, _, _, _, _, _, _]) at_116 rfl ?_
        refine K_iload C (pc := 118) at_118 rfl ?_
        refine K_if C (pc := 120) 142 at_120 (by decide) (by decide) (fun hc120 => ?_) (fun hc120 => ?_)
        · simp only [oC, Classical.not_not] at hc120
          exact absurd hc120 (by decide)
        · simp only [oC, Classical.not_not] at hc120
          refine K_iload C (pc := 123) at_123 rfl ?_
          refine K_if C (pc := 125) 142 at_125 (by decide) (by decide) (fun hc125 => ?_) (fun hc125 => ?_)
          · simp only [oC, Classical.not_not] at hc125
            exact absurd hc125 (by decide)
          · simp only [oC, Classical.not_not] at hc125
            refine K_iload C (pc := 128) at_128 rfl ?_
            refine K_if C (pc := 130) 142 at_130 (by decide) (by decide) (fun hc130 => ?_) (fun hc130 => ?_)
            · simp only [oC, Classical.not_not] at hc130
              exact absurd hc130 (by decide)
            · simp only [oC, Classical.not_not] at hc130
              refine K_iload C (pc := 133) at_133 rfl ?_
              refine K_if C (pc := 135) 142 at_135 (by decide) (by decide) (fun hc135 => ?_) (fun hc135 => ?_)
              · simp only [oC, Classical.not_not] at hc135
                exact absurd hc135 (by decide)
              · simp only [oC, Classical.not_not] at hc135
                refine K_iconst C (pc := 138) 1 at_138 (by decide) ?_
                refine K_goto C (pc := 139) 143 at_139 (by decide) (by decide) ?_
                refine K_ireturn C (pc := 143) at_143 (by simp) (by first | rfl | decide) (by decide) (by decide) (fun _ _ => rfl)
  · simp only [oC, Classical.not_not] at hc3
    exact absurd hb3 hc3
set_option maxRecDepth 65536 in
set_option maxHeartbeats 40000000 in
theorem m0_1 (l : Launch) (Z : State) (a0 : Array Value) (hw : ∀ d ∈ tables_1, d.before a0 Z = true) (p1 : Int32) (h0 : Heap) (hb3 : ¬ p1 &&& 1 = 0) (z0 : Addr) (X0 : Exa Z Z.heap z0 "java/math/BigDecimal") (F0 : Fld Z Z.heap z0 "java/math/BigDecimal" "intCompact" "J" (.long 0)) (G0 : Fld Z Z.heap z0 "java/math/BigDecimal" "scale" "I" (.int 0)) (S_ZERO : Sta Z Z.heap "java/math/BigDecimal" "ZERO" "Ljava/math/BigDecimal;" (.ref z0)) (za : Addr) (ca : Cell) (S_ZERO_THROUGH_TEN : Sta Z Z.heap "java/math/BigDecimal" "ZERO_THROUGH_TEN" "[Ljava/math/BigDecimal;" (.ref za)) (A0 : Arr Z Z.heap za ca (.object "java/math/BigDecimal")) (hlen : ca.slots.size = 11) (hel : ca.slots[0]? = some (.ref z0)) :
    oMeetsW l Z x code maxLocals ret room_1 #[.int p1] h0 (fun a => h0.size ≤ a) oT (fun v _ _ => v = some (.int 1)) := by
  refine oMeetsW.of pno_0 (fun _ q => q) (fun E _ q => Nat.le_trans E.1 q) (Ls := [.val (.int p1), .unset, .unset, .unset, .unset, .unset, .unset, .unset, .unset]) (fun m => efo_0 m p1) oTs ?_
  intro p e s m below meth c C hs
  refine K_iloadN C (pc := 0) at_0 rfl ?_
  refine K_iconst C (pc := 1) 1 at_1 (by decide) ?_
  refine K_iand C (pc := 2) at_2 ?_
  refine K_if C (pc := 3) 10 at_3 (by decide) (by decide) (fun hc3 => ?_) (fun hc3 => ?_)
  · simp only [oC, Classical.not_not] at hc3
    exact absurd hc3 hb3
  · simp only [oC, Classical.not_not] at hc3
    refine K_iconst C (pc := 6) 1 at_6 (by decide) ?_
    refine K_goto C (pc := 7) 11 at_7 (by decide) (by decide) ?_
    refine K_istoreN C (pc := 11) (Ls' := [_, _, _, _, _, _, _, _, _]) at_11 rfl ?_
    refine K_iloadN C (pc := 12) at_12 rfl ?_
    refine K_staticW C (pc := 13) (m1_1 l Z a0 hw _ z0 S_ZERO) (fun _ _ => trivial) (tw0 hw) (tw1 hw) (tw2 hw) (tw3 hw) (by decide) pdo_12 at_13 (argsL := [_]) (rest := _) rfl rfl rfl rfl (fun a q r => C.new a (Nat.le_trans q r)) (by decide) (Nat.le_of_ble_eq_true rfl) (by decide) (by decide) ?_
    rintro _ h1 _ ⟨a, rfl, X, F_roomsAvailable, F_roomsSold, F_complimentary, F_roomRevenue, F_guests, F_multipleOccupied⟩ -
    refine ⟨oT, trivial, oTs, ?_⟩
    dsimp only [Option.toList, List.cons_append, List.nil_append]
    refine K_astoreN C (pc := 16) (Ls' := [_, _, _, _, _, _, _, _, _]) at_16 rfl rfl ?_
    refine K_aloadN C (pc := 17) at_17 rfl rfl ?_
    refine K_virtual C (pc := 18) (m6 l Z a0 hw a (.ref z0) rfl _ F_guests) (X) (tw46 hw) (tw47 hw) (oNF (tw49 hw)) (tw49 hw) (tw48 hw) (tw2 hw) (tw50 hw) (by decide) pdo_13 at_18 (argsL := []) (rest := _) rfl rfl rfl rfl (fun a q r => C.new a (Nat.le_trans q r)) (by decide) (Nat.le_of_ble_eq_true rfl) (by decide) (by decide) ?_
    rintro _ h2 ⟨rfl, rfl⟩ -
    dsimp only [Option.toList, List.cons_append, List.nil_append]
    refine K_ifnull_ref C (pc := 21) at_21 ?_
    refine K_iconst C (pc := 24) 1 at_24 (by decide) ?_
    refine K_goto C (pc := 25) 29 at_25 (by decide) (by decide) ?_
    refine K_istoreN C (pc := 29) (Ls' := [_, _, _, _, _, _, _, _, _]) at_29 rfl ?_
    refine K_aloadN C (pc := 30) at_30 rfl rfl ?_
    refine K_virtual C (pc := 31) (m7 l Z a0 hw a (.ref z0) rfl _ F_multipleOccupied) (X) (tw51 hw) (tw52 hw) (oNF (tw54 hw)) (tw54 hw) (tw53 hw) (tw2 hw) (tw55 hw) (by decide) pdo_13 at_31 (argsL := []) (rest := _) rfl rfl rfl rfl (fun a q r => C.new a (Nat.le_trans q r)) (by decide) (Nat.le_of_ble_eq_true rfl) (by decide) (by decide) ?_
    rintro _ h2 ⟨rfl, rfl⟩ -
    dsimp only [Option.toList, List.cons_append, List.nil_append]
    refine K_ifnull_ref C (pc := 34) at_34 ?_
    refine K_iconst C (pc := 37) 1 at_37 (by decide) ?_
    refine K_goto C (pc := 38) 42 at_38 (by decide) (by decide) ?_
    refine K_istore C (pc := 42) (Ls' := [_, _, _, _, _, _, _, _, _]) at_42 rfl ?_
    refine K_iloadN C (pc := 44) at_44 rfl ?_
    refine K_iloadN C (pc := 45) at_45 rfl ?_
    refine K_icmp C (pc := 46) 59 at_46 (by decide) (by decide) (fun hc46 => ?_) (fun hc46 => ?_)
    · simp only [oC, Classical.not_not] at hc46
      exact absurd hc46 (by simp)
    · simp only [oC, Classical.not_not] at hc46
      refine K_iload C (pc := 49) at_49 rfl ?_
      refine K_iloadN C (pc := 51) at_51 rfl ?_
      refine K_icmp C (pc := 52) 59 at_52 (by decide) (by decide) (fun hc52 => ?_) (fun hc52 => ?_)
      · simp only [oC, Classical.not_not] at hc52
        exact absurd hc52 (by simp)
      · simp only [oC, Classical.not_not] at hc52
        refine K_iconst C (pc := 55) 1 at_55 (by decide) ?_
        refine K_goto C (pc := 56) 60 at_56 (by decide) (by decide) ?_
        refine K_istore C (pc := 60) (Ls' := [_, _, _, _, _, _, _, _, _]) at_60 rfl ?_
        refine K_aloadN C (pc := 62) at_62 rfl rfl ?_
        refine K_virtual C (pc := 63) (m8 l Z a0 hw a _ z0 X0 F0 G0 F_roomsSold F_roomsAvailable) (X) (tw56 hw) (tw57 hw) (oNF (tw59 hw)) (tw59 hw) (tw58 hw) (tw2 hw) (tw60 hw) (by decide) pdo_13 at_63 (argsL := []) (rest := _) rfl rfl rfl rfl (fun a q r => C.new a (Nat.le_trans q r)) (by decide) (Nat.le_of_ble_eq_true rfl) (by decide) (by decide) ?_
        rintro _ h2 ⟨rfl, rfl⟩ -
        dsimp only [Option.toList, List.cons_append, List.nil_append]
        refine K_ifnonnull_null C (pc := 66) at_66 ?_
        refine K_aloadN C (pc := 69) at_69 rfl rfl ?_
        refine K_virtual C (pc := 70) (m13 l Z a0 hw a _ z0 X0 F0 G0 F_roomRevenue F_roomsAvailable) (X) (tw80 hw) (tw81 hw) (oNF (tw83 hw)) (tw83 hw) (tw82 hw) (tw2 hw) (tw84 hw) (by decide) pdo_13 at_70 (argsL := []) (rest := _) rfl rfl rfl rfl (fun a q r => C.new a (Nat.le_trans q r)) (by decide) (Nat.le_of_ble_eq_true rfl) (by decide) (by decide) ?_
        rintro _ h2 ⟨rfl, rfl⟩ -
        dsimp only [Option.toList, List.cons_append, List.nil_append]
        refine K_ifnonnull_null C (pc := 73) at_73 ?_
        refine K_iconst C (pc := 76) 1 at_76 (by decide) ?_
        refine K_goto C (pc := 77) 81 at_77 (by decide) (by decide) ?_
        refine K_istore C (pc := 81) (Ls' := [_, _, _, _, _, _, _, _, _]) at_81 rfl ?_
        refine K_aloadN C (pc := 83) at_83 rfl rfl ?_
        refine K_virtual C (pc := 84) (m14 l Z a0 hw a _ z0 X0 F0 G0 F_roomRevenue F_roomsSold) (X) (tw86 hw) (tw87 hw) (oNF (tw89 hw)) (tw89 hw) (tw88 hw) (tw2 hw) (tw90 hw) (by decide) pdo_13 at_84 (argsL := []) (rest := _) rfl rfl rfl rfl (fun a q r => C.new a (Nat.le_trans q r)) (by decide) (Nat.le_of_ble_eq_true rfl) (by decide) (by decide) ?_
        rintro _ h2 ⟨rfl, rfl⟩ -
        dsimp only [Option.toList, List.cons_append, List.nil_append]
        refine K_ifnonnull_null C (pc := 87) at_87 ?_
        refine K_iconst C (pc := 90) 1 at_90 (by decide) ?_
        refine K_goto C (pc := 91) 95 at_91 (by decide) (by decide) ?_
        refine K_istore C (pc := 95) (Ls' := [_, _, _, _, _, _, _, _, _]) at_95 rfl ?_
        refine K_aloadN C (pc := 97) at_97 rfl rfl ?_
        refine K_virtual C (pc := 98) (m15 l Z a0 hw a _ z0 X0 F0 G0 za ca S_ZERO_THROUGH_TEN A0 hlen hel F_guests F_roomsSold) (X) (tw91 hw) (tw92 hw) (oNF (tw94 hw)) (tw94 hw) (tw93 hw) (tw2 hw) (tw95 hw) (by decide) pdo_13 at_98 (argsL := []) (rest := _) rfl rfl rfl rfl (fun a q r => C.new a (Nat.le_trans q r)) (by decide) (Nat.le_of_ble_eq_true rfl) (by decide) (by decide) ?_
        rintro _ h2 ⟨rfl, rfl⟩ -
        dsimp only [Option.toList, List.cons_append, List.nil_append]
        refine K_ifnonnull_null C (pc := 101) at_101 ?_
        refine K_aloadN C (pc := 104) at_104 rfl rfl ?_
        refine K_virtual C (pc := 105) (m16 l Z a0 hw a _ z0 X0 F0 G0 F_multipleOccupied F_roomsSold) (X) (tw96 hw) (tw97 hw) (oNF (tw99 hw)) (tw99 hw) (tw98 hw) (tw2 hw) (tw100 hw) (by decide) pdo_13 at_105 (argsL := []) (rest := _) rfl rfl rfl rfl (fun a q r => C.new a (Nat.le_trans q r)) (by decide) (Nat.le_of_ble_eq_true rfl) (by decide) (by decide) ?_
        rintro _ h2 ⟨rfl, rfl⟩ -
        dsimp only [Option.toList, List.cons_append, List.nil_append]
        refine K_ifnonnull_null C (pc := 108) at_108 ?_
        refine K_iconst C (pc := 111) 1 at_111 (by decide) ?_
        refine K_goto C (pc := 112) 116 at_112 (by decide) (by decide) ?_
        refine K_istore C (pc := 116) (Ls' := [_, _, _, _, _, _, _, _, _]) at_116 rfl ?_
        refine K_iload C (pc := 118) at_118 rfl ?_
        refine K_if C (pc := 120) 142 at_120 (by decide) (by decide) (fun hc120 => ?_) (fun hc120 => ?_)
        · simp only [oC, Classical.not_not] at hc120
          exact absurd hc120 (by decide)
        · simp only [oC, Classical.not_not] at hc120
          refine K_iload C (pc := 123) at_123 rfl ?_
          refine K_if C (pc := 125) 142 at_125 (by decide) (by decide) (fun hc125 => ?_) (fun hc125 => ?_)
          · simp only [oC, Classical.not_not] at hc125
            exact absurd hc125 (by decide)
          · simp only [oC, Classical.not_not] at hc125
            refine K_iload C (pc := 128) at_128 rfl ?_
            refine K_if C (pc := 130) 142 at_130 (by decide) (by decide) (fun hc130 => ?_) (fun hc130 => ?_)
            · simp only [oC, Classical.not_not] at hc130
              exact absurd hc130 (by decide)
            · simp only [oC, Classical.not_not] at hc130
              refine K_iload C (pc := 133) at_133 rfl ?_
              refine K_if C (pc := 135) 142 at_135 (by decide) (by decide) (fun hc135 => ?_) (fun hc135 => ?_)
              · simp only [oC, Classical.not_not] at hc135
                exact absurd hc135 (by decide)
              · simp only [oC, Classical.not_not] at hc135
                refine K_iconst C (pc := 138) 1 at_138 (by decide) ?_
                refine K_goto C (pc := 139) 143 at_139 (by decide) (by decide) ?_
                refine K_ireturn C (pc := 143) at_143 (by simp) (by first | rfl | decide) (by decide) (by decide) (fun _ _ => rfl)
theorem m0 (l : Launch) (Z : State) (a0 : Array Value) (hw : ∀ d ∈ tables_1, d.before a0 Z = true) (p1 : Int32) (h0 : Heap) (z0 : Addr) (X0 : Exa Z Z.heap z0 "java/math/BigDecimal") (F0 : Fld Z Z.heap z0 "java/math/BigDecimal" "intCompact" "J" (.long 0)) (G0 : Fld Z Z.heap z0 "java/math/BigDecimal" "scale" "I" (.int 0)) (S_ZERO : Sta Z Z.heap "java/math/BigDecimal" "ZERO" "Ljava/math/BigDecimal;" (.ref z0)) (za : Addr) (ca : Cell) (S_ZERO_THROUGH_TEN : Sta Z Z.heap "java/math/BigDecimal" "ZERO_THROUGH_TEN" "[Ljava/math/BigDecimal;" (.ref za)) (A0 : Arr Z Z.heap za ca (.object "java/math/BigDecimal")) (hlen : ca.slots.size = 11) (hel : ca.slots[0]? = some (.ref z0)) :
    oMeetsW l Z x code maxLocals ret room_1 #[.int p1] h0 (fun a => h0.size ≤ a) oT (fun v _ _ => v = some (.int 1)) := by
  by_cases hb : p1 &&& 1 = 0
  · exact m0_0 l Z a0 hw p1 h0 hb z0 X0 F0 G0 S_ZERO za ca S_ZERO_THROUGH_TEN A0 hlen hel
  · exact m0_1 l Z a0 hw p1 h0 hb z0 X0 F0 G0 S_ZERO za ca S_ZERO_THROUGH_TEN A0 hlen hel
set_option maxRecDepth 65536 in
set_option maxHeartbeats 40000000 in
theorem comes_1 {Post : Tables → Env → Array Value → State → Outcome → State → Prop} (hpost : ∀ tb e args s v u, (limb_1_1.after args s (.returned v) u = true ∧ limb_1_2.after args s (.returned v) u = true ∧ True) → ReturnedEndW s (.returned v) u (Jvm.fieldLocs frame_1_writes args s ++ Jvm.arrayLocs frame_1_arrays args s ++ Jvm.staticLocs frame_1_statics s) 24 4224 → Post tb e args s (.returned v) u) :
    ArmFor flags0 classFile x code maxLocals ret World_1 tables_1 room_1 Calls_1 rest_1 Pre_1 Post := by
  intro l hfl _ _ p e ha hc hk s m args below hf hA hF happ hP
  obtain ⟨hcalls, hrest, hpre⟩ := hP
  obtain ⟨-, -, -, hnamed, -, -, -, hat⟩ := (Spec.applies_iff hf).mp happ
  obtain ⟨hg, hn⟩ := and_e (Cond.before_iff.mp (show (Jvm.Cond.and given_1 narrow_1).before args s = true from hpre))
  obtain ⟨gc, g0⟩ := and_e hg
  obtain ⟨w0, rfl⟩ : ∃ w0 : Value, args = #[w0] := by
    have hs : args.size = 1 := by simpa [Cond.value, given_1] using gc
    obtain ⟨L⟩ := args
    match L, hs with
    | [w0], _ => exact ⟨w0, rfl⟩
  have hw := fun d (hd : d ∈ tables_1) => atoms_spec (ws := Jvm.Cond.code x code maxLocals ret :: tables_1) hat d (List.mem_cons_of_mem _ hd)
  obtain ⟨i0, ei0⟩ := is_v g0
  obtain rfl : w0 = (.int i0) := Option.some.inj ei0
  obtain ⟨hsets, hown0⟩ := atoms_of _ (rest_1_c_eq ▸ (show rest_1_c.before _ s = true from hrest))
  obtain ⟨z0, e0⟩ := exa_v (Cond.before_iff.mp (hsets _ (List.mem_of_getElem? (i := 4) rfl)))
  have X0 := Exa.start e0 (Cond.before_iff.mp (hsets _ (List.mem_of_getElem? (i := 4) rfl)))
  have S_ZERO := Sta.start e0 (Or.inl (hsets _ (List.mem_of_getElem? (i := 1) rfl)))
  have G0 := Fld.start ((fld_at e0).symm.trans (oEqI (Cond.before_iff.mp (hsets _ (List.mem_of_getElem? (i := 5) rfl)))))
  have F0 := Fld.start ((fld_at e0).symm.trans (oEqL (Cond.before_iff.mp (hsets _ (List.mem_of_getElem? (i := 6) rfl)))))
  obtain ⟨za, ea⟩ := arr_v (Cond.before_iff.mp (hsets _ (List.mem_of_getElem? (i := 31) rfl)))
  obtain ⟨ca, A0⟩ := Arr.start ea (Cond.before_iff.mp (hsets _ (List.mem_of_getElem? (i := 31) rfl)))
  have S_ZERO_THROUGH_TEN := Sta.start ea (Or.inl (hsets _ (List.mem_of_getElem? (i := 14) rfl)))
  have hel := (elem_in (oEqR (Cond.before_iff.mp (hsets _ (List.mem_of_getElem? (i := 34) rfl))) e0) ea (Term.int_eval 0) A0.1).2
  have hlen : ca.slots.size = 11 := oLen ea A0 (Cond.before_iff.mp (hsets _ (List.mem_of_getElem? (i := 33) rfl)))
  obtain ⟨nn, oo, h1, h2, h3, _, L, rfl, ⟨rfl, N, -⟩, hq⟩ := (m0 l s _ hw i0 s.heap z0 X0 F0 G0 S_ZERO za ca S_ZERO_THROUGH_TEN A0 hlen hel) ⟨Nat.le_refl _, fun _ _ q => q⟩ tables_1 p e ha hc hk s m _ below hf ((Spec.applies_iff_loose hf).mp happ).1 ⟨rfl, State.Warmed39.refl s, rfl, trivial⟩ trivial
  refine ⟨nn, _, h1, h2, h3, hpost _ _ _ _ _ _ ⟨Cond.after_iff.mpr rfl, Cond.after_iff.mpr (eq_i res_at (Term.int_eval (1)) rfl), trivial⟩ ⟨hq.1, hq.2.1, hq.2.2.1, (hq.2.2.2.sift fun y hy => Or.inr (N y hy)).mono (by decide) (by decide)⟩⟩
theorem main_1_1 : Claimed_1_1 := comes_1 fun _ _ _ _ _ _ h hF => ⟨h.1, hF⟩
theorem main_1_2 : Claimed_1_2 := comes_1 fun _ _ _ _ _ _ h hF => ⟨h.2.1, hF⟩
end Jvm.Pilot.@@N@@
namespace Jvm.Pilot.@@N@@
open Jvm Jvm.ClassFile Sem Op Lib Jvm.Free Jvm.Stand Jvm.Pilot.@@N@@.Jvm.D
/-! MADE BY PROGRAM (witnessworld.py) out of the Statement's table words and the real class files: 22 classes; the members and pool entries that the words name. The judged class is class 1, her method 1. -/
namespace start1
open Jvm.ClassFile
def u (s : String) : CpInfo := .utf8 (stringToUtf16 s)
/-- a pool by its gaps: so many unusable entries, then the entry; so many at the end -/
def gap : Nat → List CpInfo → List CpInfo
  | 0, r => r
  | n + 1, r => .unusable :: gap n r
def poolList (es : List (Nat × CpInfo)) (last : Nat) : List CpInfo := es.foldr (fun e r => gap e.1 (e.2 :: r)) (gap last [])
def pool (es : List (Nat × CpInfo)) (last : Nat) : Array CpInfo := ⟨poolList es last⟩
def fileOf (pool : Array CpInfo) (this : Nat) (attrs : Array Attribute := #[]) (ms : Array MethodInfo := #[]) (fl : Nat := 33) (sup : Nat := 0) (ifs : Array Nat := #[]) (fds : Array FieldInfo := #[]) : ClassFile where
  minorVersion := 0
  majorVersion := 65
  constantPool := pool
  accessFlags := fl
  thisClass := this
  superClass := sup
  interfaces := ifs
  fields := fds
  methods := ms
  attributes := attrs
def plain (name : String) (sup : Option ClassId) : Class where
  name := name
  kind := .ordinary
  loader := none
  accessFlags := 33
  super := sup
  interfaces := #[]
  cf := none
  fields := #[]
  methods := #[]
  instanceTypes := #[]
  staticTypes := #[]
  resolved := #[]
  callSites := []
  init := .initialized
  statics := none
  mirror := none

def pool0 : Array CpInfo := pool [(5, u "<init>"), (0, u "()V"), (1, .class_ 10), (1, u "java/lang/Object")] 113

def k0c0 : Code := { maxStack := 0, maxLocals := 1, code := object_method_1_code, exceptionTable := #[], attributes := #[] }
def k0m0 : Method := { name := "<init>", desc := "()V", sig := { parameters := [], returnType := none }, accessFlags := 1, code := some k0c0 }
/-- java/lang/Object -/
def k0 : Class := { plain "java/lang/Object" none with
  accessFlags := 33
  interfaces := #[]
  cf := some (fileOf pool0 8 #[] #[{ accessFlags := 1, nameIndex := 5, descriptorIndex := 6, attributes := #[] }] 33 0 #[] #[])
  fields := #[]
  methods := #[k0m0]
  instanceTypes := #[]
  staticTypes := #[]
  resolved := Array.replicate 124 none
  statics := none }

def pool1 : Array CpInfo := pool [(2, .class_ 4), (1, u "java/lang/Object"), (0, u "<init>"), (0, u "()V"), (0, .methodref 8 9), (0, .class_ 10), (0, .nameAndType 11 12), (0, u "com/example/roomyield/roomyield/RoomStatistics"), (0, u "none"), (0, u "(Z)Lcom/example/roomyield/roomyield/RoomStatistics;"), (0, .methodref 8 14), (0, .nameAndType 15 16), (0, u "guests"), (0, u "()Ljava/math/BigDecimal;"), (0, .methodref 8 18), (0, .nameAndType 19 16), (0, u "multipleOccupied"), (0, .methodref 8 21), (0, .nameAndType 22 16), (0, u "occupancyPct"), (0, .methodref 8 24), (0, .nameAndType 25 16), (0, u "revpar"), (0, .methodref 8 27), (0, .nameAndType 28 16), (0, u "adr"), (0, .methodref 8 30), (0, .nameAndType 31 16), (0, u "doubleOccupancyPct"), (0, .methodref 8 33), (0, .nameAndType 34 16), (0, u "multipleOccupancyPct"), (0, .class_ 36), (0, u "com/example/roomyield/roomyield/RoomStatisticsNonePinLaw"), (2, u "law"), (0, u "(I)Z")] 3

def k1m0 : Method := { name := "<init>", desc := "()V", sig := { parameters := [], returnType := none }, accessFlags := 2, code := none }
def k1c1 : Code := { maxStack := 2, maxLocals := 9, code := code, exceptionTable := #[], attributes := #[] }
def k1m1 : Method := { name := "law", desc := "(I)Z", sig := { parameters := [.int], returnType := some .boolean }, accessFlags := 9, code := some k1c1 }
/-- com/example/roomyield/roomyield/RoomStatisticsNonePinLaw -/
def k1 : Class := { plain "com/example/roomyield/roomyield/RoomStatisticsNonePinLaw" (some 0) with
  accessFlags := 49
  interfaces := #[]
  cf := some (fileOf pool1 35 #[] #[{ accessFlags := 2, nameIndex := 5, descriptorIndex := 6, attributes := #[] }, { accessFlags := 9, nameIndex := 39, descriptorIndex := 40, attributes := #[] }] 49 2 #[] #[])
  fields := #[]
  methods := #[k1m0, k1m1]
  instanceTypes := #[]
  staticTypes := #[]
  resolved := Array.replicate 44 none
  statics := none }

def pool2 : Array CpInfo := pool [(1, .methodref 2 3), (0, .class_ 4), (0, .nameAndType 5 6), (0, u "java/lang/Object"), (0, u "<init>"), (0, u "()V"), (0, .class_ 8), (0, u "java/lang/Record")] 13

def k2c0 : Code := { maxStack := 1, maxLocals := 1, code := jdk_30_method_1_code, exceptionTable := #[], attributes := #[] }
def k2m0 : Method := { name := "<init>", desc := "()V", sig := { parameters := [], returnType := none }, accessFlags := 4, code := some k2c0 }
/-- java/lang/Record -/
def k2 : Class := { plain "java/lang/Record" (some 0) with
  accessFlags := 1057
  interfaces := #[]
  cf := some (fileOf pool2 7 #[] #[{ accessFlags := 4, nameIndex := 5, descriptorIndex := 6, attributes := #[] }] 1057 2 #[] #[])
  fields := #[]
  methods := #[k2m0]
  instanceTypes := #[]
  staticTypes := #[]
  resolved := Array.replicate 22 none
  statics := none }

def pool3 : Array CpInfo := pool [(1, .fieldref 2 3), (0, .class_ 4), (0, .nameAndType 5 6), (0, u "java/math/BigDecimal"), (0, u "ZERO"), (0, u "Ljava/math/BigDecimal;"), (0, .class_ 8), (0, u "com/example/roomyield/roomyield/RoomStatistics"), (0, .methodref 7 10), (0, .nameAndType 11 12), (0, u "<init>"), (0, u "(Ljava/math/BigDecimal;Ljava/math/BigDecimal;Ljava/math/BigDecimal;Ljava/math/BigDecimal;Ljava/math/BigDecimal;Ljava/math/BigDecimal;)V"), (0, .methodref 14 15), (0, .class_ 16), (0, .nameAndType 11 17), (0, u "java/lang/Record"), (0, u "()V"), (0, .string 19), (0, u "roomsAvailable"), (0, .methodref 21 22), (0, .class_ 23), (0, .nameAndType 24 25), (0, u "java/util/Objects"), (0, u "requireNonNull"), (0, u "(Ljava/lang/Object;Ljava/lang/String;)Ljava/lang/Object;"), (0, .string 27), (0, u "roomsSold"), (0, .string 29), (0, u "complimentary"), (0, .string 31), (0, u "roomRevenue"), (0, .fieldref 7 33), (0, .nameAndType 19 6), (0, .fieldref 7 35), (0, .nameAndType 27 6), (0, .fieldref 7 37), (0, .nameAndType 29 6), (0, .fieldref 7 39), (0, .nameAndType 31 6), (0, .fieldref 7 41), (0, .nameAndType 42 6), (0, u "guests"), (0, .fieldref 7 44), (0, .nameAndType 45 6), (0, u "multipleOccupied"), (3, u "(Ljava/math/BigDecimal;)Ljava/math/BigDecimal;"), (3, u "(Ljava/math/BigDecimal;Ljava/math/BigDecimal;)Ljava/math/BigDecimal;"), (0, .methodref 55 56), (0, .class_ 57), (0, .nameAndType 58 53), (0, u "com/example/roomyield/roomyield/Figures"), (0, u "percent"), (0, .methodref 2 60), (0, .nameAndType 61 49), (0, u "subtract"), (0, .methodref 55 63), (0, .nameAndType 64 53), (0, u "ratio"), (15, u "none"), (0, u "(Z)Lcom/example/roomyield/roomyield/RoomStatistics;"), (3, u "occupancyPct"), (0, u "()Ljava/math/BigDecimal;"), (0, u "doubleOccupancyPct"), (0, u "multipleOccupancyPct"), (0, u "adr"), (0, u "revpar")] 28

def k3c0 : Code := { maxStack := 2, maxLocals := 7, code := prog_18_method_1_code, exceptionTable := #[], attributes := #[] }
def k3m0 : Method := { name := "<init>", desc := "(Ljava/math/BigDecimal;Ljava/math/BigDecimal;Ljava/math/BigDecimal;Ljava/math/BigDecimal;Ljava/math/BigDecimal;Ljava/math/BigDecimal;)V", sig := { parameters := [(.object "java/math/BigDecimal"), (.object "java/math/BigDecimal"), (.object "java/math/BigDecimal"), (.object "java/math/BigDecimal"), (.object "java/math/BigDecimal"), (.object "java/math/BigDecimal")], returnType := none }, accessFlags := 1, code := some k3c0 }
def k3c1 : Code := { maxStack := 8, maxLocals := 2, code := prog_18_method_2_code, exceptionTable := #[], attributes := #[] }
def k3m1 : Method := { name := "none", desc := "(Z)Lcom/example/roomyield/roomyield/RoomStatistics;", sig := { parameters := [.boolean], returnType := some (.object "com/example/roomyield/roomyield/RoomStatistics") }, accessFlags := 9, code := some k3c1 }
def k3c2 : Code := { maxStack := 2, maxLocals := 1, code := prog_18_method_5_code, exceptionTable := #[], attributes := #[] }
def k3m2 : Method := { name := "occupancyPct", desc := "()Ljava/math/BigDecimal;", sig := { parameters := [], returnType := some (.object "java/math/BigDecimal") }, accessFlags := 1, code := some k3c2 }
def k3c3 : Code := { maxStack := 2, maxLocals := 1, code := prog_18_method_6_code, exceptionTable := #[], attributes := #[] }
def k3m3 : Method := { name := "doubleOccupancyPct", desc := "()Ljava/math/BigDecimal;", sig := { parameters := [], returnType := some (.object "java/math/BigDecimal") }, accessFlags := 1, code := some k3c3 }
def k3c4 : Code := { maxStack := 2, maxLocals := 1, code := prog_18_method_7_code, exceptionTable := #[], attributes := #[] }
def k3m4 : Method := { name := "multipleOccupancyPct", desc := "()Ljava/math/BigDecimal;", sig := { parameters := [], returnType := some (.object "java/math/BigDecimal") }, accessFlags := 1, code := some k3c4 }
def k3c5 : Code := { maxStack := 2, maxLocals := 1, code := prog_18_method_8_code, exceptionTable := #[], attributes := #[] }
def k3m5 : Method := { name := "adr", desc := "()Ljava/math/BigDecimal;", sig := { parameters := [], returnType := some (.object "java/math/BigDecimal") }, accessFlags := 1, code := some k3c5 }
def k3c6 : Code := { maxStack := 2, maxLocals := 1, code := prog_18_method_9_code, exceptionTable := #[], attributes := #[] }
def k3m6 : Method := { name := "revpar", desc := "()Ljava/math/BigDecimal;", sig := { parameters := [], returnType := some (.object "java/math/BigDecimal") }, accessFlags := 1, code := some k3c6 }
def k3c7 : Code := { maxStack := 1, maxLocals := 1, code := prog_18_method_17_code, exceptionTable := #[], attributes := #[] }
def k3m7 : Method := { name := "guests", desc := "()Ljava/math/BigDecimal;", sig := { parameters := [], returnType := some (.object "java/math/BigDecimal") }, accessFlags := 1, code := some k3c7 }
def k3c8 : Code := { maxStack := 1, maxLocals := 1, code := prog_18_method_18_code, exceptionTable := #[], attributes := #[] }
def k3m8 : Method := { name := "multipleOccupied", desc := "()Ljava/math/BigDecimal;", sig := { parameters := [], returnType := some (.object "java/math/BigDecimal") }, accessFlags := 1, code := some k3c8 }
/-- com/example/roomyield/roomyield/RoomStatistics -/
def k3 : Class := { plain "com/example/roomyield/roomyield/RoomStatistics" (some 2) with
  accessFlags := 49
  interfaces := #[]
  cf := some (fileOf pool3 7 #[] #[{ accessFlags := 1, nameIndex := 11, descriptorIndex := 12, attributes := #[] }, { accessFlags := 9, nameIndex := 80, descriptorIndex := 81, attributes := #[] }, { accessFlags := 1, nameIndex := 85, descriptorIndex := 86, attributes := #[] }, { accessFlags := 1, nameIndex := 87, descriptorIndex := 86, attributes := #[] }, { accessFlags := 1, nameIndex := 88, descriptorIndex := 86, attributes := #[] }, { accessFlags := 1, nameIndex := 89, descriptorIndex := 86, attributes := #[] }, { accessFlags := 1, nameIndex := 90, descriptorIndex := 86, attributes := #[] }, { accessFlags := 1, nameIndex := 42, descriptorIndex := 86, attributes := #[] }, { accessFlags := 1, nameIndex := 45, descriptorIndex := 86, attributes := #[] }] 49 14 #[] #[{ accessFlags := 18, nameIndex := 19, descriptorIndex := 6, attributes := #[] }, { accessFlags := 18, nameIndex := 27, descriptorIndex := 6, attributes := #[] }, { accessFlags := 18, nameIndex := 29, descriptorIndex := 6, attributes := #[] }, { accessFlags := 18, nameIndex := 31, descriptorIndex := 6, attributes := #[] }, { accessFlags := 18, nameIndex := 42, descriptorIndex := 6, attributes := #[] }, { accessFlags := 18, nameIndex := 45, descriptorIndex := 6, attributes := #[] }])
  fields := #[{ name := "roomsAvailable", type := (.object "java/math/BigDecimal"), accessFlags := 18, slot := 0, constantValue := 0 }, { name := "roomsSold", type := (.object "java/math/BigDecimal"), accessFlags := 18, slot := 1, constantValue := 0 }, { name := "complimentary", type := (.object "java/math/BigDecimal"), accessFlags := 18, slot := 2, constantValue := 0 }, { name := "roomRevenue", type := (.object "java/math/BigDecimal"), accessFlags := 18, slot := 3, constantValue := 0 }, { name := "guests", type := (.object "java/math/BigDecimal"), accessFlags := 18, slot := 4, constantValue := 0 }, { name := "multipleOccupied", type := (.object "java/math/BigDecimal"), accessFlags := 18, slot := 5, constantValue := 0 }]
  methods := #[k3m0, k3m1, k3m2, k3m3, k3m4, k3m5, k3m6, k3m7, k3m8]
  instanceTypes := #[(.object "java/math/BigDecimal"), (.object "java/math/BigDecimal"), (.object "java/math/BigDecimal"), (.object "java/math/BigDecimal"), (.object "java/math/BigDecimal"), (.object "java/math/BigDecimal")]
  staticTypes := #[]
  resolved := Array.replicate 119 none
  statics := none }

def pool4 : Array CpInfo := pool [(1, .class_ 2), (0, u "java/io/Serializable"), (0, .class_ 4), (0, u "java/lang/Object")] 2

/-- java/io/Serializable -/
def k4 : Class := { plain "java/io/Serializable" (some 0) with
  accessFlags := 1537
  interfaces := #[]
  cf := some (fileOf pool4 1 #[] #[] 1537 3 #[] #[])
  fields := #[]
  methods := #[]
  instanceTypes := #[]
  staticTypes := #[]
  resolved := Array.replicate 7 none
  statics := none }

def pool5 : Array CpInfo := pool [(2, .class_ 4), (1, u "java/lang/Object"), (0, u "<init>"), (0, u "()V"), (1, .class_ 10), (1, u "java/lang/Number"), (2, .class_ 14), (0, u "java/io/Serializable"), (0, u "serialVersionUID"), (0, u "J")] 20

def k5m0 : Method := { name := "<init>", desc := "()V", sig := { parameters := [], returnType := none }, accessFlags := 1, code := none }
/-- java/lang/Number -/
def k5 : Class := { plain "java/lang/Number" (some 0) with
  accessFlags := 1057
  interfaces := #[4]
  cf := some (fileOf pool5 8 #[] #[{ accessFlags := 1, nameIndex := 5, descriptorIndex := 6, attributes := #[] }] 1057 2 #[13] #[{ accessFlags := 26, nameIndex := 15, descriptorIndex := 16, attributes := #[] }])
  fields := #[{ name := "serialVersionUID", type := .long, accessFlags := 26, slot := 0, constantValue := 0 }]
  methods := #[k5m0]
  instanceTypes := #[]
  staticTypes := #[.long]
  resolved := Array.replicate 37 none
  statics := none }

def pool6 : Array CpInfo := pool [(1, .class_ 2), (0, u "java/lang/Comparable"), (0, .class_ 4), (0, u "java/lang/Object")] 7

/-- java/lang/Comparable -/
def k6 : Class := { plain "java/lang/Comparable" (some 0) with
  accessFlags := 1537
  interfaces := #[]
  cf := some (fileOf pool6 1 #[] #[] 1537 3 #[] #[])
  fields := #[]
  methods := #[]
  instanceTypes := #[]
  staticTypes := #[]
  resolved := Array.replicate 12 none
  statics := none }

def pool7 : Array CpInfo := pool [(3, .class_ 4), (0, u "java/math/BigDecimal"), (2, .class_ 8), (0, u "java/lang/Long"), (3, .class_ 14), (1, u "java/lang/Number"), (2, .fieldref 3 18), (0, .nameAndType 19 20), (0, u "scale"), (0, u "I"), (2, u "precision"), (0, .fieldref 3 25), (0, .nameAndType 26 27), (0, u "intCompact"), (0, u "J"), (2, u "intVal"), (0, u "Ljava/math/BigInteger;"), (65, u "LONG_TEN_POWERS_TABLE"), (0, u "[J"), (16, u "(J)I"), (9, .long 9223372036854775808), (36, u "()I"), (24, u "ZERO"), (2, u "INFLATED_BIGINT"), (4, u "valueOf"), (10, u "TWO"), (29, .methodref 3 237), (0, .nameAndType 195 238), (0, u "(J)Ljava/math/BigDecimal;"), (7, .fieldref 3 247), (0, .nameAndType 248 249), (0, u "ZERO_THROUGH_TEN"), (0, u "[Ljava/math/BigDecimal;"), (2, u "ZERO_SCALED_BY"), (4, .methodref 3 258), (0, .nameAndType 259 260), (0, u "add"), (0, u "(JIJI)Ljava/math/BigDecimal;"), (8, u "(Ljava/math/BigDecimal;)Ljava/math/BigDecimal;"), (2, u "signum"), (40, u "$assertionsDisabled"), (0, u "Z"), (7, u "(JJ)J"), (5, .methodref 3 329), (0, .nameAndType 195 330), (0, u "(JI)Ljava/math/BigDecimal;"), (5, u "subtract"), (7, u "(JJI)Ljava/math/BigDecimal;"), (133, u "ONE_TENTH"), (0, u "Ljava/math/BigDecimal;"), (5, u "TEN"), (14, .class_ 502), (1, u "java/math/BigDecimal$1"), (15, u "ONE_HALF"), (16, u "ONE"), (60, .methodref 7 597), (0, .nameAndType 272 115), (45, u "stringCache"), (0, u "Ljava/lang/String;"), (52, .class_ 699), (1, u "java/math/BigDecimal$LongOverflow"), (8, u "FLOAT_10_POW"), (0, u "[F"), (39, u "DOUBLE_10_POW"), (0, u "[D"), (19, .class_ 772), (1, u "java/math/BigDecimal$StringBuilderHelper"), (35, u "BIG_TEN_POWERS_TABLE_MAX"), (2, u "BIG_TEN_POWERS_TABLE"), (0, u "[Ljava/math/BigInteger;"), (14, u "THRESHOLDS_TABLE"), (23, .class_ 853), (1, u "java/math/BigDecimal$UnsafeHolder"), (142, .methodref 3 997), (0, .nameAndType 259 322), (2, .methodref 3 1001), (0, .nameAndType 259 344), (66, u "LONGLONG_TEN_POWERS_TABLE"), (0, u "[[J"), (112, u "BIG_TEN_POWERS_TABLE_INITLEN"), (113, .class_ 1297), (0, u "java/lang/Comparable"), (0, u "L"), (0, u "D"), (1, u "P_F"), (1, u "Q_MIN_F"), (1, u "Q_MAX_F"), (1, u "P_D"), (1, u "Q_MIN_D"), (1, u "Q_MAX_D"), (1, u "INFLATED"), (0, u "MAX_COMPACT_DIGITS"), (1, u "serialVersionUID"), (2, u "HALF_LONG_MAX_VALUE"), (0, u "HALF_LONG_MIN_VALUE"), (0, u "ROUND_UP"), (6, u "ROUND_DOWN"), (1, u "ROUND_CEILING"), (1, u "ROUND_FLOOR"), (1, u "ROUND_HALF_UP"), (1, u "ROUND_HALF_DOWN"), (1, u "ROUND_HALF_EVEN"), (1, u "ROUND_UNNECESSARY"), (1, u "DIV_NUM_BASE")] 294

def k7c0 : Code := { maxStack := 7, maxLocals := 3, code := jdk_17_method_20_code, exceptionTable := #[], attributes := #[] }
def k7m0 : Method := { name := "valueOf", desc := "(JI)Ljava/math/BigDecimal;", sig := { parameters := [.long, .int], returnType := some (.object "java/math/BigDecimal") }, accessFlags := 9, code := some k7c0 }
def k7c1 : Code := { maxStack := 7, maxLocals := 2, code := jdk_17_method_21_code, exceptionTable := #[], attributes := #[] }
def k7m1 : Method := { name := "valueOf", desc := "(J)Ljava/math/BigDecimal;", sig := { parameters := [.long], returnType := some (.object "java/math/BigDecimal") }, accessFlags := 9, code := some k7c1 }
def k7c2 : Code := { maxStack := 6, maxLocals := 2, code := jdk_17_method_29_code, exceptionTable := #[], attributes := #[] }
def k7m2 : Method := { name := "subtract", desc := "(Ljava/math/BigDecimal;)Ljava/math/BigDecimal;", sig := { parameters := [(.object "java/math/BigDecimal")], returnType := some (.object "java/math/BigDecimal") }, accessFlags := 1, code := some k7c2 }
def k7c3 : Code := { maxStack := 4, maxLocals := 1, code := jdk_17_method_58_code, exceptionTable := #[], attributes := #[] }
def k7m3 : Method := { name := "signum", desc := "()I", sig := { parameters := [], returnType := some .int }, accessFlags := 1, code := some k7c3 }
def k7c4 : Code := { maxStack := 6, maxLocals := 6, code := jdk_17_method_132_code, exceptionTable := #[], attributes := #[] }
def k7m4 : Method := { name := "add", desc := "(JJ)J", sig := { parameters := [.long, .long], returnType := some .long }, accessFlags := 10, code := some k7c4 }
def k7c5 : Code := { maxStack := 5, maxLocals := 7, code := jdk_17_method_133_code, exceptionTable := #[], attributes := #[] }
def k7m5 : Method := { name := "add", desc := "(JJI)Ljava/math/BigDecimal;", sig := { parameters := [.long, .long, .int], returnType := some (.object "java/math/BigDecimal") }, accessFlags := 10, code := some k7c5 }
def k7c6 : Code := { maxStack := 7, maxLocals := 12, code := jdk_17_method_134_code, exceptionTable := #[], attributes := #[] }
def k7m6 : Method := { name := "add", desc := "(JIJI)Ljava/math/BigDecimal;", sig := { parameters := [.long, .int, .long, .int], returnType := some (.object "java/math/BigDecimal") }, accessFlags := 10, code := some k7c6 }
/-- java/math/BigDecimal -/
def k7 : Class := { plain "java/math/BigDecimal" (some 5) with
  accessFlags := 33
  interfaces := #[6]
  cf := some (fileOf pool7 3 #[.nestMembers #[500, 851, 770, 697]] #[{ accessFlags := 9, nameIndex := 195, descriptorIndex := 330, attributes := #[] }, { accessFlags := 9, nameIndex := 195, descriptorIndex := 238, attributes := #[] }, { accessFlags := 1, nameIndex := 336, descriptorIndex := 269, attributes := #[] }, { accessFlags := 1, nameIndex := 272, descriptorIndex := 162, attributes := #[] }, { accessFlags := 10, nameIndex := 259, descriptorIndex := 322, attributes := #[] }, { accessFlags := 10, nameIndex := 259, descriptorIndex := 344, attributes := #[] }, { accessFlags := 10, nameIndex := 259, descriptorIndex := 260, attributes := #[] }] 33 12 #[1296] #[{ accessFlags := 26, nameIndex := 1298, descriptorIndex := 1299, attributes := #[] }, { accessFlags := 26, nameIndex := 1301, descriptorIndex := 20, attributes := #[] }, { accessFlags := 26, nameIndex := 1303, descriptorIndex := 20, attributes := #[] }, { accessFlags := 26, nameIndex := 1305, descriptorIndex := 20, attributes := #[] }, { accessFlags := 26, nameIndex := 1307, descriptorIndex := 20, attributes := #[] }, { accessFlags := 26, nameIndex := 1309, descriptorIndex := 20, attributes := #[] }, { accessFlags := 26, nameIndex := 1311, descriptorIndex := 20, attributes := #[] }, { accessFlags := 18, nameIndex := 30, descriptorIndex := 31, attributes := #[] }, { accessFlags := 18, nameIndex := 19, descriptorIndex := 20, attributes := #[] }, { accessFlags := 130, nameIndex := 23, descriptorIndex := 20, attributes := #[] }, { accessFlags := 130, nameIndex := 643, descriptorIndex := 644, attributes := #[] }, { accessFlags := 24, nameIndex := 1313, descriptorIndex := 27, attributes := #[] }, { accessFlags := 26, nameIndex := 190, descriptorIndex := 31, attributes := #[] }, { accessFlags := 146, nameIndex := 26, descriptorIndex := 27, attributes := #[] }, { accessFlags := 26, nameIndex := 1314, descriptorIndex := 20, attributes := #[] }, { accessFlags := 26, nameIndex := 1316, descriptorIndex := 27, attributes := #[] }, { accessFlags := 26, nameIndex := 248, descriptorIndex := 249, attributes := #[] }, { accessFlags := 26, nameIndex := 252, descriptorIndex := 249, attributes := #[] }, { accessFlags := 26, nameIndex := 1319, descriptorIndex := 27, attributes := #[] }, { accessFlags := 26, nameIndex := 1320, descriptorIndex := 27, attributes := #[] }, { accessFlags := 25, nameIndex := 187, descriptorIndex := 479, attributes := #[] }, { accessFlags := 25, nameIndex := 535, descriptorIndex := 479, attributes := #[] }, { accessFlags := 25, nameIndex := 206, descriptorIndex := 479, attributes := #[] }, { accessFlags := 25, nameIndex := 485, descriptorIndex := 479, attributes := #[] }, { accessFlags := 26, nameIndex := 478, descriptorIndex := 479, attributes := #[] }, { accessFlags := 26, nameIndex := 518, descriptorIndex := 479, attributes := #[] }, { accessFlags := 25, nameIndex := 1321, descriptorIndex := 20, attributes := #[] }, { accessFlags := 25, nameIndex := 1328, descriptorIndex := 20, attributes := #[] }, { accessFlags := 25, nameIndex := 1330, descriptorIndex := 20, attributes := #[] }, { accessFlags := 25, nameIndex := 1332, descriptorIndex := 20, attributes := #[] }, { accessFlags := 25, nameIndex := 1334, descriptorIndex := 20, attributes := #[] }, { accessFlags := 25, nameIndex := 1336, descriptorIndex := 20, attributes := #[] }, { accessFlags := 25, nameIndex := 1338, descriptorIndex := 20, attributes := #[] }, { accessFlags := 25, nameIndex := 1340, descriptorIndex := 20, attributes := #[] }, { accessFlags := 26, nameIndex := 749, descriptorIndex := 750, attributes := #[] }, { accessFlags := 26, nameIndex := 708, descriptorIndex := 709, attributes := #[] }, { accessFlags := 26, nameIndex := 97, descriptorIndex := 98, attributes := #[] }, { accessFlags := 74, nameIndex := 811, descriptorIndex := 812, attributes := #[] }, { accessFlags := 26, nameIndex := 1182, descriptorIndex := 20, attributes := #[] }, { accessFlags := 26, nameIndex := 808, descriptorIndex := 20, attributes := #[] }, { accessFlags := 26, nameIndex := 827, descriptorIndex := 98, attributes := #[] }, { accessFlags := 26, nameIndex := 1342, descriptorIndex := 27, attributes := #[] }, { accessFlags := 26, nameIndex := 1068, descriptorIndex := 1069, attributes := #[] }, { accessFlags := 4120, nameIndex := 313, descriptorIndex := 314, attributes := #[] }])
  fields := #[{ name := "L", type := .double, accessFlags := 26, slot := 0, constantValue := 0 }, { name := "P_F", type := .int, accessFlags := 26, slot := 1, constantValue := 0 }, { name := "Q_MIN_F", type := .int, accessFlags := 26, slot := 2, constantValue := 0 }, { name := "Q_MAX_F", type := .int, accessFlags := 26, slot := 3, constantValue := 0 }, { name := "P_D", type := .int, accessFlags := 26, slot := 4, constantValue := 0 }, { name := "Q_MIN_D", type := .int, accessFlags := 26, slot := 5, constantValue := 0 }, { name := "Q_MAX_D", type := .int, accessFlags := 26, slot := 6, constantValue := 0 }, { name := "intVal", type := (.object "java/math/BigInteger"), accessFlags := 18, slot := 0, constantValue := 0 }, { name := "scale", type := .int, accessFlags := 18, slot := 1, constantValue := 0 }, { name := "precision", type := .int, accessFlags := 130, slot := 2, constantValue := 0 }, { name := "stringCache", type := (.object "java/lang/String"), accessFlags := 130, slot := 3, constantValue := 0 }, { name := "INFLATED", type := .long, accessFlags := 24, slot := 7, constantValue := 0 }, { name := "INFLATED_BIGINT", type := (.object "java/math/BigInteger"), accessFlags := 26, slot := 8, constantValue := 0 }, { name := "intCompact", type := .long, accessFlags := 146, slot := 4, constantValue := 0 }, { name := "MAX_COMPACT_DIGITS", type := .int, accessFlags := 26, slot := 9, constantValue := 0 }, { name := "serialVersionUID", type := .long, accessFlags := 26, slot := 10, constantValue := 0 }, { name := "ZERO_THROUGH_TEN", type := (.array (.object "java/math/BigDecimal")), accessFlags := 26, slot := 11, constantValue := 0 }, { name := "ZERO_SCALED_BY", type := (.array (.object "java/math/BigDecimal")), accessFlags := 26, slot := 12, constantValue := 0 }, { name := "HALF_LONG_MAX_VALUE", type := .long, accessFlags := 26, slot := 13, constantValue := 0 }, { name := "HALF_LONG_MIN_VALUE", type := .long, accessFlags := 26, slot := 14, constantValue := 0 }, { name := "ZERO", type := (.object "java/math/BigDecimal"), accessFlags := 25, slot := 15, constantValue := 0 }, { name := "ONE", type := (.object "java/math/BigDecimal"), accessFlags := 25, slot := 16, constantValue := 0 }, { name := "TWO", type := (.object "java/math/BigDecimal"), accessFlags := 25, slot := 17, constantValue := 0 }, { name := "TEN", type := (.object "java/math/BigDecimal"), accessFlags := 25, slot := 18, constantValue := 0 }, { name := "ONE_TENTH", type := (.object "java/math/BigDecimal"), accessFlags := 26, slot := 19, constantValue := 0 }, { name := "ONE_HALF", type := (.object "java/math/BigDecimal"), accessFlags := 26, slot := 20, constantValue := 0 }, { name := "ROUND_UP", type := .int, accessFlags := 25, slot := 21, constantValue := 0 }, { name := "ROUND_DOWN", type := .int, accessFlags := 25, slot := 22, constantValue := 0 }, { name := "ROUND_CEILING", type := .int, accessFlags := 25, slot := 23, constantValue := 0 }, { name := "ROUND_FLOOR", type := .int, accessFlags := 25, slot := 24, constantValue := 0 }, { name := "ROUND_HALF_UP", type := .int, accessFlags := 25, slot := 25, constantValue := 0 }, { name := "ROUND_HALF_DOWN", type := .int, accessFlags := 25, slot := 26, constantValue := 0 }, { name := "ROUND_HALF_EVEN", type := .int, accessFlags := 25, slot := 27, constantValue := 0 }, { name := "ROUND_UNNECESSARY", type := .int, accessFlags := 25, slot := 28, constantValue := 0 }, { name := "DOUBLE_10_POW", type := (.array .double), accessFlags := 26, slot := 29, constantValue := 0 }, { name := "FLOAT_10_POW", type := (.array .float), accessFlags := 26, slot := 30, constantValue := 0 }, { name := "LONG_TEN_POWERS_TABLE", type := (.array .long), accessFlags := 26, slot := 31, constantValue := 0 }, { name := "BIG_TEN_POWERS_TABLE", type := (.array (.object "java/math/BigInteger")), accessFlags := 74, slot := 32, constantValue := 0 }, { name := "BIG_TEN_POWERS_TABLE_INITLEN", type := .int, accessFlags := 26, slot := 33, constantValue := 0 }, { name := "BIG_TEN_POWERS_TABLE_MAX", type := .int, accessFlags := 26, slot := 34, constantValue := 0 }, { name := "THRESHOLDS_TABLE", type := (.array .long), accessFlags := 26, slot := 35, constantValue := 0 }, { name := "DIV_NUM_BASE", type := .long, accessFlags := 26, slot := 36, constantValue := 0 }, { name := "LONGLONG_TEN_POWERS_TABLE", type := (.array (.array .long)), accessFlags := 26, slot := 37, constantValue := 0 }, { name := "$assertionsDisabled", type := .boolean, accessFlags := 4120, slot := 38, constantValue := 0 }]
  methods := #[k7m0, k7m1, k7m2, k7m3, k7m4, k7m5, k7m6]
  instanceTypes := #[(.object "java/math/BigInteger"), .int, .int, (.object "java/lang/String"), .long]
  staticTypes := #[.double, .int, .int, .int, .int, .int, .int, .long, (.object "java/math/BigInteger"), .int, .long, (.array (.object "java/math/BigDecimal")), (.array (.object "java/math/BigDecimal")), .long, .long, (.object "java/math/BigDecimal"), (.object "java/math/BigDecimal"), (.object "java/math/BigDecimal"), (.object "java/math/BigDecimal"), (.object "java/math/BigDecimal"), (.object "java/math/BigDecimal"), .int, .int, .int, .int, .int, .int, .int, .int, (.array .double), (.array .float), (.array .long), (.array (.object "java/math/BigInteger")), .int, .int, (.array .long), .long, (.array (.array .long)), .boolean]
  resolved := Array.replicate 1637 none
  statics := some 0 }

def pool8 : Array CpInfo := pool [(2, .class_ 4), (1, u "java/lang/CharSequence"), (42, .class_ 48), (0, u "java/lang/CharSequence$1CodePointIterator"), (10, .class_ 60), (0, u "java/lang/CharSequence$1CharIterator"), (5, .class_ 67), (0, u "java/lang/Object")] 63

/-- java/lang/CharSequence -/
def k8 : Class := { plain "java/lang/CharSequence" (some 0) with
  accessFlags := 1537
  interfaces := #[]
  cf := some (fileOf pool8 2 #[.nestMembers #[47, 59]] #[] 1537 66 #[] #[])
  fields := #[]
  methods := #[]
  instanceTypes := #[]
  staticTypes := #[]
  resolved := Array.replicate 131 none
  statics := none }

def pool9 : Array CpInfo := pool [(1, .class_ 2), (0, u "java/lang/constant/Constable"), (0, .class_ 4), (0, u "java/lang/Object")] 6

/-- java/lang/constant/Constable -/
def k9 : Class := { plain "java/lang/constant/Constable" (some 0) with
  accessFlags := 1537
  interfaces := #[]
  cf := some (fileOf pool9 1 #[] #[] 1537 3 #[] #[])
  fields := #[]
  methods := #[]
  instanceTypes := #[]
  staticTypes := #[]
  resolved := Array.replicate 11 none
  statics := none }

def pool10 : Array CpInfo := pool [(1, .class_ 2), (0, u "java/lang/constant/ConstantDesc"), (0, .class_ 4), (0, u "java/lang/Object")] 32

/-- java/lang/constant/ConstantDesc -/
def k10 : Class := { plain "java/lang/constant/ConstantDesc" (some 0) with
  accessFlags := 1537
  interfaces := #[]
  cf := some (fileOf pool10 1 #[] #[] 1537 3 #[] #[])
  fields := #[]
  methods := #[]
  instanceTypes := #[]
  staticTypes := #[]
  resolved := Array.replicate 37 none
  statics := none }

def pool11 : Array CpInfo := pool [(2, .class_ 4), (1, u "java/lang/Object"), (0, u "<init>"), (0, u "()V"), (3, .class_ 12), (1, u "java/lang/String"), (0, u "value"), (0, u "[B"), (2, u "coder"), (0, u "B"), (2, u "hash"), (0, u "I"), (2, u "hashIsZero"), (0, u "Z"), (13, u "COMPACT_STRINGS"), (534, .class_ 576), (0, u "java/lang/CharSequence"), (22, u "CASE_INSENSITIVE_ORDER"), (0, u "Ljava/util/Comparator;"), (500, u "serialPersistentFields"), (0, u "[Ljava/io/ObjectStreamField;"), (0, .class_ 1104), (0, u "java/lang/String$CaseInsensitiveComparator"), (1, .class_ 1107), (0, u "java/io/Serializable"), (0, .class_ 1109), (0, u "java/lang/Comparable"), (0, .class_ 1111), (0, u "java/lang/constant/Constable"), (0, .class_ 1113), (0, u "java/lang/constant/ConstantDesc"), (2, u "serialVersionUID"), (0, u "J"), (3, u "REPL"), (0, u "C"), (2, u "LATIN1"), (1, u "UTF16")] 323

def k11m0 : Method := { name := "<init>", desc := "()V", sig := { parameters := [], returnType := none }, accessFlags := 1, code := none }
/-- java/lang/String -/
def k11 : Class := { plain "java/lang/String" (some 0) with
  accessFlags := 49
  interfaces := #[4, 6, 8, 9, 10]
  cf := some (fileOf pool11 10 #[.nestMembers #[1103]] #[{ accessFlags := 1, nameIndex := 5, descriptorIndex := 6, attributes := #[] }] 49 2 #[1106, 1108, 575, 1110, 1112] #[{ accessFlags := 18, nameIndex := 13, descriptorIndex := 14, attributes := #[] }, { accessFlags := 18, nameIndex := 17, descriptorIndex := 18, attributes := #[] }, { accessFlags := 2, nameIndex := 21, descriptorIndex := 22, attributes := #[] }, { accessFlags := 2, nameIndex := 25, descriptorIndex := 26, attributes := #[] }, { accessFlags := 26, nameIndex := 1116, descriptorIndex := 1117, attributes := #[] }, { accessFlags := 24, nameIndex := 40, descriptorIndex := 26, attributes := #[] }, { accessFlags := 26, nameIndex := 1101, descriptorIndex := 1102, attributes := #[] }, { accessFlags := 26, nameIndex := 1121, descriptorIndex := 1122, attributes := #[] }, { accessFlags := 25, nameIndex := 599, descriptorIndex := 600, attributes := #[] }, { accessFlags := 24, nameIndex := 1125, descriptorIndex := 18, attributes := #[] }, { accessFlags := 24, nameIndex := 1127, descriptorIndex := 18, attributes := #[] }])
  fields := #[{ name := "value", type := (.array .byte), accessFlags := 18, slot := 0, constantValue := 0 }, { name := "coder", type := .byte, accessFlags := 18, slot := 1, constantValue := 0 }, { name := "hash", type := .int, accessFlags := 2, slot := 2, constantValue := 0 }, { name := "hashIsZero", type := .boolean, accessFlags := 2, slot := 3, constantValue := 0 }, { name := "serialVersionUID", type := .long, accessFlags := 26, slot := 0, constantValue := 0 }, { name := "COMPACT_STRINGS", type := .boolean, accessFlags := 24, slot := 1, constantValue := 0 }, { name := "serialPersistentFields", type := (.array (.object "java/io/ObjectStreamField")), accessFlags := 26, slot := 2, constantValue := 0 }, { name := "REPL", type := .char, accessFlags := 26, slot := 3, constantValue := 0 }, { name := "CASE_INSENSITIVE_ORDER", type := (.object "java/util/Comparator"), accessFlags := 25, slot := 4, constantValue := 0 }, { name := "LATIN1", type := .byte, accessFlags := 24, slot := 5, constantValue := 0 }, { name := "UTF16", type := .byte, accessFlags := 24, slot := 6, constantValue := 0 }]
  methods := #[k11m0]
  instanceTypes := #[(.array .byte), .byte, .int, .boolean]
  staticTypes := #[.long, .boolean, (.array (.object "java/io/ObjectStreamField")), .char, (.object "java/util/Comparator"), .byte, .byte]
  resolved := Array.replicate 1451 none
  statics := none }

def pool12 : Array CpInfo := pool [(2, .class_ 4), (1, u "java/lang/Object"), (0, u "<init>"), (0, u "()V"), (35, .class_ 44), (1, u "java/util/Objects"), (0, u "requireNonNull"), (48, u "(Ljava/lang/Object;Ljava/lang/String;)Ljava/lang/Object;")] 89

def k12m0 : Method := { name := "<init>", desc := "()V", sig := { parameters := [], returnType := none }, accessFlags := 2, code := none }
def k12c1 : Code := { maxStack := 3, maxLocals := 2, code := jdk_31_method_11_code, exceptionTable := #[], attributes := #[] }
def k12m1 : Method := { name := "requireNonNull", desc := "(Ljava/lang/Object;Ljava/lang/String;)Ljava/lang/Object;", sig := { parameters := [(.object "java/lang/Object"), (.object "java/lang/String")], returnType := some (.object "java/lang/Object") }, accessFlags := 9, code := some k12c1 }
/-- java/util/Objects -/
def k12 : Class := { plain "java/util/Objects" (some 0) with
  accessFlags := 49
  interfaces := #[]
  cf := some (fileOf pool12 42 #[] #[{ accessFlags := 2, nameIndex := 5, descriptorIndex := 6, attributes := #[] }, { accessFlags := 9, nameIndex := 45, descriptorIndex := 94, attributes := #[] }] 49 2 #[] #[])
  fields := #[]
  methods := #[k12m0, k12m1]
  instanceTypes := #[]
  staticTypes := #[]
  resolved := Array.replicate 184 none
  statics := none }

def pool13 : Array CpInfo := pool [(2, .class_ 4), (1, u "java/lang/Object"), (0, u "<init>"), (0, u "()V"), (0, .methodref 8 9), (0, .class_ 10), (0, .nameAndType 11 12), (0, u "java/math/BigDecimal"), (0, u "signum"), (0, u "()I"), (1, .class_ 16), (1, u "com/example/roomyield/roomyield/Figures"), (1, u "(Ljava/math/BigDecimal;Ljava/math/BigDecimal;)Ljava/math/BigDecimal;"), (46, u "TEN_POWERS"), (0, u "[J"), (22, .methodref 14 90), (0, .nameAndType 91 18), (0, u "ratio"), (2, u "HUNDRED"), (0, u "Ljava/math/BigDecimal;"), (76, u "LONG_DIGITS"), (0, u "I"), (5, u "percent")] 11

def k13m0 : Method := { name := "<init>", desc := "()V", sig := { parameters := [], returnType := none }, accessFlags := 2, code := none }
def k13c1 : Code := { maxStack := 3, maxLocals := 3, code := prog_4_method_2_code, exceptionTable := #[], attributes := #[] }
def k13m1 : Method := { name := "ratio", desc := "(Ljava/math/BigDecimal;Ljava/math/BigDecimal;)Ljava/math/BigDecimal;", sig := { parameters := [(.object "java/math/BigDecimal"), (.object "java/math/BigDecimal")], returnType := some (.object "java/math/BigDecimal") }, accessFlags := 8, code := some k13c1 }
def k13c2 : Code := { maxStack := 2, maxLocals := 3, code := prog_4_method_6_code, exceptionTable := #[], attributes := #[] }
def k13m2 : Method := { name := "percent", desc := "(Ljava/math/BigDecimal;Ljava/math/BigDecimal;)Ljava/math/BigDecimal;", sig := { parameters := [(.object "java/math/BigDecimal"), (.object "java/math/BigDecimal")], returnType := some (.object "java/math/BigDecimal") }, accessFlags := 8, code := some k13c2 }
/-- com/example/roomyield/roomyield/Figures -/
def k13 : Class := { plain "com/example/roomyield/roomyield/Figures" (some 0) with
  accessFlags := 48
  interfaces := #[]
  cf := some (fileOf pool13 14 #[] #[{ accessFlags := 2, nameIndex := 5, descriptorIndex := 6, attributes := #[] }, { accessFlags := 8, nameIndex := 91, descriptorIndex := 18, attributes := #[] }, { accessFlags := 8, nameIndex := 179, descriptorIndex := 18, attributes := #[] }] 48 2 #[] #[{ accessFlags := 26, nameIndex := 94, descriptorIndex := 95, attributes := #[] }, { accessFlags := 26, nameIndex := 172, descriptorIndex := 173, attributes := #[] }, { accessFlags := 26, nameIndex := 65, descriptorIndex := 66, attributes := #[] }])
  fields := #[{ name := "HUNDRED", type := (.object "java/math/BigDecimal"), accessFlags := 26, slot := 0, constantValue := 0 }, { name := "LONG_DIGITS", type := .int, accessFlags := 26, slot := 1, constantValue := 0 }, { name := "TEN_POWERS", type := (.array .long), accessFlags := 26, slot := 2, constantValue := 0 }]
  methods := #[k13m0, k13m1, k13m2]
  instanceTypes := #[]
  staticTypes := #[(.object "java/math/BigDecimal"), .int, (.array .long)]
  resolved := Array.replicate 191 none
  statics := none }

def pool14 : Array CpInfo := pool [(1, .class_ 2), (0, u "java/lang/Long"), (98, u "(J)I"), (133, .class_ 237), (1, u "java/lang/Long$LongCache"), (33, .class_ 272), (0, u "java/lang/Number"), (2, u "value"), (0, u "J"), (84, u "TYPE"), (0, u "Ljava/lang/Class;"), (0, .class_ 364), (0, u "java/lang/Comparable"), (0, .class_ 366), (0, u "java/lang/constant/Constable"), (0, .class_ 368), (0, u "java/lang/constant/ConstantDesc"), (0, u "MIN_VALUE"), (1, u "MAX_VALUE"), (4, u "SIZE"), (0, u "I"), (1, u "BYTES"), (1, u "serialVersionUID"), (115, u "signum")] 26

def k14c0 : Code := { maxStack := 5, maxLocals := 2, code := jdk_35_method_57_code, exceptionTable := #[], attributes := #[] }
def k14m0 : Method := { name := "signum", desc := "(J)I", sig := { parameters := [.long], returnType := some .int }, accessFlags := 9, code := some k14c0 }
/-- java/lang/Long -/
def k14 : Class := { plain "java/lang/Long" (some 5) with
  accessFlags := 49
  interfaces := #[6, 9, 10]
  cf := some (fileOf pool14 1 #[.nestMembers #[235]] #[{ accessFlags := 9, nameIndex := 497, descriptorIndex := 101, attributes := #[] }] 49 271 #[363, 365, 367] #[{ accessFlags := 25, nameIndex := 369, descriptorIndex := 276, attributes := #[] }, { accessFlags := 25, nameIndex := 371, descriptorIndex := 276, attributes := #[] }, { accessFlags := 25, nameIndex := 361, descriptorIndex := 362, attributes := #[] }, { accessFlags := 18, nameIndex := 275, descriptorIndex := 276, attributes := #[] }, { accessFlags := 25, nameIndex := 376, descriptorIndex := 377, attributes := #[] }, { accessFlags := 25, nameIndex := 379, descriptorIndex := 377, attributes := #[] }, { accessFlags := 26, nameIndex := 381, descriptorIndex := 276, attributes := #[] }])
  fields := #[{ name := "MIN_VALUE", type := .long, accessFlags := 25, slot := 0, constantValue := 0 }, { name := "MAX_VALUE", type := .long, accessFlags := 25, slot := 1, constantValue := 0 }, { name := "TYPE", type := (.object "java/lang/Class"), accessFlags := 25, slot := 2, constantValue := 0 }, { name := "value", type := .long, accessFlags := 18, slot := 0, constantValue := 0 }, { name := "SIZE", type := .int, accessFlags := 25, slot := 3, constantValue := 0 }, { name := "BYTES", type := .int, accessFlags := 25, slot := 4, constantValue := 0 }, { name := "serialVersionUID", type := .long, accessFlags := 26, slot := 5, constantValue := 0 }]
  methods := #[k14m0]
  instanceTypes := #[.long]
  staticTypes := #[.long, .long, (.object "java/lang/Class"), .int, .int, .long]
  resolved := Array.replicate 524 none
  statics := none }

def pool15 : Array CpInfo := pool [(4, .class_ 6), (1, u "java/lang/Number"), (16, .class_ 25), (1, u "java/math/BigInteger"), (0, u "ZERO"), (0, u "Ljava/math/BigInteger;"), (2, u "mag"), (0, u "[I"), (2, u "signum"), (0, u "I"), (59, u "bitsPerDigit"), (0, u "[J"), (9, u "digitsPerInt"), (12, u "intRadix"), (60, u "SMALL_PRIME_PRODUCT"), (79, u "ONE"), (6, u "TWO"), (43, u "$assertionsDisabled"), (0, u "Z"), (36, u "posConst"), (0, u "[Ljava/math/BigInteger;"), (4, u "negConst"), (116, .class_ 474), (1, u "java/math/BigInteger$RecursiveOp"), (106, u "NEGATIVE_ONE"), (91, u "bnExpModThreshTable"), (72, u "lowestSetBitPlusTwo"), (2, u "bitLengthPlusOne"), (2, u "bitCountPlusOne"), (6, u "LOG_TWO"), (0, u "D"), (2, u "logCache"), (0, u "[D"), (13, u "NUM_ZEROS"), (2, u "ZEROS"), (0, u "Ljava/lang/String;"), (9, u "longRadix"), (5, u "digitsPerLong"), (22, u "powerCache"), (0, u "[[Ljava/math/BigInteger;"), (45, u "firstNonzeroIntNumPlusTwo"), (38, .class_ 909), (1, u "java/math/BigInteger$UnsafeHolder"), (141, u "TEN"), (106, u "serialPersistentFields"), (0, u "[Ljava/io/ObjectStreamField;"), (0, .class_ 1161), (0, u "java/lang/Comparable"), (0, u "LONG_MASK"), (0, u "J"), (1, u "MAX_MAG_LENGTH"), (0, u "PRIME_SEARCH_BIT_LENGTH_LIMIT"), (1, u "KARATSUBA_THRESHOLD"), (1, u "TOOM_COOK_THRESHOLD"), (1, u "KARATSUBA_SQUARE_THRESHOLD"), (1, u "TOOM_COOK_SQUARE_THRESHOLD"), (1, u "BURNIKEL_ZIEGLER_THRESHOLD"), (0, u "BURNIKEL_ZIEGLER_OFFSET"), (1, u "SCHOENHAGE_BASE_CONVERSION_THRESHOLD"), (1, u "MULTIPLY_SQUARE_THRESHOLD"), (0, u "MONTGOMERY_INTRINSIC_THRESHOLD"), (1, u "SMALL_PRIME_THRESHOLD"), (1, u "DEFAULT_PRIME_CERTAINTY"), (1, u "MAX_CONSTANT"), (3, u "serialVersionUID"), (338, .class_ 1532), (0, u "java/math/BigInteger$RecursiveOp$RecursiveSquare"), (0, .class_ 1534), (0, u "java/math/BigInteger$RecursiveOp$RecursiveMultiply")] 7

/-- java/math/BigInteger -/
def k15 : Class := { plain "java/math/BigInteger" (some 5) with
  accessFlags := 33
  interfaces := #[6]
  cf := some (fileOf pool15 23 #[.nestMembers #[907, 472, 1531, 1533]] #[] 33 4 #[1160] #[{ accessFlags := 16, nameIndex := 34, descriptorIndex := 35, attributes := #[] }, { accessFlags := 16, nameIndex := 30, descriptorIndex := 31, attributes := #[] }, { accessFlags := 2, nameIndex := 752, descriptorIndex := 35, attributes := #[] }, { accessFlags := 2, nameIndex := 749, descriptorIndex := 35, attributes := #[] }, { accessFlags := 2, nameIndex := 746, descriptorIndex := 35, attributes := #[] }, { accessFlags := 2, nameIndex := 868, descriptorIndex := 35, attributes := #[] }, { accessFlags := 24, nameIndex := 1162, descriptorIndex := 1163, attributes := #[] }, { accessFlags := 26, nameIndex := 1165, descriptorIndex := 35, attributes := #[] }, { accessFlags := 26, nameIndex := 1166, descriptorIndex := 35, attributes := #[] }, { accessFlags := 26, nameIndex := 1168, descriptorIndex := 35, attributes := #[] }, { accessFlags := 26, nameIndex := 1170, descriptorIndex := 35, attributes := #[] }, { accessFlags := 26, nameIndex := 1172, descriptorIndex := 35, attributes := #[] }, { accessFlags := 26, nameIndex := 1174, descriptorIndex := 35, attributes := #[] }, { accessFlags := 24, nameIndex := 1176, descriptorIndex := 35, attributes := #[] }, { accessFlags := 24, nameIndex := 1177, descriptorIndex := 35, attributes := #[] }, { accessFlags := 26, nameIndex := 1179, descriptorIndex := 35, attributes := #[] }, { accessFlags := 26, nameIndex := 1181, descriptorIndex := 35, attributes := #[] }, { accessFlags := 26, nameIndex := 1182, descriptorIndex := 35, attributes := #[] }, { accessFlags := 10, nameIndex := 95, descriptorIndex := 96, attributes := #[] }, { accessFlags := 26, nameIndex := 1184, descriptorIndex := 35, attributes := #[] }, { accessFlags := 26, nameIndex := 1186, descriptorIndex := 35, attributes := #[] }, { accessFlags := 26, nameIndex := 180, descriptorIndex := 27, attributes := #[] }, { accessFlags := 26, nameIndex := 1188, descriptorIndex := 35, attributes := #[] }, { accessFlags := 26, nameIndex := 349, descriptorIndex := 350, attributes := #[] }, { accessFlags := 26, nameIndex := 355, descriptorIndex := 350, attributes := #[] }, { accessFlags := 74, nameIndex := 821, descriptorIndex := 822, attributes := #[] }, { accessFlags := 26, nameIndex := 763, descriptorIndex := 764, attributes := #[] }, { accessFlags := 26, nameIndex := 759, descriptorIndex := 760, attributes := #[] }, { accessFlags := 25, nameIndex := 26, descriptorIndex := 27, attributes := #[] }, { accessFlags := 25, nameIndex := 260, descriptorIndex := 27, attributes := #[] }, { accessFlags := 25, nameIndex := 267, descriptorIndex := 27, attributes := #[] }, { accessFlags := 26, nameIndex := 581, descriptorIndex := 27, attributes := #[] }, { accessFlags := 25, nameIndex := 1051, descriptorIndex := 27, attributes := #[] }, { accessFlags := 8, nameIndex := 673, descriptorIndex := 31, attributes := #[] }, { accessFlags := 10, nameIndex := 778, descriptorIndex := 35, attributes := #[] }, { accessFlags := 26, nameIndex := 781, descriptorIndex := 782, attributes := #[] }, { accessFlags := 10, nameIndex := 798, descriptorIndex := 31, attributes := #[] }, { accessFlags := 10, nameIndex := 792, descriptorIndex := 350, attributes := #[] }, { accessFlags := 10, nameIndex := 106, descriptorIndex := 31, attributes := #[] }, { accessFlags := 10, nameIndex := 119, descriptorIndex := 31, attributes := #[] }, { accessFlags := 26, nameIndex := 1192, descriptorIndex := 1163, attributes := #[] }, { accessFlags := 26, nameIndex := 1158, descriptorIndex := 1159, attributes := #[] }, { accessFlags := 4120, nameIndex := 311, descriptorIndex := 312, attributes := #[] }])
  fields := #[{ name := "signum", type := .int, accessFlags := 16, slot := 0, constantValue := 0 }, { name := "mag", type := (.array .int), accessFlags := 16, slot := 1, constantValue := 0 }, { name := "bitCountPlusOne", type := .int, accessFlags := 2, slot := 2, constantValue := 0 }, { name := "bitLengthPlusOne", type := .int, accessFlags := 2, slot := 3, constantValue := 0 }, { name := "lowestSetBitPlusTwo", type := .int, accessFlags := 2, slot := 4, constantValue := 0 }, { name := "firstNonzeroIntNumPlusTwo", type := .int, accessFlags := 2, slot := 5, constantValue := 0 }, { name := "LONG_MASK", type := .long, accessFlags := 24, slot := 0, constantValue := 0 }, { name := "MAX_MAG_LENGTH", type := .int, accessFlags := 26, slot := 1, constantValue := 0 }, { name := "PRIME_SEARCH_BIT_LENGTH_LIMIT", type := .int, accessFlags := 26, slot := 2, constantValue := 0 }, { name := "KARATSUBA_THRESHOLD", type := .int, accessFlags := 26, slot := 3, constantValue := 0 }, { name := "TOOM_COOK_THRESHOLD", type := .int, accessFlags := 26, slot := 4, constantValue := 0 }, { name := "KARATSUBA_SQUARE_THRESHOLD", type := .int, accessFlags := 26, slot := 5, constantValue := 0 }, { name := "TOOM_COOK_SQUARE_THRESHOLD", type := .int, accessFlags := 26, slot := 6, constantValue := 0 }, { name := "BURNIKEL_ZIEGLER_THRESHOLD", type := .int, accessFlags := 24, slot := 7, constantValue := 0 }, { name := "BURNIKEL_ZIEGLER_OFFSET", type := .int, accessFlags := 24, slot := 8, constantValue := 0 }, { name := "SCHOENHAGE_BASE_CONVERSION_THRESHOLD", type := .int, accessFlags := 26, slot := 9, constantValue := 0 }, { name := "MULTIPLY_SQUARE_THRESHOLD", type := .int, accessFlags := 26, slot := 10, constantValue := 0 }, { name := "MONTGOMERY_INTRINSIC_THRESHOLD", type := .int, accessFlags := 26, slot := 11, constantValue := 0 }, { name := "bitsPerDigit", type := (.array .long), accessFlags := 10, slot := 12, constantValue := 0 }, { name := "SMALL_PRIME_THRESHOLD", type := .int, accessFlags := 26, slot := 13, constantValue := 0 }, { name := "DEFAULT_PRIME_CERTAINTY", type := .int, accessFlags := 26, slot := 14, constantValue := 0 }, { name := "SMALL_PRIME_PRODUCT", type := (.object "java/math/BigInteger"), accessFlags := 26, slot := 15, constantValue := 0 }, { name := "MAX_CONSTANT", type := .int, accessFlags := 26, slot := 16, constantValue := 0 }, { name := "posConst", type := (.array (.object "java/math/BigInteger")), accessFlags := 26, slot := 17, constantValue := 0 }, { name := "negConst", type := (.array (.object "java/math/BigInteger")), accessFlags := 26, slot := 18, constantValue := 0 }, { name := "powerCache", type := (.array (.array (.object "java/math/BigInteger"))), accessFlags := 74, slot := 19, constantValue := 0 }, { name := "logCache", type := (.array .double), accessFlags := 26, slot := 20, constantValue := 0 }, { name := "LOG_TWO", type := .double, accessFlags := 26, slot := 21, constantValue := 0 }, { name := "ZERO", type := (.object "java/math/BigInteger"), accessFlags := 25, slot := 22, constantValue := 0 }, { name := "ONE", type := (.object "java/math/BigInteger"), accessFlags := 25, slot := 23, constantValue := 0 }, { name := "TWO", type := (.object "java/math/BigInteger"), accessFlags := 25, slot := 24, constantValue := 0 }, { name := "NEGATIVE_ONE", type := (.object "java/math/BigInteger"), accessFlags := 26, slot := 25, constantValue := 0 }, { name := "TEN", type := (.object "java/math/BigInteger"), accessFlags := 25, slot := 26, constantValue := 0 }, { name := "bnExpModThreshTable", type := (.array .int), accessFlags := 8, slot := 27, constantValue := 0 }, { name := "NUM_ZEROS", type := .int, accessFlags := 10, slot := 28, constantValue := 0 }, { name := "ZEROS", type := (.object "java/lang/String"), accessFlags := 26, slot := 29, constantValue := 0 }, { name := "digitsPerLong", type := (.array .int), accessFlags := 10, slot := 30, constantValue := 0 }, { name := "longRadix", type := (.array (.object "java/math/BigInteger")), accessFlags := 10, slot := 31, constantValue := 0 }, { name := "digitsPerInt", type := (.array .int), accessFlags := 10, slot := 32, constantValue := 0 }, { name := "intRadix", type := (.array .int), accessFlags := 10, slot := 33, constantValue := 0 }, { name := "serialVersionUID", type := .long, accessFlags := 26, slot := 34, constantValue := 0 }, { name := "serialPersistentFields", type := (.array (.object "java/io/ObjectStreamField")), accessFlags := 26, slot := 35, constantValue := 0 }, { name := "$assertionsDisabled", type := .boolean, accessFlags := 4120, slot := 36, constantValue := 0 }]
  methods := #[]
  instanceTypes := #[.int, (.array .int), .int, .int, .int, .int]
  staticTypes := #[.long, .int, .int, .int, .int, .int, .int, .int, .int, .int, .int, .int, (.array .long), .int, .int, (.object "java/math/BigInteger"), .int, (.array (.object "java/math/BigInteger")), (.array (.object "java/math/BigInteger")), (.array (.array (.object "java/math/BigInteger"))), (.array .double), .double, (.object "java/math/BigInteger"), (.object "java/math/BigInteger"), (.object "java/math/BigInteger"), (.object "java/math/BigInteger"), (.object "java/math/BigInteger"), (.array .int), .int, (.object "java/lang/String"), (.array .int), (.array (.object "java/math/BigInteger")), (.array .int), (.array .int), .long, (.array (.object "java/io/ObjectStreamField")), .boolean]
  resolved := Array.replicate 1542 none
  statics := some 1 }

def pool16 : Array CpInfo := pool [(1, u "java/lang/Cloneable"), (0, .class_ 1), (0, u "java/lang/Object"), (0, .class_ 3)] 3

/-- java/lang/Cloneable -/
def k16 : Class := { plain "java/lang/Cloneable" (some 0) with
  accessFlags := 1537
  interfaces := #[]
  cf := some (fileOf pool16 2 #[] #[] 1537 4 #[] #[])
  fields := #[]
  methods := #[]
  instanceTypes := #[]
  staticTypes := #[]
  resolved := Array.replicate 8 none
  statics := none }

/-- the primitive byte -/
def k17 : Class := { plain "byte" none with kind := .primitive 'B', accessFlags := 0x411 }
/-- [B -/
def k18 : Class := { plain "[B" (some 0) with kind := .array 17 .byte, interfaces := #[16, 4], accessFlags := 1041 }

/-- the primitive int -/
def k19 : Class := { plain "int" none with kind := .primitive 'I', accessFlags := 0x411 }
/-- [I -/
def k20 : Class := { plain "[I" (some 0) with kind := .array 19 .int, interfaces := #[16, 4], accessFlags := 1041 }

/-- [Ljava/math/BigDecimal; -/
def k21 : Class := { plain "[Ljava/math/BigDecimal;" (some 0) with kind := .array 7 (.object "java/math/BigDecimal"), interfaces := #[16, 4], accessFlags := 1041 }

def heap : Heap := #[{ cls := 7, slots := #[.double 0, .int 0, .int 0, .int 0, .int 0, .int 0, .int 0, .long 0, .null, .int 0, .long 0, .ref 2, .null, .long 0, .long 0, .ref 3, .ref 4, .ref 5, .ref 13, .null, .null, .int 0, .int 0, .int 0, .int 0, .int 0, .int 0, .int 0, .int 0, .null, .null, .null, .null, .int 0, .int 0, .null, .long 0, .null, .int 0], vm := .statics 7 },
  { cls := 15, slots := #[.long 0, .int 0, .int 0, .int 0, .int 0, .int 0, .int 0, .int 0, .int 0, .int 0, .int 0, .int 0, .null, .int 0, .int 0, .null, .int 0, .null, .null, .null, .null, .double 0, .ref 14, .ref 15, .ref 16, .null, .ref 24, .null, .int 0, .null, .null, .null, .null, .null, .long 0, .null, .int 0], vm := .statics 15 },
  { cls := 21, slots := #[.ref 3, .ref 4, .ref 5, .ref 6, .ref 7, .ref 8, .ref 9, .ref 10, .ref 11, .ref 12, .ref 13], vm := .none },
  { cls := 7, slots := #[.ref 14, .int 0, .int 1, .null, .long 0], vm := .none },
  { cls := 7, slots := #[.ref 15, .int 0, .int 1, .null, .long 1], vm := .none },
  { cls := 7, slots := #[.ref 16, .int 0, .int 1, .null, .long 2], vm := .none },
  { cls := 7, slots := #[.ref 17, .int 0, .int 1, .null, .long 3], vm := .none },
  { cls := 7, slots := #[.ref 18, .int 0, .int 1, .null, .long 4], vm := .none },
  { cls := 7, slots := #[.ref 19, .int 0, .int 1, .null, .long 5], vm := .none },
  { cls := 7, slots := #[.ref 20, .int 0, .int 1, .null, .long 6], vm := .none },
  { cls := 7, slots := #[.ref 21, .int 0, .int 1, .null, .long 7], vm := .none },
  { cls := 7, slots := #[.ref 22, .int 0, .int 1, .null, .long 8], vm := .none },
  { cls := 7, slots := #[.ref 23, .int 0, .int 1, .null, .long 9], vm := .none },
  { cls := 7, slots := #[.ref 24, .int 0, .int 1, .null, .long 10], vm := .none },
  { cls := 15, slots := #[.int 0, .ref 25, .int 0, .int 0, .int 0, .int 0], vm := .none },
  { cls := 15, slots := #[.int 1, .ref 26, .int 0, .int 0, .int 0, .int 0], vm := .none },
  { cls := 15, slots := #[.int 1, .ref 27, .int 0, .int 0, .int 0, .int 0], vm := .none },
  { cls := 15, slots := #[.int 1, .ref 28, .int 0, .int 0, .int 0, .int 0], vm := .none },
  { cls := 15, slots := #[.int 1, .ref 29, .int 0, .int 0, .int 0, .int 0], vm := .none },
  { cls := 15, slots := #[.int 1, .ref 30, .int 0, .int 0, .int 0, .int 0], vm := .none },
  { cls := 15, slots := #[.int 1, .ref 31, .int 0, .int 0, .int 0, .int 0], vm := .none },
  { cls := 15, slots := #[.int 1, .ref 32, .int 0, .int 0, .int 0, .int 0], vm := .none },
  { cls := 15, slots := #[.int 1, .ref 33, .int 0, .int 0, .int 0, .int 0], vm := .none },
  { cls := 15, slots := #[.int 1, .ref 34, .int 0, .int 0, .int 0, .int 0], vm := .none },
  { cls := 15, slots := #[.int 1, .ref 35, .int 0, .int 0, .int 0, .int 0], vm := .none },
  { cls := 20, slots := #[], vm := .none },
  { cls := 20, slots := #[.int 1], vm := .none },
  { cls := 20, slots := #[.int 2], vm := .none },
  { cls := 20, slots := #[.int 3], vm := .none },
  { cls := 20, slots := #[.int 4], vm := .none },
  { cls := 20, slots := #[.int 5], vm := .none },
  { cls := 20, slots := #[.int 6], vm := .none },
  { cls := 20, slots := #[.int 7], vm := .none },
  { cls := 20, slots := #[.int 8], vm := .none },
  { cls := 20, slots := #[.int 9], vm := .none },
  { cls := 20, slots := #[.int 10], vm := .none }]
def classes : Array Class := #[k0, k1, k2, k3, k4, k5, k6, k7, k8, k9, k10, k11, k12, k13, k14, k15, k16, k17, k18, k19, k20, k21]
def interned : List (Array UInt16 × Addr) := []
def slotsUsed : Nat := 218
def theMethod : MethodId := ⟨1, 1⟩
def args0 : Array Value := #[.int 5]
def aboutOver (below : List Frame) : State where
  vm := { classes := classes, interned := interned.toArray }
  heap := heap
  slotsUsed := slotsUsed
  threads := #[{ frames := .invoking theMethod args0 :: below }]
def below0 : List Frame := [.native { method := ⟨0, 0⟩, args := #[] }]
def about1 : State := aboutOver below0
def p0 : Program := .bare "" "" ""
def e0 : Env := launch0.env 0 0 0
theorem w_frames : about1.frames = Frame.invoking theMethod args0 :: below0 := rfl
set_option maxRecDepth 65536 in
theorem w_args : argsFit about1.vm theMethod args0 = true := by decide +kernel
set_option maxRecDepth 65536 in
theorem w_heap : heapFits about1 = true := by decide +kernel
set_option maxRecDepth 65536 in
theorem w_runnable : about1.curStatus? = some .runnable := by decide +kernel
set_option maxRecDepth 65536 in
theorem w_alone : about1.alone = true := by decide +kernel
set_option maxRecDepth 65536 in
theorem w_named : about1.methodNamed? x = some theMethod := by decide +kernel
set_option maxRecDepth 65536 in
theorem w_hears : about1.hears theMethod below0 = true := by decide +kernel
set_option maxRecDepth 65536 in
theorem w_ripe : about1.ripe theMethod args0 below0 = true := by decide +kernel
theorem w_running : about1.status = .running := rfl
set_option maxRecDepth 65536 in
theorem w_room : about1.hasRoom e0.platform room_1 = true :=
  launch0.hasRoom_least _ room_1 (by decide +kernel) (by decide +kernel) (by decide +kernel) (by decide +kernel) (by decide +kernel) (by decide +kernel)
theorem allAtoms_all (ts : List Jvm.Cond) (a : Array Jvm.Value) (st : Jvm.State) : (allAtoms ts).before a st = ts.all (fun c => c.before a st) := by
  induction ts with
  | nil => rfl
  | cons c t ih =>
    show (Jvm.Cond.and c (allAtoms t)).before a st = _
    rw [Jvm.Cond.before_and, ih, List.all_cons]
def words1 : List Jvm.Cond := Jvm.Cond.code x code maxLocals ret :: tables_1
/-- a 'code' word, met by the world's own term for the bytes: nothing is compared byte by byte -/
theorem code_word {y : MethodName} {bytes : ByteArray} {mx : Nat} {rt : Option FieldType} {a : Array Value} {s : State} {m : MethodId} {meth : Method} {c : Code} (h1 : s.methodNamed? y = some m) (h2 : s.vm.method? m = some meth) (h3 : meth.code = some c) (h4 : c.code = bytes)
    (h5 : (c.maxLocals == mx && c.exceptionTable.isEmpty && decide (c.maxStack ≤ mostOperands) && decide (meth.sig.returnType = rt) && !meth.locks && decide (parseMethodDescriptor y.desc = some meth.sig)) = true) : (Jvm.Cond.code y bytes mx rt).before a s = true := by
  simp only [Bool.and_eq_true, beq_iff_eq, Bool.not_eq_true', decide_eq_true_eq] at h5
  obtain ⟨⟨⟨⟨⟨g1, g2⟩, g3⟩, g4⟩, g5⟩, g6⟩ := h5
  simp [Cond.before, Cond.holds, Cond.value, h1, h2, h3, h4, g1, g2, g3, g4, g5, g6]
def isCode : Jvm.Cond → Bool
  | .code _ _ _ _ => true
  | _ => false
theorem all_split {L : List Jvm.Cond} {P : Jvm.Cond → Bool} (h1 : L.all (fun c => isCode c || P c) = true) (h2 : ∀ c ∈ L.filter isCode, P c = true) : L.all P = true := by
  refine List.all_eq_true.mpr fun c hc => ?_
  have h := List.all_eq_true.mp h1 c hc
  rcases Bool.eq_false_or_eq_true (isCode c) with hi | hi
  · exact h2 c (List.mem_filter.mpr ⟨hc, hi⟩)
  · simpa [hi] using h
set_option maxRecDepth 65536 in
theorem w_c0 : (Jvm.Cond.code x code maxLocals ret).before args0 about1 = true := code_word (m := ⟨1, 1⟩) (meth := k1m1) (c := k1c1) (by decide +kernel) rfl rfl rfl (by decide +kernel)
set_option maxRecDepth 65536 in
theorem w_c1 : (Jvm.Cond.code ({ cls := "com/example/roomyield/roomyield/RoomStatistics", name := "none", desc := "(Z)Lcom/example/roomyield/roomyield/RoomStatistics;" } : Jvm.MethodName) prog_18_method_2_code (2 : Nat) (Option.some (Jvm.ClassFile.FieldType.object "com/example/roomyield/roomyield/RoomStatistics"))).before args0 about1 = true := code_word (m := ⟨3, 1⟩) (meth := k3m1) (c := k3c1) (by decide +kernel) rfl rfl rfl (by decide +kernel)
set_option maxRecDepth 65536 in
theorem w_c2 : (Jvm.Cond.code ({ cls := "com/example/roomyield/roomyield/RoomStatistics", name := "<init>", desc := "(Ljava/math/BigDecimal;Ljava/math/BigDecimal;Ljava/math/BigDecimal;Ljava/math/BigDecimal;Ljava/math/BigDecimal;Ljava/math/BigDecimal;)V" } : Jvm.MethodName) prog_18_method_1_code (7 : Nat) (Option.none : Option Jvm.ClassFile.FieldType)).before args0 about1 = true := code_word (m := ⟨3, 0⟩) (meth := k3m0) (c := k3c0) (by decide +kernel) rfl rfl rfl (by decide +kernel)
set_option maxRecDepth 65536 in
theorem w_c3 : (Jvm.Cond.code ({ cls := "java/lang/Record", name := "<init>", desc := "()V" } : Jvm.MethodName) jdk_30_method_1_code (1 : Nat) (Option.none : Option Jvm.ClassFile.FieldType)).before args0 about1 = true := code_word (m := ⟨2, 0⟩) (meth := k2m0) (c := k2c0) (by decide +kernel) rfl rfl rfl (by decide +kernel)
set_option maxRecDepth 65536 in
theorem w_c4 : (Jvm.Cond.code ({ cls := "java/lang/Object", name := "<init>", desc := "()V" } : Jvm.MethodName) object_method_1_code (1 : Nat) (Option.none : Option Jvm.ClassFile.FieldType)).before args0 about1 = true := code_word (m := ⟨0, 0⟩) (meth := k0m0) (c := k0c0) (by decide +kernel) rfl rfl rfl (by decide +kernel)
set_option maxRecDepth 65536 in
theorem w_c5 : (Jvm.Cond.code ({ cls := "java/util/Objects", name := "requireNonNull", desc := "(Ljava/lang/Object;Ljava/lang/String;)Ljava/lang/Object;" } : Jvm.MethodName) jdk_31_method_11_code (2 : Nat) (Option.some (Jvm.ClassFile.FieldType.object "java/lang/Object"))).before args0 about1 = true := code_word (m := ⟨12, 1⟩) (meth := k12m1) (c := k12c1) (by decide +kernel) rfl rfl rfl (by decide +kernel)
set_option maxRecDepth 65536 in
theorem w_c6 : (Jvm.Cond.code ({ cls := "com/example/roomyield/roomyield/RoomStatistics", name := "guests", desc := "()Ljava/math/BigDecimal;" } : Jvm.MethodName) prog_18_method_17_code (1 : Nat) (Option.some (Jvm.ClassFile.FieldType.object "java/math/BigDecimal"))).before args0 about1 = true := code_word (m := ⟨3, 7⟩) (meth := k3m7) (c := k3c7) (by decide +kernel) rfl rfl rfl (by decide +kernel)
set_option maxRecDepth 65536 in
theorem w_c7 : (Jvm.Cond.code ({ cls := "com/example/roomyield/roomyield/RoomStatistics", name := "multipleOccupied", desc := "()Ljava/math/BigDecimal;" } : Jvm.MethodName) prog_18_method_18_code (1 : Nat) (Option.some (Jvm.ClassFile.FieldType.object "java/math/BigDecimal"))).before args0 about1 = true := code_word (m := ⟨3, 8⟩) (meth := k3m8) (c := k3c8) (by decide +kernel) rfl rfl rfl (by decide +kernel)
set_option maxRecDepth 65536 in
theorem w_c8 : (Jvm.Cond.code ({ cls := "com/example/roomyield/roomyield/RoomStatistics", name := "occupancyPct", desc := "()Ljava/math/BigDecimal;" } : Jvm.MethodName) prog_18_method_5_code (1 : Nat) (Option.some (Jvm.ClassFile.FieldType.object "java/math/BigDecimal"))).before args0 about1 = true := code_word (m := ⟨3, 2⟩) (meth := k3m2) (c := k3c2) (by decide +kernel) rfl rfl rfl (by decide +kernel)
set_option maxRecDepth 65536 in
theorem w_c9 : (Jvm.Cond.code ({ cls := "com/example/roomyield/roomyield/Figures", name := "percent", desc := "(Ljava/math/BigDecimal;Ljava/math/BigDecimal;)Ljava/math/BigDecimal;" } : Jvm.MethodName) prog_4_method_6_code (3 : Nat) (Option.some (Jvm.ClassFile.FieldType.object "java/math/BigDecimal"))).before args0 about1 = true := code_word (m := ⟨13, 2⟩) (meth := k13m2) (c := k13c2) (by decide +kernel) rfl rfl rfl (by decide +kernel)
set_option maxRecDepth 65536 in
theorem w_c10 : (Jvm.Cond.code ({ cls := "com/example/roomyield/roomyield/Figures", name := "ratio", desc := "(Ljava/math/BigDecimal;Ljava/math/BigDecimal;)Ljava/math/BigDecimal;" } : Jvm.MethodName) prog_4_method_2_code (3 : Nat) (Option.some (Jvm.ClassFile.FieldType.object "java/math/BigDecimal"))).before args0 about1 = true := code_word (m := ⟨13, 1⟩) (meth := k13m1) (c := k13c1) (by decide +kernel) rfl rfl rfl (by decide +kernel)
set_option maxRecDepth 65536 in
theorem w_c11 : (Jvm.Cond.code ({ cls := "java/math/BigDecimal", name := "signum", desc := "()I" } : Jvm.MethodName) jdk_17_method_58_code (1 : Nat) (Option.some Jvm.ClassFile.FieldType.int)).before args0 about1 = true := code_word (m := ⟨7, 3⟩) (meth := k7m3) (c := k7c3) (by decide +kernel) rfl rfl rfl (by decide +kernel)
set_option maxRecDepth 65536 in
theorem w_c12 : (Jvm.Cond.code ({ cls := "java/lang/Long", name := "signum", desc := "(J)I" } : Jvm.MethodName) jdk_35_method_57_code (2 : Nat) (Option.some Jvm.ClassFile.FieldType.int)).before args0 about1 = true := code_word (m := ⟨14, 0⟩) (meth := k14m0) (c := k14c0) (by decide +kernel) rfl rfl rfl (by decide +kernel)
set_option maxRecDepth 65536 in
theorem w_c13 : (Jvm.Cond.code ({ cls := "com/example/roomyield/roomyield/RoomStatistics", name := "revpar", desc := "()Ljava/math/BigDecimal;" } : Jvm.MethodName) prog_18_method_9_code (1 : Nat) (Option.some (Jvm.ClassFile.FieldType.object "java/math/BigDecimal"))).before args0 about1 = true := code_word (m := ⟨3, 6⟩) (meth := k3m6) (c := k3c6) (by decide +kernel) rfl rfl rfl (by decide +kernel)
set_option maxRecDepth 65536 in
theorem w_c14 : (Jvm.Cond.code ({ cls := "com/example/roomyield/roomyield/RoomStatistics", name := "adr", desc := "()Ljava/math/BigDecimal;" } : Jvm.MethodName) prog_18_method_8_code (1 : Nat) (Option.some (Jvm.ClassFile.FieldType.object "java/math/BigDecimal"))).before args0 about1 = true := code_word (m := ⟨3, 5⟩) (meth := k3m5) (c := k3c5) (by decide +kernel) rfl rfl rfl (by decide +kernel)
set_option maxRecDepth 65536 in
theorem w_c15 : (Jvm.Cond.code ({ cls := "com/example/roomyield/roomyield/RoomStatistics", name := "doubleOccupancyPct", desc := "()Ljava/math/BigDecimal;" } : Jvm.MethodName) prog_18_method_6_code (1 : Nat) (Option.some (Jvm.ClassFile.FieldType.object "java/math/BigDecimal"))).before args0 about1 = true := code_word (m := ⟨3, 3⟩) (meth := k3m3) (c := k3c3) (by decide +kernel) rfl rfl rfl (by decide +kernel)
set_option maxRecDepth 65536 in
theorem w_c16 : (Jvm.Cond.code ({ cls := "com/example/roomyield/roomyield/RoomStatistics", name := "multipleOccupancyPct", desc := "()Ljava/math/BigDecimal;" } : Jvm.MethodName) prog_18_method_7_code (1 : Nat) (Option.some (Jvm.ClassFile.FieldType.object "java/math/BigDecimal"))).before args0 about1 = true := code_word (m := ⟨3, 4⟩) (meth := k3m4) (c := k3c4) (by decide +kernel) rfl rfl rfl (by decide +kernel)
set_option maxRecDepth 65536 in
theorem w_c17 : (Jvm.Cond.code ({ cls := "java/math/BigDecimal", name := "subtract", desc := "(Ljava/math/BigDecimal;)Ljava/math/BigDecimal;" } : Jvm.MethodName) jdk_17_method_29_code (2 : Nat) (Option.some (Jvm.ClassFile.FieldType.object "java/math/BigDecimal"))).before args0 about1 = true := code_word (m := ⟨7, 2⟩) (meth := k7m2) (c := k7c2) (by decide +kernel) rfl rfl rfl (by decide +kernel)
set_option maxRecDepth 65536 in
theorem w_c18 : (Jvm.Cond.code ({ cls := "java/math/BigDecimal", name := "add", desc := "(JIJI)Ljava/math/BigDecimal;" } : Jvm.MethodName) jdk_17_method_134_code (12 : Nat) (Option.some (Jvm.ClassFile.FieldType.object "java/math/BigDecimal"))).before args0 about1 = true := code_word (m := ⟨7, 6⟩) (meth := k7m6) (c := k7c6) (by decide +kernel) rfl rfl rfl (by decide +kernel)
set_option maxRecDepth 65536 in
theorem w_c19 : (Jvm.Cond.code ({ cls := "java/math/BigDecimal", name := "add", desc := "(JJI)Ljava/math/BigDecimal;" } : Jvm.MethodName) jdk_17_method_133_code (7 : Nat) (Option.some (Jvm.ClassFile.FieldType.object "java/math/BigDecimal"))).before args0 about1 = true := code_word (m := ⟨7, 5⟩) (meth := k7m5) (c := k7c5) (by decide +kernel) rfl rfl rfl (by decide +kernel)
set_option maxRecDepth 65536 in
theorem w_c20 : (Jvm.Cond.code ({ cls := "java/math/BigDecimal", name := "add", desc := "(JJ)J" } : Jvm.MethodName) jdk_17_method_132_code (6 : Nat) (Option.some Jvm.ClassFile.FieldType.long)).before args0 about1 = true := code_word (m := ⟨7, 4⟩) (meth := k7m4) (c := k7c4) (by decide +kernel) rfl rfl rfl (by decide +kernel)
set_option maxRecDepth 65536 in
theorem w_c21 : (Jvm.Cond.code ({ cls := "java/math/BigDecimal", name := "valueOf", desc := "(JI)Ljava/math/BigDecimal;" } : Jvm.MethodName) jdk_17_method_20_code (3 : Nat) (Option.some (Jvm.ClassFile.FieldType.object "java/math/BigDecimal"))).before args0 about1 = true := code_word (m := ⟨7, 0⟩) (meth := k7m0) (c := k7c0) (by decide +kernel) rfl rfl rfl (by decide +kernel)
set_option maxRecDepth 65536 in
theorem w_c22 : (Jvm.Cond.code ({ cls := "java/math/BigDecimal", name := "valueOf", desc := "(J)Ljava/math/BigDecimal;" } : Jvm.MethodName) jdk_17_method_21_code (2 : Nat) (Option.some (Jvm.ClassFile.FieldType.object "java/math/BigDecimal"))).before args0 about1 = true := code_word (m := ⟨7, 1⟩) (meth := k7m1) (c := k7c1) (by decide +kernel) rfl rfl rfl (by decide +kernel)
def codes1 : List Jvm.Cond := [Jvm.Cond.code x code maxLocals ret, Jvm.Cond.code ({ cls := "com/example/roomyield/roomyield/RoomStatistics", name := "none", desc := "(Z)Lcom/example/roomyield/roomyield/RoomStatistics;" } : Jvm.MethodName) prog_18_method_2_code (2 : Nat) (Option.some (Jvm.ClassFile.FieldType.object "com/example/roomyield/roomyield/RoomStatistics")), Jvm.Cond.code ({ cls := "com/example/roomyield/roomyield/RoomStatistics", name := "<init>", desc := "(Ljava/math/BigDecimal;Ljava/math/BigDecimal;Ljava/math/BigDecimal;Ljava/math/BigDecimal;Ljava/math/BigDecimal;Ljava/math/BigDecimal;)V" } : Jvm.MethodName) prog_18_method_1_code (7 : Nat) (Option.none : Option Jvm.ClassFile.FieldType), Jvm.Cond.code ({ cls := "java/lang/Record", name := "<init>", desc := "()V" } : Jvm.MethodName) jdk_30_method_1_code (1 : Nat) (Option.none : Option Jvm.ClassFile.FieldType), Jvm.Cond.code ({ cls := "java/lang/Object", name := "<init>", desc := "()V" } : Jvm.MethodName) object_method_1_code (1 : Nat) (Option.none : Option Jvm.ClassFile.FieldType), Jvm.Cond.code ({ cls := "java/util/Objects", name := "requireNonNull", desc := "(Ljava/lang/Object;Ljava/lang/String;)Ljava/lang/Object;" } : Jvm.MethodName) jdk_31_method_11_code (2 : Nat) (Option.some (Jvm.ClassFile.FieldType.object "java/lang/Object")), Jvm.Cond.code ({ cls := "com/example/roomyield/roomyield/RoomStatistics", name := "guests", desc := "()Ljava/math/BigDecimal;" } : Jvm.MethodName) prog_18_method_17_code (1 : Nat) (Option.some (Jvm.ClassFile.FieldType.object "java/math/BigDecimal")), Jvm.Cond.code ({ cls := "com/example/roomyield/roomyield/RoomStatistics", name := "multipleOccupied", desc := "()Ljava/math/BigDecimal;" } : Jvm.MethodName) prog_18_method_18_code (1 : Nat) (Option.some (Jvm.ClassFile.FieldType.object "java/math/BigDecimal")), Jvm.Cond.code ({ cls := "com/example/roomyield/roomyield/RoomStatistics", name := "occupancyPct", desc := "()Ljava/math/BigDecimal;" } : Jvm.MethodName) prog_18_method_5_code (1 : Nat) (Option.some (Jvm.ClassFile.FieldType.object "java/math/BigDecimal")), Jvm.Cond.code ({ cls := "com/example/roomyield/roomyield/Figures", name := "percent", desc := "(Ljava/math/BigDecimal;Ljava/math/BigDecimal;)Ljava/math/BigDecimal;" } : Jvm.MethodName) prog_4_method_6_code (3 : Nat) (Option.some (Jvm.ClassFile.FieldType.object "java/math/BigDecimal")), Jvm.Cond.code ({ cls := "com/example/roomyield/roomyield/Figures", name := "ratio", desc := "(Ljava/math/BigDecimal;Ljava/math/BigDecimal;)Ljava/math/BigDecimal;" } : Jvm.MethodName) prog_4_method_2_code (3 : Nat) (Option.some (Jvm.ClassFile.FieldType.object "java/math/BigDecimal")), Jvm.Cond.code ({ cls := "java/math/BigDecimal", name := "signum", desc := "()I" } : Jvm.MethodName) jdk_17_method_58_code (1 : Nat) (Option.some Jvm.ClassFile.FieldType.int), Jvm.Cond.code ({ cls := "java/lang/Long", name := "signum", desc := "(J)I" } : Jvm.MethodName) jdk_35_method_57_code (2 : Nat) (Option.some Jvm.ClassFile.FieldType.int), Jvm.Cond.code ({ cls := "com/example/roomyield/roomyield/RoomStatistics", name := "revpar", desc := "()Ljava/math/BigDecimal;" } : Jvm.MethodName) prog_18_method_9_code (1 : Nat) (Option.some (Jvm.ClassFile.FieldType.object "java/math/BigDecimal")), Jvm.Cond.code ({ cls := "com/example/roomyield/roomyield/RoomStatistics", name := "adr", desc := "()Ljava/math/BigDecimal;" } : Jvm.MethodName) prog_18_method_8_code (1 : Nat) (Option.some (Jvm.ClassFile.FieldType.object "java/math/BigDecimal")), Jvm.Cond.code ({ cls := "com/example/roomyield/roomyield/RoomStatistics", name := "doubleOccupancyPct", desc := "()Ljava/math/BigDecimal;" } : Jvm.MethodName) prog_18_method_6_code (1 : Nat) (Option.some (Jvm.ClassFile.FieldType.object "java/math/BigDecimal")), Jvm.Cond.code ({ cls := "com/example/roomyield/roomyield/RoomStatistics", name := "multipleOccupancyPct", desc := "()Ljava/math/BigDecimal;" } : Jvm.MethodName) prog_18_method_7_code (1 : Nat) (Option.some (Jvm.ClassFile.FieldType.object "java/math/BigDecimal")), Jvm.Cond.code ({ cls := "java/math/BigDecimal", name := "subtract", desc := "(Ljava/math/BigDecimal;)Ljava/math/BigDecimal;" } : Jvm.MethodName) jdk_17_method_29_code (2 : Nat) (Option.some (Jvm.ClassFile.FieldType.object "java/math/BigDecimal")), Jvm.Cond.code ({ cls := "java/math/BigDecimal", name := "add", desc := "(JIJI)Ljava/math/BigDecimal;" } : Jvm.MethodName) jdk_17_method_134_code (12 : Nat) (Option.some (Jvm.ClassFile.FieldType.object "java/math/BigDecimal")), Jvm.Cond.code ({ cls := "java/math/BigDecimal", name := "add", desc := "(JJI)Ljava/math/BigDecimal;" } : Jvm.MethodName) jdk_17_method_133_code (7 : Nat) (Option.some (Jvm.ClassFile.FieldType.object "java/math/BigDecimal")), Jvm.Cond.code ({ cls := "java/math/BigDecimal", name := "add", desc := "(JJ)J" } : Jvm.MethodName) jdk_17_method_132_code (6 : Nat) (Option.some Jvm.ClassFile.FieldType.long), Jvm.Cond.code ({ cls := "java/math/BigDecimal", name := "valueOf", desc := "(JI)Ljava/math/BigDecimal;" } : Jvm.MethodName) jdk_17_method_20_code (3 : Nat) (Option.some (Jvm.ClassFile.FieldType.object "java/math/BigDecimal")), Jvm.Cond.code ({ cls := "java/math/BigDecimal", name := "valueOf", desc := "(J)Ljava/math/BigDecimal;" } : Jvm.MethodName) jdk_17_method_21_code (2 : Nat) (Option.some (Jvm.ClassFile.FieldType.object "java/math/BigDecimal"))]
set_option maxRecDepth 65536 in
theorem codes_eq : words1.filter isCode = codes1 := rfl
theorem w_codes : ∀ c ∈ words1.filter isCode, c.before args0 about1 = true := by
  rw [codes_eq]
  intro c hc
  simp only [codes1, List.mem_cons, List.not_mem_nil, or_false] at hc
  rcases hc with rfl | rfl | rfl | rfl | rfl | rfl | rfl | rfl | rfl | rfl | rfl | rfl | rfl | rfl | rfl | rfl | rfl | rfl | rfl | rfl | rfl | rfl | rfl
  · exact w_c0
  · exact w_c1
  · exact w_c2
  · exact w_c3
  · exact w_c4
  · exact w_c5
  · exact w_c6
  · exact w_c7
  · exact w_c8
  · exact w_c9
  · exact w_c10
  · exact w_c11
  · exact w_c12
  · exact w_c13
  · exact w_c14
  · exact w_c15
  · exact w_c16
  · exact w_c17
  · exact w_c18
  · exact w_c19
  · exact w_c20
  · exact w_c21
  · exact w_c22
set_option maxRecDepth 65536 in
theorem w_t1 : (words1.take 24).all (fun c => isCode c || c.before args0 about1) = true := by decide +kernel
set_option maxRecDepth 65536 in
theorem w_t2 : ((words1.drop 24).take 24).all (fun c => isCode c || c.before args0 about1) = true := by decide +kernel
set_option maxRecDepth 65536 in
theorem w_t3 : (((words1.drop 24).drop 24).take 24).all (fun c => isCode c || c.before args0 about1) = true := by decide +kernel
set_option maxRecDepth 65536 in
theorem w_t4 : ((((words1.drop 24).drop 24).drop 24).take 24).all (fun c => isCode c || c.before args0 about1) = true := by decide +kernel
set_option maxRecDepth 65536 in
theorem w_t5 : (((((words1.drop 24).drop 24).drop 24).drop 24).take 24).all (fun c => isCode c || c.before args0 about1) = true := by decide +kernel
set_option maxRecDepth 65536 in
theorem w_t6 : (((((words1.drop 24).drop 24).drop 24).drop 24).drop 24).all (fun c => isCode c || c.before args0 about1) = true := by decide +kernel
theorem w_tables : (allAtoms (Jvm.Cond.code x code maxLocals ret :: tables_1)).before args0 about1 = true := by
  rw [allAtoms_all]
  show words1.all (fun c => c.before args0 about1) = true
  refine all_split ?_ w_codes
  rw [← List.take_append_drop 24 words1, List.all_append, w_t1, ← List.take_append_drop 24 (words1.drop 24), List.all_append, w_t2, ← List.take_append_drop 24 ((words1.drop 24).drop 24), List.all_append, w_t3, ← List.take_append_drop 24 (((words1.drop 24).drop 24).drop 24), List.all_append, w_t4, ← List.take_append_drop 24 ((((words1.drop 24).drop 24).drop 24).drop 24), List.all_append, w_t5, w_t6]
  rfl
set_option maxRecDepth 65536 in
theorem w_rest : rest_1_c.before args0 about1 = true := by decide +kernel
set_option maxRecDepth 65536 in
theorem w_case : (Jvm.Cond.and given_1 narrow_1).before args0 about1 = true := by decide +kernel
theorem w_applies : (headSpec (Jvm.Cond.code x code maxLocals ret :: tables_1) room_1).applies x e0.platform about1 = true :=
  (Spec.applies_iff w_frames).mpr ⟨w_running, w_runnable, w_alone, w_named, w_hears, w_ripe, w_room, w_tables⟩
theorem atStart : AtStart classFile x code maxLocals ret World_1 tables_1 room_1 Calls_1 rest_1 Pre_1 launch0 p0 e0 about1 theMethod args0 below0 :=
  ⟨lists_1, trivial, launch0.admits_env _ _ _, launch0.least_env, fairChoices_fair.cas, fairChoices_fair.clock, w_frames, w_args, w_heap, w_applies, trivial, w_rest, w_case⟩
end start1
theorem witness_1 : WitnessClaimed_1 := ⟨start1.p0, start1.e0, start1.about1, start1.theMethod, start1.args0, start1.below0, start1.atStart⟩
end Jvm.Pilot.@@N@@
