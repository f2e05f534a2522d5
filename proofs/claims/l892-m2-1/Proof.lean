import JvmDerived
import JvmDerived.Pilot.@@N@@Statement
import JvmDerived.Pilot.@@N@@Code
set_option linter.unusedVariables false
set_option linter.unusedSimpArgs false
@@BLOCK:NumsL.lean.txt@@
namespace Jvm.Pilot.@@N@@
open Jvm Jvm.ClassFile Sem Op Lib Jvm.Free Jvm.Stand Jvm.LawKit Jvm.RoadKit Bundle Jvm.Pilot.@@N@@.Jvm.D
/-! THE OWN KIT: walks by continuation. oWP says: from this frame over this heap the body runs to its end, and Q holds there. -/
/-- what a conditional branch asks, in plain words -/
def oC : ClassFile.Cond → Int32 → Int32 → Prop
  | .eq, x, w => x = w
  | .ne, x, w => ¬ x = w
  | .lt, x, w => x < w
  | .ge, x, w => ¬ x < w
  | .gt, x, w => w < x
  | .le, x, w => ¬ w < x
theorem oC_cases (cd : ClassFile.Cond) (x w : Int32) : (if_icmp.holds cd x w = true ∧ oC cd x w) ∨ (if_icmp.holds cd x w = false ∧ ¬ oC cd x w) := by
  cases cd with
  | eq =>
    by_cases q : x = w
    · exact Or.inl ⟨(teq q).1, q⟩
    · exact Or.inr ⟨(feq q).1, q⟩
  | ne =>
    by_cases q : x = w
    · exact Or.inr ⟨(teq q).2, fun r => r q⟩
    · exact Or.inl ⟨(feq q).2, q⟩
  | lt =>
    by_cases q : x < w
    · exact Or.inl ⟨(tlt q).1, q⟩
    · exact Or.inr ⟨(flt q).1, q⟩
  | ge =>
    by_cases q : x < w
    · exact Or.inr ⟨(tlt q).2.1, fun r => r q⟩
    · exact Or.inl ⟨(flt q).2.1, q⟩
  | gt =>
    by_cases q : w < x
    · exact Or.inl ⟨(tlt q).2.2.1, q⟩
    · exact Or.inr ⟨(flt q).2.2.1, q⟩
  | le =>
    by_cases q : w < x
    · exact Or.inr ⟨(tlt q).2.2.2, fun r => r q⟩
    · exact Or.inl ⟨(flt q).2.2.2, q⟩
def oA : ACond → Value → Value → Prop
  | .eq, x, w => x = w
  | .ne, x, w => ¬ x = w
theorem oA_cases (cd : ACond) (x w : Value) : (acV cd (decide (x = w)) = true ∧ oA cd x w) ∨ (acV cd (decide (x = w)) = false ∧ ¬ oA cd x w) := by
  cases cd with
  | eq =>
    by_cases q : x = w
    · exact Or.inl ⟨decide_eq_true q, q⟩
    · exact Or.inr ⟨decide_eq_false q, q⟩
  | ne =>
    by_cases q : x = w
    · exact Or.inr ⟨by rw [decide_eq_true q]; rfl, fun r => r q⟩
    · exact Or.inl ⟨by rw [decide_eq_false q]; rfl, q⟩
section OwnKit
variable {b : Bool} {p : Program} {l : Launch} {e : Env} {R : Room} {s : State} {m : MethodId} {args : Array Value} {below : List Frame} {meth : Method} {c : Code} {P : Addr → Prop} {Q : Option Value → Heap → Vm → Prop} {J : Vm → Prop} {h : Heap} {k n : Nat} {Z : State} {a0 : Array Value} {y : MethodName} {B : ByteArray} {ml : Nat} {rt : Option FieldType}
/-- every place written lies in a cell that may be written -/
def oAl (P : Addr → Prop) (L : List Loc) : Prop := ∀ q ∈ L, P q.base
theorem oAl.snoc {L : List Loc} {a : Addr} {sl : Nat} (N : oAl P L) (q : P a) : oAl P (L ++ [⟨a, sl⟩]) := fun z hz => (List.mem_append.mp hz).elim (N z) fun hz => by cases List.mem_singleton.mp hz; exact q
theorem oAl.app {L L' : List Loc} (N : oAl P L) (N' : oAl P L') : oAl P (L ++ L') := fun z hz => (List.mem_append.mp hz).elim (N z) (N' z)
/-- from h to h': no cell went, classes and sizes stay, a cell that P does not name stays as it is -/
def oKp (P : Addr → Prop) (h h' : Heap) : Prop := h.size ≤ h'.size ∧ ∀ (x : Addr) (c : Cell), h[x]? = some c → ∃ c' : Cell, h'[x]? = some c' ∧ c'.cls = c.cls ∧ c'.vm = c.vm ∧ c'.slots.size = c.slots.size ∧ (¬ P x → c' = c)
theorem oKp.of_same {t : State} {L : List Loc} {ck cn : Nat} (hS : s.sameButNew t L ck cn) (N : oAl P L) : oKp P s.heap t.heap := by
  obtain ⟨-, h1, -, -, -, hh⟩ := hS
  refine ⟨h1, fun x c hx => ?_⟩
  obtain ⟨c', e1, e2, e3, e4⟩ := hh x c hx
  refine ⟨c', e1, by rw [e2], by rw [e2], e3, fun q => ?_⟩
  have e5 : c'.slots = c.slots := Array.ext_getElem? fun i => e4 i fun z => q (N _ z)
  rw [e2, e5]
theorem oKp.ext {h' : Heap} (K : oKp (fun a => h.size ≤ a) h h') : Ext h h' := ⟨K.1, fun a c hc => by
  obtain ⟨c', e1, -, -, -, e5⟩ := K.2 a c hc
  rw [e5 (Nat.not_le.mpr (Array.getElem?_eq_some_iff.mp hc).1)] at e1; exact e1⟩
theorem oKp.fld {h' : Heap} {a : Addr} {C f d : String} {v : Value} (K : oKp P h h') (F : Fld Z h a C f d v) (q : ¬ P a) : Fld Z h' a C f d v := by
  obtain ⟨cell, cf, k, i, f, h1, r⟩ := F
  obtain ⟨c', e1, -, -, -, e5⟩ := K.2 a cell h1
  rw [e5 q] at e1; exact ⟨cell, cf, k, i, f, e1, r⟩
theorem oKp.exa {h' : Heap} {a : Addr} {C : String} (K : oKp P h h') (F : Exa Z h a C) : Exa Z h' a C := by
  obtain ⟨cell, k, h1, h2, h3, h4, h5⟩ := F
  obtain ⟨c', e1, e2, e3, e4, -⟩ := K.2 a cell h1
  exact ⟨c', k, e1, by rw [e2]; exact h2, by rw [e2]; exact h3, by rw [e3]; exact h4, by rw [e4]; exact h5⟩
theorem oKp.arr {h' : Heap} {a : Addr} {cl : Cell} {ty : FieldType} (K : oKp P h h') (F : Arr Z h a cl ty) (q : ¬ P a) : Arr Z h' a cl ty := by
  obtain ⟨c', e1, -, -, -, e5⟩ := K.2 a cl F.1
  rw [e5 q] at e1; exact ⟨e1, F.2⟩
theorem oKp.trans {h' h'' : Heap} {P' : Addr → Prop} (K : oKp P h h') (K' : oKp P' h' h'') (q : ∀ a, P' a → P a) : oKp P h h'' := by
  refine ⟨Nat.le_trans K.1 K'.1, fun x c hx => ?_⟩
  obtain ⟨c1, a1, a2, a3, a4, a5⟩ := K.2 x c hx
  obtain ⟨c2, b1, b2, b3, b4, b5⟩ := K'.2 x c1 a1
  exact ⟨c2, b1, b2.trans a2, b3.trans a3, b4.trans a4, fun r => (b5 fun z => r (q x z)).trans (a5 r)⟩
/-- what is fixed along one body's walk -/
def oCx (p : Program) (s : State) (m : MethodId) (meth : Method) (c : Code) (P : Addr → Prop) (Z : State) (y : MethodName) (B : ByteArray) (ml : Nat) (rt : Option FieldType) : Prop :=
  p.tables.exec = Jvm.exec ∧ c.code = B ∧ c.maxLocals = ml ∧ meth.sig.returnType = rt ∧ meth.locks = false ∧ Z.Warmed39 s.vm ∧ s.vm.findClass y.cls = some m.cls ∧ meth.name = y.name ∧ Ext Z.heap s.heap ∧ (∀ a, s.heap.size ≤ a → P a) ∧ (∀ a, P a → Z.heap.size ≤ a)
theorem oCx.hml (C : oCx p s m meth c P Z y B ml rt) : c.maxLocals = ml := C.2.2.1
theorem oCx.hrt (C : oCx p s m meth c P Z y B ml rt) : meth.sig.returnType = rt := C.2.2.2.1
theorem oCx.locks (C : oCx p s m meth c P Z y B ml rt) : meth.locks = false := C.2.2.2.2.1
theorem oCx.hZ (C : oCx p s m meth c P Z y B ml rt) : Z.Warmed39 s.vm := C.2.2.2.2.2.1
theorem oCx.own (C : oCx p s m meth c P Z y B ml rt) : s.vm.findClass y.cls = some m.cls := C.2.2.2.2.2.2.1
theorem oCx.nm (C : oCx p s m meth c P Z y B ml rt) : meth.name = y.name := C.2.2.2.2.2.2.2.1
theorem oCx.old (C : oCx p s m meth c P Z y B ml rt) : Ext Z.heap s.heap := C.2.2.2.2.2.2.2.2.1
theorem oCx.new (C : oCx p s m meth c P Z y B ml rt) : ∀ a, s.heap.size ≤ a → P a := C.2.2.2.2.2.2.2.2.2.1
theorem oCx.young (C : oCx p s m meth c P Z y B ml rt) : ∀ a, P a → Z.heap.size ≤ a := C.2.2.2.2.2.2.2.2.2.2
theorem oCx.rebase {vm0 : Vm} {k0 : Nat} (C : oCx p s m meth c P Z y B ml rt) (hS : s.Since vm0 k0) : oCx p (s.setVm vm0) m meth c P Z y B ml rt :=
  ⟨C.1, C.2.1, C.2.2.1, C.2.2.2.1, C.2.2.2.2.1, State.Warmed39.trans C.hZ hS.1, by show vm0.findClass y.cls = _; rw [hS.1.alike.findClass]; exact C.own, C.2.2.2.2.2.2.2⟩
/-- J holds on, whatever classes, fields and methods come to be resolved -/
def oJs (J : Vm → Prop) : Prop := ∀ (s : State) (vm' : Vm), J s.vm → s.WarmedH vm' → J vm'
def oT : Vm → Prop := fun _ => True
theorem oTs : oJs oT := fun _ _ _ _ => trivial
/-- the end of a body: wide, and narrow where b says so -/
def oEnd (b : Bool) (s : State) (o : Outcome) (u : State) (L : List Loc) (k n : Nat) : Prop := (b = false → FrameEnd s o u L k n) ∧ ReturnedEndW s o u L k n
def oSd (b : Bool) (p : Program) (l : Launch) (e : Env) (R : Room) (s : State) (m : MethodId) (args : Array Value) (below : List Frame) (meth : Method) (c : Code) (P : Addr → Prop) (J : Vm → Prop) (h : Heap) (k n : Nat) (T : State) : Prop :=
  ∃ (vm0 : Vm) (k0 : Nat) (locs : List Loc) (ck cn : Nat), Stand p l e R (s.setVm vm0) m args below meth c T locs ck cn ∧ T.heap = h ∧ oAl P locs ∧ ck ≤ k ∧ cn ≤ n ∧ s.Since vm0 k0 ∧ k0 ≤ h.size ∧ (b = false → vm0 = s.vm) ∧ J vm0 ∧ oJs J
/-- from the frame g over the heap h the body runs to its end and Q holds there -/
def oWP (b : Bool) (p : Program) (l : Launch) (e : Env) (R : Room) (s : State) (m : MethodId) (args : Array Value) (below : List Frame) (meth : Method) (c : Code) (P : Addr → Prop) (Q : Option Value → Heap → Vm → Prop) (J : Vm → Prop) (h : Heap) (k n : Nat) (g : JFrame) : Prop :=
  ∀ T, oSd b p l e R s m args below meth c P J h k n T → ∃ u o, Steps p.tables e below (T.setTop g) u ∧ u.status = .running ∧ Ended u below o ∧ ∃ v L, o = .returned v ∧ (Q v u.heap u.vm ∧ oAl P L) ∧ oEnd b s o u L R.cells R.slots
abbrev oF (m : MethodId) (pc : Nat) (Ls : List Slot) (S : List Value) : JFrame := mkF m pc (Array.mk Ls) S
/-- a body's contract, where it resolves no string -/
def oMeets (l : Launch) (Z : State) (y : MethodName) (B : ByteArray) (ml : Nat) (rt : Option FieldType) (rm : Room) (as' : Array Value) (h0 : Heap) (P : Addr → Prop) (Q : Option Value → Heap → Prop) : Prop :=
  Ext Z.heap h0 → ∀ ws, MetFree l y (head1 (Jvm.Cond.code y B ml rt :: ws) rm) (fun a U => a = as' ∧ Z.Warmed39 U.vm ∧ U.heap = h0) (fun _ _ _ _ _ => True) (fun _ U o U' => ∃ v L, o = .returned v ∧ (Q v U'.heap ∧ oAl P L ∧ oKp P h0 U'.heap) ∧ FrameEnd U o U' L rm.cells rm.slots)
/-- a body's contract, where it may; J: what it asks of the tables -/
def oMeetsW (l : Launch) (Z : State) (y : MethodName) (B : ByteArray) (ml : Nat) (rt : Option FieldType) (rm : Room) (as' : Array Value) (h0 : Heap) (P : Addr → Prop) (J : Vm → Prop) (Q : Option Value → Heap → Vm → Prop) : Prop :=
  Ext Z.heap h0 → ∀ ws, MetFree l y (head1 (Jvm.Cond.code y B ml rt :: ws) rm) (fun a U => a = as' ∧ Z.Warmed39 U.vm ∧ U.heap = h0 ∧ J U.vm) (fun _ _ _ _ _ => True) (fun _ U o U' => ∃ v L, o = .returned v ∧ (Q v U'.heap U'.vm ∧ oAl P L ∧ oKp P h0 U'.heap) ∧ ReturnedEndW U o U' L rm.cells rm.slots)
theorem oMeets.of {rm : Room} {as' : Array Value} {h0 : Heap} {Ls : List Slot} {Q : Option Value → Heap → Prop} (hpl : plainFor y = true) (hP0 : ∀ a, h0.size ≤ a → P a) (hPn : Ext Z.heap h0 → ∀ a, P a → Z.heap.size ≤ a) (hef : ∀ m, entryFrame m as' ml = oF m 0 Ls [])
    (body : ∀ (p : Program) (e : Env) (s : State) (m : MethodId) (below : List Frame) (meth : Method) (c : Code), oCx p s m meth c P Z y B ml rt → s.heap = h0 → oWP false p l e rm s m as' below meth c P (fun v h _ => Q v h) oT h0 0 0 (oF m 0 Ls [])) : oMeets l Z y B ml rt rm as' h0 P Q := by
  intro hE ws
  refine MetFree.of_bodySF hpl hisR ?_
  intro p e s m args below meth c s₁ Bd hml0 hP hK
  obtain ⟨rfl, hZ, hh⟩ := hP
  have C : oCx p s m meth c P Z y B ml rt := ⟨Bd.exec, Bd.bytes, hml0, Bd.returns, Bd.notSynchronized, hZ, findClass_of_methodNamed Bd.named, (name_of_methodNamed Bd.named Bd.method).1, by rw [hh]; exact hE, by rw [hh]; exact hP0, hPn hE⟩
  have X0 : Stand p l e rm s m args below meth c s₁ [] 0 0 := Stand.of_body Bd
  have e0 : s₁.heap = h0 := by rw [← hh, Bd.state]; rfl
  obtain ⟨u, o, h1, h2, h3, v, L, rfl, ⟨hQ, hN⟩, hF⟩ := body p e s m below meth c C hh s₁ ⟨s.vm, 0, [], 0, 0, X0, e0, fun _ q => (nomatch q), Nat.le_refl _, Nat.le_refl _, (State.WarmedH.refl s).since 0, Nat.zero_le _, fun _ => rfl, trivial, oTs⟩
  refine ⟨u, _, castTop (hef m) h1, h2, h3, v, L, rfl, ⟨hQ, hN, ?_⟩, hF.1 rfl⟩
  rw [← hh]
  exact oKp.of_same (t := { u with vm := s.vm }) hF.2.2.2.2 hN
theorem oMeetsW.of {rm : Room} {as' : Array Value} {h0 : Heap} {Ls : List Slot} (hpl : plainFor y = true) (hP0 : ∀ a, h0.size ≤ a → P a) (hPn : Ext Z.heap h0 → ∀ a, P a → Z.heap.size ≤ a) (hef : ∀ m, entryFrame m as' ml = oF m 0 Ls []) (hJs : oJs J)
    (body : ∀ (p : Program) (e : Env) (s : State) (m : MethodId) (below : List Frame) (meth : Method) (c : Code), oCx p s m meth c P Z y B ml rt → s.heap = h0 → oWP true p l e rm s m as' below meth c P Q J h0 0 0 (oF m 0 Ls [])) : oMeetsW l Z y B ml rt rm as' h0 P J Q := by
  intro hE ws
  refine MetFree.of_bodySF hpl hisR ?_
  intro p e s m args below meth c s₁ Bd hml0 hP hK
  obtain ⟨rfl, hZ, hh, hJ⟩ := hP
  have C : oCx p s m meth c P Z y B ml rt := ⟨Bd.exec, Bd.bytes, hml0, Bd.returns, Bd.notSynchronized, hZ, findClass_of_methodNamed Bd.named, (name_of_methodNamed Bd.named Bd.method).1, by rw [hh]; exact hE, by rw [hh]; exact hP0, hPn hE⟩
  have X0 : Stand p l e rm s m args below meth c s₁ [] 0 0 := Stand.of_body Bd
  have e0 : s₁.heap = h0 := by rw [← hh, Bd.state]; rfl
  obtain ⟨u, o, h1, h2, h3, v, L, rfl, ⟨hQ, hN⟩, hF⟩ := body p e s m below meth c C hh s₁ ⟨s.vm, 0, [], 0, 0, X0, e0, fun _ q => (nomatch q), Nat.le_refl _, Nat.le_refl _, (State.WarmedH.refl s).since 0, Nat.zero_le _, fun _ => rfl, hJ, hJs⟩
  refine ⟨u, _, castTop (hef m) h1, h2, h3, v, L, rfl, ⟨hQ, hN, ?_⟩, hF.2⟩
  rw [← hh]
  exact oKp.of_same (t := { u with vm := s.vm }) hF.2.2.2.2 hN
theorem oMeets.mono {rm : Room} {as' : Array Value} {h0 : Heap} {Q Q' : Option Value → Heap → Prop} (M : oMeets l Z y B ml rt rm as' h0 P Q) (i : ∀ v h, Q v h → Q' v h) : oMeets l Z y B ml rt rm as' h0 P Q' := fun hE ws p e h1 h2 h3 s m a d h4 h5 h6 h7 => by
  obtain ⟨n, o, g1, g2, g3, v, L, rfl, ⟨hQ, r⟩, hF⟩ := M hE ws p e h1 h2 h3 s m a d h4 h5 h6 h7
  exact ⟨n, _, g1, g2, g3, v, L, rfl, ⟨i _ _ hQ, r⟩, hF⟩
theorem oWP.step {g g' : JFrame} (st : ∀ T, At T m c below → ∀ target, Steps p.tables e below (T.setTop g') target → Steps p.tables e below (T.setTop g) target) (K : oWP b p l e R s m args below meth c P Q J h k n g') : oWP b p l e R s m args below meth c P Q J h k n g := fun T hT => by
  obtain ⟨u, o, h1, h2⟩ := K T hT
  obtain ⟨_, _, _, _, _, X, -⟩ := hT
  exact ⟨u, o, st T X.here u h1, h2⟩
theorem oWP.stepX {g g' : JFrame} (st : ∀ s' T locs ck cn, Stand p l e R s' m args below meth c T locs ck cn → ∀ target, Steps p.tables e below (T.setTop g') target → Steps p.tables e below (T.setTop g) target) (K : oWP b p l e R s m args below meth c P Q J h k n g') : oWP b p l e R s m args below meth c P Q J h k n g := fun T hT => by
  obtain ⟨u, o, h1, h2⟩ := K T hT
  obtain ⟨_, _, _, _, _, X, -⟩ := hT
  exact ⟨u, o, st _ T _ _ _ X u h1, h2⟩
/-- a step by a law that hands back a new state over the same heap -/
theorem oWP.law {g g' : JFrame} (K : oWP b p l e R s m args below meth c P Q J h k n g') (C : oCx p s m meth c P Z y B ml rt) (st : ∀ s', oCx p s' m meth c P Z y B ml rt → ∀ T locs ck cn, Stand p l e R s' m args below meth c T locs ck cn → T.heap = h → ∃ T', Stand p l e R s' m args below meth c T' locs ck cn ∧ T'.heap = h ∧ ∀ target, Steps p.tables e below (T'.setTop g') target → Steps p.tables e below (T.setTop g) target) : oWP b p l e R s m args below meth c P Q J h k n g := fun T hT => by
  obtain ⟨vm0, k0, locs, ck, cn, X, eT, N, q1, q2, hS, hk0, hbv, hJ⟩ := hT
  obtain ⟨T', X', e', st'⟩ := st _ (C.rebase hS) T locs ck cn X eT
  obtain ⟨u, o, h1, h2⟩ := K T' ⟨vm0, k0, locs, ck, cn, X', e', N, q1, q2, hS, hk0, hbv, hJ⟩
  exact ⟨u, o, st' u h1, h2⟩
theorem oWP.more {g : JFrame} {k' n' : Nat} (K : oWP b p l e R s m args below meth c P Q J h k' n' g) (hk : k ≤ k') (hn : n ≤ n') : oWP b p l e R s m args below meth c P Q J h k n g := fun T hT => by
  obtain ⟨vm0, k0, locs, ck, cn, X, eT, N, q1, q2, r⟩ := hT
  exact K T ⟨vm0, k0, locs, ck, cn, X, eT, N, Nat.le_trans q1 hk, Nat.le_trans q2 hn, r⟩
theorem oSd.old {T : State} (C : oCx p s m meth c P Z y B ml rt) (hT : oSd b p l e R s m args below meth c P J h k n T) : Ext Z.heap h ∧ s.heap.size ≤ h.size ∧ oKp P s.heap h := by
  obtain ⟨vm0, k0, locs, ck, cn, X, rfl, N, -⟩ := hT
  have K : oKp P s.heap T.heap := oKp.of_same (s := s.setVm vm0) (t := T.setVm (s.setVm vm0).vm) X.same N
  refine ⟨⟨Nat.le_trans C.old.1 K.1, fun a cl ha => ?_⟩, K.1, K⟩
  obtain ⟨c', e1, -, -, -, e5⟩ := K.2 a cl (C.old.2 a cl ha)
  rw [e5 fun q => absurd (C.young a q) (Nat.not_le.mpr (Array.getElem?_eq_some_iff.mp ha).1)] at e1
  exact e1
/-- what stood at the start stands here; the heap only grew; and what the body kept so far -/
theorem K_old {g : JFrame} (C : oCx p s m meth c P Z y B ml rt) (K : Ext Z.heap h → s.heap.size ≤ h.size → oKp P s.heap h → oWP b p l e R s m args below meth c P Q J h k n g) : oWP b p l e R s m args below meth c P Q J h k n g := fun T hT => by
  obtain ⟨h1, h2, h3⟩ := oSd.old C hT
  exact K h1 h2 h3 T hT
variable {pc : Nat} {Ls : List Slot} {S : List Value}
theorem K_iloadN (C : oCx p s m meth c P Z y B ml rt) {i : Fin 4} {v : Int32} (hd : decode B pc = .ok (.iload_n i, 1)) (hl : (Array.mk Ls)[i.val]? = some (.val (.int v))) (K : oWP b p l e R s m args below meth c P Q J h k n (oF m (pc + 1) Ls ((.int v) :: S))) : oWP b p l e R s m args below meth c P Q J h k n (oF m pc Ls S) := K.step fun _ A _ => XS.iloadN A C.1 rfl (hb C.2.1 hd) hl
theorem K_iload (C : oCx p s m meth c P Z y B ml rt) {i : Nat} {v : Int32} (hd : decode B pc = .ok (.iload i, 2)) (hl : (Array.mk Ls)[i]? = some (.val (.int v))) (K : oWP b p l e R s m args below meth c P Q J h k n (oF m (pc + 2) Ls ((.int v) :: S))) : oWP b p l e R s m args below meth c P Q J h k n (oF m pc Ls S) := K.step fun _ A _ => XS.iload A C.1 rfl (hb C.2.1 hd) hl
theorem K_lloadN (C : oCx p s m meth c P Z y B ml rt) {i : Fin 4} {v : Int64} (hd : decode B pc = .ok (.lload_n i, 1)) (hl : (Array.mk Ls)[i.val]? = some (.val (.long v))) (K : oWP b p l e R s m args below meth c P Q J h k n (oF m (pc + 1) Ls ((.long v) :: S))) : oWP b p l e R s m args below meth c P Q J h k n (oF m pc Ls S) := K.step fun _ A _ => XT.lloadN A C.1 rfl (hb C.2.1 hd) hl
theorem K_lload (C : oCx p s m meth c P Z y B ml rt) {i : Nat} {v : Int64} (hd : decode B pc = .ok (.lload i, 2)) (hl : (Array.mk Ls)[i]? = some (.val (.long v))) (K : oWP b p l e R s m args below meth c P Q J h k n (oF m (pc + 2) Ls ((.long v) :: S))) : oWP b p l e R s m args below meth c P Q J h k n (oF m pc Ls S) := K.step fun _ A _ => XT.lload A C.1 rfl (hb C.2.1 hd) hl
theorem K_aloadN (C : oCx p s m meth c P Z y B ml rt) {i : Fin 4} {v : Value} (hd : decode B pc = .ok (.aload_n i, 1)) (hl : (Array.mk Ls)[i.val]? = some (.val v)) (hv : v.isRef = true) (K : oWP b p l e R s m args below meth c P Q J h k n (oF m (pc + 1) Ls (v :: S))) : oWP b p l e R s m args below meth c P Q J h k n (oF m pc Ls S) := K.step fun _ A _ => XS.aloadN A C.1 rfl (hb C.2.1 hd) hl hv
theorem K_aload (C : oCx p s m meth c P Z y B ml rt) {i : Nat} {v : Value} (hd : decode B pc = .ok (.aload i, 2)) (hl : (Array.mk Ls)[i]? = some (.val v)) (hv : v.isRef = true) (K : oWP b p l e R s m args below meth c P Q J h k n (oF m (pc + 2) Ls (v :: S))) : oWP b p l e R s m args below meth c P Q J h k n (oF m pc Ls S) := K.step fun _ A _ => XS.aload A C.1 rfl (hb C.2.1 hd) hl hv
theorem K_istoreN (C : oCx p s m meth c P Z y B ml rt) {i : Fin 4} {v : Int32} {Ls' : List Slot} (hd : decode B pc = .ok (.istore_n i, 1)) (hl : storeLocals (Array.mk Ls) i.val (.int v) = some (Array.mk Ls')) (K : oWP b p l e R s m args below meth c P Q J h k n (oF m (pc + 1) Ls' S)) : oWP b p l e R s m args below meth c P Q J h k n (oF m pc Ls ((.int v) :: S)) := K.step fun _ A _ => XS.istoreN A C.1 rfl (hb C.2.1 hd) rfl hl
theorem K_istore (C : oCx p s m meth c P Z y B ml rt) {i : Nat} {v : Int32} {Ls' : List Slot} (hd : decode B pc = .ok (.istore i, 2)) (hl : storeLocals (Array.mk Ls) i (.int v) = some (Array.mk Ls')) (K : oWP b p l e R s m args below meth c P Q J h k n (oF m (pc + 2) Ls' S)) : oWP b p l e R s m args below meth c P Q J h k n (oF m pc Ls ((.int v) :: S)) := K.step fun _ A _ => XS.istore A C.1 rfl (hb C.2.1 hd) rfl hl
theorem K_lstoreN (C : oCx p s m meth c P Z y B ml rt) {i : Fin 4} {v : Int64} {Ls' : List Slot} (hd : decode B pc = .ok (.lstore_n i, 1)) (hl : storeLocals (Array.mk Ls) i.val (.long v) = some (Array.mk Ls')) (K : oWP b p l e R s m args below meth c P Q J h k n (oF m (pc + 1) Ls' S)) : oWP b p l e R s m args below meth c P Q J h k n (oF m pc Ls ((.long v) :: S)) := K.step fun _ A _ => XT.lstoreN A C.1 rfl (hb C.2.1 hd) rfl hl
theorem K_lstore (C : oCx p s m meth c P Z y B ml rt) {i : Nat} {v : Int64} {Ls' : List Slot} (hd : decode B pc = .ok (.lstore i, 2)) (hl : storeLocals (Array.mk Ls) i (.long v) = some (Array.mk Ls')) (K : oWP b p l e R s m args below meth c P Q J h k n (oF m (pc + 2) Ls' S)) : oWP b p l e R s m args below meth c P Q J h k n (oF m pc Ls ((.long v) :: S)) := K.step fun _ A _ => XT.lstore A C.1 rfl (hb C.2.1 hd) rfl hl
theorem K_astoreN (C : oCx p s m meth c P Z y B ml rt) {i : Fin 4} {v : Value} {Ls' : List Slot} (hd : decode B pc = .ok (.astore_n i, 1)) (hv : v.isRef = true) (hl : storeLocals (Array.mk Ls) i.val v = some (Array.mk Ls')) (K : oWP b p l e R s m args below meth c P Q J h k n (oF m (pc + 1) Ls' S)) : oWP b p l e R s m args below meth c P Q J h k n (oF m pc Ls (v :: S)) := K.step fun _ A _ => XS.astoreN A C.1 rfl (hb C.2.1 hd) rfl hv hl
theorem K_astore (C : oCx p s m meth c P Z y B ml rt) {i : Nat} {v : Value} {Ls' : List Slot} (hd : decode B pc = .ok (.astore i, 2)) (hv : v.isRef = true) (hl : storeLocals (Array.mk Ls) i v = some (Array.mk Ls')) (K : oWP b p l e R s m args below meth c P Q J h k n (oF m (pc + 2) Ls' S)) : oWP b p l e R s m args below meth c P Q J h k n (oF m pc Ls (v :: S)) := K.step fun _ A _ => XS.astore A C.1 rfl (hb C.2.1 hd) rfl hv hl
theorem K_iinc (C : oCx p s m meth c P Z y B ml rt) {i : Nat} {cst : Int} {v w : Int32} {Ls' : List Slot} (hd : decode B pc = .ok (.iinc i cst, 3)) (hc : Int32.ofInt cst = w) (hl : (Array.mk Ls)[i]? = some (.val (.int v))) (hl' : storeLocals (Array.mk Ls) i (.int (v + w)) = some (Array.mk Ls')) (K : oWP b p l e R s m args below meth c P Q J h k n (oF m (pc + 3) Ls' S)) : oWP b p l e R s m args below meth c P Q J h k n (oF m pc Ls S) := K.step fun _ A _ => XS.iinc A C.1 rfl (hb C.2.1 hd) hl (hc ▸ hl')
theorem K_iconst (C : oCx p s m meth c P Z y B ml rt) {i : Int} (v : Int32) (hd : decode B pc = .ok (.iconst i, 1)) (hv : Int32.ofInt i = v) (K : oWP b p l e R s m args below meth c P Q J h k n (oF m (pc + 1) Ls (.int v :: S))) : oWP b p l e R s m args below meth c P Q J h k n (oF m pc Ls S) := K.step fun _ A _ => XT.iconstV A C.1 rfl v (hb C.2.1 hd) hv
theorem K_bipush (C : oCx p s m meth c P Z y B ml rt) {i : Int} (v : Int32) (hd : decode B pc = .ok (.bipush i, 2)) (hv : (Int8.ofInt i).toInt32 = v) (K : oWP b p l e R s m args below meth c P Q J h k n (oF m (pc + 2) Ls (.int v :: S))) : oWP b p l e R s m args below meth c P Q J h k n (oF m pc Ls S) := K.step fun _ A _ => XT.bipushV A C.1 rfl v (hb C.2.1 hd) hv
theorem K_sipush (C : oCx p s m meth c P Z y B ml rt) {i : Int} (v : Int32) (hd : decode B pc = .ok (.sipush i, 3)) (hv : (Int16.ofInt i).toInt32 = v) (K : oWP b p l e R s m args below meth c P Q J h k n (oF m (pc + 3) Ls (.int v :: S))) : oWP b p l e R s m args below meth c P Q J h k n (oF m pc Ls S) := K.step fun _ A _ => XT.sipushV A C.1 rfl v (hb C.2.1 hd) hv
theorem K_lconst (C : oCx p s m meth c P Z y B ml rt) {i : Fin 2} (v : Int64) (hd : decode B pc = .ok (.lconst i, 1)) (hv : Int64.ofNat i = v) (K : oWP b p l e R s m args below meth c P Q J h k n (oF m (pc + 1) Ls (.long v :: S))) : oWP b p l e R s m args below meth c P Q J h k n (oF m pc Ls S) := K.step fun _ A _ => XT.lconstV A C.1 rfl v (hb C.2.1 hd) hv
theorem K_aconst_null (C : oCx p s m meth c P Z y B ml rt)  (hd : decode B pc = .ok (.aconst_null, 1)) (K : oWP b p l e R s m args below meth c P Q J h k n (oF m (pc + 1) Ls (.null :: S))) : oWP b p l e R s m args below meth c P Q J h k n (oF m pc Ls (S)) := K.step fun _ A _ => XS.aconstNull A C.1 rfl (hb C.2.1 hd)
theorem K_dup (C : oCx p s m meth c P Z y B ml rt) {v : Value} (hd : decode B pc = .ok (.dup, 1)) (hc : v.category = 1) (K : oWP b p l e R s m args below meth c P Q J h k n (oF m (pc + 1) Ls (v :: v :: S))) : oWP b p l e R s m args below meth c P Q J h k n (oF m pc Ls (v :: S)) := K.step fun _ A _ => XS.dup A C.1 rfl (hb C.2.1 hd) rfl hc
theorem K_dup_x1 (C : oCx p s m meth c P Z y B ml rt) {v w : Value} (hd : decode B pc = .ok (.dup_x1, 1)) (hc : v.category = 1) (hc' : w.category = 1) (K : oWP b p l e R s m args below meth c P Q J h k n (oF m (pc + 1) Ls (v :: w :: v :: S))) : oWP b p l e R s m args below meth c P Q J h k n (oF m pc Ls (v :: w :: S)) := K.step fun _ A _ => XT.dupX1 A C.1 rfl (hb C.2.1 hd) rfl hc hc'
theorem K_dup2 (C : oCx p s m meth c P Z y B ml rt) {v w : Value} (hd : decode B pc = .ok (.dup2, 1)) (hc : v.category = 1) (hc' : w.category = 1) (K : oWP b p l e R s m args below meth c P Q J h k n (oF m (pc + 1) Ls (v :: w :: v :: w :: S))) : oWP b p l e R s m args below meth c P Q J h k n (oF m pc Ls (v :: w :: S)) := K.step fun _ A _ => XT.dup2 A C.1 rfl (hb C.2.1 hd) rfl hc hc'
theorem K_pop (C : oCx p s m meth c P Z y B ml rt) {v : Value} (hd : decode B pc = .ok (.pop, 1)) (hc : v.category = 1) (K : oWP b p l e R s m args below meth c P Q J h k n (oF m (pc + 1) Ls (S))) : oWP b p l e R s m args below meth c P Q J h k n (oF m pc Ls (v :: S)) := K.step fun _ A _ => XT.pop A C.1 rfl (hb C.2.1 hd) rfl hc
theorem K_goto (C : oCx p s m meth c P Z y B ml rt) {o : Int} (q : Nat) (hd : decode B pc = .ok (.goto o, 3)) (ho : 0 ≤ (pc : Int) + o) (hp : ((pc : Int) + o).toNat = q) (K : oWP b p l e R s m args below meth c P Q J h k n (oF m q Ls S)) : oWP b p l e R s m args below meth c P Q J h k n (oF m pc Ls S) := K.step fun _ A _ => XS.goto A C.1 rfl rfl (hb C.2.1 hd) ho hp
theorem K_if (C : oCx p s m meth c P Z y B ml rt) {cd : ClassFile.Cond} {x : Int32} {o : Int} (q : Nat) (hd : decode B pc = .ok (.ifCond cd o, 3)) (ho : 0 ≤ (pc : Int) + o) (hp : ((pc : Int) + o).toNat = q) (K1 : oC cd x 0 → oWP b p l e R s m args below meth c P Q J h k n (oF m q Ls S)) (K2 : ¬ oC cd x 0 → oWP b p l e R s m args below meth c P Q J h k n (oF m (pc + 3) Ls S)) : oWP b p l e R s m args below meth c P Q J h k n (oF m pc Ls (.int x :: S)) := by
  rcases oC_cases cd x 0 with ⟨h1, h2⟩ | ⟨h1, h2⟩
  · exact (K1 h2).step fun _ A _ => XS.ifYes A C.1 rfl rfl (hb C.2.1 hd) rfl ((if0 _ _).trans h1) ho hp
  · exact (K2 h2).step fun _ A _ => XS.ifNo A C.1 rfl (hb C.2.1 hd) rfl ((if0 _ _).trans h1)
theorem K_icmp (C : oCx p s m meth c P Z y B ml rt) {cd : ClassFile.Cond} {x w : Int32} {o : Int} (q : Nat) (hd : decode B pc = .ok (.if_icmp cd o, 3)) (ho : 0 ≤ (pc : Int) + o) (hp : ((pc : Int) + o).toNat = q) (K1 : oC cd x w → oWP b p l e R s m args below meth c P Q J h k n (oF m q Ls S)) (K2 : ¬ oC cd x w → oWP b p l e R s m args below meth c P Q J h k n (oF m (pc + 3) Ls S)) : oWP b p l e R s m args below meth c P Q J h k n (oF m pc Ls (.int w :: .int x :: S)) := by
  rcases oC_cases cd x w with ⟨h1, h2⟩ | ⟨h1, h2⟩
  · exact (K1 h2).step fun _ A _ => XS.icmpYes A C.1 rfl rfl (hb C.2.1 hd) rfl h1 ho hp
  · exact (K2 h2).step fun _ A _ => XS.icmpNo A C.1 rfl (hb C.2.1 hd) rfl h1
theorem K_acmp (C : oCx p s m meth c P Z y B ml rt) {cd : ACond} {x w : Value} {o : Int} (q : Nat) (hd : decode B pc = .ok (.if_acmp cd o, 3)) (h1 : x.isRef = true) (h2 : w.isRef = true) (ho : 0 ≤ (pc : Int) + o) (hp : ((pc : Int) + o).toNat = q)
    (K1 : oA cd x w → oWP b p l e R s m args below meth c P Q J h k n (oF m q Ls S)) (K2 : ¬ oA cd x w → oWP b p l e R s m args below meth c P Q J h k n (oF m (pc + 3) Ls S)) : oWP b p l e R s m args below meth c P Q J h k n (oF m pc Ls (w :: x :: S)) := by
  rcases oA_cases cd x w with ⟨g1, g2⟩ | ⟨g1, g2⟩
  · exact (K1 g2).stepX fun _ T locs ck cn X target hr => RoadKit.acmp (g := oF m pc Ls (w :: x :: S)) X C.1 rfl h1 h2 (pc0 := pc) (pc' := q) rfl (hb C.2.1 hd) rfl rfl ho (by rw [g1, ← hp]; rfl) hr
  · exact (K2 g2).stepX fun _ T locs ck cn X target hr => RoadKit.acmp (g := oF m pc Ls (w :: x :: S)) X C.1 rfl h1 h2 (pc0 := pc) (pc' := pc + 3) rfl (hb C.2.1 hd) rfl rfl ho (by rw [g1]; rfl) hr
theorem K_ifnull_ref (C : oCx p s m meth c P Z y B ml rt) {a : Addr} {o : Int} (hd : decode B pc = .ok (.ifnull o, 3)) (K : oWP b p l e R s m args below meth c P Q J h k n (oF m (pc + 3) Ls S)) : oWP b p l e R s m args below meth c P Q J h k n (oF m pc Ls (.ref a :: S)) := K.step fun _ A _ => XS.ifnullNo A C.1 rfl (hb C.2.1 hd) rfl
theorem K_ifnull_null (C : oCx p s m meth c P Z y B ml rt) {o : Int} (q : Nat) (hd : decode B pc = .ok (.ifnull o, 3)) (ho : 0 ≤ (pc : Int) + o) (hp : ((pc : Int) + o).toNat = q) (K : oWP b p l e R s m args below meth c P Q J h k n (oF m q Ls S)) : oWP b p l e R s m args below meth c P Q J h k n (oF m pc Ls (.null :: S)) := K.step fun _ A _ => XS.ifnullYes A C.1 rfl rfl (hb C.2.1 hd) rfl ho hp
theorem K_ifnonnull_ref (C : oCx p s m meth c P Z y B ml rt) {a : Addr} {o : Int} (q : Nat) (hd : decode B pc = .ok (.ifnonnull o, 3)) (ho : 0 ≤ (pc : Int) + o) (hp : ((pc : Int) + o).toNat = q) (K : oWP b p l e R s m args below meth c P Q J h k n (oF m q Ls S)) : oWP b p l e R s m args below meth c P Q J h k n (oF m pc Ls (.ref a :: S)) := K.step fun _ A _ => XT.ifnonnullYes A C.1 rfl rfl (hb C.2.1 hd) rfl ho hp
theorem K_ifnonnull_null (C : oCx p s m meth c P Z y B ml rt) {o : Int} (hd : decode B pc = .ok (.ifnonnull o, 3)) (K : oWP b p l e R s m args below meth c P Q J h k n (oF m (pc + 3) Ls S)) : oWP b p l e R s m args below meth c P Q J h k n (oF m pc Ls (.null :: S)) := K.step fun _ A _ => XT.ifnonnullNo A C.1 rfl (hb C.2.1 hd) rfl
theorem K_tsw (C : oCx p s m meth c P Z y B ml rt) {dflt low high o : Int} {offs : Array Int} {len : Nat} {i : Int32} (q : Nat) (hd : decode B pc = .ok (.tableswitch dflt low high offs, len)) (hin : ¬ (i.toInt < low ∨ i.toInt > high)) (hoff : offs[(i.toInt - low).toNat]? = some o) (ho : 0 ≤ (pc : Int) + o) (hp : ((pc : Int) + o).toNat = q) (K : oWP b p l e R s m args below meth c P Q J h k n (oF m q Ls S)) : oWP b p l e R s m args below meth c P Q J h k n (oF m pc Ls (.int i :: S)) := K.step fun _ A _ => XS.tswIn (g := oF m pc Ls (.int i :: S)) A C.1 rfl (pc0 := pc) rfl (hb C.2.1 hd) rfl hin hoff ho hp
theorem K_tswOut (C : oCx p s m meth c P Z y B ml rt) {dflt low high : Int} {offs : Array Int} {len : Nat} {i : Int32} (q : Nat) (hd : decode B pc = .ok (.tableswitch dflt low high offs, len)) (hout : i.toInt < low ∨ i.toInt > high) (ho : 0 ≤ (pc : Int) + dflt) (hp : ((pc : Int) + dflt).toNat = q) (K : oWP b p l e R s m args below meth c P Q J h k n (oF m q Ls S)) : oWP b p l e R s m args below meth c P Q J h k n (oF m pc Ls (.int i :: S)) := K.step fun _ A _ => XS.tswOut (g := oF m pc Ls (.int i :: S)) A C.1 rfl (pc0 := pc) rfl (hb C.2.1 hd) rfl hout ho hp
theorem K_iadd (C : oCx p s m meth c P Z y B ml rt) {x w : Int32} (hd : decode B pc = .ok (.iadd, 1)) (K : oWP b p l e R s m args below meth c P Q J h k n (oF m (pc + 1) Ls (.int (x + w) :: S))) : oWP b p l e R s m args below meth c P Q J h k n (oF m pc Ls (.int w :: .int x :: S)) := K.step fun _ A _ => XS.iadd A C.1 rfl (hb C.2.1 hd) rfl
theorem K_isub (C : oCx p s m meth c P Z y B ml rt) {x w : Int32} (hd : decode B pc = .ok (.isub, 1)) (K : oWP b p l e R s m args below meth c P Q J h k n (oF m (pc + 1) Ls (.int (x - w) :: S))) : oWP b p l e R s m args below meth c P Q J h k n (oF m pc Ls (.int w :: .int x :: S)) := K.step fun _ A _ => XS.isub A C.1 rfl (hb C.2.1 hd) rfl
theorem K_iand (C : oCx p s m meth c P Z y B ml rt) {x w : Int32} (hd : decode B pc = .ok (.iand, 1)) (K : oWP b p l e R s m args below meth c P Q J h k n (oF m (pc + 1) Ls (.int (x &&& w) :: S))) : oWP b p l e R s m args below meth c P Q J h k n (oF m pc Ls (.int w :: .int x :: S)) := K.step fun _ A _ => XS.iand A C.1 rfl (hb C.2.1 hd) rfl
theorem K_imul (C : oCx p s m meth c P Z y B ml rt) {x w : Int32} (hd : decode B pc = .ok (.imul, 1)) (K : oWP b p l e R s m args below meth c P Q J h k n (oF m (pc + 1) Ls (.int (x * w) :: S))) : oWP b p l e R s m args below meth c P Q J h k n (oF m pc Ls (.int w :: .int x :: S)) := K.step fun _ A _ => XS.imul A C.1 rfl (hb C.2.1 hd) rfl
theorem K_ior (C : oCx p s m meth c P Z y B ml rt) {x w : Int32} (hd : decode B pc = .ok (.ior, 1)) (K : oWP b p l e R s m args below meth c P Q J h k n (oF m (pc + 1) Ls (.int (x ||| w) :: S))) : oWP b p l e R s m args below meth c P Q J h k n (oF m pc Ls (.int w :: .int x :: S)) := K.step fun _ A _ => XT.ior A C.1 rfl (hb C.2.1 hd) rfl
theorem K_ixor (C : oCx p s m meth c P Z y B ml rt) {x w : Int32} (hd : decode B pc = .ok (.ixor, 1)) (K : oWP b p l e R s m args below meth c P Q J h k n (oF m (pc + 1) Ls (.int (x ^^^ w) :: S))) : oWP b p l e R s m args below meth c P Q J h k n (oF m pc Ls (.int w :: .int x :: S)) := K.step fun _ A _ => XT.ixor A C.1 rfl (hb C.2.1 hd) rfl
theorem K_ishl (C : oCx p s m meth c P Z y B ml rt) {x w : Int32} (hd : decode B pc = .ok (.ishl, 1)) (K : oWP b p l e R s m args below meth c P Q J h k n (oF m (pc + 1) Ls (.int (x <<< (w &&& 31)) :: S))) : oWP b p l e R s m args below meth c P Q J h k n (oF m pc Ls (.int w :: .int x :: S)) := K.step fun _ A _ => XT.ishl A C.1 rfl (hb C.2.1 hd) rfl
theorem K_ishr (C : oCx p s m meth c P Z y B ml rt) {x w : Int32} (hd : decode B pc = .ok (.ishr, 1)) (K : oWP b p l e R s m args below meth c P Q J h k n (oF m (pc + 1) Ls (.int (x >>> (w &&& 31)) :: S))) : oWP b p l e R s m args below meth c P Q J h k n (oF m pc Ls (.int w :: .int x :: S)) := K.step fun _ A _ => XT.ishr A C.1 rfl (hb C.2.1 hd) rfl
theorem K_iushr (C : oCx p s m meth c P Z y B ml rt) {x w : Int32} (hd : decode B pc = .ok (.iushr, 1)) (K : oWP b p l e R s m args below meth c P Q J h k n (oF m (pc + 1) Ls (.int (XT.ushr x w) :: S))) : oWP b p l e R s m args below meth c P Q J h k n (oF m pc Ls (.int w :: .int x :: S)) := K.step fun _ A _ => XT.iushr A C.1 rfl (hb C.2.1 hd) rfl
theorem K_idiv (C : oCx p s m meth c P Z y B ml rt) {x w : Int32} (hd : decode B pc = .ok (.idiv, 1)) (hy : w ≠ 0) (K : oWP b p l e R s m args below meth c P Q J h k n (oF m (pc + 1) Ls (.int (x / w) :: S))) : oWP b p l e R s m args below meth c P Q J h k n (oF m pc Ls (.int w :: .int x :: S)) := K.step fun _ A _ => XS.idiv A C.1 rfl (hb C.2.1 hd) rfl hy
theorem K_ladd (C : oCx p s m meth c P Z y B ml rt) {x w : Int64} (hd : decode B pc = .ok (.ladd, 1)) (K : oWP b p l e R s m args below meth c P Q J h k n (oF m (pc + 1) Ls (.long (x + w) :: S))) : oWP b p l e R s m args below meth c P Q J h k n (oF m pc Ls (.long w :: .long x :: S)) := K.step fun _ A _ => XT.ladd A C.1 rfl (hb C.2.1 hd) rfl
theorem K_lsub (C : oCx p s m meth c P Z y B ml rt) {x w : Int64} (hd : decode B pc = .ok (.lsub, 1)) (K : oWP b p l e R s m args below meth c P Q J h k n (oF m (pc + 1) Ls (.long (x - w) :: S))) : oWP b p l e R s m args below meth c P Q J h k n (oF m pc Ls (.long w :: .long x :: S)) := K.step fun _ A _ => XT.lsub A C.1 rfl (hb C.2.1 hd) rfl
theorem K_lmul (C : oCx p s m meth c P Z y B ml rt) {x w : Int64} (hd : decode B pc = .ok (.lmul, 1)) (K : oWP b p l e R s m args below meth c P Q J h k n (oF m (pc + 1) Ls (.long (x * w) :: S))) : oWP b p l e R s m args below meth c P Q J h k n (oF m pc Ls (.long w :: .long x :: S)) := K.step fun _ A _ => XT.lmul A C.1 rfl (hb C.2.1 hd) rfl
theorem K_land (C : oCx p s m meth c P Z y B ml rt) {x w : Int64} (hd : decode B pc = .ok (.land, 1)) (K : oWP b p l e R s m args below meth c P Q J h k n (oF m (pc + 1) Ls (.long (x &&& w) :: S))) : oWP b p l e R s m args below meth c P Q J h k n (oF m pc Ls (.long w :: .long x :: S)) := K.step fun _ A _ => XT.land A C.1 rfl (hb C.2.1 hd) rfl
theorem K_lor (C : oCx p s m meth c P Z y B ml rt) {x w : Int64} (hd : decode B pc = .ok (.lor, 1)) (K : oWP b p l e R s m args below meth c P Q J h k n (oF m (pc + 1) Ls (.long (x ||| w) :: S))) : oWP b p l e R s m args below meth c P Q J h k n (oF m pc Ls (.long w :: .long x :: S)) := K.step fun _ A _ => XT.lor A C.1 rfl (hb C.2.1 hd) rfl
theorem K_lxor (C : oCx p s m meth c P Z y B ml rt) {x w : Int64} (hd : decode B pc = .ok (.lxor, 1)) (K : oWP b p l e R s m args below meth c P Q J h k n (oF m (pc + 1) Ls (.long (x ^^^ w) :: S))) : oWP b p l e R s m args below meth c P Q J h k n (oF m pc Ls (.long w :: .long x :: S)) := K.step fun _ A _ => XT.lxor A C.1 rfl (hb C.2.1 hd) rfl
theorem K_ldiv (C : oCx p s m meth c P Z y B ml rt) {x w : Int64} (hd : decode B pc = .ok (.ldiv, 1)) (hy : w ≠ 0) (K : oWP b p l e R s m args below meth c P Q J h k n (oF m (pc + 1) Ls (.long (x / w) :: S))) : oWP b p l e R s m args below meth c P Q J h k n (oF m pc Ls (.long w :: .long x :: S)) := K.step fun _ A _ => XT.ldiv A C.1 rfl (hb C.2.1 hd) rfl hy
theorem K_irem (C : oCx p s m meth c P Z y B ml rt) {x w : Int32} (hd : decode B pc = .ok (.irem, 1)) (hy : w ≠ 0) (K : oWP b p l e R s m args below meth c P Q J h k n (oF m (pc + 1) Ls (.int (x % w) :: S))) : oWP b p l e R s m args below meth c P Q J h k n (oF m pc Ls (.int w :: .int x :: S)) := K.stepX fun _ T _ _ _ X _ hr => iremM X C.1 rfl (hb C.2.1 hd) rfl hy hr
theorem K_lrem (C : oCx p s m meth c P Z y B ml rt) {x w : Int64} (hd : decode B pc = .ok (.lrem, 1)) (hy : w ≠ 0) (K : oWP b p l e R s m args below meth c P Q J h k n (oF m (pc + 1) Ls (.long (x - (x / w) * w) :: S))) : oWP b p l e R s m args below meth c P Q J h k n (oF m pc Ls (.long w :: .long x :: S)) := K.step fun _ A _ => XT.lrem A C.1 rfl (hb C.2.1 hd) rfl hy
theorem K_lshl (C : oCx p s m meth c P Z y B ml rt) {x : Int64} {w : Int32} (hd : decode B pc = .ok (.lshl, 1)) (K : oWP b p l e R s m args below meth c P Q J h k n (oF m (pc + 1) Ls (.long (x <<< (w.toInt64 &&& 63)) :: S))) : oWP b p l e R s m args below meth c P Q J h k n (oF m pc Ls (.int w :: .long x :: S)) := K.step fun _ A _ => XT.lshl A C.1 rfl (hb C.2.1 hd) rfl
theorem K_lshr (C : oCx p s m meth c P Z y B ml rt) {x : Int64} {w : Int32} (hd : decode B pc = .ok (.lshr, 1)) (K : oWP b p l e R s m args below meth c P Q J h k n (oF m (pc + 1) Ls (.long (x >>> (w.toInt64 &&& 63)) :: S))) : oWP b p l e R s m args below meth c P Q J h k n (oF m pc Ls (.int w :: .long x :: S)) := K.step fun _ A _ => XT.lshr A C.1 rfl (hb C.2.1 hd) rfl
theorem K_lushr (C : oCx p s m meth c P Z y B ml rt) {x : Int64} {w : Int32} (hd : decode B pc = .ok (.lushr, 1)) (K : oWP b p l e R s m args below meth c P Q J h k n (oF m (pc + 1) Ls (.long (XT.ushrL x w) :: S))) : oWP b p l e R s m args below meth c P Q J h k n (oF m pc Ls (.int w :: .long x :: S)) := K.step fun _ A _ => XT.lushr A C.1 rfl (hb C.2.1 hd) rfl
theorem K_ineg (C : oCx p s m meth c P Z y B ml rt) {x : Int32} (hd : decode B pc = .ok (.ineg, 1)) (K : oWP b p l e R s m args below meth c P Q J h k n (oF m (pc + 1) Ls (.int (-x) :: S))) : oWP b p l e R s m args below meth c P Q J h k n (oF m pc Ls (.int x :: S)) := K.step fun _ A _ => XS.ineg A C.1 rfl (hb C.2.1 hd) rfl
theorem K_lneg (C : oCx p s m meth c P Z y B ml rt) {x : Int64} (hd : decode B pc = .ok (.lneg, 1)) (K : oWP b p l e R s m args below meth c P Q J h k n (oF m (pc + 1) Ls (.long (-x) :: S))) : oWP b p l e R s m args below meth c P Q J h k n (oF m pc Ls (.long x :: S)) := K.step fun _ A _ => XT.lneg A C.1 rfl (hb C.2.1 hd) rfl
theorem K_i2l (C : oCx p s m meth c P Z y B ml rt) {x : Int32} (hd : decode B pc = .ok (.i2l, 1)) (K : oWP b p l e R s m args below meth c P Q J h k n (oF m (pc + 1) Ls (.long (x.toInt64) :: S))) : oWP b p l e R s m args below meth c P Q J h k n (oF m pc Ls (.int x :: S)) := K.step fun _ A _ => XT.i2l A C.1 rfl (hb C.2.1 hd) rfl
theorem K_l2i (C : oCx p s m meth c P Z y B ml rt) {x : Int64} (hd : decode B pc = .ok (.l2i, 1)) (K : oWP b p l e R s m args below meth c P Q J h k n (oF m (pc + 1) Ls (.int (x.toInt32) :: S))) : oWP b p l e R s m args below meth c P Q J h k n (oF m pc Ls (.long x :: S)) := K.step fun _ A _ => XT.l2i A C.1 rfl (hb C.2.1 hd) rfl
theorem K_i2b (C : oCx p s m meth c P Z y B ml rt) {x : Int32} (hd : decode B pc = .ok (.i2b, 1)) (K : oWP b p l e R s m args below meth c P Q J h k n (oF m (pc + 1) Ls (.int (x.toInt8.toInt32) :: S))) : oWP b p l e R s m args below meth c P Q J h k n (oF m pc Ls (.int x :: S)) := K.step fun _ A _ => XT.i2b A C.1 rfl (hb C.2.1 hd) rfl
theorem K_i2c (C : oCx p s m meth c P Z y B ml rt) {x : Int32} (hd : decode B pc = .ok (.i2c, 1)) (K : oWP b p l e R s m args below meth c P Q J h k n (oF m (pc + 1) Ls (.int (x.toUInt32.toUInt16.toUInt32.toInt32) :: S))) : oWP b p l e R s m args below meth c P Q J h k n (oF m pc Ls (.int x :: S)) := K.step fun _ A _ => XT.i2c A C.1 rfl (hb C.2.1 hd) rfl
theorem K_i2s (C : oCx p s m meth c P Z y B ml rt) {x : Int32} (hd : decode B pc = .ok (.i2s, 1)) (K : oWP b p l e R s m args below meth c P Q J h k n (oF m (pc + 1) Ls (.int (x.toInt16.toInt32) :: S))) : oWP b p l e R s m args below meth c P Q J h k n (oF m pc Ls (.int x :: S)) := K.step fun _ A _ => XT.i2s A C.1 rfl (hb C.2.1 hd) rfl
theorem K_lcmp (C : oCx p s m meth c P Z y B ml rt) {x w : Int64} (hd : decode B pc = .ok (.lcmp, 1)) (K : oWP b p l e R s m args below meth c P Q J h k n (oF m (pc + 1) Ls (.int (XT.cmpL x w) :: S))) : oWP b p l e R s m args below meth c P Q J h k n (oF m pc Ls (.long w :: .long x :: S)) := K.step fun _ A _ => XT.lcmp A C.1 rfl (hb C.2.1 hd) rfl
theorem K_ret (C : oCx p s m meth c P Z y B ml rt) {v : Option Value} {g : JFrame} (hv : rt = none → v = none) (hk : k ≤ R.cells) (hn : n ≤ R.slots) (hQ : ∀ vm, J vm → Q v h vm)
    (st : ∀ s' T locs ck cn, Stand p l e R s' m args below meth c T locs ck cn → ∀ fs, (∀ (f : JFrame) (acts : List Action), f.method = m → f.locked = none → f.entered = [] → (doReturn e (T.setTop f) acts v).1 = T.setFrames fs) → Steps p.tables e below (T.setTop g) (T.setFrames fs)) : oWP b p l e R s m args below meth c P Q J h k n g := fun T hT => by
  obtain ⟨vm0, k0, locs, ck, cn, X, eT, N, q1, q2, hS, hk0, hbv, hJ⟩ := hT
  obtain ⟨fs, hr, hrun, hended, hW, hsame⟩ := X.leave (v := v) (by rw [C.hrt]; exact hv) C.locks
  obtain ⟨r1, r2, r3⟩ := hS.ended (U := T.setFrames fs) hW (by show k0 ≤ T.heap.size; rw [eT]; exact hk0) hsame
  have hs3 := r3.mono (Nat.le_trans q1 hk) (Nat.le_trans q2 hn)
  refine ⟨_, _, st _ T _ _ _ X fs hr, hrun, hended, _, _, rfl, ⟨?_, N⟩, fun hb => ⟨⟨_, rfl⟩, ?_, hs3⟩, ⟨_, rfl⟩, r1, r2, hs3⟩
  · show Q v T.heap T.vm
    rw [eT]; exact hQ _ (hJ.2 (s.setVm vm0) _ hJ.1 X.warmed)
  · have hb' := hbv hb
    subst hb'
    exact hW
theorem K_ireturn {t : FieldType} (C : oCx p s m meth c P Z y B ml (some t)) {z z' : Int32} (hd : decode B pc = .ok (.ireturn, 1)) (ht : t = .int ∨ t = .boolean ∨ t = .byte ∨ t = .char ∨ t = .short) (hz : nar t z = z') (hk : k ≤ R.cells) (hn : n ≤ R.slots) (hQ : ∀ vm, J vm → Q (some (.int z')) h vm) : oWP b p l e R s m args below meth c P Q J h k n (oF m pc Ls (.int z :: S)) := by
  subst hz
  refine K_ret C (v := some (.int (nar t z))) (fun q => nomatch q) hk hn hQ fun _ T locs ck cn X fs hr => ?_
  rcases ht with rfl | ht
  · exact retOut X C.1 C.hrt rfl (Or.inl ⟨rfl, Or.inl rfl, z, rfl⟩) (hb C.2.1 hd) hr
  · exact retN X C.1 C.hrt ht (hb C.2.1 hd) hr
theorem K_areturn {t : FieldType} (C : oCx p s m meth c P Z y B ml (some t)) {w : Value} (hd : decode B pc = .ok (.areturn, 1)) (ht : t.isReference = true) (hw : w.isRef = true) (hnw : narrow t w = w) (hk : k ≤ R.cells) (hn : n ≤ R.slots) (hQ : ∀ vm, J vm → Q (some w) h vm) : oWP b p l e R s m args below meth c P Q J h k n (oF m pc Ls (w :: S)) :=
  K_ret C (fun q => nomatch q) hk hn hQ fun _ T locs ck cn X fs hr => retOut X C.1 C.hrt hnw (Or.inr (Or.inr (Or.inr (Or.inr ⟨rfl, ht, hw⟩)))) (hb C.2.1 hd) hr
theorem K_lreturn (C : oCx p s m meth c P Z y B ml (some .long)) {w : Int64} (hd : decode B pc = .ok (.lreturn, 1)) (hk : k ≤ R.cells) (hn : n ≤ R.slots) (hQ : ∀ vm, J vm → Q (some (.long w)) h vm) : oWP b p l e R s m args below meth c P Q J h k n (oF m pc Ls (.long w :: S)) :=
  K_ret C (fun q => nomatch q) hk hn hQ fun _ T locs ck cn X fs hr => retOut X C.1 C.hrt rfl (Or.inr (Or.inl ⟨rfl, rfl, w, rfl⟩)) (hb C.2.1 hd) hr
theorem K_return (C : oCx p s m meth c P Z y B ml none) (hd : decode B pc = .ok (.return_, 1)) (hk : k ≤ R.cells) (hn : n ≤ R.slots) (hQ : ∀ vm, J vm → Q none h vm) : oWP b p l e R s m args below meth c P Q J h k n (oF m pc Ls []) :=
  K_ret C (fun _ => rfl) hk hn hQ fun _ T locs ck cn X fs hr => X.returnOut C.1 C.hrt (hb C.2.1 hd) hr
theorem K_ldcI (C : oCx p s m meth c P Z y B ml rt) {idx : Nat} {v : Int32} (w : (Jvm.Cond.constant y.cls idx v).before a0 Z = true) (hd : decode B pc = .ok (.ldc idx, 2)) (K : oWP b p l e R s m args below meth c P Q J h k n (oF m (pc + 2) Ls (.int v :: S))) : oWP b p l e R s m args below meth c P Q J h k n (oF m pc Ls S) := K.law C fun _ C T _ _ _ X eT => ⟨T, X, eT, X.ldcInt C.1 C.own (mvT C.hZ w) (g := oF m pc Ls S) rfl (hb C.2.1 hd)⟩
theorem K_ldcwI (C : oCx p s m meth c P Z y B ml rt) {idx : Nat} {v : Int32} (w : (Jvm.Cond.constant y.cls idx v).before a0 Z = true) (hd : decode B pc = .ok (.ldc_w idx, 3)) (K : oWP b p l e R s m args below meth c P Q J h k n (oF m (pc + 3) Ls (.int v :: S))) : oWP b p l e R s m args below meth c P Q J h k n (oF m pc Ls S) := K.law C fun _ C T _ _ _ X eT => ⟨T, X, eT, X.ldcwInt C.1 C.own (mvT C.hZ w) (g := oF m pc Ls S) rfl (hb C.2.1 hd)⟩
theorem K_ldc2J (C : oCx p s m meth c P Z y B ml rt) {idx : Nat} {v : Int64} (w : (Jvm.Cond.constantLong y.cls idx v).before a0 Z = true) (hd : decode B pc = .ok (.ldc2_w idx, 3)) (K : oWP b p l e R s m args below meth c P Q J h k n (oF m (pc + 3) Ls (.long v :: S))) : oWP b p l e R s m args below meth c P Q J h k n (oF m pc Ls S) := K.law C fun _ C T _ _ _ X eT => ⟨T, X, eT, X.ldc2Long C.1 C.own (mvT C.hZ w) (g := oF m pc Ls S) rfl (hb C.2.1 hd)⟩
theorem K_ldcS (C : oCx p s m meth c P Z y B ml rt) {idx nn : Nat} {text : String} (w : (Jvm.Cond.stringLink y.cls idx text).before a0 Z = true) (wS : ∀ a ∈ Bundle.stringAtoms, a.before a0 Z = true) (hd : decode B pc = .ok (.ldc idx, 2)) (hnn : 4 * text.toList.length ≤ nn) (hbig : nn ≤ 536870912) (hk : k + 2 ≤ R.cells) (hn : n + (nn + 4) ≤ R.slots) (K : ∀ a h', Ext h h' → oWP true p l e R s m args below meth c P Q oT h' (k + 2) (n + (nn + 4)) (oF m (pc + 2) Ls (.ref a :: S))) : oWP true p l e R s m args below meth c P Q oT h k n (oF m pc Ls S) := fun T hT => by
  obtain ⟨vm0, k0, locs, ck, cn, X, eT, N, q1, q2, hS, hk0, hbv, hJ⟩ := hT
  have C' := C.rebase hS
  obtain ⟨a, T', h', k1, X', e', E, hS1, hk1, -, -, st⟩ := ldcS X C.1 C'.hZ C'.own w wS eT hS hk0 (g := oF m pc Ls S) rfl (hb C.2.1 hd) hnn hbig (by omega) (by omega)
  obtain ⟨u, o, g1, g2⟩ := K a h' E T' ⟨_, k1, locs, _, _, X', e', N, by omega, by omega, hS1, hk1, (fun q => nomatch q), trivial, oTs⟩
  exact ⟨u, o, st u g1, g2⟩
theorem K_ldcwS (C : oCx p s m meth c P Z y B ml rt) {idx nn : Nat} {text : String} (w : (Jvm.Cond.stringLink y.cls idx text).before a0 Z = true) (wS : ∀ a ∈ Bundle.stringAtoms, a.before a0 Z = true) (hd : decode B pc = .ok (.ldc_w idx, 3)) (hnn : 4 * text.toList.length ≤ nn) (hbig : nn ≤ 536870912) (hk : k + 2 ≤ R.cells) (hn : n + (nn + 4) ≤ R.slots) (K : ∀ a h', Ext h h' → oWP true p l e R s m args below meth c P Q oT h' (k + 2) (n + (nn + 4)) (oF m (pc + 3) Ls (.ref a :: S))) : oWP true p l e R s m args below meth c P Q oT h k n (oF m pc Ls S) := fun T hT => by
  obtain ⟨vm0, k0, locs, ck, cn, X, eT, N, q1, q2, hS, hk0, hbv, hJ⟩ := hT
  have C' := C.rebase hS
  obtain ⟨a, T', h', k1, X', e', E, hS1, hk1, -, -, st⟩ := ldcSW X C.1 C'.hZ C'.own w wS eT hS hk0 (g := oF m pc Ls S) rfl (hb C.2.1 hd) hnn hbig (by omega) (by omega)
  obtain ⟨u, o, g1, g2⟩ := K a h' E T' ⟨_, k1, locs, _, _, X', e', N, by omega, by omega, hS1, hk1, (fun q => nomatch q), trivial, oTs⟩
  exact ⟨u, o, st u g1, g2⟩
theorem K_getF (C : oCx p s m meth c P Z y B ml rt) {R0 O f d : String} {idx : Nat} {a : Addr} {v : Value} (w : (Jvm.Cond.fieldLink y.cls idx R0 f d).before a0 Z = true) (via : Via Z R0 O f d) (F : Fld Z h a O f d v) (hd : decode B pc = .ok (.getfield idx, 3)) (K : oWP b p l e R s m args below meth c P Q J h k n (oF m (pc + 3) Ls (v :: S))) : oWP b p l e R s m args below meth c P Q J h k n (oF m pc Ls (.ref a :: S)) := K.law C fun _ C T _ _ _ X eT => getF X C.1 C.hZ C.own (host := "") (Or.inl w) via eT F (g := oF m pc Ls (.ref a :: S)) rfl rfl (hb C.2.1 hd)
theorem K_getS (C : oCx p s m meth c P Z y B ml rt) {R0 O f d : String} {idx : Nat} {v : Value} (w : (Jvm.Cond.fieldLink y.cls idx R0 f d).before a0 Z = true) (via : Via Z R0 O f d) (F : Sta Z Z.heap O f d v) (hd : decode B pc = .ok (.getstatic idx, 3)) (K : oWP b p l e R s m args below meth c P Q J h k n (oF m (pc + 3) Ls (v :: S))) : oWP b p l e R s m args below meth c P Q J h k n (oF m pc Ls S) := K_old C fun hE _ _ => K.law C fun _ C T _ _ _ X eT => getS2 X C.1 C.hZ C.own (host := "") (Or.inl w) via eT (F.ext hE) (g := oF m pc Ls S) rfl (hb C.2.1 hd)
theorem K_putF (C : oCx p s m meth c P Z y B ml rt) {R0 O f d Cn : String} {idx kk : Nat} {ty : FieldType} {a : Addr} {v old : Value} (w : (Jvm.Cond.fieldLink y.cls idx R0 f d).before a0 Z = true) (via : Via Z R0 O f d) (F : Fld Z h a O f d old) (E : Exa Z h a Cn) (L : (Jvm.Cond.lays Cn O f d).before a0 Z = true ∨ ((Jvm.Cond.laysFinal Cn O f d).before a0 Z = true ∧ y.cls = O ∧ y.name = "<init>")) (wi : (Jvm.Cond.instantiable Cn kk).before a0 Z = true)
    (hty : parseFieldDescriptor d = some ty) (hnv : narrow ty v = v) (hf : fits ty v = true) (hP : P a) (hd : decode B pc = .ok (.putfield idx, 3)) (K : ∀ h', Wr h h' a (RoadKit.slotOf Z O f d) v → oWP b p l e R s m args below meth c P Q J h' k n (oF m (pc + 3) Ls S)) : oWP b p l e R s m args below meth c P Q J h k n (oF m pc Ls (v :: .ref a :: S)) := fun T hT => by
  obtain ⟨vm0, k0, locs, ck, cn, X, eT, N, q1, q2, hS, hk0, hbv, hJ⟩ := hT
  have C' := C.rebase hS
  obtain ⟨T', h', X', e', Wr1, st⟩ := putF X C.1 C'.hZ C'.own (host := "") (Or.inl w) via eT F E (L.imp id fun q => ⟨q.1, q.2.1, C.nm.trans q.2.2⟩) wi hty hnv hf (g := oF m pc Ls (v :: .ref a :: S)) rfl rfl (hb C.2.1 hd)
  obtain ⟨u, o, g1, g2⟩ := K h' Wr1 T' ⟨vm0, k0, _, ck, cn, X', e', N.snoc hP, q1, q2, hS, by rw [Wr1.size]; exact hk0, hbv, hJ⟩
  exact ⟨u, o, st u g1, g2⟩
theorem K_getFN (C : oCx p s m meth c P Z y B ml rt) {R0 O f d : String} {host : String} {idx : Nat} {a : Addr} {v : Value} (w : (Jvm.Cond.fieldLinkNest y.cls idx R0 f d host).before a0 Z = true) (via : Via Z R0 O f d) (F : Fld Z h a O f d v) (hd : decode B pc = .ok (.getfield idx, 3)) (K : oWP b p l e R s m args below meth c P Q J h k n (oF m (pc + 3) Ls (v :: S))) : oWP b p l e R s m args below meth c P Q J h k n (oF m pc Ls (.ref a :: S)) := K.law C fun _ C T _ _ _ X eT => getF X C.1 C.hZ C.own (Or.inr w) via eT F (g := oF m pc Ls (.ref a :: S)) rfl rfl (hb C.2.1 hd)
theorem K_getSN (C : oCx p s m meth c P Z y B ml rt) {R0 O f d : String} {host : String} {idx : Nat} {v : Value} (w : (Jvm.Cond.fieldLinkNest y.cls idx R0 f d host).before a0 Z = true) (via : Via Z R0 O f d) (F : Sta Z Z.heap O f d v) (hd : decode B pc = .ok (.getstatic idx, 3)) (K : oWP b p l e R s m args below meth c P Q J h k n (oF m (pc + 3) Ls (v :: S))) : oWP b p l e R s m args below meth c P Q J h k n (oF m pc Ls S) := K_old C fun hE _ _ => K.law C fun _ C T _ _ _ X eT => getS2 X C.1 C.hZ C.own (Or.inr w) via eT (F.ext hE) (g := oF m pc Ls S) rfl (hb C.2.1 hd)
theorem K_putFN (C : oCx p s m meth c P Z y B ml rt) {R0 O f d Cn : String} {host : String} {idx kk : Nat} {ty : FieldType} {a : Addr} {v old : Value} (w : (Jvm.Cond.fieldLinkNest y.cls idx R0 f d host).before a0 Z = true) (via : Via Z R0 O f d) (F : Fld Z h a O f d old) (E : Exa Z h a Cn) (L : (Jvm.Cond.lays Cn O f d).before a0 Z = true ∨ ((Jvm.Cond.laysFinal Cn O f d).before a0 Z = true ∧ y.cls = O ∧ y.name = "<init>")) (wi : (Jvm.Cond.instantiable Cn kk).before a0 Z = true)
    (hty : parseFieldDescriptor d = some ty) (hnv : narrow ty v = v) (hf : fits ty v = true) (hP : P a) (hd : decode B pc = .ok (.putfield idx, 3)) (K : ∀ h', Wr h h' a (RoadKit.slotOf Z O f d) v → oWP b p l e R s m args below meth c P Q J h' k n (oF m (pc + 3) Ls S)) : oWP b p l e R s m args below meth c P Q J h k n (oF m pc Ls (v :: .ref a :: S)) := fun T hT => by
  obtain ⟨vm0, k0, locs, ck, cn, X, eT, N, q1, q2, hS, hk0, hbv, hJ⟩ := hT
  have C' := C.rebase hS
  obtain ⟨T', h', X', e', Wr1, st⟩ := putF X C.1 C'.hZ C'.own (Or.inr w) via eT F E (L.imp id fun q => ⟨q.1, q.2.1, C.nm.trans q.2.2⟩) wi hty hnv hf (g := oF m pc Ls (v :: .ref a :: S)) rfl rfl (hb C.2.1 hd)
  obtain ⟨u, o, g1, g2⟩ := K h' Wr1 T' ⟨vm0, k0, _, ck, cn, X', e', N.snoc hP, q1, q2, hS, by rw [Wr1.size]; exact hk0, hbv, hJ⟩
  exact ⟨u, o, st u g1, g2⟩
theorem K_new (C : oCx p s m meth c P Z y B ml rt) {Cn : String} {idx sz : Nat} (w : (Jvm.Cond.classLink y.cls idx Cn).before a0 Z = true) (wi : (Jvm.Cond.instantiable Cn sz).before a0 Z = true) (wz : (Jvm.Cond.initialized Cn).before a0 Z = true) (hd : decode B pc = .ok (.new idx, 3)) (hk : k + 1 ≤ R.cells) (hn : n + sz ≤ R.slots)
    (K : ∀ h' a, a = h.size → P a → Ext h h' → Exa Z h' a Cn → (∀ {O nm d : String} {ty : FieldType}, Laid Z a0 Cn O nm d → parseFieldDescriptor d = some ty → Fld Z h' a O nm d (defaultValue ty)) → oWP b p l e R s m args below meth c P Q J h' (k + 1) (n + sz) (oF m (pc + 3) Ls (.ref a :: S))) : oWP b p l e R s m args below meth c P Q J h k n (oF m pc Ls S) := fun T hT => by
  have hO := oSd.old C hT
  obtain ⟨vm0, k0, locs, ck, cn, X, eT, N, q1, q2, hS, hk0, hbv, hJ⟩ := hT
  have C' := C.rebase hS
  obtain ⟨T', h', X', e', E, A, D, -, st⟩ := newO X C.1 C'.hZ C'.own w wi wz eT (g := oF m pc Ls S) rfl (hb C.2.1 hd) (by omega) (by omega)
  obtain ⟨u, o, g1, g2⟩ := K h' h.size rfl (C.new _ hO.2.1) E A D T' ⟨vm0, k0, locs, _, _, X', e', N, by omega, by omega, hS, Nat.le_trans hk0 E.1, hbv, hJ⟩
  exact ⟨u, o, st u g1, g2⟩
theorem K_initO (C : oCx p s m meth c P Z y B ml rt) {idx : Nat} {a : Addr} (w1 : (Jvm.Cond.methodLink y.cls idx Lib.objectInit).before a0 Z = true) (w2 : (Jvm.Cond.instanceMethod Lib.objectInit).before a0 Z = true) (w3 : (Jvm.Cond.code Lib.objectInit ⟨#[0xb1]⟩ 1 none).before a0 Z = true) (hd : decode B pc = .ok (.invokespecial idx, 3)) (hml : Ls.length = ml) (hf : 1 ≤ R.frames) (hl : (S.map fun v => v.category).sum + 12 ≤ R.locals) (K : oWP b p l e R s m args below meth c P Q J h k n (oF m (pc + 3) Ls S)) : oWP b p l e R s m args below meth c P Q J h k n (oF m pc Ls (.ref a :: S)) :=
  K.law C fun _ C T _ _ _ X eT => initO X C.1 C.hZ C.own w1 w2 w3 eT (g := oF m pc Ls (.ref a :: S)) rfl (by rw [C.hml]; exact hml) rfl (hb C.2.1 hd) hf (W := (S.map fun v => v.category).sum) (by show 2 * 0 + _ ≤ _; exact Nat.le_of_eq (Nat.zero_add _)) hl
theorem oBackW {s' : State} {z : MethodName} {B' : ByteArray} {ml' len W : Nat} {rt' : Option FieldType} {rm : Room} {as' : Array Value} {P' : Addr → Prop} {J' : Vm → Prop} {Q' : Option Value → Heap → Vm → Prop}
    (M : oMeetsW l Z z B' ml' rt' rm as' h P' J' Q') (hE : Ext Z.heap h) (hZ : Z.Warmed39 s'.vm) (wc : (Jvm.Cond.code z B' ml' rt').before a0 Z = true) (wz : (Jvm.Cond.initialized z.cls).before a0 Z = true) (hf : rm.frames + 1 ≤ R.frames) (hl : W + (ml' + 11) + rm.locals ≤ R.locals) :
    BackS l R p e below s' args z len W (fun A a => a = as' ∧ A.U.heap = h ∧ A.cells + rm.cells ≤ R.cells ∧ A.slots + rm.slots ≤ R.slots ∧ J' A.U.vm)
      (fun A _ v B => ∃ L, (Q' v B.U.heap B.U.vm ∧ oAl P' L ∧ oKp P' h B.U.heap) ∧ B.locs = A.locs ++ L ∧ B.cells = A.cells + rm.cells ∧ B.slots = A.slots + rm.slots) :=
  BackS.of_freeW (bytes := B') (maxL := ml') (ret := rt') (E := fun _ _ o t L k n => k = rm.cells ∧ n = rm.slots ∧ ∃ v, o = .returned v ∧ (Q' v t.heap t.vm ∧ oAl P' L ∧ oKp P' h t.heap)) (M hE []) hf hl
    (fun m meth c A a Y hp => have hU : Z.Warmed39 A.U.vm := wtrans hZ Y.warmed
      ⟨by show (Jvm.Cond.and _ .tt).before a A.U = true; rw [Cond.before_and, mv hU wc]; rfl, mv hU wc, mv hU wz, hp.2.2.1, hp.2.2.2.1⟩)
    (fun m meth c A a g mk Y hp => ⟨hp.1, wtrans hZ Y.warmed, hp.2.1, hp.2.2.2.2⟩) (fun _ _ _ _ _ _ _ _ _ => trivial)
    (fun _ _ _ _ ⟨v, L, h1, h2, h3⟩ => ⟨L, _, _, h3, rfl, rfl, v, h1, h2⟩)
    (fun m meth c A a g mk v t L k n Y hp _ _ ⟨e1, e2, v', e3, e4⟩ => by cases e3; subst e1 e2; exact ⟨L, e4, rfl, rfl, rfl⟩)
theorem K_static (C : oCx p s m meth c P Z y B ml rt) {idx : Nat} {z : MethodName} {B' : ByteArray} {ml' : Nat} {rt' : Option FieldType} {rm : Room} {as' : Array Value} {P' : Addr → Prop} {Q' : Option Value → Heap → Prop} {argsL rest : List Value} {ps : List FieldType} {rr : Option FieldType} (M : oMeets l Z z B' ml' rt' rm as' h P' Q') (w1 : (Jvm.Cond.methodLink y.cls idx z).before a0 Z = true) (w2 : (Jvm.Cond.static z).before a0 Z = true) (w3 : (Jvm.Cond.initialized z.cls).before a0 Z = true) (w4 : (Jvm.Cond.code z B' ml' rt').before a0 Z = true) (hy : z.cls ≠ "java/lang/invoke/MethodHandle" ∧ z.cls ≠ "java/lang/invoke/VarHandle") (hpd : parseMethodDescriptor z.desc = some ⟨ps, rr⟩) (hd : decode B pc = .ok (.invokestatic idx, 3)) (hS : S = argsL.reverse ++ rest) (hlen : argsL.length = ps.length) (ha : argsL.toArray = as') (hml : Ls.length = ml) (hP : ∀ a, s.heap.size ≤ h.size → P' a → P a) (hf : rm.frames + 1 ≤ R.frames) (hl : (rest.map fun v => v.category).sum + (ml' + 11) + rm.locals ≤ R.locals) (hk : k + rm.cells ≤ R.cells) (hn : n + rm.slots ≤ R.slots)
    (K : ∀ v h', Q' v h' → oKp P' h h' → oWP b p l e R s m args below meth c P Q J h' (k + rm.cells) (n + rm.slots) (oF m (pc + 3) Ls (v.toList ++ rest))) : oWP b p l e R s m args below meth c P Q J h k n (oF m pc Ls S) := fun T hT => by
  obtain ⟨hE, hle, -⟩ := oSd.old C hT
  obtain ⟨vm0, k0, locs, ck, cn, X, eT, N, q1, q2, hSi, hk0, hbv, hJ⟩ := hT
  subst hS
  have C' := C.rebase hSi
  obtain ⟨v, vm₁, ⟨T', L', k', n'⟩, -, X', ⟨Lc, ⟨hQ, hN, hK⟩, e1, e2, e3⟩, st⟩ := Jvm.LawKit.callS X C.1 (y := z) C'.own (mvT C'.hZ w1) (mvT C'.hZ w2) (mvT C'.hZ w3) (mvT C'.hZ w4) hy (backOf (W := (rest.map fun v => v.category).sum) (Q := fun v h' L => Q' v h' ∧ oAl P' L ∧ oKp P' h h') (M hE []) C'.hZ w4 w3 hf hl) (g := oF m pc Ls (argsL.reverse ++ rest)) rfl (by rw [C.hml]; exact hml) (argsL := argsL) (rest := rest) (lenOf hpd hlen) rfl (by show 2 * 0 + _ ≤ _; exact Nat.le_of_eq (Nat.zero_add _)) (hb C.2.1 hd) (fun vm₁ hw₁ => ⟨ha, eT, by show ck + _ ≤ _; omega, by show cn + _ ≤ _; omega⟩)
  dsimp only [Pt.U, Pt.locs, Pt.cells, Pt.slots] at X' e1 e2 e3 st hQ hK
  subst e1 e2 e3
  obtain ⟨u, o, g1, g2⟩ := K v T'.heap hQ hK T' ⟨vm0, k0, _, _, _, X', rfl, N.app fun q hq => hP _ hle (hN q hq), by omega, by omega, hSi, Nat.le_trans hk0 hK.1, hbv, hJ⟩
  exact ⟨u, o, st u g1, g2⟩
theorem K_special (C : oCx p s m meth c P Z y B ml rt) {idx : Nat} {z : MethodName} {B' : ByteArray} {ml' : Nat} {rm : Room} {as' : Array Value} {P' : Addr → Prop} {Q' : Option Value → Heap → Prop} {argsL rest : List Value} {ps : List FieldType} {rr : Option FieldType} (M : oMeets l Z z B' ml' none rm as' h P' Q') {a : Addr} (w1 : (Jvm.Cond.methodLink y.cls idx z).before a0 Z = true) (w2 : (Jvm.Cond.instanceMethod z).before a0 Z = true) (w3 : (Jvm.Cond.initialized z.cls).before a0 Z = true) (w4 : (Jvm.Cond.code z B' ml' none).before a0 Z = true) (hi : z.name = "<init>") (hy : z.cls ≠ "java/lang/invoke/MethodHandle" ∧ z.cls ≠ "java/lang/invoke/VarHandle") (hpd : parseMethodDescriptor z.desc = some ⟨ps, rr⟩) (hd : decode B pc = .ok (.invokespecial idx, 3)) (hS : S = argsL.reverse ++ .ref a :: rest) (hlen : argsL.length = ps.length) (ha : (.ref a :: argsL).toArray = as') (hml : Ls.length = ml) (hP : ∀ a, s.heap.size ≤ h.size → P' a → P a) (hf : rm.frames + 1 ≤ R.frames) (hl : (rest.map fun v => v.category).sum + (ml' + 11) + rm.locals ≤ R.locals) (hk : k + rm.cells ≤ R.cells) (hn : n + rm.slots ≤ R.slots)
    (K : ∀ v h', Q' v h' → oKp P' h h' → oWP b p l e R s m args below meth c P Q J h' (k + rm.cells) (n + rm.slots) (oF m (pc + 3) Ls (v.toList ++ rest))) : oWP b p l e R s m args below meth c P Q J h k n (oF m pc Ls S) := fun T hT => by
  obtain ⟨hE, hle, -⟩ := oSd.old C hT
  obtain ⟨vm0, k0, locs, ck, cn, X, eT, N, q1, q2, hSi, hk0, hbv, hJ⟩ := hT
  subst hS
  have C' := C.rebase hSi
  obtain ⟨v, vm₁, ⟨T', L', k', n'⟩, -, X', ⟨Lc, ⟨hQ, hN, hK⟩, e1, e2, e3⟩, st⟩ := X.specialBack C.1 (y := z) hi C'.own (mvT C'.hZ w1) (mvT C'.hZ w2) (mvT C'.hZ w4) hy (backOf (W := (rest.map fun v => v.category).sum) (Q := fun v h' L => Q' v h' ∧ oAl P' L ∧ oKp P' h h') (M hE []) C'.hZ w4 w3 hf hl) (g := oF m pc Ls (argsL.reverse ++ .ref a :: rest)) rfl (by rw [C.hml]; exact hml) (Steps.refl _) (a := a) (argsL := argsL) (rest := rest) (lenOf hpd hlen) rfl (by show 2 * 0 + _ ≤ _; exact Nat.le_of_eq (Nat.zero_add _)) (hb C.2.1 hd) (fun vm₁ hw₁ => ⟨ha, eT, by show ck + _ ≤ _; omega, by show cn + _ ≤ _; omega⟩)
  dsimp only [Pt.U, Pt.locs, Pt.cells, Pt.slots] at X' e1 e2 e3 st hQ hK
  subst e1 e2 e3
  obtain ⟨u, o, g1, g2⟩ := K v T'.heap hQ hK T' ⟨vm0, k0, _, _, _, X', rfl, N.app fun q hq => hP _ hle (hN q hq), by omega, by omega, hSi, Nat.le_trans hk0 hK.1, hbv, hJ⟩
  exact ⟨u, o, st.trans g1, g2⟩
theorem K_virtual (C : oCx p s m meth c P Z y B ml rt) {idx : Nat} {z z0 : MethodName} {B' : ByteArray} {ml' : Nat} {rt' : Option FieldType} {rm : Room} {as' : Array Value} {P' : Addr → Prop} {Q' : Option Value → Heap → Prop} {argsL rest : List Value} {ps : List FieldType} {rr : Option FieldType} (M : oMeets l Z z B' ml' rt' rm as' h P' Q') {a : Addr} {Cn : String} (E : Exa Z h a Cn) (w1 : (Jvm.Cond.methodLink y.cls idx z0).before a0 Z = true) (wd : (Jvm.Cond.declares z0).before a0 Z = true) (nf : ∀ s', Z.Warmed39 s'.vm → NotFace s' z0) (ws : (Jvm.Cond.selects Cn z0 z).before a0 Z = true) (w2 : (Jvm.Cond.instanceMethod z).before a0 Z = true) (w3 : (Jvm.Cond.initialized z.cls).before a0 Z = true) (w4 : (Jvm.Cond.code z B' ml' rt').before a0 Z = true) (hy : z0.cls ≠ "java/lang/invoke/MethodHandle" ∧ z0.cls ≠ "java/lang/invoke/VarHandle") (hpd : parseMethodDescriptor z0.desc = some ⟨ps, rr⟩) (hd : decode B pc = .ok (.invokevirtual idx, 3)) (hS : S = argsL.reverse ++ .ref a :: rest) (hlen : argsL.length = ps.length) (ha : (.ref a :: argsL).toArray = as') (hml : Ls.length = ml) (hP : ∀ a, s.heap.size ≤ h.size → P' a → P a) (hf : rm.frames + 1 ≤ R.frames) (hl : (rest.map fun v => v.category).sum + (ml' + 11) + rm.locals ≤ R.locals) (hk : k + rm.cells ≤ R.cells) (hn : n + rm.slots ≤ R.slots)
    (K : ∀ v h', Q' v h' → oKp P' h h' → oWP b p l e R s m args below meth c P Q J h' (k + rm.cells) (n + rm.slots) (oF m (pc + 3) Ls (v.toList ++ rest))) : oWP b p l e R s m args below meth c P Q J h k n (oF m pc Ls S) := fun T hT => by
  obtain ⟨hE, hle, -⟩ := oSd.old C hT
  obtain ⟨vm0, k0, locs, ck, cn, X, eT, N, q1, q2, hSi, hk0, hbv, hJ⟩ := hT
  subst hS
  have C' := C.rebase hSi
  obtain ⟨cq, kq, qa, qb, qc⟩ := isOf C'.hZ eT E
  obtain ⟨v, vm₁, ⟨T', L', k', n'⟩, -, X', ⟨Lc, ⟨hQ, hN, hK⟩, e1, e2, e3⟩, st⟩ := X.virtualBack C.1 (y := z0) (z := z) C'.own (mvT C'.hZ w1) (mvT C'.hZ wd) (nf _ C'.hZ) (mvT C'.hZ ws) (mvT C'.hZ w2) hy (backOf (W := (rest.map fun v => v.category).sum) (Q := fun v h' L => Q' v h' ∧ oAl P' L ∧ oKp P' h h') (M hE []) C'.hZ w4 w3 hf hl) qa qc (g := oF m pc Ls (argsL.reverse ++ .ref a :: rest)) rfl (by rw [C.hml]; exact hml) (Steps.refl _) (argsL := argsL) (rest := rest) (lenOf hpd hlen) rfl (by show 2 * 0 + _ ≤ _; exact Nat.le_of_eq (Nat.zero_add _)) (hb C.2.1 hd) (fun vm₁ hw₁ => ⟨ha, eT, by show ck + _ ≤ _; omega, by show cn + _ ≤ _; omega⟩)
  dsimp only [Pt.U, Pt.locs, Pt.cells, Pt.slots] at X' e1 e2 e3 st hQ hK
  subst e1 e2 e3
  obtain ⟨u, o, g1, g2⟩ := K v T'.heap hQ hK T' ⟨vm0, k0, _, _, _, X', rfl, N.app fun q hq => hP _ hle (hN q hq), by omega, by omega, hSi, Nat.le_trans hk0 hK.1, hbv, hJ⟩
  exact ⟨u, o, st.trans g1, g2⟩
theorem K_virtualUp (C : oCx p s m meth c P Z y B ml rt) {idx : Nat} {z z0 : MethodName} {B' : ByteArray} {ml' : Nat} {rt' : Option FieldType} {rm : Room} {as' : Array Value} {P' : Addr → Prop} {Q' : Option Value → Heap → Prop} {argsL rest : List Value} {ps : List FieldType} {rr : Option FieldType} (M : oMeets l Z z B' ml' rt' rm as' h P' Q') {a : Addr} {Cn owner : String} (E : Exa Z h a Cn) (w1 : (Jvm.Cond.methodLink y.cls idx z0).before a0 Z = true) (wsm : (Jvm.Cond.sameMethod z0.cls owner z0.name z0.desc).before a0 Z = true) (wd : (Jvm.Cond.declares ⟨owner, z0.name, z0.desc⟩).before a0 Z = true) (ws : (Jvm.Cond.selects Cn z0 z).before a0 Z = true) (w2 : (Jvm.Cond.instanceMethod z).before a0 Z = true) (w3 : (Jvm.Cond.initialized z.cls).before a0 Z = true) (w4 : (Jvm.Cond.code z B' ml' rt').before a0 Z = true) (hy : owner ≠ "java/lang/invoke/MethodHandle" ∧ owner ≠ "java/lang/invoke/VarHandle") (hpd : parseMethodDescriptor z0.desc = some ⟨ps, rr⟩) (hd : decode B pc = .ok (.invokevirtual idx, 3)) (hS : S = argsL.reverse ++ .ref a :: rest) (hlen : argsL.length = ps.length) (ha : (.ref a :: argsL).toArray = as') (hml : Ls.length = ml) (hP : ∀ a, s.heap.size ≤ h.size → P' a → P a) (hf : rm.frames + 1 ≤ R.frames) (hl : (rest.map fun v => v.category).sum + (ml' + 11) + rm.locals ≤ R.locals) (hk : k + rm.cells ≤ R.cells) (hn : n + rm.slots ≤ R.slots)
    (K : ∀ v h', Q' v h' → oKp P' h h' → oWP b p l e R s m args below meth c P Q J h' (k + rm.cells) (n + rm.slots) (oF m (pc + 3) Ls (v.toList ++ rest))) : oWP b p l e R s m args below meth c P Q J h k n (oF m pc Ls S) := fun T hT => by
  obtain ⟨hE, hle, -⟩ := oSd.old C hT
  obtain ⟨vm0, k0, locs, ck, cn, X, eT, N, q1, q2, hSi, hk0, hbv, hJ⟩ := hT
  subst hS
  have C' := C.rebase hSi
  obtain ⟨cq, kq, qa, qb, qc⟩ := isOf C'.hZ eT E
  obtain ⟨v, vm₁, ⟨T', L', k', n'⟩, -, X', ⟨Lc, ⟨hQ, hN, hK⟩, e1, e2, e3⟩, st⟩ := X.virtualBackUp C.1 (x := z0) (y := z) C'.own (mvT C'.hZ w1) (mvT C'.hZ wsm) (mvT C'.hZ wd) hy (mvT C'.hZ ws) (mvT C'.hZ w2) (backOf (W := (rest.map fun v => v.category).sum) (Q := fun v h' L => Q' v h' ∧ oAl P' L ∧ oKp P' h h') (M hE []) C'.hZ w4 w3 hf hl) qa qc (g := oF m pc Ls (argsL.reverse ++ .ref a :: rest)) rfl (by rw [C.hml]; exact hml) (Steps.refl _) (argsL := argsL) (rest := rest) (lenOf hpd hlen) rfl (by show 2 * 0 + _ ≤ _; exact Nat.le_of_eq (Nat.zero_add _)) (hb C.2.1 hd) (fun vm₁ hw₁ => ⟨ha, eT, by show ck + _ ≤ _; omega, by show cn + _ ≤ _; omega⟩)
  dsimp only [Pt.U, Pt.locs, Pt.cells, Pt.slots] at X' e1 e2 e3 st hQ hK
  subst e1 e2 e3
  obtain ⟨u, o, g1, g2⟩ := K v T'.heap hQ hK T' ⟨vm0, k0, _, _, _, X', rfl, N.app fun q hq => hP _ hle (hN q hq), by omega, by omega, hSi, Nat.le_trans hk0 hK.1, hbv, hJ⟩
  exact ⟨u, o, st.trans g1, g2⟩
theorem K_staticW (C : oCx p s m meth c P Z y B ml rt) {idx : Nat} {z : MethodName} {B' : ByteArray} {ml' : Nat} {rt' : Option FieldType} {rm : Room} {as' : Array Value} {P' : Addr → Prop} {J' : Vm → Prop} {Q' : Option Value → Heap → Vm → Prop} {argsL rest : List Value} {ps : List FieldType} {rr : Option FieldType} (M : oMeetsW l Z z B' ml' rt' rm as' h P' J' Q') (hJJ : ∀ vm, J vm → J' vm) (w1 : (Jvm.Cond.methodLink y.cls idx z).before a0 Z = true) (w2 : (Jvm.Cond.static z).before a0 Z = true) (w3 : (Jvm.Cond.initialized z.cls).before a0 Z = true) (w4 : (Jvm.Cond.code z B' ml' rt').before a0 Z = true) (hy : z.cls ≠ "java/lang/invoke/MethodHandle" ∧ z.cls ≠ "java/lang/invoke/VarHandle") (hpd : parseMethodDescriptor z.desc = some ⟨ps, rr⟩) (hd : decode B pc = .ok (.invokestatic idx, 3)) (hS : S = argsL.reverse ++ rest) (hlen : argsL.length = ps.length) (ha : argsL.toArray = as') (hml : Ls.length = ml) (hP : ∀ a, s.heap.size ≤ h.size → P' a → P a) (hf : rm.frames + 1 ≤ R.frames) (hl : (rest.map fun v => v.category).sum + (ml' + 11) + rm.locals ≤ R.locals) (hk : k + rm.cells ≤ R.cells) (hn : n + rm.slots ≤ R.slots)
    (K : ∀ v h' vm', Q' v h' vm' → oKp P' h h' → ∃ J1 : Vm → Prop, J1 vm' ∧ oJs J1 ∧ oWP true p l e R s m args below meth c P Q J1 h' (k + rm.cells) (n + rm.slots) (oF m (pc + 3) Ls (v.toList ++ rest))) : oWP true p l e R s m args below meth c P Q J h k n (oF m pc Ls S) := fun T hT => by
  obtain ⟨hE, hle, -⟩ := oSd.old C hT
  obtain ⟨vm0, k0, locs, ck, cn, X, eT, N, q1, q2, hSi, hk0, hbv, hJ⟩ := hT
  subst hS
  have C' := C.rebase hSi
  obtain ⟨v, vm₁, ⟨T', L', k', n'⟩, -, X', hS2, hgr, ⟨Lc, ⟨hQ, hN, hK⟩, e1, e2, e3⟩, st⟩ := callSS X C.1 (y := z) C'.own (mvT C'.hZ w1) (mvT C'.hZ w2) (mvT C'.hZ w3) (mvT C'.hZ w4) hy (oBackW (W := (rest.map fun v => v.category).sum) M hE C'.hZ w4 w3 hf hl) (g := oF m pc Ls (argsL.reverse ++ rest)) rfl (by rw [C.hml]; exact hml) (argsL := argsL) (rest := rest) (lenOf hpd hlen) rfl (by show 2 * 0 + _ ≤ _; exact Nat.le_of_eq (Nat.zero_add _)) (hb C.2.1 hd) (fun vm₁ hw₁ => ⟨ha, eT, by show ck + _ ≤ _; omega, by show cn + _ ≤ _; omega, hJJ _ (hJ.2 (s.setVm vm0) _ hJ.1 hw₁)⟩)
  dsimp only [Pt.U, Pt.locs, Pt.cells, Pt.slots] at X' hS2 hgr e1 e2 e3 st hQ hK
  subst e1 e2 e3
  obtain ⟨J1, j1, j2, K1⟩ := K v T'.heap T'.vm hQ hK
  obtain ⟨u, o, g1, g2⟩ := K1 T' ⟨T'.vm, T'.heap.size, _, _, _, X', rfl, N.app fun q hq => hP _ hle (hN q hq), by omega, by omega, foldS hSi (by rw [eT]; exact hk0) hS2 hgr, Nat.le_refl _, (fun q => nomatch q), j1, j2⟩
  exact ⟨u, o, st.trans g1, g2⟩
theorem K_specialW (C : oCx p s m meth c P Z y B ml rt) {idx : Nat} {z : MethodName} {B' : ByteArray} {ml' : Nat} {rm : Room} {as' : Array Value} {P' : Addr → Prop} {J' : Vm → Prop} {Q' : Option Value → Heap → Vm → Prop} {argsL rest : List Value} {ps : List FieldType} {rr : Option FieldType} (M : oMeetsW l Z z B' ml' none rm as' h P' J' Q') (hJJ : ∀ vm, J vm → J' vm) {a : Addr} (w1 : (Jvm.Cond.methodLink y.cls idx z).before a0 Z = true) (w2 : (Jvm.Cond.instanceMethod z).before a0 Z = true) (w3 : (Jvm.Cond.initialized z.cls).before a0 Z = true) (w4 : (Jvm.Cond.code z B' ml' none).before a0 Z = true) (hi : z.name = "<init>") (hy : z.cls ≠ "java/lang/invoke/MethodHandle" ∧ z.cls ≠ "java/lang/invoke/VarHandle") (hpd : parseMethodDescriptor z.desc = some ⟨ps, rr⟩) (hd : decode B pc = .ok (.invokespecial idx, 3)) (hS : S = argsL.reverse ++ .ref a :: rest) (hlen : argsL.length = ps.length) (ha : (.ref a :: argsL).toArray = as') (hml : Ls.length = ml) (hP : ∀ a, s.heap.size ≤ h.size → P' a → P a) (hf : rm.frames + 1 ≤ R.frames) (hl : (rest.map fun v => v.category).sum + (ml' + 11) + rm.locals ≤ R.locals) (hk : k + rm.cells ≤ R.cells) (hn : n + rm.slots ≤ R.slots)
    (K : ∀ v h' vm', Q' v h' vm' → oKp P' h h' → ∃ J1 : Vm → Prop, J1 vm' ∧ oJs J1 ∧ oWP true p l e R s m args below meth c P Q J1 h' (k + rm.cells) (n + rm.slots) (oF m (pc + 3) Ls (v.toList ++ rest))) : oWP true p l e R s m args below meth c P Q J h k n (oF m pc Ls S) := fun T hT => by
  obtain ⟨hE, hle, -⟩ := oSd.old C hT
  obtain ⟨vm0, k0, locs, ck, cn, X, eT, N, q1, q2, hSi, hk0, hbv, hJ⟩ := hT
  subst hS
  have C' := C.rebase hSi
  obtain ⟨v, vm₁, ⟨T', L', k', n'⟩, -, X', hS2, hgr, ⟨Lc, ⟨hQ, hN, hK⟩, e1, e2, e3⟩, st⟩ := X.specialBackS C.1 (y := z) hi C'.own (mvT C'.hZ w1) (mvT C'.hZ w2) (mvT C'.hZ w4) hy (oBackW (W := (rest.map fun v => v.category).sum) M hE C'.hZ w4 w3 hf hl) (g := oF m pc Ls (argsL.reverse ++ .ref a :: rest)) rfl (by rw [C.hml]; exact hml) (Steps.refl _) (a := a) (argsL := argsL) (rest := rest) (lenOf hpd hlen) rfl (by show 2 * 0 + _ ≤ _; exact Nat.le_of_eq (Nat.zero_add _)) (hb C.2.1 hd) (fun vm₁ hw₁ => ⟨ha, eT, by show ck + _ ≤ _; omega, by show cn + _ ≤ _; omega, hJJ _ (hJ.2 (s.setVm vm0) _ hJ.1 hw₁)⟩)
  dsimp only [Pt.U, Pt.locs, Pt.cells, Pt.slots] at X' hS2 hgr e1 e2 e3 st hQ hK
  subst e1 e2 e3
  obtain ⟨J1, j1, j2, K1⟩ := K v T'.heap T'.vm hQ hK
  obtain ⟨u, o, g1, g2⟩ := K1 T' ⟨T'.vm, T'.heap.size, _, _, _, X', rfl, N.app fun q hq => hP _ hle (hN q hq), by omega, by omega, foldS hSi (by rw [eT]; exact hk0) hS2 hgr, Nat.le_refl _, (fun q => nomatch q), j1, j2⟩
  exact ⟨u, o, st.trans g1, g2⟩
theorem K_virtualW (C : oCx p s m meth c P Z y B ml rt) {idx : Nat} {z z0 : MethodName} {B' : ByteArray} {ml' : Nat} {rt' : Option FieldType} {rm : Room} {as' : Array Value} {P' : Addr → Prop} {J' : Vm → Prop} {Q' : Option Value → Heap → Vm → Prop} {argsL rest : List Value} {ps : List FieldType} {rr : Option FieldType} (M : oMeetsW l Z z B' ml' rt' rm as' h P' J' Q') (hJJ : ∀ vm, J vm → J' vm) {a : Addr} {Cn : String} (E : Exa Z h a Cn) (w1 : (Jvm.Cond.methodLink y.cls idx z0).before a0 Z = true) (wd : (Jvm.Cond.declares z0).before a0 Z = true) (nf : ∀ s', Z.Warmed39 s'.vm → NotFace s' z0) (ws : (Jvm.Cond.selects Cn z0 z).before a0 Z = true) (w2 : (Jvm.Cond.instanceMethod z).before a0 Z = true) (w3 : (Jvm.Cond.initialized z.cls).before a0 Z = true) (w4 : (Jvm.Cond.code z B' ml' rt').before a0 Z = true) (hy : z0.cls ≠ "java/lang/invoke/MethodHandle" ∧ z0.cls ≠ "java/lang/invoke/VarHandle") (hpd : parseMethodDescriptor z0.desc = some ⟨ps, rr⟩) (hd : decode B pc = .ok (.invokevirtual idx, 3)) (hS : S = argsL.reverse ++ .ref a :: rest) (hlen : argsL.length = ps.length) (ha : (.ref a :: argsL).toArray = as') (hml : Ls.length = ml) (hP : ∀ a, s.heap.size ≤ h.size → P' a → P a) (hf : rm.frames + 1 ≤ R.frames) (hl : (rest.map fun v => v.category).sum + (ml' + 11) + rm.locals ≤ R.locals) (hk : k + rm.cells ≤ R.cells) (hn : n + rm.slots ≤ R.slots)
    (K : ∀ v h' vm', Q' v h' vm' → oKp P' h h' → ∃ J1 : Vm → Prop, J1 vm' ∧ oJs J1 ∧ oWP true p l e R s m args below meth c P Q J1 h' (k + rm.cells) (n + rm.slots) (oF m (pc + 3) Ls (v.toList ++ rest))) : oWP true p l e R s m args below meth c P Q J h k n (oF m pc Ls S) := fun T hT => by
  obtain ⟨hE, hle, -⟩ := oSd.old C hT
  obtain ⟨vm0, k0, locs, ck, cn, X, eT, N, q1, q2, hSi, hk0, hbv, hJ⟩ := hT
  subst hS
  have C' := C.rebase hSi
  obtain ⟨cq, kq, qa, qb, qc⟩ := isOf C'.hZ eT E
  obtain ⟨v, vm₁, ⟨T', L', k', n'⟩, -, X', hS2, hgr, ⟨Lc, ⟨hQ, hN, hK⟩, e1, e2, e3⟩, st⟩ := X.virtualBackS C.1 (y := z0) (z := z) C'.own (mvT C'.hZ w1) (mvT C'.hZ wd) (nf _ C'.hZ) (mvT C'.hZ ws) (mvT C'.hZ w2) hy (oBackW (W := (rest.map fun v => v.category).sum) M hE C'.hZ w4 w3 hf hl) qa qc (g := oF m pc Ls (argsL.reverse ++ .ref a :: rest)) rfl (by rw [C.hml]; exact hml) (Steps.refl _) (argsL := argsL) (rest := rest) (lenOf hpd hlen) rfl (by show 2 * 0 + _ ≤ _; exact Nat.le_of_eq (Nat.zero_add _)) (hb C.2.1 hd) (fun vm₁ hw₁ => ⟨ha, eT, by show ck + _ ≤ _; omega, by show cn + _ ≤ _; omega, hJJ _ (hJ.2 (s.setVm vm0) _ hJ.1 hw₁)⟩)
  dsimp only [Pt.U, Pt.locs, Pt.cells, Pt.slots] at X' hS2 hgr e1 e2 e3 st hQ hK
  subst e1 e2 e3
  obtain ⟨J1, j1, j2, K1⟩ := K v T'.heap T'.vm hQ hK
  obtain ⟨u, o, g1, g2⟩ := K1 T' ⟨T'.vm, T'.heap.size, _, _, _, X', rfl, N.app fun q hq => hP _ hle (hN q hq), by omega, by omega, foldS hSi (by rw [eT]; exact hk0) hS2 hgr, Nat.le_refl _, (fun q => nomatch q), j1, j2⟩
  exact ⟨u, o, st.trans g1, g2⟩
theorem K_virtualUpW (C : oCx p s m meth c P Z y B ml rt) {idx : Nat} {z z0 : MethodName} {B' : ByteArray} {ml' : Nat} {rt' : Option FieldType} {rm : Room} {as' : Array Value} {P' : Addr → Prop} {J' : Vm → Prop} {Q' : Option Value → Heap → Vm → Prop} {argsL rest : List Value} {ps : List FieldType} {rr : Option FieldType} (M : oMeetsW l Z z B' ml' rt' rm as' h P' J' Q') (hJJ : ∀ vm, J vm → J' vm) {a : Addr} {Cn owner : String} (E : Exa Z h a Cn) (w1 : (Jvm.Cond.methodLink y.cls idx z0).before a0 Z = true) (wsm : (Jvm.Cond.sameMethod z0.cls owner z0.name z0.desc).before a0 Z = true) (wd : (Jvm.Cond.declares ⟨owner, z0.name, z0.desc⟩).before a0 Z = true) (ws : (Jvm.Cond.selects Cn z0 z).before a0 Z = true) (w2 : (Jvm.Cond.instanceMethod z).before a0 Z = true) (w3 : (Jvm.Cond.initialized z.cls).before a0 Z = true) (w4 : (Jvm.Cond.code z B' ml' rt').before a0 Z = true) (hy : owner ≠ "java/lang/invoke/MethodHandle" ∧ owner ≠ "java/lang/invoke/VarHandle") (hpd : parseMethodDescriptor z0.desc = some ⟨ps, rr⟩) (hd : decode B pc = .ok (.invokevirtual idx, 3)) (hS : S = argsL.reverse ++ .ref a :: rest) (hlen : argsL.length = ps.length) (ha : (.ref a :: argsL).toArray = as') (hml : Ls.length = ml) (hP : ∀ a, s.heap.size ≤ h.size → P' a → P a) (hf : rm.frames + 1 ≤ R.frames) (hl : (rest.map fun v => v.category).sum + (ml' + 11) + rm.locals ≤ R.locals) (hk : k + rm.cells ≤ R.cells) (hn : n + rm.slots ≤ R.slots)
    (K : ∀ v h' vm', Q' v h' vm' → oKp P' h h' → ∃ J1 : Vm → Prop, J1 vm' ∧ oJs J1 ∧ oWP true p l e R s m args below meth c P Q J1 h' (k + rm.cells) (n + rm.slots) (oF m (pc + 3) Ls (v.toList ++ rest))) : oWP true p l e R s m args below meth c P Q J h k n (oF m pc Ls S) := fun T hT => by
  obtain ⟨hE, hle, -⟩ := oSd.old C hT
  obtain ⟨vm0, k0, locs, ck, cn, X, eT, N, q1, q2, hSi, hk0, hbv, hJ⟩ := hT
  subst hS
  have C' := C.rebase hSi
  obtain ⟨cq, kq, qa, qb, qc⟩ := isOf C'.hZ eT E
  obtain ⟨v, vm₁, ⟨T', L', k', n'⟩, -, X', hS2, hgr, ⟨Lc, ⟨hQ, hN, hK⟩, e1, e2, e3⟩, st⟩ := X.virtualBackUpS C.1 (x := z0) (y := z) C'.own (mvT C'.hZ w1) (mvT C'.hZ wsm) (mvT C'.hZ wd) hy (mvT C'.hZ ws) (mvT C'.hZ w2) (oBackW (W := (rest.map fun v => v.category).sum) M hE C'.hZ w4 w3 hf hl) qa qc (g := oF m pc Ls (argsL.reverse ++ .ref a :: rest)) rfl (by rw [C.hml]; exact hml) (Steps.refl _) (argsL := argsL) (rest := rest) (lenOf hpd hlen) rfl (by show 2 * 0 + _ ≤ _; exact Nat.le_of_eq (Nat.zero_add _)) (hb C.2.1 hd) (fun vm₁ hw₁ => ⟨ha, eT, by show ck + _ ≤ _; omega, by show cn + _ ≤ _; omega, hJJ _ (hJ.2 (s.setVm vm0) _ hJ.1 hw₁)⟩)
  dsimp only [Pt.U, Pt.locs, Pt.cells, Pt.slots] at X' hS2 hgr e1 e2 e3 st hQ hK
  subst e1 e2 e3
  obtain ⟨J1, j1, j2, K1⟩ := K v T'.heap T'.vm hQ hK
  obtain ⟨u, o, g1, g2⟩ := K1 T' ⟨T'.vm, T'.heap.size, _, _, _, X', rfl, N.app fun q hq => hP _ hle (hN q hq), by omega, by omega, foldS hSi (by rw [eT]; exact hk0) hS2 hgr, Nat.le_refl _, (fun q => nomatch q), j1, j2⟩
  exact ⟨u, o, st.trans g1, g2⟩
theorem oNF {Cn : String} {z : MethodName} (w : (Jvm.Cond.selects Cn z z).before a0 Z = true) : ∀ s' : State, Z.Warmed39 s'.vm → NotFace s' z := fun _ hZ => notFace_of_selects (args := #[]) (mvT hZ w)
theorem oNFs {S' : String} {z : MethodName} (w : (Jvm.Cond.superclass z.cls S').before a0 Z = true) : ∀ s' : State, Z.Warmed39 s'.vm → NotFace s' z := fun _ hZ => nf_super (args := #[]) (mvT hZ w)
theorem K_putFn (C : oCx p s m meth c P Z y B ml rt) {R0 O f d Cn : String} {idx kk : Nat} {ty : FieldType} {a : Addr} {v v' old : Value} (w : (Jvm.Cond.fieldLink y.cls idx R0 f d).before a0 Z = true) (via : Via Z R0 O f d) (F : Fld Z h a O f d old) (E : Exa Z h a Cn) (L : (Jvm.Cond.lays Cn O f d).before a0 Z = true ∨ ((Jvm.Cond.laysFinal Cn O f d).before a0 Z = true ∧ y.cls = O ∧ y.name = "<init>")) (wi : (Jvm.Cond.instantiable Cn kk).before a0 Z = true)
    (hty : parseFieldDescriptor d = some ty) (hnv : narrow ty v = v') (hf : fits ty v' = true) (hP : P a) (hd : decode B pc = .ok (.putfield idx, 3)) (K : ∀ h', Wr h h' a (RoadKit.slotOf Z O f d) v' → oWP b p l e R s m args below meth c P Q J h' k n (oF m (pc + 3) Ls S)) : oWP b p l e R s m args below meth c P Q J h k n (oF m pc Ls (v :: .ref a :: S)) := fun T hT => by
  obtain ⟨vm0, k0, locs, ck, cn, X, eT, N, q1, q2, hS, hk0, hbv, hJ⟩ := hT
  have C' := C.rebase hS
  obtain ⟨T', h', X', e', Wr1, st⟩ := putFN X C.1 C'.hZ C'.own w via eT F E (L.imp id fun q => ⟨q.1, q.2.1, C.nm.trans q.2.2⟩) wi hty hnv hf (g := oF m pc Ls (v :: .ref a :: S)) rfl rfl (hb C.2.1 hd)
  obtain ⟨u, o, g1, g2⟩ := K h' Wr1 T' ⟨vm0, k0, _, ck, cn, X', e', N.snoc hP, q1, q2, hS, by rw [Wr1.size]; exact hk0, hbv, hJ⟩
  exact ⟨u, o, st u g1, g2⟩
theorem K_castY (C : oCx p s m meth c P Z y B ml rt) {idx : Nat} {a : Addr} {Cn : String} (w : (Jvm.Cond.classLink y.cls idx Cn).before a0 Z = true) (F : Ins Z h a Cn true) (hd : decode B pc = .ok (.checkcast idx, 3)) (K : oWP b p l e R s m args below meth c P Q J h k n (oF m (pc + 3) Ls (.ref a :: S))) : oWP b p l e R s m args below meth c P Q J h k n (oF m pc Ls (.ref a :: S)) := K.law C fun _ C T _ _ _ X eT => castY X C.1 C.hZ C.own w eT F (g := oF m pc Ls (.ref a :: S)) rfl rfl (hb C.2.1 hd)
theorem K_instY (C : oCx p s m meth c P Z y B ml rt) {idx : Nat} {a : Addr} {Cn : String} (w : (Jvm.Cond.classLink y.cls idx Cn).before a0 Z = true) (F : Ins Z h a Cn true) (hd : decode B pc = .ok (.instanceof idx, 3)) (K : oWP b p l e R s m args below meth c P Q J h k n (oF m (pc + 3) Ls (.int 1 :: S))) : oWP b p l e R s m args below meth c P Q J h k n (oF m pc Ls (.ref a :: S)) := K.law C fun _ C T _ _ _ X eT => instY X C.1 C.hZ C.own w eT F (g := oF m pc Ls (.ref a :: S)) rfl rfl (hb C.2.1 hd)
theorem K_astoreV (C : oCx p s m meth c P Z y B ml rt) {i : Nat} {v : Value} {Ls' : List Slot} (o : Slot) (hd : decode B pc = .ok (.astore i, 2)) (hv : v.isRef = true) (hold : (Array.mk Ls)[i]? = some o) (ho : o = .unset ∨ ∃ w, o = .val w ∧ w.category = 1) (hL : (Array.mk Ls).setIfInBounds i (.val v) = Array.mk Ls') (K : oWP b p l e R s m args below meth c P Q J h k n (oF m (pc + 2) Ls' S)) : oWP b p l e R s m args below meth c P Q J h k n (oF m pc Ls (v :: S)) :=
  K_astore C hd hv (by rw [XS.store1 hold ho (XT.cat1 hv), hL]) K
theorem K_astoreNV (C : oCx p s m meth c P Z y B ml rt) {i : Fin 4} {v : Value} {Ls' : List Slot} (o : Slot) (hd : decode B pc = .ok (.astore_n i, 1)) (hv : v.isRef = true) (hold : (Array.mk Ls)[i.val]? = some o) (ho : o = .unset ∨ ∃ w, o = .val w ∧ w.category = 1) (hL : (Array.mk Ls).setIfInBounds i.val (.val v) = Array.mk Ls') (K : oWP b p l e R s m args below meth c P Q J h k n (oF m (pc + 1) Ls' S)) : oWP b p l e R s m args below meth c P Q J h k n (oF m pc Ls (v :: S)) :=
  K_astoreN C hd hv (by rw [XS.store1 hold ho (XT.cat1 hv), hL]) K
theorem K_istoreV (C : oCx p s m meth c P Z y B ml rt) {i : Nat} {v : Int32} {Ls' : List Slot} (o : Slot) (hd : decode B pc = .ok (.istore i, 2)) (hold : (Array.mk Ls)[i]? = some o) (ho : o = .unset ∨ ∃ w, o = .val w ∧ w.category = 1) (hL : (Array.mk Ls).setIfInBounds i (.val (.int v)) = Array.mk Ls') (K : oWP b p l e R s m args below meth c P Q J h k n (oF m (pc + 2) Ls' S)) : oWP b p l e R s m args below meth c P Q J h k n (oF m pc Ls (.int v :: S)) :=
  K_istore C hd (by rw [XS.store1 hold ho rfl, hL]) K
theorem K_iaload (C : oCx p s m meth c P Z y B ml rt) {a : Addr} {cl : Cell} {j : Int32} {v : Value} (A : Arr Z h a cl .int) (hj : ¬ (j < 0 ∨ cl.slots.size ≤ j.toNatClampNeg)) (hv : cl.slots[j.toNatClampNeg]? = some v) (hd : decode B pc = .ok (.iaload, 1)) (K : oWP b p l e R s m args below meth c P Q J h k n (oF m (pc + 1) Ls (v :: S))) : oWP b p l e R s m args below meth c P Q J h k n (oF m pc Ls (.int j :: .ref a :: S)) := K.law C fun _ C T _ _ _ X eT => ⟨T, X, eT, X.iaload C.1 (by rw [eT]; exact A.1) (State.isArrayOf_alike C.hZ.alike A.2.1) A.2.2 hj hv (g := oF m pc Ls (.int j :: .ref a :: S)) rfl rfl (hb C.2.1 hd)⟩
theorem K_caload (C : oCx p s m meth c P Z y B ml rt) {a : Addr} {cl : Cell} {j : Int32} {v : Value} (A : Arr Z h a cl .char) (hj : ¬ (j < 0 ∨ cl.slots.size ≤ j.toNatClampNeg)) (hv : cl.slots[j.toNatClampNeg]? = some v) (hd : decode B pc = .ok (.caload, 1)) (K : oWP b p l e R s m args below meth c P Q J h k n (oF m (pc + 1) Ls (v :: S))) : oWP b p l e R s m args below meth c P Q J h k n (oF m pc Ls (.int j :: .ref a :: S)) := K.law C fun _ C T _ _ _ X eT => ⟨T, X, eT, X.caload C.1 (by rw [eT]; exact A.1) (State.isArrayOf_alike C.hZ.alike A.2.1) A.2.2 hj hv (g := oF m pc Ls (.int j :: .ref a :: S)) rfl rfl (hb C.2.1 hd)⟩
theorem K_laload (C : oCx p s m meth c P Z y B ml rt) {a : Addr} {cl : Cell} {j : Int32} {v : Value} (A : Arr Z h a cl .long) (hj : ¬ (j < 0 ∨ cl.slots.size ≤ j.toNatClampNeg)) (hv : cl.slots[j.toNatClampNeg]? = some v) (hd : decode B pc = .ok (.laload, 1)) (K : oWP b p l e R s m args below meth c P Q J h k n (oF m (pc + 1) Ls (v :: S))) : oWP b p l e R s m args below meth c P Q J h k n (oF m pc Ls (.int j :: .ref a :: S)) := K.law C fun _ C T _ _ _ X eT => ⟨T, X, eT, X.laload C.1 (by rw [eT]; exact A.1) (State.isArrayOf_alike C.hZ.alike A.2.1) A.2.2 hj hv (g := oF m pc Ls (.int j :: .ref a :: S)) rfl rfl (hb C.2.1 hd)⟩
theorem K_baload (C : oCx p s m meth c P Z y B ml rt) {a : Addr} {cl : Cell} {j : Int32} {v : Value} (A : Arr Z h a cl .byte) (hj : ¬ (j < 0 ∨ cl.slots.size ≤ j.toNatClampNeg)) (hv : cl.slots[j.toNatClampNeg]? = some v) (hd : decode B pc = .ok (.baload, 1)) (K : oWP b p l e R s m args below meth c P Q J h k n (oF m (pc + 1) Ls (v :: S))) : oWP b p l e R s m args below meth c P Q J h k n (oF m pc Ls (.int j :: .ref a :: S)) := K.law C fun _ C T _ _ _ X eT => ⟨T, X, eT, X.baloadBytes C.1 (by rw [eT]; exact A.1) (State.isArrayOf_alike C.hZ.alike A.2.1) A.2.2 hj hv (g := oF m pc Ls (.int j :: .ref a :: S)) rfl rfl (hb C.2.1 hd)⟩
theorem K_aaload (C : oCx p s m meth c P Z y B ml rt) {a : Addr} {cl : Cell} {ty : FieldType} {j : Int32} {v : Value} (A : Arr Z h a cl ty) (hty : ty.isReference = true) (hj : ¬ (j < 0 ∨ cl.slots.size ≤ j.toNatClampNeg)) (hv : cl.slots[j.toNatClampNeg]? = some v) (hd : decode B pc = .ok (.aaload, 1)) (K : oWP b p l e R s m args below meth c P Q J h k n (oF m (pc + 1) Ls (v :: S))) : oWP b p l e R s m args below meth c P Q J h k n (oF m pc Ls (.int j :: .ref a :: S)) := K.law C fun _ C T _ _ _ X eT => ⟨T, X, eT, X.aaload C.1 (by rw [eT]; exact A.1) (State.isArrayOf_alike C.hZ.alike A.2.1) hty A.2.2 hj hv (g := oF m pc Ls (.int j :: .ref a :: S)) rfl rfl (hb C.2.1 hd)⟩
theorem K_arraylength (C : oCx p s m meth c P Z y B ml rt) {a : Addr} {cl : Cell} {ty : FieldType} (A : Arr Z h a cl ty) (hd : decode B pc = .ok (.arraylength, 1)) (K : oWP b p l e R s m args below meth c P Q J h k n (oF m (pc + 1) Ls (.int cl.slots.size.toInt32 :: S))) : oWP b p l e R s m args below meth c P Q J h k n (oF m pc Ls (.ref a :: S)) := K.law C fun _ C T _ _ _ X eT => ⟨T, X, eT, X.arraylength C.1 (by rw [eT]; exact A.1) (State.isArrayOf_alike C.hZ.alike A.2.1) (g := oF m pc Ls (.ref a :: S)) rfl rfl (hb C.2.1 hd)⟩
theorem K_newarray (C : oCx p s m meth c P Z y B ml rt) {aty : ArrayType} {z : Int32} {cap : Nat} (w : (Jvm.Cond.arrayClass (newarray.typeOf aty)).before a0 Z = true) (hd : decode B pc = .ok (.newarray aty, 2)) (hz : ¬ z < 0) (hcap : z.toNatClampNeg ≤ cap) (hb8 : cap * 8 ≤ 536870912) (hk : k + 1 ≤ R.cells) (hn : n + cap ≤ R.slots)
    (K : ∀ h' a cA, a = h.size → P a → Ext h h' → Arr Z h' a (newA cA (newarray.typeOf aty) z) (newarray.typeOf aty) → oWP b p l e R s m args below meth c P Q J h' (k + 1) (n + cap) (oF m (pc + 2) Ls (.ref a :: S))) : oWP b p l e R s m args below meth c P Q J h k n (oF m pc Ls (.int z :: S)) := fun T hT => by
  have hO := oSd.old C hT
  obtain ⟨vm0, k0, locs, ck, cn, X, eT, N, q1, q2, hS, hk0, hbv, hJ⟩ := hT
  have C' := C.rebase hS
  obtain ⟨T', h', cA, X', e', E, A, st⟩ := newP X C.1 C'.hZ w eT (g := oF m pc Ls (.int z :: S)) rfl (hb C.2.1 hd) rfl hz hcap hb8 (by omega) (by omega)
  obtain ⟨u, o, g1, g2⟩ := K h' h.size cA rfl (C.new _ hO.2.1) E A T' ⟨vm0, k0, locs, _, _, X', e', N, by omega, by omega, hS, Nat.le_trans hk0 E.1, hbv, hJ⟩
  exact ⟨u, o, st u g1, g2⟩
theorem K_iastore (C : oCx p s m meth c P Z y B ml rt) {a : Addr} {cl : Cell} {j : Int32} {x : Int32} (A : Arr Z h a cl .int) (hj : ¬ (j < 0 ∨ cl.slots.size ≤ j.toNatClampNeg)) (hP : P a) (hd : decode B pc = .ok (.iastore, 1)) (K : ∀ h', Wr h h' a j.toNatClampNeg (.int x) → oWP b p l e R s m args below meth c P Q J h' k n (oF m (pc + 1) Ls S)) : oWP b p l e R s m args below meth c P Q J h k n (oF m pc Ls (.int x :: .int j :: .ref a :: S)) := fun T hT => by
  obtain ⟨vm0, k0, locs, ck, cn, X, eT, N, q1, q2, hS, hk0, hbv, hJ⟩ := hT
  have C' := C.rebase hS
  obtain ⟨T', h', X', e', Wr1, st⟩ := stI X C.1 C'.hZ eT A hj (g := oF m pc Ls (.int x :: .int j :: .ref a :: S)) rfl rfl (hb C.2.1 hd)
  obtain ⟨u, o, g1, g2⟩ := K h' Wr1 T' ⟨vm0, k0, _, ck, cn, X', e', N.snoc hP, q1, q2, hS, by rw [Wr1.size]; exact hk0, hbv, hJ⟩
  exact ⟨u, o, st u g1, g2⟩
theorem K_castore (C : oCx p s m meth c P Z y B ml rt) {a : Addr} {cl : Cell} {j : Int32} {x : Int32} (A : Arr Z h a cl .char) (hj : ¬ (j < 0 ∨ cl.slots.size ≤ j.toNatClampNeg)) (hP : P a) (hd : decode B pc = .ok (.castore, 1)) (K : ∀ h', Wr h h' a j.toNatClampNeg (.int (nar .char x)) → oWP b p l e R s m args below meth c P Q J h' k n (oF m (pc + 1) Ls S)) : oWP b p l e R s m args below meth c P Q J h k n (oF m pc Ls (.int x :: .int j :: .ref a :: S)) := fun T hT => by
  obtain ⟨vm0, k0, locs, ck, cn, X, eT, N, q1, q2, hS, hk0, hbv, hJ⟩ := hT
  have C' := C.rebase hS
  obtain ⟨T', h', X', e', Wr1, st⟩ := stC X C.1 C'.hZ eT A hj (g := oF m pc Ls (.int x :: .int j :: .ref a :: S)) rfl rfl (hb C.2.1 hd)
  obtain ⟨u, o, g1, g2⟩ := K h' Wr1 T' ⟨vm0, k0, _, ck, cn, X', e', N.snoc hP, q1, q2, hS, by rw [Wr1.size]; exact hk0, hbv, hJ⟩
  exact ⟨u, o, st u g1, g2⟩
theorem K_bastore (C : oCx p s m meth c P Z y B ml rt) {a : Addr} {cl : Cell} {j : Int32} {x : Int32} (A : Arr Z h a cl .byte) (hj : ¬ (j < 0 ∨ cl.slots.size ≤ j.toNatClampNeg)) (hP : P a) (hd : decode B pc = .ok (.bastore, 1)) (K : ∀ h', Wr h h' a j.toNatClampNeg (.int (nar .byte x)) → oWP b p l e R s m args below meth c P Q J h' k n (oF m (pc + 1) Ls S)) : oWP b p l e R s m args below meth c P Q J h k n (oF m pc Ls (.int x :: .int j :: .ref a :: S)) := fun T hT => by
  obtain ⟨vm0, k0, locs, ck, cn, X, eT, N, q1, q2, hS, hk0, hbv, hJ⟩ := hT
  have C' := C.rebase hS
  obtain ⟨T', h', X', e', Wr1, st⟩ := stB X C.1 C'.hZ eT A hj (g := oF m pc Ls (.int x :: .int j :: .ref a :: S)) rfl rfl (hb C.2.1 hd)
  obtain ⟨u, o, g1, g2⟩ := K h' Wr1 T' ⟨vm0, k0, _, ck, cn, X', e', N.snoc hP, q1, q2, hS, by rw [Wr1.size]; exact hk0, hbv, hJ⟩
  exact ⟨u, o, st u g1, g2⟩
theorem K_zastore (C : oCx p s m meth c P Z y B ml rt) {a : Addr} {cl : Cell} {j : Int32} {x : Int32} (A : Arr Z h a cl .boolean) (hj : ¬ (j < 0 ∨ cl.slots.size ≤ j.toNatClampNeg)) (hP : P a) (hd : decode B pc = .ok (.bastore, 1)) (K : ∀ h', Wr h h' a j.toNatClampNeg (.int (nar .boolean x)) → oWP b p l e R s m args below meth c P Q J h' k n (oF m (pc + 1) Ls S)) : oWP b p l e R s m args below meth c P Q J h k n (oF m pc Ls (.int x :: .int j :: .ref a :: S)) := fun T hT => by
  obtain ⟨vm0, k0, locs, ck, cn, X, eT, N, q1, q2, hS, hk0, hbv, hJ⟩ := hT
  have C' := C.rebase hS
  obtain ⟨T', h', X', e', Wr1, st⟩ := stZ X C.1 C'.hZ eT A hj (g := oF m pc Ls (.int x :: .int j :: .ref a :: S)) rfl rfl (hb C.2.1 hd)
  obtain ⟨u, o, g1, g2⟩ := K h' Wr1 T' ⟨vm0, k0, _, ck, cn, X', e', N.snoc hP, q1, q2, hS, by rw [Wr1.size]; exact hk0, hbv, hJ⟩
  exact ⟨u, o, st u g1, g2⟩
theorem K_lastore (C : oCx p s m meth c P Z y B ml rt) {a : Addr} {cl : Cell} {j : Int32} {x : Int64} (A : Arr Z h a cl .long) (hj : ¬ (j < 0 ∨ cl.slots.size ≤ j.toNatClampNeg)) (hP : P a) (hd : decode B pc = .ok (.lastore, 1)) (K : ∀ h', Wr h h' a j.toNatClampNeg (.long x) → oWP b p l e R s m args below meth c P Q J h' k n (oF m (pc + 1) Ls S)) : oWP b p l e R s m args below meth c P Q J h k n (oF m pc Ls (.long x :: .int j :: .ref a :: S)) := fun T hT => by
  obtain ⟨vm0, k0, locs, ck, cn, X, eT, N, q1, q2, hS, hk0, hbv, hJ⟩ := hT
  have C' := C.rebase hS
  obtain ⟨T', h', X', e', Wr1, st⟩ := stJ X C.1 C'.hZ eT A hj (g := oF m pc Ls (.long x :: .int j :: .ref a :: S)) rfl rfl (hb C.2.1 hd)
  obtain ⟨u, o, g1, g2⟩ := K h' Wr1 T' ⟨vm0, k0, _, ck, cn, X', e', N.snoc hP, q1, q2, hS, by rw [Wr1.size]; exact hk0, hbv, hJ⟩
  exact ⟨u, o, st u g1, g2⟩
end OwnKit
section OwnKit3
theorem oNarB0 : nar .boolean 0 = 0 := by decide
theorem oNarB1 : nar .boolean 1 = 1 := by decide
theorem oEqI {args : Array Value} {s : State} {t : Term} {k : Int32} (h : (Jvm.Cond.eq t (.int k)).value args s none s [] = some true) : t.eval args s none [] s = some (.int k) := by
  obtain ⟨x, y, hx, hy, hk, -⟩ := cmp_v (Or.inl h)
  cases (Term.int_eval k).symm.trans hy
  cases x with
  | int z => simp [Cond.value, hx, Term.int_eval] at h; rw [hx, h]
  | _ => simp [Kin, Value.isRef] at hk
theorem oEqR {args : Array Value} {s : State} {t u : Term} {w : Addr} (h : (Jvm.Cond.eq t u).value args s none s [] = some true) (hu : u.eval args s none [] s = some (.ref w)) : t.eval args s none [] s = some (.ref w) := by
  obtain ⟨x, y, hx, hy, hk, -⟩ := cmp_v (Or.inl h)
  cases hu.symm.trans hy
  cases x with
  | ref z => simp [Cond.value, hx, hu] at h; rw [hx, h]
  | null => simp [Cond.value, hx, hu] at h
  | _ => simp [Kin, Value.isRef] at hk
/-- a mask that is one below a power of two, then a remainder: some small natural -/
theorem oRem (x : Int32) (q : Nat) (hq : 0 < q) (hq2 : q < 2 ^ 31) : ∃ i : Nat, i < q ∧ (x &&& 2147483647) % Int32.ofNat q = Int32.ofNat i := by
  have e1 : (x &&& 2147483647).toInt = x.toInt % 2 ^ 31 := Jvm.Kit.i32_mask x 2147483647 (k := 31) (by decide) (by decide)
  have hb : 0 ≤ (x &&& 2147483647).toInt := by rw [e1]; exact Int.emod_nonneg _ (by decide)
  have e2 : (Int32.ofNat q).toInt = q := Int32.toInt_ofNat_of_lt hq2
  have e3 : ((x &&& 2147483647) % Int32.ofNat q).toInt = (x &&& 2147483647).toInt % q := by
    rw [Int32.toInt_mod, e2, Int.tmod_eq_emod_of_nonneg hb]
  refine ⟨((x &&& 2147483647).toInt % q).toNat, ?_, ?_⟩
  · have := Int.emod_lt_of_pos (x &&& 2147483647).toInt (b := (q : Int)) (by omega)
    have := Int.emod_nonneg (x &&& 2147483647).toInt (b := (q : Int)) (by omega)
    omega
  · apply Int32.toInt_inj.mp
    have h1 := Int.emod_lt_of_pos (x &&& 2147483647).toInt (b := (q : Int)) (by omega)
    have h2 := Int.emod_nonneg (x &&& 2147483647).toInt (b := (q : Int)) (by omega)
    rw [e3, Int32.toInt_ofNat_of_lt (by omega)]
    omega
theorem oAnd3 (x : Int32) : x &&& 3 = 0 ∨ x &&& 3 = 1 ∨ x &&& 3 = 2 ∨ x &&& 3 = 3 := by
  have e1 : (x &&& 3).toInt = x.toInt % 2 ^ 2 := Jvm.Kit.i32_mask x 3 (k := 2) (by decide) (by decide)
  have h1 := Int.emod_lt_of_pos x.toInt (b := 4) (by decide)
  have h2 := Int.emod_nonneg x.toInt (b := 4) (by decide)
  have : x.toInt % 2 ^ 2 = 0 ∨ x.toInt % 2 ^ 2 = 1 ∨ x.toInt % 2 ^ 2 = 2 ∨ x.toInt % 2 ^ 2 = 3 := by omega
  rcases this with q | q | q | q
  · exact Or.inl (Int32.toInt_inj.mp (by rw [e1, q]; rfl))
  · exact Or.inr (Or.inl (Int32.toInt_inj.mp (by rw [e1, q]; rfl)))
  · exact Or.inr (Or.inr (Or.inl (Int32.toInt_inj.mp (by rw [e1, q]; rfl))))
  · exact Or.inr (Or.inr (Or.inr (Int32.toInt_inj.mp (by rw [e1, q]; rfl))))
theorem oExt.tr {h1 h2 h3 : Heap} (a : Ext h1 h2) (b : Ext h2 h3) : Ext h1 h3 := ⟨Nat.le_trans a.1 b.1, fun x c q => b.2 x c (a.2 x c q)⟩
theorem oEqL {args : Array Value} {s : State} {t : Term} {k : Int64} (h : (Jvm.Cond.eq t (.long k)).value args s none s [] = some true) : t.eval args s none [] s = some (.long k) := by
  obtain ⟨x, y, hx, hy, hk, -⟩ := cmp_v (Or.inl h)
  have e : (Term.long k).eval args s none [] s = some (.long k) := rfl
  cases e.symm.trans hy
  cases x with
  | long z => simp [Cond.value, hx, e] at h; rw [hx, h]
  | _ => simp [Kin, Value.isRef] at hk
theorem oLen {args : Array Value} {s : State} {t : Term} {a : Addr} {c : Cell} {ty : FieldType} {z : Int32} (ea : t.eval args s none [] s = some (.ref a)) (A : Arr s s.heap a c ty) (h : (Jvm.Cond.eq (Term.length t) (.int z)).value args s none s [] = some true) : c.slots.size = z.toInt.toNat := by
  have h1 := oEqI h
  have h2 := Arr.fin (State.Warmed39.refl s).alike A
  simp only [Term.eval, ea, h2, Option.bind_eq_bind, Option.bind_some] at h1
  split at h1
  · rename_i hlt
    cases h1
    rw [len_toInt hlt]; simp
  · cases h1
end OwnKit3
section OwnArr
variable {b : Bool} {p : Program} {l : Launch} {e : Env} {R : Room} {s : State} {m : MethodId} {args : Array Value} {below : List Frame} {meth : Method} {c : Code} {P : Addr → Prop} {Q : Option Value → Heap → Vm → Prop} {J : Vm → Prop} {h : Heap} {k n : Nat} {Z : State} {a0 : Array Value} {y : MethodName} {B : ByteArray} {ml : Nat} {rt : Option FieldType}
variable {pc : Nat} {Ls : List Slot} {S : List Value} {h' : Heap} {a : Addr} {ty : FieldType} {vs : List Value} {i : Nat} {j : Int32}
/-- the array at a holds just vs -/
def oArr (Z : State) (h : Heap) (a : Addr) (ty : FieldType) (vs : List Value) : Prop := ∃ c : Cell, Arr Z h a c ty ∧ c.slots = Array.mk vs
theorem oArr.lt (A : oArr Z h a ty vs) : a < h.size := by obtain ⟨c, A, -⟩ := A; exact A.lt
theorem oArr.ext (A : oArr Z h a ty vs) (E : Ext h h') : oArr Z h' a ty vs := by obtain ⟨c, A, e⟩ := A; exact ⟨c, A.ext E, e⟩
theorem oArr.kp (A : oArr Z h a ty vs) (K : oKp P h h') (q : ¬ P a) : oArr Z h' a ty vs := by obtain ⟨c, A, e⟩ := A; exact ⟨c, K.arr A q, e⟩
theorem oArr.other {b : Addr} {sl : Nat} {v : Value} (A : oArr Z h a ty vs) (W : Wr h h' b sl v) (q : a ≠ b) : oArr Z h' a ty vs := by obtain ⟨c, A, e⟩ := A; exact ⟨c, A.other W q, e⟩
theorem oArr.same {v : Value} (A : oArr Z h a ty vs) (W : Wr h h' a i v) : oArr Z h' a ty (vs.set i v) := by
  obtain ⟨c, A, e⟩ := A
  refine ⟨_, A.same W, ?_⟩
  show c.slots.setIfInBounds i v = _
  rw [e]; simp
theorem oArr.new {cA : ClassId} {z : Int32} (A : Arr Z h a (newA cA ty z) ty) : oArr Z h a ty (List.replicate z.toNatClampNeg (defaultValue ty)) := ⟨_, A, by
  apply Array.ext'
  simp [newA]⟩
theorem oArr.eq {vs' : List Value} (A : oArr Z h a ty vs) (q : vs = vs') : oArr Z h a ty vs' := q ▸ A
theorem oIdx {n : Nat} (hj : j.toInt = (i : Int)) (hi : i < n) : ¬ (j < 0 ∨ n ≤ j.toNatClampNeg) ∧ j.toNatClampNeg = i := by
  have e : j.toNatClampNeg = i := by simp only [Int32.toNatClampNeg, hj]; rfl
  refine ⟨fun q => ?_, e⟩
  rcases q with q | q
  · rw [Int32.lt_iff_toInt_lt, hj] at q
    have : (0 : Int32).toInt = 0 := rfl
    omega
  · omega
theorem oAt {v : Value} (hv : vs[i]? = some v) : i < vs.length := (List.getElem?_eq_some_iff.mp hv).1
theorem K_iaload2 (C : oCx p s m meth c P Z y B ml rt) {v : Value} (i : Nat) (A : oArr Z h a .int vs) (hj : j.toInt = (i : Int)) (hv : vs[i]? = some v) (hd : decode B pc = .ok (.iaload, 1)) (K : oWP b p l e R s m args below meth c P Q J h k n (oF m (pc + 1) Ls (v :: S))) : oWP b p l e R s m args below meth c P Q J h k n (oF m pc Ls (.int j :: .ref a :: S)) := by
  obtain ⟨cl, A, e⟩ := A
  have q := oIdx (n := cl.slots.size) hj (by rw [e]; exact oAt hv)
  exact K_iaload C A q.1 (by rw [q.2, e]; simpa using hv) hd K
theorem K_caload2 (C : oCx p s m meth c P Z y B ml rt) {v : Value} (i : Nat) (A : oArr Z h a .char vs) (hj : j.toInt = (i : Int)) (hv : vs[i]? = some v) (hd : decode B pc = .ok (.caload, 1)) (K : oWP b p l e R s m args below meth c P Q J h k n (oF m (pc + 1) Ls (v :: S))) : oWP b p l e R s m args below meth c P Q J h k n (oF m pc Ls (.int j :: .ref a :: S)) := by
  obtain ⟨cl, A, e⟩ := A
  have q := oIdx (n := cl.slots.size) hj (by rw [e]; exact oAt hv)
  exact K_caload C A q.1 (by rw [q.2, e]; simpa using hv) hd K
theorem K_laload2 (C : oCx p s m meth c P Z y B ml rt) {v : Value} (i : Nat) (A : oArr Z h a .long vs) (hj : j.toInt = (i : Int)) (hv : vs[i]? = some v) (hd : decode B pc = .ok (.laload, 1)) (K : oWP b p l e R s m args below meth c P Q J h k n (oF m (pc + 1) Ls (v :: S))) : oWP b p l e R s m args below meth c P Q J h k n (oF m pc Ls (.int j :: .ref a :: S)) := by
  obtain ⟨cl, A, e⟩ := A
  have q := oIdx (n := cl.slots.size) hj (by rw [e]; exact oAt hv)
  exact K_laload C A q.1 (by rw [q.2, e]; simpa using hv) hd K
theorem K_baload2 (C : oCx p s m meth c P Z y B ml rt) {v : Value} (i : Nat) (A : oArr Z h a .byte vs) (hj : j.toInt = (i : Int)) (hv : vs[i]? = some v) (hd : decode B pc = .ok (.baload, 1)) (K : oWP b p l e R s m args below meth c P Q J h k n (oF m (pc + 1) Ls (v :: S))) : oWP b p l e R s m args below meth c P Q J h k n (oF m pc Ls (.int j :: .ref a :: S)) := by
  obtain ⟨cl, A, e⟩ := A
  have q := oIdx (n := cl.slots.size) hj (by rw [e]; exact oAt hv)
  exact K_baload C A q.1 (by rw [q.2, e]; simpa using hv) hd K
theorem K_aaload2 (C : oCx p s m meth c P Z y B ml rt) {v : Value} (i : Nat) (A : oArr Z h a ty vs) (hty : ty.isReference = true) (hj : j.toInt = (i : Int)) (hv : vs[i]? = some v) (hd : decode B pc = .ok (.aaload, 1)) (K : oWP b p l e R s m args below meth c P Q J h k n (oF m (pc + 1) Ls (v :: S))) : oWP b p l e R s m args below meth c P Q J h k n (oF m pc Ls (.int j :: .ref a :: S)) := by
  obtain ⟨cl, A, e⟩ := A
  have q := oIdx (n := cl.slots.size) hj (by rw [e]; exact oAt hv)
  exact K_aaload C A hty q.1 (by rw [q.2, e]; simpa using hv) hd K
theorem K_alen2 (C : oCx p s m meth c P Z y B ml rt) (A : oArr Z h a ty vs) (hd : decode B pc = .ok (.arraylength, 1)) (K : oWP b p l e R s m args below meth c P Q J h k n (oF m (pc + 1) Ls (.int (Int32.ofNat vs.length) :: S))) : oWP b p l e R s m args below meth c P Q J h k n (oF m pc Ls (.ref a :: S)) := by
  obtain ⟨cl, A, e⟩ := A
  refine K_arraylength C A hd ?_
  rw [e]; exact K
theorem K_iastore2 (C : oCx p s m meth c P Z y B ml rt) {x : Int32} (i : Nat) (A : oArr Z h a .int vs) (hj : j.toInt = (i : Int)) (hi : i < vs.length) (hP : P a) (hd : decode B pc = .ok (.iastore, 1)) (K : ∀ h', Wr h h' a i (.int x) → oArr Z h' a .int (vs.set i (.int x)) → oWP b p l e R s m args below meth c P Q J h' k n (oF m (pc + 1) Ls S)) : oWP b p l e R s m args below meth c P Q J h k n (oF m pc Ls (.int x :: .int j :: .ref a :: S)) := by
  obtain ⟨cl, A, e⟩ := A
  have q := oIdx (n := cl.slots.size) hj (by rw [e]; exact hi)
  refine K_iastore C A q.1 hP hd fun h' Wr1 => ?_
  rw [q.2] at Wr1
  exact K h' Wr1 (oArr.same ⟨cl, A, e⟩ Wr1)
theorem K_castore2 (C : oCx p s m meth c P Z y B ml rt) {x : Int32} (i : Nat) (A : oArr Z h a .char vs) (hj : j.toInt = (i : Int)) (hi : i < vs.length) (hP : P a) (hd : decode B pc = .ok (.castore, 1)) (K : ∀ h', Wr h h' a i (.int (nar .char x)) → oArr Z h' a .char (vs.set i (.int (nar .char x))) → oWP b p l e R s m args below meth c P Q J h' k n (oF m (pc + 1) Ls S)) : oWP b p l e R s m args below meth c P Q J h k n (oF m pc Ls (.int x :: .int j :: .ref a :: S)) := by
  obtain ⟨cl, A, e⟩ := A
  have q := oIdx (n := cl.slots.size) hj (by rw [e]; exact hi)
  refine K_castore C A q.1 hP hd fun h' Wr1 => ?_
  rw [q.2] at Wr1
  exact K h' Wr1 (oArr.same ⟨cl, A, e⟩ Wr1)
theorem K_bastore2 (C : oCx p s m meth c P Z y B ml rt) {x : Int32} (i : Nat) (A : oArr Z h a .byte vs) (hj : j.toInt = (i : Int)) (hi : i < vs.length) (hP : P a) (hd : decode B pc = .ok (.bastore, 1)) (K : ∀ h', Wr h h' a i (.int (nar .byte x)) → oArr Z h' a .byte (vs.set i (.int (nar .byte x))) → oWP b p l e R s m args below meth c P Q J h' k n (oF m (pc + 1) Ls S)) : oWP b p l e R s m args below meth c P Q J h k n (oF m pc Ls (.int x :: .int j :: .ref a :: S)) := by
  obtain ⟨cl, A, e⟩ := A
  have q := oIdx (n := cl.slots.size) hj (by rw [e]; exact hi)
  refine K_bastore C A q.1 hP hd fun h' Wr1 => ?_
  rw [q.2] at Wr1
  exact K h' Wr1 (oArr.same ⟨cl, A, e⟩ Wr1)
theorem K_zastore2 (C : oCx p s m meth c P Z y B ml rt) {x : Int32} (i : Nat) (A : oArr Z h a .boolean vs) (hj : j.toInt = (i : Int)) (hi : i < vs.length) (hP : P a) (hd : decode B pc = .ok (.bastore, 1)) (K : ∀ h', Wr h h' a i (.int (nar .boolean x)) → oArr Z h' a .boolean (vs.set i (.int (nar .boolean x))) → oWP b p l e R s m args below meth c P Q J h' k n (oF m (pc + 1) Ls S)) : oWP b p l e R s m args below meth c P Q J h k n (oF m pc Ls (.int x :: .int j :: .ref a :: S)) := by
  obtain ⟨cl, A, e⟩ := A
  have q := oIdx (n := cl.slots.size) hj (by rw [e]; exact hi)
  refine K_zastore C A q.1 hP hd fun h' Wr1 => ?_
  rw [q.2] at Wr1
  exact K h' Wr1 (oArr.same ⟨cl, A, e⟩ Wr1)
theorem K_lastore2 (C : oCx p s m meth c P Z y B ml rt) {x : Int64} (i : Nat) (A : oArr Z h a .long vs) (hj : j.toInt = (i : Int)) (hi : i < vs.length) (hP : P a) (hd : decode B pc = .ok (.lastore, 1)) (K : ∀ h', Wr h h' a i (.long x) → oArr Z h' a .long (vs.set i (.long x)) → oWP b p l e R s m args below meth c P Q J h' k n (oF m (pc + 1) Ls S)) : oWP b p l e R s m args below meth c P Q J h k n (oF m pc Ls (.long x :: .int j :: .ref a :: S)) := by
  obtain ⟨cl, A, e⟩ := A
  have q := oIdx (n := cl.slots.size) hj (by rw [e]; exact hi)
  refine K_lastore C A q.1 hP hd fun h' Wr1 => ?_
  rw [q.2] at Wr1
  exact K h' Wr1 (oArr.same ⟨cl, A, e⟩ Wr1)
theorem K_newarray2 (C : oCx p s m meth c P Z y B ml rt) {aty : ArrayType} {z : Int32} (len cap : Nat) (w : (Jvm.Cond.arrayClass (newarray.typeOf aty)).before a0 Z = true) (hd : decode B pc = .ok (.newarray aty, 2)) (hz : z.toInt = (len : Int)) (hcap : len ≤ cap) (hb8 : cap * 8 ≤ 536870912) (hk : k + 1 ≤ R.cells) (hn : n + cap ≤ R.slots)
    (K : ∀ h' a, a = h.size → P a → Ext h h' → oArr Z h' a (newarray.typeOf aty) (List.replicate len (defaultValue (newarray.typeOf aty))) → oWP b p l e R s m args below meth c P Q J h' (k + 1) (n + cap) (oF m (pc + 2) Ls (.ref a :: S))) : oWP b p l e R s m args below meth c P Q J h k n (oF m pc Ls (.int z :: S)) := by
  have e : z.toNatClampNeg = len := by simp only [Int32.toNatClampNeg, hz]; rfl
  refine K_newarray C (cap := cap) w hd (fun q => ?_) (e ▸ hcap) hb8 hk hn fun h' a cA ha hPa E A => K h' a ha hPa E ?_
  · rw [Int32.lt_iff_toInt_lt, hz] at q
    have : (0 : Int32).toInt = 0 := rfl
    omega
  · have := oArr.new A
    rwa [e] at this
end OwnArr
section OwnStr
theorem oOf (i : Nat) (h : i < 2 ^ 31) : (Int32.ofNat i).toInt = i := Int32.toInt_ofNat_of_lt h
theorem oOfLt {i n : Nat} (hi : i < 2 ^ 31) (hn : n < 2 ^ 31) : (Int32.ofNat i < Int32.ofNat n) ↔ i < n := by
  rw [Int32.lt_iff_toInt_lt, oOf i hi, oOf n hn]; omega
theorem oOfEq {i n : Nat} (hi : i < 2 ^ 31) (hn : n < 2 ^ 31) : (Int32.ofNat i = Int32.ofNat n) ↔ i = n := by
  constructor
  · intro q
    have := congrArg Int32.toInt q
    rw [oOf i hi, oOf n hn] at this; omega
  · intro q; rw [q]
theorem oOfS (i : Nat) : Int32.ofNat i + 1 = Int32.ofNat (i + 1) := (Int32.ofNat_add i 1).symm
/-- a char's number -/
def oChr (u : Int32) : Prop := 0 ≤ u.toInt ∧ u.toInt < 65536
def oSmall (u : Int32) : Prop := ¬ (255 : Int32) < u
def oLob (u : Int32) : Int32 := u.toInt8.toInt32
def oHib (u : Int32) : Int32 := (u >>> ((8 : Int32) &&& 31)).toInt8.toInt32
theorem oNarLob (u : Int32) : nar .byte (u.toInt8.toInt32) = u.toInt8.toInt32 := by simp [nar]
abbrev oLv (u : Int32) : Value := .int (oLob u)
abbrev oLH (u : Int32) : List Value := [.int (oLob u), .int (oHib u)]
theorem oSetL {α β : Type} {us : List α} {f : α → β} {d : β} {i : Nat} {u : α} (hu : us[i]? = some u) : ((us.take i).map f ++ List.replicate (us.length - i) d).set i (f u) = (us.take (i + 1)).map f ++ List.replicate (us.length - (i + 1)) d := by
  obtain ⟨hi, e⟩ := List.getElem?_eq_some_iff.mp hu
  have e1 : us.length - i = (us.length - (i + 1)) + 1 := by omega
  have e2 : ((us.take i).map f).length = i := by simp; omega
  rw [List.set_append_right _ _ (by omega), e2, Nat.sub_self, e1, List.replicate_succ, List.set_cons_zero, List.take_add_one, hu]
  simp
/-- how a String's chars lie in its bytes -/
def oEnc (us : List Int32) (cd : Int32) (bs : List Value) : Prop :=
  (cd = 0 ∧ (∀ u ∈ us, oSmall u) ∧ bs = us.map oLv) ∨ (cd = 1 ∧ (∃ u ∈ us, ¬ oSmall u) ∧ bs = us.flatMap oLH)
/-- the object at a is a String of the chars us -/
def oStr (Z : State) (h : Heap) (a : Addr) (us : List Int32) : Prop :=
  Exa Z h a "java/lang/String" ∧ (∀ u ∈ us, oChr u) ∧ ∃ (b : Addr) (cd : Int32) (bs : List Value), Fld Z h a "java/lang/String" "value" "[B" (.ref b) ∧ Fld Z h a "java/lang/String" "coder" "B" (.int cd) ∧ oArr Z h b .byte bs ∧ oEnc us cd bs
theorem oStr.ext {Z : State} {h h' : Heap} {a : Addr} {us : List Int32} (F : oStr Z h a us) (E : Ext h h') : oStr Z h' a us := by
  obtain ⟨X, c, b, cd, bs, f1, f2, A, e⟩ := F
  exact ⟨X.ext E, c, b, cd, bs, f1.ext E, f2.ext E, A.ext E, e⟩
/-- null or a String of the chars us -/
def oOStr (Z : State) (h : Heap) (v : Value) (us : List Int32) : Prop := v = .null ∨ ∃ a, v = .ref a ∧ oStr Z h a us
theorem oOStr.ext {Z : State} {h h' : Heap} {v : Value} {us : List Int32} (F : oOStr Z h v us) (E : Ext h h') : oOStr Z h' v us := F.imp id fun ⟨a, e, q⟩ => ⟨a, e, q.ext E⟩
theorem oOStr.ref {Z : State} {h : Heap} {v : Value} {us : List Int32} (F : oOStr Z h v us) : v.isRef = true := by
  rcases F with rfl | ⟨a, rfl, -⟩ <;> rfl
theorem oFitR {v : Value} {n : String} (hv : v.isRef = true) : fits (.object n) v = true := by rcases ref_cases hv with rfl | ⟨_, rfl⟩ <;> rfl
theorem oNarR {v : Value} {n : String} : narrow (.object n) v = v := by cases v <;> rfl
theorem oOne {v : Value} (hv : v.isRef = true) : Slot.val v = .unset ∨ ∃ w, Slot.val v = .val w ∧ w.category = 1 := XT.slot1 hv
/-- equal bytes: equal chars -/
theorem oLobInj {u w : Int32} (hu : oChr u) (hw : oChr w) (su : oSmall u) (sw : oSmall w) (e : oLob u = oLob w) : u = w := by
  have e1 : (oLob u).toInt = (oLob w).toInt := by rw [e]
  simp only [oLob, Int8.toInt_toInt32, Int32.toInt_toInt8] at e1
  have a1 : ¬ (255 : Int) < u.toInt := fun q => su (by rw [Int32.lt_iff_toInt_lt]; exact q)
  have a2 : ¬ (255 : Int) < w.toInt := fun q => sw (by rw [Int32.lt_iff_toInt_lt]; exact q)
  apply Int32.toInt_inj.mp
  obtain ⟨h1, h2⟩ := hu
  obtain ⟨h3, h4⟩ := hw
  rw [Int.bmod_def, Int.bmod_def] at e1
  omega
theorem oSmallI {u : Int32} (h : u.toInt ≤ 255) : oSmall u := fun q => by
  rw [Int32.lt_iff_toInt_lt] at q
  have : (255 : Int32).toInt = 255 := rfl
  omega
/-- the low byte of an int, as a char -/
theorem oMask (x : Int32) : oChr (x &&& 255) ∧ oSmall (x &&& 255) ∧ (x &&& 255).toUInt32.toUInt16.toUInt32.toInt32 = x &&& 255 := by
  have e1 : (x &&& 255).toInt = x.toInt % 2 ^ 8 := Jvm.Kit.i32_mask x 255 (k := 8) (by decide) (by decide)
  have h1 := Int.emod_lt_of_pos x.toInt (b := 256) (by decide)
  have h2 := Int.emod_nonneg x.toInt (b := 256) (by decide)
  exact ⟨⟨by omega, by omega⟩, oSmallI (by omega), i2c_mask x⟩
theorem oNarC {u : Int32} (h : u.toUInt32.toUInt16.toUInt32.toInt32 = u) : nar .char u = u := h
end OwnStr
section OwnStr2
theorem oLobMap {us ws : List Int32} (hu : ∀ u ∈ us, oChr u) (hw : ∀ u ∈ ws, oChr u) (su : ∀ u ∈ us, oSmall u) (sw : ∀ u ∈ ws, oSmall u) : us.map oLob = ws.map oLob ↔ us = ws := by
  refine ⟨fun q => ?_, fun q => by rw [q]⟩
  induction us generalizing ws with
  | nil => cases ws with
    | nil => rfl
    | cons w t => simp at q
  | cons u t ih => cases ws with
    | nil => simp at q
    | cons w t' =>
      simp only [List.map_cons, List.cons.injEq] at q
      rw [oLobInj (hu u (by simp)) (hw w (by simp)) (su u (by simp)) (sw w (by simp)) q.1, ih (fun x hx => hu x (by simp [hx])) (fun x hx => hw x (by simp [hx])) (fun x hx => su x (by simp [hx])) (fun x hx => sw x (by simp [hx])) q.2]
theorem oStr.inj {Z : State} {h : Heap} {a : Addr} {us ws : List Int32} (F : oStr Z h a us) (G : oStr Z h a ws) (su : ∀ u ∈ us, oSmall u) (sw : ∀ u ∈ ws, oSmall u) : us = ws := by
  obtain ⟨-, hu, b1, c1, l1, V1, -, A1, e1⟩ := F
  obtain ⟨-, hw, b2, c2, l2, V2, -, A2, e2⟩ := G
  obtain ⟨-, -, rfl⟩ := e1.resolve_right (fun q => by obtain ⟨u, q1, q2⟩ := q.2.1; exact q2 (su u q1))
  obtain ⟨-, -, rfl⟩ := e2.resolve_right (fun q => by obtain ⟨u, q1, q2⟩ := q.2.1; exact q2 (sw u q1))
  have e : b1 = b2 := by
    obtain ⟨k1, _, _, _, _, p1, p2, -, -, -, -, p7⟩ := V1
    obtain ⟨k2, _, _, _, _, r1, r2, -, -, -, -, r7⟩ := V2
    cases p1.symm.trans r1; cases p2.symm.trans r2
    exact Value.ref.inj (Option.some.inj (p7.symm.trans r7))
  subst e
  obtain ⟨k1, ⟨p1, -⟩, p2⟩ := A1
  obtain ⟨k2, ⟨r1, -⟩, r2⟩ := A2
  cases p1.symm.trans r1
  have e3 := congrArg Array.toList (p2.symm.trans r2)
  have e4 : us.map oLob = ws.map oLob := by
    have e5 : (us.map oLob).map Value.int = (ws.map oLob).map Value.int := by rw [List.map_map, List.map_map]; exact e3
    exact (List.map_inj_right (fun x y q => Value.int.inj q)).mp e5
  exact (oLobMap hu hw su sw).mp e4
theorem oNC (x : Int32) : nar .char ((x &&& 255).toUInt32.toUInt16.toUInt32.toInt32) = x &&& 255 := by
  rw [(oMask x).2.2]; exact (oMask x).2.2
end OwnStr2
section OwnD
variable {b : Bool} {p : Program} {l : Launch} {e : Env} {R : Room} {s : State} {m : MethodId} {args : Array Value} {below : List Frame} {meth : Method} {c : Code} {P : Addr → Prop} {Q : Option Value → Heap → Vm → Prop} {J : Vm → Prop} {h : Heap} {k n : Nat} {Z : State} {a0 : Array Value} {y : MethodName} {B : ByteArray} {ml : Nat} {rt : Option FieldType}
variable {pc : Nat} {Ls : List Slot} {S : List Value} {h' : Heap} {a : Addr} {ty : FieldType} {vs : List Value} {i : Nat} {j : Int32}
theorem K_dloadN (C : oCx p s m meth c P Z y B ml rt) {i : Fin 4} {v : UInt64} (hd : decode B pc = .ok (.dload_n i, 1)) (hl : (Array.mk Ls)[i.val]? = some (.val (.double v))) (K : oWP b p l e R s m args below meth c P Q J h k n (oF m (pc + 1) Ls (.double v :: S))) : oWP b p l e R s m args below meth c P Q J h k n (oF m pc Ls S) := K.step fun _ A _ => XS.dloadN A C.1 rfl (hb C.2.1 hd) hl
theorem K_dload (C : oCx p s m meth c P Z y B ml rt) {i : Nat} {v : UInt64} (hd : decode B pc = .ok (.dload i, 2)) (hl : (Array.mk Ls)[i]? = some (.val (.double v))) (K : oWP b p l e R s m args below meth c P Q J h k n (oF m (pc + 2) Ls (.double v :: S))) : oWP b p l e R s m args below meth c P Q J h k n (oF m pc Ls S) := K.step fun _ A _ => XS.dload A C.1 rfl (hb C.2.1 hd) hl
theorem K_dstoreN (C : oCx p s m meth c P Z y B ml rt) {i : Fin 4} {v : UInt64} {Ls' : List Slot} (hd : decode B pc = .ok (.dstore_n i, 1)) (hl : storeLocals (Array.mk Ls) i.val (.double v) = some (Array.mk Ls')) (K : oWP b p l e R s m args below meth c P Q J h k n (oF m (pc + 1) Ls' S)) : oWP b p l e R s m args below meth c P Q J h k n (oF m pc Ls (.double v :: S)) := K.step fun _ A _ => XS.dstoreN A C.1 rfl (hb C.2.1 hd) rfl hl
theorem K_dstore (C : oCx p s m meth c P Z y B ml rt) {i : Nat} {v : UInt64} {Ls' : List Slot} (hd : decode B pc = .ok (.dstore i, 2)) (hl : storeLocals (Array.mk Ls) i (.double v) = some (Array.mk Ls')) (K : oWP b p l e R s m args below meth c P Q J h k n (oF m (pc + 2) Ls' S)) : oWP b p l e R s m args below meth c P Q J h k n (oF m pc Ls (.double v :: S)) := K.step fun _ A _ => XS.dstore A C.1 rfl (hb C.2.1 hd) rfl hl
/-- i2d: some double -/
theorem K_i2d (C : oCx p s m meth c P Z y B ml rt) {x : Int32} (hd : decode B pc = .ok (.i2d, 1)) (K : ∀ v : UInt64, oWP b p l e R s m args below meth c P Q J h k n (oF m (pc + 1) Ls (.double v :: S))) : oWP b p l e R s m args below meth c P Q J h k n (oF m pc Ls (.int x :: S)) := (K _).step fun _ A _ => XS.i2dS A C.1 rfl (hb C.2.1 hd) rfl rfl
/-- dcmpg, dcmpl: some int -/
theorem K_dcmp (C : oCx p s m meth c P Z y B ml rt) {o : CmpOp} {x w : UInt64} (hd : decode B pc = .ok (.dcmp o, 1)) (K : ∀ v : Int32, oWP b p l e R s m args below meth c P Q J h k n (oF m (pc + 1) Ls (.int v :: S))) : oWP b p l e R s m args below meth c P Q J h k n (oF m pc Ls (.double w :: .double x :: S)) := (K _).step fun _ A _ => XS.dcmpS A C.1 rfl (hb C.2.1 hd) rfl rfl
theorem K_daload (C : oCx p s m meth c P Z y B ml rt) {a : Addr} {cl : Cell} {j : Int32} {v : Value} (A : Arr Z h a cl .double) (hj : ¬ (j < 0 ∨ cl.slots.size ≤ j.toNatClampNeg)) (hv : cl.slots[j.toNatClampNeg]? = some v) (hd : decode B pc = .ok (.daload, 1)) (K : oWP b p l e R s m args below meth c P Q J h k n (oF m (pc + 1) Ls (v :: S))) : oWP b p l e R s m args below meth c P Q J h k n (oF m pc Ls (.int j :: .ref a :: S)) := K.law C fun _ C T _ _ _ X eT => ⟨T, X, eT, X.daload C.1 (by rw [eT]; exact A.1) (State.isArrayOf_alike C.hZ.alike A.2.1) A.2.2 hj hv (g := oF m pc Ls (.int j :: .ref a :: S)) rfl rfl (hb C.2.1 hd)⟩
theorem K_daload2 (C : oCx p s m meth c P Z y B ml rt) {v : Value} (i : Nat) (A : oArr Z h a .double vs) (hj : j.toInt = (i : Int)) (hv : vs[i]? = some v) (hd : decode B pc = .ok (.daload, 1)) (K : oWP b p l e R s m args below meth c P Q J h k n (oF m (pc + 1) Ls (v :: S))) : oWP b p l e R s m args below meth c P Q J h k n (oF m pc Ls (.int j :: .ref a :: S)) := by
  obtain ⟨cl, A, e⟩ := A
  have q := oIdx (n := cl.slots.size) hj (by rw [e]; exact oAt hv)
  exact K_daload C A q.1 (by rw [q.2, e]; simpa using hv) hd K
theorem K_dastore (C : oCx p s m meth c P Z y B ml rt) {a : Addr} {cl : Cell} {j : Int32} {x : UInt64} (A : Arr Z h a cl .double) (hj : ¬ (j < 0 ∨ cl.slots.size ≤ j.toNatClampNeg)) (hP : P a) (hd : decode B pc = .ok (.dastore, 1)) (K : ∀ h', Wr h h' a j.toNatClampNeg (.double x) → oWP b p l e R s m args below meth c P Q J h' k n (oF m (pc + 1) Ls S)) : oWP b p l e R s m args below meth c P Q J h k n (oF m pc Ls (.double x :: .int j :: .ref a :: S)) := fun T hT => by
  obtain ⟨vm0, k0, locs, ck, cn, X, eT, N, q1, q2, hS, hk0, hbv, hJ⟩ := hT
  have C' := C.rebase hS
  obtain ⟨T', h', X', e', Wr1, st⟩ := stD X C.1 C'.hZ eT A hj (g := oF m pc Ls (.double x :: .int j :: .ref a :: S)) rfl rfl (hb C.2.1 hd)
  obtain ⟨u, o, g1, g2⟩ := K h' Wr1 T' ⟨vm0, k0, _, ck, cn, X', e', N.snoc hP, q1, q2, hS, by rw [Wr1.size]; exact hk0, hbv, hJ⟩
  exact ⟨u, o, st u g1, g2⟩
theorem K_dastore2 (C : oCx p s m meth c P Z y B ml rt) {x : UInt64} (i : Nat) (A : oArr Z h a .double vs) (hj : j.toInt = (i : Int)) (hi : i < vs.length) (hP : P a) (hd : decode B pc = .ok (.dastore, 1)) (K : ∀ h', Wr h h' a i (.double x) → oArr Z h' a .double (vs.set i (.double x)) → oWP b p l e R s m args below meth c P Q J h' k n (oF m (pc + 1) Ls S)) : oWP b p l e R s m args below meth c P Q J h k n (oF m pc Ls (.double x :: .int j :: .ref a :: S)) := by
  obtain ⟨cl, A, e⟩ := A
  have q := oIdx (n := cl.slots.size) hj (by rw [e]; exact hi)
  refine K_dastore C A q.1 hP hd fun h' Wr1 => ?_
  rw [q.2] at Wr1
  exact K h' Wr1 (oArr.same ⟨cl, A, e⟩ Wr1)
/-- a private method is its own choice -/
theorem oSelP {s : State} {args : Array Value} {C1 : String} {z z1 : MethodName} (ws : (Jvm.Cond.selects C1 z1 z1).before args s = true) (e : z1.cls = z.cls) (hp : s.PrivateAt z) (hi : (Jvm.Cond.instanceMethod z).before args s = true) (hy : z.cls ≠ "java/lang/invoke/MethodHandle" ∧ z.cls ≠ "java/lang/invoke/VarHandle") : (Jvm.Cond.selects z.cls z z).before args s = true := by
  obtain ⟨c2, r2, m2, q1, q2, q3, q4, kP, hkP, hkPi⟩ := Cond.selects_spec ws
  exact selects_self_of_private (by rw [← e]; exact findClass_of_methodNamed q3) hkP hkPi hp hi hy
/-- the class of z is no interface -/
def oSelf (Z : State) (z : MethodName) : Prop := ∀ (s : State) (args : Array Value), s.PrivateAt z → (Jvm.Cond.instanceMethod z).before args s = true → Z.Warmed39 s.vm → (z.cls ≠ "java/lang/invoke/MethodHandle" ∧ z.cls ≠ "java/lang/invoke/VarHandle") → (Jvm.Cond.selects z.cls z z).before args s = true
theorem oSelf.of {C1 : String} {z z1 : MethodName} (ws : (Jvm.Cond.selects C1 z1 z1).before a0 Z = true) (e : z1.cls = z.cls) : oSelf Z z := fun s args hp hi hZ hy => oSelP (mvT hZ ws) e hp hi hy
theorem oSelf.inst {z : MethodName} {kk : Nat} (wi : (Jvm.Cond.instantiable z.cls kk).before a0 Z = true) : oSelf Z z := fun s args hp hi hZ hy => by
  obtain ⟨c, k, hc, hk, -, hf, -⟩ := Cond.instantiable_spec (show (Jvm.Cond.instantiable z.cls kk).before args s = true from mvT hZ wi)
  simp only [Bool.or_eq_false_iff] at hf
  exact selects_self_of_private hc hk hf.1 hp hi hy
theorem K_private (C : oCx p s m meth c P Z y B ml rt) {idx : Nat} {z : MethodName} {B' : ByteArray} {ml' : Nat} {rt' : Option FieldType} {rm : Room} {as' : Array Value} {P' : Addr → Prop} {Q' : Option Value → Heap → Prop} {argsL rest : List Value} {ps : List FieldType} {rr : Option FieldType} (M : oMeets l Z z B' ml' rt' rm as' h P' Q') {a : Addr} {Cn : String} (E : Exa Z h a Cn) (w1 : (Jvm.Cond.methodLink y.cls idx z).before a0 Z = true) (hse : oSelf Z z) (wp : (Jvm.Cond.privateMethod z).before a0 Z = true) (w2 : (Jvm.Cond.instanceMethod z).before a0 Z = true) (w3 : (Jvm.Cond.initialized z.cls).before a0 Z = true) (w4 : (Jvm.Cond.code z B' ml' rt').before a0 Z = true) (hy : z.cls ≠ "java/lang/invoke/MethodHandle" ∧ z.cls ≠ "java/lang/invoke/VarHandle") (hpd : parseMethodDescriptor z.desc = some ⟨ps, rr⟩) (hd : decode B pc = .ok (.invokevirtual idx, 3)) (hS : S = argsL.reverse ++ .ref a :: rest) (hlen : argsL.length = ps.length) (ha : (.ref a :: argsL).toArray = as') (hml : Ls.length = ml) (hP : ∀ a, s.heap.size ≤ h.size → P' a → P a) (hf : rm.frames + 1 ≤ R.frames) (hl : (rest.map fun v => v.category).sum + (ml' + 11) + rm.locals ≤ R.locals) (hk : k + rm.cells ≤ R.cells) (hn : n + rm.slots ≤ R.slots)
    (K : ∀ v h', Q' v h' → oKp P' h h' → oWP b p l e R s m args below meth c P Q J h' (k + rm.cells) (n + rm.slots) (oF m (pc + 3) Ls (v.toList ++ rest))) : oWP b p l e R s m args below meth c P Q J h k n (oF m pc Ls S) := fun T hT => by
  obtain ⟨hE, hle, -⟩ := oSd.old C hT
  obtain ⟨vm0, k0, locs, ck, cn, X, eT, N, q1, q2, hSi, hk0, hbv, hJ⟩ := hT
  subst hS
  have C' := C.rebase hSi
  obtain ⟨cq, qa, qc⟩ := E.cell
  obtain ⟨v, vm₁, ⟨T', L', k', n'⟩, -, X', ⟨Lc, ⟨hQ, hN, hK⟩, e1, e2, e3⟩, st⟩ := X.privateBack C.1 (y := z) C'.own (mvT C'.hZ w1) (mvT C'.hZ w2) (hse _ _ (Cond.privateMethod_at (mvP C'.hZ wp (args := #[]))) (mvT C'.hZ w2) C'.hZ hy) (Cond.privateMethod_at (mvP C'.hZ wp (args := #[]))) (mvT C'.hZ w4) hy (backOf (W := (rest.map fun v => v.category).sum) (Q := fun v h' L => Q' v h' ∧ oAl P' L ∧ oKp P' h h') (M hE []) C'.hZ w4 w3 hf hl) (g := oF m pc Ls (argsL.reverse ++ .ref a :: rest)) rfl (by rw [C.hml]; exact hml) (Steps.refl _) (a := a) (by rw [eT]; exact qa) qc (argsL := argsL) (rest := rest) (lenOf hpd hlen) rfl (by show 2 * 0 + _ ≤ _; exact Nat.le_of_eq (Nat.zero_add _)) (hb C.2.1 hd) (fun vm₁ hw₁ => ⟨ha, eT, by show ck + _ ≤ _; omega, by show cn + _ ≤ _; omega⟩)
  dsimp only [Pt.U, Pt.locs, Pt.cells, Pt.slots] at X' e1 e2 e3 st hQ hK
  subst e1 e2 e3
  obtain ⟨u, o, g1, g2⟩ := K v T'.heap hQ hK T' ⟨vm0, k0, _, _, _, X', rfl, N.app fun q hq => hP _ hle (hN q hq), by omega, by omega, hSi, Nat.le_trans hk0 hK.1, hbv, hJ⟩
  exact ⟨u, o, st.trans g1, g2⟩
/-- System.arraycopy(src, 0, dst, 0, n) of ints -/
theorem K_arraycopyI (C : oCx p s m meth c P Z y B ml rt) {idx : Nat} {src dst : Addr} {xs ds : List Int32} {z : Int32} (len : Nat) (A : oArr Z h src .int (xs.map Value.int)) (D : oArr Z h dst .int (ds.map Value.int)) (hz : z.toInt = (len : Int)) (h1 : len ≤ xs.length) (h2 : len ≤ ds.length) (hP : P dst) (w1 : (Jvm.Cond.methodLink y.cls idx Jvm.Stand.acN).before a0 Z = true) (w2 : (Jvm.Cond.native Jvm.Stand.acN).before a0 Z = true) (w3 : (Jvm.Cond.static Jvm.Stand.acN).before a0 Z = true) (w4 : (Jvm.Cond.initialized "java/lang/System").before a0 Z = true) (hd : decode B pc = .ok (.invokestatic idx, 3)) (hml : Ls.length = ml) (hf : 1 ≤ R.frames) (hl : (S.map fun v => v.category).sum + (nativeFrameWords "java/lang/System" "arraycopy" 5 + 11) ≤ R.locals)
    (K : ∀ h', h'.size = h.size → (∀ x, x ≠ dst → h'[x]? = h[x]?) → oArr Z h' dst .int ((xs.take len ++ ds.drop len).map Value.int) → oWP b p l e R s m args below meth c P Q J h' k n (oF m (pc + 3) Ls S)) : oWP b p l e R s m args below meth c P Q J h k n (oF m pc Ls (.int z :: .int 0 :: .ref dst :: .int 0 :: .ref src :: S)) := fun T hT => by
  obtain ⟨vm0, k0, locs, ck, cn, X, eT, N, q1, q2, hSi, hk0, hbv, hJ⟩ := hT
  have C' := C.rebase hSi
  obtain ⟨ca, ⟨a1, a2, a3⟩, ea⟩ := A
  obtain ⟨cd, ⟨d1, d2, d3⟩, ed⟩ := D
  obtain ⟨as1, ks, hks, sC, hsk⟩ := State.isArrayOf_alike C'.hZ.alike a2
  obtain ⟨ds1, kd, hkd, dC, hdk⟩ := State.isArrayOf_alike C'.hZ.alike d2
  have ez : z.toNatClampNeg = len := by simp only [Int32.toNatClampNeg, hz]; rfl
  have la : ca.slots.size = xs.length := by rw [ea]; simp
  have ld : cd.slots.size = ds.length := by rw [ed]; simp
  have e0 : (0 : Int32).toInt = 0 := rfl
  have ec : (0 : Int32).toNatClampNeg = 0 := rfl
  have gv : ∀ i, i < len → ∃ x, xs[i]? = some x ∧ ca.slots.getD i .null = .int x := fun i hi => by
    have hx : xs[i]? = some (xs[i]'(by omega)) := List.getElem?_eq_getElem _
    refine ⟨_, hx, ?_⟩
    rw [ea]
    simp only [Array.getD_eq_getD_getElem?, List.getElem?_toArray, List.getElem?_map, hx]
    rfl
  obtain ⟨vm₁, hW, X', st⟩ := X.arraycopyK C.1 C'.own (mvT C'.hZ w1) (mvT C'.hZ w2) (mvT C'.hZ w3) (mvT C'.hZ w4) (src := src) (dst := dst) (srcPos := 0) (destPos := 0) (n := z) (by rw [eT]; exact a1) (by rw [eT]; exact d1) as1 ds1 a3 d3 hks hkd hsk hdk (by decide) (by decide) (by decide) (fun q => by rw [Int32.lt_iff_toInt_lt, e0, hz] at q; omega) (by rw [e0, hz, la]; omega) (by rw [e0, hz, ld]; omega) (fun vm' _ i hi => by
    rw [ez] at hi
    rw [ec, Nat.zero_add]
    obtain ⟨x, -, e⟩ := gv i hi
    rw [e]
    exact ⟨rfl, trivial⟩) (g := oF m pc Ls (.int z :: .int 0 :: .ref dst :: .int 0 :: .ref src :: S)) rfl (by rw [C.hml]; exact hml) rfl (hb C.2.1 hd) hf (by show 2 * 0 + _ + _ ≤ _; omega)
  have hF := Cell.storeRun_facts cd (0 : Int32).toNatClampNeg (ca.stretch (0 : Int32).toNatClampNeg z.toNatClampNeg)
  have hS : (copied ca cd 0 0 z).slots = Array.mk ((xs.take len ++ ds.drop len).map Value.int) := by
    apply Array.ext_getElem?
    intro i
    show (cd.storePairs (0 : Int32).toNatClampNeg ((ca.stretch (0 : Int32).toNatClampNeg z.toNatClampNeg).zipIdx 0)).slots[i]? = _
    rw [Cell.storePairs_get cd _ _ 0 i (by rw [Cell.stretch_length, ec, ez, ld]; omega), Cell.stretch_length, ec, ez]
    simp only [Nat.zero_add, Nat.zero_le, true_and, Nat.sub_zero, List.getElem?_toArray, List.getElem?_map]
    split
    · rename_i hi
      obtain ⟨x, e1, e2⟩ := gv i hi
      rw [List.getElem?_append_left (by rw [List.length_take]; omega), List.getElem?_take_of_lt hi, e1]
      simp only [Cell.stretch, List.getElem?_map, List.getElem?_range hi, Option.map_some, Nat.zero_add, e2]
    · rename_i hi
      have lt : (xs.take len).length = len := by rw [List.length_take]; omega
      rw [ed, List.getElem?_append_right (by omega), lt, List.getElem?_drop, show len + (i - len) = i by omega]
      simp
  have hdl : dst < h.size := (Array.getElem?_eq_some_iff.mp d1).1
  have eH : (((T.setVm vm₁).setCell dst (copied ca cd 0 0 z))).heap = h.setIfInBounds dst (copied ca cd 0 0 z) := by rw [← eT]; rfl
  obtain ⟨u, o, g1, g2⟩ := K (h.setIfInBounds dst (copied ca cd 0 0 z)) (by rw [Array.size_setIfInBounds]) (fun x hx => Array.getElem?_setIfInBounds_ne (Ne.symm hx)) ⟨copied ca cd 0 0 z, ⟨by rw [Array.getElem?_setIfInBounds_self_of_lt hdl], ⟨by rw [show (copied ca cd 0 0 z).vm = cd.vm from hF.2.1]; exact d2.1, by rw [show (copied ca cd 0 0 z).cls = cd.cls from hF.1]; exact d2.2⟩, by rw [show (copied ca cd 0 0 z).vm = cd.vm from hF.2.1]; exact d3⟩, hS⟩ _ ⟨vm0, k0, _, ck, cn, X', eH, N.app fun q hq => by rw [Jvm.Stand.copyLocs_base hq]; exact hP, q1, q2, hSi, by rw [Array.size_setIfInBounds]; exact hk0, hbv, hJ⟩
  exact ⟨u, o, st u g1, g2⟩
end OwnD
section OwnO
variable {b : Bool} {p : Program} {l : Launch} {e : Env} {R : Room} {s : State} {m : MethodId} {args : Array Value} {below : List Frame} {meth : Method} {c : Code} {P : Addr → Prop} {Q : Option Value → Heap → Vm → Prop} {J : Vm → Prop} {h : Heap} {k n : Nat} {Z : State} {a0 : Array Value} {y : MethodName} {B : ByteArray} {ml : Nat} {rt : Option FieldType}
variable {pc : Nat} {Ls : List Slot} {S : List Value} {h' : Heap} {a : Addr} {vs : List Value} {i : Nat} {j : Int32}
theorem oPop2 {tb : Tables} [Ours tb] {e : Env} {below : List Frame} {T target : State} {m : MethodId} {c : Code} {g : JFrame} (h : At T m c below) (hx : tb.exec = Jvm.exec) (hg : g.method = m) {x : Int64} {rest : List Value} (hd : decode c.code g.pc = .ok (.pop2, 1)) (hs : g.stack = .long x :: rest)
    (hr : Steps tb e below (T.setTop { g with pc := g.pc + 1, stack := rest }) target) : Steps tb e below (T.setTop g) target := by
  subst hg
  jvm_step h [h.top, hx, hd, hs, Value.category]
  exact hr
theorem K_pop2 (C : oCx p s m meth c P Z y B ml rt) {x : Int64} (hd : decode B pc = .ok (.pop2, 1)) (K : oWP b p l e R s m args below meth c P Q J h k n (oF m (pc + 1) Ls S)) : oWP b p l e R s m args below meth c P Q J h k n (oF m pc Ls (.long x :: S)) := K.step fun _ A _ => oPop2 A C.1 rfl (hb C.2.1 hd) rfl
/-- an array of objects of the class Cn, that may be stored into -/
def oArO (Z : State) (h : Heap) (a : Addr) (Cn : String) (vs : List Value) : Prop := ∃ c : Cell, Arr Z h a c (.object Cn) ∧ c.slots = Array.mk vs ∧ Ovr Z c.cls Cn
theorem oArO.arr {Cn : String} (A : oArO Z h a Cn vs) : oArr Z h a (.object Cn) vs := by obtain ⟨c, A, e, -⟩ := A; exact ⟨c, A, e⟩
theorem oArO.ext {Cn : String} (A : oArO Z h a Cn vs) (E : Ext h h') : oArO Z h' a Cn vs := by obtain ⟨c, A, e, o⟩ := A; exact ⟨c, A.ext E, e, o⟩
theorem oArO.kp {Cn : String} (A : oArO Z h a Cn vs) (K : oKp P h h') (q : ¬ P a) : oArO Z h' a Cn vs := by obtain ⟨c, A, e, o⟩ := A; exact ⟨c, K.arr A q, e, o⟩
theorem oArO.other {Cn : String} {b : Addr} {sl : Nat} {v : Value} (A : oArO Z h a Cn vs) (W : Wr h h' b sl v) (q : a ≠ b) : oArO Z h' a Cn vs := by obtain ⟨c, A, e, o⟩ := A; exact ⟨c, A.other W q, e, o⟩
theorem oArO.same {Cn : String} {v : Value} (A : oArO Z h a Cn vs) (W : Wr h h' a i v) : oArO Z h' a Cn (vs.set i v) := by
  obtain ⟨c, A, e, o⟩ := A
  refine ⟨_, A.same W, ?_, o⟩
  show c.slots.setIfInBounds i v = _
  rw [e]; simp
/-- two arrays of two types are two -/
theorem oArr.ne {b : Addr} {t1 t2 : FieldType} {ws : List Value} (A : oArr Z h a t1 vs) (D : oArr Z h b t2 ws) (ht : t1 ≠ t2) : a ≠ b := by
  rintro rfl
  obtain ⟨c1, ⟨p1, ⟨-, k1, q1, m1, r1⟩, -⟩, -⟩ := A
  obtain ⟨c2, ⟨p2, ⟨-, k2, q2, m2, r2⟩, -⟩, -⟩ := D
  cases p1.symm.trans p2
  cases q1.symm.trans q2
  rw [r1] at r2
  cases r2
  exact ht rfl
theorem K_anewarrayO (C : oCx p s m meth c P Z y B ml rt) {idx : Nat} {Cn : String} {z : Int32} (len cap : Nat) (w1 : (Jvm.Cond.classLink y.cls idx Cn).before a0 Z = true) (w2 : (Jvm.Cond.arrayOver (.object Cn)).before a0 Z = true) (hd : decode B pc = .ok (.anewarray idx, 3)) (hz : z.toInt = (len : Int)) (hcap : len ≤ cap) (hb8 : cap * 8 ≤ 536870912) (hk : k + 1 ≤ R.cells) (hn : n + cap ≤ R.slots)
    (K : ∀ h' a, a = h.size → P a → Ext h h' → oArO Z h' a Cn (List.replicate len .null) → oWP b p l e R s m args below meth c P Q J h' (k + 1) (n + cap) (oF m (pc + 3) Ls (.ref a :: S))) : oWP b p l e R s m args below meth c P Q J h k n (oF m pc Ls (.int z :: S)) := fun T hT => by
  have hO := oSd.old C hT
  obtain ⟨vm0, k0, locs, ck, cn, X, eT, N, q1, q2, hS, hk0, hbv, hJ⟩ := hT
  have C' := C.rebase hS
  have e : z.toNatClampNeg = len := by simp only [Int32.toNatClampNeg, hz]; rfl
  have hneg : ¬ z < 0 := fun q => by
    rw [Int32.lt_iff_toInt_lt, hz] at q
    have : (0 : Int32).toInt = 0 := rfl
    omega
  obtain ⟨T', h', cA, X', e', E, A, O, st⟩ := newR X C.1 C'.hZ C'.own w1 w2 eT (g := oF m pc Ls (.int z :: S)) rfl (hb C.2.1 hd) rfl hneg (cap := cap) (by omega) hb8 (by omega) (by omega)
  obtain ⟨u, o, g1, g2⟩ := K h' h.size rfl (C.new _ hO.2.1) E ⟨_, A, by apply Array.ext'; simp [newA, e, defaultValue], O⟩ T' ⟨vm0, k0, locs, _, _, X', e', N, by omega, by omega, hS, Nat.le_trans hk0 E.1, hbv, hJ⟩
  exact ⟨u, o, st u g1, g2⟩
theorem K_aastoreO (C : oCx p s m meth c P Z y B ml rt) {Cn : String} {v : Addr} (i : Nat) (A : oArO Z h a Cn vs) (hj : j.toInt = (i : Int)) (hi : i < vs.length) (I : Ins Z h v Cn true) (hP : P a) (hd : decode B pc = .ok (.aastore, 1)) (K : ∀ h', Wr h h' a i (.ref v) → oArO Z h' a Cn (vs.set i (.ref v)) → oWP b p l e R s m args below meth c P Q J h' k n (oF m (pc + 1) Ls S)) : oWP b p l e R s m args below meth c P Q J h k n (oF m pc Ls (.ref v :: .int j :: .ref a :: S)) := fun T hT => by
  obtain ⟨vm0, k0, locs, ck, cn, X, eT, N, q1, q2, hS, hk0, hbv, hJ⟩ := hT
  have C' := C.rebase hS
  have A0 := A
  obtain ⟨cl, A, e, o⟩ := A
  have q := oIdx (n := cl.slots.size) hj (by rw [e]; exact hi)
  obtain ⟨T', h', X', e', Wr1, st⟩ := stR X C.1 C'.hZ eT A q.1 rfl (Sto.of A o I) (g := oF m pc Ls (.ref v :: .int j :: .ref a :: S)) rfl rfl (hb C.2.1 hd)
  rw [q.2] at Wr1
  obtain ⟨u, oo, g1, g2⟩ := K h' Wr1 (oArO.same A0 Wr1) T' ⟨vm0, k0, _, ck, cn, X', e', N.snoc hP, q1, q2, hS, by rw [Wr1.size]; exact hk0, hbv, hJ⟩
  exact ⟨u, oo, st u g1, g2⟩
theorem oMvN {own host : String} {idx : Nat} {z : MethodName} (hZ : Z.Warmed39 s.vm) (w : (Jvm.Cond.methodLinkNest own idx z host).before a0 Z = true) : (Jvm.Cond.methodLinkNest own idx z host).before args s = true := (Cond.methodLinkNest_wide hZ w :)
theorem K_specialN (C : oCx p s m meth c P Z y B ml rt) {idx : Nat} {host : String} {z : MethodName} {B' : ByteArray} {ml' : Nat} {rm : Room} {as' : Array Value} {P' : Addr → Prop} {Q' : Option Value → Heap → Prop} {argsL rest : List Value} {ps : List FieldType} {rr : Option FieldType} (M : oMeets l Z z B' ml' none rm as' h P' Q') {a : Addr} (w1 : (Jvm.Cond.methodLinkNest y.cls idx z host).before a0 Z = true) (w2 : (Jvm.Cond.instanceMethod z).before a0 Z = true) (w3 : (Jvm.Cond.initialized z.cls).before a0 Z = true) (w4 : (Jvm.Cond.code z B' ml' none).before a0 Z = true) (hi : z.name = "<init>") (hy : z.cls ≠ "java/lang/invoke/MethodHandle" ∧ z.cls ≠ "java/lang/invoke/VarHandle") (hpd : parseMethodDescriptor z.desc = some ⟨ps, rr⟩) (hd : decode B pc = .ok (.invokespecial idx, 3)) (hS : S = argsL.reverse ++ .ref a :: rest) (hlen : argsL.length = ps.length) (ha : (.ref a :: argsL).toArray = as') (hml : Ls.length = ml) (hP : ∀ a, s.heap.size ≤ h.size → P' a → P a) (hf : rm.frames + 1 ≤ R.frames) (hl : (rest.map fun v => v.category).sum + (ml' + 11) + rm.locals ≤ R.locals) (hk : k + rm.cells ≤ R.cells) (hn : n + rm.slots ≤ R.slots)
    (K : ∀ v h', Q' v h' → oKp P' h h' → oWP b p l e R s m args below meth c P Q J h' (k + rm.cells) (n + rm.slots) (oF m (pc + 3) Ls (v.toList ++ rest))) : oWP b p l e R s m args below meth c P Q J h k n (oF m pc Ls S) := fun T hT => by
  obtain ⟨hE, hle, -⟩ := oSd.old C hT
  obtain ⟨vm0, k0, locs, ck, cn, X, eT, N, q1, q2, hSi, hk0, hbv, hJ⟩ := hT
  subst hS
  have C' := C.rebase hSi
  obtain ⟨v, vm₁, ⟨T', L', k', n'⟩, -, X', ⟨Lc, ⟨hQ, hN, hK⟩, e1, e2, e3⟩, st⟩ := X.specialBackNest C.1 (y := z) hi C'.own (oMvN C'.hZ w1) (mvT C'.hZ w2) (mvT C'.hZ w4) hy (backOf (W := (rest.map fun v => v.category).sum) (Q := fun v h' L => Q' v h' ∧ oAl P' L ∧ oKp P' h h') (M hE []) C'.hZ w4 w3 hf hl) (g := oF m pc Ls (argsL.reverse ++ .ref a :: rest)) rfl (by rw [C.hml]; exact hml) (Steps.refl _) (a := a) (argsL := argsL) (rest := rest) (lenOf hpd hlen) rfl (by show 2 * 0 + _ ≤ _; exact Nat.le_of_eq (Nat.zero_add _)) (hb C.2.1 hd) (fun vm₁ hw₁ => ⟨ha, eT, by show ck + _ ≤ _; omega, by show cn + _ ≤ _; omega⟩)
  dsimp only [Pt.U, Pt.locs, Pt.cells, Pt.slots] at X' e1 e2 e3 st hQ hK
  subst e1 e2 e3
  obtain ⟨u, o, g1, g2⟩ := K v T'.heap hQ hK T' ⟨vm0, k0, _, _, _, X', rfl, N.app fun q hq => hP _ hle (hN q hq), by omega, by omega, hSi, Nat.le_trans hk0 hK.1, hbv, hJ⟩
  exact ⟨u, o, st.trans g1, g2⟩
theorem oPoly {k : Class} {r : Method} (h : k.name ≠ "java/lang/invoke/MethodHandle" ∧ k.name ≠ "java/lang/invoke/VarHandle") : signaturePolymorphic k r = false := by
  simp [signaturePolymorphic, h.1, h.2]
/-- a resolved reference stays so -/
theorem oRef (en : Env) {T : State} {own : String} {idx : Nat} {z : MethodName} {r0 : MethodId} (hZ : Z.Warmed39 s.vm) (hW : s.WarmedH T.vm) (hn : s.methodNamed? z = some r0) (hy : z.cls ≠ "java/lang/invoke/MethodHandle" ∧ z.cls ≠ "java/lang/invoke/VarHandle") (hown : s.vm.findClass own = some m.cls) (w : (Jvm.Cond.methodRef own idx z).before a0 Z = true) : T.vm.methodReady m.cls idx r0 ∧ namesResolved T.vm m.cls idx r0.cls := by
  have hal : Z.vm.Alike s.vm := hZ.alike
  have hal2 : s.vm.Alike T.vm := hW.alike
  have hnZ : Z.methodNamed? z = some r0 := by
    have e1 : (Z.setVm s.vm).methodNamed? z = Z.methodNamed? z := State.methodNamed?_setVm hal z
    rw [← e1]; exact hn
  have hp : (Jvm.Cond.methodRef own idx z).before a0 (Z.setVm T.vm) = true := Cond.methodRef_warmed39 (hZ.trans hW.wide) hnZ hy w
  have hcur : (Z.setVm T.vm).vm.findClass own = some m.cls := by
    show T.vm.findClass own = _
    rw [hal2.findClass]; exact hown
  obtain ⟨m', c', hf, hready, hfind, hnr⟩ := Cond.methodRef_named en hcur hp
  have hf2 : (Z.setVm T.vm).methodFound? z.cls z.name z.desc = some r0 := by
    rw [State.methodFound?_setVm_of_named (hal.trans hal2) hnZ hy]
    exact State.methodFound?_of_named hnZ hy
  cases hf.symm.trans hf2
  have hc : T.vm.findClass z.cls = some r0.cls := by
    rw [hal2.findClass]; exact findClass_of_methodNamed hn
  cases hfind.symm.trans hc
  exact ⟨hready, hnr⟩
theorem K_specialR (C : oCx p s m meth c P Z y B ml rt) {idx : Nat} {z : MethodName} {B' : ByteArray} {ml' : Nat} {rm : Room} {as' : Array Value} {P' : Addr → Prop} {Q' : Option Value → Heap → Prop} {argsL rest : List Value} {ps : List FieldType} {rr : Option FieldType} (M : oMeets l Z z B' ml' none rm as' h P' Q') {a : Addr} (w1 : (Jvm.Cond.methodRef y.cls idx z).before a0 Z = true) (w2 : (Jvm.Cond.instanceMethod z).before a0 Z = true) (w3 : (Jvm.Cond.initialized z.cls).before a0 Z = true) (w4 : (Jvm.Cond.code z B' ml' none).before a0 Z = true) (hi : z.name = "<init>") (hy : z.cls ≠ "java/lang/invoke/MethodHandle" ∧ z.cls ≠ "java/lang/invoke/VarHandle") (hpd : parseMethodDescriptor z.desc = some ⟨ps, rr⟩) (hd : decode B pc = .ok (.invokespecial idx, 3)) (hS : S = argsL.reverse ++ .ref a :: rest) (hlen : argsL.length = ps.length) (ha : (.ref a :: argsL).toArray = as') (hml : Ls.length = ml) (hP : ∀ a, s.heap.size ≤ h.size → P' a → P a) (hf : rm.frames + 1 ≤ R.frames) (hl : (rest.map fun v => v.category).sum + (ml' + 11) + rm.locals ≤ R.locals) (hk : k + rm.cells ≤ R.cells) (hn : n + rm.slots ≤ R.slots)
    (K : ∀ v h', Q' v h' → oKp P' h h' → oWP b p l e R s m args below meth c P Q J h' (k + rm.cells) (n + rm.slots) (oF m (pc + 3) Ls (v.toList ++ rest))) : oWP b p l e R s m args below meth c P Q J h k n (oF m pc Ls S) := fun T hT => by
  obtain ⟨hE, hle, -⟩ := oSd.old C hT
  obtain ⟨vm0, k0, locs, ck, cn, X, eT, N, q1, q2, hSi, hk0, hbv, hJ⟩ := hT
  subst hS
  have C' := C.rebase hSi
  have hBack := backOf (len := 3) (W := (rest.map fun v => v.category).sum) (Q := fun v h' L => Q' v h' ∧ oAl P' L ∧ oKp P' h h') (M hE []) C'.hZ w4 w3 hf hl (p := p) (e := e) (below := below) (args := args)
  obtain ⟨obj, methO, hnO, hmO, hstO, habO⟩ := Cond.instanceMethod_spec (show (Jvm.Cond.instanceMethod z).before args (s.setVm vm0) = true from mvT C'.hZ w2)
  obtain ⟨methO', cO, hmO', -, -, -, -, -, -, hsigO⟩ := Cond.code_spec hnO (show (Jvm.Cond.code z B' ml' none).before args (s.setVm vm0) = true from mvT C'.hZ w4)
  cases hmO.symm.trans hmO'
  obtain ⟨kO, hkO, hnameO⟩ := className_of_methodNamed hnO
  obtain ⟨hnameMO, hdescO⟩ := name_of_methodNamed hnO hmO
  obtain ⟨hready, hnr⟩ := oRef e C'.hZ X.warmed hnO hy C'.own w1
  have hal := X.warmed.alike
  obtain ⟨kO₂, hkO₂, heO₂⟩ := hal.2.2 _ _ hkO
  have hmO₂ : T.vm.method? obj = some methO := by rw [hal.method?]; exact hmO
  have hfound : lookupSpecial T.vm obj.cls "<init>" methO.desc = .method obj := by
    rw [hal.lookupSpecial, hdescO, ← hi]; exact lookupSpecial_of_named hnO hmO hstO
  have step : ∀ target, (∀ acts, Steps p.tables e below (doInvoke e (T.setTop { (oF m pc Ls (argsL.reverse ++ .ref a :: rest)) with stack := rest }) acts obj (.ref a :: argsL).toArray).1 target) → Steps p.tables e below (T.setTop (oF m pc Ls (argsL.reverse ++ .ref a :: rest))) target := fun target hrest => by
    jvm_step X.here [C.1, hb C.2.1 hd, invokespecial.wp_init (e := e) (s := T) (k := kO₂) (meth := methO) (m := obj) (a := a) (args := argsL) (rest := rest) (f := oF m pc Ls (argsL.reverse ++ .ref a :: rest)) X.here.top hnr hready hkO₂ hmO₂ (by rw [hnameMO]; exact hi) hstO habO hfound (lenOf hpd hlen _ hsigO) rfl]
    exact hrest
  obtain ⟨v, ⟨T', L', k', n'⟩, X', ⟨Lc, ⟨hQ, hN, hK⟩, e1, e2, e3⟩, st⟩ := hBack m meth c ⟨T, locs, ck, cn⟩ { (oF m pc Ls (argsL.reverse ++ .ref a :: rest)) with stack := rest } (.invokespecial idx) obj (.ref a :: argsL).toArray X rfl (by show (Array.mk Ls).size = _; rw [C.hml]; exact hml) (hb C.2.1 hd) (by show 2 * 0 + _ ≤ _; exact Nat.le_of_eq (Nat.zero_add _)) (X.named hnO) ⟨ha, eT, by show ck + _ ≤ _; omega, by show cn + _ ≤ _; omega⟩
  dsimp only [Pt.U, Pt.locs, Pt.cells, Pt.slots] at X' e1 e2 e3 st hQ hK
  subst e1 e2 e3
  obtain ⟨u, o, g1, g2⟩ := K v T'.heap hQ hK T' ⟨vm0, k0, _, _, _, X', rfl, N.app fun q hq => hP _ hle (hN q hq), by omega, by omega, hSi, Nat.le_trans hk0 hK.1, hbv, hJ⟩
  exact ⟨u, o, (step _ fun acts => by rw [doInvoke_state]; exact st.trans g1), g2⟩
theorem K_privateR (C : oCx p s m meth c P Z y B ml rt) {idx : Nat} {z : MethodName} {B' : ByteArray} {ml' : Nat} {rt' : Option FieldType} {rm : Room} {as' : Array Value} {P' : Addr → Prop} {Q' : Option Value → Heap → Prop} {argsL rest : List Value} {ps : List FieldType} {rr : Option FieldType} (M : oMeets l Z z B' ml' rt' rm as' h P' Q') {a : Addr} {Cn : String} (E : Exa Z h a Cn) (w1 : (Jvm.Cond.methodRef y.cls idx z).before a0 Z = true) (hse : oSelf Z z) (wp : (Jvm.Cond.privateMethod z).before a0 Z = true) (w2 : (Jvm.Cond.instanceMethod z).before a0 Z = true) (w3 : (Jvm.Cond.initialized z.cls).before a0 Z = true) (w4 : (Jvm.Cond.code z B' ml' rt').before a0 Z = true) (hy : z.cls ≠ "java/lang/invoke/MethodHandle" ∧ z.cls ≠ "java/lang/invoke/VarHandle") (hpd : parseMethodDescriptor z.desc = some ⟨ps, rr⟩) (hd : decode B pc = .ok (.invokevirtual idx, 3)) (hS : S = argsL.reverse ++ .ref a :: rest) (hlen : argsL.length = ps.length) (ha : (.ref a :: argsL).toArray = as') (hml : Ls.length = ml) (hP : ∀ a, s.heap.size ≤ h.size → P' a → P a) (hf : rm.frames + 1 ≤ R.frames) (hl : (rest.map fun v => v.category).sum + (ml' + 11) + rm.locals ≤ R.locals) (hk : k + rm.cells ≤ R.cells) (hn : n + rm.slots ≤ R.slots)
    (K : ∀ v h', Q' v h' → oKp P' h h' → oWP b p l e R s m args below meth c P Q J h' (k + rm.cells) (n + rm.slots) (oF m (pc + 3) Ls (v.toList ++ rest))) : oWP b p l e R s m args below meth c P Q J h k n (oF m pc Ls S) := fun T hT => by
  obtain ⟨hE, hle, -⟩ := oSd.old C hT
  obtain ⟨vm0, k0, locs, ck, cn, X, eT, N, q1, q2, hSi, hk0, hbv, hJ⟩ := hT
  subst hS
  have C' := C.rebase hSi
  have hBack := backOf (len := 3) (W := (rest.map fun v => v.category).sum) (Q := fun v h' L => Q' v h' ∧ oAl P' L ∧ oKp P' h h') (M hE []) C'.hZ w4 w3 hf hl (p := p) (e := e) (below := below) (args := args)
  have w2' : (Jvm.Cond.instanceMethod z).before args (s.setVm vm0) = true := mvT C'.hZ w2
  obtain ⟨obj, methO, hnO, hmO, hstO, habO⟩ := Cond.instanceMethod_spec w2'
  obtain ⟨methO', cO, hmO', -, -, -, -, -, -, hsigO⟩ := Cond.code_spec hnO (show (Jvm.Cond.code z B' ml' rt').before args (s.setVm vm0) = true from mvT C'.hZ w4)
  cases hmO.symm.trans hmO'
  have hpr := Cond.privateMethod_at (mvP C'.hZ wp (args := #[]))
  obtain ⟨c2, r2, m2, -, -, q3, -, kP, hkP, hkPi⟩ := Cond.selects_spec (hse _ _ hpr w2' C'.hZ hy)
  cases hnO.symm.trans q3
  obtain ⟨kO, hkO, hnameO⟩ := className_of_methodNamed hnO
  cases hkP.symm.trans hkO
  obtain ⟨hready, hnr⟩ := oRef e C'.hZ X.warmed hnO hy C'.own w1
  have hal := X.warmed.alike
  obtain ⟨kO₂, hkO₂, heO₂⟩ := hal.2.2 _ _ hkO
  have hmO₂ : T.vm.method? obj = some methO := by rw [hal.method?]; exact hmO
  obtain ⟨cq, qa, qc⟩ := E.cell
  have hselP : selectMethod e.platform T.vm cq.cls obj = .method obj := selectMethod_private hmO₂ (hpr obj methO hnO hmO)
  have step : ∀ target, (∀ acts, Steps p.tables e below (doInvoke e (T.setTop { (oF m pc Ls (argsL.reverse ++ .ref a :: rest)) with stack := rest }) acts obj (.ref a :: argsL).toArray).1 target) → Steps p.tables e below (T.setTop (oF m pc Ls (argsL.reverse ++ .ref a :: rest))) target := fun target hrest => by
    jvm_step X.here [C.1, hb C.2.1 hd, invokevirtual.wp_named (e := e) (s := T) (f := oF m pc Ls (argsL.reverse ++ .ref a :: rest)) (r := obj) (m := obj) (c' := obj.cls) (k := kO₂) (k' := kO₂) (mk := kO₂) (rmeth := methO) (meth := methO) (a := a) (args := argsL) (rest := rest) (cell := cq) X.here.top hnr hkO₂ (by rw [heO₂]; exact hkPi) hready hkO₂ hmO₂ (oPoly (by rw [heO₂]; show kP.name ≠ _ ∧ kP.name ≠ _; rw [hnameO]; exact hy)) hstO (lenOf hpd hlen _ hsigO) rfl (by rw [eT]; exact qa) qc hselP hmO₂ habO hkO₂ (by rw [heO₂]; exact hkPi)]
    exact hrest
  obtain ⟨v, ⟨T', L', k', n'⟩, X', ⟨Lc, ⟨hQ, hN, hK⟩, e1, e2, e3⟩, st⟩ := hBack m meth c ⟨T, locs, ck, cn⟩ { (oF m pc Ls (argsL.reverse ++ .ref a :: rest)) with stack := rest } (.invokevirtual idx) obj (.ref a :: argsL).toArray X rfl (by show (Array.mk Ls).size = _; rw [C.hml]; exact hml) (hb C.2.1 hd) (by show 2 * 0 + _ ≤ _; exact Nat.le_of_eq (Nat.zero_add _)) (X.named hnO) ⟨ha, eT, by show ck + _ ≤ _; omega, by show cn + _ ≤ _; omega⟩
  dsimp only [Pt.U, Pt.locs, Pt.cells, Pt.slots] at X' e1 e2 e3 st hQ hK
  subst e1 e2 e3
  obtain ⟨u, o, g1, g2⟩ := K v T'.heap hQ hK T' ⟨vm0, k0, _, _, _, X', rfl, N.app fun q hq => hP _ hle (hN q hq), by omega, by omega, hSi, Nat.le_trans hk0 hK.1, hbv, hJ⟩
  exact ⟨u, o, (step _ fun acts => by rw [doInvoke_state]; exact st.trans g1), g2⟩
theorem K_getFR (C : oCx p s m meth c P Z y B ml rt) {O f d : String} {idx : Nat} {a : Addr} {v : Value} (w : (Jvm.Cond.fieldRef y.cls idx O f d).before a0 Z = true) (F : Fld Z h a O f d v) (hd : decode B pc = .ok (.getfield idx, 3)) (K : oWP b p l e R s m args below meth c P Q J h k n (oF m (pc + 3) Ls (v :: S))) : oWP b p l e R s m args below meth c P Q J h k n (oF m pc Ls (.ref a :: S)) := K.law C fun s' C T _ _ _ X eT => by
  obtain ⟨cell, cf, kk, i, fl, h1, h2, h3, h4, -, -, h7⟩ := F
  have hW : Z.Warmed39 T.vm := C.hZ.trans X.warmed.wide
  have hp := Cond.fieldRef_warmed39 hW w
  have hcur : (Z.setVm T.vm).vm.findClass y.cls = some m.cls := by
    show T.vm.findClass y.cls = _
    rw [X.warmed.alike.findClass]; exact C.own
  obtain ⟨c2, k2, i2, f2, hf, hready⟩ := Cond.fieldRef_spec hcur hp
  obtain ⟨k', hi, -⟩ := State.fieldFound?_setVm (s := Z) hW.alike h2
  cases hf.symm.trans hi
  refine ⟨T, X, eT, fun target hrest => ?_⟩
  jvm_step X.here [C.1, hb C.2.1 hd, getfield.wp_ready (e := e) (s := T) (f := oF m pc Ls (.ref a :: S)) X.here.top hready h3 rfl (by rw [eT]; exact h1) h4 h7]
  exact hrest
end OwnO
section OwnNL
theorem own_clt {x w : Int64} : XT.cmpL x w < 0 ↔ x < w := by
  unfold XT.cmpL
  split
  · rename_i h
    rw [Int64.lt_iff_toInt_lt] at h ⊢
    exact ⟨fun q => absurd q (by decide), fun q => by omega⟩
  · split
    · rename_i h; subst h; exact ⟨fun q => absurd q (by decide), fun q => by rw [Int64.lt_iff_toInt_lt] at q; omega⟩
    · rename_i h g
      refine ⟨fun _ => ?_, fun _ => by decide⟩
      have : x.toInt ≠ w.toInt := fun q => g (Int64.toInt_inj.mp q)
      rw [Int64.lt_iff_toInt_lt] at h ⊢
      omega
theorem own_cgt {x w : Int64} : 0 < XT.cmpL x w ↔ w < x := by
  unfold XT.cmpL
  split
  · rename_i h; exact ⟨fun _ => h, fun _ => by decide⟩
  · rename_i h
    split
    · exact ⟨fun q => absurd q (by decide), fun q => absurd q h⟩
    · exact ⟨fun q => absurd q (by decide), fun q => absurd q h⟩
theorem own_ceq {x w : Int64} : XT.cmpL x w = 0 ↔ x = w := by
  unfold XT.cmpL
  split
  · rename_i h; exact ⟨fun q => absurd q (by decide), fun q => by subst q; rw [Int64.lt_iff_toInt_lt] at h; omega⟩
  · split
    · rename_i g; exact ⟨fun _ => g, fun _ => rfl⟩
    · rename_i g; exact ⟨fun q => absurd q (by decide), fun q => absurd q g⟩
/-- at most B in size -/
abbrev oSm (B : Nat) (x : Int64) : Prop := -(B : Int) ≤ x.toInt ∧ x.toInt ≤ (B : Int)
theorem oSm.mono {B B' : Nat} {x : Int64} (h : oSm B x) (q : B ≤ B') : oSm B' x := by unfold oSm at *; omega
theorem oSm.ne {B : Nat} {x : Int64} (h : oSm B x) (q : B ≤ 1000000) : x ≠ -9223372036854775808 := by
  rintro rfl
  have e : (-9223372036854775808 : Int64).toInt = -9223372036854775808 := by decide
  unfold oSm at h
  rw [e] at h
  omega
theorem oSm.add {B B' : Nat} {x y : Int64} (h : oSm B x) (g : oSm B' y) (q : B ≤ 1000000) (q' : B' ≤ 1000000) : (x + y).toInt = x.toInt + y.toInt := by
  unfold oSm at *
  rw [Int64.toInt_add, Int.bmod_def]; omega
theorem oSm.addS {B B' : Nat} {x y : Int64} (h : oSm B x) (g : oSm B' y) (q : B ≤ 1000000) (q' : B' ≤ 1000000) : oSm (B + B') (x + y) := by
  have e := oSm.add h g q q'
  unfold oSm at *
  rw [e]; omega
theorem own_msb {x : Int64} : x < 0 ↔ x.toBitVec.msb = true := by
  rw [Int64.lt_iff_toInt_lt, show (0 : Int64).toInt = 0 from rfl, BitVec.msb_eq_toInt, decide_eq_true_iff]
  exact Iff.rfl
theorem oSm.ovf {B B' : Nat} {x y : Int64} (h : oSm B x) (g : oSm B' y) (q : B ≤ 1000000) (q' : B' ≤ 1000000) : ¬ ((x + y) ^^^ x) &&& ((x + y) ^^^ y) < 0 := by
  have e := oSm.add h g q q'
  have a : (x + y).toBitVec.msb = decide ((x + y).toInt < 0) := BitVec.msb_eq_toInt
  have b : x.toBitVec.msb = decide (x.toInt < 0) := BitVec.msb_eq_toInt
  have c : y.toBitVec.msb = decide (y.toInt < 0) := BitVec.msb_eq_toInt
  rw [own_msb]
  rw [Int64.toBitVec_and, Int64.toBitVec_xor, Int64.toBitVec_xor, BitVec.msb_and, BitVec.msb_xor, BitVec.msb_xor, a, b, c, e]
  by_cases h1 : x.toInt < 0 <;> by_cases h2 : y.toInt < 0 <;> by_cases h3 : x.toInt + y.toInt < 0 <;> simp [h1, h2, h3] <;> omega
theorem oSm.mul {B B' : Nat} {x y : Int64} (h : oSm B x) (g : oSm B' y) (q : B ≤ 1000000) (q' : B' ≤ 1000000) : (x * y).toInt = x.toInt * y.toInt ∧ oSm (B * B') (x * y) := by
  unfold oSm at *
  have k1 : x.toInt * y.toInt ≤ (B : Int) * B' ∧ -((B : Int) * B') ≤ x.toInt * y.toInt := by
    rcases Int.le_total 0 x.toInt with a | a <;> rcases Int.le_total 0 y.toInt with b | b
    · have := Int.mul_le_mul h.2 g.2 b (by omega)
      have z := Int.mul_nonneg a b
      have w : 0 ≤ (B : Int) * B' := Int.mul_nonneg (by omega) (by omega)
      omega
    · have := Int.mul_le_mul h.2 (show -y.toInt ≤ B' by omega) (by omega) (by omega)
      have z := Int.mul_nonneg a (show 0 ≤ -y.toInt by omega)
      have w : 0 ≤ (B : Int) * B' := Int.mul_nonneg (by omega) (by omega)
      rw [Int.mul_neg] at this z
      omega
    · have := Int.mul_le_mul (show -x.toInt ≤ B by omega) g.2 b (by omega)
      have z := Int.mul_nonneg (show 0 ≤ -x.toInt by omega) b
      have w : 0 ≤ (B : Int) * B' := Int.mul_nonneg (by omega) (by omega)
      rw [Int.neg_mul] at this z
      omega
    · have := Int.mul_le_mul (show -x.toInt ≤ B by omega) (show -y.toInt ≤ B' by omega) (by omega) (by omega)
      have z := Int.mul_nonneg (show 0 ≤ -x.toInt by omega) (show 0 ≤ -y.toInt by omega)
      have w : 0 ≤ (B : Int) * B' := Int.mul_nonneg (by omega) (by omega)
      rw [Int.neg_mul_neg] at this z
      omega
  have k2 : (B : Int) * B' ≤ 1000000 * 1000000 := Int.mul_le_mul (by omega) (by omega) (by omega) (by omega)
  have e : (x * y).toInt = x.toInt * y.toInt := by
    rw [Int64.toInt_mul, Int.bmod_def]; omega
  refine ⟨e, ?_⟩
  rw [e, Int.natCast_mul]
  exact ⟨k1.2, k1.1⟩
theorem own_abs {B : Nat} {x : Int64} (h : oSm B x) (q : B ≤ 1000000) : (-x).toInt = -x.toInt := by
  unfold oSm at h
  rw [Int64.toInt_neg, Int.bmod_def]; omega
theorem own_tn {x : Int64} {B : Nat} (h : 0 ≤ x.toInt) (g : x.toInt ≤ (B : Int)) : x.toBitVec.toNat ≤ B := by
  have e : x.toInt = x.toBitVec.toInt := rfl
  rw [e, BitVec.toInt_eq_toNat_cond] at h g
  have := x.toBitVec.isLt
  split at g <;> omega
theorem own_or31 {x y : Int64} (hx : 0 ≤ x.toInt) (hx2 : x.toInt ≤ 1000000) (hy : 0 ≤ y.toInt) (hy2 : y.toInt ≤ 1000000) : XT.ushrL (x ||| y) 31 = 0 := by
  have a := own_tn (B := 1000000) hx hx2
  have b := own_tn (B := 1000000) hy hy2
  have c : (x ||| y).toBitVec.toNat < 2 ^ 31 := by
    rw [Int64.toBitVec_or, BitVec.toNat_or]
    exact Nat.or_lt_two_pow (by omega) (by omega)
  unfold XT.ushrL
  apply Int64.toBitVec_inj.mp
  apply BitVec.eq_of_toNat_eq
  have e : ((31 : Int32).toInt64.toUInt64 &&& Int64.toUInt64 63) = 31 := by decide
  rw [e]
  show ((x ||| y).toBitVec >>> ((31 : UInt64).toBitVec % 64#64)).toNat = 0
  rw [show (31 : UInt64).toBitVec % 64#64 = 31#64 by decide]
  show ((x ||| y).toBitVec >>> (31#64).toNat).toNat = 0
  rw [BitVec.toNat_ushiftRight, Nat.shiftRight_eq_div_pow]
  show (x ||| y).toBitVec.toNat / 2 ^ 31 = 0
  omega
theorem own_short {x : Int32} (h : 0 ≤ x.toInt) (g : x.toInt < 32768) : x.toInt16.toInt32 = x := by
  apply Int32.toInt_inj.mp
  rw [Int16.toInt_toInt32, Int32.toInt_toInt16, Int.bmod_def]; omega
abbrev own_leap (x : Int64) : Prop := x &&& 3 = 0 ∧ (¬ x - x / 100 * 100 = 0 ∨ x - x / 400 * 400 = 0)
/-- the length of the month of the ordinal i, in a leap year (z = 1) or not (z = 0) -/
def own_mle (i : Nat) (z : Int32) : Nat := match i with
  | 1 => if z = 0 then 28 else 29
  | 3 => 30
  | 5 => 30
  | 8 => 30
  | 10 => 30
  | _ => 31
theorem own_mleb (i : Nat) (z : Int32) : 28 ≤ own_mle i z ∧ own_mle i z ≤ 31 := by
  unfold own_mle
  split <;> (try split) <;> omega
def own_ml (y m : Int32) : Nat := own_mle (m.toInt.toNat - 1) (if own_leap y.toInt64 then 1 else 0)
theorem own_mlb (y m : Int32) : 28 ≤ own_ml y m ∧ own_ml y m ≤ 31 := own_mleb _ _
def own_mli (i : Nat) : Nat := own_ml (Int32.ofNat i / 12) (Int32.ofNat i % 12 + 1)
theorem own_mlj {j : Int32} (h : 0 ≤ j.toInt) : own_mli j.toInt.toNat = own_ml (j / 12) (j % 12 + 1) := by
  have e : Int32.ofNat j.toInt.toNat = j := by
    apply Int32.toInt_inj.mp
    have := Int32.toInt_lt j
    rw [oOf _ (by omega)]; omega
  unfold own_mli
  rw [e]
def oDt (y m d : Int32) : Prop := (0 ≤ y.toInt ∧ y.toInt ≤ 9999) ∧ (1 ≤ m.toInt ∧ m.toInt ≤ 12) ∧ (1 ≤ d.toInt ∧ d.toInt ≤ 31 ∧ d.toInt ≤ (own_ml y m : Int))
def own_key (y m d : Int32) : Int := (y.toInt * 12 + m.toInt - 1) * 32 + d.toInt
def own_ix (y m : Int32) : Int32 := 12 * y + m - 1
theorem own_ixI {y m d : Int32} (h : oDt y m d) : (own_ix y m).toInt = 12 * y.toInt + m.toInt - 1 := by
  obtain ⟨h1, h2, h3⟩ := h
  unfold own_ix
  rw [Int32.toInt_sub, Int32.toInt_add, Int32.toInt_mul, show (12 : Int32).toInt = 12 from rfl, show (1 : Int32).toInt = 1 from rfl]
  simp only [Int.bmod_def]; omega
theorem own_ixd {y m d : Int32} (h : oDt y m d) : own_ix y m / 12 = y ∧ own_ix y m % 12 + 1 = m := by
  have e := own_ixI h
  obtain ⟨h1, h2, h3⟩ := h
  constructor
  · apply Int32.toInt_inj.mp
    rw [Int32.toInt_div, e, show (12 : Int32).toInt = 12 from rfl, Int.tdiv_eq_ediv_of_nonneg (by omega), Int.bmod_def]
    omega
  · apply Int32.toInt_inj.mp
    rw [Int32.toInt_add, Int32.toInt_mod, e, show (12 : Int32).toInt = 12 from rfl, show (1 : Int32).toInt = 1 from rfl, Int.tmod_eq_emod_of_nonneg (by omega), Int.bmod_def]
    omega
def own_cmp0 (y1 m1 d1 y2 m2 d2 : Int32) : Int32 := if y1 - y2 = 0 then (if m1 - m2 = 0 then d1 - d2 else m1 - m2) else y1 - y2
theorem own_subI {a b : Int32} (ha : -1000000 ≤ a.toInt ∧ a.toInt ≤ 1000000) (hb : -1000000 ≤ b.toInt ∧ b.toInt ≤ 1000000) : (a - b).toInt = a.toInt - b.toInt := by
  rw [Int32.toInt_sub, Int.bmod_def]; omega
theorem own_cmpI {y1 m1 d1 y2 m2 d2 : Int32} (h : oDt y1 m1 d1) (g : oDt y2 m2 d2) : own_cmp0 y1 m1 d1 y2 m2 d2 < 0 ↔ own_key y1 m1 d1 < own_key y2 m2 d2 := by
  obtain ⟨h1, h2, h3⟩ := h
  obtain ⟨g1, g2, g3⟩ := g
  have e1 := own_subI (a := y1) (b := y2) (by omega) (by omega)
  have e2 := own_subI (a := m1) (b := m2) (by omega) (by omega)
  have e3 := own_subI (a := d1) (b := d2) (by omega) (by omega)
  unfold own_cmp0 own_key
  rw [Int32.lt_iff_toInt_lt, show (0 : Int32).toInt = 0 from rfl]
  split
  · rename_i q
    have q1 := congrArg Int32.toInt q
    rw [e1, show (0 : Int32).toInt = 0 from rfl] at q1
    split
    · rename_i r
      have r1 := congrArg Int32.toInt r
      rw [e2, show (0 : Int32).toInt = 0 from rfl] at r1
      rw [e3]; omega
    · rename_i r
      have r1 : (m1 - m2).toInt ≠ 0 := fun z => r (Int32.toInt_inj.mp z)
      rw [e2] at r1 ⊢; omega
  · rename_i q
    have q1 : (y1 - y2).toInt ≠ 0 := fun z => q (Int32.toInt_inj.mp z)
    rw [e1] at q1 ⊢; omega
theorem own_modI {x : Int32} (k : Int32) (hk : 0 < k.toInt) (hx : 0 ≤ x.toInt) : 0 ≤ (x % k).toInt ∧ (x % k).toInt < k.toInt := by
  rw [Int32.toInt_mod, Int.tmod_eq_emod_of_nonneg hx]
  exact ⟨Int.emod_nonneg _ (by omega), Int.emod_lt_of_pos _ hk⟩
theorem own_divI {x : Int32} (k : Int32) (hk : 1 < k.toInt) (hx : 0 ≤ x.toInt) : 0 ≤ (x / k).toInt := by
  have hlt := Int32.toInt_lt x
  rw [Int32.toInt_div, Int.tdiv_eq_ediv_of_nonneg hx]
  have a := Int.ediv_nonneg hx (show 0 ≤ k.toInt by omega)
  have b := Int.ediv_le_self k.toInt hx
  rw [Int.bmod_def]; omega
theorem own_u (x : Int32) : 0 ≤ (x &&& 2147483647).toInt := by
  rw [show (x &&& 2147483647).toInt = x.toInt % 2 ^ 31 from Jvm.Kit.i32_mask x 2147483647 (k := 31) (by decide) (by decide)]; exact Int.emod_nonneg _ (by decide)
theorem own_inc {x k : Int32} (h : 0 ≤ x.toInt ∧ x.toInt < k.toInt) (hk : k.toInt ≤ 1000) : 1 ≤ (x + 1).toInt ∧ (x + 1).toInt ≤ k.toInt := by
  rw [Int32.toInt_add, show (1 : Int32).toInt = 1 from rfl, Int.bmod_def]; omega
theorem own_dt {u : Int32} (h : 0 ≤ u.toInt) : oDt (u % 10000) (u / 10000 % 12 + 1) (u / 120000 % 28 + 1) ∧ (u / 120000 % 28 + 1).toInt ≤ 28 := by
  have a := own_modI 10000 (by decide) h
  have b := own_inc (k := 12) (own_modI 12 (by decide) (own_divI 10000 (by decide) h)) (by decide)
  have c := own_inc (k := 28) (own_modI 28 (by decide) (own_divI 120000 (by decide) h)) (by decide)
  rw [show (10000 : Int32).toInt = 10000 from rfl] at a
  rw [show (12 : Int32).toInt = 12 from rfl] at b
  rw [show (28 : Int32).toInt = 28 from rfl] at c
  have d := own_mlb (u % 10000) (u / 10000 % 12 + 1)
  exact ⟨⟨by omega, b, by omega, by omega, by omega⟩, c.2⟩
theorem own_keyI {y m d : Int32} (h : oDt y m d) : ((y * 12 + m - 1) * 32 + d).toInt = own_key y m d := by
  obtain ⟨h1, h2, h3⟩ := h
  unfold own_key
  rw [Int32.toInt_add, Int32.toInt_mul, Int32.toInt_sub, Int32.toInt_add, Int32.toInt_mul, show (12 : Int32).toInt = 12 from rfl, show (1 : Int32).toInt = 1 from rfl, show (32 : Int32).toInt = 32 from rfl]
  simp only [Int.bmod_def]; omega
/-- the month of the last night before the day y m d -/
def own_lm (y m d : Int32) : Int32 := if d = 1 then own_ix y m - 1 else own_ix y m
def own_max (x z : Int32) : Int32 := if x < z then z else x
def own_mn (x z : Int32) : Int32 := if z < x then z else x
theorem own_i64 {x : Int32} : x.toInt64.toInt = x.toInt := Int32.toInt_toInt64 x
theorem own_bk1 {y m d : Int32} (h : oDt y m d) (hd : d = 1) (hm : m = 1) : (y - 1) * 12 + 12 - 1 = own_lm y m d := by
  apply Int32.toInt_inj.mp
  have e := own_ixI h
  unfold own_lm
  rw [if_pos hd, Int32.toInt_sub (own_ix y m), e, hm]
  obtain ⟨h1, h2, h3⟩ := h
  rw [Int32.toInt_sub, Int32.toInt_add, Int32.toInt_mul, Int32.toInt_sub, show (12 : Int32).toInt = 12 from rfl, show (1 : Int32).toInt = 1 from rfl]
  simp only [Int.bmod_def]; omega
theorem own_bk2 {y m d : Int32} (h : oDt y m d) (hd : d = 1) : y * 12 + (m - 1) - 1 = own_lm y m d := by
  apply Int32.toInt_inj.mp
  have e := own_ixI h
  unfold own_lm
  rw [if_pos hd, Int32.toInt_sub (own_ix y m), e]
  obtain ⟨h1, h2, h3⟩ := h
  rw [Int32.toInt_sub, Int32.toInt_add, Int32.toInt_mul, Int32.toInt_sub, show (12 : Int32).toInt = 12 from rfl, show (1 : Int32).toInt = 1 from rfl]
  simp only [Int.bmod_def]; omega
theorem own_bk3 {y m d : Int32} (h : oDt y m d) (hd : ¬ d = 1) : y * 12 + m - 1 = own_lm y m d := by
  apply Int32.toInt_inj.mp
  have e := own_ixI h
  unfold own_lm
  rw [if_neg hd, e]
  obtain ⟨h1, h2, h3⟩ := h
  rw [Int32.toInt_sub, Int32.toInt_add, Int32.toInt_mul, show (12 : Int32).toInt = 12 from rfl, show (1 : Int32).toInt = 1 from rfl]
  simp only [Int.bmod_def]; omega
section OwnN
variable {Z : State} {h h' h2 : Heap} {lo : Nat} {a b : Addr} {B B' B2 : Nat} {a0 : Array Value} {P : Addr → Prop}
theorem oXlt {a : Addr} {Cn : String} (X : Exa Z h a Cn) : a < h.size := by
  obtain ⟨k, hk, -⟩ := X.cell
  exact (Array.getElem?_eq_some_iff.mp hk).1
def oBD (Z : State) (h : Heap) (a : Addr) (x : Int64) : Prop := Exa Z h a "java/math/BigDecimal" ∧ Fld Z h a "java/math/BigDecimal" "scale" "I" (.int 0) ∧ Fld Z h a "java/math/BigDecimal" "intCompact" "J" (.long x)
def oBb (Z : State) (h : Heap) (a : Addr) (B : Nat) : Prop := ∃ x, oBD Z h a x ∧ oSm B x
def oNi (Z : State) (h : Heap) (lo : Nat) (a : Addr) (B : Nat) : Prop := lo ≤ a ∧ Exa Z h a "com/example/roomyield/roomyield/NightTally$Nights" ∧ (∃ r, Fld Z h a "com/example/roomyield/roomyield/NightTally$Nights" "revenue" "Ljava/math/BigDecimal;" (.ref r) ∧ oBb Z h r B) ∧ (∃ r, Fld Z h a "com/example/roomyield/roomyield/NightTally$Nights" "guests" "Ljava/math/BigDecimal;" (.ref r) ∧ oBb Z h r B) ∧ (∃ c, Fld Z h a "com/example/roomyield/roomyield/NightTally$Nights" "complimentary" "J" (.long c)) ∧ (∃ c, Fld Z h a "com/example/roomyield/roomyield/NightTally$Nights" "sold" "J" (.long c)) ∧ (∃ c, Fld Z h a "com/example/roomyield/roomyield/NightTally$Nights" "multipleOccupied" "J" (.long c))
def oMN (Z : State) (h : Heap) (lo : Nat) (a : Addr) (B K : Nat) : Prop := Exa Z h a "com/example/roomyield/roomyield/NightTally$MonthNights" ∧ (∃ n, Fld Z h a "com/example/roomyield/roomyield/NightTally$MonthNights" "nights" "Lcom/example/roomyield/roomyield/NightTally$Nights;" (.ref n) ∧ oNi Z h lo n B) ∧ (∃ n, Fld Z h a "com/example/roomyield/roomyield/NightTally$MonthNights" "wholeMonthChange" "Lcom/example/roomyield/roomyield/NightTally$Nights;" (.ref n) ∧ oNi Z h lo n B) ∧ ∃ oa, Fld Z h a "com/example/roomyield/roomyield/NightTally$MonthNights" "occupiedChange" "[J" (.ref oa) ∧ lo ≤ oa ∧ ∃ ls : List Int64, oArr Z h oa .long (ls.map Value.long) ∧ ls.length = K
def oLD (Z : State) (h : Heap) (a : Addr) (y m d : Int32) : Prop := Exa Z h a "java/time/LocalDate" ∧ Fld Z h a "java/time/LocalDate" "year" "I" (.int y) ∧ Fld Z h a "java/time/LocalDate" "month" "S" (.int m) ∧ Fld Z h a "java/time/LocalDate" "day" "S" (.int d)
def oYM (Z : State) (h : Heap) (a : Addr) (y m : Int32) : Prop := Exa Z h a "java/time/YearMonth" ∧ Fld Z h a "java/time/YearMonth" "year" "I" (.int y) ∧ Fld Z h a "java/time/YearMonth" "month" "I" (.int m)
def oCF (Z : State) (h : Heap) (f : Addr) (x w : Int64) : Prop := Exa Z h f "java/time/temporal/ChronoField" ∧ ∃ r, Fld Z h f "java/time/temporal/ChronoField" "range" "Ljava/time/temporal/ValueRange;" (.ref r) ∧ Exa Z h r "java/time/temporal/ValueRange" ∧ Fld Z h r "java/time/temporal/ValueRange" "minSmallest" "J" (.long x) ∧ Fld Z h r "java/time/temporal/ValueRange" "maxLargest" "J" (.long w)
/-- null, or the month's tally -/
def oMe (Z : State) (h : Heap) (lo : Nat) (B K : Nat) (v : Value) : Prop := v = .null ∨ ∃ a, v = .ref a ∧ oMN Z h lo a B K
def oNT (Z : State) (h : Heap) (lo : Nat) (t ma : Addr) (vs : List Value) (B : Nat) (f l : Int32) : Prop := (Exa Z h t "com/example/roomyield/roomyield/NightTally") ∧ (Fld Z h t "com/example/roomyield/roomyield/NightTally" "months" "[Lcom/example/roomyield/roomyield/NightTally$MonthNights;" (.ref ma)) ∧ (Fld Z h t "com/example/roomyield/roomyield/NightTally" "firstNightMonth" "I" (.int f)) ∧ (Fld Z h t "com/example/roomyield/roomyield/NightTally" "lastNightMonth" "I" (.int l)) ∧ (oArO Z h ma "com/example/roomyield/roomyield/NightTally$MonthNights" vs) ∧ (vs.length = 120000) ∧ (∀ (i : Nat) v, vs[i]? = some v → oMe Z h lo B (own_mli i) v) ∧ (lo ≤ t) ∧ (lo ≤ ma)
theorem oNT.X {Z : State} {h : Heap} {lo : Nat} {t ma : Addr} {vs : List Value} {B : Nat} {f l : Int32} (F__ : oNT Z h lo t ma vs B f l) : Exa Z h t "com/example/roomyield/roomyield/NightTally" := F__.1
theorem oNT.FM {Z : State} {h : Heap} {lo : Nat} {t ma : Addr} {vs : List Value} {B : Nat} {f l : Int32} (F__ : oNT Z h lo t ma vs B f l) : Fld Z h t "com/example/roomyield/roomyield/NightTally" "months" "[Lcom/example/roomyield/roomyield/NightTally$MonthNights;" (.ref ma) := F__.2.1
theorem oNT.FF {Z : State} {h : Heap} {lo : Nat} {t ma : Addr} {vs : List Value} {B : Nat} {f l : Int32} (F__ : oNT Z h lo t ma vs B f l) : Fld Z h t "com/example/roomyield/roomyield/NightTally" "firstNightMonth" "I" (.int f) := F__.2.2.1
theorem oNT.FL {Z : State} {h : Heap} {lo : Nat} {t ma : Addr} {vs : List Value} {B : Nat} {f l : Int32} (F__ : oNT Z h lo t ma vs B f l) : Fld Z h t "com/example/roomyield/roomyield/NightTally" "lastNightMonth" "I" (.int l) := F__.2.2.2.1
theorem oNT.A {Z : State} {h : Heap} {lo : Nat} {t ma : Addr} {vs : List Value} {B : Nat} {f l : Int32} (F__ : oNT Z h lo t ma vs B f l) : oArO Z h ma "com/example/roomyield/roomyield/NightTally$MonthNights" vs := F__.2.2.2.2.1
theorem oNT.hl {Z : State} {h : Heap} {lo : Nat} {t ma : Addr} {vs : List Value} {B : Nat} {f l : Int32} (F__ : oNT Z h lo t ma vs B f l) : vs.length = 120000 := F__.2.2.2.2.2.1
theorem oNT.el {Z : State} {h : Heap} {lo : Nat} {t ma : Addr} {vs : List Value} {B : Nat} {f l : Int32} (F__ : oNT Z h lo t ma vs B f l) : ∀ (i : Nat) v, vs[i]? = some v → oMe Z h lo B (own_mli i) v := F__.2.2.2.2.2.2.1
theorem oNT.t1 {Z : State} {h : Heap} {lo : Nat} {t ma : Addr} {vs : List Value} {B : Nat} {f l : Int32} (F__ : oNT Z h lo t ma vs B f l) : lo ≤ t := F__.2.2.2.2.2.2.2.1
theorem oNT.m1 {Z : State} {h : Heap} {lo : Nat} {t ma : Addr} {vs : List Value} {B : Nat} {f l : Int32} (F__ : oNT Z h lo t ma vs B f l) : lo ≤ ma := F__.2.2.2.2.2.2.2.2
theorem oBD.ext {x : Int64} (F : oBD Z h a x) (E : Ext h h') : oBD Z h' a x := ⟨F.1.ext E, F.2.1.ext E, F.2.2.ext E⟩
theorem oBb.ext (F : oBb Z h a B) (E : Ext h h') : oBb Z h' a B := by obtain ⟨x, F, q⟩ := F; exact ⟨x, F.ext E, q⟩
theorem oBb.mono (F : oBb Z h a B) (q : B ≤ B') : oBb Z h a B' := by obtain ⟨x, F, z⟩ := F; exact ⟨x, F, z.mono q⟩
theorem oLD.ext {y m d : Int32} (F : oLD Z h a y m d) (E : Ext h h') : oLD Z h' a y m d := ⟨F.1.ext E, F.2.1.ext E, F.2.2.1.ext E, F.2.2.2.ext E⟩
theorem oYM.ext {y m : Int32} (F : oYM Z h a y m) (E : Ext h h') : oYM Z h' a y m := ⟨F.1.ext E, F.2.1.ext E, F.2.2.ext E⟩
theorem oCF.ext {x w : Int64} (F : oCF Z h a x w) (E : Ext h h') : oCF Z h' a x w := by obtain ⟨f1, r, f2, f3, f4, f5⟩ := F; exact ⟨f1.ext E, r, f2.ext E, f3.ext E, f4.ext E, f5.ext E⟩
/-- what a step of the heap keeps; the tallies' bound goes from B to B' -/
def oStep (Z : State) (lo : Nat) (h h' : Heap) (B B' : Nat) : Prop := (∀ a C, Exa Z h a C → Exa Z h' a C) ∧ (∀ a x, oBD Z h a x → oBD Z h' a x) ∧ (∀ a y m d, oLD Z h a y m d → oLD Z h' a y m d) ∧ (∀ a n ds v, Exa Z h a "com/example/roomyield/roomyield/NightTally$MonthNights" → Fld Z h a "com/example/roomyield/roomyield/NightTally$MonthNights" n ds v → Fld Z h' a "com/example/roomyield/roomyield/NightTally$MonthNights" n ds v) ∧ (∀ a (ls : List Int64), oArr Z h a .long (ls.map Value.long) → ∃ ls' : List Int64, ls'.length = ls.length ∧ oArr Z h' a .long (ls'.map Value.long)) ∧ (∀ a, oNi Z h lo a B → oNi Z h' lo a B')
theorem oStep.X {Z : State} {lo : Nat} {h h' : Heap} {B B' : Nat} (F__ : oStep Z lo h h' B B') : ∀ a C, Exa Z h a C → Exa Z h' a C := F__.1
theorem oStep.D {Z : State} {lo : Nat} {h h' : Heap} {B B' : Nat} (F__ : oStep Z lo h h' B B') : ∀ a x, oBD Z h a x → oBD Z h' a x := F__.2.1
theorem oStep.L {Z : State} {lo : Nat} {h h' : Heap} {B B' : Nat} (F__ : oStep Z lo h h' B B') : ∀ a y m d, oLD Z h a y m d → oLD Z h' a y m d := F__.2.2.1
theorem oStep.M {Z : State} {lo : Nat} {h h' : Heap} {B B' : Nat} (F__ : oStep Z lo h h' B B') : ∀ a n ds v, Exa Z h a "com/example/roomyield/roomyield/NightTally$MonthNights" → Fld Z h a "com/example/roomyield/roomyield/NightTally$MonthNights" n ds v → Fld Z h' a "com/example/roomyield/roomyield/NightTally$MonthNights" n ds v := F__.2.2.2.1
theorem oStep.A {Z : State} {lo : Nat} {h h' : Heap} {B B' : Nat} (F__ : oStep Z lo h h' B B') : ∀ a (ls : List Int64), oArr Z h a .long (ls.map Value.long) → ∃ ls' : List Int64, ls'.length = ls.length ∧ oArr Z h' a .long (ls'.map Value.long) := F__.2.2.2.2.1
theorem oStep.N {Z : State} {lo : Nat} {h h' : Heap} {B B' : Nat} (F__ : oStep Z lo h h' B B') : ∀ a, oNi Z h lo a B → oNi Z h' lo a B' := F__.2.2.2.2.2
theorem oStep.mn {K : Nat} (S : oStep Z lo h h' B B') (F : oMN Z h lo a B K) : oMN Z h' lo a B' K := by
  obtain ⟨X, ⟨n, f1, g1⟩, ⟨w, f2, g2⟩, oa, f3, g3, ls, A, l1⟩ := F
  obtain ⟨ls', e, A'⟩ := S.A oa ls A
  exact ⟨S.X _ _ X, ⟨n, S.M _ _ _ _ X f1, S.N _ g1⟩, ⟨w, S.M _ _ _ _ X f2, S.N _ g2⟩, oa, S.M _ _ _ _ X f3, g3, ls', A', e.trans l1⟩
theorem oStep.me {K : Nat} {v : Value} (S : oStep Z lo h h' B B') (F : oMe Z h lo B K v) : oMe Z h' lo B' K v := F.imp id fun ⟨a, e, q⟩ => ⟨a, e, S.mn q⟩
theorem oStep.bb (S : oStep Z lo h h' B B') (F : oBb Z h a B2) : oBb Z h' a B2 := by obtain ⟨x, F, q⟩ := F; exact ⟨x, S.D _ _ F, q⟩
theorem oStep.trans (S : oStep Z lo h h' B B') (S' : oStep Z lo h' h2 B' B2) : oStep Z lo h h2 B B2 := ⟨fun a C q => S'.X _ _ (S.X _ _ q), fun a x q => S'.D _ _ (S.D _ _ q), fun a y m d q => S'.L _ _ _ _ (S.L _ _ _ _ q), fun a n ds v X q => S'.M _ _ _ _ (S.X _ _ X) (S.M _ _ _ _ X q), fun a ls q => by
  obtain ⟨l1, e1, q1⟩ := S.A a ls q
  obtain ⟨l2, e2, q2⟩ := S'.A a l1 q1
  exact ⟨l2, e2.trans e1, q2⟩, fun a q => S'.N _ (S.N _ q)⟩
theorem oNi.ext (F : oNi Z h lo a B) (E : Ext h h') : oNi Z h' lo a B := by
  obtain ⟨q, X, ⟨r, f1, g1⟩, ⟨w, f2, g2⟩, ⟨c1, f3⟩, ⟨c2, f4⟩, ⟨c3, f5⟩⟩ := F
  exact ⟨q, X.ext E, ⟨r, f1.ext E, g1.ext E⟩, ⟨w, f2.ext E, g2.ext E⟩, ⟨c1, f3.ext E⟩, ⟨c2, f4.ext E⟩, ⟨c3, f5.ext E⟩⟩
theorem oNi.mono (F : oNi Z h lo a B) (z : B ≤ B') : oNi Z h lo a B' := by
  obtain ⟨q, X, ⟨r, f1, g1⟩, ⟨w, f2, g2⟩, f3⟩ := F
  exact ⟨q, X, ⟨r, f1, g1.mono z⟩, ⟨w, f2, g2.mono z⟩, f3⟩
theorem oStep.ext (E : Ext h h') : oStep Z lo h h' B B := ⟨fun a C q => q.ext E, fun a x q => q.ext E, fun a y m d q => q.ext E, fun a n ds v X q => q.ext E, fun a ls q => ⟨ls, rfl, q.ext E⟩, fun a q => q.ext E⟩
theorem oStep.mono (z : B ≤ B') : oStep Z lo h h B B' := ⟨fun a C q => q, fun a x q => q, fun a y m d q => q, fun a n ds v X q => q, fun a ls q => ⟨ls, rfl, q⟩, fun a q => q.mono z⟩
/-- the classes of the objects that are kept -/
def oCls (C : String) : Prop := C = "java/math/BigDecimal" ∨ C = "java/time/LocalDate" ∨ C = "com/example/roomyield/roomyield/NightTally$MonthNights"
theorem oStep.wr {sl : Nat} {v : Value} (W : Wr h h' b sl v) (hb : ∀ a C, Exa Z h a C → oCls C ∨ C = "com/example/roomyield/roomyield/NightTally$Nights" → a ≠ b) (hL : ∀ a (ls : List Int64), oArr Z h a .long (ls.map Value.long) → ∃ ls' : List Int64, ls'.length = ls.length ∧ oArr Z h' a .long (ls'.map Value.long)) : oStep Z lo h h' B B := by
  have fo : ∀ {a : Addr} {C C' n d : String} {v : Value}, Exa Z h a C → oCls C ∨ C = "com/example/roomyield/roomyield/NightTally$Nights" → Fld Z h a C' n d v → Fld Z h' a C' n d v := fun X q F => Fld.other W F (Or.inl (hb _ _ X q))
  have hD : ∀ a x, oBD Z h a x → oBD Z h' a x := fun a x q => ⟨q.1.wr W, fo q.1 (Or.inl (Or.inl rfl)) q.2.1, fo q.1 (Or.inl (Or.inl rfl)) q.2.2⟩
  refine ⟨fun a C q => q.wr W, hD, fun a y m d q => ⟨q.1.wr W, fo q.1 (Or.inl (Or.inr (Or.inl rfl))) q.2.1, fo q.1 (Or.inl (Or.inr (Or.inl rfl))) q.2.2.1, fo q.1 (Or.inl (Or.inr (Or.inl rfl))) q.2.2.2⟩, fun a n ds v X q => fo X (Or.inl (Or.inr (Or.inr rfl))) q, hL, fun a F => ?_⟩
  obtain ⟨q, X, ⟨r, f1, x1, g1, y1⟩, ⟨w, f2, x2, g2, y2⟩, ⟨c1, f3⟩, ⟨c2, f4⟩, ⟨c3, f5⟩⟩ := F
  exact ⟨q, X.wr W, ⟨r, fo X (Or.inr rfl) f1, x1, hD _ _ g1, y1⟩, ⟨w, fo X (Or.inr rfl) f2, x2, hD _ _ g2, y2⟩, ⟨c1, fo X (Or.inr rfl) f3⟩, ⟨c2, fo X (Or.inr rfl) f4⟩, ⟨c3, fo X (Or.inr rfl) f5⟩⟩
/-- only the tally x of nights was written -/
theorem oStep.ni {x : Addr} {kB kN : Nat} (wB : (Jvm.Cond.instantiable "java/math/BigDecimal" kB).before a0 Z = true) (X : Exa Z h x "com/example/roomyield/roomyield/NightTally$Nights") (wN : (Jvm.Cond.instantiable "com/example/roomyield/roomyield/NightTally$Nights" kN).before a0 Z = true) (K : oKp (fun y => y = x ∨ h.size ≤ y) h h') (hx : oNi Z h lo x B → oNi Z h' lo x B') (hB : B ≤ B') : oStep Z lo h h' B B' := by
  have np : ∀ {a : Addr} {C : String}, Exa Z h a C → C ≠ "com/example/roomyield/roomyield/NightTally$Nights" → ¬ (a = x ∨ h.size ≤ a) := fun Xa hC r => r.elim (Exa.ne Xa X hC) (fun z => Nat.lt_irrefl _ (Nat.lt_of_lt_of_le (oXlt Xa) z))
  have hD : ∀ a x, oBD Z h a x → oBD Z h' a x := fun a x q => ⟨K.exa q.1, K.fld q.2.1 (np q.1 (by decide)), K.fld q.2.2 (np q.1 (by decide))⟩
  refine ⟨fun a C q => K.exa q, hD, fun a y m d q => ⟨K.exa q.1, K.fld q.2.1 (np q.1 (by decide)), K.fld q.2.2.1 (np q.1 (by decide)), K.fld q.2.2.2 (np q.1 (by decide))⟩, fun a n ds v Xa q => K.fld q (np Xa (by decide)), fun a ls A => ⟨ls, rfl, A.kp K (fun r => r.elim (fun z => by obtain ⟨_, A, -⟩ := A; exact ne_arr X wN A z.symm) (fun z => Nat.lt_irrefl _ (Nat.lt_of_lt_of_le A.lt z)))⟩, fun a F => ?_⟩
  by_cases e : a = x
  · subst e; exact hx F
  · obtain ⟨q, Xa, ⟨r, f1, x1, g1, y1⟩, ⟨w, f2, x2, g2, y2⟩, ⟨c1, f3⟩, ⟨c2, f4⟩, ⟨c3, f5⟩⟩ := F
    have na : ¬ (a = x ∨ h.size ≤ a) := fun r => r.elim e (fun z => Nat.lt_irrefl _ (Nat.lt_of_lt_of_le (oXlt Xa) z))
    exact ⟨q, K.exa Xa, ⟨r, K.fld f1 na, x1, hD _ _ g1, y1.mono hB⟩, ⟨w, K.fld f2 na, x2, hD _ _ g2, y2.mono hB⟩, ⟨c1, K.fld f3 na⟩, ⟨c2, K.fld f4 na⟩, ⟨c3, K.fld f5 na⟩⟩
theorem oStep.ne {kB kL kM kN : Nat} (wB : (Jvm.Cond.instantiable "java/math/BigDecimal" kB).before a0 Z = true) (wL : (Jvm.Cond.instantiable "java/time/LocalDate" kL).before a0 Z = true) (wM : (Jvm.Cond.instantiable "com/example/roomyield/roomyield/NightTally$MonthNights" kM).before a0 Z = true) (wN : (Jvm.Cond.instantiable "com/example/roomyield/roomyield/NightTally$Nights" kN).before a0 Z = true) {ty : FieldType} {vs : List Value} (A : oArr Z h b ty vs) : ∀ a C, Exa Z h a C → oCls C ∨ C = "com/example/roomyield/roomyield/NightTally$Nights" → a ≠ b := by
  intro a C X q
  obtain ⟨_, A, -⟩ := A
  rcases q with (rfl | rfl | rfl) | rfl
  · exact ne_arr X wB A
  · exact ne_arr X wL A
  · exact ne_arr X wM A
  · exact ne_arr X wN A
theorem oStep.lst {kB kL kM kN : Nat} (wB : (Jvm.Cond.instantiable "java/math/BigDecimal" kB).before a0 Z = true) (wL : (Jvm.Cond.instantiable "java/time/LocalDate" kL).before a0 Z = true) (wM : (Jvm.Cond.instantiable "com/example/roomyield/roomyield/NightTally$MonthNights" kM).before a0 Z = true) (wN : (Jvm.Cond.instantiable "com/example/roomyield/roomyield/NightTally$Nights" kN).before a0 Z = true) {ls : List Int64} {i : Nat} {v : Int64} (A : oArr Z h b .long (ls.map Value.long)) (W : Wr h h' b i (.long v)) : oStep Z lo h h' B B :=
  oStep.wr W (oStep.ne wB wL wM wN A) fun a l q => by
    by_cases e : a = b
    · subst e
      exact ⟨l.set i v, by rw [List.length_set], (q.same W).eq (by rw [List.map_set])⟩
    · exact ⟨l, rfl, q.other W e⟩
theorem oStep.ast {kB kL kM kN : Nat} (wB : (Jvm.Cond.instantiable "java/math/BigDecimal" kB).before a0 Z = true) (wL : (Jvm.Cond.instantiable "java/time/LocalDate" kL).before a0 Z = true) (wM : (Jvm.Cond.instantiable "com/example/roomyield/roomyield/NightTally$MonthNights" kM).before a0 Z = true) (wN : (Jvm.Cond.instantiable "com/example/roomyield/roomyield/NightTally$Nights" kN).before a0 Z = true) {vs : List Value} {i : Nat} {v : Value} (A : oArO Z h b "com/example/roomyield/roomyield/NightTally$MonthNights" vs) (W : Wr h h' b i v) : oStep Z lo h h' B B :=
  oStep.wr W (oStep.ne wB wL wM wN A.arr) fun a l q => ⟨l, rfl, q.other W (oArr.ne q A.arr (by decide))⟩
theorem oStep.fld {kT : Nat} (wT : (Jvm.Cond.instantiable "com/example/roomyield/roomyield/NightTally" kT).before a0 Z = true) {sl : Nat} {v : Value} (X : Exa Z h b "com/example/roomyield/roomyield/NightTally") (W : Wr h h' b sl v) : oStep Z lo h h' B B :=
  oStep.wr W (fun a C Xa q => by rcases q with (rfl | rfl | rfl) | rfl <;> exact Exa.ne Xa X (by decide)) fun a l q => ⟨l, rfl, q.other W (by obtain ⟨_, A, -⟩ := q; exact fun e => ne_arr X wT A e.symm)⟩
variable {t ma : Addr} {vs : List Value} {f l : Int32}
theorem oNT.ext (F : oNT Z h lo t ma vs B f l) (E : Ext h h') : oNT Z h' lo t ma vs B f l := ⟨F.X.ext E, F.FM.ext E, F.FF.ext E, F.FL.ext E, F.A.ext E, F.hl, fun i v q => (oStep.ext E).me (F.el i v q), F.t1, F.m1⟩
theorem oNT.mono (F : oNT Z h lo t ma vs B f l) (z : B ≤ B') : oNT Z h lo t ma vs B' f l := ⟨F.X, F.FM, F.FF, F.FL, F.A, F.hl, fun i v q => (oStep.mono z).me (F.el i v q), F.t1, F.m1⟩
theorem oNT.ni {x : Addr} {kN : Nat} (F : oNT Z h lo t ma vs B f l) (wN : (Jvm.Cond.instantiable "com/example/roomyield/roomyield/NightTally$Nights" kN).before a0 Z = true) (X : Exa Z h x "com/example/roomyield/roomyield/NightTally$Nights") (K : oKp (fun y => y = x ∨ h.size ≤ y) h h') (S : oStep Z lo h h' B B') : oNT Z h' lo t ma vs B' f l := by
  have nt : ¬ (t = x ∨ h.size ≤ t) := fun r => r.elim (Exa.ne F.X X (by decide)) (fun z => Nat.lt_irrefl _ (Nat.lt_of_lt_of_le (oXlt F.X) z))
  have nm : ¬ (ma = x ∨ h.size ≤ ma) := fun r => r.elim (fun z => by obtain ⟨_, A, -⟩ := F.A; exact ne_arr X wN A z.symm) (fun z => Nat.lt_irrefl _ (Nat.lt_of_lt_of_le F.A.arr.lt z))
  exact ⟨K.exa F.X, K.fld F.FM nt, K.fld F.FF nt, K.fld F.FL nt, F.A.kp K nm, F.hl, fun i v q => S.me (F.el i v q), F.t1, F.m1⟩
theorem oNT.lst {kT : Nat} {ls : List Int64} {i : Nat} {v : Int64} (F : oNT Z h lo t ma vs B f l) (wT : (Jvm.Cond.instantiable "com/example/roomyield/roomyield/NightTally" kT).before a0 Z = true) (A : oArr Z h b .long (ls.map Value.long)) (W : Wr h h' b i (.long v)) (S : oStep Z lo h h' B B) : oNT Z h' lo t ma vs B f l := by
  have nt : t ≠ b := by obtain ⟨_, A, -⟩ := A; exact ne_arr F.X wT A
  exact ⟨F.X.wr W, Fld.other W F.FM (Or.inl nt), Fld.other W F.FF (Or.inl nt), Fld.other W F.FL (Or.inl nt), F.A.other W (Ne.symm (oArr.ne A F.A.arr (by decide))), F.hl, fun i v q => S.me (F.el i v q), F.t1, F.m1⟩
theorem oNT.ast {kT : Nat} {i : Nat} (F : oNT Z h lo t ma vs B f l) (wT : (Jvm.Cond.instantiable "com/example/roomyield/roomyield/NightTally" kT).before a0 Z = true) (W : Wr h h' ma i (.ref a)) (A' : oArO Z h' ma "com/example/roomyield/roomyield/NightTally$MonthNights" (vs.set i (.ref a))) (S : oStep Z lo h h' B B) (G : oMN Z h lo a B (own_mli i)) : oNT Z h' lo t ma (vs.set i (.ref a)) B f l := by
  have nt : t ≠ ma := by obtain ⟨_, A, -⟩ := F.A; exact ne_arr F.X wT A
  refine ⟨F.X.wr W, Fld.other W F.FM (Or.inl nt), Fld.other W F.FF (Or.inl nt), Fld.other W F.FL (Or.inl nt), A', by rw [List.length_set]; exact F.hl, fun j v q => ?_, F.t1, F.m1⟩
  by_cases e : i = j
  · subst e
    by_cases z : i < vs.length
    · rw [List.getElem?_set_self z] at q
      cases q
      exact Or.inr ⟨a, rfl, S.mn G⟩
    · rw [List.getElem?_eq_none (by rw [List.length_set]; omega)] at q
      cases q
  · rw [List.getElem?_set_ne e] at q
    exact S.me (F.el j v q)
theorem oNT.at (F : oNT Z h lo t ma vs B f l) {i : Nat} (hi : i < 120000) : ∃ v, vs[i]? = some v ∧ oMe Z h lo B (own_mli i) v := by
  have hl : i < vs.length := by rw [F.hl]; exact hi
  exact ⟨vs[i], List.getElem?_eq_getElem hl, F.el i _ (List.getElem?_eq_getElem hl)⟩
theorem oNT.le (F : oNT Z h lo t ma vs B f l) : lo ≤ h.size := Nat.le_of_lt (Nat.lt_of_le_of_lt F.t1 (oXlt F.X))
theorem oBD.wrO {sl : Nat} {v : Value} {C : String} {x : Int64} (F : oBD Z h a x) (X : Exa Z h b C) (hC : "java/math/BigDecimal" ≠ C) (W : Wr h h' b sl v) : oBD Z h' a x := by
  have q := Exa.ne F.1 X hC
  exact ⟨F.1.wr W, Fld.other W F.2.1 (Or.inl q), Fld.other W F.2.2 (Or.inl q)⟩
theorem oNi.wrM {sl : Nat} {v : Value} (F : oNi Z h lo a B) (X : Exa Z h b "com/example/roomyield/roomyield/NightTally$MonthNights") (W : Wr h h' b sl v) : oNi Z h' lo a B := by
  obtain ⟨q, Xa, ⟨r, f1, x1, g1, y1⟩, ⟨w, f2, x2, g2, y2⟩, ⟨c1, f3⟩, ⟨c2, f4⟩, ⟨c3, f5⟩⟩ := F
  have n0 : a ≠ b := Exa.ne Xa X (by decide)
  have n : ∀ {p : Prop}, a ≠ b ∨ p := Or.inl n0
  exact ⟨q, Xa.wr W, ⟨r, Fld.other W f1 n, x1, g1.wrO X (by decide) W, y1⟩, ⟨w, Fld.other W f2 n, x2, g2.wrO X (by decide) W, y2⟩, ⟨c1, Fld.other W f3 n⟩, ⟨c2, Fld.other W f4 n⟩, ⟨c3, Fld.other W f5 n⟩⟩
theorem oExtKp {h1 : Heap} (E : Ext h h1) (K : oKp (fun x => x = a ∨ h1.size ≤ x) h1 h2) (ha : h.size ≤ a) : Ext h h2 := by
  refine ⟨Nat.le_trans E.1 K.1, fun x c q => ?_⟩
  obtain ⟨c', e1, -, -, -, e5⟩ := K.2 x c (E.2 x c q)
  have hx : x < h.size := (Array.getElem?_eq_some_iff.mp q).1
  rw [e5 (fun r => r.elim (fun z => Nat.lt_irrefl _ (Nat.lt_of_lt_of_le hx (z ▸ ha))) (fun z => Nat.lt_irrefl _ (Nat.lt_of_lt_of_le hx (Nat.le_trans E.1 z))))] at e1
  exact e1
theorem own_mx {l r : Int32} (h : -1 ≤ l.toInt) : -1 ≤ (own_max l r).toInt := by
  unfold own_max
  split
  · rename_i q; rw [Int32.lt_iff_toInt_lt] at q; omega
  · exact h
theorem own_mx1 {l : Int32} (h : -1 ≤ l.toInt) : own_max l (-1) = l := by
  unfold own_max
  rw [if_neg (by rw [Int32.lt_iff_toInt_lt, show (-1 : Int32).toInt = -1 from rfl]; omega)]
/-- the JDK's statics that are read here -/
def oSt (Z : State) : Prop := (∃ (za : Addr) (vs : List Value), Sta Z Z.heap "java/math/BigDecimal" "ZERO_THROUGH_TEN" "[Ljava/math/BigDecimal;" (.ref za) ∧ oArr Z Z.heap za (.object "java/math/BigDecimal") vs ∧ vs.length = 11 ∧ ∀ i : Nat, i < 11 → ∃ a, vs[i]? = some (.ref a) ∧ oBD Z Z.heap a (Int64.ofNat i)) ∧ (∃ a, Sta Z Z.heap "java/math/BigDecimal" "ZERO" "Ljava/math/BigDecimal;" (.ref a) ∧ oBD Z Z.heap a 0) ∧ (∃ a, Sta Z Z.heap "java/math/BigDecimal" "ONE" "Ljava/math/BigDecimal;" (.ref a) ∧ oBD Z Z.heap a 1) ∧ (∃ a, Sta Z Z.heap "java/time/temporal/ChronoField" "YEAR" "Ljava/time/temporal/ChronoField;" (.ref a) ∧ oCF Z Z.heap a (-999999999) 999999999) ∧ (∃ a, Sta Z Z.heap "java/time/temporal/ChronoField" "MONTH_OF_YEAR" "Ljava/time/temporal/ChronoField;" (.ref a) ∧ oCF Z Z.heap a 1 12) ∧ (∃ a, Sta Z Z.heap "java/time/temporal/ChronoField" "EPOCH_DAY" "Ljava/time/temporal/ChronoField;" (.ref a) ∧ oCF Z Z.heap a (-365243219162) 365241780471) ∧ (∃ a, Sta Z Z.heap "java/math/BigDecimal" "TEN" "Ljava/math/BigDecimal;" (.ref a) ∧ oBD Z Z.heap a 10) ∧ (∃ (ea : Addr) (vs : List Value), Sta Z Z.heap "java/time/Month" "ENUMS" "[Ljava/time/Month;" (.ref ea) ∧ oArr Z Z.heap ea (.object "java/time/Month") vs ∧ vs.length = 12 ∧ ∀ i : Nat, i < 12 → ∃ a, vs[i]? = some (.ref a) ∧ Exa Z Z.heap a "java/time/Month" ∧ Fld Z Z.heap a "java/lang/Enum" "ordinal" "I" (.int (Int32.ofNat i))) ∧ (∃ a, Sta Z Z.heap "java/time/chrono/IsoChronology" "INSTANCE" "Ljava/time/chrono/IsoChronology;" (.ref a) ∧ Exa Z Z.heap a "java/time/chrono/IsoChronology") ∧ (∃ a, Sta Z Z.heap "java/util/Optional" "EMPTY" "Ljava/util/Optional;" (.ref a) ∧ Exa Z Z.heap a "java/util/Optional" ∧ Fld Z Z.heap a "java/util/Optional" "value" "Ljava/lang/Object;" .null)
theorem oSt.ztt {Z : State} (F__ : oSt Z) : ∃ (za : Addr) (vs : List Value), Sta Z Z.heap "java/math/BigDecimal" "ZERO_THROUGH_TEN" "[Ljava/math/BigDecimal;" (.ref za) ∧ oArr Z Z.heap za (.object "java/math/BigDecimal") vs ∧ vs.length = 11 ∧ ∀ i : Nat, i < 11 → ∃ a, vs[i]? = some (.ref a) ∧ oBD Z Z.heap a (Int64.ofNat i) := F__.1
theorem oSt.zero {Z : State} (F__ : oSt Z) : ∃ a, Sta Z Z.heap "java/math/BigDecimal" "ZERO" "Ljava/math/BigDecimal;" (.ref a) ∧ oBD Z Z.heap a 0 := F__.2.1
theorem oSt.one {Z : State} (F__ : oSt Z) : ∃ a, Sta Z Z.heap "java/math/BigDecimal" "ONE" "Ljava/math/BigDecimal;" (.ref a) ∧ oBD Z Z.heap a 1 := F__.2.2.1
theorem oSt.year {Z : State} (F__ : oSt Z) : ∃ a, Sta Z Z.heap "java/time/temporal/ChronoField" "YEAR" "Ljava/time/temporal/ChronoField;" (.ref a) ∧ oCF Z Z.heap a (-999999999) 999999999 := F__.2.2.2.1
theorem oSt.mon {Z : State} (F__ : oSt Z) : ∃ a, Sta Z Z.heap "java/time/temporal/ChronoField" "MONTH_OF_YEAR" "Ljava/time/temporal/ChronoField;" (.ref a) ∧ oCF Z Z.heap a 1 12 := F__.2.2.2.2.1
theorem oSt.epd {Z : State} (F__ : oSt Z) : ∃ a, Sta Z Z.heap "java/time/temporal/ChronoField" "EPOCH_DAY" "Ljava/time/temporal/ChronoField;" (.ref a) ∧ oCF Z Z.heap a (-365243219162) 365241780471 := F__.2.2.2.2.2.1
theorem oSt.ten {Z : State} (F__ : oSt Z) : ∃ a, Sta Z Z.heap "java/math/BigDecimal" "TEN" "Ljava/math/BigDecimal;" (.ref a) ∧ oBD Z Z.heap a 10 := F__.2.2.2.2.2.2.1
theorem oSt.mos {Z : State} (F__ : oSt Z) : ∃ (ea : Addr) (vs : List Value), Sta Z Z.heap "java/time/Month" "ENUMS" "[Ljava/time/Month;" (.ref ea) ∧ oArr Z Z.heap ea (.object "java/time/Month") vs ∧ vs.length = 12 ∧ ∀ i : Nat, i < 12 → ∃ a, vs[i]? = some (.ref a) ∧ Exa Z Z.heap a "java/time/Month" ∧ Fld Z Z.heap a "java/lang/Enum" "ordinal" "I" (.int (Int32.ofNat i)) := F__.2.2.2.2.2.2.2.1
theorem oSt.iso {Z : State} (F__ : oSt Z) : ∃ a, Sta Z Z.heap "java/time/chrono/IsoChronology" "INSTANCE" "Ljava/time/chrono/IsoChronology;" (.ref a) ∧ Exa Z Z.heap a "java/time/chrono/IsoChronology" := F__.2.2.2.2.2.2.2.2.1
theorem oSt.emp {Z : State} (F__ : oSt Z) : ∃ a, Sta Z Z.heap "java/util/Optional" "EMPTY" "Ljava/util/Optional;" (.ref a) ∧ Exa Z Z.heap a "java/util/Optional" ∧ Fld Z Z.heap a "java/util/Optional" "value" "Ljava/lang/Object;" .null := F__.2.2.2.2.2.2.2.2.2
end OwnN
end OwnNL
/-- days before the year y that begins in March -/
def own_D (y : Int) : Int := 365 * y + y / 4 - y / 100 + y / 400
theorem own_dec (y : Int) : ∃ e q p t : Int, y = 400 * e + 100 * q + 4 * p + t ∧ 0 ≤ q ∧ q ≤ 3 ∧ 0 ≤ p ∧ p ≤ 24 ∧ 0 ≤ t ∧ t ≤ 3 ∧ own_D y = 146097 * e + 36524 * q + 1461 * p + 365 * t := by
  refine ⟨y / 400, y % 400 / 100, y % 100 / 4, y % 4, ?_, ?_, ?_, ?_, ?_, ?_, ?_, ?_⟩
  all_goals (try unfold own_D); omega
theorem own_e1 {z y : Int} (hy : y = (400 * z + 591) / 146097) : z < own_D (y + 1) := by
  obtain ⟨e, q, p, t, h1, h2, h3, h4, h5, h6, h7, h8⟩ := own_dec (y + 1)
  rw [h8]; omega
theorem own_e2 {z y : Int} (hy : y = (400 * z + 591) / 146097) : own_D (y - 1) ≤ z := by
  unfold own_D; omega
theorem own_Dm {a b : Int} (h : a ≤ b) : own_D a ≤ own_D b := by
  unfold own_D; omega
theorem own_Dl (y : Int) : own_D (y + 1) - own_D y = if (y + 1) % 4 = 0 ∧ ((y + 1) % 100 ≠ 0 ∨ (y + 1) % 400 = 0) then 366 else 365 := by
  unfold own_D; split <;> omega
theorem own_Dp (y : Int) : own_D (y - 400) = own_D y - 146097 := by unfold own_D; omega
/-- March's month and the day of it -/
theorem own_mm {n m : Int} (h0 : 0 ≤ n) (h1 : n ≤ 365) (hm : m = (n * 5 + 2) / 153) : 0 ≤ m ∧ m ≤ 11 ∧ (m * 306 + 5) / 10 ≤ n ∧ (n < ((m + 1) * 306 + 5) / 10) ∧ (306 ≤ n ↔ 10 ≤ m) := by omega
theorem own_mlx {m : Int} (h0 : 0 ≤ m) (h1 : m ≤ 10) : ((m + 1) * 306 + 5) / 10 - (m * 306 + 5) / 10 = if m = 1 ∨ m = 3 ∨ m = 6 ∨ m = 8 then 30 else 31 := by
  have : m = 0 ∨ m = 1 ∨ m = 2 ∨ m = 3 ∨ m = 4 ∨ m = 5 ∨ m = 6 ∨ m = 7 ∨ m = 8 ∨ m = 9 ∨ m = 10 := by omega
  rcases this with rfl | rfl | rfl | rfl | rfl | rfl | rfl | rfl | rfl | rfl | rfl <;> decide
/-- the order of days is the order of the keys -/
theorem own_ord {a b ya na yb nb : Int} (ha : a = own_D ya + na) (h1 : 0 ≤ na) (h2 : na < own_D (ya + 1) - own_D ya) (hb : b = own_D yb + nb) (h3 : 0 ≤ nb) (h4 : nb < own_D (yb + 1) - own_D yb) (h : a < b) : ya < yb ∨ (ya = yb ∧ na < nb) := by
  rcases Int.lt_trichotomy ya yb with q | q | q
  · exact Or.inl q
  · subst q; exact Or.inr ⟨rfl, by omega⟩
  · have := own_Dm (show yb + 1 ≤ ya by omega); omega
theorem own_d31 {n m : Int} (h0 : 0 ≤ n) (h1 : n ≤ 365) (hm : m = (n * 5 + 2) / 153) : 1 ≤ n - (m * 306 + 5) / 10 + 1 ∧ n - (m * 306 + 5) / 10 + 1 ≤ 31 := by
  have a := own_mm h0 h1 hm
  omega
theorem own_ord2 {na nb ma mb da db : Int} (h1 : 0 ≤ na) (h2 : nb ≤ 365) (ha : ma = (na * 5 + 2) / 153) (hb : mb = (nb * 5 + 2) / 153) (hda : da = na - (ma * 306 + 5) / 10 + 1) (hdb : db = nb - (mb * 306 + 5) / 10 + 1) (h : na < nb) : ma * 32 + da < mb * 32 + db := by
  have a := own_d31 h1 (by omega) ha
  have b := own_d31 (by omega) h2 hb
  rw [← hda] at a
  rw [← hdb] at b
  rcases Int.lt_trichotomy ma mb with q | q | q
  · omega
  · rw [q] at hda ⊢; omega
  · omega
theorem own_add64 {x y : Int64} {a b : Int} (hx : x.toInt = a) (hy : y.toInt = b) (h : -4000000000000000000 ≤ a + b ∧ a + b ≤ 4000000000000000000) : (x + y).toInt = a + b := by
  rw [Int64.toInt_add, hx, hy, Int.bmod_def]; omega
theorem own_sub64 {x y : Int64} {a b : Int} (hx : x.toInt = a) (hy : y.toInt = b) (h : -4000000000000000000 ≤ a - b ∧ a - b ≤ 4000000000000000000) : (x - y).toInt = a - b := by
  rw [Int64.toInt_sub, hx, hy, Int.bmod_def]; omega
theorem own_mul64 {x y : Int64} {a b : Int} (hx : x.toInt = a) (hy : y.toInt = b) (h : -4000000000000000000 ≤ a * b ∧ a * b ≤ 4000000000000000000) : (x * y).toInt = a * b := by
  rw [Int64.toInt_mul, hx, hy, Int.bmod_def]; omega
theorem own_div64 {x y : Int64} {a b : Int} (hx : x.toInt = a) (hy : y.toInt = b) (ha : 0 ≤ a ∧ a ≤ 4000000000000000000) (hb : 0 < b) : (x / y).toInt = a / b := by
  have q := Int.ediv_nonneg ha.1 (show 0 ≤ b by omega)
  have r := Int.ediv_le_self b ha.1
  rw [Int64.toInt_div, hx, hy, Int.tdiv_eq_ediv_of_nonneg ha.1, Int.bmod_def]; omega
theorem own_lpI {y : Int32} (h : 0 ≤ y.toInt) : own_leap y.toInt64 ↔ (y.toInt % 4 = 0 ∧ (¬ y.toInt % 100 = 0 ∨ y.toInt % 400 = 0)) := by
  have a : y.toInt64 &&& 3 = 0 ↔ y.toInt % 4 = 0 := by
    rw [← Int64.toInt_inj, c_maskL y.toInt64 3 2 (by decide) (by decide), own_i64, show (0 : Int64).toInt = 0 from rfl]
    omega
  have hlt := Int32.toInt_lt y
  have b : ∀ k : Int64, 0 < k.toInt → k.toInt < 1000 → (y.toInt64 - y.toInt64 / k * k = 0 ↔ y.toInt % k.toInt = 0) := fun k hk hk2 => by
    have a1 := own_div64 (x := y.toInt64) (y := k) own_i64 rfl (by omega) hk
    have q0 := Int.ediv_nonneg h (show 0 ≤ k.toInt by omega)
    have q1 : y.toInt / k.toInt * k.toInt ≤ y.toInt := Int.ediv_mul_le _ (by omega)
    have q2 : 0 ≤ y.toInt / k.toInt * k.toInt := Int.mul_nonneg q0 (by omega)
    have a2 := own_mul64 a1 (rfl : k.toInt = k.toInt) (by omega)
    have a3 := own_sub64 (x := y.toInt64) own_i64 a2 (by omega)
    rw [← Int64.toInt_inj, a3, show (0 : Int64).toInt = 0 from rfl, Int.emod_def, Int.mul_comm k.toInt]
  have b1 := b 100 (by decide) (by decide)
  have b4 := b 400 (by decide) (by decide)
  rw [show (100 : Int64).toInt = 100 by decide] at b1
  rw [show (400 : Int64).toInt = 400 by decide] at b4
  unfold own_leap
  rw [a, b1, b4]
/-- the day's month and day -/
theorem own_mk {Y n mm : Int} {y m d : Int32} (h1 : 0 ≤ n) (h2 : n < own_D (Y + 1) - own_D Y) (hmm : mm = (n * 5 + 2) / 153) (hym : (n < 306 ∧ y.toInt = Y ∧ m.toInt = mm + 3) ∨ (306 ≤ n ∧ y.toInt = Y + 1 ∧ m.toInt = mm - 9)) (hd : d.toInt = n - (mm * 306 + 5) / 10 + 1) (hy : 0 ≤ y.toInt ∧ y.toInt ≤ 9999) : oDt y m d ∧ y.toInt * 12 + m.toInt - 1 = 12 * Y + mm + 2 := by
  have hl := own_Dl Y
  have hn : n ≤ 365 := by split at hl <;> omega
  have a := own_mm h1 hn hmm
  have b := own_d31 h1 hn hmm
  have hm12 : 1 ≤ m.toInt ∧ m.toInt ≤ 12 := by omega
  refine ⟨⟨hy, hm12, by omega, by omega, ?_⟩, by omega⟩
  have key : (d.toInt ≤ (own_mle (m.toInt.toNat - 1) (if own_leap y.toInt64 then 1 else 0) : Int)) := by
    by_cases h11 : mm = 11
    · have em : m.toInt.toNat - 1 = 1 := by omega
      have ey : y.toInt = Y + 1 := by omega
      rw [em]
      show d.toInt ≤ ((if (if own_leap y.toInt64 then (1 : Int32) else 0) = 0 then 28 else 29 : Nat) : Int)
      by_cases hL : own_leap y.toInt64
      · rw [if_pos hL, if_neg (by decide)]
        split at hl <;> omega
      · rw [if_neg hL, if_pos rfl]
        rw [own_lpI hy.1, ey] at hL
        rw [if_neg hL] at hl
        omega
    · have q := own_mlx (m := mm) (by omega) (by omega)
      have hh : mm = 0 ∨ mm = 1 ∨ mm = 2 ∨ mm = 3 ∨ mm = 4 ∨ mm = 5 ∨ mm = 6 ∨ mm = 7 ∨ mm = 8 ∨ mm = 9 ∨ mm = 10 := by omega
      have hmn : m.toInt.toNat - 1 = (if mm ≤ 9 then mm + 2 else mm - 10).toNat := by split <;> omega
      rw [hmn]
      have hub : d.toInt ≤ ((mm + 1) * 306 + 5) / 10 - (mm * 306 + 5) / 10 := by omega
      refine Int.le_trans hub ?_
      rw [q]
      rcases hh with rfl | rfl | rfl | rfl | rfl | rfl | rfl | rfl | rfl | rfl | rfl <;> simp [own_mle]
  exact key
def own_date (x : Int) (y m d : Int32) : Prop := oDt y m d ∧ ∃ Y n mm : Int, x = own_D Y + n ∧ 0 ≤ n ∧ n < own_D (Y + 1) - own_D Y ∧ mm = (n * 5 + 2) / 153 ∧ y.toInt * 12 + m.toInt - 1 = 12 * Y + mm + 2 ∧ d.toInt = n - (mm * 306 + 5) / 10 + 1
theorem own_dlt {x x' : Int} {y m d y' m' d' : Int32} (h : own_date x y m d) (g : own_date x' y' m' d') (q : x < x') : own_key y m d < own_key y' m' d' := by
  obtain ⟨h0, Y, n, mm, h1, h2, h3, h4, h5, h6⟩ := h
  obtain ⟨g0, Y', n', mm', g1, g2, g3, g4, g5, g6⟩ := g
  have l1 := own_Dl Y
  have l2 := own_Dl Y'
  have n1 : n ≤ 365 := by split at l1 <;> omega
  have n2 : n' ≤ 365 := by split at l2 <;> omega
  have a := own_mm h2 n1 h4
  have a' := own_mm g2 n2 g4
  have b := own_d31 h2 n1 h4
  have b' := own_d31 g2 n2 g4
  unfold own_key
  rcases own_ord h1 h2 h3 g1 g2 g3 q with z | ⟨z, w⟩
  · omega
  · have := own_ord2 (da := d.toInt) (db := d'.toInt) h2 n2 h4 g4 h6 g6 w
    omega
theorem own_deq {x : Int} {y m d y' m' d' : Int32} (h : own_date x y m d) (g : own_date x y' m' d') : own_key y m d = own_key y' m' d' := by
  obtain ⟨h0, Y, n, mm, h1, h2, h3, h4, h5, h6⟩ := h
  obtain ⟨g0, Y', n', mm', g1, g2, g3, g4, g5, g6⟩ := g
  have e : Y = Y' := by
    rcases Int.lt_trichotomy Y Y' with z | z | z
    · have := own_Dm (show Y + 1 ≤ Y' by omega); omega
    · exact z
    · have := own_Dm (show Y' + 1 ≤ Y by omega); omega
  subst e
  have e2 : n = n' := by omega
  subst e2
  have e3 : mm = mm' := by rw [h4, g4]
  subst e3
  unfold own_key
  omega
def own_f (z y : Int64) : Int64 := z - (365 * y + y / 4 - y / 100 + y / 400)
theorem own_fI {z y : Int64} (hy : 0 ≤ y.toInt ∧ y.toInt ≤ 100000) (hz : 0 ≤ z.toInt ∧ z.toInt ≤ 100000000) : (own_f z y).toInt = z.toInt - own_D y.toInt := by
  have e365 : (365 : Int64).toInt = 365 := by decide
  have e4 : (4 : Int64).toInt = 4 := by decide
  have e100 : (100 : Int64).toInt = 100 := by decide
  have e400 : (400 : Int64).toInt = 400 := by decide
  have a1 := own_mul64 e365 (rfl : y.toInt = y.toInt) (by omega)
  have a2 := own_div64 (rfl : y.toInt = y.toInt) e4 (by omega) (by decide)
  have a3 := own_div64 (rfl : y.toInt = y.toInt) e100 (by omega) (by decide)
  have a4 := own_div64 (rfl : y.toInt = y.toInt) e400 (by omega) (by decide)
  have b1 := own_add64 a1 a2 (by omega)
  have b2 := own_sub64 b1 a3 (by omega)
  have b3 := own_add64 b2 a4 (by omega)
  have b4 := own_sub64 (rfl : z.toInt = z.toInt) b3 (by omega)
  unfold own_f own_D
  exact b4
def own_y0 (z : Int64) : Int64 := (400 * z + 591) / 146097
theorem own_y0I {z : Int64} (hz : 0 ≤ z.toInt ∧ z.toInt ≤ 100000000) : (own_y0 z).toInt = (400 * z.toInt + 591) / 146097 := by
  have e400 : (400 : Int64).toInt = 400 := by decide
  have e591 : (591 : Int64).toInt = 591 := by decide
  have e14 : (146097 : Int64).toInt = 146097 := by decide
  have a1 := own_mul64 e400 (rfl : z.toInt = z.toInt) (by omega)
  have a2 := own_add64 a1 e591 (by omega)
  exact own_div64 a2 e14 (by omega) (by decide)
/-- the year and the day in it, after the guess -/
theorem own_guess {z y n : Int64} (hz : 0 ≤ z.toInt ∧ z.toInt ≤ 4000000) (hy : y = own_y0 z) (hn : n = own_f z y) : 0 ≤ y.toInt ∧ y.toInt ≤ 20000 ∧ (¬ n < 0 → 0 ≤ n.toInt ∧ z.toInt = own_D y.toInt + n.toInt ∧ n.toInt < own_D (y.toInt + 1) - own_D y.toInt) ∧ (n < 0 → 0 ≤ (y - 1).toInt ∧ (y - 1).toInt = y.toInt - 1 ∧ 0 ≤ (own_f z (y - 1)).toInt ∧ z.toInt = own_D (y - 1).toInt + (own_f z (y - 1)).toInt ∧ (own_f z (y - 1)).toInt < own_D ((y - 1).toInt + 1) - own_D (y - 1).toInt) := by
  have e0 := own_y0I (z := z) (by omega)
  rw [← hy] at e0
  have hyb : 0 ≤ y.toInt ∧ y.toInt ≤ 20000 := by omega
  have e1 := own_e1 e0
  have e2 := own_e2 e0
  have ef := own_fI (z := z) (y := y) (by omega) (by omega)
  rw [← hn] at ef
  refine ⟨hyb.1, hyb.2, fun q => ?_, fun q => ?_⟩
  · rw [Int64.lt_iff_toInt_lt, show (0 : Int64).toInt = 0 from rfl] at q
    omega
  · rw [Int64.lt_iff_toInt_lt, show (0 : Int64).toInt = 0 from rfl] at q
    have hy1 : y.toInt ≠ 0 := fun z0 => by rw [z0, show own_D 0 = 0 by decide] at ef; omega
    have es := own_sub64 (rfl : y.toInt = y.toInt) (show (1 : Int64).toInt = 1 by decide) (by omega)
    have ef1 := own_fI (z := z) (y := y - 1) (by omega) (by omega)
    rw [es] at ef1
    rw [es, ef1, show y.toInt - 1 + 1 = y.toInt by omega]
    omega
/-- March's month, the day -/
theorem own_mI {n : Int32} (h : 0 ≤ n.toInt ∧ n.toInt ≤ 365) : ((n * 5 + 2) / 153).toInt = (n.toInt * 5 + 2) / 153 ∧ (n - ((n * 5 + 2) / 153 * 306 + 5) / 10 + 1).toInt = n.toInt - ((n.toInt * 5 + 2) / 153 * 306 + 5) / 10 + 1 := by
  have a : (n * 5 + 2).toInt = n.toInt * 5 + 2 := by
    rw [Int32.toInt_add, Int32.toInt_mul, show (5 : Int32).toInt = 5 from rfl, show (2 : Int32).toInt = 2 from rfl]
    simp only [Int.bmod_def]; omega
  have b : ((n * 5 + 2) / 153).toInt = (n.toInt * 5 + 2) / 153 := by
    rw [Int32.toInt_div, a, show (153 : Int32).toInt = 153 from rfl, Int.tdiv_eq_ediv_of_nonneg (by omega), Int.bmod_def]; omega
  have c : ((n * 5 + 2) / 153 * 306 + 5).toInt = (n.toInt * 5 + 2) / 153 * 306 + 5 := by
    rw [Int32.toInt_add, Int32.toInt_mul, b, show (306 : Int32).toInt = 306 from rfl, show (5 : Int32).toInt = 5 from rfl]
    simp only [Int.bmod_def]; omega
  have d : (((n * 5 + 2) / 153 * 306 + 5) / 10).toInt = ((n.toInt * 5 + 2) / 153 * 306 + 5) / 10 := by
    rw [Int32.toInt_div, c, show (10 : Int32).toInt = 10 from rfl, Int.tdiv_eq_ediv_of_nonneg (by omega), Int.bmod_def]; omega
  refine ⟨b, ?_⟩
  rw [Int32.toInt_add, Int32.toInt_sub, d, show (1 : Int32).toInt = 1 from rfl]
  simp only [Int.bmod_def]; omega
theorem own_l2iI {x : Int64} (h : -1000000 ≤ x.toInt ∧ x.toInt ≤ 1000000) : x.toInt32.toInt = x.toInt := by
  rw [Int64.toInt_toInt32, Int.bmod_def]; omega
theorem own_lm0 {y1 m1 d1 y2 m2 d2 : Int32} (h : oDt y1 m1 d1) (g : oDt y2 m2 d2) (hk : own_key y1 m1 d1 < own_key y2 m2 d2) : 0 ≤ (own_lm y2 m2 d2).toInt := by
  have e1 := own_ixI h
  have e2 := own_ixI g
  unfold own_key at hk
  obtain ⟨h1, h2, h3⟩ := h
  obtain ⟨g1, g2, g3⟩ := g
  unfold own_lm
  split
  · rename_i q
    have q2 := congrArg Int32.toInt q
    rw [show (1 : Int32).toInt = 1 from rfl] at q2
    rw [Int32.toInt_sub, e2, show (1 : Int32).toInt = 1 from rfl, Int.bmod_def]
    omega
  · rw [e2]; omega
theorem own_back {f : Int32} (h : 0 ≤ f.toInt) : f / 12 * 12 + (f % 12 + 1) - 1 = f := by
  have hlt := Int32.toInt_lt f
  apply Int32.toInt_inj.mp
  have a : (f / 12).toInt = f.toInt / 12 := by
    rw [Int32.toInt_div, show (12 : Int32).toInt = 12 from rfl, Int.tdiv_eq_ediv_of_nonneg h, Int.bmod_def]; omega
  have b : (f % 12).toInt = f.toInt % 12 := by
    rw [Int32.toInt_mod, show (12 : Int32).toInt = 12 from rfl, Int.tmod_eq_emod_of_nonneg h]
  rw [Int32.toInt_sub, Int32.toInt_add, Int32.toInt_mul, Int32.toInt_add, a, b, show (12 : Int32).toInt = 12 from rfl, show (1 : Int32).toInt = 1 from rfl]
  simp only [Int.bmod_def]; omega
theorem own_mnI {x z : Int32} : (own_mn x z).toInt = min x.toInt z.toInt := by
  unfold own_mn
  split
  · rename_i q; rw [Int32.lt_iff_toInt_lt] at q; omega
  · rename_i q; rw [Int32.lt_iff_toInt_lt] at q; omega
theorem tw0 {Z : State} {a0 : Array Value} (hw : ∀ d ∈ tables_1, d.before a0 Z = true) : ((Jvm.Cond.methodLink "com/example/roomyield/roomyield/NightTallyFirstMonthPinLaw" (9 : Nat) ({ cls := "com/example/roomyield/roomyield/NightTallyFirstMonthPinLaw", name := "start", desc := "(I)J" } : Jvm.MethodName))).before a0 Z = true := hw _ (List.mem_of_getElem? (i := 0) rfl)
theorem tw1 {Z : State} {a0 : Array Value} (hw : ∀ d ∈ tables_1, d.before a0 Z = true) : ((Jvm.Cond.static ({ cls := "com/example/roomyield/roomyield/NightTallyFirstMonthPinLaw", name := "start", desc := "(I)J" } : Jvm.MethodName))).before a0 Z = true := hw _ (List.mem_of_getElem? (i := 1) rfl)
theorem tw2 {Z : State} {a0 : Array Value} (hw : ∀ d ∈ tables_1, d.before a0 Z = true) : ((Jvm.Cond.initialized "com/example/roomyield/roomyield/NightTallyFirstMonthPinLaw")).before a0 Z = true := hw _ (List.mem_of_getElem? (i := 2) rfl)
theorem tw3 {Z : State} {a0 : Array Value} (hw : ∀ d ∈ tables_1, d.before a0 Z = true) : ((Jvm.Cond.code ({ cls := "com/example/roomyield/roomyield/NightTallyFirstMonthPinLaw", name := "start", desc := "(I)J" } : Jvm.MethodName) method_2_code (1 : Nat) (Option.some Jvm.ClassFile.FieldType.long))).before a0 Z = true := hw _ (List.mem_of_getElem? (i := 3) rfl)
theorem tw4 {Z : State} {a0 : Array Value} (hw : ∀ d ∈ tables_1, d.before a0 Z = true) : ((Jvm.Cond.constant "com/example/roomyield/roomyield/NightTallyFirstMonthPinLaw" (7 : Nat) (2147483647 : Int32))).before a0 Z = true := hw _ (List.mem_of_getElem? (i := 4) rfl)
theorem tw5 {Z : State} {a0 : Array Value} (hw : ∀ d ∈ tables_1, d.before a0 Z = true) : ((Jvm.Cond.constant "com/example/roomyield/roomyield/NightTallyFirstMonthPinLaw" (8 : Nat) (3652425 : Int32))).before a0 Z = true := hw _ (List.mem_of_getElem? (i := 5) rfl)
theorem tw6 {Z : State} {a0 : Array Value} (hw : ∀ d ∈ tables_1, d.before a0 Z = true) : ((Jvm.Cond.methodLink "com/example/roomyield/roomyield/NightTallyFirstMonthPinLaw" (47 : Nat) ({ cls := "com/example/roomyield/roomyield/NightTallyFirstMonthPinLaw", name := "other", desc := "(III)J" } : Jvm.MethodName))).before a0 Z = true := hw _ (List.mem_of_getElem? (i := 6) rfl)
theorem tw7 {Z : State} {a0 : Array Value} (hw : ∀ d ∈ tables_1, d.before a0 Z = true) : ((Jvm.Cond.static ({ cls := "com/example/roomyield/roomyield/NightTallyFirstMonthPinLaw", name := "other", desc := "(III)J" } : Jvm.MethodName))).before a0 Z = true := hw _ (List.mem_of_getElem? (i := 7) rfl)
theorem tw8 {Z : State} {a0 : Array Value} (hw : ∀ d ∈ tables_1, d.before a0 Z = true) : ((Jvm.Cond.code ({ cls := "com/example/roomyield/roomyield/NightTallyFirstMonthPinLaw", name := "other", desc := "(III)J" } : Jvm.MethodName) method_3_code (7 : Nat) (Option.some Jvm.ClassFile.FieldType.long))).before a0 Z = true := hw _ (List.mem_of_getElem? (i := 8) rfl)
theorem tw9 {Z : State} {a0 : Array Value} (hw : ∀ d ∈ tables_1, d.before a0 Z = true) : ((Jvm.Cond.methodLink "com/example/roomyield/roomyield/NightTallyFirstMonthPinLaw" (17 : Nat) ({ cls := "java/lang/Math", name := "min", desc := "(JJ)J" } : Jvm.MethodName))).before a0 Z = true := hw _ (List.mem_of_getElem? (i := 9) rfl)
theorem tw10 {Z : State} {a0 : Array Value} (hw : ∀ d ∈ tables_1, d.before a0 Z = true) : ((Jvm.Cond.static ({ cls := "java/lang/Math", name := "min", desc := "(JJ)J" } : Jvm.MethodName))).before a0 Z = true := hw _ (List.mem_of_getElem? (i := 10) rfl)
theorem tw11 {Z : State} {a0 : Array Value} (hw : ∀ d ∈ tables_1, d.before a0 Z = true) : ((Jvm.Cond.initialized "java/lang/Math")).before a0 Z = true := hw _ (List.mem_of_getElem? (i := 11) rfl)
theorem tw12 {Z : State} {a0 : Array Value} (hw : ∀ d ∈ tables_1, d.before a0 Z = true) : ((Jvm.Cond.code ({ cls := "java/lang/Math", name := "min", desc := "(JJ)J" } : Jvm.MethodName) jdk_29_method_70_code (4 : Nat) (Option.some Jvm.ClassFile.FieldType.long))).before a0 Z = true := hw _ (List.mem_of_getElem? (i := 12) rfl)
theorem tw13 {Z : State} {a0 : Array Value} (hw : ∀ d ∈ tables_1, d.before a0 Z = true) : ((Jvm.Cond.methodLink "com/example/roomyield/roomyield/NightTallyFirstMonthPinLaw" (51 : Nat) ({ cls := "java/lang/Math", name := "max", desc := "(JJ)J" } : Jvm.MethodName))).before a0 Z = true := hw _ (List.mem_of_getElem? (i := 13) rfl)
theorem tw14 {Z : State} {a0 : Array Value} (hw : ∀ d ∈ tables_1, d.before a0 Z = true) : ((Jvm.Cond.static ({ cls := "java/lang/Math", name := "max", desc := "(JJ)J" } : Jvm.MethodName))).before a0 Z = true := hw _ (List.mem_of_getElem? (i := 14) rfl)
theorem tw15 {Z : State} {a0 : Array Value} (hw : ∀ d ∈ tables_1, d.before a0 Z = true) : ((Jvm.Cond.code ({ cls := "java/lang/Math", name := "max", desc := "(JJ)J" } : Jvm.MethodName) jdk_29_method_66_code (4 : Nat) (Option.some Jvm.ClassFile.FieldType.long))).before a0 Z = true := hw _ (List.mem_of_getElem? (i := 15) rfl)
theorem tw16 {Z : State} {a0 : Array Value} (hw : ∀ d ∈ tables_1, d.before a0 Z = true) : ((Jvm.Cond.methodLink "com/example/roomyield/roomyield/NightTallyFirstMonthPinLaw" (54 : Nat) ({ cls := "com/example/roomyield/roomyield/NightTallyFirstMonthPinLaw", name := "date", desc := "(J)Ljava/time/LocalDate;" } : Jvm.MethodName))).before a0 Z = true := hw _ (List.mem_of_getElem? (i := 16) rfl)
theorem tw17 {Z : State} {a0 : Array Value} (hw : ∀ d ∈ tables_1, d.before a0 Z = true) : ((Jvm.Cond.static ({ cls := "com/example/roomyield/roomyield/NightTallyFirstMonthPinLaw", name := "date", desc := "(J)Ljava/time/LocalDate;" } : Jvm.MethodName))).before a0 Z = true := hw _ (List.mem_of_getElem? (i := 17) rfl)
theorem tw18 {Z : State} {a0 : Array Value} (hw : ∀ d ∈ tables_1, d.before a0 Z = true) : ((Jvm.Cond.code ({ cls := "com/example/roomyield/roomyield/NightTallyFirstMonthPinLaw", name := "date", desc := "(J)Ljava/time/LocalDate;" } : Jvm.MethodName) method_4_code (2 : Nat) (Option.some (Jvm.ClassFile.FieldType.object "java/time/LocalDate")))).before a0 Z = true := hw _ (List.mem_of_getElem? (i := 18) rfl)
theorem tw19 {Z : State} {a0 : Array Value} (hw : ∀ d ∈ tables_1, d.before a0 Z = true) : ((Jvm.Cond.constantLong "com/example/roomyield/roomyield/NightTallyFirstMonthPinLaw" (23 : Nat) (-719528 : Int64))).before a0 Z = true := hw _ (List.mem_of_getElem? (i := 19) rfl)
theorem tw20 {Z : State} {a0 : Array Value} (hw : ∀ d ∈ tables_1, d.before a0 Z = true) : ((Jvm.Cond.methodLink "com/example/roomyield/roomyield/NightTallyFirstMonthPinLaw" (25 : Nat) ({ cls := "java/time/LocalDate", name := "ofEpochDay", desc := "(J)Ljava/time/LocalDate;" } : Jvm.MethodName))).before a0 Z = true := hw _ (List.mem_of_getElem? (i := 20) rfl)
theorem tw21 {Z : State} {a0 : Array Value} (hw : ∀ d ∈ tables_1, d.before a0 Z = true) : ((Jvm.Cond.static ({ cls := "java/time/LocalDate", name := "ofEpochDay", desc := "(J)Ljava/time/LocalDate;" } : Jvm.MethodName))).before a0 Z = true := hw _ (List.mem_of_getElem? (i := 21) rfl)
theorem tw22 {Z : State} {a0 : Array Value} (hw : ∀ d ∈ tables_1, d.before a0 Z = true) : ((Jvm.Cond.initialized "java/time/LocalDate")).before a0 Z = true := hw _ (List.mem_of_getElem? (i := 22) rfl)
theorem tw23 {Z : State} {a0 : Array Value} (hw : ∀ d ∈ tables_1, d.before a0 Z = true) : ((Jvm.Cond.code ({ cls := "java/time/LocalDate", name := "ofEpochDay", desc := "(J)Ljava/time/LocalDate;" } : Jvm.MethodName) jdk_2323_method_8_code (14 : Nat) (Option.some (Jvm.ClassFile.FieldType.object "java/time/LocalDate")))).before a0 Z = true := hw _ (List.mem_of_getElem? (i := 23) rfl)
theorem tw24 {Z : State} {a0 : Array Value} (hw : ∀ d ∈ tables_1, d.before a0 Z = true) : ((Jvm.Cond.fieldLink "java/time/LocalDate" (161 : Nat) "java/time/temporal/ChronoField" "EPOCH_DAY" "Ljava/time/temporal/ChronoField;")).before a0 Z = true := hw _ (List.mem_of_getElem? (i := 24) rfl)
theorem tw25 {Z : State} {a0 : Array Value} (hw : ∀ d ∈ tables_1, d.before a0 Z = true) : ((Jvm.Cond.initialized "java/time/temporal/ChronoField")).before a0 Z = true := hw _ (List.mem_of_getElem? (i := 25) rfl)
theorem tw26 {Z : State} {a0 : Array Value} (hw : ∀ d ∈ tables_1, d.before a0 Z = true) : ((Jvm.Cond.methodLink "java/time/LocalDate" (45 : Nat) ({ cls := "java/time/temporal/ChronoField", name := "checkValidValue", desc := "(J)J" } : Jvm.MethodName))).before a0 Z = true := hw _ (List.mem_of_getElem? (i := 26) rfl)
theorem tw27 {Z : State} {a0 : Array Value} (hw : ∀ d ∈ tables_1, d.before a0 Z = true) : ((Jvm.Cond.declares ({ cls := "java/time/temporal/ChronoField", name := "checkValidValue", desc := "(J)J" } : Jvm.MethodName))).before a0 Z = true := hw _ (List.mem_of_getElem? (i := 27) rfl)
theorem tw28 {Z : State} {a0 : Array Value} (hw : ∀ d ∈ tables_1, d.before a0 Z = true) : ((Jvm.Cond.instanceMethod ({ cls := "java/time/temporal/ChronoField", name := "checkValidValue", desc := "(J)J" } : Jvm.MethodName))).before a0 Z = true := hw _ (List.mem_of_getElem? (i := 28) rfl)
theorem tw29 {Z : State} {a0 : Array Value} (hw : ∀ d ∈ tables_1, d.before a0 Z = true) : ((Jvm.Cond.selects "java/time/temporal/ChronoField" ({ cls := "java/time/temporal/ChronoField", name := "checkValidValue", desc := "(J)J" } : Jvm.MethodName) ({ cls := "java/time/temporal/ChronoField", name := "checkValidValue", desc := "(J)J" } : Jvm.MethodName))).before a0 Z = true := hw _ (List.mem_of_getElem? (i := 29) rfl)
theorem tw30 {Z : State} {a0 : Array Value} (hw : ∀ d ∈ tables_1, d.before a0 Z = true) : ((Jvm.Cond.code ({ cls := "java/time/temporal/ChronoField", name := "checkValidValue", desc := "(J)J" } : Jvm.MethodName) jdk_2395_method_11_code (3 : Nat) (Option.some Jvm.ClassFile.FieldType.long))).before a0 Z = true := hw _ (List.mem_of_getElem? (i := 30) rfl)
theorem tw31 {Z : State} {a0 : Array Value} (hw : ∀ d ∈ tables_1, d.before a0 Z = true) : ((Jvm.Cond.methodLink "java/time/temporal/ChronoField" (190 : Nat) ({ cls := "java/time/temporal/ChronoField", name := "range", desc := "()Ljava/time/temporal/ValueRange;" } : Jvm.MethodName))).before a0 Z = true := hw _ (List.mem_of_getElem? (i := 31) rfl)
theorem tw32 {Z : State} {a0 : Array Value} (hw : ∀ d ∈ tables_1, d.before a0 Z = true) : ((Jvm.Cond.declares ({ cls := "java/time/temporal/ChronoField", name := "range", desc := "()Ljava/time/temporal/ValueRange;" } : Jvm.MethodName))).before a0 Z = true := hw _ (List.mem_of_getElem? (i := 32) rfl)
theorem tw33 {Z : State} {a0 : Array Value} (hw : ∀ d ∈ tables_1, d.before a0 Z = true) : ((Jvm.Cond.instanceMethod ({ cls := "java/time/temporal/ChronoField", name := "range", desc := "()Ljava/time/temporal/ValueRange;" } : Jvm.MethodName))).before a0 Z = true := hw _ (List.mem_of_getElem? (i := 33) rfl)
theorem tw34 {Z : State} {a0 : Array Value} (hw : ∀ d ∈ tables_1, d.before a0 Z = true) : ((Jvm.Cond.selects "java/time/temporal/ChronoField" ({ cls := "java/time/temporal/ChronoField", name := "range", desc := "()Ljava/time/temporal/ValueRange;" } : Jvm.MethodName) ({ cls := "java/time/temporal/ChronoField", name := "range", desc := "()Ljava/time/temporal/ValueRange;" } : Jvm.MethodName))).before a0 Z = true := hw _ (List.mem_of_getElem? (i := 34) rfl)
theorem tw35 {Z : State} {a0 : Array Value} (hw : ∀ d ∈ tables_1, d.before a0 Z = true) : ((Jvm.Cond.code ({ cls := "java/time/temporal/ChronoField", name := "range", desc := "()Ljava/time/temporal/ValueRange;" } : Jvm.MethodName) jdk_2395_method_8_code (1 : Nat) (Option.some (Jvm.ClassFile.FieldType.object "java/time/temporal/ValueRange")))).before a0 Z = true := hw _ (List.mem_of_getElem? (i := 35) rfl)
theorem tw36 {Z : State} {a0 : Array Value} (hw : ∀ d ∈ tables_1, d.before a0 Z = true) : ((Jvm.Cond.fieldLink "java/time/temporal/ChronoField" (124 : Nat) "java/time/temporal/ChronoField" "range" "Ljava/time/temporal/ValueRange;")).before a0 Z = true := hw _ (List.mem_of_getElem? (i := 36) rfl)
theorem tw38 {Z : State} {a0 : Array Value} (hw : ∀ d ∈ tables_1, d.before a0 Z = true) : ((Jvm.Cond.methodLink "java/time/temporal/ChronoField" (193 : Nat) ({ cls := "java/time/temporal/ValueRange", name := "checkValidValue", desc := "(JLjava/time/temporal/TemporalField;)J" } : Jvm.MethodName))).before a0 Z = true := hw _ (List.mem_of_getElem? (i := 38) rfl)
theorem tw39 {Z : State} {a0 : Array Value} (hw : ∀ d ∈ tables_1, d.before a0 Z = true) : ((Jvm.Cond.declares ({ cls := "java/time/temporal/ValueRange", name := "checkValidValue", desc := "(JLjava/time/temporal/TemporalField;)J" } : Jvm.MethodName))).before a0 Z = true := hw _ (List.mem_of_getElem? (i := 39) rfl)
theorem tw40 {Z : State} {a0 : Array Value} (hw : ∀ d ∈ tables_1, d.before a0 Z = true) : ((Jvm.Cond.instanceMethod ({ cls := "java/time/temporal/ValueRange", name := "checkValidValue", desc := "(JLjava/time/temporal/TemporalField;)J" } : Jvm.MethodName))).before a0 Z = true := hw _ (List.mem_of_getElem? (i := 40) rfl)
theorem tw41 {Z : State} {a0 : Array Value} (hw : ∀ d ∈ tables_1, d.before a0 Z = true) : ((Jvm.Cond.selects "java/time/temporal/ValueRange" ({ cls := "java/time/temporal/ValueRange", name := "checkValidValue", desc := "(JLjava/time/temporal/TemporalField;)J" } : Jvm.MethodName) ({ cls := "java/time/temporal/ValueRange", name := "checkValidValue", desc := "(JLjava/time/temporal/TemporalField;)J" } : Jvm.MethodName))).before a0 Z = true := hw _ (List.mem_of_getElem? (i := 41) rfl)
theorem tw42 {Z : State} {a0 : Array Value} (hw : ∀ d ∈ tables_1, d.before a0 Z = true) : ((Jvm.Cond.initialized "java/time/temporal/ValueRange")).before a0 Z = true := hw _ (List.mem_of_getElem? (i := 42) rfl)
theorem tw43 {Z : State} {a0 : Array Value} (hw : ∀ d ∈ tables_1, d.before a0 Z = true) : ((Jvm.Cond.code ({ cls := "java/time/temporal/ValueRange", name := "checkValidValue", desc := "(JLjava/time/temporal/TemporalField;)J" } : Jvm.MethodName) jdk_2423_method_13_code (4 : Nat) (Option.some Jvm.ClassFile.FieldType.long))).before a0 Z = true := hw _ (List.mem_of_getElem? (i := 43) rfl)
theorem tw44 {Z : State} {a0 : Array Value} (hw : ∀ d ∈ tables_1, d.before a0 Z = true) : ((Jvm.Cond.methodLink "java/time/temporal/ValueRange" (63 : Nat) ({ cls := "java/time/temporal/ValueRange", name := "isValidValue", desc := "(J)Z" } : Jvm.MethodName))).before a0 Z = true := hw _ (List.mem_of_getElem? (i := 44) rfl)
theorem tw45 {Z : State} {a0 : Array Value} (hw : ∀ d ∈ tables_1, d.before a0 Z = true) : ((Jvm.Cond.declares ({ cls := "java/time/temporal/ValueRange", name := "isValidValue", desc := "(J)Z" } : Jvm.MethodName))).before a0 Z = true := hw _ (List.mem_of_getElem? (i := 45) rfl)
theorem tw46 {Z : State} {a0 : Array Value} (hw : ∀ d ∈ tables_1, d.before a0 Z = true) : ((Jvm.Cond.instanceMethod ({ cls := "java/time/temporal/ValueRange", name := "isValidValue", desc := "(J)Z" } : Jvm.MethodName))).before a0 Z = true := hw _ (List.mem_of_getElem? (i := 46) rfl)
theorem tw47 {Z : State} {a0 : Array Value} (hw : ∀ d ∈ tables_1, d.before a0 Z = true) : ((Jvm.Cond.selects "java/time/temporal/ValueRange" ({ cls := "java/time/temporal/ValueRange", name := "isValidValue", desc := "(J)Z" } : Jvm.MethodName) ({ cls := "java/time/temporal/ValueRange", name := "isValidValue", desc := "(J)Z" } : Jvm.MethodName))).before a0 Z = true := hw _ (List.mem_of_getElem? (i := 47) rfl)
theorem tw48 {Z : State} {a0 : Array Value} (hw : ∀ d ∈ tables_1, d.before a0 Z = true) : ((Jvm.Cond.code ({ cls := "java/time/temporal/ValueRange", name := "isValidValue", desc := "(J)Z" } : Jvm.MethodName) jdk_2423_method_11_code (3 : Nat) (Option.some Jvm.ClassFile.FieldType.boolean))).before a0 Z = true := hw _ (List.mem_of_getElem? (i := 48) rfl)
theorem tw49 {Z : State} {a0 : Array Value} (hw : ∀ d ∈ tables_1, d.before a0 Z = true) : ((Jvm.Cond.methodLink "java/time/temporal/ValueRange" (46 : Nat) ({ cls := "java/time/temporal/ValueRange", name := "getMinimum", desc := "()J" } : Jvm.MethodName))).before a0 Z = true := hw _ (List.mem_of_getElem? (i := 49) rfl)
theorem tw50 {Z : State} {a0 : Array Value} (hw : ∀ d ∈ tables_1, d.before a0 Z = true) : ((Jvm.Cond.declares ({ cls := "java/time/temporal/ValueRange", name := "getMinimum", desc := "()J" } : Jvm.MethodName))).before a0 Z = true := hw _ (List.mem_of_getElem? (i := 50) rfl)
theorem tw51 {Z : State} {a0 : Array Value} (hw : ∀ d ∈ tables_1, d.before a0 Z = true) : ((Jvm.Cond.instanceMethod ({ cls := "java/time/temporal/ValueRange", name := "getMinimum", desc := "()J" } : Jvm.MethodName))).before a0 Z = true := hw _ (List.mem_of_getElem? (i := 51) rfl)
theorem tw52 {Z : State} {a0 : Array Value} (hw : ∀ d ∈ tables_1, d.before a0 Z = true) : ((Jvm.Cond.selects "java/time/temporal/ValueRange" ({ cls := "java/time/temporal/ValueRange", name := "getMinimum", desc := "()J" } : Jvm.MethodName) ({ cls := "java/time/temporal/ValueRange", name := "getMinimum", desc := "()J" } : Jvm.MethodName))).before a0 Z = true := hw _ (List.mem_of_getElem? (i := 52) rfl)
theorem tw53 {Z : State} {a0 : Array Value} (hw : ∀ d ∈ tables_1, d.before a0 Z = true) : ((Jvm.Cond.code ({ cls := "java/time/temporal/ValueRange", name := "getMinimum", desc := "()J" } : Jvm.MethodName) jdk_2423_method_6_code (1 : Nat) (Option.some Jvm.ClassFile.FieldType.long))).before a0 Z = true := hw _ (List.mem_of_getElem? (i := 53) rfl)
theorem tw54 {Z : State} {a0 : Array Value} (hw : ∀ d ∈ tables_1, d.before a0 Z = true) : ((Jvm.Cond.fieldLink "java/time/temporal/ValueRange" (33 : Nat) "java/time/temporal/ValueRange" "minSmallest" "J")).before a0 Z = true := hw _ (List.mem_of_getElem? (i := 54) rfl)
theorem tw56 {Z : State} {a0 : Array Value} (hw : ∀ d ∈ tables_1, d.before a0 Z = true) : ((Jvm.Cond.methodLink "java/time/temporal/ValueRange" (54 : Nat) ({ cls := "java/time/temporal/ValueRange", name := "getMaximum", desc := "()J" } : Jvm.MethodName))).before a0 Z = true := hw _ (List.mem_of_getElem? (i := 56) rfl)
theorem tw57 {Z : State} {a0 : Array Value} (hw : ∀ d ∈ tables_1, d.before a0 Z = true) : ((Jvm.Cond.declares ({ cls := "java/time/temporal/ValueRange", name := "getMaximum", desc := "()J" } : Jvm.MethodName))).before a0 Z = true := hw _ (List.mem_of_getElem? (i := 57) rfl)
theorem tw58 {Z : State} {a0 : Array Value} (hw : ∀ d ∈ tables_1, d.before a0 Z = true) : ((Jvm.Cond.instanceMethod ({ cls := "java/time/temporal/ValueRange", name := "getMaximum", desc := "()J" } : Jvm.MethodName))).before a0 Z = true := hw _ (List.mem_of_getElem? (i := 58) rfl)
theorem tw59 {Z : State} {a0 : Array Value} (hw : ∀ d ∈ tables_1, d.before a0 Z = true) : ((Jvm.Cond.selects "java/time/temporal/ValueRange" ({ cls := "java/time/temporal/ValueRange", name := "getMaximum", desc := "()J" } : Jvm.MethodName) ({ cls := "java/time/temporal/ValueRange", name := "getMaximum", desc := "()J" } : Jvm.MethodName))).before a0 Z = true := hw _ (List.mem_of_getElem? (i := 59) rfl)
theorem tw60 {Z : State} {a0 : Array Value} (hw : ∀ d ∈ tables_1, d.before a0 Z = true) : ((Jvm.Cond.code ({ cls := "java/time/temporal/ValueRange", name := "getMaximum", desc := "()J" } : Jvm.MethodName) jdk_2423_method_9_code (1 : Nat) (Option.some Jvm.ClassFile.FieldType.long))).before a0 Z = true := hw _ (List.mem_of_getElem? (i := 60) rfl)
theorem tw61 {Z : State} {a0 : Array Value} (hw : ∀ d ∈ tables_1, d.before a0 Z = true) : ((Jvm.Cond.fieldLink "java/time/temporal/ValueRange" (43 : Nat) "java/time/temporal/ValueRange" "maxLargest" "J")).before a0 Z = true := hw _ (List.mem_of_getElem? (i := 61) rfl)
theorem tw63 {Z : State} {a0 : Array Value} (hw : ∀ d ∈ tables_1, d.before a0 Z = true) : ((Jvm.Cond.constantLong "java/time/LocalDate" (164 : Nat) (719528 : Int64))).before a0 Z = true := hw _ (List.mem_of_getElem? (i := 63) rfl)
theorem tw64 {Z : State} {a0 : Array Value} (hw : ∀ d ∈ tables_1, d.before a0 Z = true) : ((Jvm.Cond.constantLong "java/time/LocalDate" (166 : Nat) (60 : Int64))).before a0 Z = true := hw _ (List.mem_of_getElem? (i := 64) rfl)
theorem tw65 {Z : State} {a0 : Array Value} (hw : ∀ d ∈ tables_1, d.before a0 Z = true) : ((Jvm.Cond.constantLong "java/time/LocalDate" (168 : Nat) (146097 : Int64))).before a0 Z = true := hw _ (List.mem_of_getElem? (i := 65) rfl)
theorem tw66 {Z : State} {a0 : Array Value} (hw : ∀ d ∈ tables_1, d.before a0 Z = true) : ((Jvm.Cond.constantLong "java/time/LocalDate" (170 : Nat) (400 : Int64))).before a0 Z = true := hw _ (List.mem_of_getElem? (i := 66) rfl)
theorem tw67 {Z : State} {a0 : Array Value} (hw : ∀ d ∈ tables_1, d.before a0 Z = true) : ((Jvm.Cond.constantLong "java/time/LocalDate" (172 : Nat) (591 : Int64))).before a0 Z = true := hw _ (List.mem_of_getElem? (i := 67) rfl)
theorem tw68 {Z : State} {a0 : Array Value} (hw : ∀ d ∈ tables_1, d.before a0 Z = true) : ((Jvm.Cond.constantLong "java/time/LocalDate" (174 : Nat) (365 : Int64))).before a0 Z = true := hw _ (List.mem_of_getElem? (i := 68) rfl)
theorem tw69 {Z : State} {a0 : Array Value} (hw : ∀ d ∈ tables_1, d.before a0 Z = true) : ((Jvm.Cond.constantLong "java/time/LocalDate" (176 : Nat) (4 : Int64))).before a0 Z = true := hw _ (List.mem_of_getElem? (i := 69) rfl)
theorem tw70 {Z : State} {a0 : Array Value} (hw : ∀ d ∈ tables_1, d.before a0 Z = true) : ((Jvm.Cond.constantLong "java/time/LocalDate" (178 : Nat) (100 : Int64))).before a0 Z = true := hw _ (List.mem_of_getElem? (i := 70) rfl)
theorem tw71 {Z : State} {a0 : Array Value} (hw : ∀ d ∈ tables_1, d.before a0 Z = true) : ((Jvm.Cond.classLink "java/time/LocalDate" (1 : Nat) "java/time/LocalDate")).before a0 Z = true := hw _ (List.mem_of_getElem? (i := 71) rfl)
theorem tw72 {Z : State} {a0 : Array Value} (hw : ∀ d ∈ tables_1, d.before a0 Z = true) : ((Jvm.Cond.instantiable "java/time/LocalDate" (3 : Nat))).before a0 Z = true := hw _ (List.mem_of_getElem? (i := 72) rfl)
theorem tw73 {Z : State} {a0 : Array Value} (hw : ∀ d ∈ tables_1, d.before a0 Z = true) : ((Jvm.Cond.methodLink "java/time/LocalDate" (121 : Nat) ({ cls := "java/time/LocalDate", name := "<init>", desc := "(III)V" } : Jvm.MethodName))).before a0 Z = true := hw _ (List.mem_of_getElem? (i := 73) rfl)
theorem tw74 {Z : State} {a0 : Array Value} (hw : ∀ d ∈ tables_1, d.before a0 Z = true) : ((Jvm.Cond.instanceMethod ({ cls := "java/time/LocalDate", name := "<init>", desc := "(III)V" } : Jvm.MethodName))).before a0 Z = true := hw _ (List.mem_of_getElem? (i := 74) rfl)
theorem tw76 {Z : State} {a0 : Array Value} (hw : ∀ d ∈ tables_1, d.before a0 Z = true) : ((Jvm.Cond.code ({ cls := "java/time/LocalDate", name := "<init>", desc := "(III)V" } : Jvm.MethodName) jdk_2323_method_14_code (4 : Nat) (Option.none : Option Jvm.ClassFile.FieldType))).before a0 Z = true := hw _ (List.mem_of_getElem? (i := 76) rfl)
theorem tw77 {Z : State} {a0 : Array Value} (hw : ∀ d ∈ tables_1, d.before a0 Z = true) : ((Jvm.Cond.methodLink "java/time/LocalDate" (243 : Nat) ({ cls := "java/lang/Object", name := "<init>", desc := "()V" } : Jvm.MethodName))).before a0 Z = true := hw _ (List.mem_of_getElem? (i := 77) rfl)
theorem tw78 {Z : State} {a0 : Array Value} (hw : ∀ d ∈ tables_1, d.before a0 Z = true) : ((Jvm.Cond.instanceMethod ({ cls := "java/lang/Object", name := "<init>", desc := "()V" } : Jvm.MethodName))).before a0 Z = true := hw _ (List.mem_of_getElem? (i := 78) rfl)
theorem tw79 {Z : State} {a0 : Array Value} (hw : ∀ d ∈ tables_1, d.before a0 Z = true) : ((Jvm.Cond.code ({ cls := "java/lang/Object", name := "<init>", desc := "()V" } : Jvm.MethodName) object_method_1_code (1 : Nat) (Option.none : Option Jvm.ClassFile.FieldType))).before a0 Z = true := hw _ (List.mem_of_getElem? (i := 79) rfl)
theorem tw80 {Z : State} {a0 : Array Value} (hw : ∀ d ∈ tables_1, d.before a0 Z = true) : ((Jvm.Cond.fieldLink "java/time/LocalDate" (246 : Nat) "java/time/LocalDate" "year" "I")).before a0 Z = true := hw _ (List.mem_of_getElem? (i := 80) rfl)
theorem tw81 {Z : State} {a0 : Array Value} (hw : ∀ d ∈ tables_1, d.before a0 Z = true) : ((Jvm.Cond.laysFinal "java/time/LocalDate" "java/time/LocalDate" "year" "I")).before a0 Z = true := hw _ (List.mem_of_getElem? (i := 81) rfl)
theorem tw82 {Z : State} {a0 : Array Value} (hw : ∀ d ∈ tables_1, d.before a0 Z = true) : ((Jvm.Cond.fieldLink "java/time/LocalDate" (250 : Nat) "java/time/LocalDate" "month" "S")).before a0 Z = true := hw _ (List.mem_of_getElem? (i := 82) rfl)
theorem tw83 {Z : State} {a0 : Array Value} (hw : ∀ d ∈ tables_1, d.before a0 Z = true) : ((Jvm.Cond.laysFinal "java/time/LocalDate" "java/time/LocalDate" "month" "S")).before a0 Z = true := hw _ (List.mem_of_getElem? (i := 83) rfl)
theorem tw84 {Z : State} {a0 : Array Value} (hw : ∀ d ∈ tables_1, d.before a0 Z = true) : ((Jvm.Cond.fieldLink "java/time/LocalDate" (253 : Nat) "java/time/LocalDate" "day" "S")).before a0 Z = true := hw _ (List.mem_of_getElem? (i := 84) rfl)
theorem tw85 {Z : State} {a0 : Array Value} (hw : ∀ d ∈ tables_1, d.before a0 Z = true) : ((Jvm.Cond.laysFinal "java/time/LocalDate" "java/time/LocalDate" "day" "S")).before a0 Z = true := hw _ (List.mem_of_getElem? (i := 85) rfl)
theorem tw86 {Z : State} {a0 : Array Value} (hw : ∀ d ∈ tables_1, d.before a0 Z = true) : ((Jvm.Cond.classLink "com/example/roomyield/roomyield/NightTallyFirstMonthPinLaw" (57 : Nat) "com/example/roomyield/roomyield/NightTally")).before a0 Z = true := hw _ (List.mem_of_getElem? (i := 86) rfl)
theorem tw87 {Z : State} {a0 : Array Value} (hw : ∀ d ∈ tables_1, d.before a0 Z = true) : ((Jvm.Cond.instantiable "com/example/roomyield/roomyield/NightTally" (3 : Nat))).before a0 Z = true := hw _ (List.mem_of_getElem? (i := 87) rfl)
theorem tw88 {Z : State} {a0 : Array Value} (hw : ∀ d ∈ tables_1, d.before a0 Z = true) : ((Jvm.Cond.initialized "com/example/roomyield/roomyield/NightTally")).before a0 Z = true := hw _ (List.mem_of_getElem? (i := 88) rfl)
theorem tw89 {Z : State} {a0 : Array Value} (hw : ∀ d ∈ tables_1, d.before a0 Z = true) : ((Jvm.Cond.methodLink "com/example/roomyield/roomyield/NightTallyFirstMonthPinLaw" (59 : Nat) ({ cls := "com/example/roomyield/roomyield/NightTally", name := "<init>", desc := "()V" } : Jvm.MethodName))).before a0 Z = true := hw _ (List.mem_of_getElem? (i := 89) rfl)
theorem tw90 {Z : State} {a0 : Array Value} (hw : ∀ d ∈ tables_1, d.before a0 Z = true) : ((Jvm.Cond.instanceMethod ({ cls := "com/example/roomyield/roomyield/NightTally", name := "<init>", desc := "()V" } : Jvm.MethodName))).before a0 Z = true := hw _ (List.mem_of_getElem? (i := 90) rfl)
theorem tw91 {Z : State} {a0 : Array Value} (hw : ∀ d ∈ tables_1, d.before a0 Z = true) : ((Jvm.Cond.code ({ cls := "com/example/roomyield/roomyield/NightTally", name := "<init>", desc := "()V" } : Jvm.MethodName) prog_5_method_1_code (1 : Nat) (Option.none : Option Jvm.ClassFile.FieldType))).before a0 Z = true := hw _ (List.mem_of_getElem? (i := 91) rfl)
theorem tw92 {Z : State} {a0 : Array Value} (hw : ∀ d ∈ tables_1, d.before a0 Z = true) : ((Jvm.Cond.methodLink "com/example/roomyield/roomyield/NightTally" (1 : Nat) ({ cls := "java/lang/Object", name := "<init>", desc := "()V" } : Jvm.MethodName))).before a0 Z = true := hw _ (List.mem_of_getElem? (i := 92) rfl)
theorem tw93 {Z : State} {a0 : Array Value} (hw : ∀ d ∈ tables_1, d.before a0 Z = true) : ((Jvm.Cond.constant "com/example/roomyield/roomyield/NightTally" (9 : Nat) (120000 : Int32))).before a0 Z = true := hw _ (List.mem_of_getElem? (i := 93) rfl)
theorem tw94 {Z : State} {a0 : Array Value} (hw : ∀ d ∈ tables_1, d.before a0 Z = true) : ((Jvm.Cond.classLink "com/example/roomyield/roomyield/NightTally" (10 : Nat) "com/example/roomyield/roomyield/NightTally$MonthNights")).before a0 Z = true := hw _ (List.mem_of_getElem? (i := 94) rfl)
theorem tw95 {Z : State} {a0 : Array Value} (hw : ∀ d ∈ tables_1, d.before a0 Z = true) : ((Jvm.Cond.arrayOver (Jvm.ClassFile.FieldType.object "com/example/roomyield/roomyield/NightTally$MonthNights"))).before a0 Z = true := hw _ (List.mem_of_getElem? (i := 95) rfl)
theorem tw96 {Z : State} {a0 : Array Value} (hw : ∀ d ∈ tables_1, d.before a0 Z = true) : ((Jvm.Cond.fieldLink "com/example/roomyield/roomyield/NightTally" (12 : Nat) "com/example/roomyield/roomyield/NightTally" "months" "[Lcom/example/roomyield/roomyield/NightTally$MonthNights;")).before a0 Z = true := hw _ (List.mem_of_getElem? (i := 96) rfl)
theorem tw97 {Z : State} {a0 : Array Value} (hw : ∀ d ∈ tables_1, d.before a0 Z = true) : ((Jvm.Cond.laysFinal "com/example/roomyield/roomyield/NightTally" "com/example/roomyield/roomyield/NightTally" "months" "[Lcom/example/roomyield/roomyield/NightTally$MonthNights;")).before a0 Z = true := hw _ (List.mem_of_getElem? (i := 97) rfl)
theorem tw98 {Z : State} {a0 : Array Value} (hw : ∀ d ∈ tables_1, d.before a0 Z = true) : ((Jvm.Cond.constant "com/example/roomyield/roomyield/NightTally" (18 : Nat) (2147483647 : Int32))).before a0 Z = true := hw _ (List.mem_of_getElem? (i := 98) rfl)
theorem tw99 {Z : State} {a0 : Array Value} (hw : ∀ d ∈ tables_1, d.before a0 Z = true) : ((Jvm.Cond.fieldLink "com/example/roomyield/roomyield/NightTally" (19 : Nat) "com/example/roomyield/roomyield/NightTally" "firstNightMonth" "I")).before a0 Z = true := hw _ (List.mem_of_getElem? (i := 99) rfl)
theorem tw100 {Z : State} {a0 : Array Value} (hw : ∀ d ∈ tables_1, d.before a0 Z = true) : ((Jvm.Cond.lays "com/example/roomyield/roomyield/NightTally" "com/example/roomyield/roomyield/NightTally" "firstNightMonth" "I")).before a0 Z = true := hw _ (List.mem_of_getElem? (i := 100) rfl)
theorem tw101 {Z : State} {a0 : Array Value} (hw : ∀ d ∈ tables_1, d.before a0 Z = true) : ((Jvm.Cond.fieldLink "com/example/roomyield/roomyield/NightTally" (23 : Nat) "com/example/roomyield/roomyield/NightTally" "lastNightMonth" "I")).before a0 Z = true := hw _ (List.mem_of_getElem? (i := 101) rfl)
theorem tw102 {Z : State} {a0 : Array Value} (hw : ∀ d ∈ tables_1, d.before a0 Z = true) : ((Jvm.Cond.lays "com/example/roomyield/roomyield/NightTally" "com/example/roomyield/roomyield/NightTally" "lastNightMonth" "I")).before a0 Z = true := hw _ (List.mem_of_getElem? (i := 102) rfl)
theorem tw103 {Z : State} {a0 : Array Value} (hw : ∀ d ∈ tables_1, d.before a0 Z = true) : ((Jvm.Cond.methodLink "com/example/roomyield/roomyield/NightTallyFirstMonthPinLaw" (78 : Nat) ({ cls := "com/example/roomyield/roomyield/NightTally", name := "firstMonth", desc := "()Ljava/util/Optional;" } : Jvm.MethodName))).before a0 Z = true := hw _ (List.mem_of_getElem? (i := 103) rfl)
theorem tw104 {Z : State} {a0 : Array Value} (hw : ∀ d ∈ tables_1, d.before a0 Z = true) : ((Jvm.Cond.declares ({ cls := "com/example/roomyield/roomyield/NightTally", name := "firstMonth", desc := "()Ljava/util/Optional;" } : Jvm.MethodName))).before a0 Z = true := hw _ (List.mem_of_getElem? (i := 104) rfl)
theorem tw105 {Z : State} {a0 : Array Value} (hw : ∀ d ∈ tables_1, d.before a0 Z = true) : ((Jvm.Cond.instanceMethod ({ cls := "com/example/roomyield/roomyield/NightTally", name := "firstMonth", desc := "()Ljava/util/Optional;" } : Jvm.MethodName))).before a0 Z = true := hw _ (List.mem_of_getElem? (i := 105) rfl)
theorem tw106 {Z : State} {a0 : Array Value} (hw : ∀ d ∈ tables_1, d.before a0 Z = true) : ((Jvm.Cond.selects "com/example/roomyield/roomyield/NightTally" ({ cls := "com/example/roomyield/roomyield/NightTally", name := "firstMonth", desc := "()Ljava/util/Optional;" } : Jvm.MethodName) ({ cls := "com/example/roomyield/roomyield/NightTally", name := "firstMonth", desc := "()Ljava/util/Optional;" } : Jvm.MethodName))).before a0 Z = true := hw _ (List.mem_of_getElem? (i := 106) rfl)
theorem tw107 {Z : State} {a0 : Array Value} (hw : ∀ d ∈ tables_1, d.before a0 Z = true) : ((Jvm.Cond.code ({ cls := "com/example/roomyield/roomyield/NightTally", name := "firstMonth", desc := "()Ljava/util/Optional;" } : Jvm.MethodName) prog_5_method_3_code (1 : Nat) (Option.some (Jvm.ClassFile.FieldType.object "java/util/Optional")))).before a0 Z = true := hw _ (List.mem_of_getElem? (i := 107) rfl)
theorem tw108 {Z : State} {a0 : Array Value} (hw : ∀ d ∈ tables_1, d.before a0 Z = true) : ((Jvm.Cond.methodLink "com/example/roomyield/roomyield/NightTally" (97 : Nat) ({ cls := "java/util/Optional", name := "empty", desc := "()Ljava/util/Optional;" } : Jvm.MethodName))).before a0 Z = true := hw _ (List.mem_of_getElem? (i := 108) rfl)
theorem tw109 {Z : State} {a0 : Array Value} (hw : ∀ d ∈ tables_1, d.before a0 Z = true) : ((Jvm.Cond.static ({ cls := "java/util/Optional", name := "empty", desc := "()Ljava/util/Optional;" } : Jvm.MethodName))).before a0 Z = true := hw _ (List.mem_of_getElem? (i := 109) rfl)
theorem tw110 {Z : State} {a0 : Array Value} (hw : ∀ d ∈ tables_1, d.before a0 Z = true) : ((Jvm.Cond.initialized "java/util/Optional")).before a0 Z = true := hw _ (List.mem_of_getElem? (i := 110) rfl)
theorem tw111 {Z : State} {a0 : Array Value} (hw : ∀ d ∈ tables_1, d.before a0 Z = true) : ((Jvm.Cond.code ({ cls := "java/util/Optional", name := "empty", desc := "()Ljava/util/Optional;" } : Jvm.MethodName) jdk_32_method_1_code (1 : Nat) (Option.some (Jvm.ClassFile.FieldType.object "java/util/Optional")))).before a0 Z = true := hw _ (List.mem_of_getElem? (i := 111) rfl)
theorem tw112 {Z : State} {a0 : Array Value} (hw : ∀ d ∈ tables_1, d.before a0 Z = true) : ((Jvm.Cond.fieldLink "java/util/Optional" (1 : Nat) "java/util/Optional" "EMPTY" "Ljava/util/Optional;")).before a0 Z = true := hw _ (List.mem_of_getElem? (i := 112) rfl)
theorem tw113 {Z : State} {a0 : Array Value} (hw : ∀ d ∈ tables_1, d.before a0 Z = true) : ((Jvm.Cond.methodLink "com/example/roomyield/roomyield/NightTallyFirstMonthPinLaw" (82 : Nat) ({ cls := "java/util/Optional", name := "isEmpty", desc := "()Z" } : Jvm.MethodName))).before a0 Z = true := hw _ (List.mem_of_getElem? (i := 113) rfl)
theorem tw114 {Z : State} {a0 : Array Value} (hw : ∀ d ∈ tables_1, d.before a0 Z = true) : ((Jvm.Cond.declares ({ cls := "java/util/Optional", name := "isEmpty", desc := "()Z" } : Jvm.MethodName))).before a0 Z = true := hw _ (List.mem_of_getElem? (i := 114) rfl)
theorem tw115 {Z : State} {a0 : Array Value} (hw : ∀ d ∈ tables_1, d.before a0 Z = true) : ((Jvm.Cond.instanceMethod ({ cls := "java/util/Optional", name := "isEmpty", desc := "()Z" } : Jvm.MethodName))).before a0 Z = true := hw _ (List.mem_of_getElem? (i := 115) rfl)
theorem tw116 {Z : State} {a0 : Array Value} (hw : ∀ d ∈ tables_1, d.before a0 Z = true) : ((Jvm.Cond.selects "java/util/Optional" ({ cls := "java/util/Optional", name := "isEmpty", desc := "()Z" } : Jvm.MethodName) ({ cls := "java/util/Optional", name := "isEmpty", desc := "()Z" } : Jvm.MethodName))).before a0 Z = true := hw _ (List.mem_of_getElem? (i := 116) rfl)
theorem tw117 {Z : State} {a0 : Array Value} (hw : ∀ d ∈ tables_1, d.before a0 Z = true) : ((Jvm.Cond.code ({ cls := "java/util/Optional", name := "isEmpty", desc := "()Z" } : Jvm.MethodName) jdk_32_method_7_code (1 : Nat) (Option.some Jvm.ClassFile.FieldType.boolean))).before a0 Z = true := hw _ (List.mem_of_getElem? (i := 117) rfl)
theorem tw118 {Z : State} {a0 : Array Value} (hw : ∀ d ∈ tables_1, d.before a0 Z = true) : ((Jvm.Cond.fieldLink "java/util/Optional" (13 : Nat) "java/util/Optional" "value" "Ljava/lang/Object;")).before a0 Z = true := hw _ (List.mem_of_getElem? (i := 118) rfl)
theorem tw119 {Z : State} {a0 : Array Value} (hw : ∀ d ∈ tables_1, d.before a0 Z = true) : ((Jvm.Cond.laysFinal "java/util/Optional" "java/util/Optional" "value" "Ljava/lang/Object;")).before a0 Z = true := hw _ (List.mem_of_getElem? (i := 119) rfl)
theorem tw120 {Z : State} {a0 : Array Value} (hw : ∀ d ∈ tables_1, d.before a0 Z = true) : ((Jvm.Cond.constantLong "com/example/roomyield/roomyield/NightTallyFirstMonthPinLaw" (15 : Nat) (3652424 : Int64))).before a0 Z = true := hw _ (List.mem_of_getElem? (i := 120) rfl)
theorem tw121 {Z : State} {a0 : Array Value} (hw : ∀ d ∈ tables_1, d.before a0 Z = true) : ((Jvm.Cond.methodLink "com/example/roomyield/roomyield/NightTallyFirstMonthPinLaw" (60 : Nat) ({ cls := "com/example/roomyield/roomyield/NightTallyFirstMonthPinLaw", name := "rate", desc := "(I)Ljava/math/BigDecimal;" } : Jvm.MethodName))).before a0 Z = true := hw _ (List.mem_of_getElem? (i := 121) rfl)
theorem tw122 {Z : State} {a0 : Array Value} (hw : ∀ d ∈ tables_1, d.before a0 Z = true) : ((Jvm.Cond.static ({ cls := "com/example/roomyield/roomyield/NightTallyFirstMonthPinLaw", name := "rate", desc := "(I)Ljava/math/BigDecimal;" } : Jvm.MethodName))).before a0 Z = true := hw _ (List.mem_of_getElem? (i := 122) rfl)
theorem tw123 {Z : State} {a0 : Array Value} (hw : ∀ d ∈ tables_1, d.before a0 Z = true) : ((Jvm.Cond.code ({ cls := "com/example/roomyield/roomyield/NightTallyFirstMonthPinLaw", name := "rate", desc := "(I)Ljava/math/BigDecimal;" } : Jvm.MethodName) method_6_code (1 : Nat) (Option.some (Jvm.ClassFile.FieldType.object "java/math/BigDecimal")))).before a0 Z = true := hw _ (List.mem_of_getElem? (i := 123) rfl)
theorem tw124 {Z : State} {a0 : Array Value} (hw : ∀ d ∈ tables_1, d.before a0 Z = true) : ((Jvm.Cond.fieldLink "com/example/roomyield/roomyield/NightTallyFirstMonthPinLaw" (38 : Nat) "java/math/BigDecimal" "TEN" "Ljava/math/BigDecimal;")).before a0 Z = true := hw _ (List.mem_of_getElem? (i := 124) rfl)
theorem tw125 {Z : State} {a0 : Array Value} (hw : ∀ d ∈ tables_1, d.before a0 Z = true) : ((Jvm.Cond.initialized "java/math/BigDecimal")).before a0 Z = true := hw _ (List.mem_of_getElem? (i := 125) rfl)
theorem tw126 {Z : State} {a0 : Array Value} (hw : ∀ d ∈ tables_1, d.before a0 Z = true) : ((Jvm.Cond.fieldLink "com/example/roomyield/roomyield/NightTallyFirstMonthPinLaw" (64 : Nat) "java/math/BigDecimal" "ONE" "Ljava/math/BigDecimal;")).before a0 Z = true := hw _ (List.mem_of_getElem? (i := 126) rfl)
theorem tw127 {Z : State} {a0 : Array Value} (hw : ∀ d ∈ tables_1, d.before a0 Z = true) : ((Jvm.Cond.methodLink "com/example/roomyield/roomyield/NightTallyFirstMonthPinLaw" (67 : Nat) ({ cls := "com/example/roomyield/roomyield/NightTally", name := "add", desc := "(Ljava/time/LocalDate;Ljava/time/LocalDate;Ljava/math/BigDecimal;Ljava/math/BigDecimal;)V" } : Jvm.MethodName))).before a0 Z = true := hw _ (List.mem_of_getElem? (i := 127) rfl)
theorem tw128 {Z : State} {a0 : Array Value} (hw : ∀ d ∈ tables_1, d.before a0 Z = true) : ((Jvm.Cond.declares ({ cls := "com/example/roomyield/roomyield/NightTally", name := "add", desc := "(Ljava/time/LocalDate;Ljava/time/LocalDate;Ljava/math/BigDecimal;Ljava/math/BigDecimal;)V" } : Jvm.MethodName))).before a0 Z = true := hw _ (List.mem_of_getElem? (i := 128) rfl)
theorem tw129 {Z : State} {a0 : Array Value} (hw : ∀ d ∈ tables_1, d.before a0 Z = true) : ((Jvm.Cond.instanceMethod ({ cls := "com/example/roomyield/roomyield/NightTally", name := "add", desc := "(Ljava/time/LocalDate;Ljava/time/LocalDate;Ljava/math/BigDecimal;Ljava/math/BigDecimal;)V" } : Jvm.MethodName))).before a0 Z = true := hw _ (List.mem_of_getElem? (i := 129) rfl)
theorem tw130 {Z : State} {a0 : Array Value} (hw : ∀ d ∈ tables_1, d.before a0 Z = true) : ((Jvm.Cond.selects "com/example/roomyield/roomyield/NightTally" ({ cls := "com/example/roomyield/roomyield/NightTally", name := "add", desc := "(Ljava/time/LocalDate;Ljava/time/LocalDate;Ljava/math/BigDecimal;Ljava/math/BigDecimal;)V" } : Jvm.MethodName) ({ cls := "com/example/roomyield/roomyield/NightTally", name := "add", desc := "(Ljava/time/LocalDate;Ljava/time/LocalDate;Ljava/math/BigDecimal;Ljava/math/BigDecimal;)V" } : Jvm.MethodName))).before a0 Z = true := hw _ (List.mem_of_getElem? (i := 130) rfl)
theorem tw131 {Z : State} {a0 : Array Value} (hw : ∀ d ∈ tables_1, d.before a0 Z = true) : ((Jvm.Cond.code ({ cls := "com/example/roomyield/roomyield/NightTally", name := "add", desc := "(Ljava/time/LocalDate;Ljava/time/LocalDate;Ljava/math/BigDecimal;Ljava/math/BigDecimal;)V" } : Jvm.MethodName) prog_5_method_2_code (10 : Nat) (Option.none : Option Jvm.ClassFile.FieldType))).before a0 Z = true := hw _ (List.mem_of_getElem? (i := 131) rfl)
theorem tw132 {Z : State} {a0 : Array Value} (hw : ∀ d ∈ tables_1, d.before a0 Z = true) : ((Jvm.Cond.methodLink "com/example/roomyield/roomyield/NightTally" (26 : Nat) ({ cls := "java/time/LocalDate", name := "isBefore", desc := "(Ljava/time/chrono/ChronoLocalDate;)Z" } : Jvm.MethodName))).before a0 Z = true := hw _ (List.mem_of_getElem? (i := 132) rfl)
theorem tw133 {Z : State} {a0 : Array Value} (hw : ∀ d ∈ tables_1, d.before a0 Z = true) : ((Jvm.Cond.declares ({ cls := "java/time/LocalDate", name := "isBefore", desc := "(Ljava/time/chrono/ChronoLocalDate;)Z" } : Jvm.MethodName))).before a0 Z = true := hw _ (List.mem_of_getElem? (i := 133) rfl)
theorem tw134 {Z : State} {a0 : Array Value} (hw : ∀ d ∈ tables_1, d.before a0 Z = true) : ((Jvm.Cond.instanceMethod ({ cls := "java/time/LocalDate", name := "isBefore", desc := "(Ljava/time/chrono/ChronoLocalDate;)Z" } : Jvm.MethodName))).before a0 Z = true := hw _ (List.mem_of_getElem? (i := 134) rfl)
theorem tw135 {Z : State} {a0 : Array Value} (hw : ∀ d ∈ tables_1, d.before a0 Z = true) : ((Jvm.Cond.selects "java/time/LocalDate" ({ cls := "java/time/LocalDate", name := "isBefore", desc := "(Ljava/time/chrono/ChronoLocalDate;)Z" } : Jvm.MethodName) ({ cls := "java/time/LocalDate", name := "isBefore", desc := "(Ljava/time/chrono/ChronoLocalDate;)Z" } : Jvm.MethodName))).before a0 Z = true := hw _ (List.mem_of_getElem? (i := 135) rfl)
theorem tw136 {Z : State} {a0 : Array Value} (hw : ∀ d ∈ tables_1, d.before a0 Z = true) : ((Jvm.Cond.code ({ cls := "java/time/LocalDate", name := "isBefore", desc := "(Ljava/time/chrono/ChronoLocalDate;)Z" } : Jvm.MethodName) jdk_2323_method_72_code (2 : Nat) (Option.some Jvm.ClassFile.FieldType.boolean))).before a0 Z = true := hw _ (List.mem_of_getElem? (i := 136) rfl)
theorem tw137 {Z : State} {a0 : Array Value} (hw : ∀ d ∈ tables_1, d.before a0 Z = true) : ((Jvm.Cond.methodLink "java/time/LocalDate" (679 : Nat) ({ cls := "java/time/LocalDate", name := "compareTo0", desc := "(Ljava/time/LocalDate;)I" } : Jvm.MethodName))).before a0 Z = true := hw _ (List.mem_of_getElem? (i := 137) rfl)
theorem tw138 {Z : State} {a0 : Array Value} (hw : ∀ d ∈ tables_1, d.before a0 Z = true) : ((Jvm.Cond.declares ({ cls := "java/time/LocalDate", name := "compareTo0", desc := "(Ljava/time/LocalDate;)I" } : Jvm.MethodName))).before a0 Z = true := hw _ (List.mem_of_getElem? (i := 138) rfl)
theorem tw139 {Z : State} {a0 : Array Value} (hw : ∀ d ∈ tables_1, d.before a0 Z = true) : ((Jvm.Cond.instanceMethod ({ cls := "java/time/LocalDate", name := "compareTo0", desc := "(Ljava/time/LocalDate;)I" } : Jvm.MethodName))).before a0 Z = true := hw _ (List.mem_of_getElem? (i := 139) rfl)
theorem tw140 {Z : State} {a0 : Array Value} (hw : ∀ d ∈ tables_1, d.before a0 Z = true) : ((Jvm.Cond.selects "java/time/LocalDate" ({ cls := "java/time/LocalDate", name := "compareTo0", desc := "(Ljava/time/LocalDate;)I" } : Jvm.MethodName) ({ cls := "java/time/LocalDate", name := "compareTo0", desc := "(Ljava/time/LocalDate;)I" } : Jvm.MethodName))).before a0 Z = true := hw _ (List.mem_of_getElem? (i := 140) rfl)
theorem tw141 {Z : State} {a0 : Array Value} (hw : ∀ d ∈ tables_1, d.before a0 Z = true) : ((Jvm.Cond.code ({ cls := "java/time/LocalDate", name := "compareTo0", desc := "(Ljava/time/LocalDate;)I" } : Jvm.MethodName) jdk_2323_method_70_code (3 : Nat) (Option.some Jvm.ClassFile.FieldType.int))).before a0 Z = true := hw _ (List.mem_of_getElem? (i := 141) rfl)
theorem tw142 {Z : State} {a0 : Array Value} (hw : ∀ d ∈ tables_1, d.before a0 Z = true) : ((Jvm.Cond.methodLink "com/example/roomyield/roomyield/NightTally" (47 : Nat) ({ cls := "java/time/LocalDate", name := "getYear", desc := "()I" } : Jvm.MethodName))).before a0 Z = true := hw _ (List.mem_of_getElem? (i := 142) rfl)
theorem tw143 {Z : State} {a0 : Array Value} (hw : ∀ d ∈ tables_1, d.before a0 Z = true) : ((Jvm.Cond.declares ({ cls := "java/time/LocalDate", name := "getYear", desc := "()I" } : Jvm.MethodName))).before a0 Z = true := hw _ (List.mem_of_getElem? (i := 143) rfl)
theorem tw144 {Z : State} {a0 : Array Value} (hw : ∀ d ∈ tables_1, d.before a0 Z = true) : ((Jvm.Cond.instanceMethod ({ cls := "java/time/LocalDate", name := "getYear", desc := "()I" } : Jvm.MethodName))).before a0 Z = true := hw _ (List.mem_of_getElem? (i := 144) rfl)
theorem tw145 {Z : State} {a0 : Array Value} (hw : ∀ d ∈ tables_1, d.before a0 Z = true) : ((Jvm.Cond.selects "java/time/LocalDate" ({ cls := "java/time/LocalDate", name := "getYear", desc := "()I" } : Jvm.MethodName) ({ cls := "java/time/LocalDate", name := "getYear", desc := "()I" } : Jvm.MethodName))).before a0 Z = true := hw _ (List.mem_of_getElem? (i := 145) rfl)
theorem tw146 {Z : State} {a0 : Array Value} (hw : ∀ d ∈ tables_1, d.before a0 Z = true) : ((Jvm.Cond.code ({ cls := "java/time/LocalDate", name := "getYear", desc := "()I" } : Jvm.MethodName) jdk_2323_method_24_code (1 : Nat) (Option.some Jvm.ClassFile.FieldType.int))).before a0 Z = true := hw _ (List.mem_of_getElem? (i := 146) rfl)
theorem tw147 {Z : State} {a0 : Array Value} (hw : ∀ d ∈ tables_1, d.before a0 Z = true) : ((Jvm.Cond.methodLink "com/example/roomyield/roomyield/NightTally" (51 : Nat) ({ cls := "java/time/LocalDate", name := "getMonthValue", desc := "()I" } : Jvm.MethodName))).before a0 Z = true := hw _ (List.mem_of_getElem? (i := 147) rfl)
theorem tw148 {Z : State} {a0 : Array Value} (hw : ∀ d ∈ tables_1, d.before a0 Z = true) : ((Jvm.Cond.declares ({ cls := "java/time/LocalDate", name := "getMonthValue", desc := "()I" } : Jvm.MethodName))).before a0 Z = true := hw _ (List.mem_of_getElem? (i := 148) rfl)
theorem tw149 {Z : State} {a0 : Array Value} (hw : ∀ d ∈ tables_1, d.before a0 Z = true) : ((Jvm.Cond.instanceMethod ({ cls := "java/time/LocalDate", name := "getMonthValue", desc := "()I" } : Jvm.MethodName))).before a0 Z = true := hw _ (List.mem_of_getElem? (i := 149) rfl)
theorem tw150 {Z : State} {a0 : Array Value} (hw : ∀ d ∈ tables_1, d.before a0 Z = true) : ((Jvm.Cond.selects "java/time/LocalDate" ({ cls := "java/time/LocalDate", name := "getMonthValue", desc := "()I" } : Jvm.MethodName) ({ cls := "java/time/LocalDate", name := "getMonthValue", desc := "()I" } : Jvm.MethodName))).before a0 Z = true := hw _ (List.mem_of_getElem? (i := 150) rfl)
theorem tw151 {Z : State} {a0 : Array Value} (hw : ∀ d ∈ tables_1, d.before a0 Z = true) : ((Jvm.Cond.code ({ cls := "java/time/LocalDate", name := "getMonthValue", desc := "()I" } : Jvm.MethodName) jdk_2323_method_25_code (1 : Nat) (Option.some Jvm.ClassFile.FieldType.int))).before a0 Z = true := hw _ (List.mem_of_getElem? (i := 151) rfl)
theorem tw152 {Z : State} {a0 : Array Value} (hw : ∀ d ∈ tables_1, d.before a0 Z = true) : ((Jvm.Cond.methodLink "com/example/roomyield/roomyield/NightTally" (54 : Nat) ({ cls := "com/example/roomyield/roomyield/NightTally", name := "index", desc := "(II)I" } : Jvm.MethodName))).before a0 Z = true := hw _ (List.mem_of_getElem? (i := 152) rfl)
theorem tw153 {Z : State} {a0 : Array Value} (hw : ∀ d ∈ tables_1, d.before a0 Z = true) : ((Jvm.Cond.static ({ cls := "com/example/roomyield/roomyield/NightTally", name := "index", desc := "(II)I" } : Jvm.MethodName))).before a0 Z = true := hw _ (List.mem_of_getElem? (i := 153) rfl)
theorem tw154 {Z : State} {a0 : Array Value} (hw : ∀ d ∈ tables_1, d.before a0 Z = true) : ((Jvm.Cond.code ({ cls := "com/example/roomyield/roomyield/NightTally", name := "index", desc := "(II)I" } : Jvm.MethodName) prog_5_method_7_code (2 : Nat) (Option.some Jvm.ClassFile.FieldType.int))).before a0 Z = true := hw _ (List.mem_of_getElem? (i := 154) rfl)
theorem tw155 {Z : State} {a0 : Array Value} (hw : ∀ d ∈ tables_1, d.before a0 Z = true) : ((Jvm.Cond.methodLink "com/example/roomyield/roomyield/NightTally" (58 : Nat) ({ cls := "com/example/roomyield/roomyield/NightTally", name := "tally", desc := "(I)Lcom/example/roomyield/roomyield/NightTally$MonthNights;" } : Jvm.MethodName))).before a0 Z = true := hw _ (List.mem_of_getElem? (i := 155) rfl)
theorem tw156 {Z : State} {a0 : Array Value} (hw : ∀ d ∈ tables_1, d.before a0 Z = true) : ((Jvm.Cond.instanceMethod ({ cls := "com/example/roomyield/roomyield/NightTally", name := "tally", desc := "(I)Lcom/example/roomyield/roomyield/NightTally$MonthNights;" } : Jvm.MethodName))).before a0 Z = true := hw _ (List.mem_of_getElem? (i := 156) rfl)
theorem tw157 {Z : State} {a0 : Array Value} (hw : ∀ d ∈ tables_1, d.before a0 Z = true) : ((Jvm.Cond.privateMethod ({ cls := "com/example/roomyield/roomyield/NightTally", name := "tally", desc := "(I)Lcom/example/roomyield/roomyield/NightTally$MonthNights;" } : Jvm.MethodName))).before a0 Z = true := hw _ (List.mem_of_getElem? (i := 157) rfl)
theorem tw158 {Z : State} {a0 : Array Value} (hw : ∀ d ∈ tables_1, d.before a0 Z = true) : ((Jvm.Cond.code ({ cls := "com/example/roomyield/roomyield/NightTally", name := "tally", desc := "(I)Lcom/example/roomyield/roomyield/NightTally$MonthNights;" } : Jvm.MethodName) prog_5_method_9_code (2 : Nat) (Option.some (Jvm.ClassFile.FieldType.object "com/example/roomyield/roomyield/NightTally$MonthNights")))).before a0 Z = true := hw _ (List.mem_of_getElem? (i := 158) rfl)
theorem tw159 {Z : State} {a0 : Array Value} (hw : ∀ d ∈ tables_1, d.before a0 Z = true) : ((Jvm.Cond.instantiable "com/example/roomyield/roomyield/NightTally$MonthNights" (3 : Nat))).before a0 Z = true := hw _ (List.mem_of_getElem? (i := 159) rfl)
theorem tw160 {Z : State} {a0 : Array Value} (hw : ∀ d ∈ tables_1, d.before a0 Z = true) : ((Jvm.Cond.initialized "com/example/roomyield/roomyield/NightTally$MonthNights")).before a0 Z = true := hw _ (List.mem_of_getElem? (i := 160) rfl)
theorem tw161 {Z : State} {a0 : Array Value} (hw : ∀ d ∈ tables_1, d.before a0 Z = true) : ((Jvm.Cond.methodLink "com/example/roomyield/roomyield/NightTally" (103 : Nat) ({ cls := "com/example/roomyield/roomyield/NightTally", name := "month", desc := "(I)Ljava/time/YearMonth;" } : Jvm.MethodName))).before a0 Z = true := hw _ (List.mem_of_getElem? (i := 161) rfl)
theorem tw162 {Z : State} {a0 : Array Value} (hw : ∀ d ∈ tables_1, d.before a0 Z = true) : ((Jvm.Cond.static ({ cls := "com/example/roomyield/roomyield/NightTally", name := "month", desc := "(I)Ljava/time/YearMonth;" } : Jvm.MethodName))).before a0 Z = true := hw _ (List.mem_of_getElem? (i := 162) rfl)
theorem tw163 {Z : State} {a0 : Array Value} (hw : ∀ d ∈ tables_1, d.before a0 Z = true) : ((Jvm.Cond.code ({ cls := "com/example/roomyield/roomyield/NightTally", name := "month", desc := "(I)Ljava/time/YearMonth;" } : Jvm.MethodName) prog_5_method_8_code (1 : Nat) (Option.some (Jvm.ClassFile.FieldType.object "java/time/YearMonth")))).before a0 Z = true := hw _ (List.mem_of_getElem? (i := 163) rfl)
theorem tw164 {Z : State} {a0 : Array Value} (hw : ∀ d ∈ tables_1, d.before a0 Z = true) : ((Jvm.Cond.methodLink "com/example/roomyield/roomyield/NightTally" (131 : Nat) ({ cls := "java/time/YearMonth", name := "of", desc := "(II)Ljava/time/YearMonth;" } : Jvm.MethodName))).before a0 Z = true := hw _ (List.mem_of_getElem? (i := 164) rfl)
theorem tw165 {Z : State} {a0 : Array Value} (hw : ∀ d ∈ tables_1, d.before a0 Z = true) : ((Jvm.Cond.static ({ cls := "java/time/YearMonth", name := "of", desc := "(II)Ljava/time/YearMonth;" } : Jvm.MethodName))).before a0 Z = true := hw _ (List.mem_of_getElem? (i := 165) rfl)
theorem tw166 {Z : State} {a0 : Array Value} (hw : ∀ d ∈ tables_1, d.before a0 Z = true) : ((Jvm.Cond.initialized "java/time/YearMonth")).before a0 Z = true := hw _ (List.mem_of_getElem? (i := 166) rfl)
theorem tw167 {Z : State} {a0 : Array Value} (hw : ∀ d ∈ tables_1, d.before a0 Z = true) : ((Jvm.Cond.code ({ cls := "java/time/YearMonth", name := "of", desc := "(II)Ljava/time/YearMonth;" } : Jvm.MethodName) jdk_2340_method_5_code (2 : Nat) (Option.some (Jvm.ClassFile.FieldType.object "java/time/YearMonth")))).before a0 Z = true := hw _ (List.mem_of_getElem? (i := 167) rfl)
theorem tw168 {Z : State} {a0 : Array Value} (hw : ∀ d ∈ tables_1, d.before a0 Z = true) : ((Jvm.Cond.fieldLink "java/time/YearMonth" (50 : Nat) "java/time/temporal/ChronoField" "YEAR" "Ljava/time/temporal/ChronoField;")).before a0 Z = true := hw _ (List.mem_of_getElem? (i := 168) rfl)
theorem tw169 {Z : State} {a0 : Array Value} (hw : ∀ d ∈ tables_1, d.before a0 Z = true) : ((Jvm.Cond.methodLink "java/time/YearMonth" (56 : Nat) ({ cls := "java/time/temporal/ChronoField", name := "checkValidValue", desc := "(J)J" } : Jvm.MethodName))).before a0 Z = true := hw _ (List.mem_of_getElem? (i := 169) rfl)
theorem tw170 {Z : State} {a0 : Array Value} (hw : ∀ d ∈ tables_1, d.before a0 Z = true) : ((Jvm.Cond.fieldLink "java/time/YearMonth" (60 : Nat) "java/time/temporal/ChronoField" "MONTH_OF_YEAR" "Ljava/time/temporal/ChronoField;")).before a0 Z = true := hw _ (List.mem_of_getElem? (i := 170) rfl)
theorem tw171 {Z : State} {a0 : Array Value} (hw : ∀ d ∈ tables_1, d.before a0 Z = true) : ((Jvm.Cond.classLink "java/time/YearMonth" (8 : Nat) "java/time/YearMonth")).before a0 Z = true := hw _ (List.mem_of_getElem? (i := 171) rfl)
theorem tw172 {Z : State} {a0 : Array Value} (hw : ∀ d ∈ tables_1, d.before a0 Z = true) : ((Jvm.Cond.instantiable "java/time/YearMonth" (2 : Nat))).before a0 Z = true := hw _ (List.mem_of_getElem? (i := 172) rfl)
theorem tw173 {Z : State} {a0 : Array Value} (hw : ∀ d ∈ tables_1, d.before a0 Z = true) : ((Jvm.Cond.methodLink "java/time/YearMonth" (63 : Nat) ({ cls := "java/time/YearMonth", name := "<init>", desc := "(II)V" } : Jvm.MethodName))).before a0 Z = true := hw _ (List.mem_of_getElem? (i := 173) rfl)
theorem tw174 {Z : State} {a0 : Array Value} (hw : ∀ d ∈ tables_1, d.before a0 Z = true) : ((Jvm.Cond.instanceMethod ({ cls := "java/time/YearMonth", name := "<init>", desc := "(II)V" } : Jvm.MethodName))).before a0 Z = true := hw _ (List.mem_of_getElem? (i := 174) rfl)
theorem tw176 {Z : State} {a0 : Array Value} (hw : ∀ d ∈ tables_1, d.before a0 Z = true) : ((Jvm.Cond.code ({ cls := "java/time/YearMonth", name := "<init>", desc := "(II)V" } : Jvm.MethodName) jdk_2340_method_9_code (3 : Nat) (Option.none : Option Jvm.ClassFile.FieldType))).before a0 Z = true := hw _ (List.mem_of_getElem? (i := 176) rfl)
theorem tw177 {Z : State} {a0 : Array Value} (hw : ∀ d ∈ tables_1, d.before a0 Z = true) : ((Jvm.Cond.methodLink "java/time/YearMonth" (147 : Nat) ({ cls := "java/lang/Object", name := "<init>", desc := "()V" } : Jvm.MethodName))).before a0 Z = true := hw _ (List.mem_of_getElem? (i := 177) rfl)
theorem tw178 {Z : State} {a0 : Array Value} (hw : ∀ d ∈ tables_1, d.before a0 Z = true) : ((Jvm.Cond.fieldLink "java/time/YearMonth" (150 : Nat) "java/time/YearMonth" "year" "I")).before a0 Z = true := hw _ (List.mem_of_getElem? (i := 178) rfl)
theorem tw179 {Z : State} {a0 : Array Value} (hw : ∀ d ∈ tables_1, d.before a0 Z = true) : ((Jvm.Cond.laysFinal "java/time/YearMonth" "java/time/YearMonth" "year" "I")).before a0 Z = true := hw _ (List.mem_of_getElem? (i := 179) rfl)
theorem tw180 {Z : State} {a0 : Array Value} (hw : ∀ d ∈ tables_1, d.before a0 Z = true) : ((Jvm.Cond.fieldLink "java/time/YearMonth" (154 : Nat) "java/time/YearMonth" "month" "I")).before a0 Z = true := hw _ (List.mem_of_getElem? (i := 180) rfl)
theorem tw181 {Z : State} {a0 : Array Value} (hw : ∀ d ∈ tables_1, d.before a0 Z = true) : ((Jvm.Cond.laysFinal "java/time/YearMonth" "java/time/YearMonth" "month" "I")).before a0 Z = true := hw _ (List.mem_of_getElem? (i := 181) rfl)
theorem tw182 {Z : State} {a0 : Array Value} (hw : ∀ d ∈ tables_1, d.before a0 Z = true) : ((Jvm.Cond.methodLink "com/example/roomyield/roomyield/NightTally" (134 : Nat) ({ cls := "java/time/YearMonth", name := "lengthOfMonth", desc := "()I" } : Jvm.MethodName))).before a0 Z = true := hw _ (List.mem_of_getElem? (i := 182) rfl)
theorem tw183 {Z : State} {a0 : Array Value} (hw : ∀ d ∈ tables_1, d.before a0 Z = true) : ((Jvm.Cond.declares ({ cls := "java/time/YearMonth", name := "lengthOfMonth", desc := "()I" } : Jvm.MethodName))).before a0 Z = true := hw _ (List.mem_of_getElem? (i := 183) rfl)
theorem tw184 {Z : State} {a0 : Array Value} (hw : ∀ d ∈ tables_1, d.before a0 Z = true) : ((Jvm.Cond.instanceMethod ({ cls := "java/time/YearMonth", name := "lengthOfMonth", desc := "()I" } : Jvm.MethodName))).before a0 Z = true := hw _ (List.mem_of_getElem? (i := 184) rfl)
theorem tw185 {Z : State} {a0 : Array Value} (hw : ∀ d ∈ tables_1, d.before a0 Z = true) : ((Jvm.Cond.selects "java/time/YearMonth" ({ cls := "java/time/YearMonth", name := "lengthOfMonth", desc := "()I" } : Jvm.MethodName) ({ cls := "java/time/YearMonth", name := "lengthOfMonth", desc := "()I" } : Jvm.MethodName))).before a0 Z = true := hw _ (List.mem_of_getElem? (i := 185) rfl)
theorem tw186 {Z : State} {a0 : Array Value} (hw : ∀ d ∈ tables_1, d.before a0 Z = true) : ((Jvm.Cond.code ({ cls := "java/time/YearMonth", name := "lengthOfMonth", desc := "()I" } : Jvm.MethodName) jdk_2340_method_22_code (1 : Nat) (Option.some Jvm.ClassFile.FieldType.int))).before a0 Z = true := hw _ (List.mem_of_getElem? (i := 186) rfl)
theorem tw187 {Z : State} {a0 : Array Value} (hw : ∀ d ∈ tables_1, d.before a0 Z = true) : ((Jvm.Cond.methodLink "java/time/YearMonth" (260 : Nat) ({ cls := "java/time/YearMonth", name := "getMonth", desc := "()Ljava/time/Month;" } : Jvm.MethodName))).before a0 Z = true := hw _ (List.mem_of_getElem? (i := 187) rfl)
theorem tw188 {Z : State} {a0 : Array Value} (hw : ∀ d ∈ tables_1, d.before a0 Z = true) : ((Jvm.Cond.declares ({ cls := "java/time/YearMonth", name := "getMonth", desc := "()Ljava/time/Month;" } : Jvm.MethodName))).before a0 Z = true := hw _ (List.mem_of_getElem? (i := 188) rfl)
theorem tw189 {Z : State} {a0 : Array Value} (hw : ∀ d ∈ tables_1, d.before a0 Z = true) : ((Jvm.Cond.instanceMethod ({ cls := "java/time/YearMonth", name := "getMonth", desc := "()Ljava/time/Month;" } : Jvm.MethodName))).before a0 Z = true := hw _ (List.mem_of_getElem? (i := 189) rfl)
theorem tw190 {Z : State} {a0 : Array Value} (hw : ∀ d ∈ tables_1, d.before a0 Z = true) : ((Jvm.Cond.selects "java/time/YearMonth" ({ cls := "java/time/YearMonth", name := "getMonth", desc := "()Ljava/time/Month;" } : Jvm.MethodName) ({ cls := "java/time/YearMonth", name := "getMonth", desc := "()Ljava/time/Month;" } : Jvm.MethodName))).before a0 Z = true := hw _ (List.mem_of_getElem? (i := 190) rfl)
theorem tw191 {Z : State} {a0 : Array Value} (hw : ∀ d ∈ tables_1, d.before a0 Z = true) : ((Jvm.Cond.code ({ cls := "java/time/YearMonth", name := "getMonth", desc := "()Ljava/time/Month;" } : Jvm.MethodName) jdk_2340_method_19_code (1 : Nat) (Option.some (Jvm.ClassFile.FieldType.object "java/time/Month")))).before a0 Z = true := hw _ (List.mem_of_getElem? (i := 191) rfl)
theorem tw192 {Z : State} {a0 : Array Value} (hw : ∀ d ∈ tables_1, d.before a0 Z = true) : ((Jvm.Cond.methodLink "java/time/YearMonth" (250 : Nat) ({ cls := "java/time/Month", name := "of", desc := "(I)Ljava/time/Month;" } : Jvm.MethodName))).before a0 Z = true := hw _ (List.mem_of_getElem? (i := 192) rfl)
theorem tw193 {Z : State} {a0 : Array Value} (hw : ∀ d ∈ tables_1, d.before a0 Z = true) : ((Jvm.Cond.static ({ cls := "java/time/Month", name := "of", desc := "(I)Ljava/time/Month;" } : Jvm.MethodName))).before a0 Z = true := hw _ (List.mem_of_getElem? (i := 193) rfl)
theorem tw194 {Z : State} {a0 : Array Value} (hw : ∀ d ∈ tables_1, d.before a0 Z = true) : ((Jvm.Cond.initialized "java/time/Month")).before a0 Z = true := hw _ (List.mem_of_getElem? (i := 194) rfl)
theorem tw195 {Z : State} {a0 : Array Value} (hw : ∀ d ∈ tables_1, d.before a0 Z = true) : ((Jvm.Cond.code ({ cls := "java/time/Month", name := "of", desc := "(I)Ljava/time/Month;" } : Jvm.MethodName) jdk_2329_method_4_code (1 : Nat) (Option.some (Jvm.ClassFile.FieldType.object "java/time/Month")))).before a0 Z = true := hw _ (List.mem_of_getElem? (i := 195) rfl)
theorem tw196 {Z : State} {a0 : Array Value} (hw : ∀ d ∈ tables_1, d.before a0 Z = true) : ((Jvm.Cond.fieldLink "java/time/Month" (82 : Nat) "java/time/Month" "ENUMS" "[Ljava/time/Month;")).before a0 Z = true := hw _ (List.mem_of_getElem? (i := 196) rfl)
theorem tw197 {Z : State} {a0 : Array Value} (hw : ∀ d ∈ tables_1, d.before a0 Z = true) : ((Jvm.Cond.methodLink "java/time/YearMonth" (261 : Nat) ({ cls := "java/time/YearMonth", name := "isLeapYear", desc := "()Z" } : Jvm.MethodName))).before a0 Z = true := hw _ (List.mem_of_getElem? (i := 197) rfl)
theorem tw198 {Z : State} {a0 : Array Value} (hw : ∀ d ∈ tables_1, d.before a0 Z = true) : ((Jvm.Cond.declares ({ cls := "java/time/YearMonth", name := "isLeapYear", desc := "()Z" } : Jvm.MethodName))).before a0 Z = true := hw _ (List.mem_of_getElem? (i := 198) rfl)
theorem tw199 {Z : State} {a0 : Array Value} (hw : ∀ d ∈ tables_1, d.before a0 Z = true) : ((Jvm.Cond.instanceMethod ({ cls := "java/time/YearMonth", name := "isLeapYear", desc := "()Z" } : Jvm.MethodName))).before a0 Z = true := hw _ (List.mem_of_getElem? (i := 199) rfl)
theorem tw200 {Z : State} {a0 : Array Value} (hw : ∀ d ∈ tables_1, d.before a0 Z = true) : ((Jvm.Cond.selects "java/time/YearMonth" ({ cls := "java/time/YearMonth", name := "isLeapYear", desc := "()Z" } : Jvm.MethodName) ({ cls := "java/time/YearMonth", name := "isLeapYear", desc := "()Z" } : Jvm.MethodName))).before a0 Z = true := hw _ (List.mem_of_getElem? (i := 200) rfl)
theorem tw201 {Z : State} {a0 : Array Value} (hw : ∀ d ∈ tables_1, d.before a0 Z = true) : ((Jvm.Cond.code ({ cls := "java/time/YearMonth", name := "isLeapYear", desc := "()Z" } : Jvm.MethodName) jdk_2340_method_20_code (1 : Nat) (Option.some Jvm.ClassFile.FieldType.boolean))).before a0 Z = true := hw _ (List.mem_of_getElem? (i := 201) rfl)
theorem tw202 {Z : State} {a0 : Array Value} (hw : ∀ d ∈ tables_1, d.before a0 Z = true) : ((Jvm.Cond.fieldLink "java/time/YearMonth" (69 : Nat) "java/time/chrono/IsoChronology" "INSTANCE" "Ljava/time/chrono/IsoChronology;")).before a0 Z = true := hw _ (List.mem_of_getElem? (i := 202) rfl)
theorem tw203 {Z : State} {a0 : Array Value} (hw : ∀ d ∈ tables_1, d.before a0 Z = true) : ((Jvm.Cond.initialized "java/time/chrono/IsoChronology")).before a0 Z = true := hw _ (List.mem_of_getElem? (i := 203) rfl)
theorem tw204 {Z : State} {a0 : Array Value} (hw : ∀ d ∈ tables_1, d.before a0 Z = true) : ((Jvm.Cond.methodLink "java/time/YearMonth" (253 : Nat) ({ cls := "java/time/chrono/IsoChronology", name := "isLeapYear", desc := "(J)Z" } : Jvm.MethodName))).before a0 Z = true := hw _ (List.mem_of_getElem? (i := 204) rfl)
theorem tw205 {Z : State} {a0 : Array Value} (hw : ∀ d ∈ tables_1, d.before a0 Z = true) : ((Jvm.Cond.declares ({ cls := "java/time/chrono/IsoChronology", name := "isLeapYear", desc := "(J)Z" } : Jvm.MethodName))).before a0 Z = true := hw _ (List.mem_of_getElem? (i := 205) rfl)
theorem tw206 {Z : State} {a0 : Array Value} (hw : ∀ d ∈ tables_1, d.before a0 Z = true) : ((Jvm.Cond.instanceMethod ({ cls := "java/time/chrono/IsoChronology", name := "isLeapYear", desc := "(J)Z" } : Jvm.MethodName))).before a0 Z = true := hw _ (List.mem_of_getElem? (i := 206) rfl)
theorem tw207 {Z : State} {a0 : Array Value} (hw : ∀ d ∈ tables_1, d.before a0 Z = true) : ((Jvm.Cond.selects "java/time/chrono/IsoChronology" ({ cls := "java/time/chrono/IsoChronology", name := "isLeapYear", desc := "(J)Z" } : Jvm.MethodName) ({ cls := "java/time/chrono/IsoChronology", name := "isLeapYear", desc := "(J)Z" } : Jvm.MethodName))).before a0 Z = true := hw _ (List.mem_of_getElem? (i := 207) rfl)
theorem tw208 {Z : State} {a0 : Array Value} (hw : ∀ d ∈ tables_1, d.before a0 Z = true) : ((Jvm.Cond.code ({ cls := "java/time/chrono/IsoChronology", name := "isLeapYear", desc := "(J)Z" } : Jvm.MethodName) jdk_2369_method_18_code (3 : Nat) (Option.some Jvm.ClassFile.FieldType.boolean))).before a0 Z = true := hw _ (List.mem_of_getElem? (i := 208) rfl)
theorem tw209 {Z : State} {a0 : Array Value} (hw : ∀ d ∈ tables_1, d.before a0 Z = true) : ((Jvm.Cond.constantLong "java/time/chrono/IsoChronology" (117 : Nat) (3 : Int64))).before a0 Z = true := hw _ (List.mem_of_getElem? (i := 209) rfl)
theorem tw210 {Z : State} {a0 : Array Value} (hw : ∀ d ∈ tables_1, d.before a0 Z = true) : ((Jvm.Cond.constantLong "java/time/chrono/IsoChronology" (123 : Nat) (100 : Int64))).before a0 Z = true := hw _ (List.mem_of_getElem? (i := 210) rfl)
theorem tw211 {Z : State} {a0 : Array Value} (hw : ∀ d ∈ tables_1, d.before a0 Z = true) : ((Jvm.Cond.constantLong "java/time/chrono/IsoChronology" (127 : Nat) (400 : Int64))).before a0 Z = true := hw _ (List.mem_of_getElem? (i := 211) rfl)
theorem tw212 {Z : State} {a0 : Array Value} (hw : ∀ d ∈ tables_1, d.before a0 Z = true) : ((Jvm.Cond.methodLink "java/time/YearMonth" (264 : Nat) ({ cls := "java/time/Month", name := "length", desc := "(Z)I" } : Jvm.MethodName))).before a0 Z = true := hw _ (List.mem_of_getElem? (i := 212) rfl)
theorem tw213 {Z : State} {a0 : Array Value} (hw : ∀ d ∈ tables_1, d.before a0 Z = true) : ((Jvm.Cond.declares ({ cls := "java/time/Month", name := "length", desc := "(Z)I" } : Jvm.MethodName))).before a0 Z = true := hw _ (List.mem_of_getElem? (i := 213) rfl)
theorem tw214 {Z : State} {a0 : Array Value} (hw : ∀ d ∈ tables_1, d.before a0 Z = true) : ((Jvm.Cond.instanceMethod ({ cls := "java/time/Month", name := "length", desc := "(Z)I" } : Jvm.MethodName))).before a0 Z = true := hw _ (List.mem_of_getElem? (i := 214) rfl)
theorem tw215 {Z : State} {a0 : Array Value} (hw : ∀ d ∈ tables_1, d.before a0 Z = true) : ((Jvm.Cond.selects "java/time/Month" ({ cls := "java/time/Month", name := "length", desc := "(Z)I" } : Jvm.MethodName) ({ cls := "java/time/Month", name := "length", desc := "(Z)I" } : Jvm.MethodName))).before a0 Z = true := hw _ (List.mem_of_getElem? (i := 215) rfl)
theorem tw216 {Z : State} {a0 : Array Value} (hw : ∀ d ∈ tables_1, d.before a0 Z = true) : ((Jvm.Cond.code ({ cls := "java/time/Month", name := "length", desc := "(Z)I" } : Jvm.MethodName) jdk_2329_method_14_code (2 : Nat) (Option.some Jvm.ClassFile.FieldType.int))).before a0 Z = true := hw _ (List.mem_of_getElem? (i := 216) rfl)
theorem tw217 {Z : State} {a0 : Array Value} (hw : ∀ d ∈ tables_1, d.before a0 Z = true) : ((Jvm.Cond.methodLink "java/time/Month" (141 : Nat) ({ cls := "java/time/Month", name := "ordinal", desc := "()I" } : Jvm.MethodName))).before a0 Z = true := hw _ (List.mem_of_getElem? (i := 217) rfl)
theorem tw218 {Z : State} {a0 : Array Value} (hw : ∀ d ∈ tables_1, d.before a0 Z = true) : ((Jvm.Cond.sameMethod "java/time/Month" "java/lang/Enum" "ordinal" "()I")).before a0 Z = true := hw _ (List.mem_of_getElem? (i := 218) rfl)
theorem tw219 {Z : State} {a0 : Array Value} (hw : ∀ d ∈ tables_1, d.before a0 Z = true) : ((Jvm.Cond.declares ({ cls := "java/lang/Enum", name := "ordinal", desc := "()I" } : Jvm.MethodName))).before a0 Z = true := hw _ (List.mem_of_getElem? (i := 219) rfl)
theorem tw220 {Z : State} {a0 : Array Value} (hw : ∀ d ∈ tables_1, d.before a0 Z = true) : ((Jvm.Cond.instanceMethod ({ cls := "java/lang/Enum", name := "ordinal", desc := "()I" } : Jvm.MethodName))).before a0 Z = true := hw _ (List.mem_of_getElem? (i := 220) rfl)
theorem tw221 {Z : State} {a0 : Array Value} (hw : ∀ d ∈ tables_1, d.before a0 Z = true) : ((Jvm.Cond.selects "java/time/Month" ({ cls := "java/time/Month", name := "ordinal", desc := "()I" } : Jvm.MethodName) ({ cls := "java/lang/Enum", name := "ordinal", desc := "()I" } : Jvm.MethodName))).before a0 Z = true := hw _ (List.mem_of_getElem? (i := 221) rfl)
theorem tw222 {Z : State} {a0 : Array Value} (hw : ∀ d ∈ tables_1, d.before a0 Z = true) : ((Jvm.Cond.initialized "java/lang/Enum")).before a0 Z = true := hw _ (List.mem_of_getElem? (i := 222) rfl)
theorem tw223 {Z : State} {a0 : Array Value} (hw : ∀ d ∈ tables_1, d.before a0 Z = true) : ((Jvm.Cond.code ({ cls := "java/lang/Enum", name := "ordinal", desc := "()I" } : Jvm.MethodName) jdk_37_method_2_code (1 : Nat) (Option.some Jvm.ClassFile.FieldType.int))).before a0 Z = true := hw _ (List.mem_of_getElem? (i := 223) rfl)
theorem tw224 {Z : State} {a0 : Array Value} (hw : ∀ d ∈ tables_1, d.before a0 Z = true) : ((Jvm.Cond.fieldLink "java/lang/Enum" (7 : Nat) "java/lang/Enum" "ordinal" "I")).before a0 Z = true := hw _ (List.mem_of_getElem? (i := 224) rfl)
theorem tw226 {Z : State} {a0 : Array Value} (hw : ∀ d ∈ tables_1, d.before a0 Z = true) : ((Jvm.Cond.methodRef "com/example/roomyield/roomyield/NightTally" (137 : Nat) ({ cls := "com/example/roomyield/roomyield/NightTally$MonthNights", name := "<init>", desc := "(I)V" } : Jvm.MethodName))).before a0 Z = true := hw _ (List.mem_of_getElem? (i := 226) rfl)
theorem tw227 {Z : State} {a0 : Array Value} (hw : ∀ d ∈ tables_1, d.before a0 Z = true) : ((Jvm.Cond.instanceMethod ({ cls := "com/example/roomyield/roomyield/NightTally$MonthNights", name := "<init>", desc := "(I)V" } : Jvm.MethodName))).before a0 Z = true := hw _ (List.mem_of_getElem? (i := 227) rfl)
theorem tw228 {Z : State} {a0 : Array Value} (hw : ∀ d ∈ tables_1, d.before a0 Z = true) : ((Jvm.Cond.code ({ cls := "com/example/roomyield/roomyield/NightTally$MonthNights", name := "<init>", desc := "(I)V" } : Jvm.MethodName) prog_7_method_1_code (2 : Nat) (Option.none : Option Jvm.ClassFile.FieldType))).before a0 Z = true := hw _ (List.mem_of_getElem? (i := 228) rfl)
theorem tw229 {Z : State} {a0 : Array Value} (hw : ∀ d ∈ tables_1, d.before a0 Z = true) : ((Jvm.Cond.methodLink "com/example/roomyield/roomyield/NightTally$MonthNights" (1 : Nat) ({ cls := "java/lang/Object", name := "<init>", desc := "()V" } : Jvm.MethodName))).before a0 Z = true := hw _ (List.mem_of_getElem? (i := 229) rfl)
theorem tw230 {Z : State} {a0 : Array Value} (hw : ∀ d ∈ tables_1, d.before a0 Z = true) : ((Jvm.Cond.classLink "com/example/roomyield/roomyield/NightTally$MonthNights" (7 : Nat) "com/example/roomyield/roomyield/NightTally$Nights")).before a0 Z = true := hw _ (List.mem_of_getElem? (i := 230) rfl)
theorem tw231 {Z : State} {a0 : Array Value} (hw : ∀ d ∈ tables_1, d.before a0 Z = true) : ((Jvm.Cond.instantiable "com/example/roomyield/roomyield/NightTally$Nights" (5 : Nat))).before a0 Z = true := hw _ (List.mem_of_getElem? (i := 231) rfl)
theorem tw232 {Z : State} {a0 : Array Value} (hw : ∀ d ∈ tables_1, d.before a0 Z = true) : ((Jvm.Cond.initialized "com/example/roomyield/roomyield/NightTally$Nights")).before a0 Z = true := hw _ (List.mem_of_getElem? (i := 232) rfl)
theorem tw233 {Z : State} {a0 : Array Value} (hw : ∀ d ∈ tables_1, d.before a0 Z = true) : ((Jvm.Cond.methodLinkNest "com/example/roomyield/roomyield/NightTally$MonthNights" (9 : Nat) ({ cls := "com/example/roomyield/roomyield/NightTally$Nights", name := "<init>", desc := "()V" } : Jvm.MethodName) "com/example/roomyield/roomyield/NightTally")).before a0 Z = true := hw _ (List.mem_of_getElem? (i := 233) rfl)
theorem tw234 {Z : State} {a0 : Array Value} (hw : ∀ d ∈ tables_1, d.before a0 Z = true) : ((Jvm.Cond.instanceMethod ({ cls := "com/example/roomyield/roomyield/NightTally$Nights", name := "<init>", desc := "()V" } : Jvm.MethodName))).before a0 Z = true := hw _ (List.mem_of_getElem? (i := 234) rfl)
theorem tw235 {Z : State} {a0 : Array Value} (hw : ∀ d ∈ tables_1, d.before a0 Z = true) : ((Jvm.Cond.code ({ cls := "com/example/roomyield/roomyield/NightTally$Nights", name := "<init>", desc := "()V" } : Jvm.MethodName) prog_9_method_1_code (1 : Nat) (Option.none : Option Jvm.ClassFile.FieldType))).before a0 Z = true := hw _ (List.mem_of_getElem? (i := 235) rfl)
theorem tw236 {Z : State} {a0 : Array Value} (hw : ∀ d ∈ tables_1, d.before a0 Z = true) : ((Jvm.Cond.methodLink "com/example/roomyield/roomyield/NightTally$Nights" (1 : Nat) ({ cls := "java/lang/Object", name := "<init>", desc := "()V" } : Jvm.MethodName))).before a0 Z = true := hw _ (List.mem_of_getElem? (i := 236) rfl)
theorem tw237 {Z : State} {a0 : Array Value} (hw : ∀ d ∈ tables_1, d.before a0 Z = true) : ((Jvm.Cond.fieldLink "com/example/roomyield/roomyield/NightTally$Nights" (7 : Nat) "java/math/BigDecimal" "ZERO" "Ljava/math/BigDecimal;")).before a0 Z = true := hw _ (List.mem_of_getElem? (i := 237) rfl)
theorem tw238 {Z : State} {a0 : Array Value} (hw : ∀ d ∈ tables_1, d.before a0 Z = true) : ((Jvm.Cond.fieldLink "com/example/roomyield/roomyield/NightTally$Nights" (13 : Nat) "com/example/roomyield/roomyield/NightTally$Nights" "revenue" "Ljava/math/BigDecimal;")).before a0 Z = true := hw _ (List.mem_of_getElem? (i := 238) rfl)
theorem tw239 {Z : State} {a0 : Array Value} (hw : ∀ d ∈ tables_1, d.before a0 Z = true) : ((Jvm.Cond.lays "com/example/roomyield/roomyield/NightTally$Nights" "com/example/roomyield/roomyield/NightTally$Nights" "revenue" "Ljava/math/BigDecimal;")).before a0 Z = true := hw _ (List.mem_of_getElem? (i := 239) rfl)
theorem tw240 {Z : State} {a0 : Array Value} (hw : ∀ d ∈ tables_1, d.before a0 Z = true) : ((Jvm.Cond.fieldLink "com/example/roomyield/roomyield/NightTally$Nights" (18 : Nat) "com/example/roomyield/roomyield/NightTally$Nights" "guests" "Ljava/math/BigDecimal;")).before a0 Z = true := hw _ (List.mem_of_getElem? (i := 240) rfl)
theorem tw241 {Z : State} {a0 : Array Value} (hw : ∀ d ∈ tables_1, d.before a0 Z = true) : ((Jvm.Cond.lays "com/example/roomyield/roomyield/NightTally$Nights" "com/example/roomyield/roomyield/NightTally$Nights" "guests" "Ljava/math/BigDecimal;")).before a0 Z = true := hw _ (List.mem_of_getElem? (i := 241) rfl)
theorem tw242 {Z : State} {a0 : Array Value} (hw : ∀ d ∈ tables_1, d.before a0 Z = true) : ((Jvm.Cond.fieldLink "com/example/roomyield/roomyield/NightTally$MonthNights" (10 : Nat) "com/example/roomyield/roomyield/NightTally$MonthNights" "nights" "Lcom/example/roomyield/roomyield/NightTally$Nights;")).before a0 Z = true := hw _ (List.mem_of_getElem? (i := 242) rfl)
theorem tw243 {Z : State} {a0 : Array Value} (hw : ∀ d ∈ tables_1, d.before a0 Z = true) : ((Jvm.Cond.laysFinal "com/example/roomyield/roomyield/NightTally$MonthNights" "com/example/roomyield/roomyield/NightTally$MonthNights" "nights" "Lcom/example/roomyield/roomyield/NightTally$Nights;")).before a0 Z = true := hw _ (List.mem_of_getElem? (i := 243) rfl)
theorem tw244 {Z : State} {a0 : Array Value} (hw : ∀ d ∈ tables_1, d.before a0 Z = true) : ((Jvm.Cond.fieldLink "com/example/roomyield/roomyield/NightTally$MonthNights" (16 : Nat) "com/example/roomyield/roomyield/NightTally$MonthNights" "wholeMonthChange" "Lcom/example/roomyield/roomyield/NightTally$Nights;")).before a0 Z = true := hw _ (List.mem_of_getElem? (i := 244) rfl)
theorem tw245 {Z : State} {a0 : Array Value} (hw : ∀ d ∈ tables_1, d.before a0 Z = true) : ((Jvm.Cond.laysFinal "com/example/roomyield/roomyield/NightTally$MonthNights" "com/example/roomyield/roomyield/NightTally$MonthNights" "wholeMonthChange" "Lcom/example/roomyield/roomyield/NightTally$Nights;")).before a0 Z = true := hw _ (List.mem_of_getElem? (i := 245) rfl)
theorem tw246 {Z : State} {a0 : Array Value} (hw : ∀ d ∈ tables_1, d.before a0 Z = true) : ((Jvm.Cond.arrayClass Jvm.ClassFile.FieldType.long)).before a0 Z = true := hw _ (List.mem_of_getElem? (i := 246) rfl)
theorem tw247 {Z : State} {a0 : Array Value} (hw : ∀ d ∈ tables_1, d.before a0 Z = true) : ((Jvm.Cond.fieldLink "com/example/roomyield/roomyield/NightTally$MonthNights" (19 : Nat) "com/example/roomyield/roomyield/NightTally$MonthNights" "occupiedChange" "[J")).before a0 Z = true := hw _ (List.mem_of_getElem? (i := 247) rfl)
theorem tw248 {Z : State} {a0 : Array Value} (hw : ∀ d ∈ tables_1, d.before a0 Z = true) : ((Jvm.Cond.laysFinal "com/example/roomyield/roomyield/NightTally$MonthNights" "com/example/roomyield/roomyield/NightTally$MonthNights" "occupiedChange" "[J")).before a0 Z = true := hw _ (List.mem_of_getElem? (i := 248) rfl)
theorem tw250 {Z : State} {a0 : Array Value} (hw : ∀ d ∈ tables_1, d.before a0 Z = true) : ((Jvm.Cond.fieldRef "com/example/roomyield/roomyield/NightTally" (62 : Nat) "com/example/roomyield/roomyield/NightTally$MonthNights" "occupiedChange" "[J")).before a0 Z = true := hw _ (List.mem_of_getElem? (i := 250) rfl)
theorem tw251 {Z : State} {a0 : Array Value} (hw : ∀ d ∈ tables_1, d.before a0 Z = true) : ((Jvm.Cond.methodLink "com/example/roomyield/roomyield/NightTally" (66 : Nat) ({ cls := "java/time/LocalDate", name := "getDayOfMonth", desc := "()I" } : Jvm.MethodName))).before a0 Z = true := hw _ (List.mem_of_getElem? (i := 251) rfl)
theorem tw252 {Z : State} {a0 : Array Value} (hw : ∀ d ∈ tables_1, d.before a0 Z = true) : ((Jvm.Cond.declares ({ cls := "java/time/LocalDate", name := "getDayOfMonth", desc := "()I" } : Jvm.MethodName))).before a0 Z = true := hw _ (List.mem_of_getElem? (i := 252) rfl)
theorem tw253 {Z : State} {a0 : Array Value} (hw : ∀ d ∈ tables_1, d.before a0 Z = true) : ((Jvm.Cond.instanceMethod ({ cls := "java/time/LocalDate", name := "getDayOfMonth", desc := "()I" } : Jvm.MethodName))).before a0 Z = true := hw _ (List.mem_of_getElem? (i := 253) rfl)
theorem tw254 {Z : State} {a0 : Array Value} (hw : ∀ d ∈ tables_1, d.before a0 Z = true) : ((Jvm.Cond.selects "java/time/LocalDate" ({ cls := "java/time/LocalDate", name := "getDayOfMonth", desc := "()I" } : Jvm.MethodName) ({ cls := "java/time/LocalDate", name := "getDayOfMonth", desc := "()I" } : Jvm.MethodName))).before a0 Z = true := hw _ (List.mem_of_getElem? (i := 254) rfl)
theorem tw255 {Z : State} {a0 : Array Value} (hw : ∀ d ∈ tables_1, d.before a0 Z = true) : ((Jvm.Cond.code ({ cls := "java/time/LocalDate", name := "getDayOfMonth", desc := "()I" } : Jvm.MethodName) jdk_2323_method_27_code (1 : Nat) (Option.some Jvm.ClassFile.FieldType.int))).before a0 Z = true := hw _ (List.mem_of_getElem? (i := 255) rfl)
theorem tw256 {Z : State} {a0 : Array Value} (hw : ∀ d ∈ tables_1, d.before a0 Z = true) : ((Jvm.Cond.methodLink "com/example/roomyield/roomyield/NightTally" (69 : Nat) ({ cls := "java/math/BigDecimal", name := "signum", desc := "()I" } : Jvm.MethodName))).before a0 Z = true := hw _ (List.mem_of_getElem? (i := 256) rfl)
theorem tw257 {Z : State} {a0 : Array Value} (hw : ∀ d ∈ tables_1, d.before a0 Z = true) : ((Jvm.Cond.declares ({ cls := "java/math/BigDecimal", name := "signum", desc := "()I" } : Jvm.MethodName))).before a0 Z = true := hw _ (List.mem_of_getElem? (i := 257) rfl)
theorem tw258 {Z : State} {a0 : Array Value} (hw : ∀ d ∈ tables_1, d.before a0 Z = true) : ((Jvm.Cond.instanceMethod ({ cls := "java/math/BigDecimal", name := "signum", desc := "()I" } : Jvm.MethodName))).before a0 Z = true := hw _ (List.mem_of_getElem? (i := 258) rfl)
theorem tw259 {Z : State} {a0 : Array Value} (hw : ∀ d ∈ tables_1, d.before a0 Z = true) : ((Jvm.Cond.selects "java/math/BigDecimal" ({ cls := "java/math/BigDecimal", name := "signum", desc := "()I" } : Jvm.MethodName) ({ cls := "java/math/BigDecimal", name := "signum", desc := "()I" } : Jvm.MethodName))).before a0 Z = true := hw _ (List.mem_of_getElem? (i := 259) rfl)
theorem tw260 {Z : State} {a0 : Array Value} (hw : ∀ d ∈ tables_1, d.before a0 Z = true) : ((Jvm.Cond.code ({ cls := "java/math/BigDecimal", name := "signum", desc := "()I" } : Jvm.MethodName) jdk_17_method_58_code (1 : Nat) (Option.some Jvm.ClassFile.FieldType.int))).before a0 Z = true := hw _ (List.mem_of_getElem? (i := 260) rfl)
theorem tw261 {Z : State} {a0 : Array Value} (hw : ∀ d ∈ tables_1, d.before a0 Z = true) : ((Jvm.Cond.fieldLink "java/math/BigDecimal" (24 : Nat) "java/math/BigDecimal" "intCompact" "J")).before a0 Z = true := hw _ (List.mem_of_getElem? (i := 261) rfl)
theorem tw262 {Z : State} {a0 : Array Value} (hw : ∀ d ∈ tables_1, d.before a0 Z = true) : ((Jvm.Cond.laysFinal "java/math/BigDecimal" "java/math/BigDecimal" "intCompact" "J")).before a0 Z = true := hw _ (List.mem_of_getElem? (i := 262) rfl)
theorem tw263 {Z : State} {a0 : Array Value} (hw : ∀ d ∈ tables_1, d.before a0 Z = true) : ((Jvm.Cond.constantLong "java/math/BigDecimal" (125 : Nat) (-9223372036854775808 : Int64))).before a0 Z = true := hw _ (List.mem_of_getElem? (i := 263) rfl)
theorem tw264 {Z : State} {a0 : Array Value} (hw : ∀ d ∈ tables_1, d.before a0 Z = true) : ((Jvm.Cond.methodLink "java/math/BigDecimal" (596 : Nat) ({ cls := "java/lang/Long", name := "signum", desc := "(J)I" } : Jvm.MethodName))).before a0 Z = true := hw _ (List.mem_of_getElem? (i := 264) rfl)
theorem tw265 {Z : State} {a0 : Array Value} (hw : ∀ d ∈ tables_1, d.before a0 Z = true) : ((Jvm.Cond.static ({ cls := "java/lang/Long", name := "signum", desc := "(J)I" } : Jvm.MethodName))).before a0 Z = true := hw _ (List.mem_of_getElem? (i := 265) rfl)
theorem tw266 {Z : State} {a0 : Array Value} (hw : ∀ d ∈ tables_1, d.before a0 Z = true) : ((Jvm.Cond.initialized "java/lang/Long")).before a0 Z = true := hw _ (List.mem_of_getElem? (i := 266) rfl)
theorem tw267 {Z : State} {a0 : Array Value} (hw : ∀ d ∈ tables_1, d.before a0 Z = true) : ((Jvm.Cond.code ({ cls := "java/lang/Long", name := "signum", desc := "(J)I" } : Jvm.MethodName) jdk_35_method_57_code (2 : Nat) (Option.some Jvm.ClassFile.FieldType.int))).before a0 Z = true := hw _ (List.mem_of_getElem? (i := 267) rfl)
theorem tw268 {Z : State} {a0 : Array Value} (hw : ∀ d ∈ tables_1, d.before a0 Z = true) : ((Jvm.Cond.fieldRef "com/example/roomyield/roomyield/NightTally" (74 : Nat) "com/example/roomyield/roomyield/NightTally$MonthNights" "nights" "Lcom/example/roomyield/roomyield/NightTally$Nights;")).before a0 Z = true := hw _ (List.mem_of_getElem? (i := 268) rfl)
theorem tw269 {Z : State} {a0 : Array Value} (hw : ∀ d ∈ tables_1, d.before a0 Z = true) : ((Jvm.Cond.methodRef "com/example/roomyield/roomyield/NightTally" (78 : Nat) ({ cls := "com/example/roomyield/roomyield/NightTally$Nights", name := "add", desc := "(JZLjava/math/BigDecimal;Ljava/math/BigDecimal;)V" } : Jvm.MethodName))).before a0 Z = true := hw _ (List.mem_of_getElem? (i := 269) rfl)
theorem tw270 {Z : State} {a0 : Array Value} (hw : ∀ d ∈ tables_1, d.before a0 Z = true) : ((Jvm.Cond.instanceMethod ({ cls := "com/example/roomyield/roomyield/NightTally$Nights", name := "add", desc := "(JZLjava/math/BigDecimal;Ljava/math/BigDecimal;)V" } : Jvm.MethodName))).before a0 Z = true := hw _ (List.mem_of_getElem? (i := 270) rfl)
theorem tw271 {Z : State} {a0 : Array Value} (hw : ∀ d ∈ tables_1, d.before a0 Z = true) : ((Jvm.Cond.privateMethod ({ cls := "com/example/roomyield/roomyield/NightTally$Nights", name := "add", desc := "(JZLjava/math/BigDecimal;Ljava/math/BigDecimal;)V" } : Jvm.MethodName))).before a0 Z = true := hw _ (List.mem_of_getElem? (i := 271) rfl)
theorem tw272 {Z : State} {a0 : Array Value} (hw : ∀ d ∈ tables_1, d.before a0 Z = true) : ((Jvm.Cond.code ({ cls := "com/example/roomyield/roomyield/NightTally$Nights", name := "add", desc := "(JZLjava/math/BigDecimal;Ljava/math/BigDecimal;)V" } : Jvm.MethodName) prog_9_method_2_code (7 : Nat) (Option.none : Option Jvm.ClassFile.FieldType))).before a0 Z = true := hw _ (List.mem_of_getElem? (i := 272) rfl)
theorem tw273 {Z : State} {a0 : Array Value} (hw : ∀ d ∈ tables_1, d.before a0 Z = true) : ((Jvm.Cond.methodLink "com/example/roomyield/roomyield/NightTally$Nights" (25 : Nat) ({ cls := "java/math/BigDecimal", name := "valueOf", desc := "(J)Ljava/math/BigDecimal;" } : Jvm.MethodName))).before a0 Z = true := hw _ (List.mem_of_getElem? (i := 273) rfl)
theorem tw274 {Z : State} {a0 : Array Value} (hw : ∀ d ∈ tables_1, d.before a0 Z = true) : ((Jvm.Cond.static ({ cls := "java/math/BigDecimal", name := "valueOf", desc := "(J)Ljava/math/BigDecimal;" } : Jvm.MethodName))).before a0 Z = true := hw _ (List.mem_of_getElem? (i := 274) rfl)
theorem tw275 {Z : State} {a0 : Array Value} (hw : ∀ d ∈ tables_1, d.before a0 Z = true) : ((Jvm.Cond.code ({ cls := "java/math/BigDecimal", name := "valueOf", desc := "(J)Ljava/math/BigDecimal;" } : Jvm.MethodName) jdk_17_method_21_code (2 : Nat) (Option.some (Jvm.ClassFile.FieldType.object "java/math/BigDecimal")))).before a0 Z = true := hw _ (List.mem_of_getElem? (i := 275) rfl)
theorem tw276 {Z : State} {a0 : Array Value} (hw : ∀ d ∈ tables_1, d.before a0 Z = true) : ((Jvm.Cond.fieldLink "java/math/BigDecimal" (246 : Nat) "java/math/BigDecimal" "ZERO_THROUGH_TEN" "[Ljava/math/BigDecimal;")).before a0 Z = true := hw _ (List.mem_of_getElem? (i := 276) rfl)
theorem tw277 {Z : State} {a0 : Array Value} (hw : ∀ d ∈ tables_1, d.before a0 Z = true) : ((Jvm.Cond.fieldLink "com/example/roomyield/roomyield/NightTally$Nights" (29 : Nat) "com/example/roomyield/roomyield/NightTally$Nights" "sold" "J")).before a0 Z = true := hw _ (List.mem_of_getElem? (i := 277) rfl)
theorem tw278 {Z : State} {a0 : Array Value} (hw : ∀ d ∈ tables_1, d.before a0 Z = true) : ((Jvm.Cond.lays "com/example/roomyield/roomyield/NightTally$Nights" "com/example/roomyield/roomyield/NightTally$Nights" "sold" "J")).before a0 Z = true := hw _ (List.mem_of_getElem? (i := 278) rfl)
theorem tw279 {Z : State} {a0 : Array Value} (hw : ∀ d ∈ tables_1, d.before a0 Z = true) : ((Jvm.Cond.methodLink "com/example/roomyield/roomyield/NightTally$Nights" (32 : Nat) ({ cls := "java/math/BigDecimal", name := "multiply", desc := "(Ljava/math/BigDecimal;)Ljava/math/BigDecimal;" } : Jvm.MethodName))).before a0 Z = true := hw _ (List.mem_of_getElem? (i := 279) rfl)
theorem tw280 {Z : State} {a0 : Array Value} (hw : ∀ d ∈ tables_1, d.before a0 Z = true) : ((Jvm.Cond.declares ({ cls := "java/math/BigDecimal", name := "multiply", desc := "(Ljava/math/BigDecimal;)Ljava/math/BigDecimal;" } : Jvm.MethodName))).before a0 Z = true := hw _ (List.mem_of_getElem? (i := 280) rfl)
theorem tw281 {Z : State} {a0 : Array Value} (hw : ∀ d ∈ tables_1, d.before a0 Z = true) : ((Jvm.Cond.instanceMethod ({ cls := "java/math/BigDecimal", name := "multiply", desc := "(Ljava/math/BigDecimal;)Ljava/math/BigDecimal;" } : Jvm.MethodName))).before a0 Z = true := hw _ (List.mem_of_getElem? (i := 281) rfl)
theorem tw282 {Z : State} {a0 : Array Value} (hw : ∀ d ∈ tables_1, d.before a0 Z = true) : ((Jvm.Cond.selects "java/math/BigDecimal" ({ cls := "java/math/BigDecimal", name := "multiply", desc := "(Ljava/math/BigDecimal;)Ljava/math/BigDecimal;" } : Jvm.MethodName) ({ cls := "java/math/BigDecimal", name := "multiply", desc := "(Ljava/math/BigDecimal;)Ljava/math/BigDecimal;" } : Jvm.MethodName))).before a0 Z = true := hw _ (List.mem_of_getElem? (i := 282) rfl)
theorem tw283 {Z : State} {a0 : Array Value} (hw : ∀ d ∈ tables_1, d.before a0 Z = true) : ((Jvm.Cond.code ({ cls := "java/math/BigDecimal", name := "multiply", desc := "(Ljava/math/BigDecimal;)Ljava/math/BigDecimal;" } : Jvm.MethodName) jdk_17_method_31_code (3 : Nat) (Option.some (Jvm.ClassFile.FieldType.object "java/math/BigDecimal")))).before a0 Z = true := hw _ (List.mem_of_getElem? (i := 283) rfl)
theorem tw284 {Z : State} {a0 : Array Value} (hw : ∀ d ∈ tables_1, d.before a0 Z = true) : ((Jvm.Cond.fieldLink "java/math/BigDecimal" (17 : Nat) "java/math/BigDecimal" "scale" "I")).before a0 Z = true := hw _ (List.mem_of_getElem? (i := 284) rfl)
theorem tw285 {Z : State} {a0 : Array Value} (hw : ∀ d ∈ tables_1, d.before a0 Z = true) : ((Jvm.Cond.laysFinal "java/math/BigDecimal" "java/math/BigDecimal" "scale" "I")).before a0 Z = true := hw _ (List.mem_of_getElem? (i := 285) rfl)
theorem tw286 {Z : State} {a0 : Array Value} (hw : ∀ d ∈ tables_1, d.before a0 Z = true) : ((Jvm.Cond.methodLink "java/math/BigDecimal" (325 : Nat) ({ cls := "java/math/BigDecimal", name := "checkScale", desc := "(J)I" } : Jvm.MethodName))).before a0 Z = true := hw _ (List.mem_of_getElem? (i := 286) rfl)
theorem tw287 {Z : State} {a0 : Array Value} (hw : ∀ d ∈ tables_1, d.before a0 Z = true) : ((Jvm.Cond.instanceMethod ({ cls := "java/math/BigDecimal", name := "checkScale", desc := "(J)I" } : Jvm.MethodName))).before a0 Z = true := hw _ (List.mem_of_getElem? (i := 287) rfl)
theorem tw288 {Z : State} {a0 : Array Value} (hw : ∀ d ∈ tables_1, d.before a0 Z = true) : ((Jvm.Cond.privateMethod ({ cls := "java/math/BigDecimal", name := "checkScale", desc := "(J)I" } : Jvm.MethodName))).before a0 Z = true := hw _ (List.mem_of_getElem? (i := 288) rfl)
theorem tw290 {Z : State} {a0 : Array Value} (hw : ∀ d ∈ tables_1, d.before a0 Z = true) : ((Jvm.Cond.code ({ cls := "java/math/BigDecimal", name := "checkScale", desc := "(J)I" } : Jvm.MethodName) jdk_17_method_106_code (5 : Nat) (Option.some Jvm.ClassFile.FieldType.int))).before a0 Z = true := hw _ (List.mem_of_getElem? (i := 290) rfl)
theorem tw291 {Z : State} {a0 : Array Value} (hw : ∀ d ∈ tables_1, d.before a0 Z = true) : ((Jvm.Cond.methodLink "java/math/BigDecimal" (342 : Nat) ({ cls := "java/math/BigDecimal", name := "multiply", desc := "(JJI)Ljava/math/BigDecimal;" } : Jvm.MethodName))).before a0 Z = true := hw _ (List.mem_of_getElem? (i := 291) rfl)
theorem tw292 {Z : State} {a0 : Array Value} (hw : ∀ d ∈ tables_1, d.before a0 Z = true) : ((Jvm.Cond.static ({ cls := "java/math/BigDecimal", name := "multiply", desc := "(JJI)Ljava/math/BigDecimal;" } : Jvm.MethodName))).before a0 Z = true := hw _ (List.mem_of_getElem? (i := 292) rfl)
theorem tw293 {Z : State} {a0 : Array Value} (hw : ∀ d ∈ tables_1, d.before a0 Z = true) : ((Jvm.Cond.code ({ cls := "java/math/BigDecimal", name := "multiply", desc := "(JJI)Ljava/math/BigDecimal;" } : Jvm.MethodName) jdk_17_method_157_code (7 : Nat) (Option.some (Jvm.ClassFile.FieldType.object "java/math/BigDecimal")))).before a0 Z = true := hw _ (List.mem_of_getElem? (i := 293) rfl)
theorem tw294 {Z : State} {a0 : Array Value} (hw : ∀ d ∈ tables_1, d.before a0 Z = true) : ((Jvm.Cond.methodLink "java/math/BigDecimal" (1055 : Nat) ({ cls := "java/math/BigDecimal", name := "multiply", desc := "(JJ)J" } : Jvm.MethodName))).before a0 Z = true := hw _ (List.mem_of_getElem? (i := 294) rfl)
theorem tw295 {Z : State} {a0 : Array Value} (hw : ∀ d ∈ tables_1, d.before a0 Z = true) : ((Jvm.Cond.static ({ cls := "java/math/BigDecimal", name := "multiply", desc := "(JJ)J" } : Jvm.MethodName))).before a0 Z = true := hw _ (List.mem_of_getElem? (i := 295) rfl)
theorem tw296 {Z : State} {a0 : Array Value} (hw : ∀ d ∈ tables_1, d.before a0 Z = true) : ((Jvm.Cond.code ({ cls := "java/math/BigDecimal", name := "multiply", desc := "(JJ)J" } : Jvm.MethodName) jdk_17_method_156_code (10 : Nat) (Option.some Jvm.ClassFile.FieldType.long))).before a0 Z = true := hw _ (List.mem_of_getElem? (i := 296) rfl)
theorem tw297 {Z : State} {a0 : Array Value} (hw : ∀ d ∈ tables_1, d.before a0 Z = true) : ((Jvm.Cond.methodLink "java/math/BigDecimal" (440 : Nat) ({ cls := "java/lang/Math", name := "abs", desc := "(J)J" } : Jvm.MethodName))).before a0 Z = true := hw _ (List.mem_of_getElem? (i := 297) rfl)
theorem tw298 {Z : State} {a0 : Array Value} (hw : ∀ d ∈ tables_1, d.before a0 Z = true) : ((Jvm.Cond.static ({ cls := "java/lang/Math", name := "abs", desc := "(J)J" } : Jvm.MethodName))).before a0 Z = true := hw _ (List.mem_of_getElem? (i := 298) rfl)
theorem tw299 {Z : State} {a0 : Array Value} (hw : ∀ d ∈ tables_1, d.before a0 Z = true) : ((Jvm.Cond.code ({ cls := "java/lang/Math", name := "abs", desc := "(J)J" } : Jvm.MethodName) jdk_29_method_61_code (2 : Nat) (Option.some Jvm.ClassFile.FieldType.long))).before a0 Z = true := hw _ (List.mem_of_getElem? (i := 299) rfl)
theorem tw300 {Z : State} {a0 : Array Value} (hw : ∀ d ∈ tables_1, d.before a0 Z = true) : ((Jvm.Cond.methodLink "java/math/BigDecimal" (328 : Nat) ({ cls := "java/math/BigDecimal", name := "valueOf", desc := "(JI)Ljava/math/BigDecimal;" } : Jvm.MethodName))).before a0 Z = true := hw _ (List.mem_of_getElem? (i := 300) rfl)
theorem tw301 {Z : State} {a0 : Array Value} (hw : ∀ d ∈ tables_1, d.before a0 Z = true) : ((Jvm.Cond.static ({ cls := "java/math/BigDecimal", name := "valueOf", desc := "(JI)Ljava/math/BigDecimal;" } : Jvm.MethodName))).before a0 Z = true := hw _ (List.mem_of_getElem? (i := 301) rfl)
theorem tw302 {Z : State} {a0 : Array Value} (hw : ∀ d ∈ tables_1, d.before a0 Z = true) : ((Jvm.Cond.code ({ cls := "java/math/BigDecimal", name := "valueOf", desc := "(JI)Ljava/math/BigDecimal;" } : Jvm.MethodName) jdk_17_method_20_code (3 : Nat) (Option.some (Jvm.ClassFile.FieldType.object "java/math/BigDecimal")))).before a0 Z = true := hw _ (List.mem_of_getElem? (i := 302) rfl)
theorem tw303 {Z : State} {a0 : Array Value} (hw : ∀ d ∈ tables_1, d.before a0 Z = true) : ((Jvm.Cond.methodLink "java/math/BigDecimal" (236 : Nat) ({ cls := "java/math/BigDecimal", name := "valueOf", desc := "(J)Ljava/math/BigDecimal;" } : Jvm.MethodName))).before a0 Z = true := hw _ (List.mem_of_getElem? (i := 303) rfl)
theorem tw304 {Z : State} {a0 : Array Value} (hw : ∀ d ∈ tables_1, d.before a0 Z = true) : ((Jvm.Cond.methodLink "com/example/roomyield/roomyield/NightTally$Nights" (36 : Nat) ({ cls := "java/math/BigDecimal", name := "add", desc := "(Ljava/math/BigDecimal;)Ljava/math/BigDecimal;" } : Jvm.MethodName))).before a0 Z = true := hw _ (List.mem_of_getElem? (i := 304) rfl)
theorem tw305 {Z : State} {a0 : Array Value} (hw : ∀ d ∈ tables_1, d.before a0 Z = true) : ((Jvm.Cond.declares ({ cls := "java/math/BigDecimal", name := "add", desc := "(Ljava/math/BigDecimal;)Ljava/math/BigDecimal;" } : Jvm.MethodName))).before a0 Z = true := hw _ (List.mem_of_getElem? (i := 305) rfl)
theorem tw306 {Z : State} {a0 : Array Value} (hw : ∀ d ∈ tables_1, d.before a0 Z = true) : ((Jvm.Cond.instanceMethod ({ cls := "java/math/BigDecimal", name := "add", desc := "(Ljava/math/BigDecimal;)Ljava/math/BigDecimal;" } : Jvm.MethodName))).before a0 Z = true := hw _ (List.mem_of_getElem? (i := 306) rfl)
theorem tw307 {Z : State} {a0 : Array Value} (hw : ∀ d ∈ tables_1, d.before a0 Z = true) : ((Jvm.Cond.selects "java/math/BigDecimal" ({ cls := "java/math/BigDecimal", name := "add", desc := "(Ljava/math/BigDecimal;)Ljava/math/BigDecimal;" } : Jvm.MethodName) ({ cls := "java/math/BigDecimal", name := "add", desc := "(Ljava/math/BigDecimal;)Ljava/math/BigDecimal;" } : Jvm.MethodName))).before a0 Z = true := hw _ (List.mem_of_getElem? (i := 307) rfl)
theorem tw308 {Z : State} {a0 : Array Value} (hw : ∀ d ∈ tables_1, d.before a0 Z = true) : ((Jvm.Cond.code ({ cls := "java/math/BigDecimal", name := "add", desc := "(Ljava/math/BigDecimal;)Ljava/math/BigDecimal;" } : Jvm.MethodName) jdk_17_method_26_code (2 : Nat) (Option.some (Jvm.ClassFile.FieldType.object "java/math/BigDecimal")))).before a0 Z = true := hw _ (List.mem_of_getElem? (i := 308) rfl)
theorem tw309 {Z : State} {a0 : Array Value} (hw : ∀ d ∈ tables_1, d.before a0 Z = true) : ((Jvm.Cond.methodLink "java/math/BigDecimal" (257 : Nat) ({ cls := "java/math/BigDecimal", name := "add", desc := "(JIJI)Ljava/math/BigDecimal;" } : Jvm.MethodName))).before a0 Z = true := hw _ (List.mem_of_getElem? (i := 309) rfl)
theorem tw310 {Z : State} {a0 : Array Value} (hw : ∀ d ∈ tables_1, d.before a0 Z = true) : ((Jvm.Cond.static ({ cls := "java/math/BigDecimal", name := "add", desc := "(JIJI)Ljava/math/BigDecimal;" } : Jvm.MethodName))).before a0 Z = true := hw _ (List.mem_of_getElem? (i := 310) rfl)
theorem tw311 {Z : State} {a0 : Array Value} (hw : ∀ d ∈ tables_1, d.before a0 Z = true) : ((Jvm.Cond.code ({ cls := "java/math/BigDecimal", name := "add", desc := "(JIJI)Ljava/math/BigDecimal;" } : Jvm.MethodName) jdk_17_method_134_code (12 : Nat) (Option.some (Jvm.ClassFile.FieldType.object "java/math/BigDecimal")))).before a0 Z = true := hw _ (List.mem_of_getElem? (i := 311) rfl)
theorem tw312 {Z : State} {a0 : Array Value} (hw : ∀ d ∈ tables_1, d.before a0 Z = true) : ((Jvm.Cond.methodLink "java/math/BigDecimal" (1000 : Nat) ({ cls := "java/math/BigDecimal", name := "add", desc := "(JJI)Ljava/math/BigDecimal;" } : Jvm.MethodName))).before a0 Z = true := hw _ (List.mem_of_getElem? (i := 312) rfl)
theorem tw313 {Z : State} {a0 : Array Value} (hw : ∀ d ∈ tables_1, d.before a0 Z = true) : ((Jvm.Cond.static ({ cls := "java/math/BigDecimal", name := "add", desc := "(JJI)Ljava/math/BigDecimal;" } : Jvm.MethodName))).before a0 Z = true := hw _ (List.mem_of_getElem? (i := 313) rfl)
theorem tw314 {Z : State} {a0 : Array Value} (hw : ∀ d ∈ tables_1, d.before a0 Z = true) : ((Jvm.Cond.code ({ cls := "java/math/BigDecimal", name := "add", desc := "(JJI)Ljava/math/BigDecimal;" } : Jvm.MethodName) jdk_17_method_133_code (7 : Nat) (Option.some (Jvm.ClassFile.FieldType.object "java/math/BigDecimal")))).before a0 Z = true := hw _ (List.mem_of_getElem? (i := 314) rfl)
theorem tw315 {Z : State} {a0 : Array Value} (hw : ∀ d ∈ tables_1, d.before a0 Z = true) : ((Jvm.Cond.methodLink "java/math/BigDecimal" (996 : Nat) ({ cls := "java/math/BigDecimal", name := "add", desc := "(JJ)J" } : Jvm.MethodName))).before a0 Z = true := hw _ (List.mem_of_getElem? (i := 315) rfl)
theorem tw316 {Z : State} {a0 : Array Value} (hw : ∀ d ∈ tables_1, d.before a0 Z = true) : ((Jvm.Cond.static ({ cls := "java/math/BigDecimal", name := "add", desc := "(JJ)J" } : Jvm.MethodName))).before a0 Z = true := hw _ (List.mem_of_getElem? (i := 316) rfl)
theorem tw317 {Z : State} {a0 : Array Value} (hw : ∀ d ∈ tables_1, d.before a0 Z = true) : ((Jvm.Cond.code ({ cls := "java/math/BigDecimal", name := "add", desc := "(JJ)J" } : Jvm.MethodName) jdk_17_method_132_code (6 : Nat) (Option.some Jvm.ClassFile.FieldType.long))).before a0 Z = true := hw _ (List.mem_of_getElem? (i := 317) rfl)
theorem tw318 {Z : State} {a0 : Array Value} (hw : ∀ d ∈ tables_1, d.before a0 Z = true) : ((Jvm.Cond.fieldLink "com/example/roomyield/roomyield/NightTally$Nights" (39 : Nat) "java/math/BigDecimal" "ONE" "Ljava/math/BigDecimal;")).before a0 Z = true := hw _ (List.mem_of_getElem? (i := 318) rfl)
theorem tw319 {Z : State} {a0 : Array Value} (hw : ∀ d ∈ tables_1, d.before a0 Z = true) : ((Jvm.Cond.methodLink "com/example/roomyield/roomyield/NightTally$Nights" (42 : Nat) ({ cls := "java/math/BigDecimal", name := "compareTo", desc := "(Ljava/math/BigDecimal;)I" } : Jvm.MethodName))).before a0 Z = true := hw _ (List.mem_of_getElem? (i := 319) rfl)
theorem tw320 {Z : State} {a0 : Array Value} (hw : ∀ d ∈ tables_1, d.before a0 Z = true) : ((Jvm.Cond.declares ({ cls := "java/math/BigDecimal", name := "compareTo", desc := "(Ljava/math/BigDecimal;)I" } : Jvm.MethodName))).before a0 Z = true := hw _ (List.mem_of_getElem? (i := 320) rfl)
theorem tw321 {Z : State} {a0 : Array Value} (hw : ∀ d ∈ tables_1, d.before a0 Z = true) : ((Jvm.Cond.instanceMethod ({ cls := "java/math/BigDecimal", name := "compareTo", desc := "(Ljava/math/BigDecimal;)I" } : Jvm.MethodName))).before a0 Z = true := hw _ (List.mem_of_getElem? (i := 321) rfl)
theorem tw322 {Z : State} {a0 : Array Value} (hw : ∀ d ∈ tables_1, d.before a0 Z = true) : ((Jvm.Cond.selects "java/math/BigDecimal" ({ cls := "java/math/BigDecimal", name := "compareTo", desc := "(Ljava/math/BigDecimal;)I" } : Jvm.MethodName) ({ cls := "java/math/BigDecimal", name := "compareTo", desc := "(Ljava/math/BigDecimal;)I" } : Jvm.MethodName))).before a0 Z = true := hw _ (List.mem_of_getElem? (i := 322) rfl)
theorem tw323 {Z : State} {a0 : Array Value} (hw : ∀ d ∈ tables_1, d.before a0 Z = true) : ((Jvm.Cond.code ({ cls := "java/math/BigDecimal", name := "compareTo", desc := "(Ljava/math/BigDecimal;)I" } : Jvm.MethodName) jdk_17_method_70_code (6 : Nat) (Option.some Jvm.ClassFile.FieldType.int))).before a0 Z = true := hw _ (List.mem_of_getElem? (i := 323) rfl)
theorem tw324 {Z : State} {a0 : Array Value} (hw : ∀ d ∈ tables_1, d.before a0 Z = true) : ((Jvm.Cond.methodLink "com/example/roomyield/roomyield/NightTally" (89 : Nat) ({ cls := "java/lang/Math", name := "min", desc := "(II)I" } : Jvm.MethodName))).before a0 Z = true := hw _ (List.mem_of_getElem? (i := 324) rfl)
theorem tw325 {Z : State} {a0 : Array Value} (hw : ∀ d ∈ tables_1, d.before a0 Z = true) : ((Jvm.Cond.static ({ cls := "java/lang/Math", name := "min", desc := "(II)I" } : Jvm.MethodName))).before a0 Z = true := hw _ (List.mem_of_getElem? (i := 325) rfl)
theorem tw326 {Z : State} {a0 : Array Value} (hw : ∀ d ∈ tables_1, d.before a0 Z = true) : ((Jvm.Cond.code ({ cls := "java/lang/Math", name := "min", desc := "(II)I" } : Jvm.MethodName) jdk_29_method_69_code (2 : Nat) (Option.some Jvm.ClassFile.FieldType.int))).before a0 Z = true := hw _ (List.mem_of_getElem? (i := 326) rfl)
theorem tw327 {Z : State} {a0 : Array Value} (hw : ∀ d ∈ tables_1, d.before a0 Z = true) : ((Jvm.Cond.methodLink "com/example/roomyield/roomyield/NightTally" (94 : Nat) ({ cls := "java/lang/Math", name := "max", desc := "(II)I" } : Jvm.MethodName))).before a0 Z = true := hw _ (List.mem_of_getElem? (i := 327) rfl)
theorem tw328 {Z : State} {a0 : Array Value} (hw : ∀ d ∈ tables_1, d.before a0 Z = true) : ((Jvm.Cond.static ({ cls := "java/lang/Math", name := "max", desc := "(II)I" } : Jvm.MethodName))).before a0 Z = true := hw _ (List.mem_of_getElem? (i := 328) rfl)
theorem tw329 {Z : State} {a0 : Array Value} (hw : ∀ d ∈ tables_1, d.before a0 Z = true) : ((Jvm.Cond.code ({ cls := "java/lang/Math", name := "max", desc := "(II)I" } : Jvm.MethodName) jdk_29_method_65_code (2 : Nat) (Option.some Jvm.ClassFile.FieldType.int))).before a0 Z = true := hw _ (List.mem_of_getElem? (i := 329) rfl)
theorem tw330 {Z : State} {a0 : Array Value} (hw : ∀ d ∈ tables_1, d.before a0 Z = true) : ((Jvm.Cond.methodLink "com/example/roomyield/roomyield/NightTallyFirstMonthPinLaw" (71 : Nat) ({ cls := "com/example/roomyield/roomyield/NightTallyFirstMonthPinLaw", name := "monthIndex", desc := "(Ljava/time/LocalDate;)I" } : Jvm.MethodName))).before a0 Z = true := hw _ (List.mem_of_getElem? (i := 330) rfl)
theorem tw331 {Z : State} {a0 : Array Value} (hw : ∀ d ∈ tables_1, d.before a0 Z = true) : ((Jvm.Cond.static ({ cls := "com/example/roomyield/roomyield/NightTallyFirstMonthPinLaw", name := "monthIndex", desc := "(Ljava/time/LocalDate;)I" } : Jvm.MethodName))).before a0 Z = true := hw _ (List.mem_of_getElem? (i := 331) rfl)
theorem tw332 {Z : State} {a0 : Array Value} (hw : ∀ d ∈ tables_1, d.before a0 Z = true) : ((Jvm.Cond.code ({ cls := "com/example/roomyield/roomyield/NightTallyFirstMonthPinLaw", name := "monthIndex", desc := "(Ljava/time/LocalDate;)I" } : Jvm.MethodName) method_5_code (1 : Nat) (Option.some Jvm.ClassFile.FieldType.int))).before a0 Z = true := hw _ (List.mem_of_getElem? (i := 332) rfl)
theorem tw333 {Z : State} {a0 : Array Value} (hw : ∀ d ∈ tables_1, d.before a0 Z = true) : ((Jvm.Cond.methodLink "com/example/roomyield/roomyield/NightTallyFirstMonthPinLaw" (31 : Nat) ({ cls := "java/time/LocalDate", name := "getYear", desc := "()I" } : Jvm.MethodName))).before a0 Z = true := hw _ (List.mem_of_getElem? (i := 333) rfl)
theorem tw334 {Z : State} {a0 : Array Value} (hw : ∀ d ∈ tables_1, d.before a0 Z = true) : ((Jvm.Cond.methodLink "com/example/roomyield/roomyield/NightTallyFirstMonthPinLaw" (35 : Nat) ({ cls := "java/time/LocalDate", name := "getMonthValue", desc := "()I" } : Jvm.MethodName))).before a0 Z = true := hw _ (List.mem_of_getElem? (i := 334) rfl)
theorem tw335 {Z : State} {a0 : Array Value} (hw : ∀ d ∈ tables_1, d.before a0 Z = true) : ((Jvm.Cond.methodLink "com/example/roomyield/roomyield/NightTally" (107 : Nat) ({ cls := "java/util/Optional", name := "of", desc := "(Ljava/lang/Object;)Ljava/util/Optional;" } : Jvm.MethodName))).before a0 Z = true := hw _ (List.mem_of_getElem? (i := 335) rfl)
theorem tw336 {Z : State} {a0 : Array Value} (hw : ∀ d ∈ tables_1, d.before a0 Z = true) : ((Jvm.Cond.static ({ cls := "java/util/Optional", name := "of", desc := "(Ljava/lang/Object;)Ljava/util/Optional;" } : Jvm.MethodName))).before a0 Z = true := hw _ (List.mem_of_getElem? (i := 336) rfl)
theorem tw337 {Z : State} {a0 : Array Value} (hw : ∀ d ∈ tables_1, d.before a0 Z = true) : ((Jvm.Cond.code ({ cls := "java/util/Optional", name := "of", desc := "(Ljava/lang/Object;)Ljava/util/Optional;" } : Jvm.MethodName) jdk_32_method_3_code (1 : Nat) (Option.some (Jvm.ClassFile.FieldType.object "java/util/Optional")))).before a0 Z = true := hw _ (List.mem_of_getElem? (i := 337) rfl)
theorem tw338 {Z : State} {a0 : Array Value} (hw : ∀ d ∈ tables_1, d.before a0 Z = true) : ((Jvm.Cond.classLink "java/util/Optional" (2 : Nat) "java/util/Optional")).before a0 Z = true := hw _ (List.mem_of_getElem? (i := 338) rfl)
theorem tw339 {Z : State} {a0 : Array Value} (hw : ∀ d ∈ tables_1, d.before a0 Z = true) : ((Jvm.Cond.instantiable "java/util/Optional" (1 : Nat))).before a0 Z = true := hw _ (List.mem_of_getElem? (i := 339) rfl)
theorem tw340 {Z : State} {a0 : Array Value} (hw : ∀ d ∈ tables_1, d.before a0 Z = true) : ((Jvm.Cond.methodLink "java/util/Optional" (17 : Nat) ({ cls := "java/util/Objects", name := "requireNonNull", desc := "(Ljava/lang/Object;)Ljava/lang/Object;" } : Jvm.MethodName))).before a0 Z = true := hw _ (List.mem_of_getElem? (i := 340) rfl)
theorem tw341 {Z : State} {a0 : Array Value} (hw : ∀ d ∈ tables_1, d.before a0 Z = true) : ((Jvm.Cond.static ({ cls := "java/util/Objects", name := "requireNonNull", desc := "(Ljava/lang/Object;)Ljava/lang/Object;" } : Jvm.MethodName))).before a0 Z = true := hw _ (List.mem_of_getElem? (i := 341) rfl)
theorem tw342 {Z : State} {a0 : Array Value} (hw : ∀ d ∈ tables_1, d.before a0 Z = true) : ((Jvm.Cond.initialized "java/util/Objects")).before a0 Z = true := hw _ (List.mem_of_getElem? (i := 342) rfl)
theorem tw343 {Z : State} {a0 : Array Value} (hw : ∀ d ∈ tables_1, d.before a0 Z = true) : ((Jvm.Cond.code ({ cls := "java/util/Objects", name := "requireNonNull", desc := "(Ljava/lang/Object;)Ljava/lang/Object;" } : Jvm.MethodName) jdk_31_method_10_code (1 : Nat) (Option.some (Jvm.ClassFile.FieldType.object "java/lang/Object")))).before a0 Z = true := hw _ (List.mem_of_getElem? (i := 343) rfl)
theorem tw344 {Z : State} {a0 : Array Value} (hw : ∀ d ∈ tables_1, d.before a0 Z = true) : ((Jvm.Cond.methodLink "java/util/Optional" (23 : Nat) ({ cls := "java/util/Optional", name := "<init>", desc := "(Ljava/lang/Object;)V" } : Jvm.MethodName))).before a0 Z = true := hw _ (List.mem_of_getElem? (i := 344) rfl)
theorem tw345 {Z : State} {a0 : Array Value} (hw : ∀ d ∈ tables_1, d.before a0 Z = true) : ((Jvm.Cond.instanceMethod ({ cls := "java/util/Optional", name := "<init>", desc := "(Ljava/lang/Object;)V" } : Jvm.MethodName))).before a0 Z = true := hw _ (List.mem_of_getElem? (i := 345) rfl)
theorem tw347 {Z : State} {a0 : Array Value} (hw : ∀ d ∈ tables_1, d.before a0 Z = true) : ((Jvm.Cond.code ({ cls := "java/util/Optional", name := "<init>", desc := "(Ljava/lang/Object;)V" } : Jvm.MethodName) jdk_32_method_2_code (2 : Nat) (Option.none : Option Jvm.ClassFile.FieldType))).before a0 Z = true := hw _ (List.mem_of_getElem? (i := 347) rfl)
theorem tw348 {Z : State} {a0 : Array Value} (hw : ∀ d ∈ tables_1, d.before a0 Z = true) : ((Jvm.Cond.methodLink "java/util/Optional" (7 : Nat) ({ cls := "java/lang/Object", name := "<init>", desc := "()V" } : Jvm.MethodName))).before a0 Z = true := hw _ (List.mem_of_getElem? (i := 348) rfl)
theorem tw349 {Z : State} {a0 : Array Value} (hw : ∀ d ∈ tables_1, d.before a0 Z = true) : ((Jvm.Cond.methodLink "com/example/roomyield/roomyield/NightTallyFirstMonthPinLaw" (88 : Nat) ({ cls := "java/util/Optional", name := "get", desc := "()Ljava/lang/Object;" } : Jvm.MethodName))).before a0 Z = true := hw _ (List.mem_of_getElem? (i := 349) rfl)
theorem tw350 {Z : State} {a0 : Array Value} (hw : ∀ d ∈ tables_1, d.before a0 Z = true) : ((Jvm.Cond.declares ({ cls := "java/util/Optional", name := "get", desc := "()Ljava/lang/Object;" } : Jvm.MethodName))).before a0 Z = true := hw _ (List.mem_of_getElem? (i := 350) rfl)
theorem tw351 {Z : State} {a0 : Array Value} (hw : ∀ d ∈ tables_1, d.before a0 Z = true) : ((Jvm.Cond.instanceMethod ({ cls := "java/util/Optional", name := "get", desc := "()Ljava/lang/Object;" } : Jvm.MethodName))).before a0 Z = true := hw _ (List.mem_of_getElem? (i := 351) rfl)
theorem tw352 {Z : State} {a0 : Array Value} (hw : ∀ d ∈ tables_1, d.before a0 Z = true) : ((Jvm.Cond.selects "java/util/Optional" ({ cls := "java/util/Optional", name := "get", desc := "()Ljava/lang/Object;" } : Jvm.MethodName) ({ cls := "java/util/Optional", name := "get", desc := "()Ljava/lang/Object;" } : Jvm.MethodName))).before a0 Z = true := hw _ (List.mem_of_getElem? (i := 352) rfl)
theorem tw353 {Z : State} {a0 : Array Value} (hw : ∀ d ∈ tables_1, d.before a0 Z = true) : ((Jvm.Cond.code ({ cls := "java/util/Optional", name := "get", desc := "()Ljava/lang/Object;" } : Jvm.MethodName) jdk_32_method_5_code (1 : Nat) (Option.some (Jvm.ClassFile.FieldType.object "java/lang/Object")))).before a0 Z = true := hw _ (List.mem_of_getElem? (i := 353) rfl)
theorem tw354 {Z : State} {a0 : Array Value} (hw : ∀ d ∈ tables_1, d.before a0 Z = true) : ((Jvm.Cond.classLink "com/example/roomyield/roomyield/NightTallyFirstMonthPinLaw" (92 : Nat) "java/time/YearMonth")).before a0 Z = true := hw _ (List.mem_of_getElem? (i := 354) rfl)
theorem tw355 {Z : State} {a0 : Array Value} (hw : ∀ d ∈ tables_1, d.before a0 Z = true) : ((Jvm.Cond.methodLink "com/example/roomyield/roomyield/NightTallyFirstMonthPinLaw" (94 : Nat) ({ cls := "java/time/YearMonth", name := "getYear", desc := "()I" } : Jvm.MethodName))).before a0 Z = true := hw _ (List.mem_of_getElem? (i := 355) rfl)
theorem tw356 {Z : State} {a0 : Array Value} (hw : ∀ d ∈ tables_1, d.before a0 Z = true) : ((Jvm.Cond.declares ({ cls := "java/time/YearMonth", name := "getYear", desc := "()I" } : Jvm.MethodName))).before a0 Z = true := hw _ (List.mem_of_getElem? (i := 356) rfl)
theorem tw357 {Z : State} {a0 : Array Value} (hw : ∀ d ∈ tables_1, d.before a0 Z = true) : ((Jvm.Cond.instanceMethod ({ cls := "java/time/YearMonth", name := "getYear", desc := "()I" } : Jvm.MethodName))).before a0 Z = true := hw _ (List.mem_of_getElem? (i := 357) rfl)
theorem tw358 {Z : State} {a0 : Array Value} (hw : ∀ d ∈ tables_1, d.before a0 Z = true) : ((Jvm.Cond.selects "java/time/YearMonth" ({ cls := "java/time/YearMonth", name := "getYear", desc := "()I" } : Jvm.MethodName) ({ cls := "java/time/YearMonth", name := "getYear", desc := "()I" } : Jvm.MethodName))).before a0 Z = true := hw _ (List.mem_of_getElem? (i := 358) rfl)
theorem tw359 {Z : State} {a0 : Array Value} (hw : ∀ d ∈ tables_1, d.before a0 Z = true) : ((Jvm.Cond.code ({ cls := "java/time/YearMonth", name := "getYear", desc := "()I" } : Jvm.MethodName) jdk_2340_method_17_code (1 : Nat) (Option.some Jvm.ClassFile.FieldType.int))).before a0 Z = true := hw _ (List.mem_of_getElem? (i := 359) rfl)
theorem tw360 {Z : State} {a0 : Array Value} (hw : ∀ d ∈ tables_1, d.before a0 Z = true) : ((Jvm.Cond.methodLink "com/example/roomyield/roomyield/NightTallyFirstMonthPinLaw" (95 : Nat) ({ cls := "java/time/YearMonth", name := "getMonthValue", desc := "()I" } : Jvm.MethodName))).before a0 Z = true := hw _ (List.mem_of_getElem? (i := 360) rfl)
theorem tw361 {Z : State} {a0 : Array Value} (hw : ∀ d ∈ tables_1, d.before a0 Z = true) : ((Jvm.Cond.declares ({ cls := "java/time/YearMonth", name := "getMonthValue", desc := "()I" } : Jvm.MethodName))).before a0 Z = true := hw _ (List.mem_of_getElem? (i := 361) rfl)
theorem tw362 {Z : State} {a0 : Array Value} (hw : ∀ d ∈ tables_1, d.before a0 Z = true) : ((Jvm.Cond.instanceMethod ({ cls := "java/time/YearMonth", name := "getMonthValue", desc := "()I" } : Jvm.MethodName))).before a0 Z = true := hw _ (List.mem_of_getElem? (i := 362) rfl)
theorem tw363 {Z : State} {a0 : Array Value} (hw : ∀ d ∈ tables_1, d.before a0 Z = true) : ((Jvm.Cond.selects "java/time/YearMonth" ({ cls := "java/time/YearMonth", name := "getMonthValue", desc := "()I" } : Jvm.MethodName) ({ cls := "java/time/YearMonth", name := "getMonthValue", desc := "()I" } : Jvm.MethodName))).before a0 Z = true := hw _ (List.mem_of_getElem? (i := 363) rfl)
theorem tw364 {Z : State} {a0 : Array Value} (hw : ∀ d ∈ tables_1, d.before a0 Z = true) : ((Jvm.Cond.code ({ cls := "java/time/YearMonth", name := "getMonthValue", desc := "()I" } : Jvm.MethodName) jdk_2340_method_18_code (1 : Nat) (Option.some Jvm.ClassFile.FieldType.int))).before a0 Z = true := hw _ (List.mem_of_getElem? (i := 364) rfl)
theorem tw365 {Z : State} {a0 : Array Value} (hw : ∀ d ∈ tables_1, d.before a0 Z = true) : ((Jvm.Cond.fieldLink "com/example/roomyield/roomyield/NightTallyFirstMonthPinLaw" (44 : Nat) "java/math/BigDecimal" "ZERO" "Ljava/math/BigDecimal;")).before a0 Z = true := hw _ (List.mem_of_getElem? (i := 365) rfl)
theorem tw366 {Z : State} {a0 : Array Value} (hw : ∀ d ∈ tables_1, d.before a0 Z = true) : ((Jvm.Cond.fieldLink "com/example/roomyield/roomyield/NightTally$Nights" (21 : Nat) "com/example/roomyield/roomyield/NightTally$Nights" "complimentary" "J")).before a0 Z = true := hw _ (List.mem_of_getElem? (i := 366) rfl)
theorem tw367 {Z : State} {a0 : Array Value} (hw : ∀ d ∈ tables_1, d.before a0 Z = true) : ((Jvm.Cond.lays "com/example/roomyield/roomyield/NightTally$Nights" "com/example/roomyield/roomyield/NightTally$Nights" "complimentary" "J")).before a0 Z = true := hw _ (List.mem_of_getElem? (i := 367) rfl)
theorem tw368 {Z : State} {a0 : Array Value} (hw : ∀ d ∈ tables_1, d.before a0 Z = true) : ((Jvm.Cond.classLink "java/math/BigDecimal" (3 : Nat) "java/math/BigDecimal")).before a0 Z = true := hw _ (List.mem_of_getElem? (i := 368) rfl)
theorem tw369 {Z : State} {a0 : Array Value} (hw : ∀ d ∈ tables_1, d.before a0 Z = true) : ((Jvm.Cond.instantiable "java/math/BigDecimal" (5 : Nat))).before a0 Z = true := hw _ (List.mem_of_getElem? (i := 369) rfl)
theorem tw370 {Z : State} {a0 : Array Value} (hw : ∀ d ∈ tables_1, d.before a0 Z = true) : ((Jvm.Cond.methodLink "java/math/BigDecimal" (243 : Nat) ({ cls := "java/math/BigDecimal", name := "<init>", desc := "(Ljava/math/BigInteger;JII)V" } : Jvm.MethodName))).before a0 Z = true := hw _ (List.mem_of_getElem? (i := 370) rfl)
theorem tw371 {Z : State} {a0 : Array Value} (hw : ∀ d ∈ tables_1, d.before a0 Z = true) : ((Jvm.Cond.instanceMethod ({ cls := "java/math/BigDecimal", name := "<init>", desc := "(Ljava/math/BigInteger;JII)V" } : Jvm.MethodName))).before a0 Z = true := hw _ (List.mem_of_getElem? (i := 371) rfl)
theorem tw373 {Z : State} {a0 : Array Value} (hw : ∀ d ∈ tables_1, d.before a0 Z = true) : ((Jvm.Cond.code ({ cls := "java/math/BigDecimal", name := "<init>", desc := "(Ljava/math/BigInteger;JII)V" } : Jvm.MethodName) jdk_17_method_1_code (6 : Nat) (Option.none : Option Jvm.ClassFile.FieldType))).before a0 Z = true := hw _ (List.mem_of_getElem? (i := 373) rfl)
theorem tw374 {Z : State} {a0 : Array Value} (hw : ∀ d ∈ tables_1, d.before a0 Z = true) : ((Jvm.Cond.methodLink "java/math/BigDecimal" (11 : Nat) ({ cls := "java/lang/Number", name := "<init>", desc := "()V" } : Jvm.MethodName))).before a0 Z = true := hw _ (List.mem_of_getElem? (i := 374) rfl)
theorem tw375 {Z : State} {a0 : Array Value} (hw : ∀ d ∈ tables_1, d.before a0 Z = true) : ((Jvm.Cond.instanceMethod ({ cls := "java/lang/Number", name := "<init>", desc := "()V" } : Jvm.MethodName))).before a0 Z = true := hw _ (List.mem_of_getElem? (i := 375) rfl)
theorem tw378 {Z : State} {a0 : Array Value} (hw : ∀ d ∈ tables_1, d.before a0 Z = true) : ((Jvm.Cond.initialized "java/lang/Number")).before a0 Z = true := hw _ (List.mem_of_getElem? (i := 378) rfl)
theorem tw379 {Z : State} {a0 : Array Value} (hw : ∀ d ∈ tables_1, d.before a0 Z = true) : ((Jvm.Cond.code ({ cls := "java/lang/Number", name := "<init>", desc := "()V" } : Jvm.MethodName) jdk_18_method_1_code (1 : Nat) (Option.none : Option Jvm.ClassFile.FieldType))).before a0 Z = true := hw _ (List.mem_of_getElem? (i := 379) rfl)
theorem tw380 {Z : State} {a0 : Array Value} (hw : ∀ d ∈ tables_1, d.before a0 Z = true) : ((Jvm.Cond.methodLink "java/lang/Number" (1 : Nat) ({ cls := "java/lang/Object", name := "<init>", desc := "()V" } : Jvm.MethodName))).before a0 Z = true := hw _ (List.mem_of_getElem? (i := 380) rfl)
theorem tw381 {Z : State} {a0 : Array Value} (hw : ∀ d ∈ tables_1, d.before a0 Z = true) : ((Jvm.Cond.fieldLink "java/math/BigDecimal" (21 : Nat) "java/math/BigDecimal" "precision" "I")).before a0 Z = true := hw _ (List.mem_of_getElem? (i := 381) rfl)
theorem tw382 {Z : State} {a0 : Array Value} (hw : ∀ d ∈ tables_1, d.before a0 Z = true) : ((Jvm.Cond.lays "java/math/BigDecimal" "java/math/BigDecimal" "precision" "I")).before a0 Z = true := hw _ (List.mem_of_getElem? (i := 382) rfl)
theorem tw383 {Z : State} {a0 : Array Value} (hw : ∀ d ∈ tables_1, d.before a0 Z = true) : ((Jvm.Cond.fieldLink "java/math/BigDecimal" (28 : Nat) "java/math/BigDecimal" "intVal" "Ljava/math/BigInteger;")).before a0 Z = true := hw _ (List.mem_of_getElem? (i := 383) rfl)
theorem tw384 {Z : State} {a0 : Array Value} (hw : ∀ d ∈ tables_1, d.before a0 Z = true) : ((Jvm.Cond.laysFinal "java/math/BigDecimal" "java/math/BigDecimal" "intVal" "Ljava/math/BigInteger;")).before a0 Z = true := hw _ (List.mem_of_getElem? (i := 384) rfl)
theorem tw385 {Z : State} {a0 : Array Value} (hw : ∀ d ∈ tables_1, d.before a0 Z = true) : ((Jvm.Cond.fieldRef "com/example/roomyield/roomyield/NightTally" (84 : Nat) "com/example/roomyield/roomyield/NightTally$MonthNights" "wholeMonthChange" "Lcom/example/roomyield/roomyield/NightTally$Nights;")).before a0 Z = true := hw _ (List.mem_of_getElem? (i := 385) rfl)
theorem tw386 {Z : State} {a0 : Array Value} (hw : ∀ d ∈ tables_1, d.before a0 Z = true) : ((Jvm.Cond.constantLong "com/example/roomyield/roomyield/NightTally" (87 : Nat) (-1 : Int64))).before a0 Z = true := hw _ (List.mem_of_getElem? (i := 386) rfl)
theorem tw387 {Z : State} {a0 : Array Value} (hw : ∀ d ∈ tables_1, d.before a0 Z = true) : ((Jvm.Cond.methodLink "com/example/roomyield/roomyield/NightTallyFirstMonthPinLaw" (75 : Nat) ({ cls := "java/lang/Math", name := "min", desc := "(II)I" } : Jvm.MethodName))).before a0 Z = true := hw _ (List.mem_of_getElem? (i := 387) rfl)
theorem tw388 {Z : State} {a0 : Array Value} (hw : ∀ d ∈ tables_1, d.before a0 Z = true) : ((Jvm.Cond.fieldLink "com/example/roomyield/roomyield/NightTally$Nights" (46 : Nat) "com/example/roomyield/roomyield/NightTally$Nights" "multipleOccupied" "J")).before a0 Z = true := hw _ (List.mem_of_getElem? (i := 388) rfl)
theorem tw389 {Z : State} {a0 : Array Value} (hw : ∀ d ∈ tables_1, d.before a0 Z = true) : ((Jvm.Cond.lays "com/example/roomyield/roomyield/NightTally$Nights" "com/example/roomyield/roomyield/NightTally$Nights" "multipleOccupied" "J")).before a0 Z = true := hw _ (List.mem_of_getElem? (i := 389) rfl)
theorem d1_0 : decode method_2_code 0 = .ok (.iload_n 0, 1) := by decide +kernel
theorem d1_1 : decode method_2_code 1 = .ok (.ldc 7, 2) := by decide +kernel
theorem d1_3 : decode method_2_code 3 = .ok (.iand, 1) := by decide +kernel
theorem d1_4 : decode method_2_code 4 = .ok (.ldc 8, 2) := by decide +kernel
theorem d1_6 : decode method_2_code 6 = .ok (.irem, 1) := by decide +kernel
theorem d1_7 : decode method_2_code 7 = .ok (.i2l, 1) := by decide +kernel
theorem d1_8 : decode method_2_code 8 = .ok (.lreturn, 1) := by decide +kernel
theorem d2_0 : decode method_3_code 0 = .ok (.iload_n 0, 1) := by decide +kernel
theorem d2_1 : decode method_3_code 1 = .ok (.invokestatic 9, 3) := by decide +kernel
theorem d2_4 : decode method_3_code 4 = .ok (.lstore_n 3, 1) := by decide +kernel
theorem d2_5 : decode method_3_code 5 = .ok (.iload_n 2, 1) := by decide +kernel
theorem d2_6 : decode method_3_code 6 = .ok (.ifCond .ne 5, 3) := by decide +kernel
theorem d2_9 : decode method_3_code 9 = .ok (.lload_n 3, 1) := by decide +kernel
theorem d2_10 : decode method_3_code 10 = .ok (.lreturn, 1) := by decide +kernel
theorem d2_11 : decode method_3_code 11 = .ok (.iload_n 2, 1) := by decide +kernel
theorem d2_12 : decode method_3_code 12 = .ok (.iconst 1, 1) := by decide +kernel
theorem d2_13 : decode method_3_code 13 = .ok (.if_icmp .ne 13, 3) := by decide +kernel
theorem d2_16 : decode method_3_code 16 = .ok (.lload_n 3, 1) := by decide +kernel
theorem d2_17 : decode method_3_code 17 = .ok (.iload_n 1, 1) := by decide +kernel
theorem d2_18 : decode method_3_code 18 = .ok (.bipush 63, 2) := by decide +kernel
theorem d2_20 : decode method_3_code 20 = .ok (.iand, 1) := by decide +kernel
theorem d2_21 : decode method_3_code 21 = .ok (.i2l, 1) := by decide +kernel
theorem d2_22 : decode method_3_code 22 = .ok (.ladd, 1) := by decide +kernel
theorem d2_23 : decode method_3_code 23 = .ok (.goto 11, 3) := by decide +kernel
theorem d2_26 : decode method_3_code 26 = .ok (.iload_n 1, 1) := by decide +kernel
theorem d2_27 : decode method_3_code 27 = .ok (.ldc 7, 2) := by decide +kernel
theorem d2_29 : decode method_3_code 29 = .ok (.iand, 1) := by decide +kernel
theorem d2_30 : decode method_3_code 30 = .ok (.ldc 8, 2) := by decide +kernel
theorem d2_32 : decode method_3_code 32 = .ok (.irem, 1) := by decide +kernel
theorem d2_33 : decode method_3_code 33 = .ok (.i2l, 1) := by decide +kernel
theorem d2_34 : decode method_3_code 34 = .ok (.lstore 5, 2) := by decide +kernel
theorem d2_36 : decode method_3_code 36 = .ok (.lload 5, 2) := by decide +kernel
theorem d2_38 : decode method_3_code 38 = .ok (.ldc2_w 15, 3) := by decide +kernel
theorem d2_41 : decode method_3_code 41 = .ok (.invokestatic 17, 3) := by decide +kernel
theorem d2_44 : decode method_3_code 44 = .ok (.lreturn, 1) := by decide +kernel
theorem d3_0 : decode jdk_29_method_70_code 0 = .ok (.lload_n 0, 1) := by decide +kernel
theorem d3_1 : decode jdk_29_method_70_code 1 = .ok (.lload_n 2, 1) := by decide +kernel
theorem d3_2 : decode jdk_29_method_70_code 2 = .ok (.lcmp, 1) := by decide +kernel
theorem d3_3 : decode jdk_29_method_70_code 3 = .ok (.ifCond .gt 7, 3) := by decide +kernel
theorem d3_6 : decode jdk_29_method_70_code 6 = .ok (.lload_n 0, 1) := by decide +kernel
theorem d3_7 : decode jdk_29_method_70_code 7 = .ok (.goto 4, 3) := by decide +kernel
theorem d3_10 : decode jdk_29_method_70_code 10 = .ok (.lload_n 2, 1) := by decide +kernel
theorem d3_11 : decode jdk_29_method_70_code 11 = .ok (.lreturn, 1) := by decide +kernel
theorem d4_0 : decode jdk_29_method_66_code 0 = .ok (.lload_n 0, 1) := by decide +kernel
theorem d4_1 : decode jdk_29_method_66_code 1 = .ok (.lload_n 2, 1) := by decide +kernel
theorem d4_2 : decode jdk_29_method_66_code 2 = .ok (.lcmp, 1) := by decide +kernel
theorem d4_3 : decode jdk_29_method_66_code 3 = .ok (.ifCond .lt 7, 3) := by decide +kernel
theorem d4_6 : decode jdk_29_method_66_code 6 = .ok (.lload_n 0, 1) := by decide +kernel
theorem d4_7 : decode jdk_29_method_66_code 7 = .ok (.goto 4, 3) := by decide +kernel
theorem d4_10 : decode jdk_29_method_66_code 10 = .ok (.lload_n 2, 1) := by decide +kernel
theorem d4_11 : decode jdk_29_method_66_code 11 = .ok (.lreturn, 1) := by decide +kernel
theorem d5_0 : decode method_4_code 0 = .ok (.ldc2_w 23, 3) := by decide +kernel
theorem d5_3 : decode method_4_code 3 = .ok (.lload_n 0, 1) := by decide +kernel
theorem d5_4 : decode method_4_code 4 = .ok (.ladd, 1) := by decide +kernel
theorem d5_5 : decode method_4_code 5 = .ok (.invokestatic 25, 3) := by decide +kernel
theorem d5_8 : decode method_4_code 8 = .ok (.areturn, 1) := by decide +kernel
theorem d6_0 : decode jdk_2323_method_8_code 0 = .ok (.getstatic 161, 3) := by decide +kernel
theorem d6_3 : decode jdk_2323_method_8_code 3 = .ok (.lload_n 0, 1) := by decide +kernel
theorem d6_4 : decode jdk_2323_method_8_code 4 = .ok (.invokevirtual 45, 3) := by decide +kernel
theorem d6_7 : decode jdk_2323_method_8_code 7 = .ok (.pop2, 1) := by decide +kernel
theorem d6_8 : decode jdk_2323_method_8_code 8 = .ok (.lload_n 0, 1) := by decide +kernel
theorem d6_9 : decode jdk_2323_method_8_code 9 = .ok (.ldc2_w 164, 3) := by decide +kernel
theorem d6_12 : decode jdk_2323_method_8_code 12 = .ok (.ladd, 1) := by decide +kernel
theorem d6_13 : decode jdk_2323_method_8_code 13 = .ok (.lstore_n 2, 1) := by decide +kernel
theorem d6_14 : decode jdk_2323_method_8_code 14 = .ok (.lload_n 2, 1) := by decide +kernel
theorem d6_15 : decode jdk_2323_method_8_code 15 = .ok (.ldc2_w 166, 3) := by decide +kernel
theorem d6_18 : decode jdk_2323_method_8_code 18 = .ok (.lsub, 1) := by decide +kernel
theorem d6_19 : decode jdk_2323_method_8_code 19 = .ok (.lstore_n 2, 1) := by decide +kernel
theorem d6_20 : decode jdk_2323_method_8_code 20 = .ok (.lconst 0, 1) := by decide +kernel
theorem d6_21 : decode jdk_2323_method_8_code 21 = .ok (.lstore 4, 2) := by decide +kernel
theorem d6_23 : decode jdk_2323_method_8_code 23 = .ok (.lload_n 2, 1) := by decide +kernel
theorem d6_24 : decode jdk_2323_method_8_code 24 = .ok (.lconst 0, 1) := by decide +kernel
theorem d6_25 : decode jdk_2323_method_8_code 25 = .ok (.lcmp, 1) := by decide +kernel
theorem d6_26 : decode jdk_2323_method_8_code 26 = .ok (.ifCond .ge 32, 3) := by decide +kernel
theorem d6_29 : decode jdk_2323_method_8_code 29 = .ok (.lload_n 2, 1) := by decide +kernel
theorem d6_30 : decode jdk_2323_method_8_code 30 = .ok (.lconst 1, 1) := by decide +kernel
theorem d6_31 : decode jdk_2323_method_8_code 31 = .ok (.ladd, 1) := by decide +kernel
theorem d6_32 : decode jdk_2323_method_8_code 32 = .ok (.ldc2_w 168, 3) := by decide +kernel
theorem d6_35 : decode jdk_2323_method_8_code 35 = .ok (.ldiv, 1) := by decide +kernel
theorem d6_36 : decode jdk_2323_method_8_code 36 = .ok (.lconst 1, 1) := by decide +kernel
theorem d6_37 : decode jdk_2323_method_8_code 37 = .ok (.lsub, 1) := by decide +kernel
theorem d6_38 : decode jdk_2323_method_8_code 38 = .ok (.lstore 6, 2) := by decide +kernel
theorem d6_40 : decode jdk_2323_method_8_code 40 = .ok (.lload 6, 2) := by decide +kernel
theorem d6_42 : decode jdk_2323_method_8_code 42 = .ok (.ldc2_w 170, 3) := by decide +kernel
theorem d6_45 : decode jdk_2323_method_8_code 45 = .ok (.lmul, 1) := by decide +kernel
theorem d6_46 : decode jdk_2323_method_8_code 46 = .ok (.lstore 4, 2) := by decide +kernel
theorem d6_48 : decode jdk_2323_method_8_code 48 = .ok (.lload_n 2, 1) := by decide +kernel
theorem d6_49 : decode jdk_2323_method_8_code 49 = .ok (.lload 6, 2) := by decide +kernel
theorem d6_51 : decode jdk_2323_method_8_code 51 = .ok (.lneg, 1) := by decide +kernel
theorem d6_52 : decode jdk_2323_method_8_code 52 = .ok (.ldc2_w 168, 3) := by decide +kernel
theorem d6_55 : decode jdk_2323_method_8_code 55 = .ok (.lmul, 1) := by decide +kernel
theorem d6_56 : decode jdk_2323_method_8_code 56 = .ok (.ladd, 1) := by decide +kernel
theorem d6_57 : decode jdk_2323_method_8_code 57 = .ok (.lstore_n 2, 1) := by decide +kernel
theorem d6_58 : decode jdk_2323_method_8_code 58 = .ok (.ldc2_w 170, 3) := by decide +kernel
theorem d6_61 : decode jdk_2323_method_8_code 61 = .ok (.lload_n 2, 1) := by decide +kernel
theorem d6_62 : decode jdk_2323_method_8_code 62 = .ok (.lmul, 1) := by decide +kernel
theorem d6_63 : decode jdk_2323_method_8_code 63 = .ok (.ldc2_w 172, 3) := by decide +kernel
theorem d6_66 : decode jdk_2323_method_8_code 66 = .ok (.ladd, 1) := by decide +kernel
theorem d6_67 : decode jdk_2323_method_8_code 67 = .ok (.ldc2_w 168, 3) := by decide +kernel
theorem d6_70 : decode jdk_2323_method_8_code 70 = .ok (.ldiv, 1) := by decide +kernel
theorem d6_71 : decode jdk_2323_method_8_code 71 = .ok (.lstore 6, 2) := by decide +kernel
theorem d6_73 : decode jdk_2323_method_8_code 73 = .ok (.lload_n 2, 1) := by decide +kernel
theorem d6_74 : decode jdk_2323_method_8_code 74 = .ok (.ldc2_w 174, 3) := by decide +kernel
theorem d6_77 : decode jdk_2323_method_8_code 77 = .ok (.lload 6, 2) := by decide +kernel
theorem d6_79 : decode jdk_2323_method_8_code 79 = .ok (.lmul, 1) := by decide +kernel
theorem d6_80 : decode jdk_2323_method_8_code 80 = .ok (.lload 6, 2) := by decide +kernel
theorem d6_82 : decode jdk_2323_method_8_code 82 = .ok (.ldc2_w 176, 3) := by decide +kernel
theorem d6_85 : decode jdk_2323_method_8_code 85 = .ok (.ldiv, 1) := by decide +kernel
theorem d6_86 : decode jdk_2323_method_8_code 86 = .ok (.ladd, 1) := by decide +kernel
theorem d6_87 : decode jdk_2323_method_8_code 87 = .ok (.lload 6, 2) := by decide +kernel
theorem d6_89 : decode jdk_2323_method_8_code 89 = .ok (.ldc2_w 178, 3) := by decide +kernel
theorem d6_92 : decode jdk_2323_method_8_code 92 = .ok (.ldiv, 1) := by decide +kernel
theorem d6_93 : decode jdk_2323_method_8_code 93 = .ok (.lsub, 1) := by decide +kernel
theorem d6_94 : decode jdk_2323_method_8_code 94 = .ok (.lload 6, 2) := by decide +kernel
theorem d6_96 : decode jdk_2323_method_8_code 96 = .ok (.ldc2_w 170, 3) := by decide +kernel
theorem d6_99 : decode jdk_2323_method_8_code 99 = .ok (.ldiv, 1) := by decide +kernel
theorem d6_100 : decode jdk_2323_method_8_code 100 = .ok (.ladd, 1) := by decide +kernel
theorem d6_101 : decode jdk_2323_method_8_code 101 = .ok (.lsub, 1) := by decide +kernel
theorem d6_102 : decode jdk_2323_method_8_code 102 = .ok (.lstore 8, 2) := by decide +kernel
theorem d6_104 : decode jdk_2323_method_8_code 104 = .ok (.lload 8, 2) := by decide +kernel
theorem d6_106 : decode jdk_2323_method_8_code 106 = .ok (.lconst 0, 1) := by decide +kernel
theorem d6_107 : decode jdk_2323_method_8_code 107 = .ok (.lcmp, 1) := by decide +kernel
theorem d6_108 : decode jdk_2323_method_8_code 108 = .ok (.ifCond .ge 40, 3) := by decide +kernel
theorem d6_111 : decode jdk_2323_method_8_code 111 = .ok (.lload 6, 2) := by decide +kernel
theorem d6_113 : decode jdk_2323_method_8_code 113 = .ok (.lconst 1, 1) := by decide +kernel
theorem d6_114 : decode jdk_2323_method_8_code 114 = .ok (.lsub, 1) := by decide +kernel
theorem d6_115 : decode jdk_2323_method_8_code 115 = .ok (.lstore 6, 2) := by decide +kernel
theorem d6_117 : decode jdk_2323_method_8_code 117 = .ok (.lload_n 2, 1) := by decide +kernel
theorem d6_118 : decode jdk_2323_method_8_code 118 = .ok (.ldc2_w 174, 3) := by decide +kernel
theorem d6_121 : decode jdk_2323_method_8_code 121 = .ok (.lload 6, 2) := by decide +kernel
theorem d6_123 : decode jdk_2323_method_8_code 123 = .ok (.lmul, 1) := by decide +kernel
theorem d6_124 : decode jdk_2323_method_8_code 124 = .ok (.lload 6, 2) := by decide +kernel
theorem d6_126 : decode jdk_2323_method_8_code 126 = .ok (.ldc2_w 176, 3) := by decide +kernel
theorem d6_129 : decode jdk_2323_method_8_code 129 = .ok (.ldiv, 1) := by decide +kernel
theorem d6_130 : decode jdk_2323_method_8_code 130 = .ok (.ladd, 1) := by decide +kernel
theorem d6_131 : decode jdk_2323_method_8_code 131 = .ok (.lload 6, 2) := by decide +kernel
theorem d6_133 : decode jdk_2323_method_8_code 133 = .ok (.ldc2_w 178, 3) := by decide +kernel
theorem d6_136 : decode jdk_2323_method_8_code 136 = .ok (.ldiv, 1) := by decide +kernel
theorem d6_137 : decode jdk_2323_method_8_code 137 = .ok (.lsub, 1) := by decide +kernel
theorem d6_138 : decode jdk_2323_method_8_code 138 = .ok (.lload 6, 2) := by decide +kernel
theorem d6_140 : decode jdk_2323_method_8_code 140 = .ok (.ldc2_w 170, 3) := by decide +kernel
theorem d6_143 : decode jdk_2323_method_8_code 143 = .ok (.ldiv, 1) := by decide +kernel
theorem d6_144 : decode jdk_2323_method_8_code 144 = .ok (.ladd, 1) := by decide +kernel
theorem d6_145 : decode jdk_2323_method_8_code 145 = .ok (.lsub, 1) := by decide +kernel
theorem d6_146 : decode jdk_2323_method_8_code 146 = .ok (.lstore 8, 2) := by decide +kernel
theorem d6_148 : decode jdk_2323_method_8_code 148 = .ok (.lload 6, 2) := by decide +kernel
theorem d6_150 : decode jdk_2323_method_8_code 150 = .ok (.lload 4, 2) := by decide +kernel
theorem d6_152 : decode jdk_2323_method_8_code 152 = .ok (.ladd, 1) := by decide +kernel
theorem d6_153 : decode jdk_2323_method_8_code 153 = .ok (.lstore 6, 2) := by decide +kernel
theorem d6_155 : decode jdk_2323_method_8_code 155 = .ok (.lload 8, 2) := by decide +kernel
theorem d6_157 : decode jdk_2323_method_8_code 157 = .ok (.l2i, 1) := by decide +kernel
theorem d6_158 : decode jdk_2323_method_8_code 158 = .ok (.istore 10, 2) := by decide +kernel
theorem d6_160 : decode jdk_2323_method_8_code 160 = .ok (.iload 10, 2) := by decide +kernel
theorem d6_162 : decode jdk_2323_method_8_code 162 = .ok (.iconst 5, 1) := by decide +kernel
theorem d6_163 : decode jdk_2323_method_8_code 163 = .ok (.imul, 1) := by decide +kernel
theorem d6_164 : decode jdk_2323_method_8_code 164 = .ok (.iconst 2, 1) := by decide +kernel
theorem d6_165 : decode jdk_2323_method_8_code 165 = .ok (.iadd, 1) := by decide +kernel
theorem d6_166 : decode jdk_2323_method_8_code 166 = .ok (.sipush 153, 3) := by decide +kernel
theorem d6_169 : decode jdk_2323_method_8_code 169 = .ok (.idiv, 1) := by decide +kernel
theorem d6_170 : decode jdk_2323_method_8_code 170 = .ok (.istore 11, 2) := by decide +kernel
theorem d6_172 : decode jdk_2323_method_8_code 172 = .ok (.iload 11, 2) := by decide +kernel
theorem d6_174 : decode jdk_2323_method_8_code 174 = .ok (.iconst 3, 1) := by decide +kernel
theorem d6_175 : decode jdk_2323_method_8_code 175 = .ok (.iadd, 1) := by decide +kernel
theorem d6_176 : decode jdk_2323_method_8_code 176 = .ok (.istore 12, 2) := by decide +kernel
theorem d6_178 : decode jdk_2323_method_8_code 178 = .ok (.iload 12, 2) := by decide +kernel
theorem d6_180 : decode jdk_2323_method_8_code 180 = .ok (.bipush 12, 2) := by decide +kernel
theorem d6_182 : decode jdk_2323_method_8_code 182 = .ok (.if_icmp .le 6, 3) := by decide +kernel
theorem d6_185 : decode jdk_2323_method_8_code 185 = .ok (.iinc 12 (-12), 3) := by decide +kernel
theorem d6_188 : decode jdk_2323_method_8_code 188 = .ok (.iload 10, 2) := by decide +kernel
theorem d6_190 : decode jdk_2323_method_8_code 190 = .ok (.iload 11, 2) := by decide +kernel
theorem d6_192 : decode jdk_2323_method_8_code 192 = .ok (.sipush 306, 3) := by decide +kernel
theorem d6_195 : decode jdk_2323_method_8_code 195 = .ok (.imul, 1) := by decide +kernel
theorem d6_196 : decode jdk_2323_method_8_code 196 = .ok (.iconst 5, 1) := by decide +kernel
theorem d6_197 : decode jdk_2323_method_8_code 197 = .ok (.iadd, 1) := by decide +kernel
theorem d6_198 : decode jdk_2323_method_8_code 198 = .ok (.bipush 10, 2) := by decide +kernel
theorem d6_200 : decode jdk_2323_method_8_code 200 = .ok (.idiv, 1) := by decide +kernel
theorem d6_201 : decode jdk_2323_method_8_code 201 = .ok (.isub, 1) := by decide +kernel
theorem d6_202 : decode jdk_2323_method_8_code 202 = .ok (.iconst 1, 1) := by decide +kernel
theorem d6_203 : decode jdk_2323_method_8_code 203 = .ok (.iadd, 1) := by decide +kernel
theorem d6_204 : decode jdk_2323_method_8_code 204 = .ok (.istore 13, 2) := by decide +kernel
theorem d6_206 : decode jdk_2323_method_8_code 206 = .ok (.iload 10, 2) := by decide +kernel
theorem d6_208 : decode jdk_2323_method_8_code 208 = .ok (.sipush 306, 3) := by decide +kernel
theorem d6_211 : decode jdk_2323_method_8_code 211 = .ok (.if_icmp .lt 9, 3) := by decide +kernel
theorem d6_214 : decode jdk_2323_method_8_code 214 = .ok (.lload 6, 2) := by decide +kernel
theorem d6_216 : decode jdk_2323_method_8_code 216 = .ok (.lconst 1, 1) := by decide +kernel
theorem d6_217 : decode jdk_2323_method_8_code 217 = .ok (.ladd, 1) := by decide +kernel
theorem d6_218 : decode jdk_2323_method_8_code 218 = .ok (.lstore 6, 2) := by decide +kernel
theorem d6_220 : decode jdk_2323_method_8_code 220 = .ok (.new 1, 3) := by decide +kernel
theorem d6_223 : decode jdk_2323_method_8_code 223 = .ok (.dup, 1) := by decide +kernel
theorem d6_224 : decode jdk_2323_method_8_code 224 = .ok (.lload 6, 2) := by decide +kernel
theorem d6_226 : decode jdk_2323_method_8_code 226 = .ok (.l2i, 1) := by decide +kernel
theorem d6_227 : decode jdk_2323_method_8_code 227 = .ok (.iload 12, 2) := by decide +kernel
theorem d6_229 : decode jdk_2323_method_8_code 229 = .ok (.iload 13, 2) := by decide +kernel
theorem d6_231 : decode jdk_2323_method_8_code 231 = .ok (.invokespecial 121, 3) := by decide +kernel
theorem d6_234 : decode jdk_2323_method_8_code 234 = .ok (.areturn, 1) := by decide +kernel
theorem d7_0 : decode jdk_2395_method_11_code 0 = .ok (.aload_n 0, 1) := by decide +kernel
theorem d7_1 : decode jdk_2395_method_11_code 1 = .ok (.invokevirtual 190, 3) := by decide +kernel
theorem d7_4 : decode jdk_2395_method_11_code 4 = .ok (.lload_n 1, 1) := by decide +kernel
theorem d7_5 : decode jdk_2395_method_11_code 5 = .ok (.aload_n 0, 1) := by decide +kernel
theorem d7_6 : decode jdk_2395_method_11_code 6 = .ok (.invokevirtual 193, 3) := by decide +kernel
theorem d7_9 : decode jdk_2395_method_11_code 9 = .ok (.lreturn, 1) := by decide +kernel
theorem d8_0 : decode jdk_2395_method_8_code 0 = .ok (.aload_n 0, 1) := by decide +kernel
theorem d8_1 : decode jdk_2395_method_8_code 1 = .ok (.getfield 124, 3) := by decide +kernel
theorem d8_4 : decode jdk_2395_method_8_code 4 = .ok (.areturn, 1) := by decide +kernel
theorem d9_0 : decode jdk_2423_method_13_code 0 = .ok (.aload_n 0, 1) := by decide +kernel
theorem d9_1 : decode jdk_2423_method_13_code 1 = .ok (.lload_n 1, 1) := by decide +kernel
theorem d9_2 : decode jdk_2423_method_13_code 2 = .ok (.invokevirtual 63, 3) := by decide +kernel
theorem d9_5 : decode jdk_2423_method_13_code 5 = .ok (.ifCond .ne 17, 3) := by decide +kernel
theorem d9_22 : decode jdk_2423_method_13_code 22 = .ok (.lload_n 1, 1) := by decide +kernel
theorem d9_23 : decode jdk_2423_method_13_code 23 = .ok (.lreturn, 1) := by decide +kernel
theorem d10_0 : decode jdk_2423_method_11_code 0 = .ok (.lload_n 1, 1) := by decide +kernel
theorem d10_1 : decode jdk_2423_method_11_code 1 = .ok (.aload_n 0, 1) := by decide +kernel
theorem d10_2 : decode jdk_2423_method_11_code 2 = .ok (.invokevirtual 46, 3) := by decide +kernel
theorem d10_5 : decode jdk_2423_method_11_code 5 = .ok (.lcmp, 1) := by decide +kernel
theorem d10_6 : decode jdk_2423_method_11_code 6 = .ok (.ifCond .lt 16, 3) := by decide +kernel
theorem d10_9 : decode jdk_2423_method_11_code 9 = .ok (.lload_n 1, 1) := by decide +kernel
theorem d10_10 : decode jdk_2423_method_11_code 10 = .ok (.aload_n 0, 1) := by decide +kernel
theorem d10_11 : decode jdk_2423_method_11_code 11 = .ok (.invokevirtual 54, 3) := by decide +kernel
theorem d10_14 : decode jdk_2423_method_11_code 14 = .ok (.lcmp, 1) := by decide +kernel
theorem d10_15 : decode jdk_2423_method_11_code 15 = .ok (.ifCond .gt 7, 3) := by decide +kernel
theorem d10_18 : decode jdk_2423_method_11_code 18 = .ok (.iconst 1, 1) := by decide +kernel
theorem d10_19 : decode jdk_2423_method_11_code 19 = .ok (.goto 4, 3) := by decide +kernel
theorem d10_23 : decode jdk_2423_method_11_code 23 = .ok (.ireturn, 1) := by decide +kernel
theorem d11_0 : decode jdk_2423_method_6_code 0 = .ok (.aload_n 0, 1) := by decide +kernel
theorem d11_1 : decode jdk_2423_method_6_code 1 = .ok (.getfield 33, 3) := by decide +kernel
theorem d11_4 : decode jdk_2423_method_6_code 4 = .ok (.lreturn, 1) := by decide +kernel
theorem d12_0 : decode jdk_2423_method_9_code 0 = .ok (.aload_n 0, 1) := by decide +kernel
theorem d12_1 : decode jdk_2423_method_9_code 1 = .ok (.getfield 43, 3) := by decide +kernel
theorem d12_4 : decode jdk_2423_method_9_code 4 = .ok (.lreturn, 1) := by decide +kernel
theorem d13_0 : decode jdk_2323_method_14_code 0 = .ok (.aload_n 0, 1) := by decide +kernel
theorem d13_1 : decode jdk_2323_method_14_code 1 = .ok (.invokespecial 243, 3) := by decide +kernel
theorem d13_4 : decode jdk_2323_method_14_code 4 = .ok (.aload_n 0, 1) := by decide +kernel
theorem d13_5 : decode jdk_2323_method_14_code 5 = .ok (.iload_n 1, 1) := by decide +kernel
theorem d13_6 : decode jdk_2323_method_14_code 6 = .ok (.putfield 246, 3) := by decide +kernel
theorem d13_9 : decode jdk_2323_method_14_code 9 = .ok (.aload_n 0, 1) := by decide +kernel
theorem d13_10 : decode jdk_2323_method_14_code 10 = .ok (.iload_n 2, 1) := by decide +kernel
theorem d13_11 : decode jdk_2323_method_14_code 11 = .ok (.i2s, 1) := by decide +kernel
theorem d13_12 : decode jdk_2323_method_14_code 12 = .ok (.putfield 250, 3) := by decide +kernel
theorem d13_15 : decode jdk_2323_method_14_code 15 = .ok (.aload_n 0, 1) := by decide +kernel
theorem d13_16 : decode jdk_2323_method_14_code 16 = .ok (.iload_n 3, 1) := by decide +kernel
theorem d13_17 : decode jdk_2323_method_14_code 17 = .ok (.i2s, 1) := by decide +kernel
theorem d13_18 : decode jdk_2323_method_14_code 18 = .ok (.putfield 253, 3) := by decide +kernel
theorem d13_21 : decode jdk_2323_method_14_code 21 = .ok (.return_, 1) := by decide +kernel
theorem d15_0 : decode prog_5_method_1_code 0 = .ok (.aload_n 0, 1) := by decide +kernel
theorem d15_1 : decode prog_5_method_1_code 1 = .ok (.invokespecial 1, 3) := by decide +kernel
theorem d15_4 : decode prog_5_method_1_code 4 = .ok (.aload_n 0, 1) := by decide +kernel
theorem d15_5 : decode prog_5_method_1_code 5 = .ok (.ldc 9, 2) := by decide +kernel
theorem d15_7 : decode prog_5_method_1_code 7 = .ok (.anewarray 10, 3) := by decide +kernel
theorem d15_10 : decode prog_5_method_1_code 10 = .ok (.putfield 12, 3) := by decide +kernel
theorem d15_13 : decode prog_5_method_1_code 13 = .ok (.aload_n 0, 1) := by decide +kernel
theorem d15_14 : decode prog_5_method_1_code 14 = .ok (.ldc 18, 2) := by decide +kernel
theorem d15_16 : decode prog_5_method_1_code 16 = .ok (.putfield 19, 3) := by decide +kernel
theorem d15_19 : decode prog_5_method_1_code 19 = .ok (.aload_n 0, 1) := by decide +kernel
theorem d15_20 : decode prog_5_method_1_code 20 = .ok (.iconst (-1), 1) := by decide +kernel
theorem d15_21 : decode prog_5_method_1_code 21 = .ok (.putfield 23, 3) := by decide +kernel
theorem d15_24 : decode prog_5_method_1_code 24 = .ok (.return_, 1) := by decide +kernel
theorem d16_0 : decode prog_5_method_3_code 0 = .ok (.aload_n 0, 1) := by decide +kernel
theorem d16_1 : decode prog_5_method_3_code 1 = .ok (.getfield 23, 3) := by decide +kernel
theorem d16_4 : decode prog_5_method_3_code 4 = .ok (.ifCond .ge 9, 3) := by decide +kernel
theorem d16_7 : decode prog_5_method_3_code 7 = .ok (.invokestatic 97, 3) := by decide +kernel
theorem d16_10 : decode prog_5_method_3_code 10 = .ok (.goto 13, 3) := by decide +kernel
theorem d16_13 : decode prog_5_method_3_code 13 = .ok (.aload_n 0, 1) := by decide +kernel
theorem d16_14 : decode prog_5_method_3_code 14 = .ok (.getfield 19, 3) := by decide +kernel
theorem d16_17 : decode prog_5_method_3_code 17 = .ok (.invokestatic 103, 3) := by decide +kernel
theorem d16_20 : decode prog_5_method_3_code 20 = .ok (.invokestatic 107, 3) := by decide +kernel
theorem d16_23 : decode prog_5_method_3_code 23 = .ok (.areturn, 1) := by decide +kernel
theorem d17_0 : decode jdk_32_method_1_code 0 = .ok (.getstatic 1, 3) := by decide +kernel
theorem d17_3 : decode jdk_32_method_1_code 3 = .ok (.astore_n 0, 1) := by decide +kernel
theorem d17_4 : decode jdk_32_method_1_code 4 = .ok (.aload_n 0, 1) := by decide +kernel
theorem d17_5 : decode jdk_32_method_1_code 5 = .ok (.areturn, 1) := by decide +kernel
theorem d18_0 : decode jdk_32_method_7_code 0 = .ok (.aload_n 0, 1) := by decide +kernel
theorem d18_1 : decode jdk_32_method_7_code 1 = .ok (.getfield 13, 3) := by decide +kernel
theorem d18_4 : decode jdk_32_method_7_code 4 = .ok (.ifnonnull 7, 3) := by decide +kernel
theorem d18_7 : decode jdk_32_method_7_code 7 = .ok (.iconst 1, 1) := by decide +kernel
theorem d18_8 : decode jdk_32_method_7_code 8 = .ok (.goto 4, 3) := by decide +kernel
theorem d18_11 : decode jdk_32_method_7_code 11 = .ok (.iconst 0, 1) := by decide +kernel
theorem d18_12 : decode jdk_32_method_7_code 12 = .ok (.ireturn, 1) := by decide +kernel
theorem d19_0 : decode method_6_code 0 = .ok (.iload_n 0, 1) := by decide +kernel
theorem d19_1 : decode method_6_code 1 = .ok (.ifCond .ne 9, 3) := by decide +kernel
theorem d19_4 : decode method_6_code 4 = .ok (.getstatic 38, 3) := by decide +kernel
theorem d19_7 : decode method_6_code 7 = .ok (.goto 6, 3) := by decide +kernel
theorem d19_10 : decode method_6_code 10 = .ok (.getstatic 44, 3) := by decide +kernel
theorem d19_13 : decode method_6_code 13 = .ok (.areturn, 1) := by decide +kernel
theorem d20_0 : decode prog_5_method_2_code 0 = .ok (.aload_n 2, 1) := by decide +kernel
theorem d20_1 : decode prog_5_method_2_code 1 = .ok (.aload_n 1, 1) := by decide +kernel
theorem d20_2 : decode prog_5_method_2_code 2 = .ok (.invokevirtual 26, 3) := by decide +kernel
theorem d20_5 : decode prog_5_method_2_code 5 = .ok (.ifCond .eq 24, 3) := by decide +kernel
theorem d20_29 : decode prog_5_method_2_code 29 = .ok (.aload_n 1, 1) := by decide +kernel
theorem d20_30 : decode prog_5_method_2_code 30 = .ok (.invokevirtual 47, 3) := by decide +kernel
theorem d20_33 : decode prog_5_method_2_code 33 = .ok (.aload_n 1, 1) := by decide +kernel
theorem d20_34 : decode prog_5_method_2_code 34 = .ok (.invokevirtual 51, 3) := by decide +kernel
theorem d20_37 : decode prog_5_method_2_code 37 = .ok (.invokestatic 54, 3) := by decide +kernel
theorem d20_40 : decode prog_5_method_2_code 40 = .ok (.istore 5, 2) := by decide +kernel
theorem d20_42 : decode prog_5_method_2_code 42 = .ok (.aload_n 2, 1) := by decide +kernel
theorem d20_43 : decode prog_5_method_2_code 43 = .ok (.invokevirtual 47, 3) := by decide +kernel
theorem d20_46 : decode prog_5_method_2_code 46 = .ok (.aload_n 2, 1) := by decide +kernel
theorem d20_47 : decode prog_5_method_2_code 47 = .ok (.invokevirtual 51, 3) := by decide +kernel
theorem d20_50 : decode prog_5_method_2_code 50 = .ok (.invokestatic 54, 3) := by decide +kernel
theorem d20_53 : decode prog_5_method_2_code 53 = .ok (.istore 6, 2) := by decide +kernel
theorem d20_55 : decode prog_5_method_2_code 55 = .ok (.aload_n 0, 1) := by decide +kernel
theorem d20_56 : decode prog_5_method_2_code 56 = .ok (.iload 5, 2) := by decide +kernel
theorem d20_58 : decode prog_5_method_2_code 58 = .ok (.invokevirtual 58, 3) := by decide +kernel
theorem d20_61 : decode prog_5_method_2_code 61 = .ok (.astore 7, 2) := by decide +kernel
theorem d20_63 : decode prog_5_method_2_code 63 = .ok (.aload_n 0, 1) := by decide +kernel
theorem d20_64 : decode prog_5_method_2_code 64 = .ok (.iload 6, 2) := by decide +kernel
theorem d20_66 : decode prog_5_method_2_code 66 = .ok (.invokevirtual 58, 3) := by decide +kernel
theorem d20_69 : decode prog_5_method_2_code 69 = .ok (.astore 8, 2) := by decide +kernel
theorem d20_71 : decode prog_5_method_2_code 71 = .ok (.aload 7, 2) := by decide +kernel
theorem d20_73 : decode prog_5_method_2_code 73 = .ok (.getfield 62, 3) := by decide +kernel
theorem d20_76 : decode prog_5_method_2_code 76 = .ok (.aload_n 1, 1) := by decide +kernel
theorem d20_77 : decode prog_5_method_2_code 77 = .ok (.invokevirtual 66, 3) := by decide +kernel
theorem d20_80 : decode prog_5_method_2_code 80 = .ok (.iconst 1, 1) := by decide +kernel
theorem d20_81 : decode prog_5_method_2_code 81 = .ok (.isub, 1) := by decide +kernel
theorem d20_82 : decode prog_5_method_2_code 82 = .ok (.dup2, 1) := by decide +kernel
theorem d20_83 : decode prog_5_method_2_code 83 = .ok (.laload, 1) := by decide +kernel
theorem d20_84 : decode prog_5_method_2_code 84 = .ok (.lconst 1, 1) := by decide +kernel
theorem d20_85 : decode prog_5_method_2_code 85 = .ok (.ladd, 1) := by decide +kernel
theorem d20_86 : decode prog_5_method_2_code 86 = .ok (.lastore, 1) := by decide +kernel
theorem d20_87 : decode prog_5_method_2_code 87 = .ok (.aload 8, 2) := by decide +kernel
theorem d20_89 : decode prog_5_method_2_code 89 = .ok (.getfield 62, 3) := by decide +kernel
theorem d20_92 : decode prog_5_method_2_code 92 = .ok (.aload_n 2, 1) := by decide +kernel
theorem d20_93 : decode prog_5_method_2_code 93 = .ok (.invokevirtual 66, 3) := by decide +kernel
theorem d20_96 : decode prog_5_method_2_code 96 = .ok (.iconst 1, 1) := by decide +kernel
theorem d20_97 : decode prog_5_method_2_code 97 = .ok (.isub, 1) := by decide +kernel
theorem d20_98 : decode prog_5_method_2_code 98 = .ok (.dup2, 1) := by decide +kernel
theorem d20_99 : decode prog_5_method_2_code 99 = .ok (.laload, 1) := by decide +kernel
theorem d20_100 : decode prog_5_method_2_code 100 = .ok (.lconst 1, 1) := by decide +kernel
theorem d20_101 : decode prog_5_method_2_code 101 = .ok (.lsub, 1) := by decide +kernel
theorem d20_102 : decode prog_5_method_2_code 102 = .ok (.lastore, 1) := by decide +kernel
theorem d20_103 : decode prog_5_method_2_code 103 = .ok (.aload_n 3, 1) := by decide +kernel
theorem d20_104 : decode prog_5_method_2_code 104 = .ok (.invokevirtual 69, 3) := by decide +kernel
theorem d20_107 : decode prog_5_method_2_code 107 = .ok (.ifCond .ne 7, 3) := by decide +kernel
theorem d20_110 : decode prog_5_method_2_code 110 = .ok (.iconst 1, 1) := by decide +kernel
theorem d20_111 : decode prog_5_method_2_code 111 = .ok (.goto 4, 3) := by decide +kernel
theorem d20_114 : decode prog_5_method_2_code 114 = .ok (.iconst 0, 1) := by decide +kernel
theorem d20_115 : decode prog_5_method_2_code 115 = .ok (.istore 9, 2) := by decide +kernel
theorem d20_117 : decode prog_5_method_2_code 117 = .ok (.iload 5, 2) := by decide +kernel
theorem d20_119 : decode prog_5_method_2_code 119 = .ok (.iload 6, 2) := by decide +kernel
theorem d20_121 : decode prog_5_method_2_code 121 = .ok (.if_icmp .ne 29, 3) := by decide +kernel
theorem d20_124 : decode prog_5_method_2_code 124 = .ok (.aload 7, 2) := by decide +kernel
theorem d20_126 : decode prog_5_method_2_code 126 = .ok (.getfield 74, 3) := by decide +kernel
theorem d20_129 : decode prog_5_method_2_code 129 = .ok (.aload_n 2, 1) := by decide +kernel
theorem d20_130 : decode prog_5_method_2_code 130 = .ok (.invokevirtual 66, 3) := by decide +kernel
theorem d20_133 : decode prog_5_method_2_code 133 = .ok (.aload_n 1, 1) := by decide +kernel
theorem d20_134 : decode prog_5_method_2_code 134 = .ok (.invokevirtual 66, 3) := by decide +kernel
theorem d20_137 : decode prog_5_method_2_code 137 = .ok (.isub, 1) := by decide +kernel
theorem d20_138 : decode prog_5_method_2_code 138 = .ok (.i2l, 1) := by decide +kernel
theorem d20_139 : decode prog_5_method_2_code 139 = .ok (.iload 9, 2) := by decide +kernel
theorem d20_141 : decode prog_5_method_2_code 141 = .ok (.aload_n 3, 1) := by decide +kernel
theorem d20_142 : decode prog_5_method_2_code 142 = .ok (.aload 4, 2) := by decide +kernel
theorem d20_144 : decode prog_5_method_2_code 144 = .ok (.invokevirtual 78, 3) := by decide +kernel
theorem d20_147 : decode prog_5_method_2_code 147 = .ok (.goto 50, 3) := by decide +kernel
theorem d20_150 : decode prog_5_method_2_code 150 = .ok (.aload 7, 2) := by decide +kernel
theorem d20_152 : decode prog_5_method_2_code 152 = .ok (.getfield 74, 3) := by decide +kernel
theorem d20_155 : decode prog_5_method_2_code 155 = .ok (.aload 7, 2) := by decide +kernel
theorem d20_157 : decode prog_5_method_2_code 157 = .ok (.getfield 62, 3) := by decide +kernel
theorem d20_160 : decode prog_5_method_2_code 160 = .ok (.arraylength, 1) := by decide +kernel
theorem d20_161 : decode prog_5_method_2_code 161 = .ok (.aload_n 1, 1) := by decide +kernel
theorem d20_162 : decode prog_5_method_2_code 162 = .ok (.invokevirtual 66, 3) := by decide +kernel
theorem d20_165 : decode prog_5_method_2_code 165 = .ok (.isub, 1) := by decide +kernel
theorem d20_166 : decode prog_5_method_2_code 166 = .ok (.iconst 1, 1) := by decide +kernel
theorem d20_167 : decode prog_5_method_2_code 167 = .ok (.iadd, 1) := by decide +kernel
theorem d20_168 : decode prog_5_method_2_code 168 = .ok (.i2l, 1) := by decide +kernel
theorem d20_169 : decode prog_5_method_2_code 169 = .ok (.iload 9, 2) := by decide +kernel
theorem d20_171 : decode prog_5_method_2_code 171 = .ok (.aload_n 3, 1) := by decide +kernel
theorem d20_172 : decode prog_5_method_2_code 172 = .ok (.aload 4, 2) := by decide +kernel
theorem d20_174 : decode prog_5_method_2_code 174 = .ok (.invokevirtual 78, 3) := by decide +kernel
theorem d20_177 : decode prog_5_method_2_code 177 = .ok (.aload 8, 2) := by decide +kernel
theorem d20_179 : decode prog_5_method_2_code 179 = .ok (.getfield 74, 3) := by decide +kernel
theorem d20_182 : decode prog_5_method_2_code 182 = .ok (.aload_n 2, 1) := by decide +kernel
theorem d20_183 : decode prog_5_method_2_code 183 = .ok (.invokevirtual 66, 3) := by decide +kernel
theorem d20_186 : decode prog_5_method_2_code 186 = .ok (.iconst 1, 1) := by decide +kernel
theorem d20_187 : decode prog_5_method_2_code 187 = .ok (.isub, 1) := by decide +kernel
theorem d20_188 : decode prog_5_method_2_code 188 = .ok (.i2l, 1) := by decide +kernel
theorem d20_189 : decode prog_5_method_2_code 189 = .ok (.iload 9, 2) := by decide +kernel
theorem d20_191 : decode prog_5_method_2_code 191 = .ok (.aload_n 3, 1) := by decide +kernel
theorem d20_192 : decode prog_5_method_2_code 192 = .ok (.aload 4, 2) := by decide +kernel
theorem d20_194 : decode prog_5_method_2_code 194 = .ok (.invokevirtual 78, 3) := by decide +kernel
theorem d20_197 : decode prog_5_method_2_code 197 = .ok (.iload 6, 2) := by decide +kernel
theorem d20_199 : decode prog_5_method_2_code 199 = .ok (.iload 5, 2) := by decide +kernel
theorem d20_201 : decode prog_5_method_2_code 201 = .ok (.isub, 1) := by decide +kernel
theorem d20_202 : decode prog_5_method_2_code 202 = .ok (.iconst 1, 1) := by decide +kernel
theorem d20_203 : decode prog_5_method_2_code 203 = .ok (.if_icmp .le 39, 3) := by decide +kernel
theorem d20_206 : decode prog_5_method_2_code 206 = .ok (.aload_n 0, 1) := by decide +kernel
theorem d20_207 : decode prog_5_method_2_code 207 = .ok (.iload 5, 2) := by decide +kernel
theorem d20_209 : decode prog_5_method_2_code 209 = .ok (.iconst 1, 1) := by decide +kernel
theorem d20_210 : decode prog_5_method_2_code 210 = .ok (.iadd, 1) := by decide +kernel
theorem d20_211 : decode prog_5_method_2_code 211 = .ok (.invokevirtual 58, 3) := by decide +kernel
theorem d20_214 : decode prog_5_method_2_code 214 = .ok (.getfield 84, 3) := by decide +kernel
theorem d20_217 : decode prog_5_method_2_code 217 = .ok (.lconst 1, 1) := by decide +kernel
theorem d20_218 : decode prog_5_method_2_code 218 = .ok (.iload 9, 2) := by decide +kernel
theorem d20_220 : decode prog_5_method_2_code 220 = .ok (.aload_n 3, 1) := by decide +kernel
theorem d20_221 : decode prog_5_method_2_code 221 = .ok (.aload 4, 2) := by decide +kernel
theorem d20_223 : decode prog_5_method_2_code 223 = .ok (.invokevirtual 78, 3) := by decide +kernel
theorem d20_226 : decode prog_5_method_2_code 226 = .ok (.aload 8, 2) := by decide +kernel
theorem d20_228 : decode prog_5_method_2_code 228 = .ok (.getfield 84, 3) := by decide +kernel
theorem d20_231 : decode prog_5_method_2_code 231 = .ok (.ldc2_w 87, 3) := by decide +kernel
theorem d20_234 : decode prog_5_method_2_code 234 = .ok (.iload 9, 2) := by decide +kernel
theorem d20_236 : decode prog_5_method_2_code 236 = .ok (.aload_n 3, 1) := by decide +kernel
theorem d20_237 : decode prog_5_method_2_code 237 = .ok (.aload 4, 2) := by decide +kernel
theorem d20_239 : decode prog_5_method_2_code 239 = .ok (.invokevirtual 78, 3) := by decide +kernel
theorem d20_242 : decode prog_5_method_2_code 242 = .ok (.aload_n 1, 1) := by decide +kernel
theorem d20_243 : decode prog_5_method_2_code 243 = .ok (.aload_n 2, 1) := by decide +kernel
theorem d20_244 : decode prog_5_method_2_code 244 = .ok (.invokevirtual 26, 3) := by decide +kernel
theorem d20_247 : decode prog_5_method_2_code 247 = .ok (.ifCond .eq 44, 3) := by decide +kernel
theorem d20_250 : decode prog_5_method_2_code 250 = .ok (.aload_n 0, 1) := by decide +kernel
theorem d20_251 : decode prog_5_method_2_code 251 = .ok (.aload_n 0, 1) := by decide +kernel
theorem d20_252 : decode prog_5_method_2_code 252 = .ok (.getfield 19, 3) := by decide +kernel
theorem d20_255 : decode prog_5_method_2_code 255 = .ok (.iload 5, 2) := by decide +kernel
theorem d20_257 : decode prog_5_method_2_code 257 = .ok (.invokestatic 89, 3) := by decide +kernel
theorem d20_260 : decode prog_5_method_2_code 260 = .ok (.putfield 19, 3) := by decide +kernel
theorem d20_263 : decode prog_5_method_2_code 263 = .ok (.aload_n 0, 1) := by decide +kernel
theorem d20_264 : decode prog_5_method_2_code 264 = .ok (.aload_n 0, 1) := by decide +kernel
theorem d20_265 : decode prog_5_method_2_code 265 = .ok (.getfield 23, 3) := by decide +kernel
theorem d20_268 : decode prog_5_method_2_code 268 = .ok (.aload_n 2, 1) := by decide +kernel
theorem d20_269 : decode prog_5_method_2_code 269 = .ok (.invokevirtual 66, 3) := by decide +kernel
theorem d20_272 : decode prog_5_method_2_code 272 = .ok (.iconst 1, 1) := by decide +kernel
theorem d20_273 : decode prog_5_method_2_code 273 = .ok (.if_icmp .ne 10, 3) := by decide +kernel
theorem d20_276 : decode prog_5_method_2_code 276 = .ok (.iload 6, 2) := by decide +kernel
theorem d20_278 : decode prog_5_method_2_code 278 = .ok (.iconst 1, 1) := by decide +kernel
theorem d20_279 : decode prog_5_method_2_code 279 = .ok (.isub, 1) := by decide +kernel
theorem d20_280 : decode prog_5_method_2_code 280 = .ok (.goto 5, 3) := by decide +kernel
theorem d20_283 : decode prog_5_method_2_code 283 = .ok (.iload 6, 2) := by decide +kernel
theorem d20_285 : decode prog_5_method_2_code 285 = .ok (.invokestatic 94, 3) := by decide +kernel
theorem d20_288 : decode prog_5_method_2_code 288 = .ok (.putfield 23, 3) := by decide +kernel
theorem d20_291 : decode prog_5_method_2_code 291 = .ok (.return_, 1) := by decide +kernel
theorem d21_0 : decode jdk_2323_method_72_code 0 = .ok (.aload_n 1, 1) := by decide +kernel
theorem d21_1 : decode jdk_2323_method_72_code 1 = .ok (.instanceof 1, 3) := by decide +kernel
theorem d21_4 : decode jdk_2323_method_72_code 4 = .ok (.ifCond .eq 20, 3) := by decide +kernel
theorem d21_7 : decode jdk_2323_method_72_code 7 = .ok (.aload_n 0, 1) := by decide +kernel
theorem d21_8 : decode jdk_2323_method_72_code 8 = .ok (.aload_n 1, 1) := by decide +kernel
theorem d21_9 : decode jdk_2323_method_72_code 9 = .ok (.checkcast 1, 3) := by decide +kernel
theorem d21_12 : decode jdk_2323_method_72_code 12 = .ok (.invokevirtual 679, 3) := by decide +kernel
theorem d21_15 : decode jdk_2323_method_72_code 15 = .ok (.ifCond .ge 7, 3) := by decide +kernel
theorem d21_18 : decode jdk_2323_method_72_code 18 = .ok (.iconst 1, 1) := by decide +kernel
theorem d21_19 : decode jdk_2323_method_72_code 19 = .ok (.goto 4, 3) := by decide +kernel
theorem d21_22 : decode jdk_2323_method_72_code 22 = .ok (.iconst 0, 1) := by decide +kernel
theorem d21_23 : decode jdk_2323_method_72_code 23 = .ok (.ireturn, 1) := by decide +kernel
theorem d22_0 : decode jdk_2323_method_70_code 0 = .ok (.aload_n 0, 1) := by decide +kernel
theorem d22_1 : decode jdk_2323_method_70_code 1 = .ok (.getfield 246, 3) := by decide +kernel
theorem d22_4 : decode jdk_2323_method_70_code 4 = .ok (.aload_n 1, 1) := by decide +kernel
theorem d22_5 : decode jdk_2323_method_70_code 5 = .ok (.getfield 246, 3) := by decide +kernel
theorem d22_8 : decode jdk_2323_method_70_code 8 = .ok (.isub, 1) := by decide +kernel
theorem d22_9 : decode jdk_2323_method_70_code 9 = .ok (.istore_n 2, 1) := by decide +kernel
theorem d22_10 : decode jdk_2323_method_70_code 10 = .ok (.iload_n 2, 1) := by decide +kernel
theorem d22_11 : decode jdk_2323_method_70_code 11 = .ok (.ifCond .ne 27, 3) := by decide +kernel
theorem d22_14 : decode jdk_2323_method_70_code 14 = .ok (.aload_n 0, 1) := by decide +kernel
theorem d22_15 : decode jdk_2323_method_70_code 15 = .ok (.getfield 250, 3) := by decide +kernel
theorem d22_18 : decode jdk_2323_method_70_code 18 = .ok (.aload_n 1, 1) := by decide +kernel
theorem d22_19 : decode jdk_2323_method_70_code 19 = .ok (.getfield 250, 3) := by decide +kernel
theorem d22_22 : decode jdk_2323_method_70_code 22 = .ok (.isub, 1) := by decide +kernel
theorem d22_23 : decode jdk_2323_method_70_code 23 = .ok (.istore_n 2, 1) := by decide +kernel
theorem d22_24 : decode jdk_2323_method_70_code 24 = .ok (.iload_n 2, 1) := by decide +kernel
theorem d22_25 : decode jdk_2323_method_70_code 25 = .ok (.ifCond .ne 13, 3) := by decide +kernel
theorem d22_28 : decode jdk_2323_method_70_code 28 = .ok (.aload_n 0, 1) := by decide +kernel
theorem d22_29 : decode jdk_2323_method_70_code 29 = .ok (.getfield 253, 3) := by decide +kernel
theorem d22_32 : decode jdk_2323_method_70_code 32 = .ok (.aload_n 1, 1) := by decide +kernel
theorem d22_33 : decode jdk_2323_method_70_code 33 = .ok (.getfield 253, 3) := by decide +kernel
theorem d22_36 : decode jdk_2323_method_70_code 36 = .ok (.isub, 1) := by decide +kernel
theorem d22_37 : decode jdk_2323_method_70_code 37 = .ok (.istore_n 2, 1) := by decide +kernel
theorem d22_38 : decode jdk_2323_method_70_code 38 = .ok (.iload_n 2, 1) := by decide +kernel
theorem d22_39 : decode jdk_2323_method_70_code 39 = .ok (.ireturn, 1) := by decide +kernel
theorem d23_0 : decode jdk_2323_method_24_code 0 = .ok (.aload_n 0, 1) := by decide +kernel
theorem d23_1 : decode jdk_2323_method_24_code 1 = .ok (.getfield 246, 3) := by decide +kernel
theorem d23_4 : decode jdk_2323_method_24_code 4 = .ok (.ireturn, 1) := by decide +kernel
theorem d24_0 : decode jdk_2323_method_25_code 0 = .ok (.aload_n 0, 1) := by decide +kernel
theorem d24_1 : decode jdk_2323_method_25_code 1 = .ok (.getfield 250, 3) := by decide +kernel
theorem d24_4 : decode jdk_2323_method_25_code 4 = .ok (.ireturn, 1) := by decide +kernel
theorem d25_0 : decode prog_5_method_7_code 0 = .ok (.iload_n 0, 1) := by decide +kernel
theorem d25_1 : decode prog_5_method_7_code 1 = .ok (.ifCond .lt 10, 3) := by decide +kernel
theorem d25_4 : decode prog_5_method_7_code 4 = .ok (.iload_n 0, 1) := by decide +kernel
theorem d25_5 : decode prog_5_method_7_code 5 = .ok (.sipush 10000, 3) := by decide +kernel
theorem d25_8 : decode prog_5_method_7_code 8 = .ok (.if_icmp .lt 17, 3) := by decide +kernel
theorem d25_25 : decode prog_5_method_7_code 25 = .ok (.bipush 12, 2) := by decide +kernel
theorem d25_27 : decode prog_5_method_7_code 27 = .ok (.iload_n 0, 1) := by decide +kernel
theorem d25_28 : decode prog_5_method_7_code 28 = .ok (.imul, 1) := by decide +kernel
theorem d25_29 : decode prog_5_method_7_code 29 = .ok (.iload_n 1, 1) := by decide +kernel
theorem d25_30 : decode prog_5_method_7_code 30 = .ok (.iadd, 1) := by decide +kernel
theorem d25_31 : decode prog_5_method_7_code 31 = .ok (.iconst 1, 1) := by decide +kernel
theorem d25_32 : decode prog_5_method_7_code 32 = .ok (.isub, 1) := by decide +kernel
theorem d25_33 : decode prog_5_method_7_code 33 = .ok (.ireturn, 1) := by decide +kernel
theorem d26_0 : decode prog_5_method_9_code 0 = .ok (.aload_n 0, 1) := by decide +kernel
theorem d26_1 : decode prog_5_method_9_code 1 = .ok (.getfield 12, 3) := by decide +kernel
theorem d26_4 : decode prog_5_method_9_code 4 = .ok (.iload_n 1, 1) := by decide +kernel
theorem d26_5 : decode prog_5_method_9_code 5 = .ok (.aaload, 1) := by decide +kernel
theorem d26_6 : decode prog_5_method_9_code 6 = .ok (.ifnonnull 23, 3) := by decide +kernel
theorem d26_9 : decode prog_5_method_9_code 9 = .ok (.aload_n 0, 1) := by decide +kernel
theorem d26_10 : decode prog_5_method_9_code 10 = .ok (.getfield 12, 3) := by decide +kernel
theorem d26_13 : decode prog_5_method_9_code 13 = .ok (.iload_n 1, 1) := by decide +kernel
theorem d26_14 : decode prog_5_method_9_code 14 = .ok (.new 10, 3) := by decide +kernel
theorem d26_17 : decode prog_5_method_9_code 17 = .ok (.dup, 1) := by decide +kernel
theorem d26_18 : decode prog_5_method_9_code 18 = .ok (.iload_n 1, 1) := by decide +kernel
theorem d26_19 : decode prog_5_method_9_code 19 = .ok (.invokestatic 103, 3) := by decide +kernel
theorem d26_22 : decode prog_5_method_9_code 22 = .ok (.invokevirtual 134, 3) := by decide +kernel
theorem d26_25 : decode prog_5_method_9_code 25 = .ok (.invokespecial 137, 3) := by decide +kernel
theorem d26_28 : decode prog_5_method_9_code 28 = .ok (.aastore, 1) := by decide +kernel
theorem d26_29 : decode prog_5_method_9_code 29 = .ok (.aload_n 0, 1) := by decide +kernel
theorem d26_30 : decode prog_5_method_9_code 30 = .ok (.getfield 12, 3) := by decide +kernel
theorem d26_33 : decode prog_5_method_9_code 33 = .ok (.iload_n 1, 1) := by decide +kernel
theorem d26_34 : decode prog_5_method_9_code 34 = .ok (.aaload, 1) := by decide +kernel
theorem d26_35 : decode prog_5_method_9_code 35 = .ok (.areturn, 1) := by decide +kernel
theorem d27_0 : decode prog_5_method_8_code 0 = .ok (.iload_n 0, 1) := by decide +kernel
theorem d27_1 : decode prog_5_method_8_code 1 = .ok (.bipush 12, 2) := by decide +kernel
theorem d27_3 : decode prog_5_method_8_code 3 = .ok (.idiv, 1) := by decide +kernel
theorem d27_4 : decode prog_5_method_8_code 4 = .ok (.iload_n 0, 1) := by decide +kernel
theorem d27_5 : decode prog_5_method_8_code 5 = .ok (.bipush 12, 2) := by decide +kernel
theorem d27_7 : decode prog_5_method_8_code 7 = .ok (.irem, 1) := by decide +kernel
theorem d27_8 : decode prog_5_method_8_code 8 = .ok (.iconst 1, 1) := by decide +kernel
theorem d27_9 : decode prog_5_method_8_code 9 = .ok (.iadd, 1) := by decide +kernel
theorem d27_10 : decode prog_5_method_8_code 10 = .ok (.invokestatic 131, 3) := by decide +kernel
theorem d27_13 : decode prog_5_method_8_code 13 = .ok (.areturn, 1) := by decide +kernel
theorem d28_0 : decode jdk_2340_method_5_code 0 = .ok (.getstatic 50, 3) := by decide +kernel
theorem d28_3 : decode jdk_2340_method_5_code 3 = .ok (.iload_n 0, 1) := by decide +kernel
theorem d28_4 : decode jdk_2340_method_5_code 4 = .ok (.i2l, 1) := by decide +kernel
theorem d28_5 : decode jdk_2340_method_5_code 5 = .ok (.invokevirtual 56, 3) := by decide +kernel
theorem d28_8 : decode jdk_2340_method_5_code 8 = .ok (.pop2, 1) := by decide +kernel
theorem d28_9 : decode jdk_2340_method_5_code 9 = .ok (.getstatic 60, 3) := by decide +kernel
theorem d28_12 : decode jdk_2340_method_5_code 12 = .ok (.iload_n 1, 1) := by decide +kernel
theorem d28_13 : decode jdk_2340_method_5_code 13 = .ok (.i2l, 1) := by decide +kernel
theorem d28_14 : decode jdk_2340_method_5_code 14 = .ok (.invokevirtual 56, 3) := by decide +kernel
theorem d28_17 : decode jdk_2340_method_5_code 17 = .ok (.pop2, 1) := by decide +kernel
theorem d28_18 : decode jdk_2340_method_5_code 18 = .ok (.new 8, 3) := by decide +kernel
theorem d28_21 : decode jdk_2340_method_5_code 21 = .ok (.dup, 1) := by decide +kernel
theorem d28_22 : decode jdk_2340_method_5_code 22 = .ok (.iload_n 0, 1) := by decide +kernel
theorem d28_23 : decode jdk_2340_method_5_code 23 = .ok (.iload_n 1, 1) := by decide +kernel
theorem d28_24 : decode jdk_2340_method_5_code 24 = .ok (.invokespecial 63, 3) := by decide +kernel
theorem d28_27 : decode jdk_2340_method_5_code 27 = .ok (.areturn, 1) := by decide +kernel
theorem d29_0 : decode jdk_2340_method_9_code 0 = .ok (.aload_n 0, 1) := by decide +kernel
theorem d29_1 : decode jdk_2340_method_9_code 1 = .ok (.invokespecial 147, 3) := by decide +kernel
theorem d29_4 : decode jdk_2340_method_9_code 4 = .ok (.aload_n 0, 1) := by decide +kernel
theorem d29_5 : decode jdk_2340_method_9_code 5 = .ok (.iload_n 1, 1) := by decide +kernel
theorem d29_6 : decode jdk_2340_method_9_code 6 = .ok (.putfield 150, 3) := by decide +kernel
theorem d29_9 : decode jdk_2340_method_9_code 9 = .ok (.aload_n 0, 1) := by decide +kernel
theorem d29_10 : decode jdk_2340_method_9_code 10 = .ok (.iload_n 2, 1) := by decide +kernel
theorem d29_11 : decode jdk_2340_method_9_code 11 = .ok (.putfield 154, 3) := by decide +kernel
theorem d29_14 : decode jdk_2340_method_9_code 14 = .ok (.return_, 1) := by decide +kernel
theorem d30_0 : decode jdk_2340_method_22_code 0 = .ok (.aload_n 0, 1) := by decide +kernel
theorem d30_1 : decode jdk_2340_method_22_code 1 = .ok (.invokevirtual 260, 3) := by decide +kernel
theorem d30_4 : decode jdk_2340_method_22_code 4 = .ok (.aload_n 0, 1) := by decide +kernel
theorem d30_5 : decode jdk_2340_method_22_code 5 = .ok (.invokevirtual 261, 3) := by decide +kernel
theorem d30_8 : decode jdk_2340_method_22_code 8 = .ok (.invokevirtual 264, 3) := by decide +kernel
theorem d30_11 : decode jdk_2340_method_22_code 11 = .ok (.ireturn, 1) := by decide +kernel
theorem d31_0 : decode jdk_2340_method_19_code 0 = .ok (.aload_n 0, 1) := by decide +kernel
theorem d31_1 : decode jdk_2340_method_19_code 1 = .ok (.getfield 154, 3) := by decide +kernel
theorem d31_4 : decode jdk_2340_method_19_code 4 = .ok (.invokestatic 250, 3) := by decide +kernel
theorem d31_7 : decode jdk_2340_method_19_code 7 = .ok (.areturn, 1) := by decide +kernel
theorem d32_0 : decode jdk_2329_method_4_code 0 = .ok (.iload_n 0, 1) := by decide +kernel
theorem d32_1 : decode jdk_2329_method_4_code 1 = .ok (.iconst 1, 1) := by decide +kernel
theorem d32_2 : decode jdk_2329_method_4_code 2 = .ok (.if_icmp .lt 9, 3) := by decide +kernel
theorem d32_5 : decode jdk_2329_method_4_code 5 = .ok (.iload_n 0, 1) := by decide +kernel
theorem d32_6 : decode jdk_2329_method_4_code 6 = .ok (.bipush 12, 2) := by decide +kernel
theorem d32_8 : decode jdk_2329_method_4_code 8 = .ok (.if_icmp .le 30, 3) := by decide +kernel
theorem d32_38 : decode jdk_2329_method_4_code 38 = .ok (.getstatic 82, 3) := by decide +kernel
theorem d32_41 : decode jdk_2329_method_4_code 41 = .ok (.iload_n 0, 1) := by decide +kernel
theorem d32_42 : decode jdk_2329_method_4_code 42 = .ok (.iconst 1, 1) := by decide +kernel
theorem d32_43 : decode jdk_2329_method_4_code 43 = .ok (.isub, 1) := by decide +kernel
theorem d32_44 : decode jdk_2329_method_4_code 44 = .ok (.aaload, 1) := by decide +kernel
theorem d32_45 : decode jdk_2329_method_4_code 45 = .ok (.areturn, 1) := by decide +kernel
theorem d33_0 : decode jdk_2340_method_20_code 0 = .ok (.getstatic 69, 3) := by decide +kernel
theorem d33_3 : decode jdk_2340_method_20_code 3 = .ok (.aload_n 0, 1) := by decide +kernel
theorem d33_4 : decode jdk_2340_method_20_code 4 = .ok (.getfield 150, 3) := by decide +kernel
theorem d33_7 : decode jdk_2340_method_20_code 7 = .ok (.i2l, 1) := by decide +kernel
theorem d33_8 : decode jdk_2340_method_20_code 8 = .ok (.invokevirtual 253, 3) := by decide +kernel
theorem d33_11 : decode jdk_2340_method_20_code 11 = .ok (.ireturn, 1) := by decide +kernel
theorem d34_0 : decode jdk_2369_method_18_code 0 = .ok (.lload_n 1, 1) := by decide +kernel
theorem d34_1 : decode jdk_2369_method_18_code 1 = .ok (.ldc2_w 117, 3) := by decide +kernel
theorem d34_4 : decode jdk_2369_method_18_code 4 = .ok (.land, 1) := by decide +kernel
theorem d34_5 : decode jdk_2369_method_18_code 5 = .ok (.lconst 0, 1) := by decide +kernel
theorem d34_6 : decode jdk_2369_method_18_code 6 = .ok (.lcmp, 1) := by decide +kernel
theorem d34_7 : decode jdk_2369_method_18_code 7 = .ok (.ifCond .ne 27, 3) := by decide +kernel
theorem d34_10 : decode jdk_2369_method_18_code 10 = .ok (.lload_n 1, 1) := by decide +kernel
theorem d34_11 : decode jdk_2369_method_18_code 11 = .ok (.ldc2_w 123, 3) := by decide +kernel
theorem d34_14 : decode jdk_2369_method_18_code 14 = .ok (.lrem, 1) := by decide +kernel
theorem d34_15 : decode jdk_2369_method_18_code 15 = .ok (.lconst 0, 1) := by decide +kernel
theorem d34_16 : decode jdk_2369_method_18_code 16 = .ok (.lcmp, 1) := by decide +kernel
theorem d34_17 : decode jdk_2369_method_18_code 17 = .ok (.ifCond .ne 13, 3) := by decide +kernel
theorem d34_20 : decode jdk_2369_method_18_code 20 = .ok (.lload_n 1, 1) := by decide +kernel
theorem d34_21 : decode jdk_2369_method_18_code 21 = .ok (.ldc2_w 127, 3) := by decide +kernel
theorem d34_24 : decode jdk_2369_method_18_code 24 = .ok (.lrem, 1) := by decide +kernel
theorem d34_25 : decode jdk_2369_method_18_code 25 = .ok (.lconst 0, 1) := by decide +kernel
theorem d34_26 : decode jdk_2369_method_18_code 26 = .ok (.lcmp, 1) := by decide +kernel
theorem d34_27 : decode jdk_2369_method_18_code 27 = .ok (.ifCond .ne 7, 3) := by decide +kernel
theorem d34_30 : decode jdk_2369_method_18_code 30 = .ok (.iconst 1, 1) := by decide +kernel
theorem d34_31 : decode jdk_2369_method_18_code 31 = .ok (.goto 4, 3) := by decide +kernel
theorem d34_34 : decode jdk_2369_method_18_code 34 = .ok (.iconst 0, 1) := by decide +kernel
theorem d34_35 : decode jdk_2369_method_18_code 35 = .ok (.ireturn, 1) := by decide +kernel
theorem d35_0 : decode jdk_2329_method_14_code 0 = .ok (.aload_n 0, 1) := by decide +kernel
theorem d35_1 : decode jdk_2329_method_14_code 1 = .ok (.invokevirtual 141, 3) := by decide +kernel
theorem d35_4 : decode jdk_2329_method_14_code 4 = .ok (.tableswitch 75 1 10 #[56, 75, 70, 75, 70, 75, 75, 70, 75, 70], 56) := by decide +kernel
theorem d35_60 : decode jdk_2329_method_14_code 60 = .ok (.iload_n 1, 1) := by decide +kernel
theorem d35_61 : decode jdk_2329_method_14_code 61 = .ok (.ifCond .eq 8, 3) := by decide +kernel
theorem d35_64 : decode jdk_2329_method_14_code 64 = .ok (.bipush 29, 2) := by decide +kernel
theorem d35_66 : decode jdk_2329_method_14_code 66 = .ok (.goto 15, 3) := by decide +kernel
theorem d35_69 : decode jdk_2329_method_14_code 69 = .ok (.bipush 28, 2) := by decide +kernel
theorem d35_71 : decode jdk_2329_method_14_code 71 = .ok (.goto 10, 3) := by decide +kernel
theorem d35_74 : decode jdk_2329_method_14_code 74 = .ok (.bipush 30, 2) := by decide +kernel
theorem d35_76 : decode jdk_2329_method_14_code 76 = .ok (.goto 5, 3) := by decide +kernel
theorem d35_79 : decode jdk_2329_method_14_code 79 = .ok (.bipush 31, 2) := by decide +kernel
theorem d35_81 : decode jdk_2329_method_14_code 81 = .ok (.ireturn, 1) := by decide +kernel
theorem d36_0 : decode jdk_37_method_2_code 0 = .ok (.aload_n 0, 1) := by decide +kernel
theorem d36_1 : decode jdk_37_method_2_code 1 = .ok (.getfield 7, 3) := by decide +kernel
theorem d36_4 : decode jdk_37_method_2_code 4 = .ok (.ireturn, 1) := by decide +kernel
theorem d37_0 : decode prog_7_method_1_code 0 = .ok (.aload_n 0, 1) := by decide +kernel
theorem d37_1 : decode prog_7_method_1_code 1 = .ok (.invokespecial 1, 3) := by decide +kernel
theorem d37_4 : decode prog_7_method_1_code 4 = .ok (.aload_n 0, 1) := by decide +kernel
theorem d37_5 : decode prog_7_method_1_code 5 = .ok (.new 7, 3) := by decide +kernel
theorem d37_8 : decode prog_7_method_1_code 8 = .ok (.dup, 1) := by decide +kernel
theorem d37_9 : decode prog_7_method_1_code 9 = .ok (.invokespecial 9, 3) := by decide +kernel
theorem d37_12 : decode prog_7_method_1_code 12 = .ok (.putfield 10, 3) := by decide +kernel
theorem d37_15 : decode prog_7_method_1_code 15 = .ok (.aload_n 0, 1) := by decide +kernel
theorem d37_16 : decode prog_7_method_1_code 16 = .ok (.new 7, 3) := by decide +kernel
theorem d37_19 : decode prog_7_method_1_code 19 = .ok (.dup, 1) := by decide +kernel
theorem d37_20 : decode prog_7_method_1_code 20 = .ok (.invokespecial 9, 3) := by decide +kernel
theorem d37_23 : decode prog_7_method_1_code 23 = .ok (.putfield 16, 3) := by decide +kernel
theorem d37_26 : decode prog_7_method_1_code 26 = .ok (.aload_n 0, 1) := by decide +kernel
theorem d37_27 : decode prog_7_method_1_code 27 = .ok (.iload_n 1, 1) := by decide +kernel
theorem d37_28 : decode prog_7_method_1_code 28 = .ok (.newarray .long, 2) := by decide +kernel
theorem d37_30 : decode prog_7_method_1_code 30 = .ok (.putfield 19, 3) := by decide +kernel
theorem d37_33 : decode prog_7_method_1_code 33 = .ok (.return_, 1) := by decide +kernel
theorem d38_0 : decode prog_9_method_1_code 0 = .ok (.aload_n 0, 1) := by decide +kernel
theorem d38_1 : decode prog_9_method_1_code 1 = .ok (.invokespecial 1, 3) := by decide +kernel
theorem d38_4 : decode prog_9_method_1_code 4 = .ok (.aload_n 0, 1) := by decide +kernel
theorem d38_5 : decode prog_9_method_1_code 5 = .ok (.getstatic 7, 3) := by decide +kernel
theorem d38_8 : decode prog_9_method_1_code 8 = .ok (.putfield 13, 3) := by decide +kernel
theorem d38_11 : decode prog_9_method_1_code 11 = .ok (.aload_n 0, 1) := by decide +kernel
theorem d38_12 : decode prog_9_method_1_code 12 = .ok (.getstatic 7, 3) := by decide +kernel
theorem d38_15 : decode prog_9_method_1_code 15 = .ok (.putfield 18, 3) := by decide +kernel
theorem d38_18 : decode prog_9_method_1_code 18 = .ok (.return_, 1) := by decide +kernel
theorem d39_0 : decode jdk_2323_method_27_code 0 = .ok (.aload_n 0, 1) := by decide +kernel
theorem d39_1 : decode jdk_2323_method_27_code 1 = .ok (.getfield 253, 3) := by decide +kernel
theorem d39_4 : decode jdk_2323_method_27_code 4 = .ok (.ireturn, 1) := by decide +kernel
theorem d40_0 : decode jdk_17_method_58_code 0 = .ok (.aload_n 0, 1) := by decide +kernel
theorem d40_1 : decode jdk_17_method_58_code 1 = .ok (.getfield 24, 3) := by decide +kernel
theorem d40_4 : decode jdk_17_method_58_code 4 = .ok (.ldc2_w 125, 3) := by decide +kernel
theorem d40_7 : decode jdk_17_method_58_code 7 = .ok (.lcmp, 1) := by decide +kernel
theorem d40_8 : decode jdk_17_method_58_code 8 = .ok (.ifCond .eq 13, 3) := by decide +kernel
theorem d40_11 : decode jdk_17_method_58_code 11 = .ok (.aload_n 0, 1) := by decide +kernel
theorem d40_12 : decode jdk_17_method_58_code 12 = .ok (.getfield 24, 3) := by decide +kernel
theorem d40_15 : decode jdk_17_method_58_code 15 = .ok (.invokestatic 596, 3) := by decide +kernel
theorem d40_18 : decode jdk_17_method_58_code 18 = .ok (.goto 10, 3) := by decide +kernel
theorem d40_28 : decode jdk_17_method_58_code 28 = .ok (.ireturn, 1) := by decide +kernel
theorem d41_0 : decode jdk_35_method_57_code 0 = .ok (.lload_n 0, 1) := by decide +kernel
theorem d41_1 : decode jdk_35_method_57_code 1 = .ok (.bipush 63, 2) := by decide +kernel
theorem d41_3 : decode jdk_35_method_57_code 3 = .ok (.lshr, 1) := by decide +kernel
theorem d41_4 : decode jdk_35_method_57_code 4 = .ok (.lload_n 0, 1) := by decide +kernel
theorem d41_5 : decode jdk_35_method_57_code 5 = .ok (.lneg, 1) := by decide +kernel
theorem d41_6 : decode jdk_35_method_57_code 6 = .ok (.bipush 63, 2) := by decide +kernel
theorem d41_8 : decode jdk_35_method_57_code 8 = .ok (.lushr, 1) := by decide +kernel
theorem d41_9 : decode jdk_35_method_57_code 9 = .ok (.lor, 1) := by decide +kernel
theorem d41_10 : decode jdk_35_method_57_code 10 = .ok (.l2i, 1) := by decide +kernel
theorem d41_11 : decode jdk_35_method_57_code 11 = .ok (.ireturn, 1) := by decide +kernel
theorem d42_0 : decode prog_9_method_2_code 0 = .ok (.iload_n 3, 1) := by decide +kernel
theorem d42_1 : decode prog_9_method_2_code 1 = .ok (.ifCond .eq 14, 3) := by decide +kernel
theorem d42_4 : decode prog_9_method_2_code 4 = .ok (.aload_n 0, 1) := by decide +kernel
theorem d42_5 : decode prog_9_method_2_code 5 = .ok (.dup, 1) := by decide +kernel
theorem d42_6 : decode prog_9_method_2_code 6 = .ok (.getfield 21, 3) := by decide +kernel
theorem d42_9 : decode prog_9_method_2_code 9 = .ok (.lload_n 1, 1) := by decide +kernel
theorem d42_10 : decode prog_9_method_2_code 10 = .ok (.ladd, 1) := by decide +kernel
theorem d42_11 : decode prog_9_method_2_code 11 = .ok (.putfield 21, 3) := by decide +kernel
theorem d42_14 : decode prog_9_method_2_code 14 = .ok (.return_, 1) := by decide +kernel
theorem d42_15 : decode prog_9_method_2_code 15 = .ok (.lload_n 1, 1) := by decide +kernel
theorem d42_16 : decode prog_9_method_2_code 16 = .ok (.invokestatic 25, 3) := by decide +kernel
theorem d42_19 : decode prog_9_method_2_code 19 = .ok (.astore 6, 2) := by decide +kernel
theorem d42_21 : decode prog_9_method_2_code 21 = .ok (.aload_n 0, 1) := by decide +kernel
theorem d42_22 : decode prog_9_method_2_code 22 = .ok (.dup, 1) := by decide +kernel
theorem d42_23 : decode prog_9_method_2_code 23 = .ok (.getfield 29, 3) := by decide +kernel
theorem d42_26 : decode prog_9_method_2_code 26 = .ok (.lload_n 1, 1) := by decide +kernel
theorem d42_27 : decode prog_9_method_2_code 27 = .ok (.ladd, 1) := by decide +kernel
theorem d42_28 : decode prog_9_method_2_code 28 = .ok (.putfield 29, 3) := by decide +kernel
theorem d42_31 : decode prog_9_method_2_code 31 = .ok (.aload_n 0, 1) := by decide +kernel
theorem d42_32 : decode prog_9_method_2_code 32 = .ok (.aload_n 0, 1) := by decide +kernel
theorem d42_33 : decode prog_9_method_2_code 33 = .ok (.getfield 13, 3) := by decide +kernel
theorem d42_36 : decode prog_9_method_2_code 36 = .ok (.aload 4, 2) := by decide +kernel
theorem d42_38 : decode prog_9_method_2_code 38 = .ok (.aload 6, 2) := by decide +kernel
theorem d42_40 : decode prog_9_method_2_code 40 = .ok (.invokevirtual 32, 3) := by decide +kernel
theorem d42_43 : decode prog_9_method_2_code 43 = .ok (.invokevirtual 36, 3) := by decide +kernel
theorem d42_46 : decode prog_9_method_2_code 46 = .ok (.putfield 13, 3) := by decide +kernel
theorem d42_49 : decode prog_9_method_2_code 49 = .ok (.aload_n 0, 1) := by decide +kernel
theorem d42_50 : decode prog_9_method_2_code 50 = .ok (.aload_n 0, 1) := by decide +kernel
theorem d42_51 : decode prog_9_method_2_code 51 = .ok (.getfield 18, 3) := by decide +kernel
theorem d42_54 : decode prog_9_method_2_code 54 = .ok (.aload 5, 2) := by decide +kernel
theorem d42_56 : decode prog_9_method_2_code 56 = .ok (.aload 6, 2) := by decide +kernel
theorem d42_58 : decode prog_9_method_2_code 58 = .ok (.invokevirtual 32, 3) := by decide +kernel
theorem d42_61 : decode prog_9_method_2_code 61 = .ok (.invokevirtual 36, 3) := by decide +kernel
theorem d42_64 : decode prog_9_method_2_code 64 = .ok (.putfield 18, 3) := by decide +kernel
theorem d42_67 : decode prog_9_method_2_code 67 = .ok (.aload 5, 2) := by decide +kernel
theorem d42_69 : decode prog_9_method_2_code 69 = .ok (.getstatic 39, 3) := by decide +kernel
theorem d42_72 : decode prog_9_method_2_code 72 = .ok (.invokevirtual 42, 3) := by decide +kernel
theorem d42_75 : decode prog_9_method_2_code 75 = .ok (.ifCond .le 13, 3) := by decide +kernel
theorem d42_78 : decode prog_9_method_2_code 78 = .ok (.aload_n 0, 1) := by decide +kernel
theorem d42_79 : decode prog_9_method_2_code 79 = .ok (.dup, 1) := by decide +kernel
theorem d42_80 : decode prog_9_method_2_code 80 = .ok (.getfield 46, 3) := by decide +kernel
theorem d42_83 : decode prog_9_method_2_code 83 = .ok (.lload_n 1, 1) := by decide +kernel
theorem d42_84 : decode prog_9_method_2_code 84 = .ok (.ladd, 1) := by decide +kernel
theorem d42_85 : decode prog_9_method_2_code 85 = .ok (.putfield 46, 3) := by decide +kernel
theorem d42_88 : decode prog_9_method_2_code 88 = .ok (.return_, 1) := by decide +kernel
theorem d43_0 : decode jdk_17_method_21_code 0 = .ok (.lload_n 0, 1) := by decide +kernel
theorem d43_1 : decode jdk_17_method_21_code 1 = .ok (.lconst 0, 1) := by decide +kernel
theorem d43_2 : decode jdk_17_method_21_code 2 = .ok (.lcmp, 1) := by decide +kernel
theorem d43_3 : decode jdk_17_method_21_code 3 = .ok (.ifCond .lt 20, 3) := by decide +kernel
theorem d43_6 : decode jdk_17_method_21_code 6 = .ok (.lload_n 0, 1) := by decide +kernel
theorem d43_7 : decode jdk_17_method_21_code 7 = .ok (.getstatic 246, 3) := by decide +kernel
theorem d43_10 : decode jdk_17_method_21_code 10 = .ok (.arraylength, 1) := by decide +kernel
theorem d43_11 : decode jdk_17_method_21_code 11 = .ok (.i2l, 1) := by decide +kernel
theorem d43_12 : decode jdk_17_method_21_code 12 = .ok (.lcmp, 1) := by decide +kernel
theorem d43_13 : decode jdk_17_method_21_code 13 = .ok (.ifCond .ge 10, 3) := by decide +kernel
theorem d43_16 : decode jdk_17_method_21_code 16 = .ok (.getstatic 246, 3) := by decide +kernel
theorem d43_19 : decode jdk_17_method_21_code 19 = .ok (.lload_n 0, 1) := by decide +kernel
theorem d43_20 : decode jdk_17_method_21_code 20 = .ok (.l2i, 1) := by decide +kernel
theorem d43_21 : decode jdk_17_method_21_code 21 = .ok (.aaload, 1) := by decide +kernel
theorem d43_22 : decode jdk_17_method_21_code 22 = .ok (.areturn, 1) := by decide +kernel
theorem d43_23 : decode jdk_17_method_21_code 23 = .ok (.lload_n 0, 1) := by decide +kernel
theorem d43_24 : decode jdk_17_method_21_code 24 = .ok (.ldc2_w 125, 3) := by decide +kernel
theorem d43_27 : decode jdk_17_method_21_code 27 = .ok (.lcmp, 1) := by decide +kernel
theorem d43_28 : decode jdk_17_method_21_code 28 = .ok (.ifCond .eq 15, 3) := by decide +kernel
theorem d43_31 : decode jdk_17_method_21_code 31 = .ok (.new 3, 3) := by decide +kernel
theorem d43_34 : decode jdk_17_method_21_code 34 = .ok (.dup, 1) := by decide +kernel
theorem d43_35 : decode jdk_17_method_21_code 35 = .ok (.aconst_null, 1) := by decide +kernel
theorem d43_36 : decode jdk_17_method_21_code 36 = .ok (.lload_n 0, 1) := by decide +kernel
theorem d43_37 : decode jdk_17_method_21_code 37 = .ok (.iconst 0, 1) := by decide +kernel
theorem d43_38 : decode jdk_17_method_21_code 38 = .ok (.iconst 0, 1) := by decide +kernel
theorem d43_39 : decode jdk_17_method_21_code 39 = .ok (.invokespecial 243, 3) := by decide +kernel
theorem d43_42 : decode jdk_17_method_21_code 42 = .ok (.areturn, 1) := by decide +kernel
theorem d44_0 : decode jdk_17_method_31_code 0 = .ok (.aload_n 0, 1) := by decide +kernel
theorem d44_1 : decode jdk_17_method_31_code 1 = .ok (.aload_n 0, 1) := by decide +kernel
theorem d44_2 : decode jdk_17_method_31_code 2 = .ok (.getfield 17, 3) := by decide +kernel
theorem d44_5 : decode jdk_17_method_31_code 5 = .ok (.i2l, 1) := by decide +kernel
theorem d44_6 : decode jdk_17_method_31_code 6 = .ok (.aload_n 1, 1) := by decide +kernel
theorem d44_7 : decode jdk_17_method_31_code 7 = .ok (.getfield 17, 3) := by decide +kernel
theorem d44_10 : decode jdk_17_method_31_code 10 = .ok (.i2l, 1) := by decide +kernel
theorem d44_11 : decode jdk_17_method_31_code 11 = .ok (.ladd, 1) := by decide +kernel
theorem d44_12 : decode jdk_17_method_31_code 12 = .ok (.invokevirtual 325, 3) := by decide +kernel
theorem d44_15 : decode jdk_17_method_31_code 15 = .ok (.istore_n 2, 1) := by decide +kernel
theorem d44_16 : decode jdk_17_method_31_code 16 = .ok (.aload_n 0, 1) := by decide +kernel
theorem d44_17 : decode jdk_17_method_31_code 17 = .ok (.getfield 24, 3) := by decide +kernel
theorem d44_20 : decode jdk_17_method_31_code 20 = .ok (.ldc2_w 125, 3) := by decide +kernel
theorem d44_23 : decode jdk_17_method_31_code 23 = .ok (.lcmp, 1) := by decide +kernel
theorem d44_24 : decode jdk_17_method_31_code 24 = .ok (.ifCond .eq 40, 3) := by decide +kernel
theorem d44_27 : decode jdk_17_method_31_code 27 = .ok (.aload_n 1, 1) := by decide +kernel
theorem d44_28 : decode jdk_17_method_31_code 28 = .ok (.getfield 24, 3) := by decide +kernel
theorem d44_31 : decode jdk_17_method_31_code 31 = .ok (.ldc2_w 125, 3) := by decide +kernel
theorem d44_34 : decode jdk_17_method_31_code 34 = .ok (.lcmp, 1) := by decide +kernel
theorem d44_35 : decode jdk_17_method_31_code 35 = .ok (.ifCond .eq 16, 3) := by decide +kernel
theorem d44_38 : decode jdk_17_method_31_code 38 = .ok (.aload_n 0, 1) := by decide +kernel
theorem d44_39 : decode jdk_17_method_31_code 39 = .ok (.getfield 24, 3) := by decide +kernel
theorem d44_42 : decode jdk_17_method_31_code 42 = .ok (.aload_n 1, 1) := by decide +kernel
theorem d44_43 : decode jdk_17_method_31_code 43 = .ok (.getfield 24, 3) := by decide +kernel
theorem d44_46 : decode jdk_17_method_31_code 46 = .ok (.iload_n 2, 1) := by decide +kernel
theorem d44_47 : decode jdk_17_method_31_code 47 = .ok (.invokestatic 342, 3) := by decide +kernel
theorem d44_50 : decode jdk_17_method_31_code 50 = .ok (.areturn, 1) := by decide +kernel
theorem d45_0 : decode jdk_17_method_106_code 0 = .ok (.lload_n 1, 1) := by decide +kernel
theorem d45_1 : decode jdk_17_method_106_code 1 = .ok (.l2i, 1) := by decide +kernel
theorem d45_2 : decode jdk_17_method_106_code 2 = .ok (.istore_n 3, 1) := by decide +kernel
theorem d45_3 : decode jdk_17_method_106_code 3 = .ok (.iload_n 3, 1) := by decide +kernel
theorem d45_4 : decode jdk_17_method_106_code 4 = .ok (.i2l, 1) := by decide +kernel
theorem d45_5 : decode jdk_17_method_106_code 5 = .ok (.lload_n 1, 1) := by decide +kernel
theorem d45_6 : decode jdk_17_method_106_code 6 = .ok (.lcmp, 1) := by decide +kernel
theorem d45_7 : decode jdk_17_method_106_code 7 = .ok (.ifCond .eq 69, 3) := by decide +kernel
theorem d45_76 : decode jdk_17_method_106_code 76 = .ok (.iload_n 3, 1) := by decide +kernel
theorem d45_77 : decode jdk_17_method_106_code 77 = .ok (.ireturn, 1) := by decide +kernel
theorem d46_0 : decode jdk_17_method_157_code 0 = .ok (.lload_n 0, 1) := by decide +kernel
theorem d46_1 : decode jdk_17_method_157_code 1 = .ok (.lload_n 2, 1) := by decide +kernel
theorem d46_2 : decode jdk_17_method_157_code 2 = .ok (.invokestatic 1055, 3) := by decide +kernel
theorem d46_5 : decode jdk_17_method_157_code 5 = .ok (.lstore 5, 2) := by decide +kernel
theorem d46_7 : decode jdk_17_method_157_code 7 = .ok (.lload 5, 2) := by decide +kernel
theorem d46_9 : decode jdk_17_method_157_code 9 = .ok (.ldc2_w 125, 3) := by decide +kernel
theorem d46_12 : decode jdk_17_method_157_code 12 = .ok (.lcmp, 1) := by decide +kernel
theorem d46_13 : decode jdk_17_method_157_code 13 = .ok (.ifCond .eq 11, 3) := by decide +kernel
theorem d46_16 : decode jdk_17_method_157_code 16 = .ok (.lload 5, 2) := by decide +kernel
theorem d46_18 : decode jdk_17_method_157_code 18 = .ok (.iload 4, 2) := by decide +kernel
theorem d46_20 : decode jdk_17_method_157_code 20 = .ok (.invokestatic 328, 3) := by decide +kernel
theorem d46_23 : decode jdk_17_method_157_code 23 = .ok (.areturn, 1) := by decide +kernel
theorem d47_0 : decode jdk_17_method_156_code 0 = .ok (.lload_n 0, 1) := by decide +kernel
theorem d47_1 : decode jdk_17_method_156_code 1 = .ok (.lload_n 2, 1) := by decide +kernel
theorem d47_2 : decode jdk_17_method_156_code 2 = .ok (.lmul, 1) := by decide +kernel
theorem d47_3 : decode jdk_17_method_156_code 3 = .ok (.lstore 4, 2) := by decide +kernel
theorem d47_5 : decode jdk_17_method_156_code 5 = .ok (.lload_n 0, 1) := by decide +kernel
theorem d47_6 : decode jdk_17_method_156_code 6 = .ok (.invokestatic 440, 3) := by decide +kernel
theorem d47_9 : decode jdk_17_method_156_code 9 = .ok (.lstore 6, 2) := by decide +kernel
theorem d47_11 : decode jdk_17_method_156_code 11 = .ok (.lload_n 2, 1) := by decide +kernel
theorem d47_12 : decode jdk_17_method_156_code 12 = .ok (.invokestatic 440, 3) := by decide +kernel
theorem d47_15 : decode jdk_17_method_156_code 15 = .ok (.lstore 8, 2) := by decide +kernel
theorem d47_17 : decode jdk_17_method_156_code 17 = .ok (.lload 6, 2) := by decide +kernel
theorem d47_19 : decode jdk_17_method_156_code 19 = .ok (.lload 8, 2) := by decide +kernel
theorem d47_21 : decode jdk_17_method_156_code 21 = .ok (.lor, 1) := by decide +kernel
theorem d47_22 : decode jdk_17_method_156_code 22 = .ok (.bipush 31, 2) := by decide +kernel
theorem d47_24 : decode jdk_17_method_156_code 24 = .ok (.lushr, 1) := by decide +kernel
theorem d47_25 : decode jdk_17_method_156_code 25 = .ok (.lconst 0, 1) := by decide +kernel
theorem d47_26 : decode jdk_17_method_156_code 26 = .ok (.lcmp, 1) := by decide +kernel
theorem d47_27 : decode jdk_17_method_156_code 27 = .ok (.ifCond .eq 18, 3) := by decide +kernel
theorem d47_45 : decode jdk_17_method_156_code 45 = .ok (.lload 4, 2) := by decide +kernel
theorem d47_47 : decode jdk_17_method_156_code 47 = .ok (.lreturn, 1) := by decide +kernel
theorem d48_0 : decode jdk_29_method_61_code 0 = .ok (.lload_n 0, 1) := by decide +kernel
theorem d48_1 : decode jdk_29_method_61_code 1 = .ok (.lconst 0, 1) := by decide +kernel
theorem d48_2 : decode jdk_29_method_61_code 2 = .ok (.lcmp, 1) := by decide +kernel
theorem d48_3 : decode jdk_29_method_61_code 3 = .ok (.ifCond .ge 8, 3) := by decide +kernel
theorem d48_6 : decode jdk_29_method_61_code 6 = .ok (.lload_n 0, 1) := by decide +kernel
theorem d48_7 : decode jdk_29_method_61_code 7 = .ok (.lneg, 1) := by decide +kernel
theorem d48_8 : decode jdk_29_method_61_code 8 = .ok (.goto 4, 3) := by decide +kernel
theorem d48_11 : decode jdk_29_method_61_code 11 = .ok (.lload_n 0, 1) := by decide +kernel
theorem d48_12 : decode jdk_29_method_61_code 12 = .ok (.lreturn, 1) := by decide +kernel
theorem d49_0 : decode jdk_17_method_20_code 0 = .ok (.iload_n 2, 1) := by decide +kernel
theorem d49_1 : decode jdk_17_method_20_code 1 = .ok (.ifCond .ne 8, 3) := by decide +kernel
theorem d49_4 : decode jdk_17_method_20_code 4 = .ok (.lload_n 0, 1) := by decide +kernel
theorem d49_5 : decode jdk_17_method_20_code 5 = .ok (.invokestatic 236, 3) := by decide +kernel
theorem d49_8 : decode jdk_17_method_20_code 8 = .ok (.areturn, 1) := by decide +kernel
theorem d50_0 : decode jdk_17_method_26_code 0 = .ok (.aload_n 0, 1) := by decide +kernel
theorem d50_1 : decode jdk_17_method_26_code 1 = .ok (.getfield 24, 3) := by decide +kernel
theorem d50_4 : decode jdk_17_method_26_code 4 = .ok (.ldc2_w 125, 3) := by decide +kernel
theorem d50_7 : decode jdk_17_method_26_code 7 = .ok (.lcmp, 1) := by decide +kernel
theorem d50_8 : decode jdk_17_method_26_code 8 = .ok (.ifCond .eq 54, 3) := by decide +kernel
theorem d50_11 : decode jdk_17_method_26_code 11 = .ok (.aload_n 1, 1) := by decide +kernel
theorem d50_12 : decode jdk_17_method_26_code 12 = .ok (.getfield 24, 3) := by decide +kernel
theorem d50_15 : decode jdk_17_method_26_code 15 = .ok (.ldc2_w 125, 3) := by decide +kernel
theorem d50_18 : decode jdk_17_method_26_code 18 = .ok (.lcmp, 1) := by decide +kernel
theorem d50_19 : decode jdk_17_method_26_code 19 = .ok (.ifCond .eq 23, 3) := by decide +kernel
theorem d50_22 : decode jdk_17_method_26_code 22 = .ok (.aload_n 0, 1) := by decide +kernel
theorem d50_23 : decode jdk_17_method_26_code 23 = .ok (.getfield 24, 3) := by decide +kernel
theorem d50_26 : decode jdk_17_method_26_code 26 = .ok (.aload_n 0, 1) := by decide +kernel
theorem d50_27 : decode jdk_17_method_26_code 27 = .ok (.getfield 17, 3) := by decide +kernel
theorem d50_30 : decode jdk_17_method_26_code 30 = .ok (.aload_n 1, 1) := by decide +kernel
theorem d50_31 : decode jdk_17_method_26_code 31 = .ok (.getfield 24, 3) := by decide +kernel
theorem d50_34 : decode jdk_17_method_26_code 34 = .ok (.aload_n 1, 1) := by decide +kernel
theorem d50_35 : decode jdk_17_method_26_code 35 = .ok (.getfield 17, 3) := by decide +kernel
theorem d50_38 : decode jdk_17_method_26_code 38 = .ok (.invokestatic 257, 3) := by decide +kernel
theorem d50_41 : decode jdk_17_method_26_code 41 = .ok (.areturn, 1) := by decide +kernel
theorem d51_0 : decode jdk_17_method_134_code 0 = .ok (.iload_n 2, 1) := by decide +kernel
theorem d51_1 : decode jdk_17_method_134_code 1 = .ok (.i2l, 1) := by decide +kernel
theorem d51_2 : decode jdk_17_method_134_code 2 = .ok (.iload 5, 2) := by decide +kernel
theorem d51_4 : decode jdk_17_method_134_code 4 = .ok (.i2l, 1) := by decide +kernel
theorem d51_5 : decode jdk_17_method_134_code 5 = .ok (.lsub, 1) := by decide +kernel
theorem d51_6 : decode jdk_17_method_134_code 6 = .ok (.lstore 6, 2) := by decide +kernel
theorem d51_8 : decode jdk_17_method_134_code 8 = .ok (.lload 6, 2) := by decide +kernel
theorem d51_10 : decode jdk_17_method_134_code 10 = .ok (.lconst 0, 1) := by decide +kernel
theorem d51_11 : decode jdk_17_method_134_code 11 = .ok (.lcmp, 1) := by decide +kernel
theorem d51_12 : decode jdk_17_method_134_code 12 = .ok (.ifCond .ne 10, 3) := by decide +kernel
theorem d51_15 : decode jdk_17_method_134_code 15 = .ok (.lload_n 0, 1) := by decide +kernel
theorem d51_16 : decode jdk_17_method_134_code 16 = .ok (.lload_n 3, 1) := by decide +kernel
theorem d51_17 : decode jdk_17_method_134_code 17 = .ok (.iload_n 2, 1) := by decide +kernel
theorem d51_18 : decode jdk_17_method_134_code 18 = .ok (.invokestatic 1000, 3) := by decide +kernel
theorem d51_21 : decode jdk_17_method_134_code 21 = .ok (.areturn, 1) := by decide +kernel
theorem d52_0 : decode jdk_17_method_133_code 0 = .ok (.lload_n 0, 1) := by decide +kernel
theorem d52_1 : decode jdk_17_method_133_code 1 = .ok (.lload_n 2, 1) := by decide +kernel
theorem d52_2 : decode jdk_17_method_133_code 2 = .ok (.invokestatic 996, 3) := by decide +kernel
theorem d52_5 : decode jdk_17_method_133_code 5 = .ok (.lstore 5, 2) := by decide +kernel
theorem d52_7 : decode jdk_17_method_133_code 7 = .ok (.lload 5, 2) := by decide +kernel
theorem d52_9 : decode jdk_17_method_133_code 9 = .ok (.ldc2_w 125, 3) := by decide +kernel
theorem d52_12 : decode jdk_17_method_133_code 12 = .ok (.lcmp, 1) := by decide +kernel
theorem d52_13 : decode jdk_17_method_133_code 13 = .ok (.ifCond .eq 11, 3) := by decide +kernel
theorem d52_16 : decode jdk_17_method_133_code 16 = .ok (.lload 5, 2) := by decide +kernel
theorem d52_18 : decode jdk_17_method_133_code 18 = .ok (.iload 4, 2) := by decide +kernel
theorem d52_20 : decode jdk_17_method_133_code 20 = .ok (.invokestatic 328, 3) := by decide +kernel
theorem d52_23 : decode jdk_17_method_133_code 23 = .ok (.areturn, 1) := by decide +kernel
theorem d53_0 : decode jdk_17_method_132_code 0 = .ok (.lload_n 0, 1) := by decide +kernel
theorem d53_1 : decode jdk_17_method_132_code 1 = .ok (.lload_n 2, 1) := by decide +kernel
theorem d53_2 : decode jdk_17_method_132_code 2 = .ok (.ladd, 1) := by decide +kernel
theorem d53_3 : decode jdk_17_method_132_code 3 = .ok (.lstore 4, 2) := by decide +kernel
theorem d53_5 : decode jdk_17_method_132_code 5 = .ok (.lload 4, 2) := by decide +kernel
theorem d53_7 : decode jdk_17_method_132_code 7 = .ok (.lload_n 0, 1) := by decide +kernel
theorem d53_8 : decode jdk_17_method_132_code 8 = .ok (.lxor, 1) := by decide +kernel
theorem d53_9 : decode jdk_17_method_132_code 9 = .ok (.lload 4, 2) := by decide +kernel
theorem d53_11 : decode jdk_17_method_132_code 11 = .ok (.lload_n 2, 1) := by decide +kernel
theorem d53_12 : decode jdk_17_method_132_code 12 = .ok (.lxor, 1) := by decide +kernel
theorem d53_13 : decode jdk_17_method_132_code 13 = .ok (.land, 1) := by decide +kernel
theorem d53_14 : decode jdk_17_method_132_code 14 = .ok (.lconst 0, 1) := by decide +kernel
theorem d53_15 : decode jdk_17_method_132_code 15 = .ok (.lcmp, 1) := by decide +kernel
theorem d53_16 : decode jdk_17_method_132_code 16 = .ok (.ifCond .lt 6, 3) := by decide +kernel
theorem d53_19 : decode jdk_17_method_132_code 19 = .ok (.lload 4, 2) := by decide +kernel
theorem d53_21 : decode jdk_17_method_132_code 21 = .ok (.lreturn, 1) := by decide +kernel
theorem d54_0 : decode jdk_17_method_70_code 0 = .ok (.aload_n 0, 1) := by decide +kernel
theorem d54_1 : decode jdk_17_method_70_code 1 = .ok (.getfield 17, 3) := by decide +kernel
theorem d54_4 : decode jdk_17_method_70_code 4 = .ok (.aload_n 1, 1) := by decide +kernel
theorem d54_5 : decode jdk_17_method_70_code 5 = .ok (.getfield 17, 3) := by decide +kernel
theorem d54_8 : decode jdk_17_method_70_code 8 = .ok (.if_icmp .ne 55, 3) := by decide +kernel
theorem d54_11 : decode jdk_17_method_70_code 11 = .ok (.aload_n 0, 1) := by decide +kernel
theorem d54_12 : decode jdk_17_method_70_code 12 = .ok (.getfield 24, 3) := by decide +kernel
theorem d54_15 : decode jdk_17_method_70_code 15 = .ok (.lstore_n 2, 1) := by decide +kernel
theorem d54_16 : decode jdk_17_method_70_code 16 = .ok (.aload_n 1, 1) := by decide +kernel
theorem d54_17 : decode jdk_17_method_70_code 17 = .ok (.getfield 24, 3) := by decide +kernel
theorem d54_20 : decode jdk_17_method_70_code 20 = .ok (.lstore 4, 2) := by decide +kernel
theorem d54_22 : decode jdk_17_method_70_code 22 = .ok (.lload_n 2, 1) := by decide +kernel
theorem d54_23 : decode jdk_17_method_70_code 23 = .ok (.ldc2_w 125, 3) := by decide +kernel
theorem d54_26 : decode jdk_17_method_70_code 26 = .ok (.lcmp, 1) := by decide +kernel
theorem d54_27 : decode jdk_17_method_70_code 27 = .ok (.ifCond .eq 36, 3) := by decide +kernel
theorem d54_30 : decode jdk_17_method_70_code 30 = .ok (.lload 4, 2) := by decide +kernel
theorem d54_32 : decode jdk_17_method_70_code 32 = .ok (.ldc2_w 125, 3) := by decide +kernel
theorem d54_35 : decode jdk_17_method_70_code 35 = .ok (.lcmp, 1) := by decide +kernel
theorem d54_36 : decode jdk_17_method_70_code 36 = .ok (.ifCond .eq 27, 3) := by decide +kernel
theorem d54_39 : decode jdk_17_method_70_code 39 = .ok (.lload_n 2, 1) := by decide +kernel
theorem d54_40 : decode jdk_17_method_70_code 40 = .ok (.lload 4, 2) := by decide +kernel
theorem d54_42 : decode jdk_17_method_70_code 42 = .ok (.lcmp, 1) := by decide +kernel
theorem d54_43 : decode jdk_17_method_70_code 43 = .ok (.ifCond .eq 18, 3) := by decide +kernel
theorem d54_46 : decode jdk_17_method_70_code 46 = .ok (.lload_n 2, 1) := by decide +kernel
theorem d54_47 : decode jdk_17_method_70_code 47 = .ok (.lload 4, 2) := by decide +kernel
theorem d54_49 : decode jdk_17_method_70_code 49 = .ok (.lcmp, 1) := by decide +kernel
theorem d54_50 : decode jdk_17_method_70_code 50 = .ok (.ifCond .le 7, 3) := by decide +kernel
theorem d54_53 : decode jdk_17_method_70_code 53 = .ok (.iconst 1, 1) := by decide +kernel
theorem d54_54 : decode jdk_17_method_70_code 54 = .ok (.goto 8, 3) := by decide +kernel
theorem d54_57 : decode jdk_17_method_70_code 57 = .ok (.iconst (-1), 1) := by decide +kernel
theorem d54_58 : decode jdk_17_method_70_code 58 = .ok (.goto 4, 3) := by decide +kernel
theorem d54_61 : decode jdk_17_method_70_code 61 = .ok (.iconst 0, 1) := by decide +kernel
theorem d54_62 : decode jdk_17_method_70_code 62 = .ok (.ireturn, 1) := by decide +kernel
theorem d55_0 : decode jdk_29_method_69_code 0 = .ok (.iload_n 0, 1) := by decide +kernel
theorem d55_1 : decode jdk_29_method_69_code 1 = .ok (.iload_n 1, 1) := by decide +kernel
theorem d55_2 : decode jdk_29_method_69_code 2 = .ok (.if_icmp .gt 7, 3) := by decide +kernel
theorem d55_5 : decode jdk_29_method_69_code 5 = .ok (.iload_n 0, 1) := by decide +kernel
theorem d55_6 : decode jdk_29_method_69_code 6 = .ok (.goto 4, 3) := by decide +kernel
theorem d55_9 : decode jdk_29_method_69_code 9 = .ok (.iload_n 1, 1) := by decide +kernel
theorem d55_10 : decode jdk_29_method_69_code 10 = .ok (.ireturn, 1) := by decide +kernel
theorem d56_0 : decode jdk_29_method_65_code 0 = .ok (.iload_n 0, 1) := by decide +kernel
theorem d56_1 : decode jdk_29_method_65_code 1 = .ok (.iload_n 1, 1) := by decide +kernel
theorem d56_2 : decode jdk_29_method_65_code 2 = .ok (.if_icmp .lt 7, 3) := by decide +kernel
theorem d56_5 : decode jdk_29_method_65_code 5 = .ok (.iload_n 0, 1) := by decide +kernel
theorem d56_6 : decode jdk_29_method_65_code 6 = .ok (.goto 4, 3) := by decide +kernel
theorem d56_9 : decode jdk_29_method_65_code 9 = .ok (.iload_n 1, 1) := by decide +kernel
theorem d56_10 : decode jdk_29_method_65_code 10 = .ok (.ireturn, 1) := by decide +kernel
theorem d57_0 : decode method_5_code 0 = .ok (.aload_n 0, 1) := by decide +kernel
theorem d57_1 : decode method_5_code 1 = .ok (.invokevirtual 31, 3) := by decide +kernel
theorem d57_4 : decode method_5_code 4 = .ok (.bipush 12, 2) := by decide +kernel
theorem d57_6 : decode method_5_code 6 = .ok (.imul, 1) := by decide +kernel
theorem d57_7 : decode method_5_code 7 = .ok (.aload_n 0, 1) := by decide +kernel
theorem d57_8 : decode method_5_code 8 = .ok (.invokevirtual 35, 3) := by decide +kernel
theorem d57_11 : decode method_5_code 11 = .ok (.iadd, 1) := by decide +kernel
theorem d57_12 : decode method_5_code 12 = .ok (.iconst 1, 1) := by decide +kernel
theorem d57_13 : decode method_5_code 13 = .ok (.isub, 1) := by decide +kernel
theorem d57_14 : decode method_5_code 14 = .ok (.ireturn, 1) := by decide +kernel
theorem d58_0 : decode jdk_32_method_3_code 0 = .ok (.new 2, 3) := by decide +kernel
theorem d58_3 : decode jdk_32_method_3_code 3 = .ok (.dup, 1) := by decide +kernel
theorem d58_4 : decode jdk_32_method_3_code 4 = .ok (.aload_n 0, 1) := by decide +kernel
theorem d58_5 : decode jdk_32_method_3_code 5 = .ok (.invokestatic 17, 3) := by decide +kernel
theorem d58_8 : decode jdk_32_method_3_code 8 = .ok (.invokespecial 23, 3) := by decide +kernel
theorem d58_11 : decode jdk_32_method_3_code 11 = .ok (.areturn, 1) := by decide +kernel
theorem d59_0 : decode jdk_31_method_10_code 0 = .ok (.aload_n 0, 1) := by decide +kernel
theorem d59_1 : decode jdk_31_method_10_code 1 = .ok (.ifnonnull 11, 3) := by decide +kernel
theorem d59_12 : decode jdk_31_method_10_code 12 = .ok (.aload_n 0, 1) := by decide +kernel
theorem d59_13 : decode jdk_31_method_10_code 13 = .ok (.areturn, 1) := by decide +kernel
theorem d60_0 : decode jdk_32_method_2_code 0 = .ok (.aload_n 0, 1) := by decide +kernel
theorem d60_1 : decode jdk_32_method_2_code 1 = .ok (.invokespecial 7, 3) := by decide +kernel
theorem d60_4 : decode jdk_32_method_2_code 4 = .ok (.aload_n 0, 1) := by decide +kernel
theorem d60_5 : decode jdk_32_method_2_code 5 = .ok (.aload_n 1, 1) := by decide +kernel
theorem d60_6 : decode jdk_32_method_2_code 6 = .ok (.putfield 13, 3) := by decide +kernel
theorem d60_9 : decode jdk_32_method_2_code 9 = .ok (.return_, 1) := by decide +kernel
theorem d61_0 : decode jdk_32_method_5_code 0 = .ok (.aload_n 0, 1) := by decide +kernel
theorem d61_1 : decode jdk_32_method_5_code 1 = .ok (.getfield 13, 3) := by decide +kernel
theorem d61_4 : decode jdk_32_method_5_code 4 = .ok (.ifnonnull 13, 3) := by decide +kernel
theorem d61_17 : decode jdk_32_method_5_code 17 = .ok (.aload_n 0, 1) := by decide +kernel
theorem d61_18 : decode jdk_32_method_5_code 18 = .ok (.getfield 13, 3) := by decide +kernel
theorem d61_21 : decode jdk_32_method_5_code 21 = .ok (.areturn, 1) := by decide +kernel
theorem d62_0 : decode jdk_2340_method_17_code 0 = .ok (.aload_n 0, 1) := by decide +kernel
theorem d62_1 : decode jdk_2340_method_17_code 1 = .ok (.getfield 150, 3) := by decide +kernel
theorem d62_4 : decode jdk_2340_method_17_code 4 = .ok (.ireturn, 1) := by decide +kernel
theorem d63_0 : decode jdk_2340_method_18_code 0 = .ok (.aload_n 0, 1) := by decide +kernel
theorem d63_1 : decode jdk_2340_method_18_code 1 = .ok (.getfield 154, 3) := by decide +kernel
theorem d63_4 : decode jdk_2340_method_18_code 4 = .ok (.ireturn, 1) := by decide +kernel
theorem d64_0 : decode jdk_17_method_1_code 0 = .ok (.aload_n 0, 1) := by decide +kernel
theorem d64_1 : decode jdk_17_method_1_code 1 = .ok (.invokespecial 11, 3) := by decide +kernel
theorem d64_4 : decode jdk_17_method_1_code 4 = .ok (.aload_n 0, 1) := by decide +kernel
theorem d64_5 : decode jdk_17_method_1_code 5 = .ok (.iload 4, 2) := by decide +kernel
theorem d64_7 : decode jdk_17_method_1_code 7 = .ok (.putfield 17, 3) := by decide +kernel
theorem d64_10 : decode jdk_17_method_1_code 10 = .ok (.aload_n 0, 1) := by decide +kernel
theorem d64_11 : decode jdk_17_method_1_code 11 = .ok (.iload 5, 2) := by decide +kernel
theorem d64_13 : decode jdk_17_method_1_code 13 = .ok (.putfield 21, 3) := by decide +kernel
theorem d64_16 : decode jdk_17_method_1_code 16 = .ok (.aload_n 0, 1) := by decide +kernel
theorem d64_17 : decode jdk_17_method_1_code 17 = .ok (.lload_n 2, 1) := by decide +kernel
theorem d64_18 : decode jdk_17_method_1_code 18 = .ok (.putfield 24, 3) := by decide +kernel
theorem d64_21 : decode jdk_17_method_1_code 21 = .ok (.aload_n 0, 1) := by decide +kernel
theorem d64_22 : decode jdk_17_method_1_code 22 = .ok (.aload_n 1, 1) := by decide +kernel
theorem d64_23 : decode jdk_17_method_1_code 23 = .ok (.putfield 28, 3) := by decide +kernel
theorem d64_26 : decode jdk_17_method_1_code 26 = .ok (.return_, 1) := by decide +kernel
theorem d65_0 : decode jdk_18_method_1_code 0 = .ok (.aload_n 0, 1) := by decide +kernel
theorem d65_1 : decode jdk_18_method_1_code 1 = .ok (.invokespecial 1, 3) := by decide +kernel
theorem d65_4 : decode jdk_18_method_1_code 4 = .ok (.return_, 1) := by decide +kernel
theorem pdo_0 : parseMethodDescriptor "()V" = some ⟨[], none⟩ := by decide +kernel
theorem pdo_1 : parseMethodDescriptor "(Ljava/math/BigInteger;JII)V" = some ⟨[(.object "java/math/BigInteger"), .long, .int, .int], none⟩ := by decide +kernel
theorem pdo_2 : parseMethodDescriptor "(J)Ljava/math/BigDecimal;" = some ⟨[.long], some (.object "java/math/BigDecimal")⟩ := by decide +kernel
theorem pdo_3 : parseMethodDescriptor "(J)J" = some ⟨[.long], some .long⟩ := by decide +kernel
theorem pdo_4 : parseMethodDescriptor "(JJ)J" = some ⟨[.long, .long], some .long⟩ := by decide +kernel
theorem pdo_5 : parseMethodDescriptor "(JI)Ljava/math/BigDecimal;" = some ⟨[.long, .int], some (.object "java/math/BigDecimal")⟩ := by decide +kernel
theorem pdo_6 : parseMethodDescriptor "(J)I" = some ⟨[.long], some .int⟩ := by decide +kernel
theorem pdo_7 : parseMethodDescriptor "(JJI)Ljava/math/BigDecimal;" = some ⟨[.long, .long, .int], some (.object "java/math/BigDecimal")⟩ := by decide +kernel
theorem pdo_8 : parseMethodDescriptor "(JIJI)Ljava/math/BigDecimal;" = some ⟨[.long, .int, .long, .int], some (.object "java/math/BigDecimal")⟩ := by decide +kernel
theorem pdo_9 : parseMethodDescriptor "()J" = some ⟨[], some .long⟩ := by decide +kernel
theorem pdo_10 : parseMethodDescriptor "(J)Z" = some ⟨[.long], some .boolean⟩ := by decide +kernel
theorem pdo_11 : parseMethodDescriptor "()Ljava/time/temporal/ValueRange;" = some ⟨[], some (.object "java/time/temporal/ValueRange")⟩ := by decide +kernel
theorem pdo_12 : parseMethodDescriptor "(JLjava/time/temporal/TemporalField;)J" = some ⟨[.long, (.object "java/time/temporal/TemporalField")], some .long⟩ := by decide +kernel
theorem pdo_13 : parseMethodDescriptor "(Ljava/time/LocalDate;)I" = some ⟨[(.object "java/time/LocalDate")], some .int⟩ := by decide +kernel
theorem pdo_14 : parseMethodDescriptor "(II)V" = some ⟨[.int, .int], none⟩ := by decide +kernel
theorem pdo_15 : parseMethodDescriptor "()I" = some ⟨[], some .int⟩ := by decide +kernel
theorem pdo_16 : parseMethodDescriptor "(I)Ljava/time/Month;" = some ⟨[.int], some (.object "java/time/Month")⟩ := by decide +kernel
theorem pdo_17 : parseMethodDescriptor "()Ljava/time/Month;" = some ⟨[], some (.object "java/time/Month")⟩ := by decide +kernel
theorem pdo_18 : parseMethodDescriptor "()Z" = some ⟨[], some .boolean⟩ := by decide +kernel
theorem pdo_19 : parseMethodDescriptor "(Z)I" = some ⟨[.boolean], some .int⟩ := by decide +kernel
theorem pdo_20 : parseMethodDescriptor "(Ljava/math/BigDecimal;)Ljava/math/BigDecimal;" = some ⟨[(.object "java/math/BigDecimal")], some (.object "java/math/BigDecimal")⟩ := by decide +kernel
theorem pdo_21 : parseMethodDescriptor "(Ljava/math/BigDecimal;)I" = some ⟨[(.object "java/math/BigDecimal")], some .int⟩ := by decide +kernel
theorem pdo_22 : parseMethodDescriptor "(II)Ljava/time/YearMonth;" = some ⟨[.int, .int], some (.object "java/time/YearMonth")⟩ := by decide +kernel
theorem pdo_23 : parseMethodDescriptor "(I)Ljava/time/YearMonth;" = some ⟨[.int], some (.object "java/time/YearMonth")⟩ := by decide +kernel
theorem pdo_24 : parseMethodDescriptor "(I)V" = some ⟨[.int], none⟩ := by decide +kernel
theorem pdo_25 : parseMethodDescriptor "(Ljava/time/chrono/ChronoLocalDate;)Z" = some ⟨[(.object "java/time/chrono/ChronoLocalDate")], some .boolean⟩ := by decide +kernel
theorem pdo_26 : parseMethodDescriptor "(II)I" = some ⟨[.int, .int], some .int⟩ := by decide +kernel
theorem pdo_27 : parseMethodDescriptor "(I)Lcom/example/roomyield/roomyield/NightTally$MonthNights;" = some ⟨[.int], some (.object "com/example/roomyield/roomyield/NightTally$MonthNights")⟩ := by decide +kernel
theorem pdo_28 : parseMethodDescriptor "(JZLjava/math/BigDecimal;Ljava/math/BigDecimal;)V" = some ⟨[.long, .boolean, (.object "java/math/BigDecimal"), (.object "java/math/BigDecimal")], none⟩ := by decide +kernel
theorem pdo_29 : parseMethodDescriptor "(Ljava/lang/Object;)Ljava/lang/Object;" = some ⟨[(.object "java/lang/Object")], some (.object "java/lang/Object")⟩ := by decide +kernel
theorem pdo_30 : parseMethodDescriptor "(Ljava/lang/Object;)V" = some ⟨[(.object "java/lang/Object")], none⟩ := by decide +kernel
theorem pdo_31 : parseMethodDescriptor "(I)J" = some ⟨[.int], some .long⟩ := by decide +kernel
theorem pdo_32 : parseMethodDescriptor "(III)V" = some ⟨[.int, .int, .int], none⟩ := by decide +kernel
theorem pdo_33 : parseMethodDescriptor "(J)Ljava/time/LocalDate;" = some ⟨[.long], some (.object "java/time/LocalDate")⟩ := by decide +kernel
theorem pdo_34 : parseMethodDescriptor "(Ljava/lang/Object;)Ljava/util/Optional;" = some ⟨[(.object "java/lang/Object")], some (.object "java/util/Optional")⟩ := by decide +kernel
theorem pdo_35 : parseMethodDescriptor "()Ljava/util/Optional;" = some ⟨[], some (.object "java/util/Optional")⟩ := by decide +kernel
theorem pdo_36 : parseMethodDescriptor "()Ljava/lang/Object;" = some ⟨[], some (.object "java/lang/Object")⟩ := by decide +kernel
theorem pdo_37 : parseMethodDescriptor "(I)Ljava/math/BigDecimal;" = some ⟨[.int], some (.object "java/math/BigDecimal")⟩ := by decide +kernel
theorem pdo_38 : parseMethodDescriptor "(Ljava/time/LocalDate;Ljava/time/LocalDate;Ljava/math/BigDecimal;Ljava/math/BigDecimal;)V" = some ⟨[(.object "java/time/LocalDate"), (.object "java/time/LocalDate"), (.object "java/math/BigDecimal"), (.object "java/math/BigDecimal")], none⟩ := by decide +kernel
theorem pdo_39 : parseMethodDescriptor "(III)J" = some ⟨[.int, .int, .int], some .long⟩ := by decide +kernel
theorem pno_65 : plainFor (⟨"java/lang/Number", "<init>", "()V"⟩ : MethodName) = true := by first | exact plainFor_of_name (by first | (simp [plainName, overriddenIn]; done) | decide +kernel) | decide +kernel
theorem efo_65 (m : MethodId) (x0 : Addr) : entryFrame m #[.ref x0] 1 = oF m 0 [.val (.ref x0)] [] := by (first | (simp [entryFrame, oF, mkF, argsToLocals, Value.category]; done) | rfl)
set_option maxRecDepth 65536 in
set_option maxHeartbeats 40000000 in
theorem mNUM (l : Launch) (Z : State) (a0 : Array Value) (hw : ∀ d ∈ tables_1, d.before a0 Z = true) (a : Addr) (h0 : Heap) :
    oMeets l Z (⟨"java/lang/Number", "<init>", "()V"⟩ : MethodName) jdk_18_method_1_code 1 none ({ frames := 1, cells := 0, slots := 0, locals := 20 } : Room) #[.ref a] h0 (fun a => h0.size ≤ a) (fun v h => v = none ∧ h = h0) := by
  refine oMeets.of pno_65 (fun _ q => q) (fun E _ q => Nat.le_trans E.1 q) (Ls := [.val (.ref a)]) (fun m => efo_65 m a) ?_
  intro p e s m below meth c C hs
  refine K_aloadN C (pc := 0) d65_0 rfl (by first | rfl | assumption) ?_
  refine K_initO C (pc := 1) (tw380 hw) (tw78 hw) (tw79 hw) d65_1 rfl (by decide) (Nat.le_of_ble_eq_true rfl) ?_
  refine K_return C (pc := 4) d65_4 (by decide) (by decide) (fun _ _ => ⟨rfl, rfl⟩)
theorem pno_64 : plainFor (⟨"java/math/BigDecimal", "<init>", "(Ljava/math/BigInteger;JII)V"⟩ : MethodName) = true := by first | exact plainFor_of_name (by first | (simp [plainName, overriddenIn]; done) | decide +kernel) | decide +kernel
theorem efo_64n (m : MethodId) (x0 : Addr) (x2 : Int64) (x3 : Int32) (x4 : Int32) : entryFrame m #[.ref x0, .null, .long x2, .int x3, .int x4] 6 = oF m 0 [.val (.ref x0), .val .null, .val (.long x2), .second, .val (.int x3), .val (.int x4)] [] := by (first | (simp [entryFrame, oF, mkF, argsToLocals, Value.category]; done) | rfl)
set_option maxRecDepth 65536 in
set_option maxHeartbeats 40000000 in
theorem mBDI (l : Launch) (Z : State) (a0 : Array Value) (hw : ∀ d ∈ tables_1, d.before a0 Z = true) (a : Addr) (x : Int64) (h0 : Heap) (hya : Z.heap.size ≤ a) (X : Exa Z h0 a "java/math/BigDecimal") (FA : Fld Z h0 a "java/math/BigDecimal" "scale" "I" (.int 0)) (FB : Fld Z h0 a "java/math/BigDecimal" "precision" "I" (.int 0)) (FC : Fld Z h0 a "java/math/BigDecimal" "intCompact" "J" (.long 0)) (FV : Fld Z h0 a "java/math/BigDecimal" "intVal" "Ljava/math/BigInteger;" .null) :
    oMeets l Z (⟨"java/math/BigDecimal", "<init>", "(Ljava/math/BigInteger;JII)V"⟩ : MethodName) jdk_17_method_1_code 6 none ({ frames := 2, cells := 0, slots := 0, locals := 40 } : Room) #[.ref a, .null, .long x, .int 0, .int 0] h0 (fun x => x = a ∨ h0.size ≤ x) (fun v h => v = none ∧ oBD Z h a x) := by
  refine oMeets.of pno_64 (fun _ q => Or.inr q) (fun E x q => q.elim (fun r => r ▸ hya) (fun r => Nat.le_trans E.1 r)) (Ls := [.val (.ref a), .val .null, .val (.long x), .second, .val (.int 0), .val (.int 0)]) (fun m => efo_64n m a x 0 0) ?_
  intro p e s m below meth c C hs
  refine K_aloadN C (pc := 0) d64_0 rfl (by first | rfl | assumption) ?_
  refine K_special C (pc := 1) (mNUM l Z a0 hw a _) (tw374 hw) (tw375 hw) (tw378 hw) (tw379 hw) rfl (by decide) pdo_0 d64_1 (argsL := []) (rest := _) rfl rfl rfl rfl (fun a q r => C.new a (Nat.le_trans q r)) (by decide) (Nat.le_of_ble_eq_true rfl) (by decide) (by decide) ?_
  rintro _ h8 ⟨rfl, hh⟩ -
  replace hh := hh.symm
  subst hh
  dsimp only [Option.toList, List.cons_append, List.nil_append]
  refine K_aloadN C (pc := 4) d64_4 rfl (by first | rfl | assumption) ?_
  refine K_iload C (pc := 5) d64_5 rfl ?_
  refine K_putF C (pc := 7) (tw284 hw) Via.refl FA X (Or.inr ⟨(tw285 hw), rfl, rfl⟩) (tw369 hw) (ty := .int) (by decide) rfl rfl (Or.inl rfl) d64_7 ?_
  intro h1 W1
  replace FA := Fld.same W1 FA
  replace FB := (Fld.other W1 FB (Or.inr (slot_ne (Or.inl (tw382 hw)) (Or.inr (tw285 hw)) (by decide) (t := .int) (t' := .int) (by decide) (by decide))))
  replace FC := (Fld.other W1 FC (Or.inr (slot_ne (Or.inr (tw262 hw)) (Or.inr (tw285 hw)) (by decide) (t := .long) (t' := .int) (by decide) (by decide))))
  replace FV := (Fld.other W1 FV (Or.inr (slot_ne (Or.inr (tw384 hw)) (Or.inr (tw285 hw)) (by decide) (t := (.object "java/math/BigInteger")) (t' := .int) (by decide) (by decide))))
  replace X := X.wr W1
  refine K_aloadN C (pc := 10) d64_10 rfl (by first | rfl | assumption) ?_
  refine K_iload C (pc := 11) d64_11 rfl ?_
  refine K_putF C (pc := 13) (tw381 hw) Via.refl FB X (Or.inl (tw382 hw)) (tw369 hw) (ty := .int) (by decide) rfl rfl (Or.inl rfl) d64_13 ?_
  intro h2 W2
  replace FA := (Fld.other W2 FA (Or.inr (slot_ne (Or.inr (tw285 hw)) (Or.inl (tw382 hw)) (by decide) (t := .int) (t' := .int) (by decide) (by decide))))
  replace FB := Fld.same W2 FB
  replace FC := (Fld.other W2 FC (Or.inr (slot_ne (Or.inr (tw262 hw)) (Or.inl (tw382 hw)) (by decide) (t := .long) (t' := .int) (by decide) (by decide))))
  replace FV := (Fld.other W2 FV (Or.inr (slot_ne (Or.inr (tw384 hw)) (Or.inl (tw382 hw)) (by decide) (t := (.object "java/math/BigInteger")) (t' := .int) (by decide) (by decide))))
  replace X := X.wr W2
  refine K_aloadN C (pc := 16) d64_16 rfl (by first | rfl | assumption) ?_
  refine K_lloadN C (pc := 17) d64_17 rfl ?_
  refine K_putF C (pc := 18) (tw261 hw) Via.refl FC X (Or.inr ⟨(tw262 hw), rfl, rfl⟩) (tw369 hw) (ty := .long) (by decide) rfl rfl (Or.inl rfl) d64_18 ?_
  intro h3 W3
  replace FA := (Fld.other W3 FA (Or.inr (slot_ne (Or.inr (tw285 hw)) (Or.inr (tw262 hw)) (by decide) (t := .int) (t' := .long) (by decide) (by decide))))
  replace FB := (Fld.other W3 FB (Or.inr (slot_ne (Or.inl (tw382 hw)) (Or.inr (tw262 hw)) (by decide) (t := .int) (t' := .long) (by decide) (by decide))))
  replace FC := Fld.same W3 FC
  replace FV := (Fld.other W3 FV (Or.inr (slot_ne (Or.inr (tw384 hw)) (Or.inr (tw262 hw)) (by decide) (t := (.object "java/math/BigInteger")) (t' := .long) (by decide) (by decide))))
  replace X := X.wr W3
  refine K_aloadN C (pc := 21) d64_21 rfl (by first | rfl | assumption) ?_
  refine K_aloadN C (pc := 22) d64_22 rfl (by first | rfl | assumption) ?_
  refine K_putF C (pc := 23) (tw383 hw) Via.refl FV X (Or.inr ⟨(tw384 hw), rfl, rfl⟩) (tw369 hw) (ty := (.object "java/math/BigInteger")) (by decide) rfl rfl (Or.inl rfl) d64_23 ?_
  intro h4 W4
  replace FA := (Fld.other W4 FA (Or.inr (slot_ne (Or.inr (tw285 hw)) (Or.inr (tw384 hw)) (by decide) (t := .int) (t' := (.object "java/math/BigInteger")) (by decide) (by decide))))
  replace FB := (Fld.other W4 FB (Or.inr (slot_ne (Or.inl (tw382 hw)) (Or.inr (tw384 hw)) (by decide) (t := .int) (t' := (.object "java/math/BigInteger")) (by decide) (by decide))))
  replace FC := (Fld.other W4 FC (Or.inr (slot_ne (Or.inr (tw262 hw)) (Or.inr (tw384 hw)) (by decide) (t := .long) (t' := (.object "java/math/BigInteger")) (by decide) (by decide))))
  replace FV := Fld.same W4 FV
  replace X := X.wr W4
  refine K_return C (pc := 26) d64_26 (by decide) (by decide) (fun _ _ => ⟨rfl, X, FA, FC⟩)
theorem own_l2i {i : Nat} (h : i < 11) : (Int64.ofNat i).toInt32.toInt = (i : Int) := by
  have : ∀ i, i < 11 → (Int64.ofNat i).toInt32.toInt = (i : Int) := by decide +kernel
  exact this i h
theorem pno_43 : plainFor (⟨"java/math/BigDecimal", "valueOf", "(J)Ljava/math/BigDecimal;"⟩ : MethodName) = true := by first | exact plainFor_of_name (by first | (simp [plainName, overriddenIn]; done) | decide +kernel) | decide +kernel
theorem efo_43 (m : MethodId) (x0 : Int64) : entryFrame m #[.long x0] 2 = oF m 0 [.val (.long x0), .second] [] := by (first | (simp [entryFrame, oF, mkF, argsToLocals, Value.category]; done) | rfl)
set_option maxRecDepth 65536 in
set_option maxHeartbeats 40000000 in
theorem mV (l : Launch) (Z : State) (a0 : Array Value) (hw : ∀ d ∈ tables_1, d.before a0 Z = true) (W : oSt Z) (x : Int64) (h0 : Heap) (hx : oSm 100000 x) :
    oMeets l Z (⟨"java/math/BigDecimal", "valueOf", "(J)Ljava/math/BigDecimal;"⟩ : MethodName) jdk_17_method_21_code 2 (some (.object "java/math/BigDecimal")) ({ frames := 3, cells := 1, slots := 5, locals := 70 } : Room) #[.long x] h0 (fun a => h0.size ≤ a) (fun v h => ∃ a, v = some (.ref a) ∧ oBD Z h a x) := by
  refine oMeets.of pno_43 (fun _ q => q) (fun E _ q => Nat.le_trans E.1 q) (Ls := [.val (.long x), .second]) (fun m => efo_43 m x) ?_
  intro p e s m below meth c C hs
  refine K_old C (fun hE hle _ => ?_)
  obtain ⟨za, vs, hS, A, hvl, hvs⟩ := W.ztt
  replace A := A.ext hE
  refine K_lloadN C (pc := 0) d43_0 rfl ?_
  refine K_lconst C (pc := 1) 0 d43_1 (by decide) ?_
  refine K_lcmp C (pc := 2) d43_2 ?_
  refine K_if C (pc := 3) 23 d43_3 (by decide) (by decide) (fun hc3 => ?_) (fun hc3 => ?_)
  · simp only [oC, Classical.not_not] at hc3
    refine K_lloadN C (pc := 23) d43_23 rfl ?_
    refine K_ldc2J C (pc := 24) (tw263 hw) d43_24 ?_
    refine K_lcmp C (pc := 27) d43_27 ?_
    refine K_if C (pc := 28) 43 d43_28 (by decide) (by decide) (fun hc28 => ?_) (fun hc28 => ?_)
    · simp only [oC, Classical.not_not] at hc28
      exact absurd (own_ceq.mp hc28) (hx.ne (by decide))
    · simp only [oC, Classical.not_not] at hc28
      refine K_new C (pc := 31) (tw368 hw) (tw369 hw) (tw125 hw) d43_31 (by decide) (by decide) ?_
      intro h1 a ha hPa E1 X1 D1
      have FA := D1 (Or.inr (tw285 hw)) (ty := .int) (by decide)
      have FB := D1 (Or.inl (tw382 hw)) (ty := .int) (by decide)
      have FC := D1 (Or.inr (tw262 hw)) (ty := .long) (by decide)
      have FV := D1 (Or.inr (tw384 hw)) (ty := (.object "java/math/BigInteger")) (by decide)
      refine K_dup C (pc := 34) d43_34 rfl ?_
      refine K_aconst_null C (pc := 35) d43_35 ?_
      refine K_lloadN C (pc := 36) d43_36 rfl ?_
      refine K_iconst C (pc := 37) 0 d43_37 (by decide) ?_
      refine K_iconst C (pc := 38) 0 d43_38 (by decide) ?_
      refine K_special C (pc := 39) (mBDI l Z a0 hw a x _ (C.young a hPa) X1 FA FB FC FV) (tw370 hw) (tw371 hw) (tw125 hw) (tw373 hw) rfl (by decide) pdo_1 d43_39 (argsL := [_, _, _, _]) (rest := _) rfl rfl rfl rfl (fun x q r => r.elim (fun z => z ▸ hPa) (fun z => C.new x (Nat.le_trans q z))) (by decide) (Nat.le_of_ble_eq_true rfl) (by decide) (by decide) ?_
      rintro _ h2 ⟨rfl, F2⟩ -
      dsimp only [Option.toList, List.cons_append, List.nil_append]
      refine K_areturn C (pc := 42) d43_42 rfl rfl rfl (by decide) (by decide) (fun _ _ => ⟨_, rfl, F2⟩)
  · simp only [oC, Classical.not_not] at hc3
    refine K_lloadN C (pc := 6) d43_6 rfl ?_
    refine K_getS C (pc := 7) (tw276 hw) Via.refl hS d43_7 ?_
    refine K_alen2 C (pc := 10) A d43_10 ?_
    rw [hvl]
    refine K_i2l C (pc := 11) d43_11 ?_
    refine K_lcmp C (pc := 12) d43_12 ?_
    refine K_if C (pc := 13) 23 d43_13 (by decide) (by decide) (fun hc13 => ?_) (fun hc13 => ?_)
    · simp only [oC, Classical.not_not] at hc13
      refine K_lloadN C (pc := 23) d43_23 rfl ?_
      refine K_ldc2J C (pc := 24) (tw263 hw) d43_24 ?_
      refine K_lcmp C (pc := 27) d43_27 ?_
      refine K_if C (pc := 28) 43 d43_28 (by decide) (by decide) (fun hc28 => ?_) (fun hc28 => ?_)
      · simp only [oC, Classical.not_not] at hc28
        exact absurd (own_ceq.mp hc28) (hx.ne (by decide))
      · simp only [oC, Classical.not_not] at hc28
        refine K_new C (pc := 31) (tw368 hw) (tw369 hw) (tw125 hw) d43_31 (by decide) (by decide) ?_
        intro h1 a ha hPa E1 X1 D1
        have FA := D1 (Or.inr (tw285 hw)) (ty := .int) (by decide)
        have FB := D1 (Or.inl (tw382 hw)) (ty := .int) (by decide)
        have FC := D1 (Or.inr (tw262 hw)) (ty := .long) (by decide)
        have FV := D1 (Or.inr (tw384 hw)) (ty := (.object "java/math/BigInteger")) (by decide)
        refine K_dup C (pc := 34) d43_34 rfl ?_
        refine K_aconst_null C (pc := 35) d43_35 ?_
        refine K_lloadN C (pc := 36) d43_36 rfl ?_
        refine K_iconst C (pc := 37) 0 d43_37 (by decide) ?_
        refine K_iconst C (pc := 38) 0 d43_38 (by decide) ?_
        refine K_special C (pc := 39) (mBDI l Z a0 hw a x _ (C.young a hPa) X1 FA FB FC FV) (tw370 hw) (tw371 hw) (tw125 hw) (tw373 hw) rfl (by decide) pdo_1 d43_39 (argsL := [_, _, _, _]) (rest := _) rfl rfl rfl rfl (fun x q r => r.elim (fun z => z ▸ hPa) (fun z => C.new x (Nat.le_trans q z))) (by decide) (Nat.le_of_ble_eq_true rfl) (by decide) (by decide) ?_
        rintro _ h2 ⟨rfl, F2⟩ -
        dsimp only [Option.toList, List.cons_append, List.nil_append]
        refine K_areturn C (pc := 42) d43_42 rfl rfl rfl (by decide) (by decide) (fun _ _ => ⟨_, rfl, F2⟩)
    · simp only [oC, Classical.not_not] at hc13
      have hx0 : 0 ≤ x.toInt := by
        have this : ¬ x < 0 := fun z => hc3 (own_clt.mpr z)
        rw [Int64.lt_iff_toInt_lt, show (0 : Int64).toInt = 0 from rfl] at this
        omega
      have hx1 : x.toInt < 11 := by
        have := own_clt.mp hc13
        rw [Int64.lt_iff_toInt_lt, show (Int32.ofNat 11).toInt64.toInt = 11 by decide] at this
        omega
      obtain ⟨i, hi, rfl⟩ : ∃ i : Nat, i < 11 ∧ x = Int64.ofNat i := ⟨x.toInt.toNat, by omega, Int64.toInt_inj.mp (by rw [Int64.toInt_ofNat_of_lt (by omega)]; omega)⟩
      obtain ⟨b, hb, Fb⟩ := hvs i hi
      refine K_getS C (pc := 16) (tw276 hw) Via.refl hS d43_16 ?_
      refine K_lloadN C (pc := 19) d43_19 rfl ?_
      refine K_l2i C (pc := 20) d43_20 ?_
      refine K_aaload2 C (pc := 21) i A rfl (own_l2i hi) hb d43_21 ?_
      refine K_areturn C (pc := 22) d43_22 rfl rfl rfl (by decide) (by decide) (fun _ _ => ⟨_, rfl, Fb.ext hE⟩)
theorem pno_49 : plainFor (⟨"java/math/BigDecimal", "valueOf", "(JI)Ljava/math/BigDecimal;"⟩ : MethodName) = true := by first | exact plainFor_of_name (by first | (simp [plainName, overriddenIn]; done) | decide +kernel) | decide +kernel
theorem efo_49 (m : MethodId) (x0 : Int64) (x1 : Int32) : entryFrame m #[.long x0, .int x1] 3 = oF m 0 [.val (.long x0), .second, .val (.int x1)] [] := by (first | (simp [entryFrame, oF, mkF, argsToLocals, Value.category]; done) | rfl)
set_option maxRecDepth 65536 in
set_option maxHeartbeats 40000000 in
theorem mVI (l : Launch) (Z : State) (a0 : Array Value) (hw : ∀ d ∈ tables_1, d.before a0 Z = true) (W : oSt Z) (x : Int64) (h0 : Heap) (hx : oSm 100000 x) :
    oMeets l Z (⟨"java/math/BigDecimal", "valueOf", "(JI)Ljava/math/BigDecimal;"⟩ : MethodName) jdk_17_method_20_code 3 (some (.object "java/math/BigDecimal")) ({ frames := 4, cells := 1, slots := 5, locals := 90 } : Room) #[.long x, .int 0] h0 (fun a => h0.size ≤ a) (fun v h => ∃ a, v = some (.ref a) ∧ oBD Z h a x) := by
  refine oMeets.of pno_49 (fun _ q => q) (fun E _ q => Nat.le_trans E.1 q) (Ls := [.val (.long x), .second, .val (.int 0)]) (fun m => efo_49 m x 0) ?_
  intro p e s m below meth c C hs
  refine K_iloadN C (pc := 0) d49_0 rfl ?_
  refine K_if C (pc := 1) 9 d49_1 (by decide) (by decide) (fun hc1 => ?_) (fun hc1 => ?_)
  · simp only [oC, Classical.not_not] at hc1
    exact False.elim (hc1 (by simp))
  · simp only [oC, Classical.not_not] at hc1
    refine K_lloadN C (pc := 4) d49_4 rfl ?_
    refine K_static C (pc := 5) (mV l Z a0 hw W x _ hx) (tw303 hw) (tw274 hw) (tw125 hw) (tw275 hw) (by decide) pdo_2 d49_5 (argsL := [_]) (rest := _) rfl rfl rfl rfl (fun a q r => C.new a (Nat.le_trans q r)) (by decide) (Nat.le_of_ble_eq_true rfl) (by decide) (by decide) ?_
    rintro _ h2 ⟨a, rfl, F2⟩ -
    dsimp only [Option.toList, List.cons_append, List.nil_append]
    refine K_areturn C (pc := 8) d49_8 rfl rfl rfl (by decide) (by decide) (fun _ _ => ⟨_, rfl, F2⟩)
theorem pno_48 : plainFor (⟨"java/lang/Math", "abs", "(J)J"⟩ : MethodName) = true := by first | exact plainFor_of_name (by first | (simp [plainName, overriddenIn]; done) | decide +kernel) | decide +kernel
theorem efo_48 (m : MethodId) (x0 : Int64) : entryFrame m #[.long x0] 2 = oF m 0 [.val (.long x0), .second] [] := by (first | (simp [entryFrame, oF, mkF, argsToLocals, Value.category]; done) | rfl)
set_option maxRecDepth 65536 in
set_option maxHeartbeats 40000000 in
theorem mABS (l : Launch) (Z : State) (a0 : Array Value) (hw : ∀ d ∈ tables_1, d.before a0 Z = true) (x : Int64) (h0 : Heap) (hx : oSm 1000000 x) :
    oMeets l Z (⟨"java/lang/Math", "abs", "(J)J"⟩ : MethodName) jdk_29_method_61_code 2 (some .long) ({ frames := 0, cells := 0, slots := 0, locals := 0 } : Room) #[.long x] h0 (fun a => h0.size ≤ a) (fun v h => ∃ z : Int64, v = some (.long z) ∧ h = h0 ∧ 0 ≤ z.toInt ∧ z.toInt ≤ 1000000) := by
  refine oMeets.of pno_48 (fun _ q => q) (fun E _ q => Nat.le_trans E.1 q) (Ls := [.val (.long x), .second]) (fun m => efo_48 m x) ?_
  intro p e s m below meth c C hs
  refine K_lloadN C (pc := 0) d48_0 rfl ?_
  refine K_lconst C (pc := 1) 0 d48_1 (by decide) ?_
  refine K_lcmp C (pc := 2) d48_2 ?_
  refine K_if C (pc := 3) 11 d48_3 (by decide) (by decide) (fun hc3 => ?_) (fun hc3 => ?_)
  · simp only [oC, Classical.not_not] at hc3
    refine K_lloadN C (pc := 11) d48_11 rfl ?_
    have hx0 : 0 ≤ x.toInt := by
      have this : ¬ x < 0 := fun z => hc3 (own_clt.mpr z)
      rw [Int64.lt_iff_toInt_lt, show (0 : Int64).toInt = 0 from rfl] at this
      omega
    refine K_lreturn C (pc := 12) d48_12 (by decide) (by decide) (fun _ _ => ⟨x, rfl, rfl, hx0, by have := hx.2; omega⟩)
  · simp only [oC, Classical.not_not] at hc3
    refine K_lloadN C (pc := 6) d48_6 rfl ?_
    refine K_lneg C (pc := 7) d48_7 ?_
    refine K_goto C (pc := 8) 12 d48_8 (by decide) (by decide) ?_
    have hx0 : x.toInt < 0 := by
      have := own_clt.mp hc3
      rwa [Int64.lt_iff_toInt_lt, show (0 : Int64).toInt = 0 from rfl] at this
    have hab := own_abs hx (by decide)
    refine K_lreturn C (pc := 12) d48_12 (by decide) (by decide) (fun _ _ => ⟨-x, rfl, rfl, by rw [hab]; omega, by rw [hab]; have := hx.1; omega⟩)
theorem pno_47 : plainFor (⟨"java/math/BigDecimal", "multiply", "(JJ)J"⟩ : MethodName) = true := by first | exact plainFor_of_name (by first | (simp [plainName, overriddenIn]; done) | decide +kernel) | decide +kernel
theorem efo_47 (m : MethodId) (x0 : Int64) (x1 : Int64) : entryFrame m #[.long x0, .long x1] 10 = oF m 0 [.val (.long x0), .second, .val (.long x1), .second, .unset, .unset, .unset, .unset, .unset, .unset] [] := by (first | (simp [entryFrame, oF, mkF, argsToLocals, Value.category]; done) | rfl)
set_option maxRecDepth 65536 in
set_option maxHeartbeats 40000000 in
theorem mMULL (l : Launch) (Z : State) (a0 : Array Value) (hw : ∀ d ∈ tables_1, d.before a0 Z = true) (x w : Int64) (h0 : Heap) (hx : oSm 100000 x) (hz : oSm 100000 w) :
    oMeets l Z (⟨"java/math/BigDecimal", "multiply", "(JJ)J"⟩ : MethodName) jdk_17_method_156_code 10 (some .long) ({ frames := 1, cells := 0, slots := 0, locals := 20 } : Room) #[.long x, .long w] h0 (fun a => h0.size ≤ a) (fun v h => v = some (.long (x * w)) ∧ h = h0) := by
  refine oMeets.of pno_47 (fun _ q => q) (fun E _ q => Nat.le_trans E.1 q) (Ls := [.val (.long x), .second, .val (.long w), .second, .unset, .unset, .unset, .unset, .unset, .unset]) (fun m => efo_47 m x w) ?_
  intro p e s m below meth c C hs
  refine K_lloadN C (pc := 0) d47_0 rfl ?_
  refine K_lloadN C (pc := 1) d47_1 rfl ?_
  refine K_lmul C (pc := 2) d47_2 ?_
  refine K_lstore C (pc := 3) (Ls' := [_, _, _, _, _, _, _, _, _, _]) d47_3 rfl ?_
  refine K_lloadN C (pc := 5) d47_5 rfl ?_
  refine K_static C (pc := 6) (mABS l Z a0 hw x _ (hx.mono (by decide))) (tw297 hw) (tw298 hw) (tw11 hw) (tw299 hw) (by decide) pdo_3 d47_6 (argsL := [_]) (rest := _) rfl rfl rfl rfl (fun a q r => C.new a (Nat.le_trans q r)) (by decide) (Nat.le_of_ble_eq_true rfl) (by decide) (by decide) ?_
  rintro _ h8 ⟨z1, rfl, hh, ha1, ha2⟩ -
  replace hh := hh.symm
  subst hh
  dsimp only [Option.toList, List.cons_append, List.nil_append]
  refine K_lstore C (pc := 9) (Ls' := [_, _, _, _, _, _, _, _, _, _]) d47_9 rfl ?_
  refine K_lloadN C (pc := 11) d47_11 rfl ?_
  refine K_static C (pc := 12) (mABS l Z a0 hw w _ (hz.mono (by decide))) (tw297 hw) (tw298 hw) (tw11 hw) (tw299 hw) (by decide) pdo_3 d47_12 (argsL := [_]) (rest := _) rfl rfl rfl rfl (fun a q r => C.new a (Nat.le_trans q r)) (by decide) (Nat.le_of_ble_eq_true rfl) (by decide) (by decide) ?_
  rintro _ h8 ⟨z2, rfl, hh, hb1, hb2⟩ -
  replace hh := hh.symm
  subst hh
  dsimp only [Option.toList, List.cons_append, List.nil_append]
  refine K_lstore C (pc := 15) (Ls' := [_, _, _, _, _, _, _, _, _, _]) d47_15 rfl ?_
  refine K_lload C (pc := 17) d47_17 rfl ?_
  refine K_lload C (pc := 19) d47_19 rfl ?_
  refine K_lor C (pc := 21) d47_21 ?_
  refine K_bipush C (pc := 22) 31 d47_22 (by decide) ?_
  refine K_lushr C (pc := 24) d47_24 ?_
  refine K_lconst C (pc := 25) 0 d47_25 (by decide) ?_
  refine K_lcmp C (pc := 26) d47_26 ?_
  refine K_if C (pc := 27) 45 d47_27 (by decide) (by decide) (fun hc27 => ?_) (fun hc27 => ?_)
  · simp only [oC, Classical.not_not] at hc27
    refine K_lload C (pc := 45) d47_45 rfl ?_
    refine K_lreturn C (pc := 47) d47_47 (by decide) (by decide) (fun _ _ => ⟨rfl, rfl⟩)
  · simp only [oC, Classical.not_not] at hc27
    exact absurd (own_ceq.mpr (own_or31 ha1 ha2 hb1 hb2)) hc27
theorem pno_53 : plainFor (⟨"java/math/BigDecimal", "add", "(JJ)J"⟩ : MethodName) = true := by first | exact plainFor_of_name (by first | (simp [plainName, overriddenIn]; done) | decide +kernel) | decide +kernel
theorem efo_53 (m : MethodId) (x0 : Int64) (x1 : Int64) : entryFrame m #[.long x0, .long x1] 6 = oF m 0 [.val (.long x0), .second, .val (.long x1), .second, .unset, .unset] [] := by (first | (simp [entryFrame, oF, mkF, argsToLocals, Value.category]; done) | rfl)
set_option maxRecDepth 65536 in
set_option maxHeartbeats 40000000 in
theorem mADDL (l : Launch) (Z : State) (a0 : Array Value) (hw : ∀ d ∈ tables_1, d.before a0 Z = true) (x w : Int64) (h0 : Heap) (hx : oSm 100000 x) (hz : oSm 100000 w) :
    oMeets l Z (⟨"java/math/BigDecimal", "add", "(JJ)J"⟩ : MethodName) jdk_17_method_132_code 6 (some .long) ({ frames := 0, cells := 0, slots := 0, locals := 0 } : Room) #[.long x, .long w] h0 (fun a => h0.size ≤ a) (fun v h => v = some (.long (x + w)) ∧ h = h0) := by
  refine oMeets.of pno_53 (fun _ q => q) (fun E _ q => Nat.le_trans E.1 q) (Ls := [.val (.long x), .second, .val (.long w), .second, .unset, .unset]) (fun m => efo_53 m x w) ?_
  intro p e s m below meth c C hs
  refine K_lloadN C (pc := 0) d53_0 rfl ?_
  refine K_lloadN C (pc := 1) d53_1 rfl ?_
  refine K_ladd C (pc := 2) d53_2 ?_
  refine K_lstore C (pc := 3) (Ls' := [_, _, _, _, _, _]) d53_3 rfl ?_
  refine K_lload C (pc := 5) d53_5 rfl ?_
  refine K_lloadN C (pc := 7) d53_7 rfl ?_
  refine K_lxor C (pc := 8) d53_8 ?_
  refine K_lload C (pc := 9) d53_9 rfl ?_
  refine K_lloadN C (pc := 11) d53_11 rfl ?_
  refine K_lxor C (pc := 12) d53_12 ?_
  refine K_land C (pc := 13) d53_13 ?_
  refine K_lconst C (pc := 14) 0 d53_14 (by decide) ?_
  refine K_lcmp C (pc := 15) d53_15 ?_
  refine K_if C (pc := 16) 22 d53_16 (by decide) (by decide) (fun hc16 => ?_) (fun hc16 => ?_)
  · simp only [oC, Classical.not_not] at hc16
    exact absurd (own_clt.mp hc16) (hx.ovf hz (by decide) (by decide))
  · simp only [oC, Classical.not_not] at hc16
    refine K_lload C (pc := 19) d53_19 rfl ?_
    refine K_lreturn C (pc := 21) d53_21 (by decide) (by decide) (fun _ _ => ⟨rfl, rfl⟩)
theorem pno_46 : plainFor (⟨"java/math/BigDecimal", "multiply", "(JJI)Ljava/math/BigDecimal;"⟩ : MethodName) = true := by first | exact plainFor_of_name (by first | (simp [plainName, overriddenIn]; done) | decide +kernel) | decide +kernel
theorem efo_46 (m : MethodId) (x0 : Int64) (x1 : Int64) (x2 : Int32) : entryFrame m #[.long x0, .long x1, .int x2] 7 = oF m 0 [.val (.long x0), .second, .val (.long x1), .second, .val (.int x2), .unset, .unset] [] := by (first | (simp [entryFrame, oF, mkF, argsToLocals, Value.category]; done) | rfl)
set_option maxRecDepth 65536 in
set_option maxHeartbeats 40000000 in
theorem mMUL3 (l : Launch) (Z : State) (a0 : Array Value) (hw : ∀ d ∈ tables_1, d.before a0 Z = true) (W : oSt Z) (x w : Int64) (h0 : Heap) (hx : oSm 100000 x) (hz : oSm 100000 w) (hp : oSm 100000 (x * w)) :
    oMeets l Z (⟨"java/math/BigDecimal", "multiply", "(JJI)Ljava/math/BigDecimal;"⟩ : MethodName) jdk_17_method_157_code 7 (some (.object "java/math/BigDecimal")) ({ frames := 5, cells := 1, slots := 5, locals := 130 } : Room) #[.long x, .long w, .int 0] h0 (fun a => h0.size ≤ a) (fun v h => ∃ a, v = some (.ref a) ∧ oBD Z h a (x * w)) := by
  refine oMeets.of pno_46 (fun _ q => q) (fun E _ q => Nat.le_trans E.1 q) (Ls := [.val (.long x), .second, .val (.long w), .second, .val (.int 0), .unset, .unset]) (fun m => efo_46 m x w 0) ?_
  intro p e s m below meth c C hs
  refine K_lloadN C (pc := 0) d46_0 rfl ?_
  refine K_lloadN C (pc := 1) d46_1 rfl ?_
  refine K_static C (pc := 2) (mMULL l Z a0 hw x w _ hx hz) (tw294 hw) (tw295 hw) (tw125 hw) (tw296 hw) (by decide) pdo_4 d46_2 (argsL := [_, _]) (rest := _) rfl rfl rfl rfl (fun a q r => C.new a (Nat.le_trans q r)) (by decide) (Nat.le_of_ble_eq_true rfl) (by decide) (by decide) ?_
  rintro _ h8 ⟨rfl, hh⟩ -
  replace hh := hh.symm
  subst hh
  dsimp only [Option.toList, List.cons_append, List.nil_append]
  refine K_lstore C (pc := 5) (Ls' := [_, _, _, _, _, _, _]) d46_5 rfl ?_
  refine K_lload C (pc := 7) d46_7 rfl ?_
  refine K_ldc2J C (pc := 9) (tw263 hw) d46_9 ?_
  refine K_lcmp C (pc := 12) d46_12 ?_
  refine K_if C (pc := 13) 24 d46_13 (by decide) (by decide) (fun hc13 => ?_) (fun hc13 => ?_)
  · simp only [oC, Classical.not_not] at hc13
    exact absurd (own_ceq.mp hc13) (hp.ne (by decide))
  · simp only [oC, Classical.not_not] at hc13
    refine K_lload C (pc := 16) d46_16 rfl ?_
    refine K_iload C (pc := 18) d46_18 rfl ?_
    refine K_static C (pc := 20) (mVI l Z a0 hw W (x * w) _ hp) (tw300 hw) (tw301 hw) (tw125 hw) (tw302 hw) (by decide) pdo_5 d46_20 (argsL := [_, _]) (rest := _) rfl rfl rfl rfl (fun a q r => C.new a (Nat.le_trans q r)) (by decide) (Nat.le_of_ble_eq_true rfl) (by decide) (by decide) ?_
    rintro _ h2 ⟨a, rfl, F2⟩ -
    dsimp only [Option.toList, List.cons_append, List.nil_append]
    refine K_areturn C (pc := 23) d46_23 rfl rfl rfl (by decide) (by decide) (fun _ _ => ⟨_, rfl, F2⟩)
theorem pno_52 : plainFor (⟨"java/math/BigDecimal", "add", "(JJI)Ljava/math/BigDecimal;"⟩ : MethodName) = true := by first | exact plainFor_of_name (by first | (simp [plainName, overriddenIn]; done) | decide +kernel) | decide +kernel
theorem efo_52 (m : MethodId) (x0 : Int64) (x1 : Int64) (x2 : Int32) : entryFrame m #[.long x0, .long x1, .int x2] 7 = oF m 0 [.val (.long x0), .second, .val (.long x1), .second, .val (.int x2), .unset, .unset] [] := by (first | (simp [entryFrame, oF, mkF, argsToLocals, Value.category]; done) | rfl)
set_option maxRecDepth 65536 in
set_option maxHeartbeats 40000000 in
theorem mADD3 (l : Launch) (Z : State) (a0 : Array Value) (hw : ∀ d ∈ tables_1, d.before a0 Z = true) (W : oSt Z) (x w : Int64) (h0 : Heap) (hx : oSm 100000 x) (hz : oSm 100000 w) (hp : oSm 100000 (x + w)) :
    oMeets l Z (⟨"java/math/BigDecimal", "add", "(JJI)Ljava/math/BigDecimal;"⟩ : MethodName) jdk_17_method_133_code 7 (some (.object "java/math/BigDecimal")) ({ frames := 5, cells := 1, slots := 5, locals := 130 } : Room) #[.long x, .long w, .int 0] h0 (fun a => h0.size ≤ a) (fun v h => ∃ a, v = some (.ref a) ∧ oBD Z h a (x + w)) := by
  refine oMeets.of pno_52 (fun _ q => q) (fun E _ q => Nat.le_trans E.1 q) (Ls := [.val (.long x), .second, .val (.long w), .second, .val (.int 0), .unset, .unset]) (fun m => efo_52 m x w 0) ?_
  intro p e s m below meth c C hs
  refine K_lloadN C (pc := 0) d52_0 rfl ?_
  refine K_lloadN C (pc := 1) d52_1 rfl ?_
  refine K_static C (pc := 2) (mADDL l Z a0 hw x w _ hx hz) (tw315 hw) (tw316 hw) (tw125 hw) (tw317 hw) (by decide) pdo_4 d52_2 (argsL := [_, _]) (rest := _) rfl rfl rfl rfl (fun a q r => C.new a (Nat.le_trans q r)) (by decide) (Nat.le_of_ble_eq_true rfl) (by decide) (by decide) ?_
  rintro _ h8 ⟨rfl, hh⟩ -
  replace hh := hh.symm
  subst hh
  dsimp only [Option.toList, List.cons_append, List.nil_append]
  refine K_lstore C (pc := 5) (Ls' := [_, _, _, _, _, _, _]) d52_5 rfl ?_
  refine K_lload C (pc := 7) d52_7 rfl ?_
  refine K_ldc2J C (pc := 9) (tw263 hw) d52_9 ?_
  refine K_lcmp C (pc := 12) d52_12 ?_
  refine K_if C (pc := 13) 24 d52_13 (by decide) (by decide) (fun hc13 => ?_) (fun hc13 => ?_)
  · simp only [oC, Classical.not_not] at hc13
    exact absurd (own_ceq.mp hc13) (hp.ne (by decide))
  · simp only [oC, Classical.not_not] at hc13
    refine K_lload C (pc := 16) d52_16 rfl ?_
    refine K_iload C (pc := 18) d52_18 rfl ?_
    refine K_static C (pc := 20) (mVI l Z a0 hw W (x + w) _ hp) (tw300 hw) (tw301 hw) (tw125 hw) (tw302 hw) (by decide) pdo_5 d52_20 (argsL := [_, _]) (rest := _) rfl rfl rfl rfl (fun a q r => C.new a (Nat.le_trans q r)) (by decide) (Nat.le_of_ble_eq_true rfl) (by decide) (by decide) ?_
    rintro _ h2 ⟨a, rfl, F2⟩ -
    dsimp only [Option.toList, List.cons_append, List.nil_append]
    refine K_areturn C (pc := 23) d52_23 rfl rfl rfl (by decide) (by decide) (fun _ _ => ⟨_, rfl, F2⟩)
theorem pno_45 : plainFor (⟨"java/math/BigDecimal", "checkScale", "(J)I"⟩ : MethodName) = true := by first | exact plainFor_of_name (by first | (simp [plainName, overriddenIn]; done) | decide +kernel) | decide +kernel
theorem efo_45 (m : MethodId) (x0 : Addr) (x1 : Int64) : entryFrame m #[.ref x0, .long x1] 5 = oF m 0 [.val (.ref x0), .val (.long x1), .second, .unset, .unset] [] := by (first | (simp [entryFrame, oF, mkF, argsToLocals, Value.category]; done) | rfl)
set_option maxRecDepth 65536 in
set_option maxHeartbeats 40000000 in
theorem mCS (l : Launch) (Z : State) (a0 : Array Value) (hw : ∀ d ∈ tables_1, d.before a0 Z = true) (a : Addr) (h0 : Heap) :
    oMeets l Z (⟨"java/math/BigDecimal", "checkScale", "(J)I"⟩ : MethodName) jdk_17_method_106_code 5 (some .int) ({ frames := 0, cells := 0, slots := 0, locals := 0 } : Room) #[.ref a, .long 0] h0 (fun a => h0.size ≤ a) (fun v h => v = some (.int 0) ∧ h = h0) := by
  refine oMeets.of pno_45 (fun _ q => q) (fun E _ q => Nat.le_trans E.1 q) (Ls := [.val (.ref a), .val (.long 0), .second, .unset, .unset]) (fun m => efo_45 m a 0) ?_
  intro p e s m below meth c C hs
  refine K_lloadN C (pc := 0) d45_0 rfl ?_
  refine K_l2i C (pc := 1) d45_1 ?_
  refine K_istoreN C (pc := 2) (Ls' := [_, _, _, _, _]) d45_2 rfl ?_
  refine K_iloadN C (pc := 3) d45_3 rfl ?_
  refine K_i2l C (pc := 4) d45_4 ?_
  refine K_lloadN C (pc := 5) d45_5 rfl ?_
  refine K_lcmp C (pc := 6) d45_6 ?_
  refine K_if C (pc := 7) 76 d45_7 (by decide) (by decide) (fun hc7 => ?_) (fun hc7 => ?_)
  · simp only [oC, Classical.not_not] at hc7
    refine K_iloadN C (pc := 76) d45_76 rfl ?_
    refine K_ireturn C (pc := 77) d45_77 (by simp) rfl (by decide) (by decide) (fun _ _ => ⟨rfl, rfl⟩)
  · simp only [oC, Classical.not_not] at hc7
    exact absurd (by decide) hc7
theorem pno_44 : plainFor (⟨"java/math/BigDecimal", "multiply", "(Ljava/math/BigDecimal;)Ljava/math/BigDecimal;"⟩ : MethodName) = true := by first | exact plainFor_of_name (by first | (simp [plainName, overriddenIn]; done) | decide +kernel) | decide +kernel
theorem efo_44 (m : MethodId) (x0 : Addr) (x1 : Addr) : entryFrame m #[.ref x0, .ref x1] 3 = oF m 0 [.val (.ref x0), .val (.ref x1), .unset] [] := by (first | (simp [entryFrame, oF, mkF, argsToLocals, Value.category]; done) | rfl)
set_option maxRecDepth 65536 in
set_option maxHeartbeats 40000000 in
theorem mMUL (l : Launch) (Z : State) (a0 : Array Value) (hw : ∀ d ∈ tables_1, d.before a0 Z = true) (a b : Addr) (W : oSt Z) (x w : Int64) (h0 : Heap) (hx : oSm 100000 x) (hz : oSm 100000 w) (hp : oSm 100000 (x * w)) (F : oBD Z h0 a x) (G : oBD Z h0 b w) :
    oMeets l Z (⟨"java/math/BigDecimal", "multiply", "(Ljava/math/BigDecimal;)Ljava/math/BigDecimal;"⟩ : MethodName) jdk_17_method_31_code 3 (some (.object "java/math/BigDecimal")) ({ frames := 6, cells := 1, slots := 5, locals := 170 } : Room) #[.ref a, .ref b] h0 (fun a => h0.size ≤ a) (fun v h => ∃ a, v = some (.ref a) ∧ oBD Z h a (x * w)) := by
  refine oMeets.of pno_44 (fun _ q => q) (fun E _ q => Nat.le_trans E.1 q) (Ls := [.val (.ref a), .val (.ref b), .unset]) (fun m => efo_44 m a b) ?_
  intro p e s m below meth c C hs
  refine K_aloadN C (pc := 0) d44_0 rfl (by first | rfl | assumption) ?_
  refine K_aloadN C (pc := 1) d44_1 rfl (by first | rfl | assumption) ?_
  refine K_getF C (pc := 2) (tw284 hw) Via.refl F.2.1 d44_2 ?_
  refine K_i2l C (pc := 5) d44_5 ?_
  refine K_aloadN C (pc := 6) d44_6 rfl (by first | rfl | assumption) ?_
  refine K_getF C (pc := 7) (tw284 hw) Via.refl G.2.1 d44_7 ?_
  refine K_i2l C (pc := 10) d44_10 ?_
  refine K_ladd C (pc := 11) d44_11 ?_
  rw [show (0 : Int32).toInt64 + (0 : Int32).toInt64 = 0 by decide]
  refine K_private C (pc := 12) (mCS l Z a0 hw a _) (F.1) (tw286 hw) (oSelf.of (tw259 hw) rfl) (tw288 hw) (tw287 hw) (tw125 hw) (tw290 hw) (by decide) pdo_6 d44_12 (argsL := [_]) (rest := _) rfl rfl rfl rfl (fun a q r => C.new a (Nat.le_trans q r)) (by decide) (Nat.le_of_ble_eq_true rfl) (by decide) (by decide) ?_
  rintro _ h8 ⟨rfl, hh⟩ -
  replace hh := hh.symm
  subst hh
  dsimp only [Option.toList, List.cons_append, List.nil_append]
  refine K_istoreN C (pc := 15) (Ls' := [_, _, _]) d44_15 rfl ?_
  refine K_aloadN C (pc := 16) d44_16 rfl (by first | rfl | assumption) ?_
  refine K_getF C (pc := 17) (tw261 hw) Via.refl F.2.2 d44_17 ?_
  refine K_ldc2J C (pc := 20) (tw263 hw) d44_20 ?_
  refine K_lcmp C (pc := 23) d44_23 ?_
  refine K_if C (pc := 24) 64 d44_24 (by decide) (by decide) (fun hc24 => ?_) (fun hc24 => ?_)
  · simp only [oC, Classical.not_not] at hc24
    exact absurd (own_ceq.mp hc24) (hx.ne (by decide))
  · simp only [oC, Classical.not_not] at hc24
    refine K_aloadN C (pc := 27) d44_27 rfl (by first | rfl | assumption) ?_
    refine K_getF C (pc := 28) (tw261 hw) Via.refl G.2.2 d44_28 ?_
    refine K_ldc2J C (pc := 31) (tw263 hw) d44_31 ?_
    refine K_lcmp C (pc := 34) d44_34 ?_
    refine K_if C (pc := 35) 51 d44_35 (by decide) (by decide) (fun hc35 => ?_) (fun hc35 => ?_)
    · simp only [oC, Classical.not_not] at hc35
      exact absurd (own_ceq.mp hc35) (hz.ne (by decide))
    · simp only [oC, Classical.not_not] at hc35
      refine K_aloadN C (pc := 38) d44_38 rfl (by first | rfl | assumption) ?_
      refine K_getF C (pc := 39) (tw261 hw) Via.refl F.2.2 d44_39 ?_
      refine K_aloadN C (pc := 42) d44_42 rfl (by first | rfl | assumption) ?_
      refine K_getF C (pc := 43) (tw261 hw) Via.refl G.2.2 d44_43 ?_
      refine K_iloadN C (pc := 46) d44_46 rfl ?_
      refine K_static C (pc := 47) (mMUL3 l Z a0 hw W x w _ hx hz hp) (tw291 hw) (tw292 hw) (tw125 hw) (tw293 hw) (by decide) pdo_7 d44_47 (argsL := [_, _, _]) (rest := _) rfl rfl rfl rfl (fun a q r => C.new a (Nat.le_trans q r)) (by decide) (Nat.le_of_ble_eq_true rfl) (by decide) (by decide) ?_
      rintro _ h2 ⟨c1, rfl, F2⟩ -
      dsimp only [Option.toList, List.cons_append, List.nil_append]
      refine K_areturn C (pc := 50) d44_50 rfl rfl rfl (by decide) (by decide) (fun _ _ => ⟨_, rfl, F2⟩)
theorem pno_51 : plainFor (⟨"java/math/BigDecimal", "add", "(JIJI)Ljava/math/BigDecimal;"⟩ : MethodName) = true := by first | exact plainFor_of_name (by first | (simp [plainName, overriddenIn]; done) | decide +kernel) | decide +kernel
theorem efo_51 (m : MethodId) (x0 : Int64) (x1 : Int32) (x2 : Int64) (x3 : Int32) : entryFrame m #[.long x0, .int x1, .long x2, .int x3] 12 = oF m 0 [.val (.long x0), .second, .val (.int x1), .val (.long x2), .second, .val (.int x3), .unset, .unset, .unset, .unset, .unset, .unset] [] := by (first | (simp [entryFrame, oF, mkF, argsToLocals, Value.category]; done) | rfl)
set_option maxRecDepth 65536 in
set_option maxHeartbeats 40000000 in
theorem mADD4 (l : Launch) (Z : State) (a0 : Array Value) (hw : ∀ d ∈ tables_1, d.before a0 Z = true) (W : oSt Z) (x w : Int64) (h0 : Heap) (hx : oSm 100000 x) (hz : oSm 100000 w) (hp : oSm 100000 (x + w)) :
    oMeets l Z (⟨"java/math/BigDecimal", "add", "(JIJI)Ljava/math/BigDecimal;"⟩ : MethodName) jdk_17_method_134_code 12 (some (.object "java/math/BigDecimal")) ({ frames := 6, cells := 1, slots := 5, locals := 160 } : Room) #[.long x, .int 0, .long w, .int 0] h0 (fun a => h0.size ≤ a) (fun v h => ∃ a, v = some (.ref a) ∧ oBD Z h a (x + w)) := by
  refine oMeets.of pno_51 (fun _ q => q) (fun E _ q => Nat.le_trans E.1 q) (Ls := [.val (.long x), .second, .val (.int 0), .val (.long w), .second, .val (.int 0), .unset, .unset, .unset, .unset, .unset, .unset]) (fun m => efo_51 m x 0 w 0) ?_
  intro p e s m below meth c C hs
  refine K_iloadN C (pc := 0) d51_0 rfl ?_
  refine K_i2l C (pc := 1) d51_1 ?_
  refine K_iload C (pc := 2) d51_2 rfl ?_
  refine K_i2l C (pc := 4) d51_4 ?_
  refine K_lsub C (pc := 5) d51_5 ?_
  refine K_lstore C (pc := 6) (Ls' := [_, _, _, _, _, _, _, _, _, _, _, _]) d51_6 rfl ?_
  refine K_lload C (pc := 8) d51_8 rfl ?_
  refine K_lconst C (pc := 10) 0 d51_10 (by decide) ?_
  refine K_lcmp C (pc := 11) d51_11 ?_
  refine K_if C (pc := 12) 22 d51_12 (by decide) (by decide) (fun hc12 => ?_) (fun hc12 => ?_)
  · simp only [oC, Classical.not_not] at hc12
    exact absurd (by decide) hc12
  · simp only [oC, Classical.not_not] at hc12
    refine K_lloadN C (pc := 15) d51_15 rfl ?_
    refine K_lloadN C (pc := 16) d51_16 rfl ?_
    refine K_iloadN C (pc := 17) d51_17 rfl ?_
    refine K_static C (pc := 18) (mADD3 l Z a0 hw W x w _ hx hz hp) (tw312 hw) (tw313 hw) (tw125 hw) (tw314 hw) (by decide) pdo_7 d51_18 (argsL := [_, _, _]) (rest := _) rfl rfl rfl rfl (fun a q r => C.new a (Nat.le_trans q r)) (by decide) (Nat.le_of_ble_eq_true rfl) (by decide) (by decide) ?_
    rintro _ h2 ⟨c1, rfl, F2⟩ -
    dsimp only [Option.toList, List.cons_append, List.nil_append]
    refine K_areturn C (pc := 21) d51_21 rfl rfl rfl (by decide) (by decide) (fun _ _ => ⟨_, rfl, F2⟩)
theorem pno_50 : plainFor (⟨"java/math/BigDecimal", "add", "(Ljava/math/BigDecimal;)Ljava/math/BigDecimal;"⟩ : MethodName) = true := by first | exact plainFor_of_name (by first | (simp [plainName, overriddenIn]; done) | decide +kernel) | decide +kernel
theorem efo_50 (m : MethodId) (x0 : Addr) (x1 : Addr) : entryFrame m #[.ref x0, .ref x1] 2 = oF m 0 [.val (.ref x0), .val (.ref x1)] [] := by (first | (simp [entryFrame, oF, mkF, argsToLocals, Value.category]; done) | rfl)
set_option maxRecDepth 65536 in
set_option maxHeartbeats 40000000 in
theorem mADDB (l : Launch) (Z : State) (a0 : Array Value) (hw : ∀ d ∈ tables_1, d.before a0 Z = true) (a b : Addr) (W : oSt Z) (x w : Int64) (h0 : Heap) (hx : oSm 100000 x) (hz : oSm 100000 w) (hp : oSm 100000 (x + w)) (F : oBD Z h0 a x) (G : oBD Z h0 b w) :
    oMeets l Z (⟨"java/math/BigDecimal", "add", "(Ljava/math/BigDecimal;)Ljava/math/BigDecimal;"⟩ : MethodName) jdk_17_method_26_code 2 (some (.object "java/math/BigDecimal")) ({ frames := 7, cells := 1, slots := 5, locals := 190 } : Room) #[.ref a, .ref b] h0 (fun a => h0.size ≤ a) (fun v h => ∃ a, v = some (.ref a) ∧ oBD Z h a (x + w)) := by
  refine oMeets.of pno_50 (fun _ q => q) (fun E _ q => Nat.le_trans E.1 q) (Ls := [.val (.ref a), .val (.ref b)]) (fun m => efo_50 m a b) ?_
  intro p e s m below meth c C hs
  refine K_aloadN C (pc := 0) d50_0 rfl (by first | rfl | assumption) ?_
  refine K_getF C (pc := 1) (tw261 hw) Via.refl F.2.2 d50_1 ?_
  refine K_ldc2J C (pc := 4) (tw263 hw) d50_4 ?_
  refine K_lcmp C (pc := 7) d50_7 ?_
  refine K_if C (pc := 8) 62 d50_8 (by decide) (by decide) (fun hc8 => ?_) (fun hc8 => ?_)
  · simp only [oC, Classical.not_not] at hc8
    exact absurd (own_ceq.mp hc8) (hx.ne (by decide))
  · simp only [oC, Classical.not_not] at hc8
    refine K_aloadN C (pc := 11) d50_11 rfl (by first | rfl | assumption) ?_
    refine K_getF C (pc := 12) (tw261 hw) Via.refl G.2.2 d50_12 ?_
    refine K_ldc2J C (pc := 15) (tw263 hw) d50_15 ?_
    refine K_lcmp C (pc := 18) d50_18 ?_
    refine K_if C (pc := 19) 42 d50_19 (by decide) (by decide) (fun hc19 => ?_) (fun hc19 => ?_)
    · simp only [oC, Classical.not_not] at hc19
      exact absurd (own_ceq.mp hc19) (hz.ne (by decide))
    · simp only [oC, Classical.not_not] at hc19
      refine K_aloadN C (pc := 22) d50_22 rfl (by first | rfl | assumption) ?_
      refine K_getF C (pc := 23) (tw261 hw) Via.refl F.2.2 d50_23 ?_
      refine K_aloadN C (pc := 26) d50_26 rfl (by first | rfl | assumption) ?_
      refine K_getF C (pc := 27) (tw284 hw) Via.refl F.2.1 d50_27 ?_
      refine K_aloadN C (pc := 30) d50_30 rfl (by first | rfl | assumption) ?_
      refine K_getF C (pc := 31) (tw261 hw) Via.refl G.2.2 d50_31 ?_
      refine K_aloadN C (pc := 34) d50_34 rfl (by first | rfl | assumption) ?_
      refine K_getF C (pc := 35) (tw284 hw) Via.refl G.2.1 d50_35 ?_
      refine K_static C (pc := 38) (mADD4 l Z a0 hw W x w _ hx hz hp) (tw309 hw) (tw310 hw) (tw125 hw) (tw311 hw) (by decide) pdo_8 d50_38 (argsL := [_, _, _, _]) (rest := _) rfl rfl rfl rfl (fun a q r => C.new a (Nat.le_trans q r)) (by decide) (Nat.le_of_ble_eq_true rfl) (by decide) (by decide) ?_
      rintro _ h2 ⟨c1, rfl, F2⟩ -
      dsimp only [Option.toList, List.cons_append, List.nil_append]
      refine K_areturn C (pc := 41) d50_41 rfl rfl rfl (by decide) (by decide) (fun _ _ => ⟨_, rfl, F2⟩)
theorem pno_41 : plainFor (⟨"java/lang/Long", "signum", "(J)I"⟩ : MethodName) = true := by first | exact plainFor_of_name (by first | (simp [plainName, overriddenIn]; done) | decide +kernel) | decide +kernel
theorem efo_41 (m : MethodId) (x0 : Int64) : entryFrame m #[.long x0] 2 = oF m 0 [.val (.long x0), .second] [] := by (first | (simp [entryFrame, oF, mkF, argsToLocals, Value.category]; done) | rfl)
set_option maxRecDepth 65536 in
set_option maxHeartbeats 40000000 in
theorem mLSG (l : Launch) (Z : State) (a0 : Array Value) (hw : ∀ d ∈ tables_1, d.before a0 Z = true) (x : Int64) (h0 : Heap) :
    oMeets l Z (⟨"java/lang/Long", "signum", "(J)I"⟩ : MethodName) jdk_35_method_57_code 2 (some .int) ({ frames := 0, cells := 0, slots := 0, locals := 0 } : Room) #[.long x] h0 (fun a => h0.size ≤ a) (fun v h => ∃ r : Int32, v = some (.int r) ∧ h = h0) := by
  refine oMeets.of pno_41 (fun _ q => q) (fun E _ q => Nat.le_trans E.1 q) (Ls := [.val (.long x), .second]) (fun m => efo_41 m x) ?_
  intro p e s m below meth c C hs
  refine K_lloadN C (pc := 0) d41_0 rfl ?_
  refine K_bipush C (pc := 1) 63 d41_1 (by decide) ?_
  refine K_lshr C (pc := 3) d41_3 ?_
  refine K_lloadN C (pc := 4) d41_4 rfl ?_
  refine K_lneg C (pc := 5) d41_5 ?_
  refine K_bipush C (pc := 6) 63 d41_6 (by decide) ?_
  refine K_lushr C (pc := 8) d41_8 ?_
  refine K_lor C (pc := 9) d41_9 ?_
  refine K_l2i C (pc := 10) d41_10 ?_
  refine K_ireturn C (pc := 11) d41_11 (by simp) rfl (by decide) (by decide) (fun _ _ => ⟨_, rfl, rfl⟩)
theorem pno_40 : plainFor (⟨"java/math/BigDecimal", "signum", "()I"⟩ : MethodName) = true := by first | exact plainFor_of_name (by first | (simp [plainName, overriddenIn]; done) | decide +kernel) | decide +kernel
theorem efo_40 (m : MethodId) (x0 : Addr) : entryFrame m #[.ref x0] 1 = oF m 0 [.val (.ref x0)] [] := by (first | (simp [entryFrame, oF, mkF, argsToLocals, Value.category]; done) | rfl)
set_option maxRecDepth 65536 in
set_option maxHeartbeats 40000000 in
theorem mSIG (l : Launch) (Z : State) (a0 : Array Value) (hw : ∀ d ∈ tables_1, d.before a0 Z = true) (a : Addr) (x : Int64) (h0 : Heap) (hx : oSm 100000 x) (F : oBD Z h0 a x) :
    oMeets l Z (⟨"java/math/BigDecimal", "signum", "()I"⟩ : MethodName) jdk_17_method_58_code 1 (some .int) ({ frames := 1, cells := 0, slots := 0, locals := 20 } : Room) #[.ref a] h0 (fun a => h0.size ≤ a) (fun v h => ∃ r : Int32, v = some (.int r) ∧ h = h0) := by
  refine oMeets.of pno_40 (fun _ q => q) (fun E _ q => Nat.le_trans E.1 q) (Ls := [.val (.ref a)]) (fun m => efo_40 m a) ?_
  intro p e s m below meth c C hs
  refine K_aloadN C (pc := 0) d40_0 rfl (by first | rfl | assumption) ?_
  refine K_getF C (pc := 1) (tw261 hw) Via.refl F.2.2 d40_1 ?_
  refine K_ldc2J C (pc := 4) (tw263 hw) d40_4 ?_
  refine K_lcmp C (pc := 7) d40_7 ?_
  refine K_if C (pc := 8) 21 d40_8 (by decide) (by decide) (fun hc8 => ?_) (fun hc8 => ?_)
  · simp only [oC, Classical.not_not] at hc8
    exact absurd (own_ceq.mp hc8) (hx.ne (by decide))
  · simp only [oC, Classical.not_not] at hc8
    refine K_aloadN C (pc := 11) d40_11 rfl (by first | rfl | assumption) ?_
    refine K_getF C (pc := 12) (tw261 hw) Via.refl F.2.2 d40_12 ?_
    refine K_static C (pc := 15) (mLSG l Z a0 hw x _) (tw264 hw) (tw265 hw) (tw266 hw) (tw267 hw) (by decide) pdo_6 d40_15 (argsL := [_]) (rest := _) rfl rfl rfl rfl (fun a q r => C.new a (Nat.le_trans q r)) (by decide) (Nat.le_of_ble_eq_true rfl) (by decide) (by decide) ?_
    rintro _ h8 ⟨r, rfl, hh⟩ -
    replace hh := hh.symm
    subst hh
    dsimp only [Option.toList, List.cons_append, List.nil_append]
    refine K_goto C (pc := 18) 28 d40_18 (by decide) (by decide) ?_
    refine K_ireturn C (pc := 28) d40_28 (by simp) rfl (by decide) (by decide) (fun _ _ => ⟨_, rfl, rfl⟩)
theorem pno_54 : plainFor (⟨"java/math/BigDecimal", "compareTo", "(Ljava/math/BigDecimal;)I"⟩ : MethodName) = true := by first | exact plainFor_of_name (by first | (simp [plainName, overriddenIn]; done) | decide +kernel) | decide +kernel
theorem efo_54 (m : MethodId) (x0 : Addr) (x1 : Addr) : entryFrame m #[.ref x0, .ref x1] 6 = oF m 0 [.val (.ref x0), .val (.ref x1), .unset, .unset, .unset, .unset] [] := by (first | (simp [entryFrame, oF, mkF, argsToLocals, Value.category]; done) | rfl)
set_option maxRecDepth 65536 in
set_option maxHeartbeats 40000000 in
theorem mCMP (l : Launch) (Z : State) (a0 : Array Value) (hw : ∀ d ∈ tables_1, d.before a0 Z = true) (a b : Addr) (x w : Int64) (h0 : Heap) (hx : oSm 100000 x) (hz : oSm 100000 w) (F : oBD Z h0 a x) (G : oBD Z h0 b w) :
    oMeets l Z (⟨"java/math/BigDecimal", "compareTo", "(Ljava/math/BigDecimal;)I"⟩ : MethodName) jdk_17_method_70_code 6 (some .int) ({ frames := 0, cells := 0, slots := 0, locals := 0 } : Room) #[.ref a, .ref b] h0 (fun a => h0.size ≤ a) (fun v h => ∃ r : Int32, v = some (.int r) ∧ h = h0) := by
  refine oMeets.of pno_54 (fun _ q => q) (fun E _ q => Nat.le_trans E.1 q) (Ls := [.val (.ref a), .val (.ref b), .unset, .unset, .unset, .unset]) (fun m => efo_54 m a b) ?_
  intro p e s m below meth c C hs
  refine K_aloadN C (pc := 0) d54_0 rfl (by first | rfl | assumption) ?_
  refine K_getF C (pc := 1) (tw284 hw) Via.refl F.2.1 d54_1 ?_
  refine K_aloadN C (pc := 4) d54_4 rfl (by first | rfl | assumption) ?_
  refine K_getF C (pc := 5) (tw284 hw) Via.refl G.2.1 d54_5 ?_
  refine K_icmp C (pc := 8) 63 d54_8 (by decide) (by decide) (fun hc8 => ?_) (fun hc8 => ?_)
  · simp only [oC, Classical.not_not] at hc8
    exact False.elim (hc8 (by simp))
  · simp only [oC, Classical.not_not] at hc8
    refine K_aloadN C (pc := 11) d54_11 rfl (by first | rfl | assumption) ?_
    refine K_getF C (pc := 12) (tw261 hw) Via.refl F.2.2 d54_12 ?_
    refine K_lstoreN C (pc := 15) (Ls' := [_, _, _, _, _, _]) d54_15 rfl ?_
    refine K_aloadN C (pc := 16) d54_16 rfl (by first | rfl | assumption) ?_
    refine K_getF C (pc := 17) (tw261 hw) Via.refl G.2.2 d54_17 ?_
    refine K_lstore C (pc := 20) (Ls' := [_, _, _, _, _, _]) d54_20 rfl ?_
    refine K_lloadN C (pc := 22) d54_22 rfl ?_
    refine K_ldc2J C (pc := 23) (tw263 hw) d54_23 ?_
    refine K_lcmp C (pc := 26) d54_26 ?_
    refine K_if C (pc := 27) 63 d54_27 (by decide) (by decide) (fun hc27 => ?_) (fun hc27 => ?_)
    · simp only [oC, Classical.not_not] at hc27
      exact absurd (own_ceq.mp hc27) (hx.ne (by decide))
    · simp only [oC, Classical.not_not] at hc27
      refine K_lload C (pc := 30) d54_30 rfl ?_
      refine K_ldc2J C (pc := 32) (tw263 hw) d54_32 ?_
      refine K_lcmp C (pc := 35) d54_35 ?_
      refine K_if C (pc := 36) 63 d54_36 (by decide) (by decide) (fun hc36 => ?_) (fun hc36 => ?_)
      · simp only [oC, Classical.not_not] at hc36
        exact absurd (own_ceq.mp hc36) (hz.ne (by decide))
      · simp only [oC, Classical.not_not] at hc36
        refine K_lloadN C (pc := 39) d54_39 rfl ?_
        refine K_lload C (pc := 40) d54_40 rfl ?_
        refine K_lcmp C (pc := 42) d54_42 ?_
        refine K_if C (pc := 43) 61 d54_43 (by decide) (by decide) (fun hc43 => ?_) (fun hc43 => ?_)
        · simp only [oC, Classical.not_not] at hc43
          refine K_iconst C (pc := 61) 0 d54_61 (by decide) ?_
          refine K_ireturn C (pc := 62) d54_62 (by simp) rfl (by decide) (by decide) (fun _ _ => ⟨_, rfl, rfl⟩)
        · simp only [oC, Classical.not_not] at hc43
          refine K_lloadN C (pc := 46) d54_46 rfl ?_
          refine K_lload C (pc := 47) d54_47 rfl ?_
          refine K_lcmp C (pc := 49) d54_49 ?_
          refine K_if C (pc := 50) 57 d54_50 (by decide) (by decide) (fun hc50 => ?_) (fun hc50 => ?_)
          · simp only [oC, Classical.not_not] at hc50
            refine K_iconst C (pc := 57) (-1) d54_57 (by decide) ?_
            refine K_goto C (pc := 58) 62 d54_58 (by decide) (by decide) ?_
            refine K_ireturn C (pc := 62) d54_62 (by simp) rfl (by decide) (by decide) (fun _ _ => ⟨_, rfl, rfl⟩)
          · simp only [oC, Classical.not_not] at hc50
            refine K_iconst C (pc := 53) 1 d54_53 (by decide) ?_
            refine K_goto C (pc := 54) 62 d54_54 (by decide) (by decide) ?_
            refine K_ireturn C (pc := 62) d54_62 (by simp) rfl (by decide) (by decide) (fun _ _ => ⟨_, rfl, rfl⟩)
theorem pno_11 : plainFor (⟨"java/time/temporal/ValueRange", "getMinimum", "()J"⟩ : MethodName) = true := by first | exact plainFor_of_name (by first | (simp [plainName, overriddenIn]; done) | decide +kernel) | decide +kernel
theorem efo_11 (m : MethodId) (x0 : Addr) : entryFrame m #[.ref x0] 1 = oF m 0 [.val (.ref x0)] [] := by (first | (simp [entryFrame, oF, mkF, argsToLocals, Value.category]; done) | rfl)
set_option maxRecDepth 65536 in
set_option maxHeartbeats 40000000 in
theorem mGMIN (l : Launch) (Z : State) (a0 : Array Value) (hw : ∀ d ∈ tables_1, d.before a0 Z = true) (a : Addr) (x : Int64) (h0 : Heap) (F : Fld Z h0 a "java/time/temporal/ValueRange" "minSmallest" "J" (.long x)) :
    oMeets l Z (⟨"java/time/temporal/ValueRange", "getMinimum", "()J"⟩ : MethodName) jdk_2423_method_6_code 1 (some .long) ({ frames := 0, cells := 0, slots := 0, locals := 0 } : Room) #[.ref a] h0 (fun a => h0.size ≤ a) (fun v h => v = some (.long x) ∧ h = h0) := by
  refine oMeets.of pno_11 (fun _ q => q) (fun E _ q => Nat.le_trans E.1 q) (Ls := [.val (.ref a)]) (fun m => efo_11 m a) ?_
  intro p e s m below meth c C hs
  refine K_aloadN C (pc := 0) d11_0 rfl (by first | rfl | assumption) ?_
  refine K_getF C (pc := 1) (tw54 hw) Via.refl F d11_1 ?_
  refine K_lreturn C (pc := 4) d11_4 (by decide) (by decide) (fun _ _ => ⟨rfl, rfl⟩)
theorem pno_12 : plainFor (⟨"java/time/temporal/ValueRange", "getMaximum", "()J"⟩ : MethodName) = true := by first | exact plainFor_of_name (by first | (simp [plainName, overriddenIn]; done) | decide +kernel) | decide +kernel
theorem efo_12 (m : MethodId) (x0 : Addr) : entryFrame m #[.ref x0] 1 = oF m 0 [.val (.ref x0)] [] := by (first | (simp [entryFrame, oF, mkF, argsToLocals, Value.category]; done) | rfl)
set_option maxRecDepth 65536 in
set_option maxHeartbeats 40000000 in
theorem mGMAX (l : Launch) (Z : State) (a0 : Array Value) (hw : ∀ d ∈ tables_1, d.before a0 Z = true) (a : Addr) (x : Int64) (h0 : Heap) (F : Fld Z h0 a "java/time/temporal/ValueRange" "maxLargest" "J" (.long x)) :
    oMeets l Z (⟨"java/time/temporal/ValueRange", "getMaximum", "()J"⟩ : MethodName) jdk_2423_method_9_code 1 (some .long) ({ frames := 0, cells := 0, slots := 0, locals := 0 } : Room) #[.ref a] h0 (fun a => h0.size ≤ a) (fun v h => v = some (.long x) ∧ h = h0) := by
  refine oMeets.of pno_12 (fun _ q => q) (fun E _ q => Nat.le_trans E.1 q) (Ls := [.val (.ref a)]) (fun m => efo_12 m a) ?_
  intro p e s m below meth c C hs
  refine K_aloadN C (pc := 0) d12_0 rfl (by first | rfl | assumption) ?_
  refine K_getF C (pc := 1) (tw61 hw) Via.refl F d12_1 ?_
  refine K_lreturn C (pc := 4) d12_4 (by decide) (by decide) (fun _ _ => ⟨rfl, rfl⟩)
theorem pno_8 : plainFor (⟨"java/time/temporal/ChronoField", "range", "()Ljava/time/temporal/ValueRange;"⟩ : MethodName) = true := by first | exact plainFor_of_name (by first | (simp [plainName, overriddenIn]; done) | decide +kernel) | decide +kernel
theorem efo_8 (m : MethodId) (x0 : Addr) : entryFrame m #[.ref x0] 1 = oF m 0 [.val (.ref x0)] [] := by (first | (simp [entryFrame, oF, mkF, argsToLocals, Value.category]; done) | rfl)
set_option maxRecDepth 65536 in
set_option maxHeartbeats 40000000 in
theorem mRNG (l : Launch) (Z : State) (a0 : Array Value) (hw : ∀ d ∈ tables_1, d.before a0 Z = true) (a r : Addr) (h0 : Heap) (F : Fld Z h0 a "java/time/temporal/ChronoField" "range" "Ljava/time/temporal/ValueRange;" (.ref r)) :
    oMeets l Z (⟨"java/time/temporal/ChronoField", "range", "()Ljava/time/temporal/ValueRange;"⟩ : MethodName) jdk_2395_method_8_code 1 (some (.object "java/time/temporal/ValueRange")) ({ frames := 0, cells := 0, slots := 0, locals := 0 } : Room) #[.ref a] h0 (fun a => h0.size ≤ a) (fun v h => v = some (.ref r) ∧ h = h0) := by
  refine oMeets.of pno_8 (fun _ q => q) (fun E _ q => Nat.le_trans E.1 q) (Ls := [.val (.ref a)]) (fun m => efo_8 m a) ?_
  intro p e s m below meth c C hs
  refine K_aloadN C (pc := 0) d8_0 rfl (by first | rfl | assumption) ?_
  refine K_getF C (pc := 1) (tw36 hw) Via.refl F d8_1 ?_
  refine K_areturn C (pc := 4) d8_4 rfl rfl rfl (by decide) (by decide) (fun _ _ => ⟨rfl, rfl⟩)
theorem pno_10 : plainFor (⟨"java/time/temporal/ValueRange", "isValidValue", "(J)Z"⟩ : MethodName) = true := by first | exact plainFor_of_name (by first | (simp [plainName, overriddenIn]; done) | decide +kernel) | decide +kernel
theorem efo_10 (m : MethodId) (x0 : Addr) (x1 : Int64) : entryFrame m #[.ref x0, .long x1] 3 = oF m 0 [.val (.ref x0), .val (.long x1), .second] [] := by (first | (simp [entryFrame, oF, mkF, argsToLocals, Value.category]; done) | rfl)
set_option maxRecDepth 65536 in
set_option maxHeartbeats 40000000 in
theorem mIVV (l : Launch) (Z : State) (a0 : Array Value) (hw : ∀ d ∈ tables_1, d.before a0 Z = true) (r : Addr) (x lo hi : Int64) (h0 : Heap) (X : Exa Z h0 r "java/time/temporal/ValueRange") (F1 : Fld Z h0 r "java/time/temporal/ValueRange" "minSmallest" "J" (.long lo)) (F2 : Fld Z h0 r "java/time/temporal/ValueRange" "maxLargest" "J" (.long hi)) (h1 : ¬ x < lo) (h2 : ¬ hi < x) :
    oMeets l Z (⟨"java/time/temporal/ValueRange", "isValidValue", "(J)Z"⟩ : MethodName) jdk_2423_method_11_code 3 (some .boolean) ({ frames := 1, cells := 0, slots := 0, locals := 20 } : Room) #[.ref r, .long x] h0 (fun a => h0.size ≤ a) (fun v h => v = some (.int 1) ∧ h = h0) := by
  refine oMeets.of pno_10 (fun _ q => q) (fun E _ q => Nat.le_trans E.1 q) (Ls := [.val (.ref r), .val (.long x), .second]) (fun m => efo_10 m r x) ?_
  intro p e s m below meth c C hs
  refine K_lloadN C (pc := 0) d10_0 rfl ?_
  refine K_aloadN C (pc := 1) d10_1 rfl (by first | rfl | assumption) ?_
  refine K_virtual C (pc := 2) (mGMIN l Z a0 hw r lo _ F1) (X) (tw49 hw) (tw50 hw) (oNF (tw52 hw)) (tw52 hw) (tw51 hw) (tw42 hw) (tw53 hw) (by decide) pdo_9 d10_2 (argsL := []) (rest := _) rfl rfl rfl rfl (fun a q r => C.new a (Nat.le_trans q r)) (by decide) (Nat.le_of_ble_eq_true rfl) (by decide) (by decide) ?_
  rintro _ h8 ⟨rfl, hh⟩ -
  replace hh := hh.symm
  subst hh
  dsimp only [Option.toList, List.cons_append, List.nil_append]
  refine K_lcmp C (pc := 5) d10_5 ?_
  refine K_if C (pc := 6) 22 d10_6 (by decide) (by decide) (fun hc6 => ?_) (fun hc6 => ?_)
  · simp only [oC, Classical.not_not] at hc6
    exact absurd (own_clt.mp hc6) h1
  · simp only [oC, Classical.not_not] at hc6
    refine K_lloadN C (pc := 9) d10_9 rfl ?_
    refine K_aloadN C (pc := 10) d10_10 rfl (by first | rfl | assumption) ?_
    refine K_virtual C (pc := 11) (mGMAX l Z a0 hw r hi _ F2) (X) (tw56 hw) (tw57 hw) (oNF (tw59 hw)) (tw59 hw) (tw58 hw) (tw42 hw) (tw60 hw) (by decide) pdo_9 d10_11 (argsL := []) (rest := _) rfl rfl rfl rfl (fun a q r => C.new a (Nat.le_trans q r)) (by decide) (Nat.le_of_ble_eq_true rfl) (by decide) (by decide) ?_
    rintro _ h8 ⟨rfl, hh⟩ -
    replace hh := hh.symm
    subst hh
    dsimp only [Option.toList, List.cons_append, List.nil_append]
    refine K_lcmp C (pc := 14) d10_14 ?_
    refine K_if C (pc := 15) 22 d10_15 (by decide) (by decide) (fun hc15 => ?_) (fun hc15 => ?_)
    · simp only [oC, Classical.not_not] at hc15
      exact absurd (own_cgt.mp hc15) h2
    · simp only [oC, Classical.not_not] at hc15
      refine K_iconst C (pc := 18) 1 d10_18 (by decide) ?_
      refine K_goto C (pc := 19) 23 d10_19 (by decide) (by decide) ?_
      refine K_ireturn C (pc := 23) d10_23 (by simp) (z' := 1) (by decide) (by decide) (by decide) (fun _ _ => ⟨rfl, rfl⟩)
theorem pno_9 : plainFor (⟨"java/time/temporal/ValueRange", "checkValidValue", "(JLjava/time/temporal/TemporalField;)J"⟩ : MethodName) = true := by first | exact plainFor_of_name (by first | (simp [plainName, overriddenIn]; done) | decide +kernel) | decide +kernel
theorem efo_9 (m : MethodId) (x0 : Addr) (x1 : Int64) (x2 : Addr) : entryFrame m #[.ref x0, .long x1, .ref x2] 4 = oF m 0 [.val (.ref x0), .val (.long x1), .second, .val (.ref x2)] [] := by (first | (simp [entryFrame, oF, mkF, argsToLocals, Value.category]; done) | rfl)
set_option maxRecDepth 65536 in
set_option maxHeartbeats 40000000 in
theorem mCV2 (l : Launch) (Z : State) (a0 : Array Value) (hw : ∀ d ∈ tables_1, d.before a0 Z = true) (r f : Addr) (x lo hi : Int64) (h0 : Heap) (X : Exa Z h0 r "java/time/temporal/ValueRange") (F1 : Fld Z h0 r "java/time/temporal/ValueRange" "minSmallest" "J" (.long lo)) (F2 : Fld Z h0 r "java/time/temporal/ValueRange" "maxLargest" "J" (.long hi)) (h1 : ¬ x < lo) (h2 : ¬ hi < x) :
    oMeets l Z (⟨"java/time/temporal/ValueRange", "checkValidValue", "(JLjava/time/temporal/TemporalField;)J"⟩ : MethodName) jdk_2423_method_13_code 4 (some .long) ({ frames := 2, cells := 0, slots := 0, locals := 50 } : Room) #[.ref r, .long x, .ref f] h0 (fun a => h0.size ≤ a) (fun v h => v = some (.long x) ∧ h = h0) := by
  refine oMeets.of pno_9 (fun _ q => q) (fun E _ q => Nat.le_trans E.1 q) (Ls := [.val (.ref r), .val (.long x), .second, .val (.ref f)]) (fun m => efo_9 m r x f) ?_
  intro p e s m below meth c C hs
  refine K_aloadN C (pc := 0) d9_0 rfl (by first | rfl | assumption) ?_
  refine K_lloadN C (pc := 1) d9_1 rfl ?_
  refine K_virtual C (pc := 2) (mIVV l Z a0 hw r x lo hi _ X F1 F2 h1 h2) (X) (tw44 hw) (tw45 hw) (oNF (tw47 hw)) (tw47 hw) (tw46 hw) (tw42 hw) (tw48 hw) (by decide) pdo_10 d9_2 (argsL := [_]) (rest := _) rfl rfl rfl rfl (fun a q r => C.new a (Nat.le_trans q r)) (by decide) (Nat.le_of_ble_eq_true rfl) (by decide) (by decide) ?_
  rintro _ h8 ⟨rfl, hh⟩ -
  replace hh := hh.symm
  subst hh
  dsimp only [Option.toList, List.cons_append, List.nil_append]
  refine K_if C (pc := 5) 22 d9_5 (by decide) (by decide) (fun hc5 => ?_) (fun hc5 => ?_)
  · simp only [oC, Classical.not_not] at hc5
    refine K_lloadN C (pc := 22) d9_22 rfl ?_
    refine K_lreturn C (pc := 23) d9_23 (by decide) (by decide) (fun _ _ => ⟨rfl, rfl⟩)
  · simp only [oC, Classical.not_not] at hc5
    exact absurd hc5 (by decide)
theorem pno_7 : plainFor (⟨"java/time/temporal/ChronoField", "checkValidValue", "(J)J"⟩ : MethodName) = true := by first | exact plainFor_of_name (by first | (simp [plainName, overriddenIn]; done) | decide +kernel) | decide +kernel
theorem efo_7 (m : MethodId) (x0 : Addr) (x1 : Int64) : entryFrame m #[.ref x0, .long x1] 3 = oF m 0 [.val (.ref x0), .val (.long x1), .second] [] := by (first | (simp [entryFrame, oF, mkF, argsToLocals, Value.category]; done) | rfl)
set_option maxRecDepth 65536 in
set_option maxHeartbeats 40000000 in
theorem mCVV (l : Launch) (Z : State) (a0 : Array Value) (hw : ∀ d ∈ tables_1, d.before a0 Z = true) (f : Addr) (x lo hi : Int64) (h0 : Heap) (F : oCF Z h0 f lo hi) (h1 : ¬ x < lo) (h2 : ¬ hi < x) :
    oMeets l Z (⟨"java/time/temporal/ChronoField", "checkValidValue", "(J)J"⟩ : MethodName) jdk_2395_method_11_code 3 (some .long) ({ frames := 3, cells := 0, slots := 0, locals := 80 } : Room) #[.ref f, .long x] h0 (fun a => h0.size ≤ a) (fun v h => v = some (.long x) ∧ h = h0) := by
  refine oMeets.of pno_7 (fun _ q => q) (fun E _ q => Nat.le_trans E.1 q) (Ls := [.val (.ref f), .val (.long x), .second]) (fun m => efo_7 m f x) ?_
  intro p e s m below meth c C hs
  obtain ⟨X0, r, FR, X, F1, F2⟩ := F
  refine K_aloadN C (pc := 0) d7_0 rfl (by first | rfl | assumption) ?_
  refine K_virtual C (pc := 1) (mRNG l Z a0 hw f r _ FR) (X0) (tw31 hw) (tw32 hw) (oNF (tw34 hw)) (tw34 hw) (tw33 hw) (tw25 hw) (tw35 hw) (by decide) pdo_11 d7_1 (argsL := []) (rest := _) rfl rfl rfl rfl (fun a q r => C.new a (Nat.le_trans q r)) (by decide) (Nat.le_of_ble_eq_true rfl) (by decide) (by decide) ?_
  rintro _ h8 ⟨rfl, hh⟩ -
  replace hh := hh.symm
  subst hh
  dsimp only [Option.toList, List.cons_append, List.nil_append]
  refine K_lloadN C (pc := 4) d7_4 rfl ?_
  refine K_aloadN C (pc := 5) d7_5 rfl (by first | rfl | assumption) ?_
  refine K_virtual C (pc := 6) (mCV2 l Z a0 hw r f x lo hi _ X F1 F2 h1 h2) (X) (tw38 hw) (tw39 hw) (oNF (tw41 hw)) (tw41 hw) (tw40 hw) (tw42 hw) (tw43 hw) (by decide) pdo_12 d7_6 (argsL := [_, _]) (rest := _) rfl rfl rfl rfl (fun a q r => C.new a (Nat.le_trans q r)) (by decide) (Nat.le_of_ble_eq_true rfl) (by decide) (by decide) ?_
  rintro _ h8 ⟨rfl, hh⟩ -
  replace hh := hh.symm
  subst hh
  dsimp only [Option.toList, List.cons_append, List.nil_append]
  refine K_lreturn C (pc := 9) d7_9 (by decide) (by decide) (fun _ _ => ⟨rfl, rfl⟩)
theorem own_rg {x : Int32} {lo hi : Int64} (h1 : lo.toInt ≤ x.toInt) (h2 : x.toInt ≤ hi.toInt) : ¬ x.toInt64 < lo ∧ ¬ hi < x.toInt64 := by
  rw [Int64.lt_iff_toInt_lt, Int64.lt_iff_toInt_lt, own_i64]
  omega
theorem own_nsh {x : Int32} (h : 0 ≤ x.toInt ∧ x.toInt < 32768) : nar .short (x.toInt16.toInt32) = x := by
  rw [own_short h.1 h.2]
  exact own_short h.1 h.2
theorem pno_13 : plainFor (⟨"java/time/LocalDate", "<init>", "(III)V"⟩ : MethodName) = true := by first | exact plainFor_of_name (by first | (simp [plainName, overriddenIn]; done) | decide +kernel) | decide +kernel
theorem efo_13 (m : MethodId) (x0 : Addr) (x1 : Int32) (x2 : Int32) (x3 : Int32) : entryFrame m #[.ref x0, .int x1, .int x2, .int x3] 4 = oF m 0 [.val (.ref x0), .val (.int x1), .val (.int x2), .val (.int x3)] [] := by (first | (simp [entryFrame, oF, mkF, argsToLocals, Value.category]; done) | rfl)
set_option maxRecDepth 65536 in
set_option maxHeartbeats 40000000 in
theorem mLDI (l : Launch) (Z : State) (a0 : Array Value) (hw : ∀ d ∈ tables_1, d.before a0 Z = true) (a : Addr) (y m_ d_ : Int32) (h0 : Heap) (hya : Z.heap.size ≤ a) (hm : 0 ≤ m_.toInt ∧ m_.toInt < 32768) (hd : 0 ≤ d_.toInt ∧ d_.toInt < 32768) (X : Exa Z h0 a "java/time/LocalDate") (FY : Fld Z h0 a "java/time/LocalDate" "year" "I" (.int 0)) (FM : Fld Z h0 a "java/time/LocalDate" "month" "S" (.int 0)) (FD : Fld Z h0 a "java/time/LocalDate" "day" "S" (.int 0)) :
    oMeets l Z (⟨"java/time/LocalDate", "<init>", "(III)V"⟩ : MethodName) jdk_2323_method_14_code 4 none ({ frames := 1, cells := 0, slots := 0, locals := 20 } : Room) #[.ref a, .int y, .int m_, .int d_] h0 (fun x => x = a ∨ h0.size ≤ x) (fun v h => v = none ∧ oLD Z h a y m_ d_) := by
  refine oMeets.of pno_13 (fun _ q => Or.inr q) (fun E x q => q.elim (fun r => r ▸ hya) (fun r => Nat.le_trans E.1 r)) (Ls := [.val (.ref a), .val (.int y), .val (.int m_), .val (.int d_)]) (fun m => efo_13 m a y m_ d_) ?_
  intro p e s m below meth c C hs
  refine K_aloadN C (pc := 0) d13_0 rfl (by first | rfl | assumption) ?_
  refine K_initO C (pc := 1) (tw77 hw) (tw78 hw) (tw79 hw) d13_1 rfl (by decide) (Nat.le_of_ble_eq_true rfl) ?_
  refine K_aloadN C (pc := 4) d13_4 rfl (by first | rfl | assumption) ?_
  refine K_iloadN C (pc := 5) d13_5 rfl ?_
  refine K_putF C (pc := 6) (tw80 hw) Via.refl FY X (Or.inr ⟨(tw81 hw), rfl, rfl⟩) (tw72 hw) (ty := .int) (by decide) rfl rfl (Or.inl rfl) d13_6 ?_
  intro h1 W1
  replace FY := Fld.same W1 FY
  replace FM := (Fld.other W1 FM (Or.inr (slot_ne (Or.inr (tw83 hw)) (Or.inr (tw81 hw)) (by decide) (t := .short) (t' := .int) (by decide) (by decide))))
  replace FD := (Fld.other W1 FD (Or.inr (slot_ne (Or.inr (tw85 hw)) (Or.inr (tw81 hw)) (by decide) (t := .short) (t' := .int) (by decide) (by decide))))
  replace X := X.wr W1
  refine K_aloadN C (pc := 9) d13_9 rfl (by first | rfl | assumption) ?_
  refine K_iloadN C (pc := 10) d13_10 rfl ?_
  refine K_i2s C (pc := 11) d13_11 ?_
  refine K_putFn C (pc := 12) (tw82 hw) Via.refl FM X (Or.inr ⟨(tw83 hw), rfl, rfl⟩) (tw72 hw) (ty := .short) (by decide) rfl (fits_nar_short _) (Or.inl rfl) d13_12 ?_
  intro h2 W2
  replace FY := (Fld.other W2 FY (Or.inr (slot_ne (Or.inr (tw81 hw)) (Or.inr (tw83 hw)) (by decide) (t := .int) (t' := .short) (by decide) (by decide))))
  replace FM : Fld Z h2 a "java/time/LocalDate" "month" "S" (.int m_) := by have q := Fld.same W2 FM; rwa [show narrow .short (.int (m_.toInt16.toInt32)) = .int m_ from congrArg Value.int (own_nsh hm)] at q
  replace FD := (Fld.other W2 FD (Or.inr (slot_ne (Or.inr (tw85 hw)) (Or.inr (tw83 hw)) (by decide) (t := .short) (t' := .short) (by decide) (by decide))))
  replace X := X.wr W2
  refine K_aloadN C (pc := 15) d13_15 rfl (by first | rfl | assumption) ?_
  refine K_iloadN C (pc := 16) d13_16 rfl ?_
  refine K_i2s C (pc := 17) d13_17 ?_
  refine K_putFn C (pc := 18) (tw84 hw) Via.refl FD X (Or.inr ⟨(tw85 hw), rfl, rfl⟩) (tw72 hw) (ty := .short) (by decide) rfl (fits_nar_short _) (Or.inl rfl) d13_18 ?_
  intro h3 W3
  replace FY := (Fld.other W3 FY (Or.inr (slot_ne (Or.inr (tw81 hw)) (Or.inr (tw85 hw)) (by decide) (t := .int) (t' := .short) (by decide) (by decide))))
  replace FM := (Fld.other W3 FM (Or.inr (slot_ne (Or.inr (tw83 hw)) (Or.inr (tw85 hw)) (by decide) (t := .short) (t' := .short) (by decide) (by decide))))
  replace FD : Fld Z h3 a "java/time/LocalDate" "day" "S" (.int d_) := by have q := Fld.same W3 FD; rwa [show narrow .short (.int (d_.toInt16.toInt32)) = .int d_ from congrArg Value.int (own_nsh hd)] at q
  replace X := X.wr W3
  refine K_return C (pc := 21) d13_21 (by decide) (by decide) (fun _ _ => ⟨rfl, X, FY, FM, FD⟩)
theorem pno_23 : plainFor (⟨"java/time/LocalDate", "getYear", "()I"⟩ : MethodName) = true := by first | exact plainFor_of_name (by first | (simp [plainName, overriddenIn]; done) | decide +kernel) | decide +kernel
theorem efo_23 (m : MethodId) (x0 : Addr) : entryFrame m #[.ref x0] 1 = oF m 0 [.val (.ref x0)] [] := by (first | (simp [entryFrame, oF, mkF, argsToLocals, Value.category]; done) | rfl)
set_option maxRecDepth 65536 in
set_option maxHeartbeats 40000000 in
theorem mLY (l : Launch) (Z : State) (a0 : Array Value) (hw : ∀ d ∈ tables_1, d.before a0 Z = true) (a : Addr) (y m_ d_ : Int32) (h0 : Heap) (F : oLD Z h0 a y m_ d_) :
    oMeets l Z (⟨"java/time/LocalDate", "getYear", "()I"⟩ : MethodName) jdk_2323_method_24_code 1 (some .int) ({ frames := 0, cells := 0, slots := 0, locals := 0 } : Room) #[.ref a] h0 (fun a => h0.size ≤ a) (fun v h => v = some (.int y) ∧ h = h0) := by
  refine oMeets.of pno_23 (fun _ q => q) (fun E _ q => Nat.le_trans E.1 q) (Ls := [.val (.ref a)]) (fun m => efo_23 m a) ?_
  intro p e s m below meth c C hs
  refine K_aloadN C (pc := 0) d23_0 rfl (by first | rfl | assumption) ?_
  refine K_getF C (pc := 1) (tw80 hw) Via.refl F.2.1 d23_1 ?_
  refine K_ireturn C (pc := 4) d23_4 (by simp) rfl (by decide) (by decide) (fun _ _ => ⟨rfl, rfl⟩)
theorem pno_24 : plainFor (⟨"java/time/LocalDate", "getMonthValue", "()I"⟩ : MethodName) = true := by first | exact plainFor_of_name (by first | (simp [plainName, overriddenIn]; done) | decide +kernel) | decide +kernel
theorem efo_24 (m : MethodId) (x0 : Addr) : entryFrame m #[.ref x0] 1 = oF m 0 [.val (.ref x0)] [] := by (first | (simp [entryFrame, oF, mkF, argsToLocals, Value.category]; done) | rfl)
set_option maxRecDepth 65536 in
set_option maxHeartbeats 40000000 in
theorem mLM (l : Launch) (Z : State) (a0 : Array Value) (hw : ∀ d ∈ tables_1, d.before a0 Z = true) (a : Addr) (y m_ d_ : Int32) (h0 : Heap) (F : oLD Z h0 a y m_ d_) :
    oMeets l Z (⟨"java/time/LocalDate", "getMonthValue", "()I"⟩ : MethodName) jdk_2323_method_25_code 1 (some .int) ({ frames := 0, cells := 0, slots := 0, locals := 0 } : Room) #[.ref a] h0 (fun a => h0.size ≤ a) (fun v h => v = some (.int m_) ∧ h = h0) := by
  refine oMeets.of pno_24 (fun _ q => q) (fun E _ q => Nat.le_trans E.1 q) (Ls := [.val (.ref a)]) (fun m => efo_24 m a) ?_
  intro p e s m below meth c C hs
  refine K_aloadN C (pc := 0) d24_0 rfl (by first | rfl | assumption) ?_
  refine K_getF C (pc := 1) (tw82 hw) Via.refl F.2.2.1 d24_1 ?_
  refine K_ireturn C (pc := 4) d24_4 (by simp) rfl (by decide) (by decide) (fun _ _ => ⟨rfl, rfl⟩)
theorem pno_39 : plainFor (⟨"java/time/LocalDate", "getDayOfMonth", "()I"⟩ : MethodName) = true := by first | exact plainFor_of_name (by first | (simp [plainName, overriddenIn]; done) | decide +kernel) | decide +kernel
theorem efo_39 (m : MethodId) (x0 : Addr) : entryFrame m #[.ref x0] 1 = oF m 0 [.val (.ref x0)] [] := by (first | (simp [entryFrame, oF, mkF, argsToLocals, Value.category]; done) | rfl)
set_option maxRecDepth 65536 in
set_option maxHeartbeats 40000000 in
theorem mLD (l : Launch) (Z : State) (a0 : Array Value) (hw : ∀ d ∈ tables_1, d.before a0 Z = true) (a : Addr) (y m_ d_ : Int32) (h0 : Heap) (F : oLD Z h0 a y m_ d_) :
    oMeets l Z (⟨"java/time/LocalDate", "getDayOfMonth", "()I"⟩ : MethodName) jdk_2323_method_27_code 1 (some .int) ({ frames := 0, cells := 0, slots := 0, locals := 0 } : Room) #[.ref a] h0 (fun a => h0.size ≤ a) (fun v h => v = some (.int d_) ∧ h = h0) := by
  refine oMeets.of pno_39 (fun _ q => q) (fun E _ q => Nat.le_trans E.1 q) (Ls := [.val (.ref a)]) (fun m => efo_39 m a) ?_
  intro p e s m below meth c C hs
  refine K_aloadN C (pc := 0) d39_0 rfl (by first | rfl | assumption) ?_
  refine K_getF C (pc := 1) (tw84 hw) Via.refl F.2.2.2 d39_1 ?_
  refine K_ireturn C (pc := 4) d39_4 (by simp) rfl (by decide) (by decide) (fun _ _ => ⟨rfl, rfl⟩)
theorem pno_22 : plainFor (⟨"java/time/LocalDate", "compareTo0", "(Ljava/time/LocalDate;)I"⟩ : MethodName) = true := by first | exact plainFor_of_name (by first | (simp [plainName, overriddenIn]; done) | decide +kernel) | decide +kernel
theorem efo_22 (m : MethodId) (x0 : Addr) (x1 : Addr) : entryFrame m #[.ref x0, .ref x1] 3 = oF m 0 [.val (.ref x0), .val (.ref x1), .unset] [] := by (first | (simp [entryFrame, oF, mkF, argsToLocals, Value.category]; done) | rfl)
set_option maxRecDepth 65536 in
set_option maxHeartbeats 40000000 in
theorem mCT0 (l : Launch) (Z : State) (a0 : Array Value) (hw : ∀ d ∈ tables_1, d.before a0 Z = true) (a b : Addr) (y1 m1 d1 y2 m2 d2 : Int32) (h0 : Heap) (F : oLD Z h0 a y1 m1 d1) (G : oLD Z h0 b y2 m2 d2) :
    oMeets l Z (⟨"java/time/LocalDate", "compareTo0", "(Ljava/time/LocalDate;)I"⟩ : MethodName) jdk_2323_method_70_code 3 (some .int) ({ frames := 0, cells := 0, slots := 0, locals := 0 } : Room) #[.ref a, .ref b] h0 (fun a => h0.size ≤ a) (fun v h => v = some (.int (own_cmp0 y1 m1 d1 y2 m2 d2)) ∧ h = h0) := by
  refine oMeets.of pno_22 (fun _ q => q) (fun E _ q => Nat.le_trans E.1 q) (Ls := [.val (.ref a), .val (.ref b), .unset]) (fun m => efo_22 m a b) ?_
  intro p e s m below meth c C hs
  refine K_aloadN C (pc := 0) d22_0 rfl (by first | rfl | assumption) ?_
  refine K_getF C (pc := 1) (tw80 hw) Via.refl F.2.1 d22_1 ?_
  refine K_aloadN C (pc := 4) d22_4 rfl (by first | rfl | assumption) ?_
  refine K_getF C (pc := 5) (tw80 hw) Via.refl G.2.1 d22_5 ?_
  refine K_isub C (pc := 8) d22_8 ?_
  refine K_istoreN C (pc := 9) (Ls' := [_, _, _]) d22_9 rfl ?_
  refine K_iloadN C (pc := 10) d22_10 rfl ?_
  refine K_if C (pc := 11) 38 d22_11 (by decide) (by decide) (fun hc11 => ?_) (fun hc11 => ?_)
  · simp only [oC, Classical.not_not] at hc11
    refine K_iloadN C (pc := 38) d22_38 rfl ?_
    have eE : own_cmp0 y1 m1 d1 y2 m2 d2 = _ := if_neg hc11
    refine K_ireturn C (pc := 39) d22_39 (by simp) rfl (by decide) (by decide) (fun _ _ => ⟨by rw [eE]; rfl, rfl⟩)
  · simp only [oC, Classical.not_not] at hc11
    refine K_aloadN C (pc := 14) d22_14 rfl (by first | rfl | assumption) ?_
    refine K_getF C (pc := 15) (tw82 hw) Via.refl F.2.2.1 d22_15 ?_
    refine K_aloadN C (pc := 18) d22_18 rfl (by first | rfl | assumption) ?_
    refine K_getF C (pc := 19) (tw82 hw) Via.refl G.2.2.1 d22_19 ?_
    refine K_isub C (pc := 22) d22_22 ?_
    refine K_istoreN C (pc := 23) (Ls' := [_, _, _]) d22_23 rfl ?_
    refine K_iloadN C (pc := 24) d22_24 rfl ?_
    refine K_if C (pc := 25) 38 d22_25 (by decide) (by decide) (fun hc25 => ?_) (fun hc25 => ?_)
    · simp only [oC, Classical.not_not] at hc25
      refine K_iloadN C (pc := 38) d22_38 rfl ?_
      have eE : own_cmp0 y1 m1 d1 y2 m2 d2 = _ := (if_pos hc11).trans (if_neg hc25)
      refine K_ireturn C (pc := 39) d22_39 (by simp) rfl (by decide) (by decide) (fun _ _ => ⟨by rw [eE]; rfl, rfl⟩)
    · simp only [oC, Classical.not_not] at hc25
      refine K_aloadN C (pc := 28) d22_28 rfl (by first | rfl | assumption) ?_
      refine K_getF C (pc := 29) (tw84 hw) Via.refl F.2.2.2 d22_29 ?_
      refine K_aloadN C (pc := 32) d22_32 rfl (by first | rfl | assumption) ?_
      refine K_getF C (pc := 33) (tw84 hw) Via.refl G.2.2.2 d22_33 ?_
      refine K_isub C (pc := 36) d22_36 ?_
      refine K_istoreN C (pc := 37) (Ls' := [_, _, _]) d22_37 rfl ?_
      refine K_iloadN C (pc := 38) d22_38 rfl ?_
      have eE : own_cmp0 y1 m1 d1 y2 m2 d2 = _ := (if_pos hc11).trans (if_pos hc25)
      refine K_ireturn C (pc := 39) d22_39 (by simp) rfl (by decide) (by decide) (fun _ _ => ⟨by rw [eE]; rfl, rfl⟩)
theorem pno_21 : plainFor (⟨"java/time/LocalDate", "isBefore", "(Ljava/time/chrono/ChronoLocalDate;)Z"⟩ : MethodName) = true := by first | exact plainFor_of_name (by first | (simp [plainName, overriddenIn]; done) | decide +kernel) | decide +kernel
theorem efo_21 (m : MethodId) (x0 : Addr) (x1 : Addr) : entryFrame m #[.ref x0, .ref x1] 2 = oF m 0 [.val (.ref x0), .val (.ref x1)] [] := by (first | (simp [entryFrame, oF, mkF, argsToLocals, Value.category]; done) | rfl)
set_option maxRecDepth 65536 in
set_option maxHeartbeats 40000000 in
theorem mBEF (l : Launch) (Z : State) (a0 : Array Value) (hw : ∀ d ∈ tables_1, d.before a0 Z = true) (a b : Addr) (y1 m1 d1 y2 m2 d2 : Int32) (h0 : Heap) (F : oLD Z h0 a y1 m1 d1) (G : oLD Z h0 b y2 m2 d2) (hD1 : oDt y1 m1 d1) (hD2 : oDt y2 m2 d2) :
    oMeets l Z (⟨"java/time/LocalDate", "isBefore", "(Ljava/time/chrono/ChronoLocalDate;)Z"⟩ : MethodName) jdk_2323_method_72_code 2 (some .boolean) ({ frames := 1, cells := 0, slots := 0, locals := 20 } : Room) #[.ref a, .ref b] h0 (fun a => h0.size ≤ a) (fun v h => ∃ r : Int32, v = some (.int r) ∧ h = h0 ∧ ((r = 1 ∧ own_key y1 m1 d1 < own_key y2 m2 d2) ∨ (r = 0 ∧ ¬ own_key y1 m1 d1 < own_key y2 m2 d2))) := by
  refine oMeets.of pno_21 (fun _ q => q) (fun E _ q => Nat.le_trans E.1 q) (Ls := [.val (.ref a), .val (.ref b)]) (fun m => efo_21 m a b) ?_
  intro p e s m below meth c C hs
  refine K_aloadN C (pc := 0) d21_0 rfl (by first | rfl | assumption) ?_
  refine K_instY C (pc := 1) (tw71 hw) (Ins.self G.1) d21_1 ?_
  refine K_if C (pc := 4) 24 d21_4 (by decide) (by decide) (fun hc4 => ?_) (fun hc4 => ?_)
  · simp only [oC, Classical.not_not] at hc4
    exact absurd hc4 (by decide)
  · simp only [oC, Classical.not_not] at hc4
    refine K_aloadN C (pc := 7) d21_7 rfl (by first | rfl | assumption) ?_
    refine K_aloadN C (pc := 8) d21_8 rfl (by first | rfl | assumption) ?_
    refine K_castY C (pc := 9) (tw71 hw) (Ins.self G.1) d21_9 ?_
    refine K_virtual C (pc := 12) (mCT0 l Z a0 hw a b y1 m1 d1 y2 m2 d2 _ F G) (F.1) (tw137 hw) (tw138 hw) (oNF (tw140 hw)) (tw140 hw) (tw139 hw) (tw22 hw) (tw141 hw) (by decide) pdo_13 d21_12 (argsL := [_]) (rest := _) rfl rfl rfl rfl (fun a q r => C.new a (Nat.le_trans q r)) (by decide) (Nat.le_of_ble_eq_true rfl) (by decide) (by decide) ?_
    rintro _ h8 ⟨rfl, hh⟩ -
    replace hh := hh.symm
    subst hh
    dsimp only [Option.toList, List.cons_append, List.nil_append]
    refine K_if C (pc := 15) 22 d21_15 (by decide) (by decide) (fun hc15 => ?_) (fun hc15 => ?_)
    · simp only [oC, Classical.not_not] at hc15
      refine K_iconst C (pc := 22) 0 d21_22 (by decide) ?_
      refine K_ireturn C (pc := 23) d21_23 (by simp) (z' := 0) (by decide) (by decide) (by decide) (fun _ _ => ⟨0, rfl, rfl, Or.inr ⟨rfl, fun z => hc15 ((own_cmpI hD1 hD2).mpr z)⟩⟩)
    · simp only [oC, Classical.not_not] at hc15
      refine K_iconst C (pc := 18) 1 d21_18 (by decide) ?_
      refine K_goto C (pc := 19) 23 d21_19 (by decide) (by decide) ?_
      refine K_ireturn C (pc := 23) d21_23 (by simp) (z' := 1) (by decide) (by decide) (by decide) (fun _ _ => ⟨1, rfl, rfl, Or.inl ⟨rfl, (own_cmpI hD1 hD2).mp hc15⟩⟩)
theorem pno_29 : plainFor (⟨"java/time/YearMonth", "<init>", "(II)V"⟩ : MethodName) = true := by first | exact plainFor_of_name (by first | (simp [plainName, overriddenIn]; done) | decide +kernel) | decide +kernel
theorem efo_29 (m : MethodId) (x0 : Addr) (x1 : Int32) (x2 : Int32) : entryFrame m #[.ref x0, .int x1, .int x2] 3 = oF m 0 [.val (.ref x0), .val (.int x1), .val (.int x2)] [] := by (first | (simp [entryFrame, oF, mkF, argsToLocals, Value.category]; done) | rfl)
set_option maxRecDepth 65536 in
set_option maxHeartbeats 40000000 in
theorem mYMI (l : Launch) (Z : State) (a0 : Array Value) (hw : ∀ d ∈ tables_1, d.before a0 Z = true) (a : Addr) (y m_ : Int32) (h0 : Heap) (hya : Z.heap.size ≤ a) (X : Exa Z h0 a "java/time/YearMonth") (FY : Fld Z h0 a "java/time/YearMonth" "year" "I" (.int 0)) (FM : Fld Z h0 a "java/time/YearMonth" "month" "I" (.int 0)) :
    oMeets l Z (⟨"java/time/YearMonth", "<init>", "(II)V"⟩ : MethodName) jdk_2340_method_9_code 3 none ({ frames := 1, cells := 0, slots := 0, locals := 20 } : Room) #[.ref a, .int y, .int m_] h0 (fun x => x = a ∨ h0.size ≤ x) (fun v h => v = none ∧ oYM Z h a y m_) := by
  refine oMeets.of pno_29 (fun _ q => Or.inr q) (fun E x q => q.elim (fun r => r ▸ hya) (fun r => Nat.le_trans E.1 r)) (Ls := [.val (.ref a), .val (.int y), .val (.int m_)]) (fun m => efo_29 m a y m_) ?_
  intro p e s m below meth c C hs
  refine K_aloadN C (pc := 0) d29_0 rfl (by first | rfl | assumption) ?_
  refine K_initO C (pc := 1) (tw177 hw) (tw78 hw) (tw79 hw) d29_1 rfl (by decide) (Nat.le_of_ble_eq_true rfl) ?_
  refine K_aloadN C (pc := 4) d29_4 rfl (by first | rfl | assumption) ?_
  refine K_iloadN C (pc := 5) d29_5 rfl ?_
  refine K_putF C (pc := 6) (tw178 hw) Via.refl FY X (Or.inr ⟨(tw179 hw), rfl, rfl⟩) (tw172 hw) (ty := .int) (by decide) rfl rfl (Or.inl rfl) d29_6 ?_
  intro h1 W1
  replace FY := Fld.same W1 FY
  replace FM := (Fld.other W1 FM (Or.inr (slot_ne (Or.inr (tw181 hw)) (Or.inr (tw179 hw)) (by decide) (t := .int) (t' := .int) (by decide) (by decide))))
  replace X := X.wr W1
  refine K_aloadN C (pc := 9) d29_9 rfl (by first | rfl | assumption) ?_
  refine K_iloadN C (pc := 10) d29_10 rfl ?_
  refine K_putF C (pc := 11) (tw180 hw) Via.refl FM X (Or.inr ⟨(tw181 hw), rfl, rfl⟩) (tw172 hw) (ty := .int) (by decide) rfl rfl (Or.inl rfl) d29_11 ?_
  intro h2 W2
  replace FY := (Fld.other W2 FY (Or.inr (slot_ne (Or.inr (tw179 hw)) (Or.inr (tw181 hw)) (by decide) (t := .int) (t' := .int) (by decide) (by decide))))
  replace FM := Fld.same W2 FM
  replace X := X.wr W2
  refine K_return C (pc := 14) d29_14 (by decide) (by decide) (fun _ _ => ⟨rfl, X, FY, FM⟩)
theorem pno_28 : plainFor (⟨"java/time/YearMonth", "of", "(II)Ljava/time/YearMonth;"⟩ : MethodName) = true := by first | exact plainFor_of_name (by first | (simp [plainName, overriddenIn]; done) | decide +kernel) | decide +kernel
theorem efo_28 (m : MethodId) (x0 : Int32) (x1 : Int32) : entryFrame m #[.int x0, .int x1] 2 = oF m 0 [.val (.int x0), .val (.int x1)] [] := by (first | (simp [entryFrame, oF, mkF, argsToLocals, Value.category]; done) | rfl)
set_option maxRecDepth 65536 in
set_option maxHeartbeats 40000000 in
theorem mYMO (l : Launch) (Z : State) (a0 : Array Value) (hw : ∀ d ∈ tables_1, d.before a0 Z = true) (W : oSt Z) (y m_ : Int32) (h0 : Heap) (hy : 0 ≤ y.toInt ∧ y.toInt ≤ 999999999) (hm : 1 ≤ m_.toInt ∧ m_.toInt ≤ 12) :
    oMeets l Z (⟨"java/time/YearMonth", "of", "(II)Ljava/time/YearMonth;"⟩ : MethodName) jdk_2340_method_5_code 2 (some (.object "java/time/YearMonth")) ({ frames := 4, cells := 1, slots := 2, locals := 120 } : Room) #[.int y, .int m_] h0 (fun a => h0.size ≤ a) (fun v h => ∃ a, v = some (.ref a) ∧ oYM Z h a y m_) := by
  refine oMeets.of pno_28 (fun _ q => q) (fun E _ q => Nat.le_trans E.1 q) (Ls := [.val (.int y), .val (.int m_)]) (fun m => efo_28 m y m_) ?_
  intro p e s m below meth c C hs
  refine K_old C (fun hE hle _ => ?_)
  obtain ⟨fy, SY, Ffy⟩ := W.year
  obtain ⟨fm, SM, Ffm⟩ := W.mon
  have r1 := own_rg (x := y) (lo := -999999999) (hi := 999999999) (by have e : (-999999999 : Int64).toInt = -999999999 := (by decide); omega) (by have e : (999999999 : Int64).toInt = 999999999 := (by decide); omega)
  have r2 := own_rg (x := m_) (lo := 1) (hi := 12) (by have e : (1 : Int64).toInt = 1 := (by decide); omega) (by have e : (12 : Int64).toInt = 12 := (by decide); omega)
  refine K_getS C (pc := 0) (tw168 hw) Via.refl SY d28_0 ?_
  refine K_iloadN C (pc := 3) d28_3 rfl ?_
  refine K_i2l C (pc := 4) d28_4 ?_
  refine K_virtual C (pc := 5) (mCVV l Z a0 hw fy y.toInt64 (-999999999) 999999999 _ (Ffy.ext hE) r1.1 r1.2) ((Ffy.ext hE).1) (tw169 hw) (tw27 hw) (oNF (tw29 hw)) (tw29 hw) (tw28 hw) (tw25 hw) (tw30 hw) (by decide) pdo_3 d28_5 (argsL := [_]) (rest := _) rfl rfl rfl rfl (fun a q r => C.new a (Nat.le_trans q r)) (by decide) (Nat.le_of_ble_eq_true rfl) (by decide) (by decide) ?_
  rintro _ h8 ⟨rfl, hh⟩ -
  replace hh := hh.symm
  subst hh
  dsimp only [Option.toList, List.cons_append, List.nil_append]
  refine K_pop2 C (pc := 8) d28_8 ?_
  refine K_getS C (pc := 9) (tw170 hw) Via.refl SM d28_9 ?_
  refine K_iloadN C (pc := 12) d28_12 rfl ?_
  refine K_i2l C (pc := 13) d28_13 ?_
  refine K_virtual C (pc := 14) (mCVV l Z a0 hw fm m_.toInt64 1 12 _ (Ffm.ext hE) r2.1 r2.2) ((Ffm.ext hE).1) (tw169 hw) (tw27 hw) (oNF (tw29 hw)) (tw29 hw) (tw28 hw) (tw25 hw) (tw30 hw) (by decide) pdo_3 d28_14 (argsL := [_]) (rest := _) rfl rfl rfl rfl (fun a q r => C.new a (Nat.le_trans q r)) (by decide) (Nat.le_of_ble_eq_true rfl) (by decide) (by decide) ?_
  rintro _ h8 ⟨rfl, hh⟩ -
  replace hh := hh.symm
  subst hh
  dsimp only [Option.toList, List.cons_append, List.nil_append]
  refine K_pop2 C (pc := 17) d28_17 ?_
  refine K_new C (pc := 18) (tw171 hw) (tw172 hw) (tw166 hw) d28_18 (by decide) (by decide) ?_
  intro h1 a ha hPa E1 X1 D1
  have FY := D1 (Or.inr (tw179 hw)) (ty := .int) (by decide)
  have FM := D1 (Or.inr (tw181 hw)) (ty := .int) (by decide)
  refine K_dup C (pc := 21) d28_21 rfl ?_
  refine K_iloadN C (pc := 22) d28_22 rfl ?_
  refine K_iloadN C (pc := 23) d28_23 rfl ?_
  refine K_special C (pc := 24) (mYMI l Z a0 hw a y m_ _ (C.young a hPa) X1 FY FM) (tw173 hw) (tw174 hw) (tw166 hw) (tw176 hw) rfl (by decide) pdo_14 d28_24 (argsL := [_, _]) (rest := _) rfl rfl rfl rfl (fun x q r => r.elim (fun z => z ▸ hPa) (fun z => C.new x (Nat.le_trans q z))) (by decide) (Nat.le_of_ble_eq_true rfl) (by decide) (by decide) ?_
  rintro _ h2 ⟨rfl, F2⟩ -
  dsimp only [Option.toList, List.cons_append, List.nil_append]
  refine K_areturn C (pc := 27) d28_27 rfl rfl rfl (by decide) (by decide) (fun _ _ => ⟨_, rfl, F2⟩)
theorem pno_62 : plainFor (⟨"java/time/YearMonth", "getYear", "()I"⟩ : MethodName) = true := by first | exact plainFor_of_name (by first | (simp [plainName, overriddenIn]; done) | decide +kernel) | decide +kernel
theorem efo_62 (m : MethodId) (x0 : Addr) : entryFrame m #[.ref x0] 1 = oF m 0 [.val (.ref x0)] [] := by (first | (simp [entryFrame, oF, mkF, argsToLocals, Value.category]; done) | rfl)
set_option maxRecDepth 65536 in
set_option maxHeartbeats 40000000 in
theorem mYY (l : Launch) (Z : State) (a0 : Array Value) (hw : ∀ d ∈ tables_1, d.before a0 Z = true) (a : Addr) (y m_ : Int32) (h0 : Heap) (F : oYM Z h0 a y m_) :
    oMeets l Z (⟨"java/time/YearMonth", "getYear", "()I"⟩ : MethodName) jdk_2340_method_17_code 1 (some .int) ({ frames := 0, cells := 0, slots := 0, locals := 0 } : Room) #[.ref a] h0 (fun a => h0.size ≤ a) (fun v h => v = some (.int y) ∧ h = h0) := by
  refine oMeets.of pno_62 (fun _ q => q) (fun E _ q => Nat.le_trans E.1 q) (Ls := [.val (.ref a)]) (fun m => efo_62 m a) ?_
  intro p e s m below meth c C hs
  refine K_aloadN C (pc := 0) d62_0 rfl (by first | rfl | assumption) ?_
  refine K_getF C (pc := 1) (tw178 hw) Via.refl F.2.1 d62_1 ?_
  refine K_ireturn C (pc := 4) d62_4 (by simp) rfl (by decide) (by decide) (fun _ _ => ⟨rfl, rfl⟩)
theorem pno_63 : plainFor (⟨"java/time/YearMonth", "getMonthValue", "()I"⟩ : MethodName) = true := by first | exact plainFor_of_name (by first | (simp [plainName, overriddenIn]; done) | decide +kernel) | decide +kernel
theorem efo_63 (m : MethodId) (x0 : Addr) : entryFrame m #[.ref x0] 1 = oF m 0 [.val (.ref x0)] [] := by (first | (simp [entryFrame, oF, mkF, argsToLocals, Value.category]; done) | rfl)
set_option maxRecDepth 65536 in
set_option maxHeartbeats 40000000 in
theorem mYMV (l : Launch) (Z : State) (a0 : Array Value) (hw : ∀ d ∈ tables_1, d.before a0 Z = true) (a : Addr) (y m_ : Int32) (h0 : Heap) (F : oYM Z h0 a y m_) :
    oMeets l Z (⟨"java/time/YearMonth", "getMonthValue", "()I"⟩ : MethodName) jdk_2340_method_18_code 1 (some .int) ({ frames := 0, cells := 0, slots := 0, locals := 0 } : Room) #[.ref a] h0 (fun a => h0.size ≤ a) (fun v h => v = some (.int m_) ∧ h = h0) := by
  refine oMeets.of pno_63 (fun _ q => q) (fun E _ q => Nat.le_trans E.1 q) (Ls := [.val (.ref a)]) (fun m => efo_63 m a) ?_
  intro p e s m below meth c C hs
  refine K_aloadN C (pc := 0) d63_0 rfl (by first | rfl | assumption) ?_
  refine K_getF C (pc := 1) (tw180 hw) Via.refl F.2.2 d63_1 ?_
  refine K_ireturn C (pc := 4) d63_4 (by simp) rfl (by decide) (by decide) (fun _ _ => ⟨rfl, rfl⟩)
theorem pno_36 : plainFor (⟨"java/lang/Enum", "ordinal", "()I"⟩ : MethodName) = true := by first | exact plainFor_of_name (by first | (simp [plainName, overriddenIn]; done) | decide +kernel) | decide +kernel
theorem efo_36 (m : MethodId) (x0 : Addr) : entryFrame m #[.ref x0] 1 = oF m 0 [.val (.ref x0)] [] := by (first | (simp [entryFrame, oF, mkF, argsToLocals, Value.category]; done) | rfl)
set_option maxRecDepth 65536 in
set_option maxHeartbeats 40000000 in
theorem mORD (l : Launch) (Z : State) (a0 : Array Value) (hw : ∀ d ∈ tables_1, d.before a0 Z = true) (a : Addr) (i : Int32) (h0 : Heap) (F : Fld Z h0 a "java/lang/Enum" "ordinal" "I" (.int i)) :
    oMeets l Z (⟨"java/lang/Enum", "ordinal", "()I"⟩ : MethodName) jdk_37_method_2_code 1 (some .int) ({ frames := 0, cells := 0, slots := 0, locals := 0 } : Room) #[.ref a] h0 (fun a => h0.size ≤ a) (fun v h => v = some (.int i) ∧ h = h0) := by
  refine oMeets.of pno_36 (fun _ q => q) (fun E _ q => Nat.le_trans E.1 q) (Ls := [.val (.ref a)]) (fun m => efo_36 m a) ?_
  intro p e s m below meth c C hs
  refine K_aloadN C (pc := 0) d36_0 rfl (by first | rfl | assumption) ?_
  refine K_getF C (pc := 1) (tw224 hw) Via.refl F d36_1 ?_
  refine K_ireturn C (pc := 4) d36_4 (by simp) rfl (by decide) (by decide) (fun _ _ => ⟨rfl, rfl⟩)
theorem pno_35 : plainFor (⟨"java/time/Month", "length", "(Z)I"⟩ : MethodName) = true := by first | exact plainFor_of_name (by first | (simp [plainName, overriddenIn]; done) | decide +kernel) | decide +kernel
theorem efo_35 (m : MethodId) (x0 : Addr) (x1 : Int32) : entryFrame m #[.ref x0, .int x1] 2 = oF m 0 [.val (.ref x0), .val (.int x1)] [] := by (first | (simp [entryFrame, oF, mkF, argsToLocals, Value.category]; done) | rfl)
set_option maxRecDepth 65536 in
set_option maxHeartbeats 40000000 in
theorem mMLE (l : Launch) (Z : State) (a0 : Array Value) (hw : ∀ d ∈ tables_1, d.before a0 Z = true) (a : Addr) (i : Nat) (z : Int32) (h0 : Heap) (X : Exa Z h0 a "java/time/Month") (F : Fld Z h0 a "java/lang/Enum" "ordinal" "I" (.int (Int32.ofNat i))) (hi : i < 12) :
    oMeets l Z (⟨"java/time/Month", "length", "(Z)I"⟩ : MethodName) jdk_2329_method_14_code 2 (some .int) ({ frames := 1, cells := 0, slots := 0, locals := 20 } : Room) #[.ref a, .int z] h0 (fun a => h0.size ≤ a) (fun v h => v = some (.int (Int32.ofNat (own_mle i z))) ∧ h = h0) := by
  refine oMeets.of pno_35 (fun _ q => q) (fun E _ q => Nat.le_trans E.1 q) (Ls := [.val (.ref a), .val (.int z)]) (fun m => efo_35 m a z) ?_
  intro p e s m below meth c C hs
  refine K_aloadN C (pc := 0) d35_0 rfl (by first | rfl | assumption) ?_
  refine K_virtualUp C (pc := 1) (mORD l Z a0 hw a (Int32.ofNat i) _ F) (X) (tw217 hw) (tw218 hw) (tw219 hw) (tw221 hw) (tw220 hw) (tw222 hw) (tw223 hw) (by decide) pdo_15 d35_1 (argsL := []) (rest := _) rfl rfl rfl rfl (fun a q r => C.new a (Nat.le_trans q r)) (by decide) (Nat.le_of_ble_eq_true rfl) (by decide) (by decide) ?_
  rintro _ h8 ⟨rfl, hh⟩ -
  replace hh := hh.symm
  subst hh
  dsimp only [Option.toList, List.cons_append, List.nil_append]
  match i, hi with
  | 0, _ =>
    refine K_tswOut C (pc := 4) 79 d35_4 (by decide) (by decide) (by decide) ?_
    refine K_bipush C (pc := 79) 31 d35_79 (by decide) ?_
    refine K_ireturn C (pc := 81) d35_81 (by simp) rfl (by decide) (by decide) (fun _ _ => ⟨congrArg (fun z => some (Value.int (Int32.ofNat z))) (rfl), rfl⟩)
  | 1, _ =>
    refine K_tsw C (pc := 4) 60 d35_4 (by decide) (o := 56) (by decide) (by decide) (by decide) ?_
    refine K_iloadN C (pc := 60) d35_60 rfl ?_
    refine K_if C (pc := 61) 69 d35_61 (by decide) (by decide) (fun hc61 => ?_) (fun hc61 => ?_)
    · simp only [oC, Classical.not_not] at hc61
      refine K_bipush C (pc := 69) 28 d35_69 (by decide) ?_
      refine K_goto C (pc := 71) 81 d35_71 (by decide) (by decide) ?_
      refine K_ireturn C (pc := 81) d35_81 (by simp) rfl (by decide) (by decide) (fun _ _ => ⟨congrArg (fun z => some (Value.int (Int32.ofNat z))) ((if_pos hc61).symm), rfl⟩)
    · simp only [oC, Classical.not_not] at hc61
      refine K_bipush C (pc := 64) 29 d35_64 (by decide) ?_
      refine K_goto C (pc := 66) 81 d35_66 (by decide) (by decide) ?_
      refine K_ireturn C (pc := 81) d35_81 (by simp) rfl (by decide) (by decide) (fun _ _ => ⟨congrArg (fun z => some (Value.int (Int32.ofNat z))) ((if_neg hc61).symm), rfl⟩)
  | 2, _ =>
    refine K_tsw C (pc := 4) 79 d35_4 (by decide) (o := 75) (by decide) (by decide) (by decide) ?_
    refine K_bipush C (pc := 79) 31 d35_79 (by decide) ?_
    refine K_ireturn C (pc := 81) d35_81 (by simp) rfl (by decide) (by decide) (fun _ _ => ⟨congrArg (fun z => some (Value.int (Int32.ofNat z))) (rfl), rfl⟩)
  | 3, _ =>
    refine K_tsw C (pc := 4) 74 d35_4 (by decide) (o := 70) (by decide) (by decide) (by decide) ?_
    refine K_bipush C (pc := 74) 30 d35_74 (by decide) ?_
    refine K_goto C (pc := 76) 81 d35_76 (by decide) (by decide) ?_
    refine K_ireturn C (pc := 81) d35_81 (by simp) rfl (by decide) (by decide) (fun _ _ => ⟨congrArg (fun z => some (Value.int (Int32.ofNat z))) (rfl), rfl⟩)
  | 4, _ =>
    refine K_tsw C (pc := 4) 79 d35_4 (by decide) (o := 75) (by decide) (by decide) (by decide) ?_
    refine K_bipush C (pc := 79) 31 d35_79 (by decide) ?_
    refine K_ireturn C (pc := 81) d35_81 (by simp) rfl (by decide) (by decide) (fun _ _ => ⟨congrArg (fun z => some (Value.int (Int32.ofNat z))) (rfl), rfl⟩)
  | 5, _ =>
    refine K_tsw C (pc := 4) 74 d35_4 (by decide) (o := 70) (by decide) (by decide) (by decide) ?_
    refine K_bipush C (pc := 74) 30 d35_74 (by decide) ?_
    refine K_goto C (pc := 76) 81 d35_76 (by decide) (by decide) ?_
    refine K_ireturn C (pc := 81) d35_81 (by simp) rfl (by decide) (by decide) (fun _ _ => ⟨congrArg (fun z => some (Value.int (Int32.ofNat z))) (rfl), rfl⟩)
  | 6, _ =>
    refine K_tsw C (pc := 4) 79 d35_4 (by decide) (o := 75) (by decide) (by decide) (by decide) ?_
    refine K_bipush C (pc := 79) 31 d35_79 (by decide) ?_
    refine K_ireturn C (pc := 81) d35_81 (by simp) rfl (by decide) (by decide) (fun _ _ => ⟨congrArg (fun z => some (Value.int (Int32.ofNat z))) (rfl), rfl⟩)
  | 7, _ =>
    refine K_tsw C (pc := 4) 79 d35_4 (by decide) (o := 75) (by decide) (by decide) (by decide) ?_
    refine K_bipush C (pc := 79) 31 d35_79 (by decide) ?_
    refine K_ireturn C (pc := 81) d35_81 (by simp) rfl (by decide) (by decide) (fun _ _ => ⟨congrArg (fun z => some (Value.int (Int32.ofNat z))) (rfl), rfl⟩)
  | 8, _ =>
    refine K_tsw C (pc := 4) 74 d35_4 (by decide) (o := 70) (by decide) (by decide) (by decide) ?_
    refine K_bipush C (pc := 74) 30 d35_74 (by decide) ?_
    refine K_goto C (pc := 76) 81 d35_76 (by decide) (by decide) ?_
    refine K_ireturn C (pc := 81) d35_81 (by simp) rfl (by decide) (by decide) (fun _ _ => ⟨congrArg (fun z => some (Value.int (Int32.ofNat z))) (rfl), rfl⟩)
  | 9, _ =>
    refine K_tsw C (pc := 4) 79 d35_4 (by decide) (o := 75) (by decide) (by decide) (by decide) ?_
    refine K_bipush C (pc := 79) 31 d35_79 (by decide) ?_
    refine K_ireturn C (pc := 81) d35_81 (by simp) rfl (by decide) (by decide) (fun _ _ => ⟨congrArg (fun z => some (Value.int (Int32.ofNat z))) (rfl), rfl⟩)
  | 10, _ =>
    refine K_tsw C (pc := 4) 74 d35_4 (by decide) (o := 70) (by decide) (by decide) (by decide) ?_
    refine K_bipush C (pc := 74) 30 d35_74 (by decide) ?_
    refine K_goto C (pc := 76) 81 d35_76 (by decide) (by decide) ?_
    refine K_ireturn C (pc := 81) d35_81 (by simp) rfl (by decide) (by decide) (fun _ _ => ⟨congrArg (fun z => some (Value.int (Int32.ofNat z))) (rfl), rfl⟩)
  | 11, _ =>
    refine K_tswOut C (pc := 4) 79 d35_4 (by decide) (by decide) (by decide) ?_
    refine K_bipush C (pc := 79) 31 d35_79 (by decide) ?_
    refine K_ireturn C (pc := 81) d35_81 (by simp) rfl (by decide) (by decide) (fun _ _ => ⟨congrArg (fun z => some (Value.int (Int32.ofNat z))) (rfl), rfl⟩)
  | i + 12, hi => omega
theorem pno_32 : plainFor (⟨"java/time/Month", "of", "(I)Ljava/time/Month;"⟩ : MethodName) = true := by first | exact plainFor_of_name (by first | (simp [plainName, overriddenIn]; done) | decide +kernel) | decide +kernel
theorem efo_32 (m : MethodId) (x0 : Int32) : entryFrame m #[.int x0] 1 = oF m 0 [.val (.int x0)] [] := by (first | (simp [entryFrame, oF, mkF, argsToLocals, Value.category]; done) | rfl)
set_option maxRecDepth 65536 in
set_option maxHeartbeats 40000000 in
theorem mMOF (l : Launch) (Z : State) (a0 : Array Value) (hw : ∀ d ∈ tables_1, d.before a0 Z = true) (W : oSt Z) (m_ : Int32) (h0 : Heap) (hm : 1 ≤ m_.toInt ∧ m_.toInt ≤ 12) :
    oMeets l Z (⟨"java/time/Month", "of", "(I)Ljava/time/Month;"⟩ : MethodName) jdk_2329_method_4_code 1 (some (.object "java/time/Month")) ({ frames := 0, cells := 0, slots := 0, locals := 0 } : Room) #[.int m_] h0 (fun a => h0.size ≤ a) (fun v h => ∃ (a : Addr), v = some (.ref a) ∧ h = h0 ∧ Exa Z h a "java/time/Month" ∧ Fld Z h a "java/lang/Enum" "ordinal" "I" (.int (Int32.ofNat (m_.toInt.toNat - 1)))) := by
  refine oMeets.of pno_32 (fun _ q => q) (fun E _ q => Nat.le_trans E.1 q) (Ls := [.val (.int m_)]) (fun m => efo_32 m m_) ?_
  intro p e s m below meth c C hs
  refine K_old C (fun hE hle _ => ?_)
  obtain ⟨ea, vs, hS, A, hvl, hvs⟩ := W.mos
  obtain ⟨b, hb, Xb, Fb⟩ := hvs (m_.toInt.toNat - 1) (by omega)
  refine K_iloadN C (pc := 0) d32_0 rfl ?_
  refine K_iconst C (pc := 1) 1 d32_1 (by decide) ?_
  refine K_icmp C (pc := 2) 11 d32_2 (by decide) (by decide) (fun hc2 => ?_) (fun hc2 => ?_)
  · simp only [oC, Classical.not_not] at hc2
    exact absurd hc2 (by rw [Int32.lt_iff_toInt_lt, show (1 : Int32).toInt = 1 from rfl]; omega)
  · simp only [oC, Classical.not_not] at hc2
    refine K_iloadN C (pc := 5) d32_5 rfl ?_
    refine K_bipush C (pc := 6) 12 d32_6 (by decide) ?_
    refine K_icmp C (pc := 8) 38 d32_8 (by decide) (by decide) (fun hc8 => ?_) (fun hc8 => ?_)
    · simp only [oC, Classical.not_not] at hc8
      refine K_getS C (pc := 38) (tw196 hw) Via.refl hS d32_38 ?_
      refine K_iloadN C (pc := 41) d32_41 rfl ?_
      refine K_iconst C (pc := 42) 1 d32_42 (by decide) ?_
      refine K_isub C (pc := 43) d32_43 ?_
      refine K_aaload2 C (pc := 44) (m_.toInt.toNat - 1) (A.ext hE) rfl (by rw [own_subI (by omega) (by decide), show (1 : Int32).toInt = 1 from rfl]; omega) hb d32_44 ?_
      refine K_areturn C (pc := 45) d32_45 rfl rfl rfl (by decide) (by decide) (fun _ _ => ⟨b, rfl, rfl, Xb.ext hE, Fb.ext hE⟩)
    · simp only [oC, Classical.not_not] at hc8
      exact absurd hc8 (by rw [Int32.lt_iff_toInt_lt, show (12 : Int32).toInt = 12 from rfl]; omega)
theorem pno_31 : plainFor (⟨"java/time/YearMonth", "getMonth", "()Ljava/time/Month;"⟩ : MethodName) = true := by first | exact plainFor_of_name (by first | (simp [plainName, overriddenIn]; done) | decide +kernel) | decide +kernel
theorem efo_31 (m : MethodId) (x0 : Addr) : entryFrame m #[.ref x0] 1 = oF m 0 [.val (.ref x0)] [] := by (first | (simp [entryFrame, oF, mkF, argsToLocals, Value.category]; done) | rfl)
set_option maxRecDepth 65536 in
set_option maxHeartbeats 40000000 in
theorem mYGM (l : Launch) (Z : State) (a0 : Array Value) (hw : ∀ d ∈ tables_1, d.before a0 Z = true) (W : oSt Z) (a : Addr) (y m_ : Int32) (h0 : Heap) (F : oYM Z h0 a y m_) (hm : 1 ≤ m_.toInt ∧ m_.toInt ≤ 12) :
    oMeets l Z (⟨"java/time/YearMonth", "getMonth", "()Ljava/time/Month;"⟩ : MethodName) jdk_2340_method_19_code 1 (some (.object "java/time/Month")) ({ frames := 1, cells := 0, slots := 0, locals := 20 } : Room) #[.ref a] h0 (fun a => h0.size ≤ a) (fun v h => ∃ (a : Addr), v = some (.ref a) ∧ h = h0 ∧ Exa Z h a "java/time/Month" ∧ Fld Z h a "java/lang/Enum" "ordinal" "I" (.int (Int32.ofNat (m_.toInt.toNat - 1)))) := by
  refine oMeets.of pno_31 (fun _ q => q) (fun E _ q => Nat.le_trans E.1 q) (Ls := [.val (.ref a)]) (fun m => efo_31 m a) ?_
  intro p e s m below meth c C hs
  refine K_aloadN C (pc := 0) d31_0 rfl (by first | rfl | assumption) ?_
  refine K_getF C (pc := 1) (tw180 hw) Via.refl F.2.2 d31_1 ?_
  refine K_static C (pc := 4) (mMOF l Z a0 hw W m_ _ hm) (tw192 hw) (tw193 hw) (tw194 hw) (tw195 hw) (by decide) pdo_16 d31_4 (argsL := [_]) (rest := _) rfl rfl rfl rfl (fun a q r => C.new a (Nat.le_trans q r)) (by decide) (Nat.le_of_ble_eq_true rfl) (by decide) (by decide) ?_
  rintro _ h8 ⟨c1, rfl, hh, X1, F1⟩ -
  replace hh := hh.symm
  subst hh
  dsimp only [Option.toList, List.cons_append, List.nil_append]
  refine K_areturn C (pc := 7) d31_7 rfl rfl rfl (by decide) (by decide) (fun _ _ => ⟨c1, rfl, rfl, X1, F1⟩)
theorem pno_34 : plainFor (⟨"java/time/chrono/IsoChronology", "isLeapYear", "(J)Z"⟩ : MethodName) = true := by first | exact plainFor_of_name (by first | (simp [plainName, overriddenIn]; done) | decide +kernel) | decide +kernel
theorem efo_34 (m : MethodId) (x0 : Addr) (x1 : Int64) : entryFrame m #[.ref x0, .long x1] 3 = oF m 0 [.val (.ref x0), .val (.long x1), .second] [] := by (first | (simp [entryFrame, oF, mkF, argsToLocals, Value.category]; done) | rfl)
set_option maxRecDepth 65536 in
set_option maxHeartbeats 40000000 in
theorem mISO (l : Launch) (Z : State) (a0 : Array Value) (hw : ∀ d ∈ tables_1, d.before a0 Z = true) (a : Addr) (x : Int64) (h0 : Heap) :
    oMeets l Z (⟨"java/time/chrono/IsoChronology", "isLeapYear", "(J)Z"⟩ : MethodName) jdk_2369_method_18_code 3 (some .boolean) ({ frames := 0, cells := 0, slots := 0, locals := 0 } : Room) #[.ref a, .long x] h0 (fun a => h0.size ≤ a) (fun v h => v = some (.int (if own_leap x then 1 else 0)) ∧ h = h0) := by
  refine oMeets.of pno_34 (fun _ q => q) (fun E _ q => Nat.le_trans E.1 q) (Ls := [.val (.ref a), .val (.long x), .second]) (fun m => efo_34 m a x) ?_
  intro p e s m below meth c C hs
  refine K_lloadN C (pc := 0) d34_0 rfl ?_
  refine K_ldc2J C (pc := 1) (tw209 hw) d34_1 ?_
  refine K_land C (pc := 4) d34_4 ?_
  refine K_lconst C (pc := 5) 0 d34_5 (by decide) ?_
  refine K_lcmp C (pc := 6) d34_6 ?_
  refine K_if C (pc := 7) 34 d34_7 (by decide) (by decide) (fun hc7 => ?_) (fun hc7 => ?_)
  · simp only [oC, Classical.not_not] at hc7
    refine K_iconst C (pc := 34) 0 d34_34 (by decide) ?_
    refine K_ireturn C (pc := 35) d34_35 (by simp) (z' := 0) (by decide) (by decide) (by decide) (fun _ _ => ⟨by rw [if_neg (fun z => hc7 (own_ceq.mpr z.1))], rfl⟩)
  · simp only [oC, Classical.not_not] at hc7
    refine K_lloadN C (pc := 10) d34_10 rfl ?_
    refine K_ldc2J C (pc := 11) (tw210 hw) d34_11 ?_
    refine K_lrem C (pc := 14) d34_14 (by decide) ?_
    refine K_lconst C (pc := 15) 0 d34_15 (by decide) ?_
    refine K_lcmp C (pc := 16) d34_16 ?_
    refine K_if C (pc := 17) 30 d34_17 (by decide) (by decide) (fun hc17 => ?_) (fun hc17 => ?_)
    · simp only [oC, Classical.not_not] at hc17
      refine K_iconst C (pc := 30) 1 d34_30 (by decide) ?_
      refine K_goto C (pc := 31) 35 d34_31 (by decide) (by decide) ?_
      refine K_ireturn C (pc := 35) d34_35 (by simp) (z' := 1) (by decide) (by decide) (by decide) (fun _ _ => ⟨by rw [if_pos ⟨own_ceq.mp hc7, Or.inl (fun z => hc17 (own_ceq.mpr z))⟩], rfl⟩)
    · simp only [oC, Classical.not_not] at hc17
      refine K_lloadN C (pc := 20) d34_20 rfl ?_
      refine K_ldc2J C (pc := 21) (tw211 hw) d34_21 ?_
      refine K_lrem C (pc := 24) d34_24 (by decide) ?_
      refine K_lconst C (pc := 25) 0 d34_25 (by decide) ?_
      refine K_lcmp C (pc := 26) d34_26 ?_
      refine K_if C (pc := 27) 34 d34_27 (by decide) (by decide) (fun hc27 => ?_) (fun hc27 => ?_)
      · simp only [oC, Classical.not_not] at hc27
        refine K_iconst C (pc := 34) 0 d34_34 (by decide) ?_
        refine K_ireturn C (pc := 35) d34_35 (by simp) (z' := 0) (by decide) (by decide) (by decide) (fun _ _ => ⟨by rw [if_neg (fun z => z.2.elim (fun q => q (own_ceq.mp hc17)) (fun q => hc27 (own_ceq.mpr q)))], rfl⟩)
      · simp only [oC, Classical.not_not] at hc27
        refine K_iconst C (pc := 30) 1 d34_30 (by decide) ?_
        refine K_goto C (pc := 31) 35 d34_31 (by decide) (by decide) ?_
        refine K_ireturn C (pc := 35) d34_35 (by simp) (z' := 1) (by decide) (by decide) (by decide) (fun _ _ => ⟨by rw [if_pos ⟨own_ceq.mp hc7, Or.inr (own_ceq.mp hc27)⟩], rfl⟩)
theorem pno_33 : plainFor (⟨"java/time/YearMonth", "isLeapYear", "()Z"⟩ : MethodName) = true := by first | exact plainFor_of_name (by first | (simp [plainName, overriddenIn]; done) | decide +kernel) | decide +kernel
theorem efo_33 (m : MethodId) (x0 : Addr) : entryFrame m #[.ref x0] 1 = oF m 0 [.val (.ref x0)] [] := by (first | (simp [entryFrame, oF, mkF, argsToLocals, Value.category]; done) | rfl)
set_option maxRecDepth 65536 in
set_option maxHeartbeats 40000000 in
theorem mYLP (l : Launch) (Z : State) (a0 : Array Value) (hw : ∀ d ∈ tables_1, d.before a0 Z = true) (W : oSt Z) (a : Addr) (y m_ : Int32) (h0 : Heap) (F : oYM Z h0 a y m_) :
    oMeets l Z (⟨"java/time/YearMonth", "isLeapYear", "()Z"⟩ : MethodName) jdk_2340_method_20_code 1 (some .boolean) ({ frames := 1, cells := 0, slots := 0, locals := 30 } : Room) #[.ref a] h0 (fun a => h0.size ≤ a) (fun v h => v = some (.int (if own_leap y.toInt64 then 1 else 0)) ∧ h = h0) := by
  refine oMeets.of pno_33 (fun _ q => q) (fun E _ q => Nat.le_trans E.1 q) (Ls := [.val (.ref a)]) (fun m => efo_33 m a) ?_
  intro p e s m below meth c C hs
  refine K_old C (fun hE hle _ => ?_)
  obtain ⟨ia, hS, Xi⟩ := W.iso
  refine K_getS C (pc := 0) (tw202 hw) Via.refl hS d33_0 ?_
  refine K_aloadN C (pc := 3) d33_3 rfl (by first | rfl | assumption) ?_
  refine K_getF C (pc := 4) (tw178 hw) Via.refl F.2.1 d33_4 ?_
  refine K_i2l C (pc := 7) d33_7 ?_
  refine K_virtual C (pc := 8) (mISO l Z a0 hw ia y.toInt64 _) (Xi.ext hE) (tw204 hw) (tw205 hw) (oNF (tw207 hw)) (tw207 hw) (tw206 hw) (tw203 hw) (tw208 hw) (by decide) pdo_10 d33_8 (argsL := [_]) (rest := _) rfl rfl rfl rfl (fun a q r => C.new a (Nat.le_trans q r)) (by decide) (Nat.le_of_ble_eq_true rfl) (by decide) (by decide) ?_
  rintro _ h8 ⟨rfl, hh⟩ -
  replace hh := hh.symm
  subst hh
  dsimp only [Option.toList, List.cons_append, List.nil_append]
  refine K_ireturn C (pc := 11) d33_11 (by simp) (z' := (if own_leap y.toInt64 then 1 else 0)) (by split <;> decide) (by decide) (by decide) (fun _ _ => ⟨rfl, rfl⟩)
theorem pno_30 : plainFor (⟨"java/time/YearMonth", "lengthOfMonth", "()I"⟩ : MethodName) = true := by first | exact plainFor_of_name (by first | (simp [plainName, overriddenIn]; done) | decide +kernel) | decide +kernel
theorem efo_30 (m : MethodId) (x0 : Addr) : entryFrame m #[.ref x0] 1 = oF m 0 [.val (.ref x0)] [] := by (first | (simp [entryFrame, oF, mkF, argsToLocals, Value.category]; done) | rfl)
set_option maxRecDepth 65536 in
set_option maxHeartbeats 40000000 in
theorem mYLE (l : Launch) (Z : State) (a0 : Array Value) (hw : ∀ d ∈ tables_1, d.before a0 Z = true) (W : oSt Z) (a : Addr) (y m_ : Int32) (h0 : Heap) (F : oYM Z h0 a y m_) (hm : 1 ≤ m_.toInt ∧ m_.toInt ≤ 12) :
    oMeets l Z (⟨"java/time/YearMonth", "lengthOfMonth", "()I"⟩ : MethodName) jdk_2340_method_22_code 1 (some .int) ({ frames := 2, cells := 0, slots := 0, locals := 60 } : Room) #[.ref a] h0 (fun a => h0.size ≤ a) (fun v h => v = some (.int (Int32.ofNat (own_ml y m_))) ∧ h = h0) := by
  refine oMeets.of pno_30 (fun _ q => q) (fun E _ q => Nat.le_trans E.1 q) (Ls := [.val (.ref a)]) (fun m => efo_30 m a) ?_
  intro p e s m below meth c C hs
  refine K_aloadN C (pc := 0) d30_0 rfl (by first | rfl | assumption) ?_
  refine K_virtual C (pc := 1) (mYGM l Z a0 hw W a y m_ _ F hm) (F.1) (tw187 hw) (tw188 hw) (oNF (tw190 hw)) (tw190 hw) (tw189 hw) (tw166 hw) (tw191 hw) (by decide) pdo_17 d30_1 (argsL := []) (rest := _) rfl rfl rfl rfl (fun a q r => C.new a (Nat.le_trans q r)) (by decide) (Nat.le_of_ble_eq_true rfl) (by decide) (by decide) ?_
  rintro _ h8 ⟨c1, rfl, hh, X1, F1⟩ -
  replace hh := hh.symm
  subst hh
  dsimp only [Option.toList, List.cons_append, List.nil_append]
  refine K_aloadN C (pc := 4) d30_4 rfl (by first | rfl | assumption) ?_
  refine K_virtual C (pc := 5) (mYLP l Z a0 hw W a y m_ _ F) (F.1) (tw197 hw) (tw198 hw) (oNF (tw200 hw)) (tw200 hw) (tw199 hw) (tw166 hw) (tw201 hw) (by decide) pdo_18 d30_5 (argsL := []) (rest := _) rfl rfl rfl rfl (fun a q r => C.new a (Nat.le_trans q r)) (by decide) (Nat.le_of_ble_eq_true rfl) (by decide) (by decide) ?_
  rintro _ h8 ⟨rfl, hh⟩ -
  replace hh := hh.symm
  subst hh
  dsimp only [Option.toList, List.cons_append, List.nil_append]
  refine K_virtual C (pc := 8) (mMLE l Z a0 hw c1 (m_.toInt.toNat - 1) (if own_leap y.toInt64 then 1 else 0) _ X1 F1 (by omega)) (X1) (tw212 hw) (tw213 hw) (oNF (tw215 hw)) (tw215 hw) (tw214 hw) (tw194 hw) (tw216 hw) (by decide) pdo_19 d30_8 (argsL := [_]) (rest := _) rfl rfl rfl rfl (fun a q r => C.new a (Nat.le_trans q r)) (by decide) (Nat.le_of_ble_eq_true rfl) (by decide) (by decide) ?_
  rintro _ h8 ⟨rfl, hh⟩ -
  replace hh := hh.symm
  subst hh
  dsimp only [Option.toList, List.cons_append, List.nil_append]
  refine K_ireturn C (pc := 11) d30_11 (by simp) rfl (by decide) (by decide) (fun _ _ => ⟨rfl, rfl⟩)
theorem pno_38 : plainFor (⟨"com/example/roomyield/roomyield/NightTally$Nights", "<init>", "()V"⟩ : MethodName) = true := by first | exact plainFor_of_name (by first | (simp [plainName, overriddenIn]; done) | decide +kernel) | decide +kernel
theorem efo_38 (m : MethodId) (x0 : Addr) : entryFrame m #[.ref x0] 1 = oF m 0 [.val (.ref x0)] [] := by (first | (simp [entryFrame, oF, mkF, argsToLocals, Value.category]; done) | rfl)
set_option maxRecDepth 65536 in
set_option maxHeartbeats 40000000 in
theorem mNII (l : Launch) (Z : State) (a0 : Array Value) (hw : ∀ d ∈ tables_1, d.before a0 Z = true) (W : oSt Z) (xa : Addr) (lo : Nat) (h0 : Heap) (hlx : lo ≤ xa) (hya : Z.heap.size ≤ xa) (X : Exa Z h0 xa "com/example/roomyield/roomyield/NightTally$Nights") (FR : Fld Z h0 xa "com/example/roomyield/roomyield/NightTally$Nights" "revenue" "Ljava/math/BigDecimal;" .null) (FG : Fld Z h0 xa "com/example/roomyield/roomyield/NightTally$Nights" "guests" "Ljava/math/BigDecimal;" .null) (FC : Fld Z h0 xa "com/example/roomyield/roomyield/NightTally$Nights" "complimentary" "J" (.long 0)) (FS : Fld Z h0 xa "com/example/roomyield/roomyield/NightTally$Nights" "sold" "J" (.long 0)) (FU : Fld Z h0 xa "com/example/roomyield/roomyield/NightTally$Nights" "multipleOccupied" "J" (.long 0)) :
    oMeets l Z (⟨"com/example/roomyield/roomyield/NightTally$Nights", "<init>", "()V"⟩ : MethodName) prog_9_method_1_code 1 none ({ frames := 1, cells := 0, slots := 0, locals := 20 } : Room) #[.ref xa] h0 (fun x => x = xa ∨ h0.size ≤ x) (fun v h => v = none ∧ oNi Z h lo xa 0) := by
  refine oMeets.of pno_38 (fun _ q => Or.inr q) (fun E x q => q.elim (fun r => r ▸ hya) (fun r => Nat.le_trans E.1 r)) (Ls := [.val (.ref xa)]) (fun m => efo_38 m xa) ?_
  intro p e s m below meth c C hs
  refine K_old C (fun hE hle _ => ?_)
  obtain ⟨za, hS, Bz⟩ := W.zero
  replace Bz := Bz.ext hE
  refine K_aloadN C (pc := 0) d38_0 rfl (by first | rfl | assumption) ?_
  refine K_initO C (pc := 1) (tw236 hw) (tw78 hw) (tw79 hw) d38_1 rfl (by decide) (Nat.le_of_ble_eq_true rfl) ?_
  refine K_aloadN C (pc := 4) d38_4 rfl (by first | rfl | assumption) ?_
  refine K_getS C (pc := 5) (tw237 hw) Via.refl hS d38_5 ?_
  refine K_putF C (pc := 8) (tw238 hw) Via.refl FR X (Or.inl (tw239 hw)) (tw231 hw) (ty := (.object "java/math/BigDecimal")) (by decide) rfl rfl (Or.inl rfl) d38_8 ?_
  intro h1 W1
  replace FR := Fld.same W1 FR
  replace FG := (Fld.other W1 FG (Or.inr (slot_ne (Or.inl (tw241 hw)) (Or.inl (tw239 hw)) (by decide) (t := (.object "java/math/BigDecimal")) (t' := (.object "java/math/BigDecimal")) (by decide) (by decide))))
  replace FC := (Fld.other W1 FC (Or.inr (slot_ne (Or.inl (tw367 hw)) (Or.inl (tw239 hw)) (by decide) (t := .long) (t' := (.object "java/math/BigDecimal")) (by decide) (by decide))))
  replace FS := (Fld.other W1 FS (Or.inr (slot_ne (Or.inl (tw278 hw)) (Or.inl (tw239 hw)) (by decide) (t := .long) (t' := (.object "java/math/BigDecimal")) (by decide) (by decide))))
  replace FU := (Fld.other W1 FU (Or.inr (slot_ne (Or.inl (tw389 hw)) (Or.inl (tw239 hw)) (by decide) (t := .long) (t' := (.object "java/math/BigDecimal")) (by decide) (by decide))))
  replace Bz := Bz.wrO X (by decide) W1
  replace X := X.wr W1
  refine K_aloadN C (pc := 11) d38_11 rfl (by first | rfl | assumption) ?_
  refine K_getS C (pc := 12) (tw237 hw) Via.refl hS d38_12 ?_
  refine K_putF C (pc := 15) (tw240 hw) Via.refl FG X (Or.inl (tw241 hw)) (tw231 hw) (ty := (.object "java/math/BigDecimal")) (by decide) rfl rfl (Or.inl rfl) d38_15 ?_
  intro h2 W2
  replace FR := (Fld.other W2 FR (Or.inr (slot_ne (Or.inl (tw239 hw)) (Or.inl (tw241 hw)) (by decide) (t := (.object "java/math/BigDecimal")) (t' := (.object "java/math/BigDecimal")) (by decide) (by decide))))
  replace FG := Fld.same W2 FG
  replace FC := (Fld.other W2 FC (Or.inr (slot_ne (Or.inl (tw367 hw)) (Or.inl (tw241 hw)) (by decide) (t := .long) (t' := (.object "java/math/BigDecimal")) (by decide) (by decide))))
  replace FS := (Fld.other W2 FS (Or.inr (slot_ne (Or.inl (tw278 hw)) (Or.inl (tw241 hw)) (by decide) (t := .long) (t' := (.object "java/math/BigDecimal")) (by decide) (by decide))))
  replace FU := (Fld.other W2 FU (Or.inr (slot_ne (Or.inl (tw389 hw)) (Or.inl (tw241 hw)) (by decide) (t := .long) (t' := (.object "java/math/BigDecimal")) (by decide) (by decide))))
  replace Bz := Bz.wrO X (by decide) W2
  replace X := X.wr W2
  refine K_return C (pc := 18) d38_18 (by decide) (by decide) (fun _ _ => ⟨rfl, hlx, X, ⟨za, FR, 0, Bz, by decide⟩, ⟨za, FG, 0, Bz, by decide⟩, ⟨0, FC⟩, ⟨0, FS⟩, ⟨0, FU⟩⟩)
theorem pno_42 : plainFor (⟨"com/example/roomyield/roomyield/NightTally$Nights", "add", "(JZLjava/math/BigDecimal;Ljava/math/BigDecimal;)V"⟩ : MethodName) = true := by first | exact plainFor_of_name (by first | (simp [plainName, overriddenIn]; done) | decide +kernel) | decide +kernel
theorem efo_42 (m : MethodId) (x0 : Addr) (x1 : Int64) (x2 : Int32) (x3 : Addr) (x4 : Addr) : entryFrame m #[.ref x0, .long x1, .int x2, .ref x3, .ref x4] 7 = oF m 0 [.val (.ref x0), .val (.long x1), .second, .val (.int x2), .val (.ref x3), .val (.ref x4), .unset] [] := by (first | (simp [entryFrame, oF, mkF, argsToLocals, Value.category]; done) | rfl)
set_option maxRecDepth 65536 in
set_option maxHeartbeats 40000000 in
theorem mNAD (l : Launch) (Z : State) (a0 : Array Value) (hw : ∀ d ∈ tables_1, d.before a0 Z = true) (W : oSt Z) (xa ra ga : Addr) (lo B : Nat) (nn xr_ xg_ : Int64) (z : Int32) (h0 : Heap) (hya : Z.heap.size ≤ xa) (hB : B ≤ 50000) (hnn : oSm 31 nn) (hrt : oSm 10 xr_) (hgu : oSm 10 xg_) (RT : oBD Z h0 ra xr_) (GU : oBD Z h0 ga xg_) (F : oNi Z h0 lo xa B) :
    oMeets l Z (⟨"com/example/roomyield/roomyield/NightTally$Nights", "add", "(JZLjava/math/BigDecimal;Ljava/math/BigDecimal;)V"⟩ : MethodName) prog_9_method_2_code 7 none ({ frames := 8, cells := 5, slots := 25, locals := 220 } : Room) #[.ref xa, .long nn, .int z, .ref ra, .ref ga] h0 (fun x => x = xa ∨ h0.size ≤ x) (fun v h => v = none ∧ oNi Z h lo xa (B + 400)) := by
  refine oMeets.of pno_42 (fun _ q => Or.inr q) (fun E x q => q.elim (fun r => r ▸ hya) (fun r => Nat.le_trans E.1 r)) (Ls := [.val (.ref xa), .val (.long nn), .second, .val (.int z), .val (.ref ra), .val (.ref ga), .unset]) (fun m => efo_42 m xa nn z ra ga) ?_
  intro p e s m below meth c C hs
  obtain ⟨hlx, X, ⟨r, FR, xr, Br, hr⟩, ⟨gg, FG, xg, Bg, hg⟩, ⟨c1, FC⟩, ⟨c2, FS⟩, ⟨c3, FU⟩⟩ := F
  refine K_iloadN C (pc := 0) d42_0 rfl ?_
  refine K_if C (pc := 1) 15 d42_1 (by decide) (by decide) (fun hc1 => ?_) (fun hc1 => ?_)
  · simp only [oC, Classical.not_not] at hc1
    refine K_lloadN C (pc := 15) d42_15 rfl ?_
    refine K_static C (pc := 16) (mV l Z a0 hw W nn _ (hnn.mono (by decide))) (tw273 hw) (tw274 hw) (tw125 hw) (tw275 hw) (by decide) pdo_2 d42_16 (argsL := [_]) (rest := _) rfl rfl rfl rfl (fun a q r => C.new a (Nat.le_trans q r)) (by decide) (Nat.le_of_ble_eq_true rfl) (by decide) (by decide) ?_
    rintro _ h1 ⟨nb, rfl, Bn⟩ hK1
    replace X := X.ext hK1.ext
    replace FR := FR.ext hK1.ext
    replace FG := FG.ext hK1.ext
    replace FC := FC.ext hK1.ext
    replace FS := FS.ext hK1.ext
    replace FU := FU.ext hK1.ext
    replace Br := Br.ext hK1.ext
    replace Bg := Bg.ext hK1.ext
    replace RT := RT.ext hK1.ext
    replace GU := GU.ext hK1.ext
    dsimp only [Option.toList, List.cons_append, List.nil_append]
    refine K_astore C (pc := 19) (Ls' := [_, _, _, _, _, _, _]) d42_19 rfl rfl ?_
    refine K_aloadN C (pc := 21) d42_21 rfl (by first | rfl | assumption) ?_
    refine K_dup C (pc := 22) d42_22 rfl ?_
    refine K_getF C (pc := 23) (tw277 hw) Via.refl FS d42_23 ?_
    refine K_lloadN C (pc := 26) d42_26 rfl ?_
    refine K_ladd C (pc := 27) d42_27 ?_
    refine K_putF C (pc := 28) (tw277 hw) Via.refl FS X (Or.inl (tw278 hw)) (tw231 hw) (ty := .long) (by decide) rfl rfl (Or.inl rfl) d42_28 ?_
    intro h2 W2
    replace FR := (Fld.other W2 FR (Or.inr (slot_ne (Or.inl (tw239 hw)) (Or.inl (tw278 hw)) (by decide) (t := (.object "java/math/BigDecimal")) (t' := .long) (by decide) (by decide))))
    replace FG := (Fld.other W2 FG (Or.inr (slot_ne (Or.inl (tw241 hw)) (Or.inl (tw278 hw)) (by decide) (t := (.object "java/math/BigDecimal")) (t' := .long) (by decide) (by decide))))
    replace FC := (Fld.other W2 FC (Or.inr (slot_ne (Or.inl (tw367 hw)) (Or.inl (tw278 hw)) (by decide) (t := .long) (t' := .long) (by decide) (by decide))))
    replace FS := Fld.same W2 FS
    replace FU := (Fld.other W2 FU (Or.inr (slot_ne (Or.inl (tw389 hw)) (Or.inl (tw278 hw)) (by decide) (t := .long) (t' := .long) (by decide) (by decide))))
    replace Br := Br.wrO X (by decide) W2
    replace Bg := Bg.wrO X (by decide) W2
    replace RT := RT.wrO X (by decide) W2
    replace GU := GU.wrO X (by decide) W2
    replace Bn := Bn.wrO X (by decide) W2
    replace X := X.wr W2
    refine K_aloadN C (pc := 31) d42_31 rfl (by first | rfl | assumption) ?_
    refine K_aloadN C (pc := 32) d42_32 rfl (by first | rfl | assumption) ?_
    refine K_getF C (pc := 33) (tw238 hw) Via.refl FR d42_33 ?_
    refine K_aload C (pc := 36) d42_36 rfl (by first | rfl | assumption) ?_
    refine K_aload C (pc := 38) d42_38 rfl (by first | rfl | assumption) ?_
    refine K_virtual C (pc := 40) (mMUL l Z a0 hw ra nb W xr_ nn _ (hrt.mono (by decide)) (hnn.mono (by decide)) ((hrt.mul hnn (by decide) (by decide)).2.mono (by decide)) RT Bn) (RT.1) (tw279 hw) (tw280 hw) (oNF (tw282 hw)) (tw282 hw) (tw281 hw) (tw125 hw) (tw283 hw) (by decide) pdo_20 d42_40 (argsL := [_]) (rest := _) rfl rfl rfl rfl (fun a q r => C.new a (Nat.le_trans q r)) (by decide) (Nat.le_of_ble_eq_true rfl) (by decide) (by decide) ?_
    rintro _ h3 ⟨p3, rfl, Bp3⟩ hK3
    replace X := X.ext hK3.ext
    replace FR := FR.ext hK3.ext
    replace FG := FG.ext hK3.ext
    replace FC := FC.ext hK3.ext
    replace FS := FS.ext hK3.ext
    replace FU := FU.ext hK3.ext
    replace Br := Br.ext hK3.ext
    replace Bg := Bg.ext hK3.ext
    replace RT := RT.ext hK3.ext
    replace GU := GU.ext hK3.ext
    replace Bn := Bn.ext hK3.ext
    dsimp only [Option.toList, List.cons_append, List.nil_append]
    refine K_virtual C (pc := 43) (mADDB l Z a0 hw r p3 W xr (xr_ * nn) _ (hr.mono (by omega)) ((hrt.mul hnn (by decide) (by decide)).2.mono (by decide)) ((hr.addS (hrt.mul hnn (by decide) (by decide)).2 (by omega) (by decide)).mono (by omega)) Br Bp3) (Br.1) (tw304 hw) (tw305 hw) (oNF (tw307 hw)) (tw307 hw) (tw306 hw) (tw125 hw) (tw308 hw) (by decide) pdo_20 d42_43 (argsL := [_]) (rest := _) rfl rfl rfl rfl (fun a q r => C.new a (Nat.le_trans q r)) (by decide) (Nat.le_of_ble_eq_true rfl) (by decide) (by decide) ?_
    rintro _ h4 ⟨s4, rfl, Bs4⟩ hK4
    replace X := X.ext hK4.ext
    replace FR := FR.ext hK4.ext
    replace FG := FG.ext hK4.ext
    replace FC := FC.ext hK4.ext
    replace FS := FS.ext hK4.ext
    replace FU := FU.ext hK4.ext
    replace Br := Br.ext hK4.ext
    replace Bg := Bg.ext hK4.ext
    replace RT := RT.ext hK4.ext
    replace GU := GU.ext hK4.ext
    replace Bn := Bn.ext hK4.ext
    dsimp only [Option.toList, List.cons_append, List.nil_append]
    refine K_putF C (pc := 46) (tw238 hw) Via.refl FR X (Or.inl (tw239 hw)) (tw231 hw) (ty := (.object "java/math/BigDecimal")) (by decide) rfl rfl (Or.inl rfl) d42_46 ?_
    intro h5 W5
    replace FR := Fld.same W5 FR
    replace FG := (Fld.other W5 FG (Or.inr (slot_ne (Or.inl (tw241 hw)) (Or.inl (tw239 hw)) (by decide) (t := (.object "java/math/BigDecimal")) (t' := (.object "java/math/BigDecimal")) (by decide) (by decide))))
    replace FC := (Fld.other W5 FC (Or.inr (slot_ne (Or.inl (tw367 hw)) (Or.inl (tw239 hw)) (by decide) (t := .long) (t' := (.object "java/math/BigDecimal")) (by decide) (by decide))))
    replace FS := (Fld.other W5 FS (Or.inr (slot_ne (Or.inl (tw278 hw)) (Or.inl (tw239 hw)) (by decide) (t := .long) (t' := (.object "java/math/BigDecimal")) (by decide) (by decide))))
    replace FU := (Fld.other W5 FU (Or.inr (slot_ne (Or.inl (tw389 hw)) (Or.inl (tw239 hw)) (by decide) (t := .long) (t' := (.object "java/math/BigDecimal")) (by decide) (by decide))))
    replace Br := Br.wrO X (by decide) W5
    replace Bg := Bg.wrO X (by decide) W5
    replace RT := RT.wrO X (by decide) W5
    replace GU := GU.wrO X (by decide) W5
    replace Bn := Bn.wrO X (by decide) W5
    replace Bs4 := Bs4.wrO X (by decide) W5
    replace X := X.wr W5
    refine K_aloadN C (pc := 49) d42_49 rfl (by first | rfl | assumption) ?_
    refine K_aloadN C (pc := 50) d42_50 rfl (by first | rfl | assumption) ?_
    refine K_getF C (pc := 51) (tw240 hw) Via.refl FG d42_51 ?_
    refine K_aload C (pc := 54) d42_54 rfl (by first | rfl | assumption) ?_
    refine K_aload C (pc := 56) d42_56 rfl (by first | rfl | assumption) ?_
    refine K_virtual C (pc := 58) (mMUL l Z a0 hw ga nb W xg_ nn _ (hgu.mono (by decide)) (hnn.mono (by decide)) ((hgu.mul hnn (by decide) (by decide)).2.mono (by decide)) GU Bn) (GU.1) (tw279 hw) (tw280 hw) (oNF (tw282 hw)) (tw282 hw) (tw281 hw) (tw125 hw) (tw283 hw) (by decide) pdo_20 d42_58 (argsL := [_]) (rest := _) rfl rfl rfl rfl (fun a q r => C.new a (Nat.le_trans q r)) (by decide) (Nat.le_of_ble_eq_true rfl) (by decide) (by decide) ?_
    rintro _ h6 ⟨p6, rfl, Bp6⟩ hK6
    replace Bs4 := Bs4.ext hK6.ext
    replace X := X.ext hK6.ext
    replace FR := FR.ext hK6.ext
    replace FG := FG.ext hK6.ext
    replace FC := FC.ext hK6.ext
    replace FS := FS.ext hK6.ext
    replace FU := FU.ext hK6.ext
    replace Br := Br.ext hK6.ext
    replace Bg := Bg.ext hK6.ext
    replace RT := RT.ext hK6.ext
    replace GU := GU.ext hK6.ext
    replace Bn := Bn.ext hK6.ext
    dsimp only [Option.toList, List.cons_append, List.nil_append]
    refine K_virtual C (pc := 61) (mADDB l Z a0 hw gg p6 W xg (xg_ * nn) _ (hg.mono (by omega)) ((hgu.mul hnn (by decide) (by decide)).2.mono (by decide)) ((hg.addS (hgu.mul hnn (by decide) (by decide)).2 (by omega) (by decide)).mono (by omega)) Bg Bp6) (Bg.1) (tw304 hw) (tw305 hw) (oNF (tw307 hw)) (tw307 hw) (tw306 hw) (tw125 hw) (tw308 hw) (by decide) pdo_20 d42_61 (argsL := [_]) (rest := _) rfl rfl rfl rfl (fun a q r => C.new a (Nat.le_trans q r)) (by decide) (Nat.le_of_ble_eq_true rfl) (by decide) (by decide) ?_
    rintro _ h7 ⟨s7, rfl, Bs7⟩ hK7
    replace Bs4 := Bs4.ext hK7.ext
    replace X := X.ext hK7.ext
    replace FR := FR.ext hK7.ext
    replace FG := FG.ext hK7.ext
    replace FC := FC.ext hK7.ext
    replace FS := FS.ext hK7.ext
    replace FU := FU.ext hK7.ext
    replace Br := Br.ext hK7.ext
    replace Bg := Bg.ext hK7.ext
    replace RT := RT.ext hK7.ext
    replace GU := GU.ext hK7.ext
    replace Bn := Bn.ext hK7.ext
    dsimp only [Option.toList, List.cons_append, List.nil_append]
    refine K_putF C (pc := 64) (tw240 hw) Via.refl FG X (Or.inl (tw241 hw)) (tw231 hw) (ty := (.object "java/math/BigDecimal")) (by decide) rfl rfl (Or.inl rfl) d42_64 ?_
    intro h8 W8
    replace FR := (Fld.other W8 FR (Or.inr (slot_ne (Or.inl (tw239 hw)) (Or.inl (tw241 hw)) (by decide) (t := (.object "java/math/BigDecimal")) (t' := (.object "java/math/BigDecimal")) (by decide) (by decide))))
    replace FG := Fld.same W8 FG
    replace FC := (Fld.other W8 FC (Or.inr (slot_ne (Or.inl (tw367 hw)) (Or.inl (tw241 hw)) (by decide) (t := .long) (t' := (.object "java/math/BigDecimal")) (by decide) (by decide))))
    replace FS := (Fld.other W8 FS (Or.inr (slot_ne (Or.inl (tw278 hw)) (Or.inl (tw241 hw)) (by decide) (t := .long) (t' := (.object "java/math/BigDecimal")) (by decide) (by decide))))
    replace FU := (Fld.other W8 FU (Or.inr (slot_ne (Or.inl (tw389 hw)) (Or.inl (tw241 hw)) (by decide) (t := .long) (t' := (.object "java/math/BigDecimal")) (by decide) (by decide))))
    replace RT := RT.wrO X (by decide) W8
    replace GU := GU.wrO X (by decide) W8
    replace Bn := Bn.wrO X (by decide) W8
    replace Bs4 := Bs4.wrO X (by decide) W8
    replace Bs7 := Bs7.wrO X (by decide) W8
    replace X := X.wr W8
    refine K_old C (fun hE _ _ => ?_)
    obtain ⟨oa, hS1, Bo⟩ := W.one
    replace Bo := Bo.ext hE
    refine K_aload C (pc := 67) d42_67 rfl (by first | rfl | assumption) ?_
    refine K_getS C (pc := 69) (tw318 hw) Via.refl hS1 d42_69 ?_
    refine K_virtual C (pc := 72) (mCMP l Z a0 hw ga oa xg_ 1 _ (hgu.mono (by decide)) (by decide) GU Bo) (GU.1) (tw319 hw) (tw320 hw) (oNF (tw322 hw)) (tw322 hw) (tw321 hw) (tw125 hw) (tw323 hw) (by decide) pdo_21 d42_72 (argsL := [_]) (rest := _) rfl rfl rfl rfl (fun a q r => C.new a (Nat.le_trans q r)) (by decide) (Nat.le_of_ble_eq_true rfl) (by decide) (by decide) ?_
    rintro _ h8 ⟨rc, rfl, hh⟩ -
    replace hh := hh.symm
    subst hh
    dsimp only [Option.toList, List.cons_append, List.nil_append]
    refine K_if C (pc := 75) 88 d42_75 (by decide) (by decide) (fun hc75 => ?_) (fun hc75 => ?_)
    · simp only [oC, Classical.not_not] at hc75
      refine K_return C (pc := 88) d42_88 (by decide) (by decide) (fun _ _ => ⟨rfl, hlx, X, ⟨_, FR, _, Bs4, ((hr.addS (hrt.mul hnn (by decide) (by decide)).2 (by omega) (by decide)).mono (by omega))⟩, ⟨_, FG, _, Bs7, ((hg.addS (hgu.mul hnn (by decide) (by decide)).2 (by omega) (by decide)).mono (by omega))⟩, ⟨_, FC⟩, ⟨_, FS⟩, ⟨_, FU⟩⟩)
    · simp only [oC, Classical.not_not] at hc75
      refine K_aloadN C (pc := 78) d42_78 rfl (by first | rfl | assumption) ?_
      refine K_dup C (pc := 79) d42_79 rfl ?_
      refine K_getF C (pc := 80) (tw388 hw) Via.refl FU d42_80 ?_
      refine K_lloadN C (pc := 83) d42_83 rfl ?_
      refine K_ladd C (pc := 84) d42_84 ?_
      refine K_putF C (pc := 85) (tw388 hw) Via.refl FU X (Or.inl (tw389 hw)) (tw231 hw) (ty := .long) (by decide) rfl rfl (Or.inl rfl) d42_85 ?_
      intro h9 W9
      replace FR := (Fld.other W9 FR (Or.inr (slot_ne (Or.inl (tw239 hw)) (Or.inl (tw389 hw)) (by decide) (t := (.object "java/math/BigDecimal")) (t' := .long) (by decide) (by decide))))
      replace FG := (Fld.other W9 FG (Or.inr (slot_ne (Or.inl (tw241 hw)) (Or.inl (tw389 hw)) (by decide) (t := (.object "java/math/BigDecimal")) (t' := .long) (by decide) (by decide))))
      replace FC := (Fld.other W9 FC (Or.inr (slot_ne (Or.inl (tw367 hw)) (Or.inl (tw389 hw)) (by decide) (t := .long) (t' := .long) (by decide) (by decide))))
      replace FS := (Fld.other W9 FS (Or.inr (slot_ne (Or.inl (tw278 hw)) (Or.inl (tw389 hw)) (by decide) (t := .long) (t' := .long) (by decide) (by decide))))
      replace FU := Fld.same W9 FU
      replace Bs4 := Bs4.wrO X (by decide) W9
      replace Bs7 := Bs7.wrO X (by decide) W9
      replace X := X.wr W9
      refine K_return C (pc := 88) d42_88 (by decide) (by decide) (fun _ _ => ⟨rfl, hlx, X, ⟨_, FR, _, Bs4, ((hr.addS (hrt.mul hnn (by decide) (by decide)).2 (by omega) (by decide)).mono (by omega))⟩, ⟨_, FG, _, Bs7, ((hg.addS (hgu.mul hnn (by decide) (by decide)).2 (by omega) (by decide)).mono (by omega))⟩, ⟨_, FC⟩, ⟨_, FS⟩, ⟨_, FU⟩⟩)
  · simp only [oC, Classical.not_not] at hc1
    refine K_aloadN C (pc := 4) d42_4 rfl (by first | rfl | assumption) ?_
    refine K_dup C (pc := 5) d42_5 rfl ?_
    refine K_getF C (pc := 6) (tw366 hw) Via.refl FC d42_6 ?_
    refine K_lloadN C (pc := 9) d42_9 rfl ?_
    refine K_ladd C (pc := 10) d42_10 ?_
    refine K_putF C (pc := 11) (tw366 hw) Via.refl FC X (Or.inl (tw367 hw)) (tw231 hw) (ty := .long) (by decide) rfl rfl (Or.inl rfl) d42_11 ?_
    intro h1 W1
    replace FR := (Fld.other W1 FR (Or.inr (slot_ne (Or.inl (tw239 hw)) (Or.inl (tw367 hw)) (by decide) (t := (.object "java/math/BigDecimal")) (t' := .long) (by decide) (by decide))))
    replace FG := (Fld.other W1 FG (Or.inr (slot_ne (Or.inl (tw241 hw)) (Or.inl (tw367 hw)) (by decide) (t := (.object "java/math/BigDecimal")) (t' := .long) (by decide) (by decide))))
    replace FC := Fld.same W1 FC
    replace FS := (Fld.other W1 FS (Or.inr (slot_ne (Or.inl (tw278 hw)) (Or.inl (tw367 hw)) (by decide) (t := .long) (t' := .long) (by decide) (by decide))))
    replace FU := (Fld.other W1 FU (Or.inr (slot_ne (Or.inl (tw389 hw)) (Or.inl (tw367 hw)) (by decide) (t := .long) (t' := .long) (by decide) (by decide))))
    replace Br := Br.wrO X (by decide) W1
    replace Bg := Bg.wrO X (by decide) W1
    replace X := X.wr W1
    refine K_return C (pc := 14) d42_14 (by decide) (by decide) (fun _ _ => ⟨rfl, hlx, X, ⟨r, FR, xr, Br, hr.mono (by omega)⟩, ⟨gg, FG, xg, Bg, hg.mono (by omega)⟩, ⟨_, FC⟩, ⟨_, FS⟩, ⟨_, FU⟩⟩)
theorem own_d12 {j : Int32} (h : 0 ≤ j.toInt) : 0 ≤ (j / 12).toInt ∧ (j / 12).toInt ≤ 999999999 := by
  have hlt := Int32.toInt_lt j
  rw [Int32.toInt_div, Int.tdiv_eq_ediv_of_nonneg h, show (12 : Int32).toInt = 12 from rfl, Int.bmod_def]
  omega
theorem pno_27 : plainFor (⟨"com/example/roomyield/roomyield/NightTally", "month", "(I)Ljava/time/YearMonth;"⟩ : MethodName) = true := by first | exact plainFor_of_name (by first | (simp [plainName, overriddenIn]; done) | decide +kernel) | decide +kernel
theorem efo_27 (m : MethodId) (x0 : Int32) : entryFrame m #[.int x0] 1 = oF m 0 [.val (.int x0)] [] := by (first | (simp [entryFrame, oF, mkF, argsToLocals, Value.category]; done) | rfl)
set_option maxRecDepth 65536 in
set_option maxHeartbeats 40000000 in
theorem mMON (l : Launch) (Z : State) (a0 : Array Value) (hw : ∀ d ∈ tables_1, d.before a0 Z = true) (W : oSt Z) (j : Int32) (h0 : Heap) (hj : 0 ≤ j.toInt) :
    oMeets l Z (⟨"com/example/roomyield/roomyield/NightTally", "month", "(I)Ljava/time/YearMonth;"⟩ : MethodName) prog_5_method_8_code 1 (some (.object "java/time/YearMonth")) ({ frames := 5, cells := 1, slots := 2, locals := 150 } : Room) #[.int j] h0 (fun a => h0.size ≤ a) (fun v h => ∃ a, v = some (.ref a) ∧ oYM Z h a (j / 12) (j % 12 + 1)) := by
  refine oMeets.of pno_27 (fun _ q => q) (fun E _ q => Nat.le_trans E.1 q) (Ls := [.val (.int j)]) (fun m => efo_27 m j) ?_
  intro p e s m below meth c C hs
  refine K_iloadN C (pc := 0) d27_0 rfl ?_
  refine K_bipush C (pc := 1) 12 d27_1 (by decide) ?_
  refine K_idiv C (pc := 3) d27_3 (by decide) ?_
  refine K_iloadN C (pc := 4) d27_4 rfl ?_
  refine K_bipush C (pc := 5) 12 d27_5 (by decide) ?_
  refine K_irem C (pc := 7) d27_7 (by decide) ?_
  refine K_iconst C (pc := 8) 1 d27_8 (by decide) ?_
  refine K_iadd C (pc := 9) d27_9 ?_
  refine K_static C (pc := 10) (mYMO l Z a0 hw W (j / 12) (j % 12 + 1) _ (own_d12 hj) (own_inc (k := 12) (own_modI 12 (by decide) hj) (by decide))) (tw164 hw) (tw165 hw) (tw166 hw) (tw167 hw) (by decide) pdo_22 d27_10 (argsL := [_, _]) (rest := _) rfl rfl rfl rfl (fun a q r => C.new a (Nat.le_trans q r)) (by decide) (Nat.le_of_ble_eq_true rfl) (by decide) (by decide) ?_
  rintro _ h1 ⟨a, rfl, F1⟩ -
  dsimp only [Option.toList, List.cons_append, List.nil_append]
  refine K_areturn C (pc := 13) d27_13 rfl rfl rfl (by decide) (by decide) (fun _ _ => ⟨_, rfl, F1⟩)
theorem pno_37 : plainFor (⟨"com/example/roomyield/roomyield/NightTally$MonthNights", "<init>", "(I)V"⟩ : MethodName) = true := by first | exact plainFor_of_name (by first | (simp [plainName, overriddenIn]; done) | decide +kernel) | decide +kernel
theorem efo_37 (m : MethodId) (x0 : Addr) (x1 : Int32) : entryFrame m #[.ref x0, .int x1] 2 = oF m 0 [.val (.ref x0), .val (.int x1)] [] := by (first | (simp [entryFrame, oF, mkF, argsToLocals, Value.category]; done) | rfl)
set_option maxRecDepth 65536 in
set_option maxHeartbeats 40000000 in
theorem mMNI (l : Launch) (Z : State) (a0 : Array Value) (hw : ∀ d ∈ tables_1, d.before a0 Z = true) (W : oSt Z) (a : Addr) (lo k : Nat) (h0 : Heap) (hla : lo ≤ a) (hya : Z.heap.size ≤ a) (hk : 28 ≤ k ∧ k ≤ 31) (X : Exa Z h0 a "com/example/roomyield/roomyield/NightTally$MonthNights") (FN : Fld Z h0 a "com/example/roomyield/roomyield/NightTally$MonthNights" "nights" "Lcom/example/roomyield/roomyield/NightTally$Nights;" .null) (FW : Fld Z h0 a "com/example/roomyield/roomyield/NightTally$MonthNights" "wholeMonthChange" "Lcom/example/roomyield/roomyield/NightTally$Nights;" .null) (FO : Fld Z h0 a "com/example/roomyield/roomyield/NightTally$MonthNights" "occupiedChange" "[J" .null) :
    oMeets l Z (⟨"com/example/roomyield/roomyield/NightTally$MonthNights", "<init>", "(I)V"⟩ : MethodName) prog_7_method_1_code 2 none ({ frames := 2, cells := 3, slots := 41, locals := 60 } : Room) #[.ref a, .int (Int32.ofNat k)] h0 (fun x => x = a ∨ h0.size ≤ x) (fun v h => v = none ∧ oMN Z h lo a 0 k) := by
  refine oMeets.of pno_37 (fun _ q => Or.inr q) (fun E x q => q.elim (fun r => r ▸ hya) (fun r => Nat.le_trans E.1 r)) (Ls := [.val (.ref a), .val (.int (Int32.ofNat k))]) (fun m => efo_37 m a (Int32.ofNat k)) ?_
  intro p e s m below meth c C hs
  refine K_aloadN C (pc := 0) d37_0 rfl (by first | rfl | assumption) ?_
  refine K_initO C (pc := 1) (tw229 hw) (tw78 hw) (tw79 hw) d37_1 rfl (by decide) (Nat.le_of_ble_eq_true rfl) ?_
  refine K_aloadN C (pc := 4) d37_4 rfl (by first | rfl | assumption) ?_
  have hax1 := oXlt X
  refine K_new C (pc := 5) (tw230 hw) (tw231 hw) (tw232 hw) d37_5 (by decide) (by decide) ?_
  intro h1 n1 hn1 hPn1 E1 X1 D1
  have FR1 := D1 (Or.inl (tw239 hw)) (ty := (.object "java/math/BigDecimal")) (by decide)
  have FG1 := D1 (Or.inl (tw241 hw)) (ty := (.object "java/math/BigDecimal")) (by decide)
  have FC1 := D1 (Or.inl (tw367 hw)) (ty := .long) (by decide)
  have FS1 := D1 (Or.inl (tw278 hw)) (ty := .long) (by decide)
  have FU1 := D1 (Or.inl (tw389 hw)) (ty := .long) (by decide)
  replace X := X.ext E1
  replace FN := FN.ext E1
  replace FW := FW.ext E1
  replace FO := FO.ext E1
  have hl1 : lo ≤ n1 := Nat.le_trans hla (Nat.le_of_lt (Nat.lt_of_lt_of_eq hax1 hn1.symm))
  refine K_dup C (pc := 8) d37_8 rfl ?_
  refine K_specialN C (pc := 9) (mNII l Z a0 hw W n1 lo _ hl1 (C.young n1 hPn1) X1 FR1 FG1 FC1 FS1 FU1) (tw233 hw) (tw234 hw) (tw232 hw) (tw235 hw) rfl (by decide) pdo_0 d37_9 (argsL := []) (rest := _) rfl rfl rfl rfl (fun x q r => r.elim (fun z => z ▸ hPn1) (fun z => C.new x (Nat.le_trans q z))) (by decide) (Nat.le_of_ble_eq_true rfl) (by decide) (by decide) ?_
  rintro _ h2 ⟨rfl, G1⟩ hK2
  have na1 := fun r => Or.elim r (Exa.ne X X1 (by decide)) (fun z => Nat.lt_irrefl _ (Nat.lt_of_lt_of_le (oXlt X) z))
  replace FN := hK2.fld FN na1
  replace FW := hK2.fld FW na1
  replace FO := hK2.fld FO na1
  replace X := hK2.exa X
  dsimp only [Option.toList, List.cons_append, List.nil_append]
  refine K_putF C (pc := 12) (tw242 hw) Via.refl FN X (Or.inr ⟨(tw243 hw), rfl, rfl⟩) (tw159 hw) (ty := (.object "com/example/roomyield/roomyield/NightTally$Nights")) (by decide) rfl rfl (Or.inl rfl) d37_12 ?_
  intro h3 W3
  replace FN := Fld.same W3 FN
  replace FW := (Fld.other W3 FW (Or.inr (slot_ne (Or.inr (tw245 hw)) (Or.inr (tw243 hw)) (by decide) (t := (.object "com/example/roomyield/roomyield/NightTally$Nights")) (t' := (.object "com/example/roomyield/roomyield/NightTally$Nights")) (by decide) (by decide))))
  replace FO := (Fld.other W3 FO (Or.inr (slot_ne (Or.inr (tw248 hw)) (Or.inr (tw243 hw)) (by decide) (t := (.array .long)) (t' := (.object "com/example/roomyield/roomyield/NightTally$Nights")) (by decide) (by decide))))
  replace G1 := G1.wrM X W3
  replace X := X.wr W3
  refine K_aloadN C (pc := 15) d37_15 rfl (by first | rfl | assumption) ?_
  have hax4 := oXlt X
  refine K_new C (pc := 16) (tw230 hw) (tw231 hw) (tw232 hw) d37_16 (by decide) (by decide) ?_
  intro h4 n4 hn4 hPn4 E4 X4 D4
  have FR4 := D4 (Or.inl (tw239 hw)) (ty := (.object "java/math/BigDecimal")) (by decide)
  have FG4 := D4 (Or.inl (tw241 hw)) (ty := (.object "java/math/BigDecimal")) (by decide)
  have FC4 := D4 (Or.inl (tw367 hw)) (ty := .long) (by decide)
  have FS4 := D4 (Or.inl (tw278 hw)) (ty := .long) (by decide)
  have FU4 := D4 (Or.inl (tw389 hw)) (ty := .long) (by decide)
  replace X := X.ext E4
  replace FN := FN.ext E4
  replace FW := FW.ext E4
  replace FO := FO.ext E4
  replace G1 := G1.ext E4
  have hl4 : lo ≤ n4 := Nat.le_trans hla (Nat.le_of_lt (Nat.lt_of_lt_of_eq hax4 hn4.symm))
  refine K_dup C (pc := 19) d37_19 rfl ?_
  refine K_specialN C (pc := 20) (mNII l Z a0 hw W n4 lo _ hl4 (C.young n4 hPn4) X4 FR4 FG4 FC4 FS4 FU4) (tw233 hw) (tw234 hw) (tw232 hw) (tw235 hw) rfl (by decide) pdo_0 d37_20 (argsL := []) (rest := _) rfl rfl rfl rfl (fun x q r => r.elim (fun z => z ▸ hPn4) (fun z => C.new x (Nat.le_trans q z))) (by decide) (Nat.le_of_ble_eq_true rfl) (by decide) (by decide) ?_
  rintro _ h5 ⟨rfl, G2⟩ hK5
  have na4 := fun r => Or.elim r (Exa.ne X X4 (by decide)) (fun z => Nat.lt_irrefl _ (Nat.lt_of_lt_of_le (oXlt X) z))
  replace G1 := (oStep.ni (lo := lo) (B := 0) (B' := 0) (tw369 hw) X4 (tw231 hw) hK5 (fun _ => G2) (Nat.le_refl _)).N _ G1
  replace FN := hK5.fld FN na4
  replace FW := hK5.fld FW na4
  replace FO := hK5.fld FO na4
  replace X := hK5.exa X
  dsimp only [Option.toList, List.cons_append, List.nil_append]
  refine K_putF C (pc := 23) (tw244 hw) Via.refl FW X (Or.inr ⟨(tw245 hw), rfl, rfl⟩) (tw159 hw) (ty := (.object "com/example/roomyield/roomyield/NightTally$Nights")) (by decide) rfl rfl (Or.inl rfl) d37_23 ?_
  intro h6 W6
  replace FN := (Fld.other W6 FN (Or.inr (slot_ne (Or.inr (tw243 hw)) (Or.inr (tw245 hw)) (by decide) (t := (.object "com/example/roomyield/roomyield/NightTally$Nights")) (t' := (.object "com/example/roomyield/roomyield/NightTally$Nights")) (by decide) (by decide))))
  replace FW := Fld.same W6 FW
  replace FO := (Fld.other W6 FO (Or.inr (slot_ne (Or.inr (tw248 hw)) (Or.inr (tw245 hw)) (by decide) (t := (.array .long)) (t' := (.object "com/example/roomyield/roomyield/NightTally$Nights")) (by decide) (by decide))))
  replace G1 := G1.wrM X W6
  replace G2 := G2.wrM X W6
  replace X := X.wr W6
  refine K_aloadN C (pc := 26) d37_26 rfl (by first | rfl | assumption) ?_
  refine K_iloadN C (pc := 27) d37_27 rfl ?_
  have hax7 := oXlt X
  refine K_newarray2 C (aty := .long) (pc := 28) k 31 (tw246 hw) d37_28 (oOf _ (by omega)) hk.2 (by decide) (by decide) (by decide) ?_
  intro h7 la hla7 hPla E7 AL
  have hl7 : lo ≤ la := Nat.le_trans hla (Nat.le_of_lt (Nat.lt_of_lt_of_eq hax7 hla7.symm))
  replace X := X.ext E7
  replace FN := FN.ext E7
  replace FW := FW.ext E7
  replace FO := FO.ext E7
  replace G1 := G1.ext E7
  replace G2 := G2.ext E7
  refine K_putF C (pc := 30) (tw247 hw) Via.refl FO X (Or.inr ⟨(tw248 hw), rfl, rfl⟩) (tw159 hw) (ty := (.array .long)) (by decide) rfl rfl (Or.inl rfl) d37_30 ?_
  intro h8 W8
  replace FN := (Fld.other W8 FN (Or.inr (slot_ne (Or.inr (tw243 hw)) (Or.inr (tw248 hw)) (by decide) (t := (.object "com/example/roomyield/roomyield/NightTally$Nights")) (t' := (.array .long)) (by decide) (by decide))))
  replace FW := (Fld.other W8 FW (Or.inr (slot_ne (Or.inr (tw245 hw)) (Or.inr (tw248 hw)) (by decide) (t := (.object "com/example/roomyield/roomyield/NightTally$Nights")) (t' := (.array .long)) (by decide) (by decide))))
  replace FO := Fld.same W8 FO
  replace G1 := G1.wrM X W8
  replace G2 := G2.wrM X W8
  replace AL := AL.other W8 (by obtain ⟨_, A, -⟩ := AL; exact fun e => ne_arr X (tw159 hw) A e.symm)
  replace X := X.wr W8
  refine K_return C (pc := 33) d37_33 (by decide) (by decide) (fun _ _ => ⟨rfl, X, ⟨n1, FN, G1⟩, ⟨n4, FW, G2⟩, la, FO, hl7, List.replicate k 0, AL.eq (by rw [List.map_replicate]; rfl), by rw [List.length_replicate]⟩)
theorem pno_26 : plainFor (⟨"com/example/roomyield/roomyield/NightTally", "tally", "(I)Lcom/example/roomyield/roomyield/NightTally$MonthNights;"⟩ : MethodName) = true := by first | exact plainFor_of_name (by first | (simp [plainName, overriddenIn]; done) | decide +kernel) | decide +kernel
theorem efo_26 (m : MethodId) (x0 : Addr) (x1 : Int32) : entryFrame m #[.ref x0, .int x1] 2 = oF m 0 [.val (.ref x0), .val (.int x1)] [] := by (first | (simp [entryFrame, oF, mkF, argsToLocals, Value.category]; done) | rfl)
set_option maxRecDepth 65536 in
set_option maxHeartbeats 40000000 in
theorem mTAL (l : Launch) (Z : State) (a0 : Array Value) (hw : ∀ d ∈ tables_1, d.before a0 Z = true) (W : oSt Z) (t ma : Addr) (vs : List Value) (lo B : Nat) (f l_ : Int32) (h0 : Heap) (hlo : Z.heap.size ≤ lo) (hle : lo ≤ h0.size) (F : oNT Z h0 lo t ma vs B f l_) (j : Int32) (hj : 0 ≤ j.toInt ∧ j.toInt < 120000) :
    oMeets l Z (⟨"com/example/roomyield/roomyield/NightTally", "tally", "(I)Lcom/example/roomyield/roomyield/NightTally$MonthNights;"⟩ : MethodName) prog_5_method_9_code 2 (some (.object "com/example/roomyield/roomyield/NightTally$MonthNights")) ({ frames := 6, cells := 5, slots := 46, locals := 190 } : Room) #[.ref t, .int j] h0 (fun x => lo ≤ x) (fun v h => ∃ a vs', v = some (.ref a) ∧ oMN Z h lo a B (own_ml (j / 12) (j % 12 + 1)) ∧ oNT Z h lo t ma vs' B f l_ ∧ oStep Z lo h0 h B B) := by
  refine oMeets.of pno_26 (fun _ r => Nat.le_trans hle r) (fun _ _ r => Nat.le_trans hlo r) (Ls := [.val (.ref t), .val (.int j)]) (fun m => efo_26 m t j) ?_
  intro p e s m below meth c C hs
  obtain ⟨v, hv, hm⟩ := F.at (i := j.toInt.toNat) (by omega)
  rw [own_mlj hj.1] at hm
  rcases hm with rfl | ⟨a, rfl, Ga⟩
  · refine K_aloadN C (pc := 0) d26_0 rfl (by first | rfl | assumption) ?_
    refine K_getF C (pc := 1) (tw96 hw) Via.refl F.FM d26_1 ?_
    refine K_iloadN C (pc := 4) d26_4 rfl ?_
    refine K_aaload2 C (pc := 5) (v := .null) j.toInt.toNat F.A.arr rfl (show j.toInt = (j.toInt.toNat : Int) by omega) hv d26_5 ?_
    refine K_ifnonnull_null C (pc := 6) d26_6 ?_
    refine K_aloadN C (pc := 9) d26_9 rfl (by first | rfl | assumption) ?_
    refine K_getF C (pc := 10) (tw96 hw) Via.refl F.FM d26_10 ?_
    refine K_iloadN C (pc := 13) d26_13 rfl ?_
    refine K_new C (pc := 14) (tw94 hw) (tw159 hw) (tw160 hw) d26_14 (by decide) (by decide) ?_
    intro h1 a ha hPa E1 X D1
    have FN := D1 (Or.inr (tw243 hw)) (ty := (.object "com/example/roomyield/roomyield/NightTally$Nights")) (by decide)
    have FW := D1 (Or.inr (tw245 hw)) (ty := (.object "com/example/roomyield/roomyield/NightTally$Nights")) (by decide)
    have FO := D1 (Or.inr (tw248 hw)) (ty := (.array .long)) (by decide)
    refine K_dup C (pc := 17) d26_17 rfl ?_
    refine K_iloadN C (pc := 18) d26_18 rfl ?_
    refine K_static C (pc := 19) (mMON l Z a0 hw W j _ (by omega)) (tw161 hw) (tw162 hw) (tw88 hw) (tw163 hw) (by decide) pdo_23 d26_19 (argsL := [_]) (rest := _) rfl rfl rfl rfl (fun a q r => C.new a (Nat.le_trans q r)) (by decide) (Nat.le_of_ble_eq_true rfl) (by decide) (by decide) ?_
    rintro _ h2 ⟨ya, rfl, FY⟩ hK2
    replace X := X.ext hK2.ext
    replace FN := FN.ext hK2.ext
    replace FW := FW.ext hK2.ext
    replace FO := FO.ext hK2.ext
    dsimp only [Option.toList, List.cons_append, List.nil_append]
    refine K_virtual C (pc := 22) (mYLE l Z a0 hw W ya (j / 12) (j % 12 + 1) _ FY (own_inc (k := 12) (own_modI 12 (by decide) (by omega)) (by decide))) (FY.1) (tw182 hw) (tw183 hw) (oNF (tw185 hw)) (tw185 hw) (tw184 hw) (tw166 hw) (tw186 hw) (by decide) pdo_15 d26_22 (argsL := []) (rest := _) rfl rfl rfl rfl (fun a q r => C.new a (Nat.le_trans q r)) (by decide) (Nat.le_of_ble_eq_true rfl) (by decide) (by decide) ?_
    rintro _ h8 ⟨rfl, hh⟩ -
    replace hh := hh.symm
    subst hh
    dsimp only [Option.toList, List.cons_append, List.nil_append]
    refine K_specialR C (pc := 25) (mMNI l Z a0 hw W a lo (own_ml (j / 12) (j % 12 + 1)) _ hPa (C.young a hPa) (own_mlb _ _) X FN FW FO) (tw226 hw) (tw227 hw) (tw160 hw) (tw228 hw) rfl (by decide) pdo_24 d26_25 (argsL := [_]) (rest := _) rfl rfl rfl rfl (fun x q r => r.elim (fun z => z ▸ hPa) (fun z => C.new x (Nat.le_trans q z))) (by decide) (Nat.le_of_ble_eq_true rfl) (by decide) (by decide) ?_
    rintro _ h3 ⟨rfl, G0⟩ hK3
    have E3 := oExtKp (oExt.tr E1 hK2.ext) hK3 (Nat.le_of_eq ha.symm)
    replace F := F.ext E3
    have G := (oStep.mono (Z := Z) (lo := lo) (h := h3) (B := 0) (B' := B) (Nat.zero_le _)).mn G0
    dsimp only [Option.toList, List.cons_append, List.nil_append]
    refine K_aastoreO C (pc := 28) j.toInt.toNat F.A (show j.toInt = (j.toInt.toNat : Int) by omega) (by rw [F.hl]; omega) (Ins.self G.1) F.m1 d26_28 ?_
    intro h4 W4 A4
    have S4 : oStep Z lo h3 h4 B B := oStep.ast (tw369 hw) (tw72 hw) (tw159 hw) (tw231 hw) F.A W4
    have hv : (vs.set j.toInt.toNat (.ref a))[j.toInt.toNat]? = some (.ref a) := List.getElem?_set_self (by rw [F.hl]; omega)
    replace F := F.ast (tw87 hw) W4 A4 S4 (by rw [own_mlj hj.1]; exact G)
    replace G := S4.mn G
    refine K_aloadN C (pc := 29) d26_29 rfl (by first | rfl | assumption) ?_
    refine K_getF C (pc := 30) (tw96 hw) Via.refl F.FM d26_30 ?_
    refine K_iloadN C (pc := 33) d26_33 rfl ?_
    refine K_aaload2 C (pc := 34) (v := (.ref a)) j.toInt.toNat F.A.arr rfl (show j.toInt = (j.toInt.toNat : Int) by omega) hv d26_34 ?_
    refine K_areturn C (pc := 35) d26_35 rfl rfl rfl (by decide) (by decide) (fun _ _ => ⟨_, _, rfl, G, F, (oStep.ext E3).trans S4⟩)
  · refine K_aloadN C (pc := 0) d26_0 rfl (by first | rfl | assumption) ?_
    refine K_getF C (pc := 1) (tw96 hw) Via.refl F.FM d26_1 ?_
    refine K_iloadN C (pc := 4) d26_4 rfl ?_
    refine K_aaload2 C (pc := 5) (v := (.ref a)) j.toInt.toNat F.A.arr rfl (show j.toInt = (j.toInt.toNat : Int) by omega) hv d26_5 ?_
    refine K_ifnonnull_ref C (pc := 6) 29 d26_6 (by decide) (by decide) ?_
    refine K_aloadN C (pc := 29) d26_29 rfl (by first | rfl | assumption) ?_
    refine K_getF C (pc := 30) (tw96 hw) Via.refl F.FM d26_30 ?_
    refine K_iloadN C (pc := 33) d26_33 rfl ?_
    refine K_aaload2 C (pc := 34) (v := (.ref a)) j.toInt.toNat F.A.arr rfl (show j.toInt = (j.toInt.toNat : Int) by omega) hv d26_34 ?_
    refine K_areturn C (pc := 35) d26_35 rfl rfl rfl (by decide) (by decide) (fun _ _ => ⟨_, _, rfl, Ga, F, oStep.mono (Nat.le_refl _)⟩)
theorem pno_55 : plainFor (⟨"java/lang/Math", "min", "(II)I"⟩ : MethodName) = true := by first | exact plainFor_of_name (by first | (simp [plainName, overriddenIn]; done) | decide +kernel) | decide +kernel
theorem efo_55 (m : MethodId) (x0 : Int32) (x1 : Int32) : entryFrame m #[.int x0, .int x1] 2 = oF m 0 [.val (.int x0), .val (.int x1)] [] := by (first | (simp [entryFrame, oF, mkF, argsToLocals, Value.category]; done) | rfl)
set_option maxRecDepth 65536 in
set_option maxHeartbeats 40000000 in
theorem mMIN (l : Launch) (Z : State) (a0 : Array Value) (hw : ∀ d ∈ tables_1, d.before a0 Z = true) (x z : Int32) (h0 : Heap) :
    oMeets l Z (⟨"java/lang/Math", "min", "(II)I"⟩ : MethodName) jdk_29_method_69_code 2 (some .int) ({ frames := 0, cells := 0, slots := 0, locals := 0 } : Room) #[.int x, .int z] h0 (fun a => h0.size ≤ a) (fun v h => v = some (.int (own_mn x z)) ∧ h = h0) := by
  refine oMeets.of pno_55 (fun _ q => q) (fun E _ q => Nat.le_trans E.1 q) (Ls := [.val (.int x), .val (.int z)]) (fun m => efo_55 m x z) ?_
  intro p e s m below meth c C hs
  refine K_iloadN C (pc := 0) d55_0 rfl ?_
  refine K_iloadN C (pc := 1) d55_1 rfl ?_
  refine K_icmp C (pc := 2) 9 d55_2 (by decide) (by decide) (fun hc2 => ?_) (fun hc2 => ?_)
  · simp only [oC, Classical.not_not] at hc2
    refine K_iloadN C (pc := 9) d55_9 rfl ?_
    have eE : own_mn x z = _ := if_pos hc2
    refine K_ireturn C (pc := 10) d55_10 (by simp) rfl (by decide) (by decide) (fun _ _ => ⟨by rw [eE]; rfl, rfl⟩)
  · simp only [oC, Classical.not_not] at hc2
    refine K_iloadN C (pc := 5) d55_5 rfl ?_
    refine K_goto C (pc := 6) 10 d55_6 (by decide) (by decide) ?_
    have eE : own_mn x z = _ := if_neg hc2
    refine K_ireturn C (pc := 10) d55_10 (by simp) rfl (by decide) (by decide) (fun _ _ => ⟨by rw [eE]; rfl, rfl⟩)
theorem pno_56 : plainFor (⟨"java/lang/Math", "max", "(II)I"⟩ : MethodName) = true := by first | exact plainFor_of_name (by first | (simp [plainName, overriddenIn]; done) | decide +kernel) | decide +kernel
theorem efo_56 (m : MethodId) (x0 : Int32) (x1 : Int32) : entryFrame m #[.int x0, .int x1] 2 = oF m 0 [.val (.int x0), .val (.int x1)] [] := by (first | (simp [entryFrame, oF, mkF, argsToLocals, Value.category]; done) | rfl)
set_option maxRecDepth 65536 in
set_option maxHeartbeats 40000000 in
theorem mMAX (l : Launch) (Z : State) (a0 : Array Value) (hw : ∀ d ∈ tables_1, d.before a0 Z = true) (x z : Int32) (h0 : Heap) :
    oMeets l Z (⟨"java/lang/Math", "max", "(II)I"⟩ : MethodName) jdk_29_method_65_code 2 (some .int) ({ frames := 0, cells := 0, slots := 0, locals := 0 } : Room) #[.int x, .int z] h0 (fun a => h0.size ≤ a) (fun v h => v = some (.int (own_max x z)) ∧ h = h0) := by
  refine oMeets.of pno_56 (fun _ q => q) (fun E _ q => Nat.le_trans E.1 q) (Ls := [.val (.int x), .val (.int z)]) (fun m => efo_56 m x z) ?_
  intro p e s m below meth c C hs
  refine K_iloadN C (pc := 0) d56_0 rfl ?_
  refine K_iloadN C (pc := 1) d56_1 rfl ?_
  refine K_icmp C (pc := 2) 9 d56_2 (by decide) (by decide) (fun hc2 => ?_) (fun hc2 => ?_)
  · simp only [oC, Classical.not_not] at hc2
    refine K_iloadN C (pc := 9) d56_9 rfl ?_
    have eE : own_max x z = _ := if_pos hc2
    refine K_ireturn C (pc := 10) d56_10 (by simp) rfl (by decide) (by decide) (fun _ _ => ⟨by rw [eE]; rfl, rfl⟩)
  · simp only [oC, Classical.not_not] at hc2
    refine K_iloadN C (pc := 5) d56_5 rfl ?_
    refine K_goto C (pc := 6) 10 d56_6 (by decide) (by decide) ?_
    have eE : own_max x z = _ := if_neg hc2
    refine K_ireturn C (pc := 10) d56_10 (by simp) rfl (by decide) (by decide) (fun _ _ => ⟨by rw [eE]; rfl, rfl⟩)
theorem own_repl {k i : Nat} {v w : Value} (h : (List.replicate k w)[i]? = some v) : v = w := by
  rw [List.getElem?_replicate] at h
  split at h
  · cases h; rfl
  · cases h
theorem pno_15 : plainFor (⟨"com/example/roomyield/roomyield/NightTally", "<init>", "()V"⟩ : MethodName) = true := by first | exact plainFor_of_name (by first | (simp [plainName, overriddenIn]; done) | decide +kernel) | decide +kernel
theorem efo_15 (m : MethodId) (x0 : Addr) : entryFrame m #[.ref x0] 1 = oF m 0 [.val (.ref x0)] [] := by (first | (simp [entryFrame, oF, mkF, argsToLocals, Value.category]; done) | rfl)
set_option maxRecDepth 65536 in
set_option maxHeartbeats 40000000 in
theorem mNTI (l : Launch) (Z : State) (a0 : Array Value) (hw : ∀ d ∈ tables_1, d.before a0 Z = true) (t : Addr) (lo : Nat) (h0 : Heap) (hlt : lo ≤ t) (hya : Z.heap.size ≤ t) (X : Exa Z h0 t "com/example/roomyield/roomyield/NightTally") (FM : Fld Z h0 t "com/example/roomyield/roomyield/NightTally" "months" "[Lcom/example/roomyield/roomyield/NightTally$MonthNights;" .null) (FF : Fld Z h0 t "com/example/roomyield/roomyield/NightTally" "firstNightMonth" "I" (.int 0)) (FL : Fld Z h0 t "com/example/roomyield/roomyield/NightTally" "lastNightMonth" "I" (.int 0)) :
    oMeets l Z (⟨"com/example/roomyield/roomyield/NightTally", "<init>", "()V"⟩ : MethodName) prog_5_method_1_code 1 none ({ frames := 1, cells := 1, slots := 120000, locals := 20 } : Room) #[.ref t] h0 (fun x => x = t ∨ h0.size ≤ x) (fun v h => ∃ ma vs, v = none ∧ oNT Z h lo t ma vs 0 2147483647 (-1)) := by
  refine oMeets.of pno_15 (fun _ q => Or.inr q) (fun E x q => q.elim (fun r => r ▸ hya) (fun r => Nat.le_trans E.1 r)) (Ls := [.val (.ref t)]) (fun m => efo_15 m t) ?_
  intro p e s m below meth c C hs
  refine K_aloadN C (pc := 0) d15_0 rfl (by first | rfl | assumption) ?_
  refine K_initO C (pc := 1) (tw92 hw) (tw78 hw) (tw79 hw) d15_1 rfl (by decide) (Nat.le_of_ble_eq_true rfl) ?_
  refine K_aloadN C (pc := 4) d15_4 rfl (by first | rfl | assumption) ?_
  refine K_ldcI C (pc := 5) (tw93 hw) d15_5 ?_
  have hax := oXlt X
  refine K_anewarrayO C (pc := 7) 120000 120000 (tw94 hw) (tw95 hw) d15_7 (by decide) (by decide) (by decide) (by decide) (by decide) ?_
  intro h1 ma hma hPma E1 A
  have hlm : lo ≤ ma := Nat.le_trans hlt (Nat.le_of_lt (Nat.lt_of_lt_of_eq hax hma.symm))
  obtain ⟨vs, hvs⟩ : ∃ vs, vs = List.replicate 120000 Value.null := ⟨_, rfl⟩
  rw [← hvs] at A
  replace X := X.ext E1
  replace FM := FM.ext E1
  replace FF := FF.ext E1
  replace FL := FL.ext E1
  refine K_putF C (pc := 10) (tw96 hw) Via.refl FM X (Or.inr ⟨(tw97 hw), rfl, rfl⟩) (tw87 hw) (ty := (.array (.object "com/example/roomyield/roomyield/NightTally$MonthNights"))) (by decide) rfl rfl (Or.inl rfl) d15_10 ?_
  intro h2 W2
  replace FM := Fld.same W2 FM
  replace FF := (Fld.other W2 FF (Or.inr (slot_ne (Or.inl (tw100 hw)) (Or.inr (tw97 hw)) (by decide) (t := .int) (t' := (.array (.object "com/example/roomyield/roomyield/NightTally$MonthNights"))) (by decide) (by decide))))
  replace FL := (Fld.other W2 FL (Or.inr (slot_ne (Or.inl (tw102 hw)) (Or.inr (tw97 hw)) (by decide) (t := .int) (t' := (.array (.object "com/example/roomyield/roomyield/NightTally$MonthNights"))) (by decide) (by decide))))
  replace A := A.other W2 (by obtain ⟨_, A, -⟩ := A; exact fun e => ne_arr X (tw87 hw) A e.symm)
  replace X := X.wr W2
  refine K_aloadN C (pc := 13) d15_13 rfl (by first | rfl | assumption) ?_
  refine K_ldcI C (pc := 14) (tw98 hw) d15_14 ?_
  refine K_putF C (pc := 16) (tw99 hw) Via.refl FF X (Or.inl (tw100 hw)) (tw87 hw) (ty := .int) (by decide) rfl rfl (Or.inl rfl) d15_16 ?_
  intro h3 W3
  replace FM := (Fld.other W3 FM (Or.inr (slot_ne (Or.inr (tw97 hw)) (Or.inl (tw100 hw)) (by decide) (t := (.array (.object "com/example/roomyield/roomyield/NightTally$MonthNights"))) (t' := .int) (by decide) (by decide))))
  replace FF := Fld.same W3 FF
  replace FL := (Fld.other W3 FL (Or.inr (slot_ne (Or.inl (tw102 hw)) (Or.inl (tw100 hw)) (by decide) (t := .int) (t' := .int) (by decide) (by decide))))
  replace A := A.other W3 (by obtain ⟨_, A, -⟩ := A; exact fun e => ne_arr X (tw87 hw) A e.symm)
  replace X := X.wr W3
  refine K_aloadN C (pc := 19) d15_19 rfl (by first | rfl | assumption) ?_
  refine K_iconst C (pc := 20) (-1) d15_20 (by decide) ?_
  refine K_putF C (pc := 21) (tw101 hw) Via.refl FL X (Or.inl (tw102 hw)) (tw87 hw) (ty := .int) (by decide) rfl rfl (Or.inl rfl) d15_21 ?_
  intro h4 W4
  replace FM := (Fld.other W4 FM (Or.inr (slot_ne (Or.inr (tw97 hw)) (Or.inl (tw102 hw)) (by decide) (t := (.array (.object "com/example/roomyield/roomyield/NightTally$MonthNights"))) (t' := .int) (by decide) (by decide))))
  replace FF := (Fld.other W4 FF (Or.inr (slot_ne (Or.inl (tw100 hw)) (Or.inl (tw102 hw)) (by decide) (t := .int) (t' := .int) (by decide) (by decide))))
  replace FL := Fld.same W4 FL
  replace A := A.other W4 (by obtain ⟨_, A, -⟩ := A; exact fun e => ne_arr X (tw87 hw) A e.symm)
  replace X := X.wr W4
  refine K_return C (pc := 24) d15_24 (by decide) (by decide) (fun _ _ => ⟨ma, vs, rfl, X, FM, FF, FL, A, by rw [hvs, List.length_replicate], fun i v q => Or.inl (own_repl (hvs ▸ q)), hlt, hlm⟩)
theorem pno_25 : plainFor (⟨"com/example/roomyield/roomyield/NightTally", "index", "(II)I"⟩ : MethodName) = true := by first | exact plainFor_of_name (by first | (simp [plainName, overriddenIn]; done) | decide +kernel) | decide +kernel
theorem efo_25 (m : MethodId) (x0 : Int32) (x1 : Int32) : entryFrame m #[.int x0, .int x1] 2 = oF m 0 [.val (.int x0), .val (.int x1)] [] := by (first | (simp [entryFrame, oF, mkF, argsToLocals, Value.category]; done) | rfl)
set_option maxRecDepth 65536 in
set_option maxHeartbeats 40000000 in
theorem mIDX (l : Launch) (Z : State) (a0 : Array Value) (hw : ∀ d ∈ tables_1, d.before a0 Z = true) (y m_ d_ : Int32) (h0 : Heap) (hD : oDt y m_ d_) :
    oMeets l Z (⟨"com/example/roomyield/roomyield/NightTally", "index", "(II)I"⟩ : MethodName) prog_5_method_7_code 2 (some .int) ({ frames := 0, cells := 0, slots := 0, locals := 0 } : Room) #[.int y, .int m_] h0 (fun a => h0.size ≤ a) (fun v h => v = some (.int (own_ix y m_)) ∧ h = h0) := by
  refine oMeets.of pno_25 (fun _ q => q) (fun E _ q => Nat.le_trans E.1 q) (Ls := [.val (.int y), .val (.int m_)]) (fun m => efo_25 m y m_) ?_
  intro p e s m below meth c C hs
  refine K_iloadN C (pc := 0) d25_0 rfl ?_
  refine K_if C (pc := 1) 11 d25_1 (by decide) (by decide) (fun hc1 => ?_) (fun hc1 => ?_)
  · simp only [oC, Classical.not_not] at hc1
    exact absurd hc1 (by rw [Int32.lt_iff_toInt_lt, show (0 : Int32).toInt = 0 from rfl]; have := hD.1; omega)
  · simp only [oC, Classical.not_not] at hc1
    refine K_iloadN C (pc := 4) d25_4 rfl ?_
    refine K_sipush C (pc := 5) 10000 d25_5 (by decide) ?_
    refine K_icmp C (pc := 8) 25 d25_8 (by decide) (by decide) (fun hc8 => ?_) (fun hc8 => ?_)
    · simp only [oC, Classical.not_not] at hc8
      refine K_bipush C (pc := 25) 12 d25_25 (by decide) ?_
      refine K_iloadN C (pc := 27) d25_27 rfl ?_
      refine K_imul C (pc := 28) d25_28 ?_
      refine K_iloadN C (pc := 29) d25_29 rfl ?_
      refine K_iadd C (pc := 30) d25_30 ?_
      refine K_iconst C (pc := 31) 1 d25_31 (by decide) ?_
      refine K_isub C (pc := 32) d25_32 ?_
      refine K_ireturn C (pc := 33) d25_33 (by simp) rfl (by decide) (by decide) (fun _ _ => ⟨rfl, rfl⟩)
    · simp only [oC, Classical.not_not] at hc8
      exact absurd (show y < 10000 by rw [Int32.lt_iff_toInt_lt, show (10000 : Int32).toInt = 10000 from rfl]; have := hD.1; omega) hc8
theorem own_i3 {y1 m1 d1 y2 m2 d2 : Int32} (h : oDt y1 m1 d1) (g : oDt y2 m2 d2) (hc : (1 : Int32) < own_ix y2 m2 - own_ix y1 m1) : 0 ≤ (own_ix y1 m1 + 1).toInt ∧ (own_ix y1 m1 + 1).toInt < 120000 := by
  have e1 := own_ixI h
  have e2 := own_ixI g
  obtain ⟨h1, h2, h3⟩ := h
  obtain ⟨g1, g2, g3⟩ := g
  have e4 := own_subI (a := own_ix y2 m2) (b := own_ix y1 m1) (by omega) (by omega)
  rw [Int32.lt_iff_toInt_lt, e4, e1, e2, show (1 : Int32).toInt = 1 from rfl] at hc
  have e3 : (own_ix y1 m1 + 1).toInt = 12 * y1.toInt + m1.toInt := by rw [Int32.toInt_add, e1, show (1 : Int32).toInt = 1 from rfl, Int.bmod_def]; omega
  omega
theorem own_s31 {x : Int32} (h : -31 ≤ x.toInt ∧ x.toInt ≤ 31) : oSm 31 x.toInt64 := by
  unfold oSm
  rw [own_i64]
  omega
theorem own_len {y m d : Int32} {k : Nat} (h : oDt y m d) (h1 : 28 ≤ k) (h2 : k ≤ 31) : -31 ≤ (Int32.ofNat k - d + 1).toInt ∧ (Int32.ofNat k - d + 1).toInt ≤ 31 := by
  obtain ⟨u1, u2, u3⟩ := h
  rw [Int32.toInt_add, Int32.toInt_sub, oOf k (by omega), show (1 : Int32).toInt = 1 from rfl]
  simp only [Int.bmod_def]
  omega
theorem pno_20 : plainFor (⟨"com/example/roomyield/roomyield/NightTally", "add", "(Ljava/time/LocalDate;Ljava/time/LocalDate;Ljava/math/BigDecimal;Ljava/math/BigDecimal;)V"⟩ : MethodName) = true := by first | exact plainFor_of_name (by first | (simp [plainName, overriddenIn]; done) | decide +kernel) | decide +kernel
theorem efo_20 (m : MethodId) (x0 : Addr) (x1 : Addr) (x2 : Addr) (x3 : Addr) (x4 : Addr) : entryFrame m #[.ref x0, .ref x1, .ref x2, .ref x3, .ref x4] 10 = oF m 0 [.val (.ref x0), .val (.ref x1), .val (.ref x2), .val (.ref x3), .val (.ref x4), .unset, .unset, .unset, .unset, .unset] [] := by (first | (simp [entryFrame, oF, mkF, argsToLocals, Value.category]; done) | rfl)
set_option maxRecDepth 65536 in
set_option maxHeartbeats 40000000 in
theorem mADD (l : Launch) (Z : State) (a0 : Array Value) (hw : ∀ d ∈ tables_1, d.before a0 Z = true) (W : oSt Z) (t ma a1 a2 ra ga : Addr) (vs : List Value) (lo B : Nat) (f l_ y1 m1 d1 y2 m2 d2 : Int32) (xr_ xg_ : Int64) (h0 : Heap) (hlo : Z.heap.size ≤ lo) (hle : lo ≤ h0.size) (hB : B ≤ 40000) (hD1 : oDt y1 m1 d1) (hD2 : oDt y2 m2 d2) (hk12 : own_key y1 m1 d1 ≤ own_key y2 m2 d2) (hrt : oSm 10 xr_) (hgu : oSm 10 xg_) (F : oNT Z h0 lo t ma vs B f l_) (LA : oLD Z h0 a1 y1 m1 d1) (LB : oLD Z h0 a2 y2 m2 d2) (RT : oBD Z h0 ra xr_) (GU : oBD Z h0 ga xg_) :
    oMeets l Z (⟨"com/example/roomyield/roomyield/NightTally", "add", "(Ljava/time/LocalDate;Ljava/time/LocalDate;Ljava/math/BigDecimal;Ljava/math/BigDecimal;)V"⟩ : MethodName) prog_5_method_2_code 10 none ({ frames := 9, cells := 35, slots := 238, locals := 260 } : Room) #[.ref t, .ref a1, .ref a2, .ref ra, .ref ga] h0 (fun x => lo ≤ x) (fun v h => ∃ vs' B', v = none ∧ B' ≤ B + 1600 ∧ oNT Z h lo t ma vs' B' (if own_key y1 m1 d1 < own_key y2 m2 d2 then own_mn f (own_ix y1 m1) else f) (if own_key y1 m1 d1 < own_key y2 m2 d2 then own_max l_ (own_lm y2 m2 d2) else l_) ∧ oStep Z lo h0 h B B') := by
  refine oMeets.of pno_20 (fun _ r => Nat.le_trans hle r) (fun _ _ r => Nat.le_trans hlo r) (Ls := [.val (.ref t), .val (.ref a1), .val (.ref a2), .val (.ref ra), .val (.ref ga), .unset, .unset, .unset, .unset, .unset]) (fun m => efo_20 m t a1 a2 ra ga) ?_
  intro p e s m below meth c C hs
  have J242 : ∀ (h : Heap) (vs : List Value) (Bc : Nat) (b1 b2 : Addr) (z9 : Int32), Bc ≤ B + 1600 → oNT Z h lo t ma vs Bc f l_ → oLD Z h a1 y1 m1 d1 → oLD Z h a2 y2 m2 d2 → oBD Z h ra xr_ → oBD Z h ga xg_ → oStep Z lo h0 h B Bc →  oWP false p l e ({ frames := 9, cells := 35, slots := 238, locals := 260 } : Room) s m #[.ref t, .ref a1, .ref a2, .ref ra, .ref ga] below meth c (fun x => lo ≤ x) (fun v h _ => ((fun v h => ∃ vs' B', v = none ∧ B' ≤ B + 1600 ∧ oNT Z h lo t ma vs' B' (if own_key y1 m1 d1 < own_key y2 m2 d2 then own_mn f (own_ix y1 m1) else f) (if own_key y1 m1 d1 < own_key y2 m2 d2 then own_max l_ (own_lm y2 m2 d2) else l_) ∧ oStep Z lo h0 h B B')) v h) oT h 35 238 (oF m 242 [.val (.ref t), .val (.ref a1), .val (.ref a2), .val (.ref ra), .val (.ref ga), .val (.int (own_ix y1 m1)), .val (.int (own_ix y2 m2)), .val (.ref b1), .val (.ref b2), .val (.int z9)] []) := by
    intro h vs Bc b1 b2 z9 hBc F LA LB RT GU SS
    refine K_aloadN C (pc := 242) d20_242 rfl (by first | rfl | assumption) ?_
    refine K_aloadN C (pc := 243) d20_243 rfl (by first | rfl | assumption) ?_
    refine K_virtual C (pc := 244) (mBEF l Z a0 hw a1 a2 y1 m1 d1 y2 m2 d2 _ LA LB hD1 hD2) (LA.1) (tw132 hw) (tw133 hw) (oNF (tw135 hw)) (tw135 hw) (tw134 hw) (tw22 hw) (tw136 hw) (by decide) pdo_25 d20_244 (argsL := [_]) (rest := _) rfl rfl rfl rfl (fun a q r => C.new a (Nat.le_trans q r)) (by decide) (Nat.le_of_ble_eq_true rfl) (by decide) (by decide) ?_
    rintro _ h8 ⟨r, rfl, hh, hr⟩ -
    replace hh := hh.symm
    subst hh
    dsimp only [Option.toList, List.cons_append, List.nil_append]
    refine K_if C (pc := 247) 291 d20_247 (by decide) (by decide) (fun hc247 => ?_) (fun hc247 => ?_)
    · simp only [oC, Classical.not_not] at hc247
      have hnk := (hr.resolve_left (fun z => absurd (z.1.symm.trans hc247) (by decide))).2
      refine K_return C (pc := 291) d20_291 (by decide) (by decide) (fun _ _ => ⟨vs, Bc, rfl, hBc, by rw [if_neg hnk, if_neg hnk]; exact F, SS⟩)
    · simp only [oC, Classical.not_not] at hc247
      refine K_aloadN C (pc := 250) d20_250 rfl (by first | rfl | assumption) ?_
      refine K_aloadN C (pc := 251) d20_251 rfl (by first | rfl | assumption) ?_
      refine K_getF C (pc := 252) (tw99 hw) Via.refl F.FF d20_252 ?_
      refine K_iload C (pc := 255) d20_255 rfl ?_
      refine K_static C (pc := 257) (mMIN l Z a0 hw f (own_ix y1 m1) _) (tw324 hw) (tw325 hw) (tw11 hw) (tw326 hw) (by decide) pdo_26 d20_257 (argsL := [_, _]) (rest := _) rfl rfl rfl rfl (fun a q r => C.new a (Nat.le_trans q r)) (by decide) (Nat.le_of_ble_eq_true rfl) (by decide) (by decide) ?_
      rintro _ h8 ⟨rfl, hh⟩ -
      replace hh := hh.symm
      subst hh
      dsimp only [Option.toList, List.cons_append, List.nil_append]
      refine K_putF C (pc := 260) (tw99 hw) Via.refl F.FF F.X (Or.inl (tw100 hw)) (tw87 hw) (ty := .int) (by decide) rfl rfl F.t1 d20_260 ?_
      intro h5 W5
      have S : oStep Z lo _ h5 Bc Bc := oStep.fld (tw87 hw) F.X W5
      replace LA := S.L _ _ _ _ LA
      replace LB := S.L _ _ _ _ LB
      replace RT := S.D _ _ RT
      replace GU := S.D _ _ GU
      replace SS := SS.trans S
      have F2 : oNT Z h5 lo t ma vs Bc _ _ := ⟨F.X.wr W5, (Fld.other W5 F.FM (Or.inr (slot_ne (Or.inr (tw97 hw)) (Or.inl (tw100 hw)) (by decide) (t := (.array (.object "com/example/roomyield/roomyield/NightTally$MonthNights"))) (t' := .int) (by decide) (by decide)))), Fld.same W5 F.FF, (Fld.other W5 F.FL (Or.inr (slot_ne (Or.inl (tw102 hw)) (Or.inl (tw100 hw)) (by decide) (t := .int) (t' := .int) (by decide) (by decide)))), F.A.other W5 (by obtain ⟨_, A, -⟩ := F.A; exact fun e => ne_arr F.X (tw87 hw) A e.symm), F.hl, fun i v q => S.me (F.el i v q), F.t1, F.m1⟩
      clear F S
      have F := F2
      clear F2
      refine K_aloadN C (pc := 263) d20_263 rfl (by first | rfl | assumption) ?_
      refine K_aloadN C (pc := 264) d20_264 rfl (by first | rfl | assumption) ?_
      refine K_getF C (pc := 265) (tw101 hw) Via.refl F.FL d20_265 ?_
      refine K_aloadN C (pc := 268) d20_268 rfl (by first | rfl | assumption) ?_
      refine K_virtual C (pc := 269) (mLD l Z a0 hw a2 y2 m2 d2 _ LB) (LB.1) (tw251 hw) (tw252 hw) (oNF (tw254 hw)) (tw254 hw) (tw253 hw) (tw22 hw) (tw255 hw) (by decide) pdo_15 d20_269 (argsL := []) (rest := _) rfl rfl rfl rfl (fun a q r => C.new a (Nat.le_trans q r)) (by decide) (Nat.le_of_ble_eq_true rfl) (by decide) (by decide) ?_
      rintro _ h8 ⟨rfl, hh⟩ -
      replace hh := hh.symm
      subst hh
      dsimp only [Option.toList, List.cons_append, List.nil_append]
      refine K_iconst C (pc := 272) 1 d20_272 (by decide) ?_
      refine K_icmp C (pc := 273) 283 d20_273 (by decide) (by decide) (fun hc273 => ?_) (fun hc273 => ?_)
      · simp only [oC, Classical.not_not] at hc273
        refine K_iload C (pc := 283) d20_283 rfl ?_
        rw [show (own_ix y2 m2) = own_lm y2 m2 d2 from (if_neg hc273).symm]
        refine K_static C (pc := 285) (mMAX l Z a0 hw l_ (own_lm y2 m2 d2) _) (tw327 hw) (tw328 hw) (tw11 hw) (tw329 hw) (by decide) pdo_26 d20_285 (argsL := [_, _]) (rest := _) rfl rfl rfl rfl (fun a q r => C.new a (Nat.le_trans q r)) (by decide) (Nat.le_of_ble_eq_true rfl) (by decide) (by decide) ?_
        rintro _ h8 ⟨rfl, hh⟩ -
        replace hh := hh.symm
        subst hh
        dsimp only [Option.toList, List.cons_append, List.nil_append]
        refine K_putF C (pc := 288) (tw101 hw) Via.refl F.FL F.X (Or.inl (tw102 hw)) (tw87 hw) (ty := .int) (by decide) rfl rfl F.t1 d20_288 ?_
        intro h6 W6
        have S : oStep Z lo _ h6 Bc Bc := oStep.fld (tw87 hw) F.X W6
        replace LA := S.L _ _ _ _ LA
        replace LB := S.L _ _ _ _ LB
        replace RT := S.D _ _ RT
        replace GU := S.D _ _ GU
        replace SS := SS.trans S
        have F2 : oNT Z h6 lo t ma vs Bc _ _ := ⟨F.X.wr W6, (Fld.other W6 F.FM (Or.inr (slot_ne (Or.inr (tw97 hw)) (Or.inl (tw102 hw)) (by decide) (t := (.array (.object "com/example/roomyield/roomyield/NightTally$MonthNights"))) (t' := .int) (by decide) (by decide)))), (Fld.other W6 F.FF (Or.inr (slot_ne (Or.inl (tw100 hw)) (Or.inl (tw102 hw)) (by decide) (t := .int) (t' := .int) (by decide) (by decide)))), Fld.same W6 F.FL, F.A.other W6 (by obtain ⟨_, A, -⟩ := F.A; exact fun e => ne_arr F.X (tw87 hw) A e.symm), F.hl, fun i v q => S.me (F.el i v q), F.t1, F.m1⟩
        clear F S
        have F := F2
        clear F2
        have hkk := (hr.resolve_right (fun z => hc247 z.1)).2
        refine K_return C (pc := 291) d20_291 (by decide) (by decide) (fun _ _ => ⟨vs, Bc, rfl, hBc, by rw [if_pos hkk, if_pos hkk]; exact F, SS⟩)
      · simp only [oC, Classical.not_not] at hc273
        refine K_iload C (pc := 276) d20_276 rfl ?_
        refine K_iconst C (pc := 278) 1 d20_278 (by decide) ?_
        refine K_isub C (pc := 279) d20_279 ?_
        refine K_goto C (pc := 280) 285 d20_280 (by decide) (by decide) ?_
        rw [show own_ix y2 m2 - 1 = own_lm y2 m2 d2 from (if_pos hc273).symm]
        refine K_static C (pc := 285) (mMAX l Z a0 hw l_ (own_lm y2 m2 d2) _) (tw327 hw) (tw328 hw) (tw11 hw) (tw329 hw) (by decide) pdo_26 d20_285 (argsL := [_, _]) (rest := _) rfl rfl rfl rfl (fun a q r => C.new a (Nat.le_trans q r)) (by decide) (Nat.le_of_ble_eq_true rfl) (by decide) (by decide) ?_
        rintro _ h8 ⟨rfl, hh⟩ -
        replace hh := hh.symm
        subst hh
        dsimp only [Option.toList, List.cons_append, List.nil_append]
        refine K_putF C (pc := 288) (tw101 hw) Via.refl F.FL F.X (Or.inl (tw102 hw)) (tw87 hw) (ty := .int) (by decide) rfl rfl F.t1 d20_288 ?_
        intro h6 W6
        have S : oStep Z lo _ h6 Bc Bc := oStep.fld (tw87 hw) F.X W6
        replace LA := S.L _ _ _ _ LA
        replace LB := S.L _ _ _ _ LB
        replace RT := S.D _ _ RT
        replace GU := S.D _ _ GU
        replace SS := SS.trans S
        have F2 : oNT Z h6 lo t ma vs Bc _ _ := ⟨F.X.wr W6, (Fld.other W6 F.FM (Or.inr (slot_ne (Or.inr (tw97 hw)) (Or.inl (tw102 hw)) (by decide) (t := (.array (.object "com/example/roomyield/roomyield/NightTally$MonthNights"))) (t' := .int) (by decide) (by decide)))), (Fld.other W6 F.FF (Or.inr (slot_ne (Or.inl (tw100 hw)) (Or.inl (tw102 hw)) (by decide) (t := .int) (t' := .int) (by decide) (by decide)))), Fld.same W6 F.FL, F.A.other W6 (by obtain ⟨_, A, -⟩ := F.A; exact fun e => ne_arr F.X (tw87 hw) A e.symm), F.hl, fun i v q => S.me (F.el i v q), F.t1, F.m1⟩
        clear F S
        have F := F2
        clear F2
        have hkk := (hr.resolve_right (fun z => hc247 z.1)).2
        refine K_return C (pc := 291) d20_291 (by decide) (by decide) (fun _ _ => ⟨vs, Bc, rfl, hBc, by rw [if_pos hkk, if_pos hkk]; exact F, SS⟩)
  have J197 : ∀ (h : Heap) (vs : List Value) (Bc : Nat) (b1 b2 : Addr) (z9 : Int32), Bc ≤ B + 800 → oNT Z h lo t ma vs Bc f l_ → oLD Z h a1 y1 m1 d1 → oLD Z h a2 y2 m2 d2 → oBD Z h ra xr_ → oBD Z h ga xg_ → oStep Z lo h0 h B Bc →  oMN Z h lo b2 Bc (own_ml y2 m2) → oWP false p l e ({ frames := 9, cells := 35, slots := 238, locals := 260 } : Room) s m #[.ref t, .ref a1, .ref a2, .ref ra, .ref ga] below meth c (fun x => lo ≤ x) (fun v h _ => ((fun v h => ∃ vs' B', v = none ∧ B' ≤ B + 1600 ∧ oNT Z h lo t ma vs' B' (if own_key y1 m1 d1 < own_key y2 m2 d2 then own_mn f (own_ix y1 m1) else f) (if own_key y1 m1 d1 < own_key y2 m2 d2 then own_max l_ (own_lm y2 m2 d2) else l_) ∧ oStep Z lo h0 h B B')) v h) oT h 20 142 (oF m 197 [.val (.ref t), .val (.ref a1), .val (.ref a2), .val (.ref ra), .val (.ref ga), .val (.int (own_ix y1 m1)), .val (.int (own_ix y2 m2)), .val (.ref b1), .val (.ref b2), .val (.int z9)] []) := by
    intro h vs Bc b1 b2 z9 hBc F LA LB RT GU SS G2
    refine K_iload C (pc := 197) d20_197 rfl ?_
    refine K_iload C (pc := 199) d20_199 rfl ?_
    refine K_isub C (pc := 201) d20_201 ?_
    refine K_iconst C (pc := 202) 1 d20_202 (by decide) ?_
    refine K_icmp C (pc := 203) 242 d20_203 (by decide) (by decide) (fun hc203 => ?_) (fun hc203 => ?_)
    · simp only [oC, Classical.not_not] at hc203
      exact oWP.more (k' := 35) (n' := 238) (J242 _ vs Bc b1 b2 z9 (by omega) F LA LB RT GU SS) (by decide) (by decide)
    · simp only [oC, Classical.not_not] at hc203
      refine K_aloadN C (pc := 206) d20_206 rfl (by first | rfl | assumption) ?_
      refine K_iload C (pc := 207) d20_207 rfl ?_
      refine K_iconst C (pc := 209) 1 d20_209 (by decide) ?_
      refine K_iadd C (pc := 210) d20_210 ?_
      have hi3 : 0 ≤ ((own_ix y1 m1) + 1).toInt ∧ ((own_ix y1 m1) + 1).toInt < 120000 := own_i3 hD1 hD2 hc203
      refine K_private C (pc := 211) (mTAL l Z a0 hw W t ma vs lo Bc f l_ _ hlo F.le F ((own_ix y1 m1) + 1) hi3) (F.X) (tw155 hw) (oSelf.of (tw106 hw) rfl) (tw157 hw) (tw156 hw) (tw88 hw) (tw158 hw) (by decide) pdo_27 d20_211 (argsL := [_]) (rest := _) rfl rfl rfl rfl (fun _ _ r => r) (by decide) (Nat.le_of_ble_eq_true rfl) (by decide) (by decide) ?_
      rintro _ h6 ⟨b3, vs6, rfl, G3, F6, S⟩ -
      clear F
      have F := F6
      clear F6
      replace LA := S.L _ _ _ _ LA
      replace LB := S.L _ _ _ _ LB
      replace RT := S.D _ _ RT
      replace GU := S.D _ _ GU
      replace SS := SS.trans S
      replace G2 := S.mn G2
      clear S
      dsimp only [Option.toList, List.cons_append, List.nil_append]
      obtain ⟨XG, -, ⟨nx, FG, Gx⟩, -⟩ := G3
      refine K_getFR C (pc := 214) (tw385 hw) FG d20_214 ?_
      refine K_lconst C (pc := 217) 1 d20_217 (by decide) ?_
      refine K_iload C (pc := 218) d20_218 rfl ?_
      refine K_aloadN C (pc := 220) d20_220 rfl (by first | rfl | assumption) ?_
      refine K_aload C (pc := 221) d20_221 rfl (by first | rfl | assumption) ?_
      have hnx : Z.heap.size ≤ nx := Nat.le_trans hlo Gx.1
      refine K_privateR C (pc := 223) (mNAD l Z a0 hw W nx ra ga lo Bc 1 xr_ xg_ z9 _ hnx (by omega) (by decide) hrt hgu RT GU Gx) (Gx.2.1) (tw269 hw) (oSelf.inst (tw231 hw)) (tw271 hw) (tw270 hw) (tw232 hw) (tw272 hw) (by decide) pdo_28 d20_223 (argsL := [_, _, _, _]) (rest := _) rfl rfl rfl rfl (fun x q r => r.elim (fun z => z ▸ Gx.1) (fun z => C.new x (Nat.le_trans q z))) (by decide) (Nat.le_of_ble_eq_true rfl) (by decide) (by decide) ?_
      rintro _ h7 ⟨rfl, Gx7⟩ hK7
      have S : oStep Z lo _ h7 Bc (Bc + 400) := oStep.ni (tw369 hw) Gx.2.1 (tw231 hw) hK7 (fun _ => Gx7) (by omega)
      have F7 := F.ni (tw231 hw) Gx.2.1 hK7 S
      clear F
      have F := F7
      clear F7
      replace LA := S.L _ _ _ _ LA
      replace LB := S.L _ _ _ _ LB
      replace RT := S.D _ _ RT
      replace GU := S.D _ _ GU
      replace SS := SS.trans S
      replace G2 := S.mn G2
      clear S Gx XG FG
      dsimp only [Option.toList, List.cons_append, List.nil_append]
      refine K_aload C (pc := 226) d20_226 rfl (by first | rfl | assumption) ?_
      obtain ⟨XG, -, ⟨nx, FG, Gx⟩, -⟩ := G2
      refine K_getFR C (pc := 228) (tw385 hw) FG d20_228 ?_
      refine K_ldc2J C (pc := 231) (tw386 hw) d20_231 ?_
      refine K_iload C (pc := 234) d20_234 rfl ?_
      refine K_aloadN C (pc := 236) d20_236 rfl (by first | rfl | assumption) ?_
      refine K_aload C (pc := 237) d20_237 rfl (by first | rfl | assumption) ?_
      have hnx : Z.heap.size ≤ nx := Nat.le_trans hlo Gx.1
      refine K_privateR C (pc := 239) (mNAD l Z a0 hw W nx ra ga lo (Bc + 400) (-1) xr_ xg_ z9 _ hnx (by omega) (by decide) hrt hgu RT GU Gx) (Gx.2.1) (tw269 hw) (oSelf.inst (tw231 hw)) (tw271 hw) (tw270 hw) (tw232 hw) (tw272 hw) (by decide) pdo_28 d20_239 (argsL := [_, _, _, _]) (rest := _) rfl rfl rfl rfl (fun x q r => r.elim (fun z => z ▸ Gx.1) (fun z => C.new x (Nat.le_trans q z))) (by decide) (Nat.le_of_ble_eq_true rfl) (by decide) (by decide) ?_
      rintro _ h7 ⟨rfl, Gx7⟩ hK7
      have S : oStep Z lo _ h7 (Bc + 400) ((Bc + 400) + 400) := oStep.ni (tw369 hw) Gx.2.1 (tw231 hw) hK7 (fun _ => Gx7) (by omega)
      have F7 := F.ni (tw231 hw) Gx.2.1 hK7 S
      clear F
      have F := F7
      clear F7
      replace LA := S.L _ _ _ _ LA
      replace LB := S.L _ _ _ _ LB
      replace RT := S.D _ _ RT
      replace GU := S.D _ _ GU
      replace SS := SS.trans S
      clear S
      dsimp only [Option.toList, List.cons_append, List.nil_append]
      exact J242 _ vs6 _ b1 b2 z9 (by omega) F LA LB RT GU SS
  have J117 : ∀ (h : Heap) (vs : List Value) (b1 b2 : Addr) (z9 : Int32), oNT Z h lo t ma vs B f l_ → oLD Z h a1 y1 m1 d1 → oLD Z h a2 y2 m2 d2 → oBD Z h ra xr_ → oBD Z h ga xg_ → oStep Z lo h0 h B B →  oMN Z h lo b1 B (own_ml y1 m1) → oMN Z h lo b2 B (own_ml y2 m2) → oWP false p l e ({ frames := 9, cells := 35, slots := 238, locals := 260 } : Room) s m #[.ref t, .ref a1, .ref a2, .ref ra, .ref ga] below meth c (fun x => lo ≤ x) (fun v h _ => ((fun v h => ∃ vs' B', v = none ∧ B' ≤ B + 1600 ∧ oNT Z h lo t ma vs' B' (if own_key y1 m1 d1 < own_key y2 m2 d2 then own_mn f (own_ix y1 m1) else f) (if own_key y1 m1 d1 < own_key y2 m2 d2 then own_max l_ (own_lm y2 m2 d2) else l_) ∧ oStep Z lo h0 h B B')) v h) oT h 10 92 (oF m 117 [.val (.ref t), .val (.ref a1), .val (.ref a2), .val (.ref ra), .val (.ref ga), .val (.int (own_ix y1 m1)), .val (.int (own_ix y2 m2)), .val (.ref b1), .val (.ref b2), .val (.int z9)] []) := by
    intro h vs b1 b2 z9 F LA LB RT GU SS G1 G2
    refine K_iload C (pc := 117) d20_117 rfl ?_
    refine K_iload C (pc := 119) d20_119 rfl ?_
    refine K_icmp C (pc := 121) 150 d20_121 (by decide) (by decide) (fun hc121 => ?_) (fun hc121 => ?_)
    · simp only [oC, Classical.not_not] at hc121
      refine K_aload C (pc := 150) d20_150 rfl (by first | rfl | assumption) ?_
      obtain ⟨XG, ⟨nx, FG, Gx⟩, -, la, FO, -, ls, AL, hlK⟩ := G1
      refine K_getFR C (pc := 152) (tw268 hw) FG d20_152 ?_
      refine K_aload C (pc := 155) d20_155 rfl (by first | rfl | assumption) ?_
      refine K_getFR C (pc := 157) (tw250 hw) FO d20_157 ?_
      refine K_alen2 C (pc := 160) AL d20_160 ?_
      rw [List.length_map]
      refine K_aloadN C (pc := 161) d20_161 rfl (by first | rfl | assumption) ?_
      refine K_virtual C (pc := 162) (mLD l Z a0 hw a1 y1 m1 d1 _ LA) (LA.1) (tw251 hw) (tw252 hw) (oNF (tw254 hw)) (tw254 hw) (tw253 hw) (tw22 hw) (tw255 hw) (by decide) pdo_15 d20_162 (argsL := []) (rest := _) rfl rfl rfl rfl (fun a q r => C.new a (Nat.le_trans q r)) (by decide) (Nat.le_of_ble_eq_true rfl) (by decide) (by decide) ?_
      rintro _ h8 ⟨rfl, hh⟩ -
      replace hh := hh.symm
      subst hh
      dsimp only [Option.toList, List.cons_append, List.nil_append]
      refine K_isub C (pc := 165) d20_165 ?_
      refine K_iconst C (pc := 166) 1 d20_166 (by decide) ?_
      refine K_iadd C (pc := 167) d20_167 ?_
      refine K_i2l C (pc := 168) d20_168 ?_
      refine K_iload C (pc := 169) d20_169 rfl ?_
      refine K_aloadN C (pc := 171) d20_171 rfl (by first | rfl | assumption) ?_
      refine K_aload C (pc := 172) d20_172 rfl (by first | rfl | assumption) ?_
      have hnx : Z.heap.size ≤ nx := Nat.le_trans hlo Gx.1
      refine K_privateR C (pc := 174) (mNAD l Z a0 hw W nx ra ga lo B (Int32.ofNat ls.length - d1 + 1).toInt64 xr_ xg_ z9 _ hnx (by omega) (own_s31 (own_len hD1 (by have := own_mlb y1 m1; omega) (by have := own_mlb y1 m1; omega))) hrt hgu RT GU Gx) (Gx.2.1) (tw269 hw) (oSelf.inst (tw231 hw)) (tw271 hw) (tw270 hw) (tw232 hw) (tw272 hw) (by decide) pdo_28 d20_174 (argsL := [_, _, _, _]) (rest := _) rfl rfl rfl rfl (fun x q r => r.elim (fun z => z ▸ Gx.1) (fun z => C.new x (Nat.le_trans q z))) (by decide) (Nat.le_of_ble_eq_true rfl) (by decide) (by decide) ?_
      rintro _ h7 ⟨rfl, Gx7⟩ hK7
      have S : oStep Z lo _ h7 B (B + 400) := oStep.ni (tw369 hw) Gx.2.1 (tw231 hw) hK7 (fun _ => Gx7) (by omega)
      have F7 := F.ni (tw231 hw) Gx.2.1 hK7 S
      clear F
      have F := F7
      clear F7
      replace LA := S.L _ _ _ _ LA
      replace LB := S.L _ _ _ _ LB
      replace RT := S.D _ _ RT
      replace GU := S.D _ _ GU
      replace SS := SS.trans S
      replace G2 := S.mn G2
      clear S Gx XG FG
      dsimp only [Option.toList, List.cons_append, List.nil_append]
      refine K_aload C (pc := 177) d20_177 rfl (by first | rfl | assumption) ?_
      have G2c := G2
      obtain ⟨XG, ⟨nx, FG, Gx⟩, -⟩ := G2
      refine K_getFR C (pc := 179) (tw268 hw) FG d20_179 ?_
      refine K_aloadN C (pc := 182) d20_182 rfl (by first | rfl | assumption) ?_
      refine K_virtual C (pc := 183) (mLD l Z a0 hw a2 y2 m2 d2 _ LB) (LB.1) (tw251 hw) (tw252 hw) (oNF (tw254 hw)) (tw254 hw) (tw253 hw) (tw22 hw) (tw255 hw) (by decide) pdo_15 d20_183 (argsL := []) (rest := _) rfl rfl rfl rfl (fun a q r => C.new a (Nat.le_trans q r)) (by decide) (Nat.le_of_ble_eq_true rfl) (by decide) (by decide) ?_
      rintro _ h8 ⟨rfl, hh⟩ -
      replace hh := hh.symm
      subst hh
      dsimp only [Option.toList, List.cons_append, List.nil_append]
      refine K_iconst C (pc := 186) 1 d20_186 (by decide) ?_
      refine K_isub C (pc := 187) d20_187 ?_
      refine K_i2l C (pc := 188) d20_188 ?_
      refine K_iload C (pc := 189) d20_189 rfl ?_
      refine K_aloadN C (pc := 191) d20_191 rfl (by first | rfl | assumption) ?_
      refine K_aload C (pc := 192) d20_192 rfl (by first | rfl | assumption) ?_
      have hnx : Z.heap.size ≤ nx := Nat.le_trans hlo Gx.1
      refine K_privateR C (pc := 194) (mNAD l Z a0 hw W nx ra ga lo (B + 400) (d2 - 1).toInt64 xr_ xg_ z9 _ hnx (by omega) (own_s31 (by obtain ⟨u1, u2, u3⟩ := hD1; obtain ⟨w1, w2, w3⟩ := hD2; rw [own_subI (by omega) (by decide), show (1 : Int32).toInt = 1 from rfl]; omega)) hrt hgu RT GU Gx) (Gx.2.1) (tw269 hw) (oSelf.inst (tw231 hw)) (tw271 hw) (tw270 hw) (tw232 hw) (tw272 hw) (by decide) pdo_28 d20_194 (argsL := [_, _, _, _]) (rest := _) rfl rfl rfl rfl (fun x q r => r.elim (fun z => z ▸ Gx.1) (fun z => C.new x (Nat.le_trans q z))) (by decide) (Nat.le_of_ble_eq_true rfl) (by decide) (by decide) ?_
      rintro _ h7 ⟨rfl, Gx7⟩ hK7
      have S : oStep Z lo _ h7 (B + 400) ((B + 400) + 400) := oStep.ni (tw369 hw) Gx.2.1 (tw231 hw) hK7 (fun _ => Gx7) (by omega)
      have F7 := F.ni (tw231 hw) Gx.2.1 hK7 S
      clear F
      have F := F7
      clear F7
      replace LA := S.L _ _ _ _ LA
      replace LB := S.L _ _ _ _ LB
      replace RT := S.D _ _ RT
      replace GU := S.D _ _ GU
      replace SS := SS.trans S
      have G2' := S.mn (show oMN Z _ lo b2 (B + 400) _ from G2c)
      clear S
      dsimp only [Option.toList, List.cons_append, List.nil_append]
      exact J197 _ vs _ b1 b2 z9 (by omega) F LA LB RT GU SS G2'
    · simp only [oC, Classical.not_not] at hc121
      refine K_aload C (pc := 124) d20_124 rfl (by first | rfl | assumption) ?_
      obtain ⟨XG, ⟨nx, FG, Gx⟩, -⟩ := G1
      refine K_getFR C (pc := 126) (tw268 hw) FG d20_126 ?_
      refine K_aloadN C (pc := 129) d20_129 rfl (by first | rfl | assumption) ?_
      refine K_virtual C (pc := 130) (mLD l Z a0 hw a2 y2 m2 d2 _ LB) (LB.1) (tw251 hw) (tw252 hw) (oNF (tw254 hw)) (tw254 hw) (tw253 hw) (tw22 hw) (tw255 hw) (by decide) pdo_15 d20_130 (argsL := []) (rest := _) rfl rfl rfl rfl (fun a q r => C.new a (Nat.le_trans q r)) (by decide) (Nat.le_of_ble_eq_true rfl) (by decide) (by decide) ?_
      rintro _ h8 ⟨rfl, hh⟩ -
      replace hh := hh.symm
      subst hh
      dsimp only [Option.toList, List.cons_append, List.nil_append]
      refine K_aloadN C (pc := 133) d20_133 rfl (by first | rfl | assumption) ?_
      refine K_virtual C (pc := 134) (mLD l Z a0 hw a1 y1 m1 d1 _ LA) (LA.1) (tw251 hw) (tw252 hw) (oNF (tw254 hw)) (tw254 hw) (tw253 hw) (tw22 hw) (tw255 hw) (by decide) pdo_15 d20_134 (argsL := []) (rest := _) rfl rfl rfl rfl (fun a q r => C.new a (Nat.le_trans q r)) (by decide) (Nat.le_of_ble_eq_true rfl) (by decide) (by decide) ?_
      rintro _ h8 ⟨rfl, hh⟩ -
      replace hh := hh.symm
      subst hh
      dsimp only [Option.toList, List.cons_append, List.nil_append]
      refine K_isub C (pc := 137) d20_137 ?_
      refine K_i2l C (pc := 138) d20_138 ?_
      refine K_iload C (pc := 139) d20_139 rfl ?_
      refine K_aloadN C (pc := 141) d20_141 rfl (by first | rfl | assumption) ?_
      refine K_aload C (pc := 142) d20_142 rfl (by first | rfl | assumption) ?_
      have hnx : Z.heap.size ≤ nx := Nat.le_trans hlo Gx.1
      refine K_privateR C (pc := 144) (mNAD l Z a0 hw W nx ra ga lo B (d2 - d1).toInt64 xr_ xg_ z9 _ hnx (by omega) (own_s31 (by obtain ⟨u1, u2, u3⟩ := hD1; obtain ⟨w1, w2, w3⟩ := hD2; rw [own_subI (by omega) (by omega)]; omega)) hrt hgu RT GU Gx) (Gx.2.1) (tw269 hw) (oSelf.inst (tw231 hw)) (tw271 hw) (tw270 hw) (tw232 hw) (tw272 hw) (by decide) pdo_28 d20_144 (argsL := [_, _, _, _]) (rest := _) rfl rfl rfl rfl (fun x q r => r.elim (fun z => z ▸ Gx.1) (fun z => C.new x (Nat.le_trans q z))) (by decide) (Nat.le_of_ble_eq_true rfl) (by decide) (by decide) ?_
      rintro _ h7 ⟨rfl, Gx7⟩ hK7
      have S : oStep Z lo _ h7 B (B + 400) := oStep.ni (tw369 hw) Gx.2.1 (tw231 hw) hK7 (fun _ => Gx7) (by omega)
      have F7 := F.ni (tw231 hw) Gx.2.1 hK7 S
      clear F
      have F := F7
      clear F7
      replace LA := S.L _ _ _ _ LA
      replace LB := S.L _ _ _ _ LB
      replace RT := S.D _ _ RT
      replace GU := S.D _ _ GU
      replace SS := SS.trans S
      replace G2 := S.mn G2
      clear S
      dsimp only [Option.toList, List.cons_append, List.nil_append]
      refine K_goto C (pc := 147) 197 d20_147 (by decide) (by decide) ?_
      exact oWP.more (k' := 20) (n' := 142) (J197 _ vs _ b1 b2 z9 (by omega) F LA LB RT GU SS G2) (by decide) (by decide)
  have SS : oStep Z lo h0 h0 B B := oStep.mono (Nat.le_refl _)
  refine K_aloadN C (pc := 0) d20_0 rfl (by first | rfl | assumption) ?_
  refine K_aloadN C (pc := 1) d20_1 rfl (by first | rfl | assumption) ?_
  refine K_virtual C (pc := 2) (mBEF l Z a0 hw a2 a1 y2 m2 d2 y1 m1 d1 _ LB LA hD2 hD1) (LB.1) (tw132 hw) (tw133 hw) (oNF (tw135 hw)) (tw135 hw) (tw134 hw) (tw22 hw) (tw136 hw) (by decide) pdo_25 d20_2 (argsL := [_]) (rest := _) rfl rfl rfl rfl (fun a q r => C.new a (Nat.le_trans q r)) (by decide) (Nat.le_of_ble_eq_true rfl) (by decide) (by decide) ?_
  rintro _ h8 ⟨r, rfl, hh, hr⟩ -
  replace hh := hh.symm
  subst hh
  dsimp only [Option.toList, List.cons_append, List.nil_append]
  obtain ⟨rfl, -⟩ := hr.resolve_left (fun z => absurd z.2 (by omega))
  refine K_if C (pc := 5) 29 d20_5 (by decide) (by decide) (fun hc5 => ?_) (fun hc5 => ?_)
  · simp only [oC, Classical.not_not] at hc5
    refine K_aloadN C (pc := 29) d20_29 rfl (by first | rfl | assumption) ?_
    refine K_virtual C (pc := 30) (mLY l Z a0 hw a1 y1 m1 d1 _ LA) (LA.1) (tw142 hw) (tw143 hw) (oNF (tw145 hw)) (tw145 hw) (tw144 hw) (tw22 hw) (tw146 hw) (by decide) pdo_15 d20_30 (argsL := []) (rest := _) rfl rfl rfl rfl (fun a q r => C.new a (Nat.le_trans q r)) (by decide) (Nat.le_of_ble_eq_true rfl) (by decide) (by decide) ?_
    rintro _ h8 ⟨rfl, hh⟩ -
    replace hh := hh.symm
    subst hh
    dsimp only [Option.toList, List.cons_append, List.nil_append]
    refine K_aloadN C (pc := 33) d20_33 rfl (by first | rfl | assumption) ?_
    refine K_virtual C (pc := 34) (mLM l Z a0 hw a1 y1 m1 d1 _ LA) (LA.1) (tw147 hw) (tw148 hw) (oNF (tw150 hw)) (tw150 hw) (tw149 hw) (tw22 hw) (tw151 hw) (by decide) pdo_15 d20_34 (argsL := []) (rest := _) rfl rfl rfl rfl (fun a q r => C.new a (Nat.le_trans q r)) (by decide) (Nat.le_of_ble_eq_true rfl) (by decide) (by decide) ?_
    rintro _ h8 ⟨rfl, hh⟩ -
    replace hh := hh.symm
    subst hh
    dsimp only [Option.toList, List.cons_append, List.nil_append]
    refine K_static C (pc := 37) (mIDX l Z a0 hw y1 m1 d1 _ hD1) (tw152 hw) (tw153 hw) (tw88 hw) (tw154 hw) (by decide) pdo_26 d20_37 (argsL := [_, _]) (rest := _) rfl rfl rfl rfl (fun a q r => C.new a (Nat.le_trans q r)) (by decide) (Nat.le_of_ble_eq_true rfl) (by decide) (by decide) ?_
    rintro _ h8 ⟨rfl, hh⟩ -
    replace hh := hh.symm
    subst hh
    dsimp only [Option.toList, List.cons_append, List.nil_append]
    refine K_istore C (pc := 40) (Ls' := [_, _, _, _, _, _, _, _, _, _]) d20_40 rfl ?_
    refine K_aloadN C (pc := 42) d20_42 rfl (by first | rfl | assumption) ?_
    refine K_virtual C (pc := 43) (mLY l Z a0 hw a2 y2 m2 d2 _ LB) (LB.1) (tw142 hw) (tw143 hw) (oNF (tw145 hw)) (tw145 hw) (tw144 hw) (tw22 hw) (tw146 hw) (by decide) pdo_15 d20_43 (argsL := []) (rest := _) rfl rfl rfl rfl (fun a q r => C.new a (Nat.le_trans q r)) (by decide) (Nat.le_of_ble_eq_true rfl) (by decide) (by decide) ?_
    rintro _ h8 ⟨rfl, hh⟩ -
    replace hh := hh.symm
    subst hh
    dsimp only [Option.toList, List.cons_append, List.nil_append]
    refine K_aloadN C (pc := 46) d20_46 rfl (by first | rfl | assumption) ?_
    refine K_virtual C (pc := 47) (mLM l Z a0 hw a2 y2 m2 d2 _ LB) (LB.1) (tw147 hw) (tw148 hw) (oNF (tw150 hw)) (tw150 hw) (tw149 hw) (tw22 hw) (tw151 hw) (by decide) pdo_15 d20_47 (argsL := []) (rest := _) rfl rfl rfl rfl (fun a q r => C.new a (Nat.le_trans q r)) (by decide) (Nat.le_of_ble_eq_true rfl) (by decide) (by decide) ?_
    rintro _ h8 ⟨rfl, hh⟩ -
    replace hh := hh.symm
    subst hh
    dsimp only [Option.toList, List.cons_append, List.nil_append]
    refine K_static C (pc := 50) (mIDX l Z a0 hw y2 m2 d2 _ hD2) (tw152 hw) (tw153 hw) (tw88 hw) (tw154 hw) (by decide) pdo_26 d20_50 (argsL := [_, _]) (rest := _) rfl rfl rfl rfl (fun a q r => C.new a (Nat.le_trans q r)) (by decide) (Nat.le_of_ble_eq_true rfl) (by decide) (by decide) ?_
    rintro _ h8 ⟨rfl, hh⟩ -
    replace hh := hh.symm
    subst hh
    dsimp only [Option.toList, List.cons_append, List.nil_append]
    refine K_istore C (pc := 53) (Ls' := [_, _, _, _, _, _, _, _, _, _]) d20_53 rfl ?_
    refine K_aloadN C (pc := 55) d20_55 rfl (by first | rfl | assumption) ?_
    refine K_iload C (pc := 56) d20_56 rfl ?_
    refine K_private C (pc := 58) (mTAL l Z a0 hw W t ma vs lo B f l_ _ hlo F.le F (own_ix y1 m1) (by have e := own_ixI hD1; obtain ⟨q1, q2, q3⟩ := hD1; omega)) (F.X) (tw155 hw) (oSelf.of (tw106 hw) rfl) (tw157 hw) (tw156 hw) (tw88 hw) (tw158 hw) (by decide) pdo_27 d20_58 (argsL := [_]) (rest := _) rfl rfl rfl rfl (fun _ _ r => r) (by decide) (Nat.le_of_ble_eq_true rfl) (by decide) (by decide) ?_
    rintro _ h6 ⟨b1, vs1, rfl, G1, F_, S⟩ -
    clear F
    have F := F_
    clear F_
    replace LA := S.L _ _ _ _ LA
    replace LB := S.L _ _ _ _ LB
    replace RT := S.D _ _ RT
    replace GU := S.D _ _ GU
    replace SS := SS.trans S
    rw [(own_ixd hD1).1, (own_ixd hD1).2] at G1
    clear S
    dsimp only [Option.toList, List.cons_append, List.nil_append]
    refine K_astore C (pc := 61) (Ls' := [_, _, _, _, _, _, _, _, _, _]) d20_61 rfl rfl ?_
    refine K_aloadN C (pc := 63) d20_63 rfl (by first | rfl | assumption) ?_
    refine K_iload C (pc := 64) d20_64 rfl ?_
    refine K_private C (pc := 66) (mTAL l Z a0 hw W t ma vs1 lo B f l_ _ hlo F.le F (own_ix y2 m2) (by have e := own_ixI hD2; obtain ⟨q1, q2, q3⟩ := hD2; omega)) (F.X) (tw155 hw) (oSelf.of (tw106 hw) rfl) (tw157 hw) (tw156 hw) (tw88 hw) (tw158 hw) (by decide) pdo_27 d20_66 (argsL := [_]) (rest := _) rfl rfl rfl rfl (fun _ _ r => r) (by decide) (Nat.le_of_ble_eq_true rfl) (by decide) (by decide) ?_
    rintro _ h6 ⟨b2, vs2, rfl, G2, F_, S⟩ -
    clear F
    have F := F_
    clear F_
    replace LA := S.L _ _ _ _ LA
    replace LB := S.L _ _ _ _ LB
    replace RT := S.D _ _ RT
    replace GU := S.D _ _ GU
    replace SS := SS.trans S
    rw [(own_ixd hD2).1, (own_ixd hD2).2] at G2
    replace G1 := S.mn G1
    clear S
    dsimp only [Option.toList, List.cons_append, List.nil_append]
    refine K_astore C (pc := 69) (Ls' := [_, _, _, _, _, _, _, _, _, _]) d20_69 rfl rfl ?_
    refine K_aload C (pc := 71) d20_71 rfl (by first | rfl | assumption) ?_
    have Gc := G1
    obtain ⟨XG, -, -, la, FO, hla, ls, AL, hlK⟩ := Gc
    refine K_getFR C (pc := 73) (tw250 hw) FO d20_73 ?_
    refine K_aloadN C (pc := 76) d20_76 rfl (by first | rfl | assumption) ?_
    refine K_virtual C (pc := 77) (mLD l Z a0 hw a1 y1 m1 d1 _ LA) (LA.1) (tw251 hw) (tw252 hw) (oNF (tw254 hw)) (tw254 hw) (tw253 hw) (tw22 hw) (tw255 hw) (by decide) pdo_15 d20_77 (argsL := []) (rest := _) rfl rfl rfl rfl (fun a q r => C.new a (Nat.le_trans q r)) (by decide) (Nat.le_of_ble_eq_true rfl) (by decide) (by decide) ?_
    rintro _ h8 ⟨rfl, hh⟩ -
    replace hh := hh.symm
    subst hh
    dsimp only [Option.toList, List.cons_append, List.nil_append]
    refine K_iconst C (pc := 80) 1 d20_80 (by decide) ?_
    refine K_isub C (pc := 81) d20_81 ?_
    refine K_dup2 C (pc := 82) d20_82 rfl rfl ?_
    have hdi : (d1 - 1).toInt = ((d1.toInt.toNat - 1 : Nat) : Int) := by obtain ⟨u1, u2, u3⟩ := hD1; rw [own_subI (by omega) (by decide), show (1 : Int32).toInt = 1 from rfl]; omega
    have hdl : d1.toInt.toNat - 1 < ls.length := by obtain ⟨u1, u2, u3⟩ := hD1; omega
    obtain ⟨lv, hlv⟩ : ∃ lv, ls[d1.toInt.toNat - 1]? = some lv := ⟨ls[d1.toInt.toNat - 1], List.getElem?_eq_getElem _⟩
    refine K_laload2 C (pc := 83) (v := .long lv) (d1.toInt.toNat - 1) AL hdi (by rw [List.getElem?_map, hlv]; rfl) d20_83 ?_
    refine K_lconst C (pc := 84) 1 d20_84 (by decide) ?_
    refine K_ladd C (pc := 85) d20_85 ?_
    refine K_lastore2 C (pc := 86) (d1.toInt.toNat - 1) AL hdi (by rw [List.length_map]; exact hdl) hla d20_86 ?_
    intro h9 W9 _
    have S : oStep Z lo _ h9 B B := oStep.lst (tw369 hw) (tw72 hw) (tw159 hw) (tw231 hw) AL W9
    have F_ := F.lst (tw87 hw) AL W9 S
    clear F
    have F := F_
    clear F_
    replace G1 := S.mn G1
    replace G2 := S.mn G2
    replace LA := S.L _ _ _ _ LA
    replace LB := S.L _ _ _ _ LB
    replace RT := S.D _ _ RT
    replace GU := S.D _ _ GU
    replace SS := SS.trans S
    clear S XG FO AL hla hlK hdi hdl hlv
    refine K_aload C (pc := 87) d20_87 rfl (by first | rfl | assumption) ?_
    have Gc := G2
    obtain ⟨XG, -, -, la, FO, hla, ls, AL, hlK⟩ := Gc
    refine K_getFR C (pc := 89) (tw250 hw) FO d20_89 ?_
    refine K_aloadN C (pc := 92) d20_92 rfl (by first | rfl | assumption) ?_
    refine K_virtual C (pc := 93) (mLD l Z a0 hw a2 y2 m2 d2 _ LB) (LB.1) (tw251 hw) (tw252 hw) (oNF (tw254 hw)) (tw254 hw) (tw253 hw) (tw22 hw) (tw255 hw) (by decide) pdo_15 d20_93 (argsL := []) (rest := _) rfl rfl rfl rfl (fun a q r => C.new a (Nat.le_trans q r)) (by decide) (Nat.le_of_ble_eq_true rfl) (by decide) (by decide) ?_
    rintro _ h8 ⟨rfl, hh⟩ -
    replace hh := hh.symm
    subst hh
    dsimp only [Option.toList, List.cons_append, List.nil_append]
    refine K_iconst C (pc := 96) 1 d20_96 (by decide) ?_
    refine K_isub C (pc := 97) d20_97 ?_
    refine K_dup2 C (pc := 98) d20_98 rfl rfl ?_
    have hdi : (d2 - 1).toInt = ((d2.toInt.toNat - 1 : Nat) : Int) := by obtain ⟨u1, u2, u3⟩ := hD2; rw [own_subI (by omega) (by decide), show (1 : Int32).toInt = 1 from rfl]; omega
    have hdl : d2.toInt.toNat - 1 < ls.length := by obtain ⟨u1, u2, u3⟩ := hD2; omega
    obtain ⟨lv, hlv⟩ : ∃ lv, ls[d2.toInt.toNat - 1]? = some lv := ⟨ls[d2.toInt.toNat - 1], List.getElem?_eq_getElem _⟩
    refine K_laload2 C (pc := 99) (v := .long lv) (d2.toInt.toNat - 1) AL hdi (by rw [List.getElem?_map, hlv]; rfl) d20_99 ?_
    refine K_lconst C (pc := 100) 1 d20_100 (by decide) ?_
    refine K_lsub C (pc := 101) d20_101 ?_
    refine K_lastore2 C (pc := 102) (d2.toInt.toNat - 1) AL hdi (by rw [List.length_map]; exact hdl) hla d20_102 ?_
    intro h9 W9 _
    have S : oStep Z lo _ h9 B B := oStep.lst (tw369 hw) (tw72 hw) (tw159 hw) (tw231 hw) AL W9
    have F_ := F.lst (tw87 hw) AL W9 S
    clear F
    have F := F_
    clear F_
    replace G1 := S.mn G1
    replace G2 := S.mn G2
    replace LA := S.L _ _ _ _ LA
    replace LB := S.L _ _ _ _ LB
    replace RT := S.D _ _ RT
    replace GU := S.D _ _ GU
    replace SS := SS.trans S
    clear S XG FO AL hla hlK hdi hdl hlv
    refine K_aloadN C (pc := 103) d20_103 rfl (by first | rfl | assumption) ?_
    refine K_virtual C (pc := 104) (mSIG l Z a0 hw ra xr_ _ (hrt.mono (by decide)) RT) (RT.1) (tw256 hw) (tw257 hw) (oNF (tw259 hw)) (tw259 hw) (tw258 hw) (tw125 hw) (tw260 hw) (by decide) pdo_15 d20_104 (argsL := []) (rest := _) rfl rfl rfl rfl (fun a q r => C.new a (Nat.le_trans q r)) (by decide) (Nat.le_of_ble_eq_true rfl) (by decide) (by decide) ?_
    rintro _ h8 ⟨sg, rfl, hh⟩ -
    replace hh := hh.symm
    subst hh
    dsimp only [Option.toList, List.cons_append, List.nil_append]
    refine K_if C (pc := 107) 114 d20_107 (by decide) (by decide) (fun hc107 => ?_) (fun hc107 => ?_)
    · simp only [oC, Classical.not_not] at hc107
      refine K_iconst C (pc := 114) 0 d20_114 (by decide) ?_
      refine K_istore C (pc := 115) (Ls' := [_, _, _, _, _, _, _, _, _, _]) d20_115 rfl ?_
      exact J117 _ vs2 b1 b2 _ F LA LB RT GU SS G1 G2
    · simp only [oC, Classical.not_not] at hc107
      refine K_iconst C (pc := 110) 1 d20_110 (by decide) ?_
      refine K_goto C (pc := 111) 115 d20_111 (by decide) (by decide) ?_
      refine K_istore C (pc := 115) (Ls' := [_, _, _, _, _, _, _, _, _, _]) d20_115 rfl ?_
      exact J117 _ vs2 b1 b2 _ F LA LB RT GU SS G1 G2
  · simp only [oC, Classical.not_not] at hc5
    exact False.elim (hc5 (by simp))
theorem pno_59 : plainFor (⟨"java/util/Objects", "requireNonNull", "(Ljava/lang/Object;)Ljava/lang/Object;"⟩ : MethodName) = true := by first | exact plainFor_of_name (by first | (simp [plainName, overriddenIn]; done) | decide +kernel) | decide +kernel
theorem efo_59 (m : MethodId) (x0 : Addr) : entryFrame m #[.ref x0] 1 = oF m 0 [.val (.ref x0)] [] := by (first | (simp [entryFrame, oF, mkF, argsToLocals, Value.category]; done) | rfl)
set_option maxRecDepth 65536 in
set_option maxHeartbeats 40000000 in
theorem mRNN (l : Launch) (Z : State) (a0 : Array Value) (hw : ∀ d ∈ tables_1, d.before a0 Z = true) (a : Addr) (h0 : Heap) :
    oMeets l Z (⟨"java/util/Objects", "requireNonNull", "(Ljava/lang/Object;)Ljava/lang/Object;"⟩ : MethodName) jdk_31_method_10_code 1 (some (.object "java/lang/Object")) ({ frames := 0, cells := 0, slots := 0, locals := 0 } : Room) #[.ref a] h0 (fun a => h0.size ≤ a) (fun v h => v = some (.ref a) ∧ h = h0) := by
  refine oMeets.of pno_59 (fun _ q => q) (fun E _ q => Nat.le_trans E.1 q) (Ls := [.val (.ref a)]) (fun m => efo_59 m a) ?_
  intro p e s m below meth c C hs
  refine K_aloadN C (pc := 0) d59_0 rfl (by first | rfl | assumption) ?_
  refine K_ifnonnull_ref C (pc := 1) 12 d59_1 (by decide) (by decide) ?_
  refine K_aloadN C (pc := 12) d59_12 rfl (by first | rfl | assumption) ?_
  refine K_areturn C (pc := 13) d59_13 rfl rfl rfl (by decide) (by decide) (fun _ _ => ⟨rfl, rfl⟩)
theorem pno_60 : plainFor (⟨"java/util/Optional", "<init>", "(Ljava/lang/Object;)V"⟩ : MethodName) = true := by first | exact plainFor_of_name (by first | (simp [plainName, overriddenIn]; done) | decide +kernel) | decide +kernel
theorem efo_60 (m : MethodId) (x0 : Addr) (x1 : Addr) : entryFrame m #[.ref x0, .ref x1] 2 = oF m 0 [.val (.ref x0), .val (.ref x1)] [] := by (first | (simp [entryFrame, oF, mkF, argsToLocals, Value.category]; done) | rfl)
set_option maxRecDepth 65536 in
set_option maxHeartbeats 40000000 in
theorem mOPI (l : Launch) (Z : State) (a0 : Array Value) (hw : ∀ d ∈ tables_1, d.before a0 Z = true) (a b : Addr) (h0 : Heap) (hya : Z.heap.size ≤ a) (X : Exa Z h0 a "java/util/Optional") (FV : Fld Z h0 a "java/util/Optional" "value" "Ljava/lang/Object;" .null) :
    oMeets l Z (⟨"java/util/Optional", "<init>", "(Ljava/lang/Object;)V"⟩ : MethodName) jdk_32_method_2_code 2 none ({ frames := 1, cells := 0, slots := 0, locals := 20 } : Room) #[.ref a, .ref b] h0 (fun x => x = a ∨ h0.size ≤ x) (fun v h => v = none ∧ Exa Z h a "java/util/Optional" ∧ Fld Z h a "java/util/Optional" "value" "Ljava/lang/Object;" (.ref b)) := by
  refine oMeets.of pno_60 (fun _ q => Or.inr q) (fun E x q => q.elim (fun r => r ▸ hya) (fun r => Nat.le_trans E.1 r)) (Ls := [.val (.ref a), .val (.ref b)]) (fun m => efo_60 m a b) ?_
  intro p e s m below meth c C hs
  refine K_aloadN C (pc := 0) d60_0 rfl (by first | rfl | assumption) ?_
  refine K_initO C (pc := 1) (tw348 hw) (tw78 hw) (tw79 hw) d60_1 rfl (by decide) (Nat.le_of_ble_eq_true rfl) ?_
  refine K_aloadN C (pc := 4) d60_4 rfl (by first | rfl | assumption) ?_
  refine K_aloadN C (pc := 5) d60_5 rfl (by first | rfl | assumption) ?_
  refine K_putF C (pc := 6) (tw118 hw) Via.refl FV X (Or.inr ⟨(tw119 hw), rfl, rfl⟩) (tw339 hw) (ty := (.object "java/lang/Object")) (by decide) rfl rfl (Or.inl rfl) d60_6 ?_
  intro h1 W1
  replace FV := Fld.same W1 FV
  replace X := X.wr W1
  refine K_return C (pc := 9) d60_9 (by decide) (by decide) (fun _ _ => ⟨rfl, X, FV⟩)
theorem pno_58 : plainFor (⟨"java/util/Optional", "of", "(Ljava/lang/Object;)Ljava/util/Optional;"⟩ : MethodName) = true := by first | exact plainFor_of_name (by first | (simp [plainName, overriddenIn]; done) | decide +kernel) | decide +kernel
theorem efo_58 (m : MethodId) (x0 : Addr) : entryFrame m #[.ref x0] 1 = oF m 0 [.val (.ref x0)] [] := by (first | (simp [entryFrame, oF, mkF, argsToLocals, Value.category]; done) | rfl)
set_option maxRecDepth 65536 in
set_option maxHeartbeats 40000000 in
theorem mOPO (l : Launch) (Z : State) (a0 : Array Value) (hw : ∀ d ∈ tables_1, d.before a0 Z = true) (b : Addr) (h0 : Heap) :
    oMeets l Z (⟨"java/util/Optional", "of", "(Ljava/lang/Object;)Ljava/util/Optional;"⟩ : MethodName) jdk_32_method_3_code 1 (some (.object "java/util/Optional")) ({ frames := 2, cells := 1, slots := 1, locals := 50 } : Room) #[.ref b] h0 (fun a => h0.size ≤ a) (fun v h => ∃ a, v = some (.ref a) ∧ Exa Z h a "java/util/Optional" ∧ Fld Z h a "java/util/Optional" "value" "Ljava/lang/Object;" (.ref b)) := by
  refine oMeets.of pno_58 (fun _ q => q) (fun E _ q => Nat.le_trans E.1 q) (Ls := [.val (.ref b)]) (fun m => efo_58 m b) ?_
  intro p e s m below meth c C hs
  refine K_new C (pc := 0) (tw338 hw) (tw339 hw) (tw110 hw) d58_0 (by decide) (by decide) ?_
  intro h1 a ha hPa E1 X D1
  have FV := D1 (Or.inr (tw119 hw)) (ty := (.object "java/lang/Object")) (by decide)
  refine K_dup C (pc := 3) d58_3 rfl ?_
  refine K_aloadN C (pc := 4) d58_4 rfl (by first | rfl | assumption) ?_
  refine K_static C (pc := 5) (mRNN l Z a0 hw b _) (tw340 hw) (tw341 hw) (tw342 hw) (tw343 hw) (by decide) pdo_29 d58_5 (argsL := [_]) (rest := _) rfl rfl rfl rfl (fun a q r => C.new a (Nat.le_trans q r)) (by decide) (Nat.le_of_ble_eq_true rfl) (by decide) (by decide) ?_
  rintro _ h8 ⟨rfl, hh⟩ -
  replace hh := hh.symm
  subst hh
  dsimp only [Option.toList, List.cons_append, List.nil_append]
  refine K_special C (pc := 8) (mOPI l Z a0 hw a b _ (C.young a hPa) X FV) (tw344 hw) (tw345 hw) (tw110 hw) (tw347 hw) rfl (by decide) pdo_30 d58_8 (argsL := [_]) (rest := _) rfl rfl rfl rfl (fun x q r => r.elim (fun z => z ▸ hPa) (fun z => C.new x (Nat.le_trans q z))) (by decide) (Nat.le_of_ble_eq_true rfl) (by decide) (by decide) ?_
  rintro _ h2 ⟨rfl, X2, F2⟩ -
  dsimp only [Option.toList, List.cons_append, List.nil_append]
  refine K_areturn C (pc := 11) d58_11 rfl rfl rfl (by decide) (by decide) (fun _ _ => ⟨a, rfl, X2, F2⟩)
theorem pno_17 : plainFor (⟨"java/util/Optional", "empty", "()Ljava/util/Optional;"⟩ : MethodName) = true := by first | exact plainFor_of_name (by first | (simp [plainName, overriddenIn]; done) | decide +kernel) | decide +kernel
theorem efo_17 (m : MethodId)  : entryFrame m #[] 1 = oF m 0 [.unset] [] := by (first | (simp [entryFrame, oF, mkF, argsToLocals, Value.category]; done) | rfl)
set_option maxRecDepth 65536 in
set_option maxHeartbeats 40000000 in
theorem mOPE (l : Launch) (Z : State) (a0 : Array Value) (hw : ∀ d ∈ tables_1, d.before a0 Z = true) (W : oSt Z) (h0 : Heap) :
    oMeets l Z (⟨"java/util/Optional", "empty", "()Ljava/util/Optional;"⟩ : MethodName) jdk_32_method_1_code 1 (some (.object "java/util/Optional")) ({ frames := 0, cells := 0, slots := 0, locals := 0 } : Room) #[] h0 (fun a => h0.size ≤ a) (fun v h => ∃ a, v = some (.ref a) ∧ Exa Z h a "java/util/Optional" ∧ Fld Z h a "java/util/Optional" "value" "Ljava/lang/Object;" .null) := by
  refine oMeets.of pno_17 (fun _ q => q) (fun E _ q => Nat.le_trans E.1 q) (Ls := [.unset]) (fun m => efo_17 m ) ?_
  intro p e s m below meth c C hs
  refine K_old C (fun hE hle _ => ?_)
  obtain ⟨ea, hS, Xe, Fe⟩ := W.emp
  refine K_getS C (pc := 0) (tw112 hw) Via.refl hS d17_0 ?_
  refine K_astoreN C (pc := 3) (Ls' := [_]) d17_3 rfl rfl ?_
  refine K_aloadN C (pc := 4) d17_4 rfl (by first | rfl | assumption) ?_
  refine K_areturn C (pc := 5) d17_5 rfl rfl rfl (by decide) (by decide) (fun _ _ => ⟨ea, rfl, Xe.ext hE, Fe.ext hE⟩)
theorem pno_18 : plainFor (⟨"java/util/Optional", "isEmpty", "()Z"⟩ : MethodName) = true := by first | exact plainFor_of_name (by first | (simp [plainName, overriddenIn]; done) | decide +kernel) | decide +kernel
theorem efo_18 (m : MethodId) (x0 : Addr) : entryFrame m #[.ref x0] 1 = oF m 0 [.val (.ref x0)] [] := by (first | (simp [entryFrame, oF, mkF, argsToLocals, Value.category]; done) | rfl)
set_option maxRecDepth 65536 in
set_option maxHeartbeats 40000000 in
theorem mOIE (l : Launch) (Z : State) (a0 : Array Value) (hw : ∀ d ∈ tables_1, d.before a0 Z = true) (a : Addr) (h0 : Heap) (F : Fld Z h0 a "java/util/Optional" "value" "Ljava/lang/Object;" .null) :
    oMeets l Z (⟨"java/util/Optional", "isEmpty", "()Z"⟩ : MethodName) jdk_32_method_7_code 1 (some .boolean) ({ frames := 0, cells := 0, slots := 0, locals := 0 } : Room) #[.ref a] h0 (fun a => h0.size ≤ a) (fun v h => v = some (.int 1) ∧ h = h0) := by
  refine oMeets.of pno_18 (fun _ q => q) (fun E _ q => Nat.le_trans E.1 q) (Ls := [.val (.ref a)]) (fun m => efo_18 m a) ?_
  intro p e s m below meth c C hs
  refine K_aloadN C (pc := 0) d18_0 rfl (by first | rfl | assumption) ?_
  refine K_getF C (pc := 1) (tw118 hw) Via.refl F d18_1 ?_
  refine K_ifnonnull_null C (pc := 4) d18_4 ?_
  refine K_iconst C (pc := 7) 1 d18_7 (by decide) ?_
  refine K_goto C (pc := 8) 12 d18_8 (by decide) (by decide) ?_
  refine K_ireturn C (pc := 12) d18_12 (by simp) (z' := 1) (by decide) (by decide) (by decide) (fun _ _ => ⟨rfl, rfl⟩)
theorem pno_61 : plainFor (⟨"java/util/Optional", "get", "()Ljava/lang/Object;"⟩ : MethodName) = true := by first | exact plainFor_of_name (by first | (simp [plainName, overriddenIn]; done) | decide +kernel) | decide +kernel
theorem efo_61 (m : MethodId) (x0 : Addr) : entryFrame m #[.ref x0] 1 = oF m 0 [.val (.ref x0)] [] := by (first | (simp [entryFrame, oF, mkF, argsToLocals, Value.category]; done) | rfl)
set_option maxRecDepth 65536 in
set_option maxHeartbeats 40000000 in
theorem mOGE (l : Launch) (Z : State) (a0 : Array Value) (hw : ∀ d ∈ tables_1, d.before a0 Z = true) (a b : Addr) (h0 : Heap) (F : Fld Z h0 a "java/util/Optional" "value" "Ljava/lang/Object;" (.ref b)) :
    oMeets l Z (⟨"java/util/Optional", "get", "()Ljava/lang/Object;"⟩ : MethodName) jdk_32_method_5_code 1 (some (.object "java/lang/Object")) ({ frames := 0, cells := 0, slots := 0, locals := 0 } : Room) #[.ref a] h0 (fun a => h0.size ≤ a) (fun v h => v = some (.ref b) ∧ h = h0) := by
  refine oMeets.of pno_61 (fun _ q => q) (fun E _ q => Nat.le_trans E.1 q) (Ls := [.val (.ref a)]) (fun m => efo_61 m a) ?_
  intro p e s m below meth c C hs
  refine K_aloadN C (pc := 0) d61_0 rfl (by first | rfl | assumption) ?_
  refine K_getF C (pc := 1) (tw118 hw) Via.refl F d61_1 ?_
  refine K_ifnonnull_ref C (pc := 4) 17 d61_4 (by decide) (by decide) ?_
  refine K_aloadN C (pc := 17) d61_17 rfl (by first | rfl | assumption) ?_
  refine K_getF C (pc := 18) (tw118 hw) Via.refl F d61_18 ?_
  refine K_areturn C (pc := 21) d61_21 rfl rfl rfl (by decide) (by decide) (fun _ _ => ⟨rfl, rfl⟩)
theorem own_st (x : Int32) : 0 ≤ ((x &&& 2147483647) % 3652425).toInt64.toInt ∧ ((x &&& 2147483647) % 3652425).toInt64.toInt ≤ 3652424 := by
  have a := own_modI (x := x &&& 2147483647) 3652425 (by decide) (own_u x)
  rw [show (3652425 : Int32).toInt = 3652425 from rfl] at a
  rw [own_i64]; omega
theorem own_63 (x : Int32) : 0 ≤ (x &&& 63).toInt64.toInt ∧ (x &&& 63).toInt64.toInt ≤ 63 := by
  rw [own_i64, show (x &&& 63).toInt = x.toInt % 2 ^ 6 from Jvm.Kit.i32_mask x 63 (k := 6) (by decide) (by decide)]
  omega
theorem own_cy {z : Int64} (h : -60 ≤ z.toInt) (g : z.toInt < 0) : (z + 1) / 146097 - 1 = -1 := by
  have a := own_add64 (rfl : z.toInt = z.toInt) (show (1 : Int64).toInt = 1 by decide) (by omega)
  have b : ((z + 1) / 146097).toInt = 0 := by
    rw [Int64.toInt_div, a, show (146097 : Int64).toInt = 146097 by decide]
    have : (z.toInt + 1).tdiv 146097 = 0 := by
      obtain ⟨k, hk, hk2⟩ : ∃ k : Int, z.toInt + 1 = -k ∧ 0 ≤ k ∧ k ≤ 59 := ⟨-(z.toInt + 1), by omega, by omega, by omega⟩
      rw [hk, Int.neg_tdiv, Int.tdiv_eq_ediv_of_nonneg hk2.1]
      omega
    rw [this]; decide
  have e : (z + 1) / 146097 = 0 := Int64.toInt_inj.mp (by rw [b]; decide)
  rw [e]; decide
theorem own_yr {x Y n : Int} (h0 : -60 ≤ x) (h9 : x ≤ 3652364) (hx : x = own_D Y + n) (h1 : 0 ≤ n) (h2 : n < own_D (Y + 1) - own_D Y) : (-1 ≤ Y ∧ Y ≤ 9999) ∧ (Y = -1 → 306 ≤ n) ∧ (Y = 9999 → n < 306) := by
  refine ⟨⟨?_, ?_⟩, fun q => ?_, fun q => ?_⟩
  · rcases Int.lt_or_le Y (-1) with z | z
    · have := own_Dm (show Y + 1 ≤ -1 by omega)
      rw [show own_D (-1) = -366 by decide] at this
      omega
    · exact z
  · rcases Int.lt_or_le 9999 Y with z | z
    · have := own_Dm (show 10000 ≤ Y by omega)
      rw [show own_D 10000 = 3652425 by decide] at this
      omega
    · exact z
  · rw [q, show own_D (-1) = -366 by decide] at hx; omega
  · rw [q, show own_D 9999 = 3652059 by decide] at hx; omega
theorem pno_1 : plainFor (⟨"com/example/roomyield/roomyield/NightTallyFirstMonthPinLaw", "start", "(I)J"⟩ : MethodName) = true := by first | exact plainFor_of_name (by first | (simp [plainName, overriddenIn]; done) | decide +kernel) | decide +kernel
theorem efo_1 (m : MethodId) (x0 : Int32) : entryFrame m #[.int x0] 1 = oF m 0 [.val (.int x0)] [] := by (first | (simp [entryFrame, oF, mkF, argsToLocals, Value.category]; done) | rfl)
set_option maxRecDepth 65536 in
set_option maxHeartbeats 40000000 in
theorem mSTA (l : Launch) (Z : State) (a0 : Array Value) (hw : ∀ d ∈ tables_1, d.before a0 Z = true) (x : Int32) (h0 : Heap) :
    oMeets l Z (⟨"com/example/roomyield/roomyield/NightTallyFirstMonthPinLaw", "start", "(I)J"⟩ : MethodName) method_2_code 1 (some .long) ({ frames := 0, cells := 0, slots := 0, locals := 0 } : Room) #[.int x] h0 (fun a => h0.size ≤ a) (fun v h => ∃ s : Int64, v = some (.long s) ∧ h = h0 ∧ 0 ≤ s.toInt ∧ s.toInt ≤ 3652424) := by
  refine oMeets.of pno_1 (fun _ q => q) (fun E _ q => Nat.le_trans E.1 q) (Ls := [.val (.int x)]) (fun m => efo_1 m x) ?_
  intro p e s m below meth c C hs
  refine K_iloadN C (pc := 0) d1_0 rfl ?_
  refine K_ldcI C (pc := 1) (tw4 hw) d1_1 ?_
  refine K_iand C (pc := 3) d1_3 ?_
  refine K_ldcI C (pc := 4) (tw5 hw) d1_4 ?_
  refine K_irem C (pc := 6) d1_6 (by decide) ?_
  refine K_i2l C (pc := 7) d1_7 ?_
  refine K_lreturn C (pc := 8) d1_8 (by decide) (by decide) (fun _ _ => ⟨_, rfl, rfl, own_st x⟩)
theorem pno_3 : plainFor (⟨"java/lang/Math", "min", "(JJ)J"⟩ : MethodName) = true := by first | exact plainFor_of_name (by first | (simp [plainName, overriddenIn]; done) | decide +kernel) | decide +kernel
theorem efo_3 (m : MethodId) (x0 : Int64) (x1 : Int64) : entryFrame m #[.long x0, .long x1] 4 = oF m 0 [.val (.long x0), .second, .val (.long x1), .second] [] := by (first | (simp [entryFrame, oF, mkF, argsToLocals, Value.category]; done) | rfl)
set_option maxRecDepth 65536 in
set_option maxHeartbeats 40000000 in
theorem mMINL (l : Launch) (Z : State) (a0 : Array Value) (hw : ∀ d ∈ tables_1, d.before a0 Z = true) (x w : Int64) (h0 : Heap) :
    oMeets l Z (⟨"java/lang/Math", "min", "(JJ)J"⟩ : MethodName) jdk_29_method_70_code 4 (some .long) ({ frames := 0, cells := 0, slots := 0, locals := 0 } : Room) #[.long x, .long w] h0 (fun a => h0.size ≤ a) (fun v h => ∃ r : Int64, v = some (.long r) ∧ h = h0 ∧ r.toInt = min x.toInt w.toInt) := by
  refine oMeets.of pno_3 (fun _ q => q) (fun E _ q => Nat.le_trans E.1 q) (Ls := [.val (.long x), .second, .val (.long w), .second]) (fun m => efo_3 m x w) ?_
  intro p e s m below meth c C hs
  refine K_lloadN C (pc := 0) d3_0 rfl ?_
  refine K_lloadN C (pc := 1) d3_1 rfl ?_
  refine K_lcmp C (pc := 2) d3_2 ?_
  refine K_if C (pc := 3) 10 d3_3 (by decide) (by decide) (fun hc3 => ?_) (fun hc3 => ?_)
  · simp only [oC, Classical.not_not] at hc3
    refine K_lloadN C (pc := 10) d3_10 rfl ?_
    rw [own_cgt, Int64.lt_iff_toInt_lt] at hc3
    refine K_lreturn C (pc := 11) d3_11 (by decide) (by decide) (fun _ _ => ⟨_, rfl, rfl, by omega⟩)
  · simp only [oC, Classical.not_not] at hc3
    refine K_lloadN C (pc := 6) d3_6 rfl ?_
    refine K_goto C (pc := 7) 11 d3_7 (by decide) (by decide) ?_
    rw [own_cgt, Int64.lt_iff_toInt_lt] at hc3
    refine K_lreturn C (pc := 11) d3_11 (by decide) (by decide) (fun _ _ => ⟨_, rfl, rfl, by omega⟩)
theorem pno_4 : plainFor (⟨"java/lang/Math", "max", "(JJ)J"⟩ : MethodName) = true := by first | exact plainFor_of_name (by first | (simp [plainName, overriddenIn]; done) | decide +kernel) | decide +kernel
theorem efo_4 (m : MethodId) (x0 : Int64) (x1 : Int64) : entryFrame m #[.long x0, .long x1] 4 = oF m 0 [.val (.long x0), .second, .val (.long x1), .second] [] := by (first | (simp [entryFrame, oF, mkF, argsToLocals, Value.category]; done) | rfl)
set_option maxRecDepth 65536 in
set_option maxHeartbeats 40000000 in
theorem mMAXL (l : Launch) (Z : State) (a0 : Array Value) (hw : ∀ d ∈ tables_1, d.before a0 Z = true) (x w : Int64) (h0 : Heap) :
    oMeets l Z (⟨"java/lang/Math", "max", "(JJ)J"⟩ : MethodName) jdk_29_method_66_code 4 (some .long) ({ frames := 0, cells := 0, slots := 0, locals := 0 } : Room) #[.long x, .long w] h0 (fun a => h0.size ≤ a) (fun v h => ∃ r : Int64, v = some (.long r) ∧ h = h0 ∧ r.toInt = max x.toInt w.toInt) := by
  refine oMeets.of pno_4 (fun _ q => q) (fun E _ q => Nat.le_trans E.1 q) (Ls := [.val (.long x), .second, .val (.long w), .second]) (fun m => efo_4 m x w) ?_
  intro p e s m below meth c C hs
  refine K_lloadN C (pc := 0) d4_0 rfl ?_
  refine K_lloadN C (pc := 1) d4_1 rfl ?_
  refine K_lcmp C (pc := 2) d4_2 ?_
  refine K_if C (pc := 3) 10 d4_3 (by decide) (by decide) (fun hc3 => ?_) (fun hc3 => ?_)
  · simp only [oC, Classical.not_not] at hc3
    refine K_lloadN C (pc := 10) d4_10 rfl ?_
    rw [own_clt, Int64.lt_iff_toInt_lt] at hc3
    refine K_lreturn C (pc := 11) d4_11 (by decide) (by decide) (fun _ _ => ⟨_, rfl, rfl, by omega⟩)
  · simp only [oC, Classical.not_not] at hc3
    refine K_lloadN C (pc := 6) d4_6 rfl ?_
    refine K_goto C (pc := 7) 11 d4_7 (by decide) (by decide) ?_
    rw [own_clt, Int64.lt_iff_toInt_lt] at hc3
    refine K_lreturn C (pc := 11) d4_11 (by decide) (by decide) (fun _ _ => ⟨_, rfl, rfl, by omega⟩)
theorem pno_2 : plainFor (⟨"com/example/roomyield/roomyield/NightTallyFirstMonthPinLaw", "other", "(III)J"⟩ : MethodName) = true := by first | exact plainFor_of_name (by first | (simp [plainName, overriddenIn]; done) | decide +kernel) | decide +kernel
theorem efo_2 (m : MethodId) (x0 : Int32) (x1 : Int32) (x2 : Int32) : entryFrame m #[.int x0, .int x1, .int x2] 7 = oF m 0 [.val (.int x0), .val (.int x1), .val (.int x2), .unset, .unset, .unset, .unset] [] := by (first | (simp [entryFrame, oF, mkF, argsToLocals, Value.category]; done) | rfl)
set_option maxRecDepth 65536 in
set_option maxHeartbeats 40000000 in
theorem mOTH (l : Launch) (Z : State) (a0 : Array Value) (hw : ∀ d ∈ tables_1, d.before a0 Z = true) (p_ q_ z : Int32) (h0 : Heap) :
    oMeets l Z (⟨"com/example/roomyield/roomyield/NightTallyFirstMonthPinLaw", "other", "(III)J"⟩ : MethodName) method_3_code 7 (some .long) ({ frames := 1, cells := 0, slots := 0, locals := 20 } : Room) #[.int p_, .int q_, .int z] h0 (fun a => h0.size ≤ a) (fun v h => ∃ s : Int64, v = some (.long s) ∧ h = h0 ∧ 0 ≤ s.toInt ∧ s.toInt ≤ 3652424) := by
  refine oMeets.of pno_2 (fun _ q => q) (fun E _ q => Nat.le_trans E.1 q) (Ls := [.val (.int p_), .val (.int q_), .val (.int z), .unset, .unset, .unset, .unset]) (fun m => efo_2 m p_ q_ z) ?_
  intro p e s m below meth c C hs
  refine K_iloadN C (pc := 0) d2_0 rfl ?_
  refine K_static C (pc := 1) (mSTA l Z a0 hw p_ _) (tw0 hw) (tw1 hw) (tw2 hw) (tw3 hw) (by decide) pdo_31 d2_1 (argsL := [_]) (rest := _) rfl rfl rfl rfl (fun a q r => C.new a (Nat.le_trans q r)) (by decide) (Nat.le_of_ble_eq_true rfl) (by decide) (by decide) ?_
  rintro _ h8 ⟨s_, rfl, hh, hs1, hs2⟩ -
  replace hh := hh.symm
  subst hh
  dsimp only [Option.toList, List.cons_append, List.nil_append]
  refine K_lstoreN C (pc := 4) (Ls' := [_, _, _, _, _, _, _]) d2_4 rfl ?_
  refine K_iloadN C (pc := 5) d2_5 rfl ?_
  refine K_if C (pc := 6) 11 d2_6 (by decide) (by decide) (fun hc6 => ?_) (fun hc6 => ?_)
  · simp only [oC, Classical.not_not] at hc6
    refine K_iloadN C (pc := 11) d2_11 rfl ?_
    refine K_iconst C (pc := 12) 1 d2_12 (by decide) ?_
    refine K_icmp C (pc := 13) 26 d2_13 (by decide) (by decide) (fun hc13 => ?_) (fun hc13 => ?_)
    · simp only [oC, Classical.not_not] at hc13
      refine K_iloadN C (pc := 26) d2_26 rfl ?_
      refine K_ldcI C (pc := 27) (tw4 hw) d2_27 ?_
      refine K_iand C (pc := 29) d2_29 ?_
      refine K_ldcI C (pc := 30) (tw5 hw) d2_30 ?_
      refine K_irem C (pc := 32) d2_32 (by decide) ?_
      refine K_i2l C (pc := 33) d2_33 ?_
      refine K_lstore C (pc := 34) (Ls' := [_, _, _, _, _, _, _]) d2_34 rfl ?_
      refine K_lload C (pc := 36) d2_36 rfl ?_
      refine K_ldc2J C (pc := 38) (tw120 hw) d2_38 ?_
      have hx0 : 0 ≤ Int64.toInt ((q_ &&& 2147483647) % 3652425).toInt64 := (own_st q_).1
      refine K_static C (pc := 41) (mMINL l Z a0 hw ((q_ &&& 2147483647) % 3652425).toInt64 3652424 _) (tw9 hw) (tw10 hw) (tw11 hw) (tw12 hw) (by decide) pdo_4 d2_41 (argsL := [_, _]) (rest := _) rfl rfl rfl rfl (fun a q r => C.new a (Nat.le_trans q r)) (by decide) (Nat.le_of_ble_eq_true rfl) (by decide) (by decide) ?_
      rintro _ h8 ⟨r, rfl, hh, hr⟩ -
      replace hh := hh.symm
      subst hh
      dsimp only [Option.toList, List.cons_append, List.nil_append]
      rw [show (3652424 : Int64).toInt = 3652424 by decide] at hr
      refine K_lreturn C (pc := 44) d2_44 (by decide) (by decide) (fun _ _ => ⟨_, rfl, rfl, by omega, by omega⟩)
    · simp only [oC, Classical.not_not] at hc13
      refine K_lloadN C (pc := 16) d2_16 rfl ?_
      refine K_iloadN C (pc := 17) d2_17 rfl ?_
      refine K_bipush C (pc := 18) 63 d2_18 (by decide) ?_
      refine K_iand C (pc := 20) d2_20 ?_
      refine K_i2l C (pc := 21) d2_21 ?_
      refine K_ladd C (pc := 22) d2_22 ?_
      refine K_goto C (pc := 23) 34 d2_23 (by decide) (by decide) ?_
      refine K_lstore C (pc := 34) (Ls' := [_, _, _, _, _, _, _]) d2_34 rfl ?_
      refine K_lload C (pc := 36) d2_36 rfl ?_
      refine K_ldc2J C (pc := 38) (tw120 hw) d2_38 ?_
      have hx0 : 0 ≤ Int64.toInt (s_ + (q_ &&& 63).toInt64) := (by have := own_63 q_; rw [own_add64 (rfl : s_.toInt = s_.toInt) rfl (by omega)]; omega)
      refine K_static C (pc := 41) (mMINL l Z a0 hw (s_ + (q_ &&& 63).toInt64) 3652424 _) (tw9 hw) (tw10 hw) (tw11 hw) (tw12 hw) (by decide) pdo_4 d2_41 (argsL := [_, _]) (rest := _) rfl rfl rfl rfl (fun a q r => C.new a (Nat.le_trans q r)) (by decide) (Nat.le_of_ble_eq_true rfl) (by decide) (by decide) ?_
      rintro _ h8 ⟨r, rfl, hh, hr⟩ -
      replace hh := hh.symm
      subst hh
      dsimp only [Option.toList, List.cons_append, List.nil_append]
      rw [show (3652424 : Int64).toInt = 3652424 by decide] at hr
      refine K_lreturn C (pc := 44) d2_44 (by decide) (by decide) (fun _ _ => ⟨_, rfl, rfl, by omega, by omega⟩)
  · simp only [oC, Classical.not_not] at hc6
    refine K_lloadN C (pc := 9) d2_9 rfl ?_
    refine K_lreturn C (pc := 10) d2_10 (by decide) (by decide) (fun _ _ => ⟨_, rfl, rfl, hs1, hs2⟩)
theorem pno_6 : plainFor (⟨"java/time/LocalDate", "ofEpochDay", "(J)Ljava/time/LocalDate;"⟩ : MethodName) = true := by first | exact plainFor_of_name (by first | (simp [plainName, overriddenIn]; done) | decide +kernel) | decide +kernel
theorem efo_6 (m : MethodId) (x0 : Int64) : entryFrame m #[.long x0] 14 = oF m 0 [.val (.long x0), .second, .unset, .unset, .unset, .unset, .unset, .unset, .unset, .unset, .unset, .unset, .unset, .unset] [] := by (first | (simp [entryFrame, oF, mkF, argsToLocals, Value.category]; done) | rfl)
set_option maxRecDepth 65536 in
set_option maxHeartbeats 40000000 in
theorem mOED (l : Launch) (Z : State) (a0 : Array Value) (hw : ∀ d ∈ tables_1, d.before a0 Z = true) (W : oSt Z) (e_ : Int64) (off : Int) (h0 : Heap) (he : e_.toInt = off - 719528) (ho : 0 ≤ off ∧ off ≤ 3652424) :
    oMeets l Z (⟨"java/time/LocalDate", "ofEpochDay", "(J)Ljava/time/LocalDate;"⟩ : MethodName) jdk_2323_method_8_code 14 (some (.object "java/time/LocalDate")) ({ frames := 4, cells := 1, slots := 3, locals := 120 } : Room) #[.long e_] h0 (fun a => h0.size ≤ a) (fun v h => ∃ (a : Addr) (y m_ d_ : Int32), v = some (.ref a) ∧ oLD Z h a y m_ d_ ∧ own_date (off - 60) y m_ d_) := by
  refine oMeets.of pno_6 (fun _ q => q) (fun E _ q => Nat.le_trans E.1 q) (Ls := [.val (.long e_), .second, .unset, .unset, .unset, .unset, .unset, .unset, .unset, .unset, .unset, .unset, .unset, .unset]) (fun m => efo_6 m e_) ?_
  intro p e s m below meth c C hs
  have J220 : ∀ (z adj Y n_ : Int64) (k k11 mo d_ : Int32), own_date (off - 60) Y.toInt32 mo d_ → oWP false p l e ({ frames := 4, cells := 1, slots := 3, locals := 120 } : Room) s m #[.long e_] below meth c (fun a => h0.size ≤ a) (fun v h _ => ((fun v h => ∃ (a : Addr) (y m_ d_ : Int32), v = some (.ref a) ∧ oLD Z h a y m_ d_ ∧ own_date (off - 60) y m_ d_)) v h) oT h0 0 0 (oF m 220 [.val (.long e_), .second, .val (.long z), .second, .val (.long adj), .second, .val (.long Y), .second, .val (.long n_), .second, .val (.int k), .val (.int k11), .val (.int mo), .val (.int d_)] []) := by
    intro z adj Y n_ k k11 mo d_ hd
    refine K_new C (pc := 220) (tw71 hw) (tw72 hw) (tw22 hw) d6_220 (by decide) (by decide) ?_
    intro h1 a ha hPa E1 X1 D1
    have FY := D1 (Or.inr (tw81 hw)) (ty := .int) (by decide)
    have FM := D1 (Or.inr (tw83 hw)) (ty := .short) (by decide)
    have FD := D1 (Or.inr (tw85 hw)) (ty := .short) (by decide)
    refine K_dup C (pc := 223) d6_223 rfl ?_
    refine K_lload C (pc := 224) d6_224 rfl ?_
    refine K_l2i C (pc := 226) d6_226 ?_
    refine K_iload C (pc := 227) d6_227 rfl ?_
    refine K_iload C (pc := 229) d6_229 rfl ?_
    refine K_special C (pc := 231) (mLDI l Z a0 hw a Y.toInt32 mo d_ _ (C.young a hPa) (by have := hd.1.2.1; omega) (by have := hd.1.2.2; omega) X1 FY FM FD) (tw73 hw) (tw74 hw) (tw22 hw) (tw76 hw) rfl (by decide) pdo_32 d6_231 (argsL := [_, _, _]) (rest := _) rfl rfl rfl rfl (fun x q r => r.elim (fun z => z ▸ hPa) (fun z => C.new x (Nat.le_trans q z))) (by decide) (Nat.le_of_ble_eq_true rfl) (by decide) (by decide) ?_
    rintro _ h2 ⟨rfl, F2⟩ -
    dsimp only [Option.toList, List.cons_append, List.nil_append]
    refine K_areturn C (pc := 234) d6_234 rfl rfl rfl (by decide) (by decide) (fun _ _ => ⟨a, _, _, _, rfl, F2, hd⟩)
  have J148 : ∀ (z adj y n_ : Int64), ((adj.toInt = 0 ∧ z.toInt = off - 60) ∨ (adj.toInt = -400 ∧ z.toInt = off - 60 + 146097)) → z.toInt = own_D y.toInt + n_.toInt → 0 ≤ n_.toInt → n_.toInt < own_D (y.toInt + 1) - own_D y.toInt → 0 ≤ y.toInt → y.toInt ≤ 20000 → oWP false p l e ({ frames := 4, cells := 1, slots := 3, locals := 120 } : Room) s m #[.long e_] below meth c (fun a => h0.size ≤ a) (fun v h _ => ((fun v h => ∃ (a : Addr) (y m_ d_ : Int32), v = some (.ref a) ∧ oLD Z h a y m_ d_ ∧ own_date (off - 60) y m_ d_)) v h) oT h0 0 0 (oF m 148 [.val (.long e_), .second, .val (.long z), .second, .val (.long adj), .second, .val (.long y), .second, .val (.long n_), .second, .unset, .unset, .unset, .unset] []) := by
    intro z adj y n_ hadj hzn hn0 hn1 hy0 hy1
    refine K_lload C (pc := 148) d6_148 rfl ?_
    refine K_lload C (pc := 150) d6_150 rfl ?_
    refine K_ladd C (pc := 152) d6_152 ?_
    have hY := own_add64 (rfl : y.toInt = y.toInt) (rfl : adj.toInt = adj.toInt) (by omega)
    generalize y + adj = Y at hY ⊢
    have hD : off - 60 = own_D Y.toInt + n_.toInt ∧ n_.toInt < own_D (Y.toInt + 1) - own_D Y.toInt := by
      rcases hadj with ⟨a1, a2⟩ | ⟨a1, a2⟩
      · rw [a1, Int.add_zero] at hY; rw [hY]; omega
      · have e1 := own_Dp y.toInt
        have e2 := own_Dp (y.toInt + 1)
        rw [a1] at hY
        rw [hY, show y.toInt + -400 = y.toInt - 400 by omega, show y.toInt - 400 + 1 = y.toInt + 1 - 400 by omega, e1, e2]; omega
    have hn365 : n_.toInt ≤ 365 := by have := own_Dl Y.toInt; split at this <;> omega
    have hyr := own_yr (by omega) (by omega) hD.1 hn0 hD.2
    refine K_lstore C (pc := 153) (Ls' := [_, _, _, _, _, _, _, _, _, _, _, _, _, _]) d6_153 rfl ?_
    refine K_lload C (pc := 155) d6_155 rfl ?_
    refine K_l2i C (pc := 157) d6_157 ?_
    have hk := own_l2iI (x := n_) (by omega)
    generalize n_.toInt32 = k at hk ⊢
    have hM := own_mI (n := k) (by omega)
    have hmm := own_mm (n := k.toInt) (by omega) (by omega) rfl
    refine K_istore C (pc := 158) (Ls' := [_, _, _, _, _, _, _, _, _, _, _, _, _, _]) d6_158 rfl ?_
    refine K_iload C (pc := 160) d6_160 rfl ?_
    refine K_iconst C (pc := 162) 5 d6_162 (by decide) ?_
    refine K_imul C (pc := 163) d6_163 ?_
    refine K_iconst C (pc := 164) 2 d6_164 (by decide) ?_
    refine K_iadd C (pc := 165) d6_165 ?_
    refine K_sipush C (pc := 166) 153 d6_166 (by decide) ?_
    refine K_idiv C (pc := 169) d6_169 (by decide) ?_
    generalize hk11 : (k * 5 + 2) / 153 = k11 at hM ⊢
    refine K_istore C (pc := 170) (Ls' := [_, _, _, _, _, _, _, _, _, _, _, _, _, _]) d6_170 rfl ?_
    refine K_iload C (pc := 172) d6_172 rfl ?_
    refine K_iconst C (pc := 174) 3 d6_174 (by decide) ?_
    refine K_iadd C (pc := 175) d6_175 ?_
    have h12 : (k11 + 3).toInt = k11.toInt + 3 := by rw [Int32.toInt_add, show (3 : Int32).toInt = 3 from rfl, Int.bmod_def]; omega
    refine K_istore C (pc := 176) (Ls' := [_, _, _, _, _, _, _, _, _, _, _, _, _, _]) d6_176 rfl ?_
    have J188 : ∀ (mo : Int32), (mo.toInt = k11.toInt + 3 ∧ k11.toInt ≤ 9 ∨ mo.toInt = k11.toInt - 9 ∧ 10 ≤ k11.toInt) → oWP false p l e ({ frames := 4, cells := 1, slots := 3, locals := 120 } : Room) s m #[.long e_] below meth c (fun a => h0.size ≤ a) (fun v h _ => ((fun v h => ∃ (a : Addr) (y m_ d_ : Int32), v = some (.ref a) ∧ oLD Z h a y m_ d_ ∧ own_date (off - 60) y m_ d_)) v h) oT h0 0 0 (oF m 188 [.val (.long e_), .second, .val (.long z), .second, .val (.long adj), .second, .val (.long Y), .second, .val (.long n_), .second, .val (.int k), .val (.int k11), .val (.int mo), .unset] []) := by
      intro mo hmo
      refine K_iload C (pc := 188) d6_188 rfl ?_
      refine K_iload C (pc := 190) d6_190 rfl ?_
      refine K_sipush C (pc := 192) 306 d6_192 (by decide) ?_
      refine K_imul C (pc := 195) d6_195 ?_
      refine K_iconst C (pc := 196) 5 d6_196 (by decide) ?_
      refine K_iadd C (pc := 197) d6_197 ?_
      refine K_bipush C (pc := 198) 10 d6_198 (by decide) ?_
      refine K_idiv C (pc := 200) d6_200 (by decide) ?_
      refine K_isub C (pc := 201) d6_201 ?_
      refine K_iconst C (pc := 202) 1 d6_202 (by decide) ?_
      refine K_iadd C (pc := 203) d6_203 ?_
      generalize hd_ : k - (k11 * 306 + 5) / 10 + 1 = d_ at hM ⊢
      refine K_istore C (pc := 204) (Ls' := [_, _, _, _, _, _, _, _, _, _, _, _, _, _]) d6_204 rfl ?_
      refine K_iload C (pc := 206) d6_206 rfl ?_
      refine K_sipush C (pc := 208) 306 d6_208 (by decide) ?_
      refine K_icmp C (pc := 211) 220 d6_211 (by decide) (by decide) (fun hc211 => ?_) (fun hc211 => ?_)
      · simp only [oC, Classical.not_not] at hc211
        have hlt := hc211
        rw [Int32.lt_iff_toInt_lt, show (306 : Int32).toInt = 306 from rfl, hk] at hlt
        have hyy : (Y).toInt32.toInt = Y.toInt := by rw [own_l2iI (by omega)]
        have hmk := own_mk (Y := Y.toInt) (n := n_.toInt) (mm := k11.toInt) (y := (Y).toInt32) (m := mo) (d := d_) hn0 hD.2 (by rw [hM.1, hk]) (by omega) (by rw [hM.2, hM.1, hk]) (by omega)
        exact J220 z adj _ n_ k k11 mo d_ ⟨hmk.1, Y.toInt, n_.toInt, k11.toInt, hD.1, hn0, hD.2, by rw [hM.1, hk], hmk.2, by rw [hM.2, hM.1, hk]⟩
      · simp only [oC, Classical.not_not] at hc211
        refine K_lload C (pc := 214) d6_214 rfl ?_
        refine K_lconst C (pc := 216) 1 d6_216 (by decide) ?_
        refine K_ladd C (pc := 217) d6_217 ?_
        refine K_lstore C (pc := 218) (Ls' := [_, _, _, _, _, _, _, _, _, _, _, _, _, _]) d6_218 rfl ?_
        have hlt := hc211
        rw [Int32.lt_iff_toInt_lt, show (306 : Int32).toInt = 306 from rfl, hk] at hlt
        have hY1 := own_add64 (rfl : Y.toInt = Y.toInt) (show (1 : Int64).toInt = 1 by decide) (by omega)
        have hyy : ((Y + 1)).toInt32.toInt = Y.toInt + 1 := by rw [own_l2iI (by omega)]; exact hY1
        have hmk := own_mk (Y := Y.toInt) (n := n_.toInt) (mm := k11.toInt) (y := ((Y + 1)).toInt32) (m := mo) (d := d_) hn0 hD.2 (by rw [hM.1, hk]) (by omega) (by rw [hM.2, hM.1, hk]) (by omega)
        exact J220 z adj _ n_ k k11 mo d_ ⟨hmk.1, Y.toInt, n_.toInt, k11.toInt, hD.1, hn0, hD.2, by rw [hM.1, hk], hmk.2, by rw [hM.2, hM.1, hk]⟩
    refine K_iload C (pc := 178) d6_178 rfl ?_
    refine K_bipush C (pc := 180) 12 d6_180 (by decide) ?_
    refine K_icmp C (pc := 182) 188 d6_182 (by decide) (by decide) (fun hc182 => ?_) (fun hc182 => ?_)
    · simp only [oC, Classical.not_not] at hc182
      exact J188 _ (Or.inl ⟨h12, by rw [Int32.lt_iff_toInt_lt, h12, show (12 : Int32).toInt = 12 from rfl] at hc182; omega⟩)
    · simp only [oC, Classical.not_not] at hc182
      refine K_iinc C (pc := 185) (w := (-12)) (Ls' := [_, _, _, _, _, _, _, _, _, _, _, _, _, _]) d6_185 (by decide) rfl rfl ?_
      exact J188 _ (Or.inr ⟨by rw [Int32.toInt_add, h12, show (-12 : Int32).toInt = -12 from rfl, Int.bmod_def]; omega, by rw [Int32.lt_iff_toInt_lt, h12, show (12 : Int32).toInt = 12 from rfl] at hc182; omega⟩)
  have J73 : ∀ z adj : Int64, ((adj.toInt = 0 ∧ z.toInt = off - 60) ∨ (adj.toInt = -400 ∧ z.toInt = off - 60 + 146097)) → 0 ≤ z.toInt → oWP false p l e ({ frames := 4, cells := 1, slots := 3, locals := 120 } : Room) s m #[.long e_] below meth c (fun a => h0.size ≤ a) (fun v h _ => ((fun v h => ∃ (a : Addr) (y m_ d_ : Int32), v = some (.ref a) ∧ oLD Z h a y m_ d_ ∧ own_date (off - 60) y m_ d_)) v h) oT h0 0 0 (oF m 73 [.val (.long e_), .second, .val (.long z), .second, .val (.long adj), .second, .val (.long (own_y0 z)), .second, .unset, .unset, .unset, .unset, .unset, .unset] []) := by
    intro z adj hadj hz0
    have hg := own_guess (z := z) (y := own_y0 z) (n := own_f z (own_y0 z)) (by omega) rfl rfl
    refine K_lloadN C (pc := 73) d6_73 rfl ?_
    refine K_ldc2J C (pc := 74) (tw68 hw) d6_74 ?_
    refine K_lload C (pc := 77) d6_77 rfl ?_
    refine K_lmul C (pc := 79) d6_79 ?_
    refine K_lload C (pc := 80) d6_80 rfl ?_
    refine K_ldc2J C (pc := 82) (tw69 hw) d6_82 ?_
    refine K_ldiv C (pc := 85) d6_85 (by decide) ?_
    refine K_ladd C (pc := 86) d6_86 ?_
    refine K_lload C (pc := 87) d6_87 rfl ?_
    refine K_ldc2J C (pc := 89) (tw70 hw) d6_89 ?_
    refine K_ldiv C (pc := 92) d6_92 (by decide) ?_
    refine K_lsub C (pc := 93) d6_93 ?_
    refine K_lload C (pc := 94) d6_94 rfl ?_
    refine K_ldc2J C (pc := 96) (tw66 hw) d6_96 ?_
    refine K_ldiv C (pc := 99) d6_99 (by decide) ?_
    refine K_ladd C (pc := 100) d6_100 ?_
    refine K_lsub C (pc := 101) d6_101 ?_
    refine K_lstore C (pc := 102) (Ls' := [_, _, _, _, _, _, _, _, _, _, _, _, _, _]) d6_102 rfl ?_
    refine K_lload C (pc := 104) d6_104 rfl ?_
    refine K_lconst C (pc := 106) 0 d6_106 (by decide) ?_
    refine K_lcmp C (pc := 107) d6_107 ?_
    refine K_if C (pc := 108) 148 d6_108 (by decide) (by decide) (fun hc108 => ?_) (fun hc108 => ?_)
    · simp only [oC, Classical.not_not] at hc108
      have hq := hg.2.2.1 (fun q => hc108 (own_clt.mpr q))
      exact J148 z adj (own_y0 z) (own_f z (own_y0 z)) hadj hq.2.1 hq.1 hq.2.2 hg.1 hg.2.1
    · simp only [oC, Classical.not_not] at hc108
      refine K_lload C (pc := 111) d6_111 rfl ?_
      refine K_lconst C (pc := 113) 1 d6_113 (by decide) ?_
      refine K_lsub C (pc := 114) d6_114 ?_
      refine K_lstore C (pc := 115) (Ls' := [_, _, _, _, _, _, _, _, _, _, _, _, _, _]) d6_115 rfl ?_
      refine K_lloadN C (pc := 117) d6_117 rfl ?_
      refine K_ldc2J C (pc := 118) (tw68 hw) d6_118 ?_
      refine K_lload C (pc := 121) d6_121 rfl ?_
      refine K_lmul C (pc := 123) d6_123 ?_
      refine K_lload C (pc := 124) d6_124 rfl ?_
      refine K_ldc2J C (pc := 126) (tw69 hw) d6_126 ?_
      refine K_ldiv C (pc := 129) d6_129 (by decide) ?_
      refine K_ladd C (pc := 130) d6_130 ?_
      refine K_lload C (pc := 131) d6_131 rfl ?_
      refine K_ldc2J C (pc := 133) (tw70 hw) d6_133 ?_
      refine K_ldiv C (pc := 136) d6_136 (by decide) ?_
      refine K_lsub C (pc := 137) d6_137 ?_
      refine K_lload C (pc := 138) d6_138 rfl ?_
      refine K_ldc2J C (pc := 140) (tw66 hw) d6_140 ?_
      refine K_ldiv C (pc := 143) d6_143 (by decide) ?_
      refine K_ladd C (pc := 144) d6_144 ?_
      refine K_lsub C (pc := 145) d6_145 ?_
      refine K_lstore C (pc := 146) (Ls' := [_, _, _, _, _, _, _, _, _, _, _, _, _, _]) d6_146 rfl ?_
      have hq := hg.2.2.2 (own_clt.mp hc108)
      exact J148 z adj (own_y0 z - 1) (own_f z (own_y0 z - 1)) hadj hq.2.2.2.1 hq.2.2.1 hq.2.2.2.2 hq.1 (by have := hg.2.1; omega)
  refine K_old C (fun hE hle _ => ?_)
  obtain ⟨fe, SE, Fe⟩ := W.epd
  refine K_getS C (pc := 0) (tw24 hw) Via.refl SE d6_0 ?_
  refine K_lloadN C (pc := 3) d6_3 rfl ?_
  refine K_virtual C (pc := 4) (mCVV l Z a0 hw fe e_ (-365243219162) 365241780471 _ (Fe.ext hE) (by rw [Int64.lt_iff_toInt_lt, show (-365243219162 : Int64).toInt = -365243219162 by decide]; omega) (by rw [Int64.lt_iff_toInt_lt, show (365241780471 : Int64).toInt = 365241780471 by decide]; omega)) ((Fe.ext hE).1) (tw26 hw) (tw27 hw) (oNF (tw29 hw)) (tw29 hw) (tw28 hw) (tw25 hw) (tw30 hw) (by decide) pdo_3 d6_4 (argsL := [_]) (rest := _) rfl rfl rfl rfl (fun a q r => C.new a (Nat.le_trans q r)) (by decide) (Nat.le_of_ble_eq_true rfl) (by decide) (by decide) ?_
  rintro _ h8 ⟨rfl, hh⟩ -
  replace hh := hh.symm
  subst hh
  dsimp only [Option.toList, List.cons_append, List.nil_append]
  refine K_pop2 C (pc := 7) d6_7 ?_
  refine K_lloadN C (pc := 8) d6_8 rfl ?_
  refine K_ldc2J C (pc := 9) (tw63 hw) d6_9 ?_
  refine K_ladd C (pc := 12) d6_12 ?_
  refine K_lstoreN C (pc := 13) (Ls' := [_, _, _, _, _, _, _, _, _, _, _, _, _, _]) d6_13 rfl ?_
  refine K_lloadN C (pc := 14) d6_14 rfl ?_
  refine K_ldc2J C (pc := 15) (tw64 hw) d6_15 ?_
  refine K_lsub C (pc := 18) d6_18 ?_
  have hz0 : (e_ + 719528 - 60).toInt = off - 60 := by
    have a := own_add64 he (show (719528 : Int64).toInt = 719528 by decide) (by omega)
    have b := own_sub64 a (show (60 : Int64).toInt = 60 by decide) (by omega)
    rw [b]; omega
  generalize e_ + 719528 - 60 = z0 at hz0 ⊢
  refine K_lstoreN C (pc := 19) (Ls' := [_, _, _, _, _, _, _, _, _, _, _, _, _, _]) d6_19 rfl ?_
  refine K_lconst C (pc := 20) 0 d6_20 (by decide) ?_
  refine K_lstore C (pc := 21) (Ls' := [_, _, _, _, _, _, _, _, _, _, _, _, _, _]) d6_21 rfl ?_
  refine K_lloadN C (pc := 23) d6_23 rfl ?_
  refine K_lconst C (pc := 24) 0 d6_24 (by decide) ?_
  refine K_lcmp C (pc := 25) d6_25 ?_
  refine K_if C (pc := 26) 58 d6_26 (by decide) (by decide) (fun hc26 => ?_) (fun hc26 => ?_)
  · simp only [oC, Classical.not_not] at hc26
    refine K_ldc2J C (pc := 58) (tw66 hw) d6_58 ?_
    refine K_lloadN C (pc := 61) d6_61 rfl ?_
    refine K_lmul C (pc := 62) d6_62 ?_
    refine K_ldc2J C (pc := 63) (tw67 hw) d6_63 ?_
    refine K_ladd C (pc := 66) d6_66 ?_
    refine K_ldc2J C (pc := 67) (tw65 hw) d6_67 ?_
    refine K_ldiv C (pc := 70) d6_70 (by decide) ?_
    refine K_lstore C (pc := 71) (Ls' := [_, _, _, _, _, _, _, _, _, _, _, _, _, _]) d6_71 rfl ?_
    have hnn : 0 ≤ z0.toInt := by have this : ¬ z0 < 0 := fun q => hc26 (own_clt.mpr q); rw [Int64.lt_iff_toInt_lt, show (0 : Int64).toInt = 0 from rfl] at this; omega
    exact J73 z0 0 (Or.inl ⟨by decide, hz0⟩) hnn
  · simp only [oC, Classical.not_not] at hc26
    refine K_lloadN C (pc := 29) d6_29 rfl ?_
    refine K_lconst C (pc := 30) 1 d6_30 (by decide) ?_
    refine K_ladd C (pc := 31) d6_31 ?_
    refine K_ldc2J C (pc := 32) (tw65 hw) d6_32 ?_
    refine K_ldiv C (pc := 35) d6_35 (by decide) ?_
    refine K_lconst C (pc := 36) 1 d6_36 (by decide) ?_
    refine K_lsub C (pc := 37) d6_37 ?_
    have hneg : z0.toInt < 0 := by have := own_clt.mp hc26; rwa [Int64.lt_iff_toInt_lt, show (0 : Int64).toInt = 0 from rfl] at this
    rw [own_cy (z := z0) (by omega) hneg]
    refine K_lstore C (pc := 38) (Ls' := [_, _, _, _, _, _, _, _, _, _, _, _, _, _]) d6_38 rfl ?_
    refine K_lload C (pc := 40) d6_40 rfl ?_
    refine K_ldc2J C (pc := 42) (tw66 hw) d6_42 ?_
    refine K_lmul C (pc := 45) d6_45 ?_
    rw [show (-1 : Int64) * 400 = -400 by decide]
    refine K_lstore C (pc := 46) (Ls' := [_, _, _, _, _, _, _, _, _, _, _, _, _, _]) d6_46 rfl ?_
    refine K_lloadN C (pc := 48) d6_48 rfl ?_
    refine K_lload C (pc := 49) d6_49 rfl ?_
    refine K_lneg C (pc := 51) d6_51 ?_
    refine K_ldc2J C (pc := 52) (tw65 hw) d6_52 ?_
    refine K_lmul C (pc := 55) d6_55 ?_
    rw [show (-(-1) : Int64) * 146097 = 146097 by decide]
    refine K_ladd C (pc := 56) d6_56 ?_
    refine K_lstoreN C (pc := 57) (Ls' := [_, _, _, _, _, _, _, _, _, _, _, _, _, _]) d6_57 rfl ?_
    refine K_ldc2J C (pc := 58) (tw66 hw) d6_58 ?_
    refine K_lloadN C (pc := 61) d6_61 rfl ?_
    refine K_lmul C (pc := 62) d6_62 ?_
    refine K_ldc2J C (pc := 63) (tw67 hw) d6_63 ?_
    refine K_ladd C (pc := 66) d6_66 ?_
    refine K_ldc2J C (pc := 67) (tw65 hw) d6_67 ?_
    refine K_ldiv C (pc := 70) d6_70 (by decide) ?_
    refine K_lstore C (pc := 71) (Ls' := [_, _, _, _, _, _, _, _, _, _, _, _, _, _]) d6_71 rfl ?_
    have hz1 := own_add64 hz0 (show (146097 : Int64).toInt = 146097 by decide) (by omega)
    exact J73 (z0 + 146097) (-400) (Or.inr ⟨by decide, hz1⟩) (by omega)
theorem pno_5 : plainFor (⟨"com/example/roomyield/roomyield/NightTallyFirstMonthPinLaw", "date", "(J)Ljava/time/LocalDate;"⟩ : MethodName) = true := by first | exact plainFor_of_name (by first | (simp [plainName, overriddenIn]; done) | decide +kernel) | decide +kernel
theorem efo_5 (m : MethodId) (x0 : Int64) : entryFrame m #[.long x0] 2 = oF m 0 [.val (.long x0), .second] [] := by (first | (simp [entryFrame, oF, mkF, argsToLocals, Value.category]; done) | rfl)
set_option maxRecDepth 65536 in
set_option maxHeartbeats 40000000 in
theorem mDATE (l : Launch) (Z : State) (a0 : Array Value) (hw : ∀ d ∈ tables_1, d.before a0 Z = true) (W : oSt Z) (x : Int64) (h0 : Heap) (hx : 0 ≤ x.toInt ∧ x.toInt ≤ 3652424) :
    oMeets l Z (⟨"com/example/roomyield/roomyield/NightTallyFirstMonthPinLaw", "date", "(J)Ljava/time/LocalDate;"⟩ : MethodName) method_4_code 2 (some (.object "java/time/LocalDate")) ({ frames := 5, cells := 1, slots := 3, locals := 160 } : Room) #[.long x] h0 (fun a => h0.size ≤ a) (fun v h => ∃ (a : Addr) (y m_ d_ : Int32), v = some (.ref a) ∧ oLD Z h a y m_ d_ ∧ own_date (x.toInt - 60) y m_ d_) := by
  refine oMeets.of pno_5 (fun _ q => q) (fun E _ q => Nat.le_trans E.1 q) (Ls := [.val (.long x), .second]) (fun m => efo_5 m x) ?_
  intro p e s m below meth c C hs
  refine K_ldc2J C (pc := 0) (tw19 hw) d5_0 ?_
  refine K_lloadN C (pc := 3) d5_3 rfl ?_
  refine K_ladd C (pc := 4) d5_4 ?_
  have he : (-719528 + x).toInt = x.toInt - 719528 := by rw [own_add64 (show (-719528 : Int64).toInt = -719528 by decide) (rfl : x.toInt = x.toInt) (by omega)]; omega
  refine K_static C (pc := 5) (mOED l Z a0 hw W (-719528 + x) x.toInt _ he hx) (tw20 hw) (tw21 hw) (tw22 hw) (tw23 hw) (by decide) pdo_33 d5_5 (argsL := [_]) (rest := _) rfl rfl rfl rfl (fun a q r => C.new a (Nat.le_trans q r)) (by decide) (Nat.le_of_ble_eq_true rfl) (by decide) (by decide) ?_
  rintro _ h1 ⟨a, y, m_, d_, rfl, F1, hd⟩ -
  dsimp only [Option.toList, List.cons_append, List.nil_append]
  refine K_areturn C (pc := 8) d5_8 rfl rfl rfl (by decide) (by decide) (fun _ _ => ⟨a, y, m_, d_, rfl, F1, hd⟩)
theorem pno_19 : plainFor (⟨"com/example/roomyield/roomyield/NightTallyFirstMonthPinLaw", "rate", "(I)Ljava/math/BigDecimal;"⟩ : MethodName) = true := by first | exact plainFor_of_name (by first | (simp [plainName, overriddenIn]; done) | decide +kernel) | decide +kernel
theorem efo_19 (m : MethodId) (x0 : Int32) : entryFrame m #[.int x0] 1 = oF m 0 [.val (.int x0)] [] := by (first | (simp [entryFrame, oF, mkF, argsToLocals, Value.category]; done) | rfl)
set_option maxRecDepth 65536 in
set_option maxHeartbeats 40000000 in
theorem mRATE (l : Launch) (Z : State) (a0 : Array Value) (hw : ∀ d ∈ tables_1, d.before a0 Z = true) (W : oSt Z) (z : Int32) (h0 : Heap) :
    oMeets l Z (⟨"com/example/roomyield/roomyield/NightTallyFirstMonthPinLaw", "rate", "(I)Ljava/math/BigDecimal;"⟩ : MethodName) method_6_code 1 (some (.object "java/math/BigDecimal")) ({ frames := 0, cells := 0, slots := 0, locals := 0 } : Room) #[.int z] h0 (fun a => h0.size ≤ a) (fun v h => ∃ (a : Addr) (x : Int64), v = some (.ref a) ∧ h = h0 ∧ oBD Z h a x ∧ oSm 10 x) := by
  refine oMeets.of pno_19 (fun _ q => q) (fun E _ q => Nat.le_trans E.1 q) (Ls := [.val (.int z)]) (fun m => efo_19 m z) ?_
  intro p e s m below meth c C hs
  refine K_old C (fun hE hle _ => ?_)
  obtain ⟨ta, S1, F1⟩ := W.ten
  obtain ⟨za, S2, F2⟩ := W.zero
  refine K_iloadN C (pc := 0) d19_0 rfl ?_
  refine K_if C (pc := 1) 10 d19_1 (by decide) (by decide) (fun hc1 => ?_) (fun hc1 => ?_)
  · simp only [oC, Classical.not_not] at hc1
    refine K_getS C (pc := 10) (tw365 hw) Via.refl S2 d19_10 ?_
    refine K_areturn C (pc := 13) d19_13 rfl rfl rfl (by decide) (by decide) (fun _ _ => ⟨za, 0, rfl, rfl, F2.ext hE, by decide⟩)
  · simp only [oC, Classical.not_not] at hc1
    refine K_getS C (pc := 4) (tw124 hw) Via.refl S1 d19_4 ?_
    refine K_goto C (pc := 7) 13 d19_7 (by decide) (by decide) ?_
    refine K_areturn C (pc := 13) d19_13 rfl rfl rfl (by decide) (by decide) (fun _ _ => ⟨ta, 10, rfl, rfl, F1.ext hE, by decide⟩)
theorem pno_57 : plainFor (⟨"com/example/roomyield/roomyield/NightTallyFirstMonthPinLaw", "monthIndex", "(Ljava/time/LocalDate;)I"⟩ : MethodName) = true := by first | exact plainFor_of_name (by first | (simp [plainName, overriddenIn]; done) | decide +kernel) | decide +kernel
theorem efo_57 (m : MethodId) (x0 : Addr) : entryFrame m #[.ref x0] 1 = oF m 0 [.val (.ref x0)] [] := by (first | (simp [entryFrame, oF, mkF, argsToLocals, Value.category]; done) | rfl)
set_option maxRecDepth 65536 in
set_option maxHeartbeats 40000000 in
theorem mMIX (l : Launch) (Z : State) (a0 : Array Value) (hw : ∀ d ∈ tables_1, d.before a0 Z = true) (a : Addr) (y m_ d_ : Int32) (h0 : Heap) (F : oLD Z h0 a y m_ d_) :
    oMeets l Z (⟨"com/example/roomyield/roomyield/NightTallyFirstMonthPinLaw", "monthIndex", "(Ljava/time/LocalDate;)I"⟩ : MethodName) method_5_code 1 (some .int) ({ frames := 1, cells := 0, slots := 0, locals := 20 } : Room) #[.ref a] h0 (fun a => h0.size ≤ a) (fun v h => v = some (.int (own_ix y m_)) ∧ h = h0) := by
  refine oMeets.of pno_57 (fun _ q => q) (fun E _ q => Nat.le_trans E.1 q) (Ls := [.val (.ref a)]) (fun m => efo_57 m a) ?_
  intro p e s m below meth c C hs
  refine K_aloadN C (pc := 0) d57_0 rfl (by first | rfl | assumption) ?_
  refine K_virtual C (pc := 1) (mLY l Z a0 hw a y m_ d_ _ F) (F.1) (tw333 hw) (tw143 hw) (oNF (tw145 hw)) (tw145 hw) (tw144 hw) (tw22 hw) (tw146 hw) (by decide) pdo_15 d57_1 (argsL := []) (rest := _) rfl rfl rfl rfl (fun a q r => C.new a (Nat.le_trans q r)) (by decide) (Nat.le_of_ble_eq_true rfl) (by decide) (by decide) ?_
  rintro _ h8 ⟨rfl, hh⟩ -
  replace hh := hh.symm
  subst hh
  dsimp only [Option.toList, List.cons_append, List.nil_append]
  refine K_bipush C (pc := 4) 12 d57_4 (by decide) ?_
  refine K_imul C (pc := 6) d57_6 ?_
  refine K_aloadN C (pc := 7) d57_7 rfl (by first | rfl | assumption) ?_
  refine K_virtual C (pc := 8) (mLM l Z a0 hw a y m_ d_ _ F) (F.1) (tw334 hw) (tw148 hw) (oNF (tw150 hw)) (tw150 hw) (tw149 hw) (tw22 hw) (tw151 hw) (by decide) pdo_15 d57_8 (argsL := []) (rest := _) rfl rfl rfl rfl (fun a q r => C.new a (Nat.le_trans q r)) (by decide) (Nat.le_of_ble_eq_true rfl) (by decide) (by decide) ?_
  rintro _ h8 ⟨rfl, hh⟩ -
  replace hh := hh.symm
  subst hh
  dsimp only [Option.toList, List.cons_append, List.nil_append]
  refine K_iadd C (pc := 11) d57_11 ?_
  refine K_iconst C (pc := 12) 1 d57_12 (by decide) ?_
  refine K_isub C (pc := 13) d57_13 ?_
  refine K_ireturn C (pc := 14) d57_14 (by simp) rfl (by decide) (by decide) (fun _ _ => ⟨by rw [Int32.mul_comm]; rfl, rfl⟩)
theorem pno_16 : plainFor (⟨"com/example/roomyield/roomyield/NightTally", "firstMonth", "()Ljava/util/Optional;"⟩ : MethodName) = true := by first | exact plainFor_of_name (by first | (simp [plainName, overriddenIn]; done) | decide +kernel) | decide +kernel
theorem efo_16 (m : MethodId) (x0 : Addr) : entryFrame m #[.ref x0] 1 = oF m 0 [.val (.ref x0)] [] := by (first | (simp [entryFrame, oF, mkF, argsToLocals, Value.category]; done) | rfl)
set_option maxRecDepth 65536 in
set_option maxHeartbeats 40000000 in
theorem mFIRST (l : Launch) (Z : State) (a0 : Array Value) (hw : ∀ d ∈ tables_1, d.before a0 Z = true) (W : oSt Z) (t ma : Addr) (vs : List Value) (lo B : Nat) (f l_ : Int32) (h0 : Heap) (F : oNT Z h0 lo t ma vs B f l_) (hf0 : ¬ l_ < 0 → 0 ≤ f.toInt) :
    oMeets l Z (⟨"com/example/roomyield/roomyield/NightTally", "firstMonth", "()Ljava/util/Optional;"⟩ : MethodName) prog_5_method_3_code 1 (some (.object "java/util/Optional")) ({ frames := 6, cells := 2, slots := 3, locals := 180 } : Room) #[.ref t] h0 (fun a => h0.size ≤ a) (fun v h => ∃ oa, v = some (.ref oa) ∧ Exa Z h oa "java/util/Optional" ∧ ((l_ < 0 ∧ Fld Z h oa "java/util/Optional" "value" "Ljava/lang/Object;" .null) ∨ (¬ l_ < 0 ∧ ∃ ya, Fld Z h oa "java/util/Optional" "value" "Ljava/lang/Object;" (.ref ya) ∧ oYM Z h ya (f / 12) (f % 12 + 1)))) := by
  refine oMeets.of pno_16 (fun _ q => q) (fun E _ q => Nat.le_trans E.1 q) (Ls := [.val (.ref t)]) (fun m => efo_16 m t) ?_
  intro p e s m below meth c C hs
  refine K_aloadN C (pc := 0) d16_0 rfl (by first | rfl | assumption) ?_
  refine K_getF C (pc := 1) (tw101 hw) Via.refl F.FL d16_1 ?_
  refine K_if C (pc := 4) 13 d16_4 (by decide) (by decide) (fun hc4 => ?_) (fun hc4 => ?_)
  · simp only [oC, Classical.not_not] at hc4
    refine K_aloadN C (pc := 13) d16_13 rfl (by first | rfl | assumption) ?_
    refine K_getF C (pc := 14) (tw99 hw) Via.refl F.FF d16_14 ?_
    refine K_static C (pc := 17) (mMON l Z a0 hw W f _ (hf0 hc4)) (tw161 hw) (tw162 hw) (tw88 hw) (tw163 hw) (by decide) pdo_23 d16_17 (argsL := [_]) (rest := _) rfl rfl rfl rfl (fun a q r => C.new a (Nat.le_trans q r)) (by decide) (Nat.le_of_ble_eq_true rfl) (by decide) (by decide) ?_
    rintro _ h1 ⟨ya, rfl, Y1⟩ -
    dsimp only [Option.toList, List.cons_append, List.nil_append]
    refine K_static C (pc := 20) (mOPO l Z a0 hw ya _) (tw335 hw) (tw336 hw) (tw110 hw) (tw337 hw) (by decide) pdo_34 d16_20 (argsL := [_]) (rest := _) rfl rfl rfl rfl (fun a q r => C.new a (Nat.le_trans q r)) (by decide) (Nat.le_of_ble_eq_true rfl) (by decide) (by decide) ?_
    rintro _ h2 ⟨oa, rfl, X1, F1⟩ hK2
    replace Y1 := Y1.ext hK2.ext
    dsimp only [Option.toList, List.cons_append, List.nil_append]
    refine K_areturn C (pc := 23) d16_23 rfl rfl rfl (by decide) (by decide) (fun _ _ => ⟨oa, rfl, X1, Or.inr ⟨hc4, ya, F1, Y1⟩⟩)
  · simp only [oC, Classical.not_not] at hc4
    refine K_static C (pc := 7) (mOPE l Z a0 hw W _) (tw108 hw) (tw109 hw) (tw110 hw) (tw111 hw) (by decide) pdo_35 d16_7 (argsL := []) (rest := _) rfl rfl rfl rfl (fun a q r => C.new a (Nat.le_trans q r)) (by decide) (Nat.le_of_ble_eq_true rfl) (by decide) (by decide) ?_
    rintro _ h1 ⟨oa, rfl, X1, F1⟩ -
    dsimp only [Option.toList, List.cons_append, List.nil_append]
    refine K_goto C (pc := 10) 23 d16_10 (by decide) (by decide) ?_
    refine K_areturn C (pc := 23) d16_23 rfl rfl rfl (by decide) (by decide) (fun _ _ => ⟨oa, rfl, X1, Or.inl ⟨hc4, F1⟩⟩)
set_option maxRecDepth 65536 in
set_option maxHeartbeats 40000000 in
theorem mOIE0 (l : Launch) (Z : State) (a0 : Array Value) (hw : ∀ d ∈ tables_1, d.before a0 Z = true) (a b : Addr) (h0 : Heap) (F : Fld Z h0 a "java/util/Optional" "value" "Ljava/lang/Object;" (.ref b)) :
    oMeets l Z (⟨"java/util/Optional", "isEmpty", "()Z"⟩ : MethodName) jdk_32_method_7_code 1 (some .boolean) ({ frames := 0, cells := 0, slots := 0, locals := 0 } : Room) #[.ref a] h0 (fun a => h0.size ≤ a) (fun v h => v = some (.int 0) ∧ h = h0) := by
  refine oMeets.of pno_18 (fun _ q => q) (fun E _ q => Nat.le_trans E.1 q) (Ls := [.val (.ref a)]) (fun m => efo_18 m a) ?_
  intro p e s m below meth c C hs
  refine K_aloadN C (pc := 0) d18_0 rfl (by first | rfl | assumption) ?_
  refine K_getF C (pc := 1) (tw118 hw) Via.refl F d18_1 ?_
  refine K_ifnonnull_ref C (pc := 4) 11 d18_4 (by decide) (by decide) ?_
  refine K_iconst C (pc := 11) 0 d18_11 (by decide) ?_
  refine K_ireturn C (pc := 12) d18_12 (by simp) (z' := 0) (by decide) (by decide) (by decide) (fun _ _ => ⟨rfl, rfl⟩)
/-- the tally's first and last month, and the month that is expected -/
def own_inv (f l_ e : Int32) : Prop := (e = -1 ∧ l_ = -1 ∧ f = 2147483647) ∨ (0 ≤ e.toInt ∧ 0 ≤ l_.toInt ∧ f = e)
theorem own_inv1 {f l_ e i r : Int32} (h : own_inv f l_ e) (hi : 0 ≤ i.toInt) (hr : 0 ≤ r.toInt) : own_inv (own_mn f i) (own_max l_ r) (if e < 0 then i else own_mn e i) := by
  have hm : 0 ≤ (own_max l_ r).toInt := by
    unfold own_max
    split
    · exact hr
    · rename_i q; rw [Int32.lt_iff_toInt_lt] at q
      rcases h with ⟨-, rfl, -⟩ | ⟨-, h2, -⟩
      · rw [show (-1 : Int32).toInt = -1 from rfl] at q; omega
      · exact h2
  rcases h with ⟨rfl, rfl, rfl⟩ | ⟨h1, h2, rfl⟩
  · refine Or.inr ⟨?_, hm, ?_⟩
    · rw [if_pos (by decide)]; exact hi
    · rw [if_pos (by decide)]
      apply Int32.toInt_inj.mp
      have := Int32.toInt_lt i
      rw [own_mnI, show (2147483647 : Int32).toInt = 2147483647 from rfl]; omega
  · have hn : ¬ f < 0 := by rw [Int32.lt_iff_toInt_lt, show (0 : Int32).toInt = 0 from rfl]; omega
    refine Or.inr ⟨?_, hm, ?_⟩
    · rw [if_neg hn, own_mnI]; omega
    · rw [if_neg hn]
theorem own_inv0 {f l_ e : Int32} (h : own_inv f l_ e) : (e < 0 ↔ l_ < 0) ∧ (¬ l_ < 0 → 0 ≤ f.toInt ∧ f = e) := by
  rcases h with ⟨rfl, rfl, rfl⟩ | ⟨h1, h2, rfl⟩
  · exact ⟨Iff.rfl, fun q => absurd (by decide) q⟩
  · refine ⟨?_, fun _ => ⟨h1, rfl⟩⟩
    rw [Int32.lt_iff_toInt_lt, Int32.lt_iff_toInt_lt, show (0 : Int32).toInt = 0 from rfl]; omega
theorem pno_0 : plainFor x = true := by first | exact plainFor_of_name (by first | (simp [plainName, overriddenIn]; done) | decide +kernel) | decide +kernel
theorem efo_0 (m : MethodId) (x0 : Int32) (x1 : Int32) (x2 : Int32) (x3 : Int32) (x4 : Int32) : entryFrame m #[.int x0, .int x1, .int x2, .int x3, .int x4] maxLocals = oF m 0 [.val (.int x0), .val (.int x1), .val (.int x2), .val (.int x3), .val (.int x4), .unset, .unset, .unset, .unset, .unset, .unset, .unset, .unset, .unset, .unset, .unset, .unset, .unset, .unset, .unset, .unset, .unset, .unset, .unset, .unset, .unset, .unset, .unset, .unset, .unset, .unset] [] := by (first | (simp [entryFrame, oF, mkF, argsToLocals, Value.category, maxLocals]; done) | rfl)
set_option maxRecDepth 65536 in
set_option maxHeartbeats 40000000 in
theorem m0 (l : Launch) (Z : State) (a0 : Array Value) (hw : ∀ d ∈ tables_1, d.before a0 Z = true) (W : oSt Z) (p1 p2 p3 p4 p5 : Int32) (h0 : Heap) :
    oMeets l Z x code maxLocals ret room_1 #[.int p1, .int p2, .int p3, .int p4, .int p5] h0 (fun a => h0.size ≤ a) (fun v _ => v = some (.int 1)) := by
  refine oMeets.of pno_0 (fun _ q => q) (fun E _ q => Nat.le_trans E.1 q) (Ls := [.val (.int p1), .val (.int p2), .val (.int p3), .val (.int p4), .val (.int p5), .unset, .unset, .unset, .unset, .unset, .unset, .unset, .unset, .unset, .unset, .unset, .unset, .unset, .unset, .unset, .unset, .unset, .unset, .unset, .unset, .unset, .unset, .unset, .unset, .unset, .unset]) (fun m => efo_0 m p1 p2 p3 p4 p5) ?_
  intro p e s m below meth c C hs
  refine K_iloadN C (pc := 0) at_0 rfl ?_
  refine K_static C (pc := 1) (mSTA l Z a0 hw p1 _) (tw0 hw) (tw1 hw) (tw2 hw) (tw3 hw) (by decide) pdo_31 at_1 (argsL := [_]) (rest := _) rfl rfl rfl rfl (fun a q r => C.new a (Nat.le_trans q r)) (by decide) (Nat.le_of_ble_eq_true rfl) (by decide) (by decide) ?_
  rintro _ h8 ⟨s1, rfl, hh, hs1a, hs1b⟩ -
  replace hh := hh.symm
  subst hh
  dsimp only [Option.toList, List.cons_append, List.nil_append]
  refine K_lstore C (pc := 4) (Ls' := [_, _, _, _, _, _, _, _, _, _, _, _, _, _, _, _, _, _, _, _, _, _, _, _, _, _, _, _, _, _, _]) at_4 rfl ?_
  refine K_iloadN C (pc := 6) at_6 rfl ?_
  refine K_iloadN C (pc := 7) at_7 rfl ?_
  refine K_iload C (pc := 8) at_8 rfl ?_
  refine K_iconst C (pc := 10) 3 at_10 (by decide) ?_
  refine K_iand C (pc := 11) at_11 ?_
  refine K_static C (pc := 12) (mOTH l Z a0 hw p1 p2 (p5 &&& 3) _) (tw6 hw) (tw7 hw) (tw2 hw) (tw8 hw) (by decide) pdo_39 at_12 (argsL := [_, _, _]) (rest := _) rfl rfl rfl rfl (fun a q r => C.new a (Nat.le_trans q r)) (by decide) (Nat.le_of_ble_eq_true rfl) (by decide) (by decide) ?_
  rintro _ h8 ⟨o1, rfl, hh, ho1a, ho1b⟩ -
  replace hh := hh.symm
  subst hh
  dsimp only [Option.toList, List.cons_append, List.nil_append]
  refine K_lstore C (pc := 15) (Ls' := [_, _, _, _, _, _, _, _, _, _, _, _, _, _, _, _, _, _, _, _, _, _, _, _, _, _, _, _, _, _, _]) at_15 rfl ?_
  refine K_lload C (pc := 17) at_17 rfl ?_
  refine K_lload C (pc := 19) at_19 rfl ?_
  refine K_static C (pc := 21) (mMINL l Z a0 hw s1 o1 _) (tw9 hw) (tw10 hw) (tw11 hw) (tw12 hw) (by decide) pdo_4 at_21 (argsL := [_, _]) (rest := _) rfl rfl rfl rfl (fun a q r => C.new a (Nat.le_trans q r)) (by decide) (Nat.le_of_ble_eq_true rfl) (by decide) (by decide) ?_
  rintro _ h8 ⟨a1, rfl, hh, ha1⟩ -
  replace hh := hh.symm
  subst hh
  dsimp only [Option.toList, List.cons_append, List.nil_append]
  refine K_lstore C (pc := 24) (Ls' := [_, _, _, _, _, _, _, _, _, _, _, _, _, _, _, _, _, _, _, _, _, _, _, _, _, _, _, _, _, _, _]) at_24 rfl ?_
  refine K_lload C (pc := 26) at_26 rfl ?_
  refine K_lload C (pc := 28) at_28 rfl ?_
  refine K_static C (pc := 30) (mMAXL l Z a0 hw s1 o1 _) (tw13 hw) (tw14 hw) (tw11 hw) (tw15 hw) (by decide) pdo_4 at_30 (argsL := [_, _]) (rest := _) rfl rfl rfl rfl (fun a q r => C.new a (Nat.le_trans q r)) (by decide) (Nat.le_of_ble_eq_true rfl) (by decide) (by decide) ?_
  rintro _ h8 ⟨d1, rfl, hh, hd1⟩ -
  replace hh := hh.symm
  subst hh
  dsimp only [Option.toList, List.cons_append, List.nil_append]
  refine K_lstore C (pc := 33) (Ls' := [_, _, _, _, _, _, _, _, _, _, _, _, _, _, _, _, _, _, _, _, _, _, _, _, _, _, _, _, _, _, _]) at_33 rfl ?_
  refine K_iloadN C (pc := 35) at_35 rfl ?_
  refine K_static C (pc := 36) (mSTA l Z a0 hw p3 _) (tw0 hw) (tw1 hw) (tw2 hw) (tw3 hw) (by decide) pdo_31 at_36 (argsL := [_]) (rest := _) rfl rfl rfl rfl (fun a q r => C.new a (Nat.le_trans q r)) (by decide) (Nat.le_of_ble_eq_true rfl) (by decide) (by decide) ?_
  rintro _ h8 ⟨s2, rfl, hh, hs2a, hs2b⟩ -
  replace hh := hh.symm
  subst hh
  dsimp only [Option.toList, List.cons_append, List.nil_append]
  refine K_lstore C (pc := 39) (Ls' := [_, _, _, _, _, _, _, _, _, _, _, _, _, _, _, _, _, _, _, _, _, _, _, _, _, _, _, _, _, _, _]) at_39 rfl ?_
  refine K_iloadN C (pc := 41) at_41 rfl ?_
  refine K_iloadN C (pc := 42) at_42 rfl ?_
  refine K_iload C (pc := 43) at_43 rfl ?_
  refine K_iconst C (pc := 45) 4 at_45 (by decide) ?_
  refine K_ishr C (pc := 46) at_46 ?_
  refine K_iconst C (pc := 47) 3 at_47 (by decide) ?_
  refine K_iand C (pc := 48) at_48 ?_
  refine K_static C (pc := 49) (mOTH l Z a0 hw p3 p4 (p5 >>> ((4 : Int32) &&& 31) &&& 3) _) (tw6 hw) (tw7 hw) (tw2 hw) (tw8 hw) (by decide) pdo_39 at_49 (argsL := [_, _, _]) (rest := _) rfl rfl rfl rfl (fun a q r => C.new a (Nat.le_trans q r)) (by decide) (Nat.le_of_ble_eq_true rfl) (by decide) (by decide) ?_
  rintro _ h8 ⟨o2, rfl, hh, ho2a, ho2b⟩ -
  replace hh := hh.symm
  subst hh
  dsimp only [Option.toList, List.cons_append, List.nil_append]
  refine K_lstore C (pc := 52) (Ls' := [_, _, _, _, _, _, _, _, _, _, _, _, _, _, _, _, _, _, _, _, _, _, _, _, _, _, _, _, _, _, _]) at_52 rfl ?_
  refine K_lload C (pc := 54) at_54 rfl ?_
  refine K_lload C (pc := 56) at_56 rfl ?_
  refine K_static C (pc := 58) (mMINL l Z a0 hw s2 o2 _) (tw9 hw) (tw10 hw) (tw11 hw) (tw12 hw) (by decide) pdo_4 at_58 (argsL := [_, _]) (rest := _) rfl rfl rfl rfl (fun a q r => C.new a (Nat.le_trans q r)) (by decide) (Nat.le_of_ble_eq_true rfl) (by decide) (by decide) ?_
  rintro _ h8 ⟨a2, rfl, hh, ha2⟩ -
  replace hh := hh.symm
  subst hh
  dsimp only [Option.toList, List.cons_append, List.nil_append]
  refine K_lstore C (pc := 61) (Ls' := [_, _, _, _, _, _, _, _, _, _, _, _, _, _, _, _, _, _, _, _, _, _, _, _, _, _, _, _, _, _, _]) at_61 rfl ?_
  refine K_lload C (pc := 63) at_63 rfl ?_
  refine K_lload C (pc := 65) at_65 rfl ?_
  refine K_static C (pc := 67) (mMAXL l Z a0 hw s2 o2 _) (tw13 hw) (tw14 hw) (tw11 hw) (tw15 hw) (by decide) pdo_4 at_67 (argsL := [_, _]) (rest := _) rfl rfl rfl rfl (fun a q r => C.new a (Nat.le_trans q r)) (by decide) (Nat.le_of_ble_eq_true rfl) (by decide) (by decide) ?_
  rintro _ h8 ⟨d2, rfl, hh, hd2⟩ -
  replace hh := hh.symm
  subst hh
  dsimp only [Option.toList, List.cons_append, List.nil_append]
  refine K_lstore C (pc := 70) (Ls' := [_, _, _, _, _, _, _, _, _, _, _, _, _, _, _, _, _, _, _, _, _, _, _, _, _, _, _, _, _, _, _]) at_70 rfl ?_
  refine K_lload C (pc := 72) at_72 rfl ?_
  refine K_static C (pc := 74) (mDATE l Z a0 hw W a1 _ (by omega)) (tw16 hw) (tw17 hw) (tw2 hw) (tw18 hw) (by decide) pdo_33 at_74 (argsL := [_]) (rest := _) rfl rfl rfl rfl (fun a q r => C.new a (Nat.le_trans q r)) (by decide) (Nat.le_of_ble_eq_true rfl) (by decide) (by decide) ?_
  rintro _ h1 ⟨u1, y1, m1, w1, rfl, Lu1, D1⟩ hK1
  dsimp only [Option.toList, List.cons_append, List.nil_append]
  refine K_astore C (pc := 77) (Ls' := [_, _, _, _, _, _, _, _, _, _, _, _, _, _, _, _, _, _, _, _, _, _, _, _, _, _, _, _, _, _, _]) at_77 rfl rfl ?_
  refine K_lload C (pc := 79) at_79 rfl ?_
  refine K_static C (pc := 81) (mDATE l Z a0 hw W d1 _ (by omega)) (tw16 hw) (tw17 hw) (tw2 hw) (tw18 hw) (by decide) pdo_33 at_81 (argsL := [_]) (rest := _) rfl rfl rfl rfl (fun a q r => C.new a (Nat.le_trans q r)) (by decide) (Nat.le_of_ble_eq_true rfl) (by decide) (by decide) ?_
  rintro _ h2 ⟨v1, z1, n1, x1, rfl, Lv1, D2⟩ hK2
  replace Lu1 := Lu1.ext hK2.ext
  dsimp only [Option.toList, List.cons_append, List.nil_append]
  refine K_astore C (pc := 84) (Ls' := [_, _, _, _, _, _, _, _, _, _, _, _, _, _, _, _, _, _, _, _, _, _, _, _, _, _, _, _, _, _, _]) at_84 rfl rfl ?_
  refine K_lload C (pc := 86) at_86 rfl ?_
  refine K_static C (pc := 88) (mDATE l Z a0 hw W a2 _ (by omega)) (tw16 hw) (tw17 hw) (tw2 hw) (tw18 hw) (by decide) pdo_33 at_88 (argsL := [_]) (rest := _) rfl rfl rfl rfl (fun a q r => C.new a (Nat.le_trans q r)) (by decide) (Nat.le_of_ble_eq_true rfl) (by decide) (by decide) ?_
  rintro _ h3 ⟨u2, y2, m2, w2, rfl, Lu2, D3⟩ hK3
  replace Lu1 := Lu1.ext hK3.ext
  replace Lv1 := Lv1.ext hK3.ext
  dsimp only [Option.toList, List.cons_append, List.nil_append]
  refine K_astore C (pc := 91) (Ls' := [_, _, _, _, _, _, _, _, _, _, _, _, _, _, _, _, _, _, _, _, _, _, _, _, _, _, _, _, _, _, _]) at_91 rfl rfl ?_
  refine K_lload C (pc := 93) at_93 rfl ?_
  refine K_static C (pc := 95) (mDATE l Z a0 hw W d2 _ (by omega)) (tw16 hw) (tw17 hw) (tw2 hw) (tw18 hw) (by decide) pdo_33 at_95 (argsL := [_]) (rest := _) rfl rfl rfl rfl (fun a q r => C.new a (Nat.le_trans q r)) (by decide) (Nat.le_of_ble_eq_true rfl) (by decide) (by decide) ?_
  rintro _ h4 ⟨v2, z2, n2, x2, rfl, Lv2, D4⟩ hK4
  replace Lu1 := Lu1.ext hK4.ext
  replace Lv1 := Lv1.ext hK4.ext
  replace Lu2 := Lu2.ext hK4.ext
  dsimp only [Option.toList, List.cons_append, List.nil_append]
  refine K_astore C (pc := 98) (Ls' := [_, _, _, _, _, _, _, _, _, _, _, _, _, _, _, _, _, _, _, _, _, _, _, _, _, _, _, _, _, _, _]) at_98 rfl rfl ?_
  have hlo : Z.heap.size ≤ h0.size := C.young h0.size (Nat.le_refl _)
  have hk1 : own_key y1 m1 w1 ≤ own_key z1 n1 x1 := by
    rcases Int.lt_or_le a1.toInt d1.toInt with z | z
    · exact Int.le_of_lt (own_dlt D1 D2 (by omega))
    · have e : a1.toInt = d1.toInt := by omega
      rw [e] at D1
      have := own_deq D1 D2; omega
  have hk2 : own_key y2 m2 w2 ≤ own_key z2 n2 x2 := by
    rcases Int.lt_or_le a2.toInt d2.toInt with z | z
    · exact Int.le_of_lt (own_dlt D3 D4 (by omega))
    · have e : a2.toInt = d2.toInt := by omega
      rw [e] at D3
      have := own_deq D3 D4; omega
  have J253 : ∀ (h : Heap) (vs : List Value) (B : Nat) (f l_ e2 b1 b2 : Int32) (t ma : Addr) (s29 : Slot), own_inv f l_ e2 → oNT Z h h0.size t ma vs B f l_ → (s29 = .unset ∨ ∃ w, s29 = .val w ∧ w.category = 1) → oWP false p l e room_1 s m #[.int p1, .int p2, .int p3, .int p4, .int p5] below meth c (fun a => h0.size ≤ a) (fun v h _ => ((fun v _ => v = some (.int 1))) v h) oT h 76 120491 (oF m 253 [.val (.int p1), .val (.int p2), .val (.int p3), .val (.int p4), .val (.int p5), .val (.long s1), .second, .val (.long o1), .second, .val (.long a1), .second, .val (.long d1), .second, .val (.long s2), .second, .val (.long o2), .second, .val (.long a2), .second, .val (.long d2), .second, .val (.ref u1), .val (.ref v1), .val (.ref u2), .val (.ref v2), .val (.int b1), .val (.int b2), .val (.ref t), .val (.int e2), s29, .unset] []) := by
    intro h vs B f l_ e2 b1 b2 t ma s29 hI F h29
    have hI0 := own_inv0 hI
    refine K_aload C (pc := 253) at_253 rfl (by first | rfl | assumption) ?_
    refine K_virtual C (pc := 255) (mFIRST l Z a0 hw W t ma vs h0.size B f l_ _ F (fun q => (hI0.2 q).1)) (F.X) (tw103 hw) (tw104 hw) (oNF (tw106 hw)) (tw106 hw) (tw105 hw) (tw88 hw) (tw107 hw) (by decide) pdo_35 at_255 (argsL := []) (rest := _) rfl rfl rfl rfl (fun a q r => C.new a (Nat.le_trans q r)) (by decide) (Nat.le_of_ble_eq_true rfl) (by decide) (by decide) ?_
    rintro _ h1 ⟨oa, rfl, X1, G1⟩ -
    dsimp only [Option.toList, List.cons_append, List.nil_append]
    refine K_astoreV C (pc := 258) (Ls' := [_, _, _, _, _, _, _, _, _, _, _, _, _, _, _, _, _, _, _, _, _, _, _, _, _, _, _, _, _, _, _]) _ at_258 (by first | rfl | assumption) rfl h29 rfl ?_
    refine K_iload C (pc := 260) at_260 rfl ?_
    refine K_if C (pc := 262) 271 at_262 (by decide) (by decide) (fun hc262 => ?_) (fun hc262 => ?_)
    · simp only [oC, Classical.not_not] at hc262
      obtain ⟨hl0, ya, Fv, Y⟩ := G1.resolve_left (fun z => hc262 (hI0.1.mpr z.1))
      obtain ⟨hf0, rfl⟩ := hI0.2 hl0
      refine K_aload C (pc := 271) at_271 rfl (by first | rfl | assumption) ?_
      refine K_virtual C (pc := 273) (mOIE0 l Z a0 hw oa ya _ Fv) (X1) (tw113 hw) (tw114 hw) (oNF (tw116 hw)) (tw116 hw) (tw115 hw) (tw110 hw) (tw117 hw) (by decide) pdo_18 at_273 (argsL := []) (rest := _) rfl rfl rfl rfl (fun a q r => C.new a (Nat.le_trans q r)) (by decide) (Nat.le_of_ble_eq_true rfl) (by decide) (by decide) ?_
      rintro _ h8 ⟨rfl, hh⟩ -
      replace hh := hh.symm
      subst hh
      dsimp only [Option.toList, List.cons_append, List.nil_append]
      refine K_if C (pc := 276) 281 at_276 (by decide) (by decide) (fun hc276 => ?_) (fun hc276 => ?_)
      · simp only [oC, Classical.not_not] at hc276
        refine K_aload C (pc := 281) at_281 rfl (by first | rfl | assumption) ?_
        refine K_virtual C (pc := 283) (mOGE l Z a0 hw oa ya _ Fv) (X1) (tw349 hw) (tw350 hw) (oNF (tw352 hw)) (tw352 hw) (tw351 hw) (tw110 hw) (tw353 hw) (by decide) pdo_36 at_283 (argsL := []) (rest := _) rfl rfl rfl rfl (fun a q r => C.new a (Nat.le_trans q r)) (by decide) (Nat.le_of_ble_eq_true rfl) (by decide) (by decide) ?_
        rintro _ h8 ⟨rfl, hh⟩ -
        replace hh := hh.symm
        subst hh
        dsimp only [Option.toList, List.cons_append, List.nil_append]
        refine K_castY C (pc := 286) (tw354 hw) (Ins.self Y.1) at_286 ?_
        refine K_astore C (pc := 289) (Ls' := [_, _, _, _, _, _, _, _, _, _, _, _, _, _, _, _, _, _, _, _, _, _, _, _, _, _, _, _, _, _, _]) at_289 rfl rfl ?_
        refine K_aload C (pc := 291) at_291 rfl (by first | rfl | assumption) ?_
        refine K_virtual C (pc := 293) (mYY l Z a0 hw ya (f / 12) (f % 12 + 1) _ Y) (Y.1) (tw355 hw) (tw356 hw) (oNF (tw358 hw)) (tw358 hw) (tw357 hw) (tw166 hw) (tw359 hw) (by decide) pdo_15 at_293 (argsL := []) (rest := _) rfl rfl rfl rfl (fun a q r => C.new a (Nat.le_trans q r)) (by decide) (Nat.le_of_ble_eq_true rfl) (by decide) (by decide) ?_
        rintro _ h8 ⟨rfl, hh⟩ -
        replace hh := hh.symm
        subst hh
        dsimp only [Option.toList, List.cons_append, List.nil_append]
        refine K_bipush C (pc := 296) 12 at_296 (by decide) ?_
        refine K_imul C (pc := 298) at_298 ?_
        refine K_aload C (pc := 299) at_299 rfl (by first | rfl | assumption) ?_
        refine K_virtual C (pc := 301) (mYMV l Z a0 hw ya (f / 12) (f % 12 + 1) _ Y) (Y.1) (tw360 hw) (tw361 hw) (oNF (tw363 hw)) (tw363 hw) (tw362 hw) (tw166 hw) (tw364 hw) (by decide) pdo_15 at_301 (argsL := []) (rest := _) rfl rfl rfl rfl (fun a q r => C.new a (Nat.le_trans q r)) (by decide) (Nat.le_of_ble_eq_true rfl) (by decide) (by decide) ?_
        rintro _ h8 ⟨rfl, hh⟩ -
        replace hh := hh.symm
        subst hh
        dsimp only [Option.toList, List.cons_append, List.nil_append]
        refine K_iadd C (pc := 304) at_304 ?_
        refine K_iconst C (pc := 305) 1 at_305 (by decide) ?_
        refine K_isub C (pc := 306) at_306 ?_
        refine K_iload C (pc := 307) at_307 rfl ?_
        refine K_icmp C (pc := 309) 316 at_309 (by decide) (by decide) (fun hc309 => ?_) (fun hc309 => ?_)
        · simp only [oC, Classical.not_not] at hc309
          exact absurd (own_back hf0) hc309
        · simp only [oC, Classical.not_not] at hc309
          refine K_iconst C (pc := 312) 1 at_312 (by decide) ?_
          refine K_goto C (pc := 313) 317 at_313 (by decide) (by decide) ?_
          refine K_ireturn C (pc := 317) at_317 (by simp) (by first | rfl | decide) (by decide) (by decide) (fun _ _ => rfl)
      · simp only [oC, Classical.not_not] at hc276
        exact False.elim (hc276 (by simp))
    · simp only [oC, Classical.not_not] at hc262
      have Fe := (G1.resolve_right (fun z => z.1 (hI0.1.mp hc262))).2
      refine K_aload C (pc := 265) at_265 rfl (by first | rfl | assumption) ?_
      refine K_virtual C (pc := 267) (mOIE l Z a0 hw oa _ Fe) (X1) (tw113 hw) (tw114 hw) (oNF (tw116 hw)) (tw116 hw) (tw115 hw) (tw110 hw) (tw117 hw) (by decide) pdo_18 at_267 (argsL := []) (rest := _) rfl rfl rfl rfl (fun a q r => C.new a (Nat.le_trans q r)) (by decide) (Nat.le_of_ble_eq_true rfl) (by decide) (by decide) ?_
      rintro _ h8 ⟨rfl, hh⟩ -
      replace hh := hh.symm
      subst hh
      dsimp only [Option.toList, List.cons_append, List.nil_append]
      refine K_ireturn C (pc := 270) at_270 (by simp) (by first | rfl | decide) (by decide) (by decide) (fun _ _ => rfl)
  have J214 : ∀ (h : Heap) (vs : List Value) (B : Nat) (f l_ e1 e2 b1 b2 : Int32) (t ma : Addr), (((¬ b2 = 0 ∧ a2.toInt < d2.toInt) ∧ e2 = (if e1 < 0 then (own_ix y2 m2) else own_mn e1 (own_ix y2 m2))) ∨ (¬ (¬ b2 = 0 ∧ a2.toInt < d2.toInt) ∧ e2 = e1)) → own_inv f l_ e2 → oNT Z h h0.size t ma vs B f l_ → oLD Z h u2 y2 m2 w2 → oWP false p l e room_1 s m #[.int p1, .int p2, .int p3, .int p4, .int p5] below meth c (fun a => h0.size ≤ a) (fun v h _ => ((fun v _ => v = some (.int 1))) v h) oT h 76 120491 (oF m 214 [.val (.int p1), .val (.int p2), .val (.int p3), .val (.int p4), .val (.int p5), .val (.long s1), .second, .val (.long o1), .second, .val (.long a1), .second, .val (.long d1), .second, .val (.long s2), .second, .val (.long o2), .second, .val (.long a2), .second, .val (.long d2), .second, .val (.ref u1), .val (.ref v1), .val (.ref u2), .val (.ref v2), .val (.int b1), .val (.int b2), .val (.ref t), .val (.int e1), .unset, .unset] []) := by
    intro h vs B f l_ e1 e2 b1 b2 t ma hH hI F L3
    refine K_iload C (pc := 214) at_214 rfl ?_
    refine K_if C (pc := 216) 253 at_216 (by decide) (by decide) (fun hc216 => ?_) (fun hc216 => ?_)
    · simp only [oC, Classical.not_not] at hc216
      obtain ⟨-, rfl⟩ := hH.resolve_left (fun z => z.1.1 hc216)
      exact J253 _ vs B f l_ _ b1 b2 t ma _ hI F (Or.inl rfl)
    · simp only [oC, Classical.not_not] at hc216
      refine K_lload C (pc := 219) at_219 rfl ?_
      refine K_lload C (pc := 221) at_221 rfl ?_
      refine K_lcmp C (pc := 223) at_223 ?_
      refine K_if C (pc := 224) 253 at_224 (by decide) (by decide) (fun hc224 => ?_) (fun hc224 => ?_)
      · simp only [oC, Classical.not_not] at hc224
        rw [own_clt, Int64.lt_iff_toInt_lt] at hc224
        obtain ⟨-, rfl⟩ := hH.resolve_left (fun z => hc224 z.1.2)
        exact J253 _ vs B f l_ _ b1 b2 t ma _ hI F (Or.inl rfl)
      · simp only [oC, Classical.not_not] at hc224
        refine K_aload C (pc := 227) at_227 rfl (by first | rfl | assumption) ?_
        refine K_static C (pc := 229) (mMIX l Z a0 hw u2 y2 m2 w2 _ L3) (tw330 hw) (tw331 hw) (tw2 hw) (tw332 hw) (by decide) pdo_13 at_229 (argsL := [_]) (rest := _) rfl rfl rfl rfl (fun a q r => C.new a (Nat.le_trans q r)) (by decide) (Nat.le_of_ble_eq_true rfl) (by decide) (by decide) ?_
        rintro _ h8 ⟨rfl, hh⟩ -
        replace hh := hh.symm
        subst hh
        dsimp only [Option.toList, List.cons_append, List.nil_append]
        refine K_istore C (pc := 232) (Ls' := [_, _, _, _, _, _, _, _, _, _, _, _, _, _, _, _, _, _, _, _, _, _, _, _, _, _, _, _, _, _, _]) at_232 rfl ?_
        refine K_iload C (pc := 234) at_234 rfl ?_
        refine K_if C (pc := 236) 244 at_236 (by decide) (by decide) (fun hc236 => ?_) (fun hc236 => ?_)
        · simp only [oC, Classical.not_not] at hc236
          refine K_iload C (pc := 244) at_244 rfl ?_
          refine K_iload C (pc := 246) at_246 rfl ?_
          refine K_static C (pc := 248) (mMIN l Z a0 hw e1 (own_ix y2 m2) _) (tw387 hw) (tw325 hw) (tw11 hw) (tw326 hw) (by decide) pdo_26 at_248 (argsL := [_, _]) (rest := _) rfl rfl rfl rfl (fun a q r => C.new a (Nat.le_trans q r)) (by decide) (Nat.le_of_ble_eq_true rfl) (by decide) (by decide) ?_
          rintro _ h8 ⟨rfl, hh⟩ -
          replace hh := hh.symm
          subst hh
          dsimp only [Option.toList, List.cons_append, List.nil_append]
          refine K_istore C (pc := 251) (Ls' := [_, _, _, _, _, _, _, _, _, _, _, _, _, _, _, _, _, _, _, _, _, _, _, _, _, _, _, _, _, _, _]) at_251 rfl ?_
          rw [own_clt, Int64.lt_iff_toInt_lt] at hc224
          obtain ⟨-, he⟩ := hH.resolve_right (fun z => z.1 ⟨hc216, hc224⟩)
          rw [if_neg hc236] at he
          rw [← he]
          exact J253 _ vs B f l_ _ b1 b2 t ma _ hI F (Or.inr ⟨_, rfl, rfl⟩)
        · simp only [oC, Classical.not_not] at hc236
          refine K_iload C (pc := 239) at_239 rfl ?_
          refine K_goto C (pc := 241) 251 at_241 (by decide) (by decide) ?_
          refine K_istore C (pc := 251) (Ls' := [_, _, _, _, _, _, _, _, _, _, _, _, _, _, _, _, _, _, _, _, _, _, _, _, _, _, _, _, _, _, _]) at_251 rfl ?_
          rw [own_clt, Int64.lt_iff_toInt_lt] at hc224
          obtain ⟨-, he⟩ := hH.resolve_right (fun z => z.1 ⟨hc216, hc224⟩)
          rw [if_pos hc236] at he
          rw [← he]
          exact J253 _ vs B f l_ _ b1 b2 t ma _ hI F (Or.inr ⟨_, rfl, rfl⟩)
  have J191 : ∀ (h : Heap) (vs : List Value) (B : Nat) (f l_ e1 e2 b1 b2 : Int32) (t ma : Addr), (((¬ b1 = 0 ∧ a1.toInt < d1.toInt) ∧ e1 = (own_ix y1 m1)) ∨ (¬ (¬ b1 = 0 ∧ a1.toInt < d1.toInt) ∧ e1 = -1)) → (((¬ b2 = 0 ∧ a2.toInt < d2.toInt) ∧ e2 = (if e1 < 0 then (own_ix y2 m2) else own_mn e1 (own_ix y2 m2))) ∨ (¬ (¬ b2 = 0 ∧ a2.toInt < d2.toInt) ∧ e2 = e1)) → own_inv f l_ e2 → oNT Z h h0.size t ma vs B f l_ → oLD Z h u1 y1 m1 w1 → oLD Z h u2 y2 m2 w2 → oWP false p l e room_1 s m #[.int p1, .int p2, .int p3, .int p4, .int p5] below meth c (fun a => h0.size ≤ a) (fun v h _ => ((fun v _ => v = some (.int 1))) v h) oT h 76 120491 (oF m 191 [.val (.int p1), .val (.int p2), .val (.int p3), .val (.int p4), .val (.int p5), .val (.long s1), .second, .val (.long o1), .second, .val (.long a1), .second, .val (.long d1), .second, .val (.long s2), .second, .val (.long o2), .second, .val (.long a2), .second, .val (.long d2), .second, .val (.ref u1), .val (.ref v1), .val (.ref u2), .val (.ref v2), .val (.int b1), .val (.int b2), .val (.ref t), .unset, .unset, .unset] []) := by
    intro h vs B f l_ e1 e2 b1 b2 t ma hG hH hI F L1 L3
    refine K_iconst C (pc := 191) (-1) at_191 (by decide) ?_
    refine K_istore C (pc := 192) (Ls' := [_, _, _, _, _, _, _, _, _, _, _, _, _, _, _, _, _, _, _, _, _, _, _, _, _, _, _, _, _, _, _]) at_192 rfl ?_
    refine K_iload C (pc := 194) at_194 rfl ?_
    refine K_if C (pc := 196) 214 at_196 (by decide) (by decide) (fun hc196 => ?_) (fun hc196 => ?_)
    · simp only [oC, Classical.not_not] at hc196
      obtain ⟨-, rfl⟩ := hG.resolve_left (fun z => z.1.1 hc196)
      exact J214 _ vs B f l_ _ e2 b1 b2 t ma hH hI F L3
    · simp only [oC, Classical.not_not] at hc196
      refine K_lload C (pc := 199) at_199 rfl ?_
      refine K_lload C (pc := 201) at_201 rfl ?_
      refine K_lcmp C (pc := 203) at_203 ?_
      refine K_if C (pc := 204) 214 at_204 (by decide) (by decide) (fun hc204 => ?_) (fun hc204 => ?_)
      · simp only [oC, Classical.not_not] at hc204
        rw [own_clt, Int64.lt_iff_toInt_lt] at hc204
        obtain ⟨-, rfl⟩ := hG.resolve_left (fun z => hc204 z.1.2)
        exact J214 _ vs B f l_ _ e2 b1 b2 t ma hH hI F L3
      · simp only [oC, Classical.not_not] at hc204
        refine K_aload C (pc := 207) at_207 rfl (by first | rfl | assumption) ?_
        refine K_static C (pc := 209) (mMIX l Z a0 hw u1 y1 m1 w1 _ L1) (tw330 hw) (tw331 hw) (tw2 hw) (tw332 hw) (by decide) pdo_13 at_209 (argsL := [_]) (rest := _) rfl rfl rfl rfl (fun a q r => C.new a (Nat.le_trans q r)) (by decide) (Nat.le_of_ble_eq_true rfl) (by decide) (by decide) ?_
        rintro _ h8 ⟨rfl, hh⟩ -
        replace hh := hh.symm
        subst hh
        dsimp only [Option.toList, List.cons_append, List.nil_append]
        refine K_istore C (pc := 212) (Ls' := [_, _, _, _, _, _, _, _, _, _, _, _, _, _, _, _, _, _, _, _, _, _, _, _, _, _, _, _, _, _, _]) at_212 rfl ?_
        rw [own_clt, Int64.lt_iff_toInt_lt] at hc204
        obtain ⟨-, rfl⟩ := hG.resolve_right (fun z => z.1 ⟨hc196, hc204⟩)
        exact J214 _ vs B f l_ _ e2 b1 b2 t ma hH hI F L3
  have J164 : ∀ (h : Heap) (vs : List Value) (B : Nat) (f l_ e1 b1 b2 : Int32) (t ma : Addr), B ≤ 1600 → (((¬ b1 = 0 ∧ a1.toInt < d1.toInt) ∧ e1 = (own_ix y1 m1)) ∨ (¬ (¬ b1 = 0 ∧ a1.toInt < d1.toInt) ∧ e1 = -1)) → own_inv f l_ e1 → oNT Z h h0.size t ma vs B f l_ → oLD Z h u1 y1 m1 w1 → oLD Z h u2 y2 m2 w2 → oLD Z h v2 z2 n2 x2 → oWP false p l e room_1 s m #[.int p1, .int p2, .int p3, .int p4, .int p5] below meth c (fun a => h0.size ≤ a) (fun v h _ => ((fun v _ => v = some (.int 1))) v h) oT h 41 120253 (oF m 164 [.val (.int p1), .val (.int p2), .val (.int p3), .val (.int p4), .val (.int p5), .val (.long s1), .second, .val (.long o1), .second, .val (.long a1), .second, .val (.long d1), .second, .val (.long s2), .second, .val (.long o2), .second, .val (.long a2), .second, .val (.long d2), .second, .val (.ref u1), .val (.ref v1), .val (.ref u2), .val (.ref v2), .val (.int b1), .val (.int b2), .val (.ref t), .unset, .unset, .unset] []) := by
    intro h vs B f l_ e1 b1 b2 t ma hB hG hI F Lu1 Lu2 Lv2
    refine K_iload C (pc := 164) at_164 rfl ?_
    refine K_if C (pc := 166) 191 at_166 (by decide) (by decide) (fun hc166 => ?_) (fun hc166 => ?_)
    · simp only [oC, Classical.not_not] at hc166
      exact oWP.more (k' := 76) (n' := 120491) (J191 _ vs B f l_ e1 e1 b1 b2 t ma hG (Or.inr ⟨fun z => z.1 hc166, rfl⟩) hI F Lu1 Lu2) (by decide) (by decide)
    · simp only [oC, Classical.not_not] at hc166
      refine K_aload C (pc := 169) at_169 rfl (by first | rfl | assumption) ?_
      refine K_aload C (pc := 171) at_171 rfl (by first | rfl | assumption) ?_
      refine K_aload C (pc := 173) at_173 rfl (by first | rfl | assumption) ?_
      refine K_iload C (pc := 175) at_175 rfl ?_
      refine K_bipush C (pc := 177) 7 at_177 (by decide) ?_
      refine K_ishr C (pc := 179) at_179 ?_
      refine K_iconst C (pc := 180) 1 at_180 (by decide) ?_
      refine K_iand C (pc := 181) at_181 ?_
      refine K_static C (pc := 182) (mRATE l Z a0 hw W (p5 >>> ((7 : Int32) &&& 31) &&& 1) _) (tw121 hw) (tw122 hw) (tw2 hw) (tw123 hw) (by decide) pdo_37 at_182 (argsL := [_]) (rest := _) rfl rfl rfl rfl (fun a q r => C.new a (Nat.le_trans q r)) (by decide) (Nat.le_of_ble_eq_true rfl) (by decide) (by decide) ?_
      rintro _ h8 ⟨ra, xr, rfl, hh, RT, hrt⟩ -
      replace hh := hh.symm
      subst hh
      dsimp only [Option.toList, List.cons_append, List.nil_append]
      refine K_old C (fun hE _ _ => ?_)
      obtain ⟨ga, So, GU0⟩ := W.one
      have GU := GU0.ext hE
      refine K_getS C (pc := 185) (tw126 hw) Via.refl So at_185 ?_
      refine K_virtual C (pc := 188) (mADD l Z a0 hw W t ma u2 v2 ra ga vs h0.size B f l_ y2 m2 w2 z2 n2 x2 xr 1 _ hlo F.le (by omega) D3.1 D4.1 hk2 hrt (by decide) F Lu2 Lv2 RT GU) (F.X) (tw127 hw) (tw128 hw) (oNF (tw130 hw)) (tw130 hw) (tw129 hw) (tw88 hw) (tw131 hw) (by decide) pdo_38 at_188 (argsL := [_, _, _, _]) (rest := _) rfl rfl rfl rfl (fun _ _ r => r) (by decide) (Nat.le_of_ble_eq_true rfl) (by decide) (by decide) ?_
      rintro _ h3 ⟨vs', B', rfl, hB', F', S'⟩ -
      dsimp only [Option.toList, List.cons_append, List.nil_append]
      by_cases hlt : a2.toInt < d2.toInt
      · have hkl := own_dlt D3 D4 (by omega)
        rw [if_pos hkl, if_pos hkl] at F'
        exact J191 _ vs' B' _ _ e1 _ b1 b2 t ma hG (Or.inl ⟨⟨hc166, hlt⟩, rfl⟩) (own_inv1 hI (by have e := own_ixI D3.1; obtain ⟨q1, q2, q3⟩ := D3.1; omega) (own_lm0 D3.1 D4.1 hkl)) F' (S'.L _ _ _ _ Lu1) (S'.L _ _ _ _ Lu2)
      · have hkl : ¬ own_key y2 m2 w2 < own_key z2 n2 x2 := by
          have e : a2.toInt = d2.toInt := by omega
          rw [e] at D3
          have := own_deq D3 D4; omega
        rw [if_neg hkl, if_neg hkl] at F'
        exact J191 _ vs' B' _ _ e1 e1 b1 b2 t ma hG (Or.inr ⟨fun z => hlt z.2, rfl⟩) hI F' (S'.L _ _ _ _ Lu1) (S'.L _ _ _ _ Lu2)
  have J129 : ∀ b1 b2 : Int32, oWP false p l e room_1 s m #[.int p1, .int p2, .int p3, .int p4, .int p5] below meth c (fun a => h0.size ≤ a) (fun v h _ => ((fun v _ => v = some (.int 1))) v h) oT h4 4 12 (oF m 129 [.val (.int p1), .val (.int p2), .val (.int p3), .val (.int p4), .val (.int p5), .val (.long s1), .second, .val (.long o1), .second, .val (.long a1), .second, .val (.long d1), .second, .val (.long s2), .second, .val (.long o2), .second, .val (.long a2), .second, .val (.long d2), .second, .val (.ref u1), .val (.ref v1), .val (.ref u2), .val (.ref v2), .val (.int b1), .val (.int b2), .unset, .unset, .unset, .unset] []) := by
    intro b1 b2
    refine K_new C (pc := 129) (tw86 hw) (tw87 hw) (tw88 hw) at_129 (by decide) (by decide) ?_
    intro h5 t ht hPt E5 X D5
    have FM := D5 (Or.inr (tw97 hw)) (ty := (.array (.object "com/example/roomyield/roomyield/NightTally$MonthNights"))) (by decide)
    have FF := D5 (Or.inl (tw100 hw)) (ty := .int) (by decide)
    have FL := D5 (Or.inl (tw102 hw)) (ty := .int) (by decide)
    refine K_dup C (pc := 132) at_132 rfl ?_
    refine K_special C (pc := 133) (mNTI l Z a0 hw t h0.size _ hPt (C.young t hPt) X FM FF FL) (tw89 hw) (tw90 hw) (tw88 hw) (tw91 hw) rfl (by decide) pdo_0 at_133 (argsL := []) (rest := _) rfl rfl rfl rfl (fun x q r => r.elim (fun z => z ▸ hPt) (fun z => C.new x (Nat.le_trans q z))) (by decide) (Nat.le_of_ble_eq_true rfl) (by decide) (by decide) ?_
    rintro _ h6 ⟨ma, vs, rfl, F⟩ hK6
    have E6 := oExtKp E5 hK6 (Nat.le_of_eq ht.symm)
    replace Lu1 := Lu1.ext E6
    replace Lv1 := Lv1.ext E6
    replace Lu2 := Lu2.ext E6
    replace Lv2 := Lv2.ext E6
    dsimp only [Option.toList, List.cons_append, List.nil_append]
    refine K_astore C (pc := 136) (Ls' := [_, _, _, _, _, _, _, _, _, _, _, _, _, _, _, _, _, _, _, _, _, _, _, _, _, _, _, _, _, _, _]) at_136 rfl rfl ?_
    refine K_iload C (pc := 138) at_138 rfl ?_
    refine K_if C (pc := 140) 164 at_140 (by decide) (by decide) (fun hc140 => ?_) (fun hc140 => ?_)
    · simp only [oC, Classical.not_not] at hc140
      exact oWP.more (k' := 41) (n' := 120253) (J164 _ vs 0 _ _ (-1) b1 b2 t ma (by decide) (Or.inr ⟨fun z => z.1 hc140, rfl⟩) (Or.inl ⟨rfl, rfl, rfl⟩) F Lu1 Lu2 Lv2) (by decide) (by decide)
    · simp only [oC, Classical.not_not] at hc140
      refine K_aload C (pc := 143) at_143 rfl (by first | rfl | assumption) ?_
      refine K_aload C (pc := 145) at_145 rfl (by first | rfl | assumption) ?_
      refine K_aload C (pc := 147) at_147 rfl (by first | rfl | assumption) ?_
      refine K_iload C (pc := 149) at_149 rfl ?_
      refine K_iconst C (pc := 151) 3 at_151 (by decide) ?_
      refine K_ishr C (pc := 152) at_152 ?_
      refine K_iconst C (pc := 153) 1 at_153 (by decide) ?_
      refine K_iand C (pc := 154) at_154 ?_
      refine K_static C (pc := 155) (mRATE l Z a0 hw W (p5 >>> ((3 : Int32) &&& 31) &&& 1) _) (tw121 hw) (tw122 hw) (tw2 hw) (tw123 hw) (by decide) pdo_37 at_155 (argsL := [_]) (rest := _) rfl rfl rfl rfl (fun a q r => C.new a (Nat.le_trans q r)) (by decide) (Nat.le_of_ble_eq_true rfl) (by decide) (by decide) ?_
      rintro _ h8 ⟨ra, xr, rfl, hh, RT, hrt⟩ -
      replace hh := hh.symm
      subst hh
      dsimp only [Option.toList, List.cons_append, List.nil_append]
      refine K_old C (fun hE _ _ => ?_)
      obtain ⟨ga, So, GU0⟩ := W.one
      have GU := GU0.ext hE
      refine K_getS C (pc := 158) (tw126 hw) Via.refl So at_158 ?_
      refine K_virtual C (pc := 161) (mADD l Z a0 hw W t ma u1 v1 ra ga vs h0.size 0 2147483647 (-1) y1 m1 w1 z1 n1 x1 xr 1 _ hlo F.le (by decide) D1.1 D2.1 hk1 hrt (by decide) F Lu1 Lv1 RT GU) (F.X) (tw127 hw) (tw128 hw) (oNF (tw130 hw)) (tw130 hw) (tw129 hw) (tw88 hw) (tw131 hw) (by decide) pdo_38 at_161 (argsL := [_, _, _, _]) (rest := _) rfl rfl rfl rfl (fun _ _ r => r) (by decide) (Nat.le_of_ble_eq_true rfl) (by decide) (by decide) ?_
      rintro _ h3 ⟨vs', B', rfl, hB', F', S'⟩ -
      dsimp only [Option.toList, List.cons_append, List.nil_append]
      by_cases hlt : a1.toInt < d1.toInt
      · have hkl := own_dlt D1 D2 (by omega)
        rw [if_pos hkl, if_pos hkl] at F'
        have hv := own_inv1 (f := 2147483647) (l_ := -1) (e := -1) (Or.inl ⟨rfl, rfl, rfl⟩) (i := (own_ix y1 m1)) (by have e := own_ixI D1.1; obtain ⟨q1, q2, q3⟩ := D1.1; omega) (own_lm0 D1.1 D2.1 hkl)
        rw [if_pos (by decide)] at hv
        exact J164 _ vs' B' _ _ (own_ix y1 m1) b1 b2 t ma (by omega) (Or.inl ⟨⟨hc140, hlt⟩, rfl⟩) hv F' (S'.L _ _ _ _ Lu1) (S'.L _ _ _ _ Lu2) (S'.L _ _ _ _ Lv2)
      · have hkl : ¬ own_key y1 m1 w1 < own_key z1 n1 x1 := by
          have e : a1.toInt = d1.toInt := by omega
          rw [e] at D1
          have := own_deq D1 D2; omega
        rw [if_neg hkl, if_neg hkl] at F'
        exact J164 _ vs' B' _ _ (-1) b1 b2 t ma (by omega) (Or.inr ⟨fun z => hlt z.2, rfl⟩) (Or.inl ⟨rfl, rfl, rfl⟩) F' (S'.L _ _ _ _ Lu1) (S'.L _ _ _ _ Lu2) (S'.L _ _ _ _ Lv2)
  have J114 : ∀ b1 : Int32, oWP false p l e room_1 s m #[.int p1, .int p2, .int p3, .int p4, .int p5] below meth c (fun a => h0.size ≤ a) (fun v h _ => ((fun v _ => v = some (.int 1))) v h) oT h4 4 12 (oF m 114 [.val (.int p1), .val (.int p2), .val (.int p3), .val (.int p4), .val (.int p5), .val (.long s1), .second, .val (.long o1), .second, .val (.long a1), .second, .val (.long d1), .second, .val (.long s2), .second, .val (.long o2), .second, .val (.long a2), .second, .val (.long d2), .second, .val (.ref u1), .val (.ref v1), .val (.ref u2), .val (.ref v2), .val (.int b1), .unset, .unset, .unset, .unset, .unset] []) := by
    intro b1
    refine K_iload C (pc := 114) at_114 rfl ?_
    refine K_bipush C (pc := 116) 64 at_116 (by decide) ?_
    refine K_iand C (pc := 118) at_118 ?_
    refine K_if C (pc := 119) 126 at_119 (by decide) (by decide) (fun hc119 => ?_) (fun hc119 => ?_)
    · simp only [oC, Classical.not_not] at hc119
      refine K_iconst C (pc := 126) 0 at_126 (by decide) ?_
      refine K_istore C (pc := 127) (Ls' := [_, _, _, _, _, _, _, _, _, _, _, _, _, _, _, _, _, _, _, _, _, _, _, _, _, _, _, _, _, _, _]) at_127 rfl ?_
      exact J129 b1 _
    · simp only [oC, Classical.not_not] at hc119
      refine K_iconst C (pc := 122) 1 at_122 (by decide) ?_
      refine K_goto C (pc := 123) 127 at_123 (by decide) (by decide) ?_
      refine K_istore C (pc := 127) (Ls' := [_, _, _, _, _, _, _, _, _, _, _, _, _, _, _, _, _, _, _, _, _, _, _, _, _, _, _, _, _, _, _]) at_127 rfl ?_
      exact J129 b1 _
  refine K_iload C (pc := 100) at_100 rfl ?_
  refine K_iconst C (pc := 102) 4 at_102 (by decide) ?_
  refine K_iand C (pc := 103) at_103 ?_
  refine K_if C (pc := 104) 111 at_104 (by decide) (by decide) (fun hc104 => ?_) (fun hc104 => ?_)
  · simp only [oC, Classical.not_not] at hc104
    refine K_iconst C (pc := 111) 0 at_111 (by decide) ?_
    refine K_istore C (pc := 112) (Ls' := [_, _, _, _, _, _, _, _, _, _, _, _, _, _, _, _, _, _, _, _, _, _, _, _, _, _, _, _, _, _, _]) at_112 rfl ?_
    exact J114 _
  · simp only [oC, Classical.not_not] at hc104
    refine K_iconst C (pc := 107) 1 at_107 (by decide) ?_
    refine K_goto C (pc := 108) 112 at_108 (by decide) (by decide) ?_
    refine K_istore C (pc := 112) (Ls' := [_, _, _, _, _, _, _, _, _, _, _, _, _, _, _, _, _, _, _, _, _, _, _, _, _, _, _, _, _, _, _]) at_112 rfl ?_
    exact J114 _
set_option maxRecDepth 65536 in
set_option maxHeartbeats 40000000 in
theorem comes_1 {Post : Tables → Env → Array Value → State → Outcome → State → Prop} (hpost : ∀ tb e args s v u, (limb_1_1.after args s (.returned v) u = true ∧ limb_1_2.after args s (.returned v) u = true ∧ True) → FrameEnd s (.returned v) u (Jvm.fieldLocs frame_1_writes args s ++ Jvm.arrayLocs frame_1_arrays args s ++ Jvm.staticLocs frame_1_statics s) 144 144576 → Post tb e args s (.returned v) u) :
    ArmFor flags0 classFile x code maxLocals ret World_1 tables_1 room_1 Calls_1 rest_1 Pre_1 Post := by
  intro l hfl _ _ p e ha hc hk s m args below hf hA hF happ hP
  obtain ⟨hcalls, hrest, hpre⟩ := hP
  obtain ⟨-, -, -, hnamed, -, -, -, hat⟩ := (Spec.applies_iff hf).mp happ
  obtain ⟨hg, hn⟩ := and_e (Cond.before_iff.mp (show (Jvm.Cond.and given_1 narrow_1).before args s = true from hpre))
  obtain ⟨gc, r0⟩ := and_e hg
  obtain ⟨g0, r1⟩ := and_e r0
  obtain ⟨g1, r2⟩ := and_e r1
  obtain ⟨g2, r3⟩ := and_e r2
  obtain ⟨g3, g4⟩ := and_e r3
  obtain ⟨w0, w1, w2, w3, w4, rfl⟩ : ∃ w0 w1 w2 w3 w4 : Value, args = #[w0, w1, w2, w3, w4] := by
    have hs : args.size = 5 := by simpa [Cond.value, given_1] using gc
    obtain ⟨L⟩ := args
    match L, hs with
    | [w0, w1, w2, w3, w4], _ => exact ⟨w0, w1, w2, w3, w4, rfl⟩
  have hw := fun d (hd : d ∈ tables_1) => atoms_spec (ws := Jvm.Cond.code x code maxLocals ret :: tables_1) hat d (List.mem_cons_of_mem _ hd)
  obtain ⟨i0, ei0⟩ := is_v g0
  obtain rfl : w0 = (.int i0) := Option.some.inj ei0
  obtain ⟨i1, ei1⟩ := is_v g1
  obtain rfl : w1 = (.int i1) := Option.some.inj ei1
  obtain ⟨i2, ei2⟩ := is_v g2
  obtain rfl : w2 = (.int i2) := Option.some.inj ei2
  obtain ⟨i3, ei3⟩ := is_v g3
  obtain rfl : w3 = (.int i3) := Option.some.inj ei3
  obtain ⟨i4, ei4⟩ := is_v g4
  obtain rfl : w4 = (.int i4) := Option.some.inj ei4
  obtain ⟨hsets, hown0⟩ := atoms_of _ (rest_1_c_eq ▸ (show rest_1_c.before _ s = true from hrest))
  obtain ⟨zz, e_zz⟩ := exa_v (Cond.before_iff.mp (hsets _ (List.mem_of_getElem? (i := 200) rfl)))
  have X_zz := Exa.start e_zz (Cond.before_iff.mp (hsets _ (List.mem_of_getElem? (i := 200) rfl)))
  have A_zz := Fld.start ((fld_at e_zz).symm.trans (oEqI (Cond.before_iff.mp (hsets _ (List.mem_of_getElem? (i := 201) rfl)))))
  have B_zz := Fld.start ((fld_at e_zz).symm.trans (oEqL (Cond.before_iff.mp (hsets _ (List.mem_of_getElem? (i := 202) rfl)))))
  have S_zz := Sta.start e_zz (Or.inl (hsets _ (List.mem_of_getElem? (i := 197) rfl)))
  obtain ⟨oo, e_oo⟩ := exa_v (Cond.before_iff.mp (hsets _ (List.mem_of_getElem? (i := 50) rfl)))
  have X_oo := Exa.start e_oo (Cond.before_iff.mp (hsets _ (List.mem_of_getElem? (i := 50) rfl)))
  have A_oo := Fld.start ((fld_at e_oo).symm.trans (oEqI (Cond.before_iff.mp (hsets _ (List.mem_of_getElem? (i := 51) rfl)))))
  have B_oo := Fld.start ((fld_at e_oo).symm.trans (oEqL (Cond.before_iff.mp (hsets _ (List.mem_of_getElem? (i := 52) rfl)))))
  have S_oo := Sta.start e_oo (Or.inl (hsets _ (List.mem_of_getElem? (i := 47) rfl)))
  obtain ⟨za, e_za⟩ := arr_v (Cond.before_iff.mp (hsets _ (List.mem_of_getElem? (i := 227) rfl)))
  obtain ⟨ca, A0⟩ := Arr.start e_za (Cond.before_iff.mp (hsets _ (List.mem_of_getElem? (i := 227) rfl)))
  have S_za := Sta.start e_za (Or.inl (hsets _ (List.mem_of_getElem? (i := 210) rfl)))
  have hlen : ca.slots.size = 11 := oLen e_za A0 (Cond.before_iff.mp (hsets _ (List.mem_of_getElem? (i := 229) rfl)))
  obtain ⟨b0, e_b0⟩ := exa_v (Cond.before_iff.mp (hsets _ (List.mem_of_getElem? (i := 231) rfl)))
  have X_b0 := Exa.start e_b0 (Cond.before_iff.mp (hsets _ (List.mem_of_getElem? (i := 231) rfl)))
  have A_b0 := Fld.start ((fld_at e_b0).symm.trans (oEqI (Cond.before_iff.mp (hsets _ (List.mem_of_getElem? (i := 232) rfl)))))
  have B_b0 := Fld.start ((fld_at e_b0).symm.trans (oEqL (Cond.before_iff.mp (hsets _ (List.mem_of_getElem? (i := 233) rfl)))))
  have h_b0 := (elem_in e_b0 e_za (Term.int_eval 0) A0.1).2
  obtain ⟨b1, e_b1⟩ := exa_v (Cond.before_iff.mp (hsets _ (List.mem_of_getElem? (i := 241) rfl)))
  have X_b1 := Exa.start e_b1 (Cond.before_iff.mp (hsets _ (List.mem_of_getElem? (i := 241) rfl)))
  have A_b1 := Fld.start ((fld_at e_b1).symm.trans (oEqI (Cond.before_iff.mp (hsets _ (List.mem_of_getElem? (i := 242) rfl)))))
  have B_b1 := Fld.start ((fld_at e_b1).symm.trans (oEqL (Cond.before_iff.mp (hsets _ (List.mem_of_getElem? (i := 243) rfl)))))
  have h_b1 := (elem_in e_b1 e_za (Term.int_eval 1) A0.1).2
  obtain ⟨b2, e_b2⟩ := exa_v (Cond.before_iff.mp (hsets _ (List.mem_of_getElem? (i := 251) rfl)))
  have X_b2 := Exa.start e_b2 (Cond.before_iff.mp (hsets _ (List.mem_of_getElem? (i := 251) rfl)))
  have A_b2 := Fld.start ((fld_at e_b2).symm.trans (oEqI (Cond.before_iff.mp (hsets _ (List.mem_of_getElem? (i := 252) rfl)))))
  have B_b2 := Fld.start ((fld_at e_b2).symm.trans (oEqL (Cond.before_iff.mp (hsets _ (List.mem_of_getElem? (i := 253) rfl)))))
  have h_b2 := (elem_in e_b2 e_za (Term.int_eval 2) A0.1).2
  obtain ⟨b3, e_b3⟩ := exa_v (Cond.before_iff.mp (hsets _ (List.mem_of_getElem? (i := 260) rfl)))
  have X_b3 := Exa.start e_b3 (Cond.before_iff.mp (hsets _ (List.mem_of_getElem? (i := 260) rfl)))
  have A_b3 := Fld.start ((fld_at e_b3).symm.trans (oEqI (Cond.before_iff.mp (hsets _ (List.mem_of_getElem? (i := 261) rfl)))))
  have B_b3 := Fld.start ((fld_at e_b3).symm.trans (oEqL (Cond.before_iff.mp (hsets _ (List.mem_of_getElem? (i := 262) rfl)))))
  have h_b3 := (elem_in e_b3 e_za (Term.int_eval 3) A0.1).2
  obtain ⟨b4, e_b4⟩ := exa_v (Cond.before_iff.mp (hsets _ (List.mem_of_getElem? (i := 268) rfl)))
  have X_b4 := Exa.start e_b4 (Cond.before_iff.mp (hsets _ (List.mem_of_getElem? (i := 268) rfl)))
  have A_b4 := Fld.start ((fld_at e_b4).symm.trans (oEqI (Cond.before_iff.mp (hsets _ (List.mem_of_getElem? (i := 269) rfl)))))
  have B_b4 := Fld.start ((fld_at e_b4).symm.trans (oEqL (Cond.before_iff.mp (hsets _ (List.mem_of_getElem? (i := 270) rfl)))))
  have h_b4 := (elem_in e_b4 e_za (Term.int_eval 4) A0.1).2
  obtain ⟨b5, e_b5⟩ := exa_v (Cond.before_iff.mp (hsets _ (List.mem_of_getElem? (i := 276) rfl)))
  have X_b5 := Exa.start e_b5 (Cond.before_iff.mp (hsets _ (List.mem_of_getElem? (i := 276) rfl)))
  have A_b5 := Fld.start ((fld_at e_b5).symm.trans (oEqI (Cond.before_iff.mp (hsets _ (List.mem_of_getElem? (i := 277) rfl)))))
  have B_b5 := Fld.start ((fld_at e_b5).symm.trans (oEqL (Cond.before_iff.mp (hsets _ (List.mem_of_getElem? (i := 278) rfl)))))
  have h_b5 := (elem_in e_b5 e_za (Term.int_eval 5) A0.1).2
  obtain ⟨b6, e_b6⟩ := exa_v (Cond.before_iff.mp (hsets _ (List.mem_of_getElem? (i := 284) rfl)))
  have X_b6 := Exa.start e_b6 (Cond.before_iff.mp (hsets _ (List.mem_of_getElem? (i := 284) rfl)))
  have A_b6 := Fld.start ((fld_at e_b6).symm.trans (oEqI (Cond.before_iff.mp (hsets _ (List.mem_of_getElem? (i := 285) rfl)))))
  have B_b6 := Fld.start ((fld_at e_b6).symm.trans (oEqL (Cond.before_iff.mp (hsets _ (List.mem_of_getElem? (i := 286) rfl)))))
  have h_b6 := (elem_in e_b6 e_za (Term.int_eval 6) A0.1).2
  obtain ⟨b7, e_b7⟩ := exa_v (Cond.before_iff.mp (hsets _ (List.mem_of_getElem? (i := 292) rfl)))
  have X_b7 := Exa.start e_b7 (Cond.before_iff.mp (hsets _ (List.mem_of_getElem? (i := 292) rfl)))
  have A_b7 := Fld.start ((fld_at e_b7).symm.trans (oEqI (Cond.before_iff.mp (hsets _ (List.mem_of_getElem? (i := 293) rfl)))))
  have B_b7 := Fld.start ((fld_at e_b7).symm.trans (oEqL (Cond.before_iff.mp (hsets _ (List.mem_of_getElem? (i := 294) rfl)))))
  have h_b7 := (elem_in e_b7 e_za (Term.int_eval 7) A0.1).2
  obtain ⟨b8, e_b8⟩ := exa_v (Cond.before_iff.mp (hsets _ (List.mem_of_getElem? (i := 300) rfl)))
  have X_b8 := Exa.start e_b8 (Cond.before_iff.mp (hsets _ (List.mem_of_getElem? (i := 300) rfl)))
  have A_b8 := Fld.start ((fld_at e_b8).symm.trans (oEqI (Cond.before_iff.mp (hsets _ (List.mem_of_getElem? (i := 301) rfl)))))
  have B_b8 := Fld.start ((fld_at e_b8).symm.trans (oEqL (Cond.before_iff.mp (hsets _ (List.mem_of_getElem? (i := 302) rfl)))))
  have h_b8 := (elem_in e_b8 e_za (Term.int_eval 8) A0.1).2
  obtain ⟨b9, e_b9⟩ := exa_v (Cond.before_iff.mp (hsets _ (List.mem_of_getElem? (i := 308) rfl)))
  have X_b9 := Exa.start e_b9 (Cond.before_iff.mp (hsets _ (List.mem_of_getElem? (i := 308) rfl)))
  have A_b9 := Fld.start ((fld_at e_b9).symm.trans (oEqI (Cond.before_iff.mp (hsets _ (List.mem_of_getElem? (i := 309) rfl)))))
  have B_b9 := Fld.start ((fld_at e_b9).symm.trans (oEqL (Cond.before_iff.mp (hsets _ (List.mem_of_getElem? (i := 310) rfl)))))
  have h_b9 := (elem_in e_b9 e_za (Term.int_eval 9) A0.1).2
  obtain ⟨b10, e_b10⟩ := exa_v (Cond.before_iff.mp (hsets _ (List.mem_of_getElem? (i := 317) rfl)))
  have X_b10 := Exa.start e_b10 (Cond.before_iff.mp (hsets _ (List.mem_of_getElem? (i := 317) rfl)))
  have A_b10 := Fld.start ((fld_at e_b10).symm.trans (oEqI (Cond.before_iff.mp (hsets _ (List.mem_of_getElem? (i := 318) rfl)))))
  have B_b10 := Fld.start ((fld_at e_b10).symm.trans (oEqL (Cond.before_iff.mp (hsets _ (List.mem_of_getElem? (i := 319) rfl)))))
  have h_b10 := (elem_in e_b10 e_za (Term.int_eval 10) A0.1).2
  obtain ⟨ea, e_ea⟩ := arr_v (Cond.before_iff.mp (hsets _ (List.mem_of_getElem? (i := 142) rfl)))
  obtain ⟨ce, A1⟩ := Arr.start e_ea (Cond.before_iff.mp (hsets _ (List.mem_of_getElem? (i := 142) rfl)))
  have S_ea := Sta.start e_ea (Or.inl (hsets _ (List.mem_of_getElem? (i := 117) rfl)))
  have hlen1 : ce.slots.size = 12 := oLen e_ea A1 (Cond.before_iff.mp (hsets _ (List.mem_of_getElem? (i := 144) rfl)))
  obtain ⟨mo0, e_mo0⟩ := exa_v (Cond.before_iff.mp (hsets _ (List.mem_of_getElem? (i := 146) rfl)))
  have X_mo0 := Exa.start e_mo0 (Cond.before_iff.mp (hsets _ (List.mem_of_getElem? (i := 146) rfl)))
  have A_mo0 := Fld.start ((fld_at e_mo0).symm.trans (oEqI (Cond.before_iff.mp (hsets _ (List.mem_of_getElem? (i := 148) rfl)))))
  have h_mo0 := (elem_in e_mo0 e_ea (Term.int_eval 0) A1.1).2
  obtain ⟨mo1, e_mo1⟩ := exa_v (Cond.before_iff.mp (hsets _ (List.mem_of_getElem? (i := 150) rfl)))
  have X_mo1 := Exa.start e_mo1 (Cond.before_iff.mp (hsets _ (List.mem_of_getElem? (i := 150) rfl)))
  have A_mo1 := Fld.start ((fld_at e_mo1).symm.trans (oEqI (Cond.before_iff.mp (hsets _ (List.mem_of_getElem? (i := 152) rfl)))))
  have h_mo1 := (elem_in e_mo1 e_ea (Term.int_eval 1) A1.1).2
  obtain ⟨mo2, e_mo2⟩ := exa_v (Cond.before_iff.mp (hsets _ (List.mem_of_getElem? (i := 154) rfl)))
  have X_mo2 := Exa.start e_mo2 (Cond.before_iff.mp (hsets _ (List.mem_of_getElem? (i := 154) rfl)))
  have A_mo2 := Fld.start ((fld_at e_mo2).symm.trans (oEqI (Cond.before_iff.mp (hsets _ (List.mem_of_getElem? (i := 156) rfl)))))
  have h_mo2 := (elem_in e_mo2 e_ea (Term.int_eval 2) A1.1).2
  obtain ⟨mo3, e_mo3⟩ := exa_v (Cond.before_iff.mp (hsets _ (List.mem_of_getElem? (i := 158) rfl)))
  have X_mo3 := Exa.start e_mo3 (Cond.before_iff.mp (hsets _ (List.mem_of_getElem? (i := 158) rfl)))
  have A_mo3 := Fld.start ((fld_at e_mo3).symm.trans (oEqI (Cond.before_iff.mp (hsets _ (List.mem_of_getElem? (i := 160) rfl)))))
  have h_mo3 := (elem_in e_mo3 e_ea (Term.int_eval 3) A1.1).2
  obtain ⟨mo4, e_mo4⟩ := exa_v (Cond.before_iff.mp (hsets _ (List.mem_of_getElem? (i := 162) rfl)))
  have X_mo4 := Exa.start e_mo4 (Cond.before_iff.mp (hsets _ (List.mem_of_getElem? (i := 162) rfl)))
  have A_mo4 := Fld.start ((fld_at e_mo4).symm.trans (oEqI (Cond.before_iff.mp (hsets _ (List.mem_of_getElem? (i := 164) rfl)))))
  have h_mo4 := (elem_in e_mo4 e_ea (Term.int_eval 4) A1.1).2
  obtain ⟨mo5, e_mo5⟩ := exa_v (Cond.before_iff.mp (hsets _ (List.mem_of_getElem? (i := 166) rfl)))
  have X_mo5 := Exa.start e_mo5 (Cond.before_iff.mp (hsets _ (List.mem_of_getElem? (i := 166) rfl)))
  have A_mo5 := Fld.start ((fld_at e_mo5).symm.trans (oEqI (Cond.before_iff.mp (hsets _ (List.mem_of_getElem? (i := 168) rfl)))))
  have h_mo5 := (elem_in e_mo5 e_ea (Term.int_eval 5) A1.1).2
  obtain ⟨mo6, e_mo6⟩ := exa_v (Cond.before_iff.mp (hsets _ (List.mem_of_getElem? (i := 170) rfl)))
  have X_mo6 := Exa.start e_mo6 (Cond.before_iff.mp (hsets _ (List.mem_of_getElem? (i := 170) rfl)))
  have A_mo6 := Fld.start ((fld_at e_mo6).symm.trans (oEqI (Cond.before_iff.mp (hsets _ (List.mem_of_getElem? (i := 172) rfl)))))
  have h_mo6 := (elem_in e_mo6 e_ea (Term.int_eval 6) A1.1).2
  obtain ⟨mo7, e_mo7⟩ := exa_v (Cond.before_iff.mp (hsets _ (List.mem_of_getElem? (i := 174) rfl)))
  have X_mo7 := Exa.start e_mo7 (Cond.before_iff.mp (hsets _ (List.mem_of_getElem? (i := 174) rfl)))
  have A_mo7 := Fld.start ((fld_at e_mo7).symm.trans (oEqI (Cond.before_iff.mp (hsets _ (List.mem_of_getElem? (i := 176) rfl)))))
  have h_mo7 := (elem_in e_mo7 e_ea (Term.int_eval 7) A1.1).2
  obtain ⟨mo8, e_mo8⟩ := exa_v (Cond.before_iff.mp (hsets _ (List.mem_of_getElem? (i := 178) rfl)))
  have X_mo8 := Exa.start e_mo8 (Cond.before_iff.mp (hsets _ (List.mem_of_getElem? (i := 178) rfl)))
  have A_mo8 := Fld.start ((fld_at e_mo8).symm.trans (oEqI (Cond.before_iff.mp (hsets _ (List.mem_of_getElem? (i := 180) rfl)))))
  have h_mo8 := (elem_in e_mo8 e_ea (Term.int_eval 8) A1.1).2
  obtain ⟨mo9, e_mo9⟩ := exa_v (Cond.before_iff.mp (hsets _ (List.mem_of_getElem? (i := 182) rfl)))
  have X_mo9 := Exa.start e_mo9 (Cond.before_iff.mp (hsets _ (List.mem_of_getElem? (i := 182) rfl)))
  have A_mo9 := Fld.start ((fld_at e_mo9).symm.trans (oEqI (Cond.before_iff.mp (hsets _ (List.mem_of_getElem? (i := 184) rfl)))))
  have h_mo9 := (elem_in e_mo9 e_ea (Term.int_eval 9) A1.1).2
  obtain ⟨mo10, e_mo10⟩ := exa_v (Cond.before_iff.mp (hsets _ (List.mem_of_getElem? (i := 186) rfl)))
  have X_mo10 := Exa.start e_mo10 (Cond.before_iff.mp (hsets _ (List.mem_of_getElem? (i := 186) rfl)))
  have A_mo10 := Fld.start ((fld_at e_mo10).symm.trans (oEqI (Cond.before_iff.mp (hsets _ (List.mem_of_getElem? (i := 188) rfl)))))
  have h_mo10 := (elem_in e_mo10 e_ea (Term.int_eval 10) A1.1).2
  obtain ⟨mo11, e_mo11⟩ := exa_v (Cond.before_iff.mp (hsets _ (List.mem_of_getElem? (i := 190) rfl)))
  have X_mo11 := Exa.start e_mo11 (Cond.before_iff.mp (hsets _ (List.mem_of_getElem? (i := 190) rfl)))
  have A_mo11 := Fld.start ((fld_at e_mo11).symm.trans (oEqI (Cond.before_iff.mp (hsets _ (List.mem_of_getElem? (i := 192) rfl)))))
  have h_mo11 := (elem_in e_mo11 e_ea (Term.int_eval 11) A1.1).2
  obtain ⟨tt, e_tt⟩ := exa_v (Cond.before_iff.mp (hsets _ (List.mem_of_getElem? (i := 36) rfl)))
  have X_tt := Exa.start e_tt (Cond.before_iff.mp (hsets _ (List.mem_of_getElem? (i := 36) rfl)))
  have A_tt := Fld.start ((fld_at e_tt).symm.trans (oEqI (Cond.before_iff.mp (hsets _ (List.mem_of_getElem? (i := 37) rfl)))))
  have B_tt := Fld.start ((fld_at e_tt).symm.trans (oEqL (Cond.before_iff.mp (hsets _ (List.mem_of_getElem? (i := 38) rfl)))))
  have S_tt := Sta.start e_tt (Or.inl (hsets _ (List.mem_of_getElem? (i := 33) rfl)))
  obtain ⟨fy, e_fy⟩ := exa_v (Cond.before_iff.mp (hsets _ (List.mem_of_getElem? (i := 66) rfl)))
  have X_fy := Exa.start e_fy (Cond.before_iff.mp (hsets _ (List.mem_of_getElem? (i := 66) rfl)))
  have S_fy := Sta.start e_fy (Or.inl (hsets _ (List.mem_of_getElem? (i := 61) rfl)))
  obtain ⟨rfy, e_rfy⟩ := exa_v (Cond.before_iff.mp (hsets _ (List.mem_of_getElem? (i := 82) rfl)))
  have X_rfy := Exa.start e_rfy (Cond.before_iff.mp (hsets _ (List.mem_of_getElem? (i := 82) rfl)))
  have R_fy := Fld.start ((fld_at e_fy).symm.trans e_rfy)
  have A_rfy := Fld.start ((fld_at e_rfy).symm.trans (oEqL (Cond.before_iff.mp (hsets _ (List.mem_of_getElem? (i := 83) rfl)))))
  have B_rfy := Fld.start ((fld_at e_rfy).symm.trans (oEqL (Cond.before_iff.mp (hsets _ (List.mem_of_getElem? (i := 86) rfl)))))
  obtain ⟨fm, e_fm⟩ := exa_v (Cond.before_iff.mp (hsets _ (List.mem_of_getElem? (i := 94) rfl)))
  have X_fm := Exa.start e_fm (Cond.before_iff.mp (hsets _ (List.mem_of_getElem? (i := 94) rfl)))
  have S_fm := Sta.start e_fm (Or.inl (hsets _ (List.mem_of_getElem? (i := 89) rfl)))
  obtain ⟨rfm, e_rfm⟩ := exa_v (Cond.before_iff.mp (hsets _ (List.mem_of_getElem? (i := 110) rfl)))
  have X_rfm := Exa.start e_rfm (Cond.before_iff.mp (hsets _ (List.mem_of_getElem? (i := 110) rfl)))
  have R_fm := Fld.start ((fld_at e_fm).symm.trans e_rfm)
  have A_rfm := Fld.start ((fld_at e_rfm).symm.trans (oEqL (Cond.before_iff.mp (hsets _ (List.mem_of_getElem? (i := 111) rfl)))))
  have B_rfm := Fld.start ((fld_at e_rfm).symm.trans (oEqL (Cond.before_iff.mp (hsets _ (List.mem_of_getElem? (i := 114) rfl)))))
  obtain ⟨fd, e_fd⟩ := exa_v (Cond.before_iff.mp (hsets _ (List.mem_of_getElem? (i := 6) rfl)))
  have X_fd := Exa.start e_fd (Cond.before_iff.mp (hsets _ (List.mem_of_getElem? (i := 6) rfl)))
  have S_fd := Sta.start e_fd (Or.inl (hsets _ (List.mem_of_getElem? (i := 1) rfl)))
  obtain ⟨rfd, e_rfd⟩ := exa_v (Cond.before_iff.mp (hsets _ (List.mem_of_getElem? (i := 22) rfl)))
  have X_rfd := Exa.start e_rfd (Cond.before_iff.mp (hsets _ (List.mem_of_getElem? (i := 22) rfl)))
  have R_fd := Fld.start ((fld_at e_fd).symm.trans e_rfd)
  have A_rfd := Fld.start ((fld_at e_rfd).symm.trans (oEqL (Cond.before_iff.mp (hsets _ (List.mem_of_getElem? (i := 23) rfl)))))
  have B_rfd := Fld.start ((fld_at e_rfd).symm.trans (oEqL (Cond.before_iff.mp (hsets _ (List.mem_of_getElem? (i := 26) rfl)))))
  obtain ⟨ii, e_ii⟩ := exa_v (Cond.before_iff.mp (hsets _ (List.mem_of_getElem? (i := 195) rfl)))
  have X_ii := Exa.start e_ii (Cond.before_iff.mp (hsets _ (List.mem_of_getElem? (i := 195) rfl)))
  have S_ii := Sta.start e_ii (Or.inl (hsets _ (List.mem_of_getElem? (i := 194) rfl)))
  obtain ⟨ep, e_ep⟩ := exa_v (Cond.before_iff.mp (hsets _ (List.mem_of_getElem? (i := 30) rfl)))
  have X_ep := Exa.start e_ep (Cond.before_iff.mp (hsets _ (List.mem_of_getElem? (i := 30) rfl)))
  have S_ep := Sta.start e_ep (Or.inl (hsets _ (List.mem_of_getElem? (i := 29) rfl)))
  have F_ep := Fld.start ((fld_at e_ep).symm.trans (null_v (Cond.before_iff.mp (hsets _ (List.mem_of_getElem? (i := 31) rfl)))))
  have hz : ∀ i : Nat, i < 11 → ∃ a, ca.slots.toList[i]? = some (Value.ref a) ∧ oBD s s.heap a (Int64.ofNat i) := by
    intro i hi
    match i, hi with
    | 0, _ => exact ⟨b0, by have q := h_b0; simpa using q, X_b0, A_b0, B_b0⟩
    | 1, _ => exact ⟨b1, by have q := h_b1; simpa using q, X_b1, A_b1, B_b1⟩
    | 2, _ => exact ⟨b2, by have q := h_b2; simpa using q, X_b2, A_b2, B_b2⟩
    | 3, _ => exact ⟨b3, by have q := h_b3; simpa using q, X_b3, A_b3, B_b3⟩
    | 4, _ => exact ⟨b4, by have q := h_b4; simpa using q, X_b4, A_b4, B_b4⟩
    | 5, _ => exact ⟨b5, by have q := h_b5; simpa using q, X_b5, A_b5, B_b5⟩
    | 6, _ => exact ⟨b6, by have q := h_b6; simpa using q, X_b6, A_b6, B_b6⟩
    | 7, _ => exact ⟨b7, by have q := h_b7; simpa using q, X_b7, A_b7, B_b7⟩
    | 8, _ => exact ⟨b8, by have q := h_b8; simpa using q, X_b8, A_b8, B_b8⟩
    | 9, _ => exact ⟨b9, by have q := h_b9; simpa using q, X_b9, A_b9, B_b9⟩
    | 10, _ => exact ⟨b10, by have q := h_b10; simpa using q, X_b10, A_b10, B_b10⟩
    | i + 11, hi => exact absurd hi (by omega)
  have hm : ∀ i : Nat, i < 12 → ∃ a, ce.slots.toList[i]? = some (Value.ref a) ∧ Exa s s.heap a "java/time/Month" ∧ Fld s s.heap a "java/lang/Enum" "ordinal" "I" (.int (Int32.ofNat i)) := by
    intro i hi
    match i, hi with
    | 0, _ => exact ⟨mo0, by have q := h_mo0; simpa using q, X_mo0, A_mo0⟩
    | 1, _ => exact ⟨mo1, by have q := h_mo1; simpa using q, X_mo1, A_mo1⟩
    | 2, _ => exact ⟨mo2, by have q := h_mo2; simpa using q, X_mo2, A_mo2⟩
    | 3, _ => exact ⟨mo3, by have q := h_mo3; simpa using q, X_mo3, A_mo3⟩
    | 4, _ => exact ⟨mo4, by have q := h_mo4; simpa using q, X_mo4, A_mo4⟩
    | 5, _ => exact ⟨mo5, by have q := h_mo5; simpa using q, X_mo5, A_mo5⟩
    | 6, _ => exact ⟨mo6, by have q := h_mo6; simpa using q, X_mo6, A_mo6⟩
    | 7, _ => exact ⟨mo7, by have q := h_mo7; simpa using q, X_mo7, A_mo7⟩
    | 8, _ => exact ⟨mo8, by have q := h_mo8; simpa using q, X_mo8, A_mo8⟩
    | 9, _ => exact ⟨mo9, by have q := h_mo9; simpa using q, X_mo9, A_mo9⟩
    | 10, _ => exact ⟨mo10, by have q := h_mo10; simpa using q, X_mo10, A_mo10⟩
    | 11, _ => exact ⟨mo11, by have q := h_mo11; simpa using q, X_mo11, A_mo11⟩
    | i + 12, hi => exact absurd hi (by omega)
  have W : oSt s := ⟨⟨za, ca.slots.toList, S_za, ⟨ca, A0, rfl⟩, by simpa using hlen, hz⟩, ⟨zz, S_zz, X_zz, A_zz, B_zz⟩, ⟨oo, S_oo, X_oo, A_oo, B_oo⟩, ⟨fy, S_fy, X_fy, rfy, R_fy, X_rfy, A_rfy, B_rfy⟩, ⟨fm, S_fm, X_fm, rfm, R_fm, X_rfm, A_rfm, B_rfm⟩, ⟨fd, S_fd, X_fd, rfd, R_fd, X_rfd, A_rfd, B_rfd⟩, ⟨tt, S_tt, X_tt, A_tt, B_tt⟩, ⟨ea, ce.slots.toList, S_ea, ⟨ce, A1, rfl⟩, by simpa using hlen1, hm⟩, ⟨ii, S_ii, X_ii⟩, ⟨ep, S_ep, X_ep, F_ep⟩⟩
  obtain ⟨nn, oo, h1, h2, h3, _, L, rfl, ⟨rfl, N, -⟩, hq⟩ := (m0 l s _ hw W i0 i1 i2 i3 i4 s.heap) ⟨Nat.le_refl _, fun _ _ q => q⟩ tables_1 p e ha hc hk s m _ below hf ((Spec.applies_iff_loose hf).mp happ).1 ⟨rfl, State.Warmed39.refl s, rfl⟩ trivial
  refine ⟨nn, _, h1, h2, h3, hpost _ _ _ _ _ _ ⟨Cond.after_iff.mpr rfl, Cond.after_iff.mpr (eq_i res_at (Term.int_eval (1)) rfl), trivial⟩ ⟨hq.1, hq.2.1, (hq.2.2.sift fun y hy => Or.inr (N y hy)).mono (by decide) (by decide)⟩⟩
theorem main_1_1 : Claimed_1_1 := comes_1 fun _ _ _ _ _ _ h hF => ⟨h.1, hF⟩
theorem main_1_2 : Claimed_1_2 := comes_1 fun _ _ _ _ _ _ h hF => ⟨h.2.1, hF⟩
end Jvm.Pilot.@@N@@
namespace Jvm.Pilot.@@N@@
open Jvm Jvm.ClassFile Sem Op Lib Jvm.Free Jvm.Stand Jvm.Pilot.@@N@@.Jvm.D
/-! MADE BY PROGRAM (witnessworld.py) out of the Statement's table words and the real class files: 46 classes; the members and pool entries that the words name. The judged class is class 1, her method 6. -/
namespace start1
open Jvm.ClassFile
def u (s : String) : CpInfo := .utf8 (stringToUtf16 s)
/-- a pool by its gaps: so many unusable entries, then the entry; so many at the end -/
def gap : Nat → List CpInfo → List CpInfo
  | 0, r => r
  | n + 1, r => .unusable :: gap n r
def poolList (es : List (Nat × CpInfo)) (last : Nat) : List CpInfo := es.foldr (fun e r => gap e.1 (e.2 :: r)) (gap last [])
def pool (es : List (Nat × CpInfo)) (last : Nat) : Array CpInfo := ⟨poolList es last⟩
def fileOf (pool : Array CpInfo) (this : Nat) (attrs : Array Attribute := #[]) (ms : Array MethodInfo := #[]) (fl : Nat := 33) (sup : Nat := 0) (ifs : Array Nat := #[]) (fds : Array FieldInfo := #[]) : ClassFile where
  minorVersion := 0
  majorVersion := 65
  constantPool := pool
  accessFlags := fl
  thisClass := this
  superClass := sup
  interfaces := ifs
  fields := fds
  methods := ms
  attributes := attrs
def plain (name : String) (sup : Option ClassId) : Class where
  name := name
  kind := .ordinary
  loader := none
  accessFlags := 33
  super := sup
  interfaces := #[]
  cf := none
  fields := #[]
  methods := #[]
  instanceTypes := #[]
  staticTypes := #[]
  resolved := #[]
  callSites := []
  init := .initialized
  statics := none
  mirror := none

def pool0 : Array CpInfo := pool [(5, u "<init>"), (0, u "()V"), (1, .class_ 10), (1, u "java/lang/Object")] 113

def k0c0 : Code := { maxStack := 0, maxLocals := 1, code := object_method_1_code, exceptionTable := #[], attributes := #[] }
def k0m0 : Method := { name := "<init>", desc := "()V", sig := { parameters := [], returnType := none }, accessFlags := 1, code := some k0c0 }
/-- java/lang/Object -/
def k0 : Class := { plain "java/lang/Object" none with
  accessFlags := 33
  interfaces := #[]
  cf := some (fileOf pool0 8 #[] #[{ accessFlags := 1, nameIndex := 5, descriptorIndex := 6, attributes := #[] }] 33 0 #[] #[])
  fields := #[]
  methods := #[k0m0]
  instanceTypes := #[]
  staticTypes := #[]
  resolved := Array.replicate 124 none
  statics := none }

def pool1 : Array CpInfo := pool [(2, .class_ 4), (0, .nameAndType 5 6), (0, u "java/lang/Object"), (0, u "<init>"), (0, u "()V"), (0, .integer 2147483647), (0, .integer 3652425), (0, .methodref 10 11), (0, .class_ 12), (0, .nameAndType 13 14), (0, u "com/example/roomyield/roomyield/NightTallyFirstMonthPinLaw"), (0, u "start"), (0, u "(I)J"), (0, .long 3652424), (1, .methodref 18 19), (0, .class_ 20), (0, .nameAndType 21 22), (0, u "java/lang/Math"), (0, u "min"), (0, u "(JJ)J"), (0, .long 18446744073708832088), (1, .methodref 26 27), (0, .class_ 28), (0, .nameAndType 29 30), (0, u "java/time/LocalDate"), (0, u "ofEpochDay"), (0, u "(J)Ljava/time/LocalDate;"), (0, .methodref 26 32), (0, .nameAndType 33 34), (0, u "getYear"), (0, u "()I"), (0, .methodref 26 36), (0, .nameAndType 37 34), (0, u "getMonthValue"), (0, .fieldref 39 40), (0, .class_ 41), (0, .nameAndType 42 43), (0, u "java/math/BigDecimal"), (0, u "TEN"), (0, u "Ljava/math/BigDecimal;"), (0, .fieldref 39 45), (0, .nameAndType 46 43), (0, u "ZERO"), (0, .methodref 10 48), (0, .nameAndType 49 50), (0, u "other"), (0, u "(III)J"), (0, .methodref 18 52), (0, .nameAndType 53 22), (0, u "max"), (0, .methodref 10 55), (0, .nameAndType 56 30), (0, u "date"), (0, .class_ 58), (0, u "com/example/roomyield/roomyield/NightTally"), (0, .methodref 57 3), (0, .methodref 10 61), (0, .nameAndType 62 63), (0, u "rate"), (0, u "(I)Ljava/math/BigDecimal;"), (0, .fieldref 39 65), (0, .nameAndType 66 43), (0, u "ONE"), (0, .methodref 57 68), (0, .nameAndType 69 70), (0, u "add"), (0, u "(Ljava/time/LocalDate;Ljava/time/LocalDate;Ljava/math/BigDecimal;Ljava/math/BigDecimal;)V"), (0, .methodref 10 72), (0, .nameAndType 73 74), (0, u "monthIndex"), (0, u "(Ljava/time/LocalDate;)I"), (0, .methodref 18 76), (0, .nameAndType 21 77), (0, u "(II)I"), (0, .methodref 57 79), (0, .nameAndType 80 81), (0, u "firstMonth"), (0, u "()Ljava/util/Optional;"), (0, .methodref 83 84), (0, .class_ 85), (0, .nameAndType 86 87), (0, u "java/util/Optional"), (0, u "isEmpty"), (0, u "()Z"), (0, .methodref 83 89), (0, .nameAndType 90 91), (0, u "get"), (0, u "()Ljava/lang/Object;"), (0, .class_ 93), (0, u "java/time/YearMonth"), (0, .methodref 92 32), (0, .methodref 92 36), (3, u "law"), (0, u "(IIIII)Z")] 2

def k1m0 : Method := { name := "<init>", desc := "()V", sig := { parameters := [], returnType := none }, accessFlags := 1, code := none }
def k1c1 : Code := { maxStack := 2, maxLocals := 1, code := method_2_code, exceptionTable := #[], attributes := #[] }
def k1m1 : Method := { name := "start", desc := "(I)J", sig := { parameters := [.int], returnType := some .long }, accessFlags := 10, code := some k1c1 }
def k1c2 : Code := { maxStack := 4, maxLocals := 7, code := method_3_code, exceptionTable := #[], attributes := #[] }
def k1m2 : Method := { name := "other", desc := "(III)J", sig := { parameters := [.int, .int, .int], returnType := some .long }, accessFlags := 10, code := some k1c2 }
def k1c3 : Code := { maxStack := 4, maxLocals := 2, code := method_4_code, exceptionTable := #[], attributes := #[] }
def k1m3 : Method := { name := "date", desc := "(J)Ljava/time/LocalDate;", sig := { parameters := [.long], returnType := some (.object "java/time/LocalDate") }, accessFlags := 10, code := some k1c3 }
def k1c4 : Code := { maxStack := 2, maxLocals := 1, code := method_5_code, exceptionTable := #[], attributes := #[] }
def k1m4 : Method := { name := "monthIndex", desc := "(Ljava/time/LocalDate;)I", sig := { parameters := [(.object "java/time/LocalDate")], returnType := some .int }, accessFlags := 10, code := some k1c4 }
def k1c5 : Code := { maxStack := 1, maxLocals := 1, code := method_6_code, exceptionTable := #[], attributes := #[] }
def k1m5 : Method := { name := "rate", desc := "(I)Ljava/math/BigDecimal;", sig := { parameters := [.int], returnType := some (.object "java/math/BigDecimal") }, accessFlags := 10, code := some k1c5 }
def k1c6 : Code := { maxStack := 5, maxLocals := 31, code := code, exceptionTable := #[], attributes := #[] }
def k1m6 : Method := { name := "law", desc := "(IIIII)Z", sig := { parameters := [.int, .int, .int, .int, .int], returnType := some .boolean }, accessFlags := 9, code := some k1c6 }
/-- com/example/roomyield/roomyield/NightTallyFirstMonthPinLaw -/
def k1 : Class := { plain "com/example/roomyield/roomyield/NightTallyFirstMonthPinLaw" (some 0) with
  accessFlags := 49
  interfaces := #[]
  cf := some (fileOf pool1 10 #[] #[{ accessFlags := 1, nameIndex := 5, descriptorIndex := 6, attributes := #[] }, { accessFlags := 10, nameIndex := 13, descriptorIndex := 14, attributes := #[] }, { accessFlags := 10, nameIndex := 49, descriptorIndex := 50, attributes := #[] }, { accessFlags := 10, nameIndex := 56, descriptorIndex := 30, attributes := #[] }, { accessFlags := 10, nameIndex := 73, descriptorIndex := 74, attributes := #[] }, { accessFlags := 10, nameIndex := 62, descriptorIndex := 63, attributes := #[] }, { accessFlags := 9, nameIndex := 99, descriptorIndex := 100, attributes := #[] }] 49 2 #[] #[])
  fields := #[]
  methods := #[k1m0, k1m1, k1m2, k1m3, k1m4, k1m5, k1m6]
  instanceTypes := #[]
  staticTypes := #[]
  resolved := Array.replicate 103 none
  statics := none }

def pool2 : Array CpInfo := pool [(1, .class_ 2), (0, u "java/lang/Math"), (1, .class_ 6), (1, u "java/lang/Object"), (0, u "<init>"), (0, u "()V"), (89, .class_ 100), (1, u "java/lang/Math$RandomNumberGeneratorHolder"), (20, u "(JJ)J"), (2, u "abs"), (0, u "(J)J"), (46, u "negativeZeroFloatBits"), (0, u "J"), (2, u "negativeZeroDoubleBits"), (21, u "max"), (2, u "min"), (43, u "$assertionsDisabled"), (0, u "Z"), (88, u "(II)I"), (2, u "twoToTheDoubleScaleDown"), (0, u "D"), (4, u "twoToTheDoubleScaleUp"), (9, u "E"), (3, u "PI"), (2, u "TAU"), (2, u "DEGREES_TO_RADIANS"), (0, u "RADIANS_TO_DEGREES")] 94

def k2m0 : Method := { name := "<init>", desc := "()V", sig := { parameters := [], returnType := none }, accessFlags := 2, code := none }
def k2c1 : Code := { maxStack := 4, maxLocals := 2, code := jdk_29_method_61_code, exceptionTable := #[], attributes := #[] }
def k2m1 : Method := { name := "abs", desc := "(J)J", sig := { parameters := [.long], returnType := some .long }, accessFlags := 9, code := some k2c1 }
def k2c2 : Code := { maxStack := 2, maxLocals := 2, code := jdk_29_method_65_code, exceptionTable := #[], attributes := #[] }
def k2m2 : Method := { name := "max", desc := "(II)I", sig := { parameters := [.int, .int], returnType := some .int }, accessFlags := 9, code := some k2c2 }
def k2c3 : Code := { maxStack := 4, maxLocals := 4, code := jdk_29_method_66_code, exceptionTable := #[], attributes := #[] }
def k2m3 : Method := { name := "max", desc := "(JJ)J", sig := { parameters := [.long, .long], returnType := some .long }, accessFlags := 9, code := some k2c3 }
def k2c4 : Code := { maxStack := 2, maxLocals := 2, code := jdk_29_method_69_code, exceptionTable := #[], attributes := #[] }
def k2m4 : Method := { name := "min", desc := "(II)I", sig := { parameters := [.int, .int], returnType := some .int }, accessFlags := 9, code := some k2c4 }
def k2c5 : Code := { maxStack := 4, maxLocals := 4, code := jdk_29_method_70_code, exceptionTable := #[], attributes := #[] }
def k2m5 : Method := { name := "min", desc := "(JJ)J", sig := { parameters := [.long, .long], returnType := some .long }, accessFlags := 9, code := some k2c5 }
/-- java/lang/Math -/
def k2 : Class := { plain "java/lang/Math" (some 0) with
  accessFlags := 49
  interfaces := #[]
  cf := some (fileOf pool2 1 #[.nestMembers #[98]] #[{ accessFlags := 2, nameIndex := 7, descriptorIndex := 8, attributes := #[] }, { accessFlags := 9, nameIndex := 124, descriptorIndex := 125, attributes := #[] }, { accessFlags := 9, nameIndex := 198, descriptorIndex := 335, attributes := #[] }, { accessFlags := 9, nameIndex := 198, descriptorIndex := 121, attributes := #[] }, { accessFlags := 9, nameIndex := 201, descriptorIndex := 335, attributes := #[] }, { accessFlags := 9, nameIndex := 201, descriptorIndex := 121, attributes := #[] }] 49 4 #[] #[{ accessFlags := 25, nameIndex := 354, descriptorIndex := 339, attributes := #[] }, { accessFlags := 25, nameIndex := 358, descriptorIndex := 339, attributes := #[] }, { accessFlags := 25, nameIndex := 361, descriptorIndex := 339, attributes := #[] }, { accessFlags := 26, nameIndex := 364, descriptorIndex := 339, attributes := #[] }, { accessFlags := 26, nameIndex := 365, descriptorIndex := 339, attributes := #[] }, { accessFlags := 26, nameIndex := 172, descriptorIndex := 173, attributes := #[] }, { accessFlags := 26, nameIndex := 176, descriptorIndex := 173, attributes := #[] }, { accessFlags := 8, nameIndex := 344, descriptorIndex := 339, attributes := #[] }, { accessFlags := 8, nameIndex := 338, descriptorIndex := 339, attributes := #[] }, { accessFlags := 4120, nameIndex := 245, descriptorIndex := 246, attributes := #[] }])
  fields := #[{ name := "E", type := .double, accessFlags := 25, slot := 0, constantValue := 0 }, { name := "PI", type := .double, accessFlags := 25, slot := 1, constantValue := 0 }, { name := "TAU", type := .double, accessFlags := 25, slot := 2, constantValue := 0 }, { name := "DEGREES_TO_RADIANS", type := .double, accessFlags := 26, slot := 3, constantValue := 0 }, { name := "RADIANS_TO_DEGREES", type := .double, accessFlags := 26, slot := 4, constantValue := 0 }, { name := "negativeZeroFloatBits", type := .long, accessFlags := 26, slot := 5, constantValue := 0 }, { name := "negativeZeroDoubleBits", type := .long, accessFlags := 26, slot := 6, constantValue := 0 }, { name := "twoToTheDoubleScaleUp", type := .double, accessFlags := 8, slot := 7, constantValue := 0 }, { name := "twoToTheDoubleScaleDown", type := .double, accessFlags := 8, slot := 8, constantValue := 0 }, { name := "$assertionsDisabled", type := .boolean, accessFlags := 4120, slot := 9, constantValue := 0 }]
  methods := #[k2m0, k2m1, k2m2, k2m3, k2m4, k2m5]
  instanceTypes := #[]
  staticTypes := #[.double, .double, .double, .double, .double, .long, .long, .double, .double, .boolean]
  resolved := Array.replicate 460 none
  statics := none }

def pool3 : Array CpInfo := pool [(4, .class_ 6), (1, u "java/time/temporal/TemporalAccessor"), (95, .class_ 103), (0, u "java/lang/Object")] 21

/-- java/time/temporal/TemporalAccessor -/
def k3 : Class := { plain "java/time/temporal/TemporalAccessor" (some 0) with
  accessFlags := 1537
  interfaces := #[]
  cf := some (fileOf pool3 4 #[] #[] 1537 102 #[] #[])
  fields := #[]
  methods := #[]
  instanceTypes := #[]
  staticTypes := #[]
  resolved := Array.replicate 125 none
  statics := none }

def pool4 : Array CpInfo := pool [(22, .class_ 24), (1, u "java/time/temporal/Temporal"), (2, .class_ 28), (0, u "java/lang/Object"), (0, .class_ 30), (0, u "java/time/temporal/TemporalAccessor")] 25

/-- java/time/temporal/Temporal -/
def k4 : Class := { plain "java/time/temporal/Temporal" (some 0) with
  accessFlags := 1537
  interfaces := #[3]
  cf := some (fileOf pool4 22 #[] #[] 1537 27 #[29] #[])
  fields := #[]
  methods := #[]
  instanceTypes := #[]
  staticTypes := #[]
  resolved := Array.replicate 56 none
  statics := none }

def pool5 : Array CpInfo := pool [(1, .class_ 2), (0, u "java/time/temporal/TemporalAdjuster"), (0, .class_ 4), (0, u "java/lang/Object")] 6

/-- java/time/temporal/TemporalAdjuster -/
def k5 : Class := { plain "java/time/temporal/TemporalAdjuster" (some 0) with
  accessFlags := 1537
  interfaces := #[]
  cf := some (fileOf pool5 1 #[] #[] 1537 3 #[] #[])
  fields := #[]
  methods := #[]
  instanceTypes := #[]
  staticTypes := #[]
  resolved := Array.replicate 11 none
  statics := none }

def pool6 : Array CpInfo := pool [(1, .class_ 2), (0, u "java/lang/Comparable"), (0, .class_ 4), (0, u "java/lang/Object")] 7

/-- java/lang/Comparable -/
def k6 : Class := { plain "java/lang/Comparable" (some 0) with
  accessFlags := 1537
  interfaces := #[]
  cf := some (fileOf pool6 1 #[] #[] 1537 3 #[] #[])
  fields := #[]
  methods := #[]
  instanceTypes := #[]
  staticTypes := #[]
  resolved := Array.replicate 12 none
  statics := none }

def pool7 : Array CpInfo := pool [(9, .class_ 10), (0, u "java/time/chrono/ChronoLocalDate"), (104, .class_ 117), (1, u "java/time/temporal/Temporal"), (134, .class_ 253), (0, u "java/lang/Object"), (23, .class_ 278), (0, u "java/time/temporal/TemporalAdjuster"), (0, .class_ 280), (0, u "java/lang/Comparable")] 86

/-- java/time/chrono/ChronoLocalDate -/
def k7 : Class := { plain "java/time/chrono/ChronoLocalDate" (some 0) with
  accessFlags := 1537
  interfaces := #[4, 5, 6]
  cf := some (fileOf pool7 9 #[] #[] 1537 252 #[115, 277, 279] #[])
  fields := #[]
  methods := #[]
  instanceTypes := #[]
  staticTypes := #[]
  resolved := Array.replicate 367 none
  statics := none }

def pool8 : Array CpInfo := pool [(1, .class_ 2), (0, u "java/io/Serializable"), (0, .class_ 4), (0, u "java/lang/Object")] 2

/-- java/io/Serializable -/
def k8 : Class := { plain "java/io/Serializable" (some 0) with
  accessFlags := 1537
  interfaces := #[]
  cf := some (fileOf pool8 1 #[] #[] 1537 3 #[] #[])
  fields := #[]
  methods := #[]
  instanceTypes := #[]
  staticTypes := #[]
  resolved := Array.replicate 7 none
  statics := none }

def pool9 : Array CpInfo := pool [(1, .class_ 2), (0, u "java/time/LocalDate"), (37, .class_ 42), (1, u "java/time/temporal/ChronoField"), (1, u "Ljava/time/temporal/ChronoField;"), (0, .methodref 40 46), (0, .nameAndType 47 48), (0, u "checkValidValue"), (0, u "(J)J"), (1, u "month"), (8, u "()I"), (25, .nameAndType 86 87), (0, u "<init>"), (0, u "()V"), (33, .methodref 1 122), (0, .nameAndType 86 123), (0, u "(III)V"), (35, u "ofEpochDay"), (0, u "(J)Ljava/time/LocalDate;"), (0, .fieldref 40 162), (0, .nameAndType 163 44), (0, u "EPOCH_DAY"), (0, .long 719528), (1, .long 60), (1, .long 146097), (1, .long 400), (1, .long 591), (1, .long 365), (1, .long 4), (1, .long 100), (64, .methodref 244 85), (0, .class_ 245), (0, u "java/lang/Object"), (0, .fieldref 1 247), (0, .nameAndType 248 249), (0, u "year"), (0, u "I"), (0, .fieldref 1 251), (0, .nameAndType 50 252), (0, u "S"), (0, .fieldref 1 254), (0, .nameAndType 255 252), (0, u "day"), (1, .class_ 259), (1, u "java/time/chrono/ChronoLocalDate"), (10, .class_ 272), (1, u "java/time/LocalDate$1"), (30, u "getYear"), (76, .class_ 382), (1, u "java/time/temporal/TemporalAdjuster"), (153, u "getDayOfMonth"), (51, u "MAX"), (0, u "Ljava/time/LocalDate;"), (2, u "MIN"), (86, .methodref 1 680), (0, .nameAndType 681 682), (0, u "compareTo0"), (0, u "(Ljava/time/LocalDate;)I"), (7, u "(Ljava/time/chrono/ChronoLocalDate;)Z"), (2, u "isBefore"), (75, u "EPOCH"), (0, .class_ 771), (0, u "java/time/temporal/Temporal"), (0, .class_ 773), (0, u "java/io/Serializable"), (0, u "serialVersionUID"), (0, u "J"), (3, u "DAYS_PER_CYCLE"), (1, u "DAYS_0000_TO_1970"), (42, u "getMonthValue")] 163

def k9c0 : Code := { maxStack := 8, maxLocals := 14, code := jdk_2323_method_8_code, exceptionTable := #[], attributes := #[] }
def k9m0 : Method := { name := "ofEpochDay", desc := "(J)Ljava/time/LocalDate;", sig := { parameters := [.long], returnType := some (.object "java/time/LocalDate") }, accessFlags := 9, code := some k9c0 }
def k9c1 : Code := { maxStack := 2, maxLocals := 4, code := jdk_2323_method_14_code, exceptionTable := #[], attributes := #[] }
def k9m1 : Method := { name := "<init>", desc := "(III)V", sig := { parameters := [.int, .int, .int], returnType := none }, accessFlags := 2, code := some k9c1 }
def k9c2 : Code := { maxStack := 1, maxLocals := 1, code := jdk_2323_method_24_code, exceptionTable := #[], attributes := #[] }
def k9m2 : Method := { name := "getYear", desc := "()I", sig := { parameters := [], returnType := some .int }, accessFlags := 1, code := some k9c2 }
def k9c3 : Code := { maxStack := 1, maxLocals := 1, code := jdk_2323_method_25_code, exceptionTable := #[], attributes := #[] }
def k9m3 : Method := { name := "getMonthValue", desc := "()I", sig := { parameters := [], returnType := some .int }, accessFlags := 1, code := some k9c3 }
def k9c4 : Code := { maxStack := 1, maxLocals := 1, code := jdk_2323_method_27_code, exceptionTable := #[], attributes := #[] }
def k9m4 : Method := { name := "getDayOfMonth", desc := "()I", sig := { parameters := [], returnType := some .int }, accessFlags := 1, code := some k9c4 }
def k9c5 : Code := { maxStack := 2, maxLocals := 3, code := jdk_2323_method_70_code, exceptionTable := #[], attributes := #[] }
def k9m5 : Method := { name := "compareTo0", desc := "(Ljava/time/LocalDate;)I", sig := { parameters := [(.object "java/time/LocalDate")], returnType := some .int }, accessFlags := 0, code := some k9c5 }
def k9c6 : Code := { maxStack := 2, maxLocals := 2, code := jdk_2323_method_72_code, exceptionTable := #[], attributes := #[] }
def k9m6 : Method := { name := "isBefore", desc := "(Ljava/time/chrono/ChronoLocalDate;)Z", sig := { parameters := [(.object "java/time/chrono/ChronoLocalDate")], returnType := some .boolean }, accessFlags := 1, code := some k9c6 }
/-- java/time/LocalDate -/
def k9 : Class := { plain "java/time/LocalDate" (some 0) with
  accessFlags := 49
  interfaces := #[4, 5, 7, 8]
  cf := some (fileOf pool9 1 #[.nestMembers #[270]] #[{ accessFlags := 9, nameIndex := 159, descriptorIndex := 160, attributes := #[] }, { accessFlags := 2, nameIndex := 86, descriptorIndex := 123, attributes := #[] }, { accessFlags := 1, nameIndex := 303, descriptorIndex := 59, attributes := #[] }, { accessFlags := 1, nameIndex := 824, descriptorIndex := 59, attributes := #[] }, { accessFlags := 1, nameIndex := 536, descriptorIndex := 59, attributes := #[] }, { accessFlags := 0, nameIndex := 681, descriptorIndex := 682, attributes := #[] }, { accessFlags := 1, nameIndex := 693, descriptorIndex := 690, attributes := #[] }] 49 244 #[770, 380, 257, 772] #[{ accessFlags := 25, nameIndex := 592, descriptorIndex := 589, attributes := #[] }, { accessFlags := 25, nameIndex := 588, descriptorIndex := 589, attributes := #[] }, { accessFlags := 25, nameIndex := 769, descriptorIndex := 589, attributes := #[] }, { accessFlags := 26, nameIndex := 774, descriptorIndex := 775, attributes := #[] }, { accessFlags := 26, nameIndex := 779, descriptorIndex := 249, attributes := #[] }, { accessFlags := 24, nameIndex := 781, descriptorIndex := 775, attributes := #[] }, { accessFlags := 18, nameIndex := 248, descriptorIndex := 249, attributes := #[] }, { accessFlags := 18, nameIndex := 50, descriptorIndex := 252, attributes := #[] }, { accessFlags := 18, nameIndex := 255, descriptorIndex := 252, attributes := #[] }])
  fields := #[{ name := "MIN", type := (.object "java/time/LocalDate"), accessFlags := 25, slot := 0, constantValue := 0 }, { name := "MAX", type := (.object "java/time/LocalDate"), accessFlags := 25, slot := 1, constantValue := 0 }, { name := "EPOCH", type := (.object "java/time/LocalDate"), accessFlags := 25, slot := 2, constantValue := 0 }, { name := "serialVersionUID", type := .long, accessFlags := 26, slot := 3, constantValue := 0 }, { name := "DAYS_PER_CYCLE", type := .int, accessFlags := 26, slot := 4, constantValue := 0 }, { name := "DAYS_0000_TO_1970", type := .long, accessFlags := 24, slot := 5, constantValue := 0 }, { name := "year", type := .int, accessFlags := 18, slot := 0, constantValue := 0 }, { name := "month", type := .short, accessFlags := 18, slot := 1, constantValue := 0 }, { name := "day", type := .short, accessFlags := 18, slot := 2, constantValue := 0 }]
  methods := #[k9m0, k9m1, k9m2, k9m3, k9m4, k9m5, k9m6]
  instanceTypes := #[.int, .short, .short]
  staticTypes := #[(.object "java/time/LocalDate"), (.object "java/time/LocalDate"), (.object "java/time/LocalDate"), .long, .int, .long]
  resolved := Array.replicate 988 none
  statics := none }

def pool10 : Array CpInfo := pool [(1, .class_ 2), (0, u "java/lang/constant/Constable"), (0, .class_ 4), (0, u "java/lang/Object")] 6

/-- java/lang/constant/Constable -/
def k10 : Class := { plain "java/lang/constant/Constable" (some 0) with
  accessFlags := 1537
  interfaces := #[]
  cf := some (fileOf pool10 1 #[] #[] 1537 3 #[] #[])
  fields := #[]
  methods := #[]
  instanceTypes := #[]
  staticTypes := #[]
  resolved := Array.replicate 11 none
  statics := none }

def pool11 : Array CpInfo := pool [(2, .class_ 4), (1, u "java/lang/Enum"), (0, u "name"), (0, u "Ljava/lang/String;"), (0, .fieldref 2 8), (0, .nameAndType 9 10), (0, u "ordinal"), (0, u "I"), (1, .class_ 14), (1, u "java/lang/Object"), (4, u "hash"), (86, .class_ 108), (1, u "java/lang/Enum$EnumDesc"), (2, .class_ 112), (0, u "java/lang/constant/Constable"), (0, .class_ 114), (0, u "java/lang/Comparable"), (0, .class_ 116), (0, u "java/io/Serializable"), (9, u "()I")] 77

def k11c0 : Code := { maxStack := 1, maxLocals := 1, code := jdk_37_method_2_code, exceptionTable := #[], attributes := #[] }
def k11m0 : Method := { name := "ordinal", desc := "()I", sig := { parameters := [], returnType := some .int }, accessFlags := 17, code := some k11c0 }
/-- java/lang/Enum -/
def k11 : Class := { plain "java/lang/Enum" (some 0) with
  accessFlags := 1057
  interfaces := #[10, 6, 8]
  cf := some (fileOf pool11 2 #[.nestMembers #[106]] #[{ accessFlags := 17, nameIndex := 9, descriptorIndex := 126, attributes := #[] }] 1057 12 #[111, 113, 115] #[{ accessFlags := 18, nameIndex := 5, descriptorIndex := 6, attributes := #[] }, { accessFlags := 18, nameIndex := 9, descriptorIndex := 10, attributes := #[] }, { accessFlags := 2, nameIndex := 19, descriptorIndex := 10, attributes := #[] }])
  fields := #[{ name := "name", type := (.object "java/lang/String"), accessFlags := 18, slot := 0, constantValue := 0 }, { name := "ordinal", type := .int, accessFlags := 18, slot := 1, constantValue := 0 }, { name := "hash", type := .int, accessFlags := 2, slot := 2, constantValue := 0 }]
  methods := #[k11m0]
  instanceTypes := #[(.object "java/lang/String"), .int, .int]
  staticTypes := #[]
  resolved := Array.replicate 204 none
  statics := none }

def pool12 : Array CpInfo := pool [(10, .class_ 12), (1, u "java/time/temporal/TemporalField"), (2, .class_ 16), (0, u "java/lang/Object")] 39

/-- java/time/temporal/TemporalField -/
def k12 : Class := { plain "java/time/temporal/TemporalField" (some 0) with
  accessFlags := 1537
  interfaces := #[]
  cf := some (fileOf pool12 10 #[] #[] 1537 15 #[] #[])
  fields := #[]
  methods := #[]
  instanceTypes := #[]
  staticTypes := #[]
  resolved := Array.replicate 56 none
  statics := none }

def pool13 : Array CpInfo := pool [(1, .class_ 2), (0, u "java/time/temporal/ChronoField"), (2, u "NANO_OF_SECOND"), (0, u "Ljava/time/temporal/ChronoField;"), (2, u "NANO_OF_DAY"), (2, u "MICRO_OF_SECOND"), (2, u "MICRO_OF_DAY"), (2, u "MILLI_OF_SECOND"), (2, u "MILLI_OF_DAY"), (2, u "SECOND_OF_MINUTE"), (2, u "SECOND_OF_DAY"), (2, u "MINUTE_OF_HOUR"), (2, u "MINUTE_OF_DAY"), (2, u "HOUR_OF_AMPM"), (2, u "CLOCK_HOUR_OF_AMPM"), (2, u "HOUR_OF_DAY"), (2, u "CLOCK_HOUR_OF_DAY"), (2, u "AMPM_OF_DAY"), (2, u "DAY_OF_WEEK"), (2, u "ALIGNED_DAY_OF_WEEK_IN_MONTH"), (2, u "ALIGNED_DAY_OF_WEEK_IN_YEAR"), (2, u "DAY_OF_MONTH"), (2, u "DAY_OF_YEAR"), (2, u "EPOCH_DAY"), (2, u "ALIGNED_WEEK_OF_MONTH"), (2, u "ALIGNED_WEEK_OF_YEAR"), (2, u "MONTH_OF_YEAR"), (2, u "PROLEPTIC_MONTH"), (2, u "YEAR_OF_ERA"), (2, u "YEAR"), (2, u "ERA"), (2, u "INSTANT_SECONDS"), (2, u "OFFSET_SECONDS"), (2, u "$VALUES"), (0, u "[Ljava/time/temporal/ChronoField;"), (6, .class_ 106), (1, u "java/lang/Enum"), (8, u "name"), (0, u "Ljava/lang/String;"), (2, u "baseUnit"), (0, u "Ljava/time/temporal/TemporalUnit;"), (2, u "rangeUnit"), (0, .fieldref 1 125), (0, .nameAndType 126 127), (0, u "range"), (0, u "Ljava/time/temporal/ValueRange;"), (2, u "displayNameKey"), (59, .methodref 1 191), (0, .nameAndType 126 192), (0, u "()Ljava/time/temporal/ValueRange;"), (0, .methodref 194 195), (0, .class_ 196), (0, .nameAndType 197 198), (0, u "java/time/temporal/ValueRange"), (0, u "checkValidValue"), (0, u "(JLjava/time/temporal/TemporalField;)J"), (256, .class_ 456), (0, u "java/time/temporal/TemporalField"), (27, u "(J)J")] 22

def k13c0 : Code := { maxStack := 1, maxLocals := 1, code := jdk_2395_method_8_code, exceptionTable := #[], attributes := #[] }
def k13m0 : Method := { name := "range", desc := "()Ljava/time/temporal/ValueRange;", sig := { parameters := [], returnType := some (.object "java/time/temporal/ValueRange") }, accessFlags := 1, code := some k13c0 }
def k13c1 : Code := { maxStack := 4, maxLocals := 3, code := jdk_2395_method_11_code, exceptionTable := #[], attributes := #[] }
def k13m1 : Method := { name := "checkValidValue", desc := "(J)J", sig := { parameters := [.long], returnType := some .long }, accessFlags := 1, code := some k13c1 }
/-- java/time/temporal/ChronoField -/
def k13 : Class := { plain "java/time/temporal/ChronoField" (some 11) with
  accessFlags := 16433
  interfaces := #[12]
  cf := some (fileOf pool13 1 #[] #[{ accessFlags := 1, nameIndex := 126, descriptorIndex := 192, attributes := #[] }, { accessFlags := 1, nameIndex := 197, descriptorIndex := 484, attributes := #[] }] 16433 104 #[455] #[{ accessFlags := 16409, nameIndex := 5, descriptorIndex := 6, attributes := #[] }, { accessFlags := 16409, nameIndex := 9, descriptorIndex := 6, attributes := #[] }, { accessFlags := 16409, nameIndex := 12, descriptorIndex := 6, attributes := #[] }, { accessFlags := 16409, nameIndex := 15, descriptorIndex := 6, attributes := #[] }, { accessFlags := 16409, nameIndex := 18, descriptorIndex := 6, attributes := #[] }, { accessFlags := 16409, nameIndex := 21, descriptorIndex := 6, attributes := #[] }, { accessFlags := 16409, nameIndex := 24, descriptorIndex := 6, attributes := #[] }, { accessFlags := 16409, nameIndex := 27, descriptorIndex := 6, attributes := #[] }, { accessFlags := 16409, nameIndex := 30, descriptorIndex := 6, attributes := #[] }, { accessFlags := 16409, nameIndex := 33, descriptorIndex := 6, attributes := #[] }, { accessFlags := 16409, nameIndex := 36, descriptorIndex := 6, attributes := #[] }, { accessFlags := 16409, nameIndex := 39, descriptorIndex := 6, attributes := #[] }, { accessFlags := 16409, nameIndex := 42, descriptorIndex := 6, attributes := #[] }, { accessFlags := 16409, nameIndex := 45, descriptorIndex := 6, attributes := #[] }, { accessFlags := 16409, nameIndex := 48, descriptorIndex := 6, attributes := #[] }, { accessFlags := 16409, nameIndex := 51, descriptorIndex := 6, attributes := #[] }, { accessFlags := 16409, nameIndex := 54, descriptorIndex := 6, attributes := #[] }, { accessFlags := 16409, nameIndex := 57, descriptorIndex := 6, attributes := #[] }, { accessFlags := 16409, nameIndex := 60, descriptorIndex := 6, attributes := #[] }, { accessFlags := 16409, nameIndex := 63, descriptorIndex := 6, attributes := #[] }, { accessFlags := 16409, nameIndex := 66, descriptorIndex := 6, attributes := #[] }, { accessFlags := 16409, nameIndex := 69, descriptorIndex := 6, attributes := #[] }, { accessFlags := 16409, nameIndex := 72, descriptorIndex := 6, attributes := #[] }, { accessFlags := 16409, nameIndex := 75, descriptorIndex := 6, attributes := #[] }, { accessFlags := 16409, nameIndex := 78, descriptorIndex := 6, attributes := #[] }, { accessFlags := 16409, nameIndex := 81, descriptorIndex := 6, attributes := #[] }, { accessFlags := 16409, nameIndex := 84, descriptorIndex := 6, attributes := #[] }, { accessFlags := 16409, nameIndex := 87, descriptorIndex := 6, attributes := #[] }, { accessFlags := 16409, nameIndex := 90, descriptorIndex := 6, attributes := #[] }, { accessFlags := 16409, nameIndex := 93, descriptorIndex := 6, attributes := #[] }, { accessFlags := 18, nameIndex := 115, descriptorIndex := 116, attributes := #[] }, { accessFlags := 18, nameIndex := 119, descriptorIndex := 120, attributes := #[] }, { accessFlags := 18, nameIndex := 123, descriptorIndex := 120, attributes := #[] }, { accessFlags := 18, nameIndex := 126, descriptorIndex := 127, attributes := #[] }, { accessFlags := 18, nameIndex := 130, descriptorIndex := 116, attributes := #[] }, { accessFlags := 4122, nameIndex := 96, descriptorIndex := 97, attributes := #[] }])
  fields := #[{ name := "NANO_OF_SECOND", type := (.object "java/time/temporal/ChronoField"), accessFlags := 16409, slot := 0, constantValue := 0 }, { name := "NANO_OF_DAY", type := (.object "java/time/temporal/ChronoField"), accessFlags := 16409, slot := 1, constantValue := 0 }, { name := "MICRO_OF_SECOND", type := (.object "java/time/temporal/ChronoField"), accessFlags := 16409, slot := 2, constantValue := 0 }, { name := "MICRO_OF_DAY", type := (.object "java/time/temporal/ChronoField"), accessFlags := 16409, slot := 3, constantValue := 0 }, { name := "MILLI_OF_SECOND", type := (.object "java/time/temporal/ChronoField"), accessFlags := 16409, slot := 4, constantValue := 0 }, { name := "MILLI_OF_DAY", type := (.object "java/time/temporal/ChronoField"), accessFlags := 16409, slot := 5, constantValue := 0 }, { name := "SECOND_OF_MINUTE", type := (.object "java/time/temporal/ChronoField"), accessFlags := 16409, slot := 6, constantValue := 0 }, { name := "SECOND_OF_DAY", type := (.object "java/time/temporal/ChronoField"), accessFlags := 16409, slot := 7, constantValue := 0 }, { name := "MINUTE_OF_HOUR", type := (.object "java/time/temporal/ChronoField"), accessFlags := 16409, slot := 8, constantValue := 0 }, { name := "MINUTE_OF_DAY", type := (.object "java/time/temporal/ChronoField"), accessFlags := 16409, slot := 9, constantValue := 0 }, { name := "HOUR_OF_AMPM", type := (.object "java/time/temporal/ChronoField"), accessFlags := 16409, slot := 10, constantValue := 0 }, { name := "CLOCK_HOUR_OF_AMPM", type := (.object "java/time/temporal/ChronoField"), accessFlags := 16409, slot := 11, constantValue := 0 }, { name := "HOUR_OF_DAY", type := (.object "java/time/temporal/ChronoField"), accessFlags := 16409, slot := 12, constantValue := 0 }, { name := "CLOCK_HOUR_OF_DAY", type := (.object "java/time/temporal/ChronoField"), accessFlags := 16409, slot := 13, constantValue := 0 }, { name := "AMPM_OF_DAY", type := (.object "java/time/temporal/ChronoField"), accessFlags := 16409, slot := 14, constantValue := 0 }, { name := "DAY_OF_WEEK", type := (.object "java/time/temporal/ChronoField"), accessFlags := 16409, slot := 15, constantValue := 0 }, { name := "ALIGNED_DAY_OF_WEEK_IN_MONTH", type := (.object "java/time/temporal/ChronoField"), accessFlags := 16409, slot := 16, constantValue := 0 }, { name := "ALIGNED_DAY_OF_WEEK_IN_YEAR", type := (.object "java/time/temporal/ChronoField"), accessFlags := 16409, slot := 17, constantValue := 0 }, { name := "DAY_OF_MONTH", type := (.object "java/time/temporal/ChronoField"), accessFlags := 16409, slot := 18, constantValue := 0 }, { name := "DAY_OF_YEAR", type := (.object "java/time/temporal/ChronoField"), accessFlags := 16409, slot := 19, constantValue := 0 }, { name := "EPOCH_DAY", type := (.object "java/time/temporal/ChronoField"), accessFlags := 16409, slot := 20, constantValue := 0 }, { name := "ALIGNED_WEEK_OF_MONTH", type := (.object "java/time/temporal/ChronoField"), accessFlags := 16409, slot := 21, constantValue := 0 }, { name := "ALIGNED_WEEK_OF_YEAR", type := (.object "java/time/temporal/ChronoField"), accessFlags := 16409, slot := 22, constantValue := 0 }, { name := "MONTH_OF_YEAR", type := (.object "java/time/temporal/ChronoField"), accessFlags := 16409, slot := 23, constantValue := 0 }, { name := "PROLEPTIC_MONTH", type := (.object "java/time/temporal/ChronoField"), accessFlags := 16409, slot := 24, constantValue := 0 }, { name := "YEAR_OF_ERA", type := (.object "java/time/temporal/ChronoField"), accessFlags := 16409, slot := 25, constantValue := 0 }, { name := "YEAR", type := (.object "java/time/temporal/ChronoField"), accessFlags := 16409, slot := 26, constantValue := 0 }, { name := "ERA", type := (.object "java/time/temporal/ChronoField"), accessFlags := 16409, slot := 27, constantValue := 0 }, { name := "INSTANT_SECONDS", type := (.object "java/time/temporal/ChronoField"), accessFlags := 16409, slot := 28, constantValue := 0 }, { name := "OFFSET_SECONDS", type := (.object "java/time/temporal/ChronoField"), accessFlags := 16409, slot := 29, constantValue := 0 }, { name := "name", type := (.object "java/lang/String"), accessFlags := 18, slot := 3, constantValue := 0 }, { name := "baseUnit", type := (.object "java/time/temporal/TemporalUnit"), accessFlags := 18, slot := 4, constantValue := 0 }, { name := "rangeUnit", type := (.object "java/time/temporal/TemporalUnit"), accessFlags := 18, slot := 5, constantValue := 0 }, { name := "range", type := (.object "java/time/temporal/ValueRange"), accessFlags := 18, slot := 6, constantValue := 0 }, { name := "displayNameKey", type := (.object "java/lang/String"), accessFlags := 18, slot := 7, constantValue := 0 }, { name := "$VALUES", type := (.array (.object "java/time/temporal/ChronoField")), accessFlags := 4122, slot := 30, constantValue := 0 }]
  methods := #[k13m0, k13m1]
  instanceTypes := #[(.object "java/lang/String"), .int, .int, (.object "java/lang/String"), (.object "java/time/temporal/TemporalUnit"), (.object "java/time/temporal/TemporalUnit"), (.object "java/time/temporal/ValueRange"), (.object "java/lang/String")]
  staticTypes := #[(.object "java/time/temporal/ChronoField"), (.object "java/time/temporal/ChronoField"), (.object "java/time/temporal/ChronoField"), (.object "java/time/temporal/ChronoField"), (.object "java/time/temporal/ChronoField"), (.object "java/time/temporal/ChronoField"), (.object "java/time/temporal/ChronoField"), (.object "java/time/temporal/ChronoField"), (.object "java/time/temporal/ChronoField"), (.object "java/time/temporal/ChronoField"), (.object "java/time/temporal/ChronoField"), (.object "java/time/temporal/ChronoField"), (.object "java/time/temporal/ChronoField"), (.object "java/time/temporal/ChronoField"), (.object "java/time/temporal/ChronoField"), (.object "java/time/temporal/ChronoField"), (.object "java/time/temporal/ChronoField"), (.object "java/time/temporal/ChronoField"), (.object "java/time/temporal/ChronoField"), (.object "java/time/temporal/ChronoField"), (.object "java/time/temporal/ChronoField"), (.object "java/time/temporal/ChronoField"), (.object "java/time/temporal/ChronoField"), (.object "java/time/temporal/ChronoField"), (.object "java/time/temporal/ChronoField"), (.object "java/time/temporal/ChronoField"), (.object "java/time/temporal/ChronoField"), (.object "java/time/temporal/ChronoField"), (.object "java/time/temporal/ChronoField"), (.object "java/time/temporal/ChronoField"), (.array (.object "java/time/temporal/ChronoField"))]
  resolved := Array.replicate 507 none
  statics := some 0 }

def pool14 : Array CpInfo := pool [(9, .class_ 10), (0, u "java/time/temporal/ValueRange"), (18, .class_ 31), (1, u "java/lang/Object"), (1, .fieldref 9 34), (0, .nameAndType 35 36), (0, u "minSmallest"), (0, u "J"), (2, u "minLargest"), (2, u "maxSmallest"), (0, .fieldref 9 44), (0, .nameAndType 45 36), (0, u "maxLargest"), (0, .methodref 9 47), (0, .nameAndType 48 49), (0, u "getMinimum"), (0, u "()J"), (4, .methodref 9 55), (0, .nameAndType 56 49), (0, u "getMaximum"), (6, .methodref 9 64), (0, .nameAndType 65 66), (0, u "isValidValue"), (0, u "(J)Z"), (54, .class_ 122), (0, u "java/io/Serializable"), (0, u "serialVersionUID"), (17, u "checkValidValue"), (0, u "(JLjava/time/temporal/TemporalField;)J")] 24

def k14c0 : Code := { maxStack := 2, maxLocals := 1, code := jdk_2423_method_6_code, exceptionTable := #[], attributes := #[] }
def k14m0 : Method := { name := "getMinimum", desc := "()J", sig := { parameters := [], returnType := some .long }, accessFlags := 1, code := some k14c0 }
def k14c1 : Code := { maxStack := 2, maxLocals := 1, code := jdk_2423_method_9_code, exceptionTable := #[], attributes := #[] }
def k14m1 : Method := { name := "getMaximum", desc := "()J", sig := { parameters := [], returnType := some .long }, accessFlags := 1, code := some k14c1 }
def k14c2 : Code := { maxStack := 4, maxLocals := 3, code := jdk_2423_method_11_code, exceptionTable := #[], attributes := #[] }
def k14m2 : Method := { name := "isValidValue", desc := "(J)Z", sig := { parameters := [.long], returnType := some .boolean }, accessFlags := 1, code := some k14c2 }
def k14c3 : Code := { maxStack := 6, maxLocals := 4, code := jdk_2423_method_13_code, exceptionTable := #[], attributes := #[] }
def k14m3 : Method := { name := "checkValidValue", desc := "(JLjava/time/temporal/TemporalField;)J", sig := { parameters := [.long, (.object "java/time/temporal/TemporalField")], returnType := some .long }, accessFlags := 1, code := some k14c3 }
/-- java/time/temporal/ValueRange -/
def k14 : Class := { plain "java/time/temporal/ValueRange" (some 0) with
  accessFlags := 49
  interfaces := #[8]
  cf := some (fileOf pool14 9 #[] #[{ accessFlags := 1, nameIndex := 48, descriptorIndex := 49, attributes := #[] }, { accessFlags := 1, nameIndex := 56, descriptorIndex := 49, attributes := #[] }, { accessFlags := 1, nameIndex := 65, descriptorIndex := 66, attributes := #[] }, { accessFlags := 1, nameIndex := 141, descriptorIndex := 142, attributes := #[] }] 49 29 #[121] #[{ accessFlags := 26, nameIndex := 123, descriptorIndex := 36, attributes := #[] }, { accessFlags := 18, nameIndex := 35, descriptorIndex := 36, attributes := #[] }, { accessFlags := 18, nameIndex := 39, descriptorIndex := 36, attributes := #[] }, { accessFlags := 18, nameIndex := 42, descriptorIndex := 36, attributes := #[] }, { accessFlags := 18, nameIndex := 45, descriptorIndex := 36, attributes := #[] }])
  fields := #[{ name := "serialVersionUID", type := .long, accessFlags := 26, slot := 0, constantValue := 0 }, { name := "minSmallest", type := .long, accessFlags := 18, slot := 0, constantValue := 0 }, { name := "minLargest", type := .long, accessFlags := 18, slot := 1, constantValue := 0 }, { name := "maxSmallest", type := .long, accessFlags := 18, slot := 2, constantValue := 0 }, { name := "maxLargest", type := .long, accessFlags := 18, slot := 3, constantValue := 0 }]
  methods := #[k14m0, k14m1, k14m2, k14m3]
  instanceTypes := #[.long, .long, .long, .long]
  staticTypes := #[.long]
  resolved := Array.replicate 167 none
  statics := none }

def pool15 : Array CpInfo := pool [(1, .methodref 2 3), (0, .class_ 4), (0, .nameAndType 5 6), (0, u "java/lang/Object"), (0, u "<init>"), (0, u "()V"), (0, .class_ 8), (0, u "com/example/roomyield/roomyield/NightTally"), (0, .integer 120000), (0, .class_ 11), (0, u "com/example/roomyield/roomyield/NightTally$MonthNights"), (0, .fieldref 7 13), (0, .nameAndType 14 15), (0, u "months"), (0, u "[Lcom/example/roomyield/roomyield/NightTally$MonthNights;"), (2, .integer 2147483647), (0, .fieldref 7 20), (0, .nameAndType 21 22), (0, u "firstNightMonth"), (0, u "I"), (0, .fieldref 7 24), (0, .nameAndType 25 22), (0, u "lastNightMonth"), (0, .methodref 27 28), (0, .class_ 29), (0, .nameAndType 30 31), (0, u "java/time/LocalDate"), (0, u "isBefore"), (0, u "(Ljava/time/chrono/ChronoLocalDate;)Z"), (15, .methodref 27 48), (0, .nameAndType 49 50), (0, u "getYear"), (0, u "()I"), (0, .methodref 27 52), (0, .nameAndType 53 50), (0, u "getMonthValue"), (0, .methodref 7 55), (0, .nameAndType 56 57), (0, u "index"), (0, u "(II)I"), (0, .methodref 7 59), (0, .nameAndType 60 61), (0, u "tally"), (0, u "(I)Lcom/example/roomyield/roomyield/NightTally$MonthNights;"), (0, .fieldref 10 63), (0, .nameAndType 64 65), (0, u "occupiedChange"), (0, u "[J"), (0, .methodref 27 67), (0, .nameAndType 68 50), (0, u "getDayOfMonth"), (0, .methodref 70 71), (0, .class_ 72), (0, .nameAndType 73 50), (0, u "java/math/BigDecimal"), (0, u "signum"), (0, .fieldref 10 75), (0, .nameAndType 76 77), (0, u "nights"), (0, u "Lcom/example/roomyield/roomyield/NightTally$Nights;"), (0, .methodref 79 80), (0, .class_ 81), (0, .nameAndType 82 83), (0, u "com/example/roomyield/roomyield/NightTally$Nights"), (0, u "add"), (0, u "(JZLjava/math/BigDecimal;Ljava/math/BigDecimal;)V"), (0, .fieldref 10 85), (0, .nameAndType 86 77), (0, u "wholeMonthChange"), (0, .long 18446744073709551615), (1, .methodref 90 91), (0, .class_ 92), (0, .nameAndType 93 57), (0, u "java/lang/Math"), (0, u "min"), (0, .methodref 90 95), (0, .nameAndType 96 57), (0, u "max"), (0, .methodref 98 99), (0, .class_ 100), (0, .nameAndType 101 102), (0, u "java/util/Optional"), (0, u "empty"), (0, u "()Ljava/util/Optional;"), (0, .methodref 7 104), (0, .nameAndType 105 106), (0, u "month"), (0, u "(I)Ljava/time/YearMonth;"), (0, .methodref 98 108), (0, .nameAndType 109 110), (0, u "of"), (0, u "(Ljava/lang/Object;)Ljava/util/Optional;"), (0, .class_ 112), (0, u "com/example/roomyield/roomyield/NightTally$Overbooked"), (1, .class_ 116), (1, u "java/time/YearMonth"), (14, .methodref 114 132), (0, .nameAndType 109 133), (0, u "(II)Ljava/time/YearMonth;"), (0, .methodref 114 135), (0, .nameAndType 136 50), (0, u "lengthOfMonth"), (0, .methodref 10 138), (0, .nameAndType 5 139), (0, u "(I)V"), (0, .class_ 141), (0, u "com/example/roomyield/roomyield/NightTally$1"), (3, u "YEARS"), (4, u "(Ljava/time/LocalDate;Ljava/time/LocalDate;Ljava/math/BigDecimal;Ljava/math/BigDecimal;)V"), (1, u "firstMonth"), (14, .class_ 168), (0, u "com/example/roomyield/roomyield/NightTally$MonthStatistics")] 33

def k15c0 : Code := { maxStack := 2, maxLocals := 1, code := prog_5_method_1_code, exceptionTable := #[], attributes := #[] }
def k15m0 : Method := { name := "<init>", desc := "()V", sig := { parameters := [], returnType := none }, accessFlags := 0, code := some k15c0 }
def k15c1 : Code := { maxStack := 6, maxLocals := 10, code := prog_5_method_2_code, exceptionTable := #[], attributes := #[] }
def k15m1 : Method := { name := "add", desc := "(Ljava/time/LocalDate;Ljava/time/LocalDate;Ljava/math/BigDecimal;Ljava/math/BigDecimal;)V", sig := { parameters := [(.object "java/time/LocalDate"), (.object "java/time/LocalDate"), (.object "java/math/BigDecimal"), (.object "java/math/BigDecimal")], returnType := none }, accessFlags := 0, code := some k15c1 }
def k15c2 : Code := { maxStack := 1, maxLocals := 1, code := prog_5_method_3_code, exceptionTable := #[], attributes := #[] }
def k15m2 : Method := { name := "firstMonth", desc := "()Ljava/util/Optional;", sig := { parameters := [], returnType := some (.object "java/util/Optional") }, accessFlags := 0, code := some k15c2 }
def k15c3 : Code := { maxStack := 3, maxLocals := 2, code := prog_5_method_7_code, exceptionTable := #[], attributes := #[] }
def k15m3 : Method := { name := "index", desc := "(II)I", sig := { parameters := [.int, .int], returnType := some .int }, accessFlags := 10, code := some k15c3 }
def k15c4 : Code := { maxStack := 3, maxLocals := 1, code := prog_5_method_8_code, exceptionTable := #[], attributes := #[] }
def k15m4 : Method := { name := "month", desc := "(I)Ljava/time/YearMonth;", sig := { parameters := [.int], returnType := some (.object "java/time/YearMonth") }, accessFlags := 10, code := some k15c4 }
def k15c5 : Code := { maxStack := 5, maxLocals := 2, code := prog_5_method_9_code, exceptionTable := #[], attributes := #[] }
def k15m5 : Method := { name := "tally", desc := "(I)Lcom/example/roomyield/roomyield/NightTally$MonthNights;", sig := { parameters := [.int], returnType := some (.object "com/example/roomyield/roomyield/NightTally$MonthNights") }, accessFlags := 2, code := some k15c5 }
/-- com/example/roomyield/roomyield/NightTally -/
def k15 : Class := { plain "com/example/roomyield/roomyield/NightTally" (some 0) with
  accessFlags := 48
  interfaces := #[]
  cf := some (fileOf pool15 7 #[.nestMembers #[79, 10, 167, 111, 140]] #[{ accessFlags := 0, nameIndex := 5, descriptorIndex := 6, attributes := #[] }, { accessFlags := 0, nameIndex := 82, descriptorIndex := 150, attributes := #[] }, { accessFlags := 0, nameIndex := 152, descriptorIndex := 102, attributes := #[] }, { accessFlags := 10, nameIndex := 56, descriptorIndex := 57, attributes := #[] }, { accessFlags := 10, nameIndex := 105, descriptorIndex := 106, attributes := #[] }, { accessFlags := 2, nameIndex := 60, descriptorIndex := 61, attributes := #[] }] 48 2 #[] #[{ accessFlags := 26, nameIndex := 145, descriptorIndex := 22, attributes := #[] }, { accessFlags := 18, nameIndex := 14, descriptorIndex := 15, attributes := #[] }, { accessFlags := 2, nameIndex := 21, descriptorIndex := 22, attributes := #[] }, { accessFlags := 2, nameIndex := 25, descriptorIndex := 22, attributes := #[] }])
  fields := #[{ name := "YEARS", type := .int, accessFlags := 26, slot := 0, constantValue := 0 }, { name := "months", type := (.array (.object "com/example/roomyield/roomyield/NightTally$MonthNights")), accessFlags := 18, slot := 0, constantValue := 0 }, { name := "firstNightMonth", type := .int, accessFlags := 2, slot := 1, constantValue := 0 }, { name := "lastNightMonth", type := .int, accessFlags := 2, slot := 2, constantValue := 0 }]
  methods := #[k15m0, k15m1, k15m2, k15m3, k15m4, k15m5]
  instanceTypes := #[(.array (.object "com/example/roomyield/roomyield/NightTally$MonthNights")), .int, .int]
  staticTypes := #[.int]
  resolved := #[none, none, none, none, none, none, none, none, none, none, some (.cls 16), none, none, none, none, none, none, none, none, none, none, none, none, none, none, none, none, none, none, none, none, none, none, none, none, none, none, none, none, none, none, none, none, none, none, none, none, none, none, none, none, none, none, none, none, none, none, none, none, none, none, none, some (.field 16 0), none, none, none, none, none, none, none, none, none, none, none, some (.field 16 1), none, none, none, some (.method ⟨25, 1⟩), some (.cls 25), none, none, none, none, some (.field 16 2), none, none, none, none, none, none, none, none, none, none, none, none, none, none, none, none, none, none, none, none, none, none, none, none, none, none, none, none, none, none, none, none, none, none, none, none, none, none, none, none, none, none, none, none, none, none, none, none, none, none, none, none, some (.method ⟨16, 0⟩), none, none, none, none, none, none, none, none, none, none, none, none, none, none, none, none, none, none, none, none, none, none, none, none, none, none, none, none, none, none, none, none, none, none, none, none, none, none, none, none, none, none, none, none, none, none, none, none, none, none, none, none, none, none, none, none, none, none, none, none, none, none, none, none]
  statics := none }

def pool16 : Array CpInfo := pool [(1, .methodref 2 3), (0, .class_ 4), (0, .nameAndType 5 6), (0, u "java/lang/Object"), (0, u "<init>"), (0, u "()V"), (0, .class_ 8), (0, u "com/example/roomyield/roomyield/NightTally$Nights"), (0, .methodref 7 3), (0, .fieldref 11 12), (0, .class_ 13), (0, .nameAndType 14 15), (0, u "com/example/roomyield/roomyield/NightTally$MonthNights"), (0, u "nights"), (0, u "Lcom/example/roomyield/roomyield/NightTally$Nights;"), (0, .fieldref 11 17), (0, .nameAndType 18 15), (0, u "wholeMonthChange"), (0, .fieldref 11 20), (0, .nameAndType 21 22), (0, u "occupiedChange"), (0, u "[J"), (0, u "(I)V"), (5, .class_ 30), (0, u "com/example/roomyield/roomyield/NightTally")] 3

def k16c0 : Code := { maxStack := 3, maxLocals := 2, code := prog_7_method_1_code, exceptionTable := #[], attributes := #[] }
def k16m0 : Method := { name := "<init>", desc := "(I)V", sig := { parameters := [.int], returnType := none }, accessFlags := 2, code := some k16c0 }
/-- com/example/roomyield/roomyield/NightTally$MonthNights -/
def k16 : Class := { plain "com/example/roomyield/roomyield/NightTally$MonthNights" (some 0) with
  accessFlags := 48
  interfaces := #[]
  cf := some (fileOf pool16 11 #[.nestHost 29] #[{ accessFlags := 2, nameIndex := 5, descriptorIndex := 23, attributes := #[] }] 48 2 #[] #[{ accessFlags := 18, nameIndex := 21, descriptorIndex := 22, attributes := #[] }, { accessFlags := 18, nameIndex := 14, descriptorIndex := 15, attributes := #[] }, { accessFlags := 18, nameIndex := 18, descriptorIndex := 15, attributes := #[] }])
  fields := #[{ name := "occupiedChange", type := (.array .long), accessFlags := 18, slot := 0, constantValue := 0 }, { name := "nights", type := (.object "com/example/roomyield/roomyield/NightTally$Nights"), accessFlags := 18, slot := 1, constantValue := 0 }, { name := "wholeMonthChange", type := (.object "com/example/roomyield/roomyield/NightTally$Nights"), accessFlags := 18, slot := 2, constantValue := 0 }]
  methods := #[k16m0]
  instanceTypes := #[(.array .long), (.object "com/example/roomyield/roomyield/NightTally$Nights"), (.object "com/example/roomyield/roomyield/NightTally$Nights")]
  staticTypes := #[]
  resolved := Array.replicate 34 none
  statics := none }

def pool17 : Array CpInfo := pool [(1, .fieldref 2 3), (0, .class_ 4), (0, .nameAndType 5 6), (0, u "java/util/Optional"), (0, u "EMPTY"), (0, u "Ljava/util/Optional;"), (0, .methodref 8 9), (0, .class_ 10), (0, .nameAndType 11 12), (0, u "java/lang/Object"), (0, u "<init>"), (0, u "()V"), (0, .fieldref 2 14), (0, .nameAndType 15 16), (0, u "value"), (0, u "Ljava/lang/Object;"), (0, .methodref 18 19), (0, .class_ 20), (0, .nameAndType 21 22), (0, u "java/util/Objects"), (0, u "requireNonNull"), (0, u "(Ljava/lang/Object;)Ljava/lang/Object;"), (0, .methodref 2 24), (0, .nameAndType 11 25), (0, u "(Ljava/lang/Object;)V"), (19, u "isEmpty"), (0, u "()Z"), (8, u "empty"), (0, u "()Ljava/util/Optional;"), (8, u "(Ljava/lang/Object;)Ljava/util/Optional;"), (7, u "get"), (0, u "()Ljava/lang/Object;"), (7, u "of")] 104

def k17c0 : Code := { maxStack := 1, maxLocals := 1, code := jdk_32_method_1_code, exceptionTable := #[], attributes := #[] }
def k17m0 : Method := { name := "empty", desc := "()Ljava/util/Optional;", sig := { parameters := [], returnType := some (.object "java/util/Optional") }, accessFlags := 9, code := some k17c0 }
def k17c1 : Code := { maxStack := 2, maxLocals := 2, code := jdk_32_method_2_code, exceptionTable := #[], attributes := #[] }
def k17m1 : Method := { name := "<init>", desc := "(Ljava/lang/Object;)V", sig := { parameters := [(.object "java/lang/Object")], returnType := none }, accessFlags := 2, code := some k17c1 }
def k17c2 : Code := { maxStack := 3, maxLocals := 1, code := jdk_32_method_3_code, exceptionTable := #[], attributes := #[] }
def k17m2 : Method := { name := "of", desc := "(Ljava/lang/Object;)Ljava/util/Optional;", sig := { parameters := [(.object "java/lang/Object")], returnType := some (.object "java/util/Optional") }, accessFlags := 9, code := some k17c2 }
def k17c3 : Code := { maxStack := 3, maxLocals := 1, code := jdk_32_method_5_code, exceptionTable := #[], attributes := #[] }
def k17m3 : Method := { name := "get", desc := "()Ljava/lang/Object;", sig := { parameters := [], returnType := some (.object "java/lang/Object") }, accessFlags := 1, code := some k17c3 }
def k17c4 : Code := { maxStack := 1, maxLocals := 1, code := jdk_32_method_7_code, exceptionTable := #[], attributes := #[] }
def k17m4 : Method := { name := "isEmpty", desc := "()Z", sig := { parameters := [], returnType := some .boolean }, accessFlags := 1, code := some k17c4 }
/-- java/util/Optional -/
def k17 : Class := { plain "java/util/Optional" (some 0) with
  accessFlags := 49
  interfaces := #[]
  cf := some (fileOf pool17 2 #[] #[{ accessFlags := 9, nameIndex := 55, descriptorIndex := 56, attributes := #[] }, { accessFlags := 2, nameIndex := 11, descriptorIndex := 25, attributes := #[] }, { accessFlags := 9, nameIndex := 82, descriptorIndex := 65, attributes := #[] }, { accessFlags := 1, nameIndex := 73, descriptorIndex := 74, attributes := #[] }, { accessFlags := 1, nameIndex := 45, descriptorIndex := 46, attributes := #[] }] 49 8 #[] #[{ accessFlags := 26, nameIndex := 5, descriptorIndex := 6, attributes := #[] }, { accessFlags := 18, nameIndex := 15, descriptorIndex := 16, attributes := #[] }])
  fields := #[{ name := "EMPTY", type := (.object "java/util/Optional"), accessFlags := 26, slot := 0, constantValue := 0 }, { name := "value", type := (.object "java/lang/Object"), accessFlags := 18, slot := 0, constantValue := 0 }]
  methods := #[k17m0, k17m1, k17m2, k17m3, k17m4]
  instanceTypes := #[(.object "java/lang/Object")]
  staticTypes := #[(.object "java/util/Optional")]
  resolved := Array.replicate 187 none
  statics := some 1 }

def pool18 : Array CpInfo := pool [(1, .methodref 2 3), (0, .class_ 4), (0, .nameAndType 5 6), (0, u "java/lang/Object"), (0, u "<init>"), (0, u "()V"), (1, .class_ 10), (1, u "java/lang/Number"), (2, .class_ 14), (0, u "java/io/Serializable"), (0, u "serialVersionUID"), (0, u "J")] 20

def k18c0 : Code := { maxStack := 1, maxLocals := 1, code := jdk_18_method_1_code, exceptionTable := #[], attributes := #[] }
def k18m0 : Method := { name := "<init>", desc := "()V", sig := { parameters := [], returnType := none }, accessFlags := 1, code := some k18c0 }
/-- java/lang/Number -/
def k18 : Class := { plain "java/lang/Number" (some 0) with
  accessFlags := 1057
  interfaces := #[8]
  cf := some (fileOf pool18 8 #[] #[{ accessFlags := 1, nameIndex := 5, descriptorIndex := 6, attributes := #[] }] 1057 2 #[13] #[{ accessFlags := 26, nameIndex := 15, descriptorIndex := 16, attributes := #[] }])
  fields := #[{ name := "serialVersionUID", type := .long, accessFlags := 26, slot := 0, constantValue := 0 }]
  methods := #[k18m0]
  instanceTypes := #[]
  staticTypes := #[.long]
  resolved := Array.replicate 37 none
  statics := none }

def pool19 : Array CpInfo := pool [(3, .class_ 4), (0, u "java/math/BigDecimal"), (2, .class_ 8), (0, u "java/lang/Long"), (2, .methodref 12 13), (0, .class_ 14), (0, .nameAndType 15 16), (0, u "java/lang/Number"), (0, u "<init>"), (0, u "()V"), (0, .fieldref 3 18), (0, .nameAndType 19 20), (0, u "scale"), (0, u "I"), (0, .fieldref 3 22), (0, .nameAndType 23 20), (0, u "precision"), (0, .fieldref 3 25), (0, .nameAndType 26 27), (0, u "intCompact"), (0, u "J"), (0, .fieldref 3 29), (0, .nameAndType 30 31), (0, u "intVal"), (0, u "Ljava/math/BigInteger;"), (65, u "LONG_TEN_POWERS_TABLE"), (0, u "[J"), (16, u "(J)I"), (9, .long 9223372036854775808), (36, u "()I"), (24, u "ZERO"), (2, u "INFLATED_BIGINT"), (4, u "valueOf"), (7, u "multiply"), (2, u "TWO"), (29, .methodref 3 237), (0, .nameAndType 195 238), (0, u "(J)Ljava/math/BigDecimal;"), (4, .methodref 3 244), (0, .nameAndType 15 245), (0, u "(Ljava/math/BigInteger;JII)V"), (0, .fieldref 3 247), (0, .nameAndType 248 249), (0, u "ZERO_THROUGH_TEN"), (0, u "[Ljava/math/BigDecimal;"), (2, u "ZERO_SCALED_BY"), (4, .methodref 3 258), (0, .nameAndType 259 260), (0, u "add"), (0, u "(JIJI)Ljava/math/BigDecimal;"), (8, u "(Ljava/math/BigDecimal;)Ljava/math/BigDecimal;"), (2, u "signum"), (3, .class_ 278), (1, u "java/lang/Math"), (34, u "$assertionsDisabled"), (0, u "Z"), (7, u "(JJ)J"), (2, .methodref 3 326), (0, .nameAndType 327 115), (0, u "checkScale"), (0, .methodref 3 329), (0, .nameAndType 195 330), (0, u "(JI)Ljava/math/BigDecimal;"), (11, .methodref 3 343), (0, .nameAndType 203 344), (0, u "(JJI)Ljava/math/BigDecimal;"), (94, u "(Ljava/math/BigDecimal;)I"), (0, .methodref 276 441), (0, .nameAndType 442 443), (0, u "abs"), (0, u "(J)J"), (34, u "ONE_TENTH"), (0, u "Ljava/math/BigDecimal;"), (2, u "compareTo"), (2, u "TEN"), (14, .class_ 502), (1, u "java/math/BigDecimal$1"), (15, u "ONE_HALF"), (16, u "ONE"), (60, .methodref 7 597), (0, .nameAndType 272 115), (45, u "stringCache"), (0, u "Ljava/lang/String;"), (52, .class_ 699), (1, u "java/math/BigDecimal$LongOverflow"), (8, u "FLOAT_10_POW"), (0, u "[F"), (39, u "DOUBLE_10_POW"), (0, u "[D"), (19, .class_ 772), (1, u "java/math/BigDecimal$StringBuilderHelper"), (35, u "BIG_TEN_POWERS_TABLE_MAX"), (2, u "BIG_TEN_POWERS_TABLE"), (0, u "[Ljava/math/BigInteger;"), (14, u "THRESHOLDS_TABLE"), (23, .class_ 853), (1, u "java/math/BigDecimal$UnsafeHolder"), (142, .methodref 3 997), (0, .nameAndType 259 322), (2, .methodref 3 1001), (0, .nameAndType 259 344), (53, .methodref 3 1056), (0, .nameAndType 203 322), (11, u "LONGLONG_TEN_POWERS_TABLE"), (0, u "[[J"), (112, u "BIG_TEN_POWERS_TABLE_INITLEN"), (113, .class_ 1297), (0, u "java/lang/Comparable"), (0, u "L"), (0, u "D"), (1, u "P_F"), (1, u "Q_MIN_F"), (1, u "Q_MAX_F"), (1, u "P_D"), (1, u "Q_MIN_D"), (1, u "Q_MAX_D"), (1, u "INFLATED"), (0, u "MAX_COMPACT_DIGITS"), (1, u "serialVersionUID"), (2, u "HALF_LONG_MAX_VALUE"), (0, u "HALF_LONG_MIN_VALUE"), (0, u "ROUND_UP"), (6, u "ROUND_DOWN"), (1, u "ROUND_CEILING"), (1, u "ROUND_FLOOR"), (1, u "ROUND_HALF_UP"), (1, u "ROUND_HALF_DOWN"), (1, u "ROUND_HALF_EVEN"), (1, u "ROUND_UNNECESSARY"), (1, u "DIV_NUM_BASE")] 294

def k19c0 : Code := { maxStack := 3, maxLocals := 6, code := jdk_17_method_1_code, exceptionTable := #[], attributes := #[] }
def k19m0 : Method := { name := "<init>", desc := "(Ljava/math/BigInteger;JII)V", sig := { parameters := [(.object "java/math/BigInteger"), .long, .int, .int], returnType := none }, accessFlags := 0, code := some k19c0 }
def k19c1 : Code := { maxStack := 7, maxLocals := 3, code := jdk_17_method_20_code, exceptionTable := #[], attributes := #[] }
def k19m1 : Method := { name := "valueOf", desc := "(JI)Ljava/math/BigDecimal;", sig := { parameters := [.long, .int], returnType := some (.object "java/math/BigDecimal") }, accessFlags := 9, code := some k19c1 }
def k19c2 : Code := { maxStack := 7, maxLocals := 2, code := jdk_17_method_21_code, exceptionTable := #[], attributes := #[] }
def k19m2 : Method := { name := "valueOf", desc := "(J)Ljava/math/BigDecimal;", sig := { parameters := [.long], returnType := some (.object "java/math/BigDecimal") }, accessFlags := 9, code := some k19c2 }
def k19c3 : Code := { maxStack := 6, maxLocals := 2, code := jdk_17_method_26_code, exceptionTable := #[], attributes := #[] }
def k19m3 : Method := { name := "add", desc := "(Ljava/math/BigDecimal;)Ljava/math/BigDecimal;", sig := { parameters := [(.object "java/math/BigDecimal")], returnType := some (.object "java/math/BigDecimal") }, accessFlags := 1, code := some k19c3 }
def k19c4 : Code := { maxStack := 5, maxLocals := 3, code := jdk_17_method_31_code, exceptionTable := #[], attributes := #[] }
def k19m4 : Method := { name := "multiply", desc := "(Ljava/math/BigDecimal;)Ljava/math/BigDecimal;", sig := { parameters := [(.object "java/math/BigDecimal")], returnType := some (.object "java/math/BigDecimal") }, accessFlags := 1, code := some k19c4 }
def k19c5 : Code := { maxStack := 4, maxLocals := 1, code := jdk_17_method_58_code, exceptionTable := #[], attributes := #[] }
def k19m5 : Method := { name := "signum", desc := "()I", sig := { parameters := [], returnType := some .int }, accessFlags := 1, code := some k19c5 }
def k19c6 : Code := { maxStack := 4, maxLocals := 6, code := jdk_17_method_70_code, exceptionTable := #[], attributes := #[] }
def k19m6 : Method := { name := "compareTo", desc := "(Ljava/math/BigDecimal;)I", sig := { parameters := [(.object "java/math/BigDecimal")], returnType := some .int }, accessFlags := 1, code := some k19c6 }
def k19c7 : Code := { maxStack := 4, maxLocals := 5, code := jdk_17_method_106_code, exceptionTable := #[], attributes := #[] }
def k19m7 : Method := { name := "checkScale", desc := "(J)I", sig := { parameters := [.long], returnType := some .int }, accessFlags := 2, code := some k19c7 }
def k19c8 : Code := { maxStack := 6, maxLocals := 6, code := jdk_17_method_132_code, exceptionTable := #[], attributes := #[] }
def k19m8 : Method := { name := "add", desc := "(JJ)J", sig := { parameters := [.long, .long], returnType := some .long }, accessFlags := 10, code := some k19c8 }
def k19c9 : Code := { maxStack := 5, maxLocals := 7, code := jdk_17_method_133_code, exceptionTable := #[], attributes := #[] }
def k19m9 : Method := { name := "add", desc := "(JJI)Ljava/math/BigDecimal;", sig := { parameters := [.long, .long, .int], returnType := some (.object "java/math/BigDecimal") }, accessFlags := 10, code := some k19c9 }
def k19c10 : Code := { maxStack := 7, maxLocals := 12, code := jdk_17_method_134_code, exceptionTable := #[], attributes := #[] }
def k19m10 : Method := { name := "add", desc := "(JIJI)Ljava/math/BigDecimal;", sig := { parameters := [.long, .int, .long, .int], returnType := some (.object "java/math/BigDecimal") }, accessFlags := 10, code := some k19c10 }
def k19c11 : Code := { maxStack := 4, maxLocals := 10, code := jdk_17_method_156_code, exceptionTable := #[], attributes := #[] }
def k19m11 : Method := { name := "multiply", desc := "(JJ)J", sig := { parameters := [.long, .long], returnType := some .long }, accessFlags := 10, code := some k19c11 }
def k19c12 : Code := { maxStack := 7, maxLocals := 7, code := jdk_17_method_157_code, exceptionTable := #[], attributes := #[] }
def k19m12 : Method := { name := "multiply", desc := "(JJI)Ljava/math/BigDecimal;", sig := { parameters := [.long, .long, .int], returnType := some (.object "java/math/BigDecimal") }, accessFlags := 10, code := some k19c12 }
/-- java/math/BigDecimal -/
def k19 : Class := { plain "java/math/BigDecimal" (some 18) with
  accessFlags := 33
  interfaces := #[6]
  cf := some (fileOf pool19 3 #[.nestMembers #[500, 851, 770, 697]] #[{ accessFlags := 0, nameIndex := 15, descriptorIndex := 245, attributes := #[] }, { accessFlags := 9, nameIndex := 195, descriptorIndex := 330, attributes := #[] }, { accessFlags := 9, nameIndex := 195, descriptorIndex := 238, attributes := #[] }, { accessFlags := 1, nameIndex := 259, descriptorIndex := 269, attributes := #[] }, { accessFlags := 1, nameIndex := 203, descriptorIndex := 269, attributes := #[] }, { accessFlags := 1, nameIndex := 272, descriptorIndex := 162, attributes := #[] }, { accessFlags := 1, nameIndex := 482, descriptorIndex := 439, attributes := #[] }, { accessFlags := 2, nameIndex := 327, descriptorIndex := 115, attributes := #[] }, { accessFlags := 10, nameIndex := 259, descriptorIndex := 322, attributes := #[] }, { accessFlags := 10, nameIndex := 259, descriptorIndex := 344, attributes := #[] }, { accessFlags := 10, nameIndex := 259, descriptorIndex := 260, attributes := #[] }, { accessFlags := 10, nameIndex := 203, descriptorIndex := 322, attributes := #[] }, { accessFlags := 10, nameIndex := 203, descriptorIndex := 344, attributes := #[] }] 33 12 #[1296] #[{ accessFlags := 26, nameIndex := 1298, descriptorIndex := 1299, attributes := #[] }, { accessFlags := 26, nameIndex := 1301, descriptorIndex := 20, attributes := #[] }, { accessFlags := 26, nameIndex := 1303, descriptorIndex := 20, attributes := #[] }, { accessFlags := 26, nameIndex := 1305, descriptorIndex := 20, attributes := #[] }, { accessFlags := 26, nameIndex := 1307, descriptorIndex := 20, attributes := #[] }, { accessFlags := 26, nameIndex := 1309, descriptorIndex := 20, attributes := #[] }, { accessFlags := 26, nameIndex := 1311, descriptorIndex := 20, attributes := #[] }, { accessFlags := 18, nameIndex := 30, descriptorIndex := 31, attributes := #[] }, { accessFlags := 18, nameIndex := 19, descriptorIndex := 20, attributes := #[] }, { accessFlags := 130, nameIndex := 23, descriptorIndex := 20, attributes := #[] }, { accessFlags := 130, nameIndex := 643, descriptorIndex := 644, attributes := #[] }, { accessFlags := 24, nameIndex := 1313, descriptorIndex := 27, attributes := #[] }, { accessFlags := 26, nameIndex := 190, descriptorIndex := 31, attributes := #[] }, { accessFlags := 146, nameIndex := 26, descriptorIndex := 27, attributes := #[] }, { accessFlags := 26, nameIndex := 1314, descriptorIndex := 20, attributes := #[] }, { accessFlags := 26, nameIndex := 1316, descriptorIndex := 27, attributes := #[] }, { accessFlags := 26, nameIndex := 248, descriptorIndex := 249, attributes := #[] }, { accessFlags := 26, nameIndex := 252, descriptorIndex := 249, attributes := #[] }, { accessFlags := 26, nameIndex := 1319, descriptorIndex := 27, attributes := #[] }, { accessFlags := 26, nameIndex := 1320, descriptorIndex := 27, attributes := #[] }, { accessFlags := 25, nameIndex := 187, descriptorIndex := 479, attributes := #[] }, { accessFlags := 25, nameIndex := 535, descriptorIndex := 479, attributes := #[] }, { accessFlags := 25, nameIndex := 206, descriptorIndex := 479, attributes := #[] }, { accessFlags := 25, nameIndex := 485, descriptorIndex := 479, attributes := #[] }, { accessFlags := 26, nameIndex := 478, descriptorIndex := 479, attributes := #[] }, { accessFlags := 26, nameIndex := 518, descriptorIndex := 479, attributes := #[] }, { accessFlags := 25, nameIndex := 1321, descriptorIndex := 20, attributes := #[] }, { accessFlags := 25, nameIndex := 1328, descriptorIndex := 20, attributes := #[] }, { accessFlags := 25, nameIndex := 1330, descriptorIndex := 20, attributes := #[] }, { accessFlags := 25, nameIndex := 1332, descriptorIndex := 20, attributes := #[] }, { accessFlags := 25, nameIndex := 1334, descriptorIndex := 20, attributes := #[] }, { accessFlags := 25, nameIndex := 1336, descriptorIndex := 20, attributes := #[] }, { accessFlags := 25, nameIndex := 1338, descriptorIndex := 20, attributes := #[] }, { accessFlags := 25, nameIndex := 1340, descriptorIndex := 20, attributes := #[] }, { accessFlags := 26, nameIndex := 749, descriptorIndex := 750, attributes := #[] }, { accessFlags := 26, nameIndex := 708, descriptorIndex := 709, attributes := #[] }, { accessFlags := 26, nameIndex := 97, descriptorIndex := 98, attributes := #[] }, { accessFlags := 74, nameIndex := 811, descriptorIndex := 812, attributes := #[] }, { accessFlags := 26, nameIndex := 1182, descriptorIndex := 20, attributes := #[] }, { accessFlags := 26, nameIndex := 808, descriptorIndex := 20, attributes := #[] }, { accessFlags := 26, nameIndex := 827, descriptorIndex := 98, attributes := #[] }, { accessFlags := 26, nameIndex := 1342, descriptorIndex := 27, attributes := #[] }, { accessFlags := 26, nameIndex := 1068, descriptorIndex := 1069, attributes := #[] }, { accessFlags := 4120, nameIndex := 313, descriptorIndex := 314, attributes := #[] }])
  fields := #[{ name := "L", type := .double, accessFlags := 26, slot := 0, constantValue := 0 }, { name := "P_F", type := .int, accessFlags := 26, slot := 1, constantValue := 0 }, { name := "Q_MIN_F", type := .int, accessFlags := 26, slot := 2, constantValue := 0 }, { name := "Q_MAX_F", type := .int, accessFlags := 26, slot := 3, constantValue := 0 }, { name := "P_D", type := .int, accessFlags := 26, slot := 4, constantValue := 0 }, { name := "Q_MIN_D", type := .int, accessFlags := 26, slot := 5, constantValue := 0 }, { name := "Q_MAX_D", type := .int, accessFlags := 26, slot := 6, constantValue := 0 }, { name := "intVal", type := (.object "java/math/BigInteger"), accessFlags := 18, slot := 0, constantValue := 0 }, { name := "scale", type := .int, accessFlags := 18, slot := 1, constantValue := 0 }, { name := "precision", type := .int, accessFlags := 130, slot := 2, constantValue := 0 }, { name := "stringCache", type := (.object "java/lang/String"), accessFlags := 130, slot := 3, constantValue := 0 }, { name := "INFLATED", type := .long, accessFlags := 24, slot := 7, constantValue := 0 }, { name := "INFLATED_BIGINT", type := (.object "java/math/BigInteger"), accessFlags := 26, slot := 8, constantValue := 0 }, { name := "intCompact", type := .long, accessFlags := 146, slot := 4, constantValue := 0 }, { name := "MAX_COMPACT_DIGITS", type := .int, accessFlags := 26, slot := 9, constantValue := 0 }, { name := "serialVersionUID", type := .long, accessFlags := 26, slot := 10, constantValue := 0 }, { name := "ZERO_THROUGH_TEN", type := (.array (.object "java/math/BigDecimal")), accessFlags := 26, slot := 11, constantValue := 0 }, { name := "ZERO_SCALED_BY", type := (.array (.object "java/math/BigDecimal")), accessFlags := 26, slot := 12, constantValue := 0 }, { name := "HALF_LONG_MAX_VALUE", type := .long, accessFlags := 26, slot := 13, constantValue := 0 }, { name := "HALF_LONG_MIN_VALUE", type := .long, accessFlags := 26, slot := 14, constantValue := 0 }, { name := "ZERO", type := (.object "java/math/BigDecimal"), accessFlags := 25, slot := 15, constantValue := 0 }, { name := "ONE", type := (.object "java/math/BigDecimal"), accessFlags := 25, slot := 16, constantValue := 0 }, { name := "TWO", type := (.object "java/math/BigDecimal"), accessFlags := 25, slot := 17, constantValue := 0 }, { name := "TEN", type := (.object "java/math/BigDecimal"), accessFlags := 25, slot := 18, constantValue := 0 }, { name := "ONE_TENTH", type := (.object "java/math/BigDecimal"), accessFlags := 26, slot := 19, constantValue := 0 }, { name := "ONE_HALF", type := (.object "java/math/BigDecimal"), accessFlags := 26, slot := 20, constantValue := 0 }, { name := "ROUND_UP", type := .int, accessFlags := 25, slot := 21, constantValue := 0 }, { name := "ROUND_DOWN", type := .int, accessFlags := 25, slot := 22, constantValue := 0 }, { name := "ROUND_CEILING", type := .int, accessFlags := 25, slot := 23, constantValue := 0 }, { name := "ROUND_FLOOR", type := .int, accessFlags := 25, slot := 24, constantValue := 0 }, { name := "ROUND_HALF_UP", type := .int, accessFlags := 25, slot := 25, constantValue := 0 }, { name := "ROUND_HALF_DOWN", type := .int, accessFlags := 25, slot := 26, constantValue := 0 }, { name := "ROUND_HALF_EVEN", type := .int, accessFlags := 25, slot := 27, constantValue := 0 }, { name := "ROUND_UNNECESSARY", type := .int, accessFlags := 25, slot := 28, constantValue := 0 }, { name := "DOUBLE_10_POW", type := (.array .double), accessFlags := 26, slot := 29, constantValue := 0 }, { name := "FLOAT_10_POW", type := (.array .float), accessFlags := 26, slot := 30, constantValue := 0 }, { name := "LONG_TEN_POWERS_TABLE", type := (.array .long), accessFlags := 26, slot := 31, constantValue := 0 }, { name := "BIG_TEN_POWERS_TABLE", type := (.array (.object "java/math/BigInteger")), accessFlags := 74, slot := 32, constantValue := 0 }, { name := "BIG_TEN_POWERS_TABLE_INITLEN", type := .int, accessFlags := 26, slot := 33, constantValue := 0 }, { name := "BIG_TEN_POWERS_TABLE_MAX", type := .int, accessFlags := 26, slot := 34, constantValue := 0 }, { name := "THRESHOLDS_TABLE", type := (.array .long), accessFlags := 26, slot := 35, constantValue := 0 }, { name := "DIV_NUM_BASE", type := .long, accessFlags := 26, slot := 36, constantValue := 0 }, { name := "LONGLONG_TEN_POWERS_TABLE", type := (.array (.array .long)), accessFlags := 26, slot := 37, constantValue := 0 }, { name := "$assertionsDisabled", type := .boolean, accessFlags := 4120, slot := 38, constantValue := 0 }]
  methods := #[k19m0, k19m1, k19m2, k19m3, k19m4, k19m5, k19m6, k19m7, k19m8, k19m9, k19m10, k19m11, k19m12]
  instanceTypes := #[(.object "java/math/BigInteger"), .int, .int, (.object "java/lang/String"), .long]
  staticTypes := #[.double, .int, .int, .int, .int, .int, .int, .long, (.object "java/math/BigInteger"), .int, .long, (.array (.object "java/math/BigDecimal")), (.array (.object "java/math/BigDecimal")), .long, .long, (.object "java/math/BigDecimal"), (.object "java/math/BigDecimal"), (.object "java/math/BigDecimal"), (.object "java/math/BigDecimal"), (.object "java/math/BigDecimal"), (.object "java/math/BigDecimal"), .int, .int, .int, .int, .int, .int, .int, .int, (.array .double), (.array .float), (.array .long), (.array (.object "java/math/BigInteger")), .int, .int, (.array .long), .long, (.array (.array .long)), .boolean]
  resolved := Array.replicate 1637 none
  statics := some 2 }

def pool20 : Array CpInfo := pool [(8, .class_ 10), (1, u "java/time/YearMonth"), (13, u "getYear"), (0, u "()I"), (1, .nameAndType 28 29), (0, u "getMonth"), (0, u "()Ljava/time/Month;"), (2, u "of"), (2, u "month"), (7, .class_ 45), (1, u "java/time/Month"), (3, u "(II)Ljava/time/YearMonth;"), (0, .fieldref 51 52), (0, .class_ 53), (0, .nameAndType 54 55), (0, u "java/time/temporal/ChronoField"), (0, u "YEAR"), (0, u "Ljava/time/temporal/ChronoField;"), (0, .methodref 51 57), (0, .nameAndType 58 59), (0, u "checkValidValue"), (0, u "(J)J"), (0, .fieldref 51 61), (0, .nameAndType 62 55), (0, u "MONTH_OF_YEAR"), (0, .methodref 8 64), (0, .nameAndType 65 66), (0, u "<init>"), (0, u "(II)V"), (2, .fieldref 70 71), (0, .class_ 72), (0, .nameAndType 73 74), (0, u "java/time/chrono/IsoChronology"), (0, u "INSTANCE"), (0, u "Ljava/time/chrono/IsoChronology;"), (24, .nameAndType 65 100), (0, u "()V"), (29, u "PARSER"), (0, u "Ljava/time/format/DateTimeFormatter;"), (15, .methodref 148 99), (0, .class_ 149), (0, u "java/lang/Object"), (0, .fieldref 8 151), (0, .nameAndType 152 153), (0, u "year"), (0, u "I"), (0, .fieldref 8 155), (0, .nameAndType 35 153), (54, .class_ 212), (1, u "java/time/temporal/Temporal"), (12, .class_ 227), (1, u "java/time/YearMonth$1"), (22, .methodref 43 251), (0, .nameAndType 32 252), (0, u "(I)Ljava/time/Month;"), (0, .methodref 70 254), (0, .nameAndType 255 256), (0, u "isLeapYear"), (0, u "(J)Z"), (2, u "lengthOfMonth"), (0, .methodref 8 27), (0, .methodref 8 262), (0, .nameAndType 255 263), (0, u "()Z"), (0, .methodref 43 265), (0, .nameAndType 266 267), (0, u "length"), (0, u "(Z)I"), (1, .class_ 271), (1, u "java/time/temporal/TemporalAdjuster"), (193, .class_ 466), (0, u "java/lang/Comparable"), (0, .class_ 468), (0, u "java/io/Serializable"), (0, u "serialVersionUID"), (0, u "J"), (33, u "getMonthValue")] 96

def k20c0 : Code := { maxStack := 4, maxLocals := 2, code := jdk_2340_method_5_code, exceptionTable := #[], attributes := #[] }
def k20m0 : Method := { name := "of", desc := "(II)Ljava/time/YearMonth;", sig := { parameters := [.int, .int], returnType := some (.object "java/time/YearMonth") }, accessFlags := 9, code := some k20c0 }
def k20c1 : Code := { maxStack := 2, maxLocals := 3, code := jdk_2340_method_9_code, exceptionTable := #[], attributes := #[] }
def k20m1 : Method := { name := "<init>", desc := "(II)V", sig := { parameters := [.int, .int], returnType := none }, accessFlags := 2, code := some k20c1 }
def k20c2 : Code := { maxStack := 1, maxLocals := 1, code := jdk_2340_method_17_code, exceptionTable := #[], attributes := #[] }
def k20m2 : Method := { name := "getYear", desc := "()I", sig := { parameters := [], returnType := some .int }, accessFlags := 1, code := some k20c2 }
def k20c3 : Code := { maxStack := 1, maxLocals := 1, code := jdk_2340_method_18_code, exceptionTable := #[], attributes := #[] }
def k20m3 : Method := { name := "getMonthValue", desc := "()I", sig := { parameters := [], returnType := some .int }, accessFlags := 1, code := some k20c3 }
def k20c4 : Code := { maxStack := 1, maxLocals := 1, code := jdk_2340_method_19_code, exceptionTable := #[], attributes := #[] }
def k20m4 : Method := { name := "getMonth", desc := "()Ljava/time/Month;", sig := { parameters := [], returnType := some (.object "java/time/Month") }, accessFlags := 1, code := some k20c4 }
def k20c5 : Code := { maxStack := 3, maxLocals := 1, code := jdk_2340_method_20_code, exceptionTable := #[], attributes := #[] }
def k20m5 : Method := { name := "isLeapYear", desc := "()Z", sig := { parameters := [], returnType := some .boolean }, accessFlags := 1, code := some k20c5 }
def k20c6 : Code := { maxStack := 2, maxLocals := 1, code := jdk_2340_method_22_code, exceptionTable := #[], attributes := #[] }
def k20m6 : Method := { name := "lengthOfMonth", desc := "()I", sig := { parameters := [], returnType := some .int }, accessFlags := 1, code := some k20c6 }
/-- java/time/YearMonth -/
def k20 : Class := { plain "java/time/YearMonth" (some 0) with
  accessFlags := 49
  interfaces := #[4, 5, 6, 8]
  cf := some (fileOf pool20 8 #[.nestMembers #[225]] #[{ accessFlags := 9, nameIndex := 32, descriptorIndex := 49, attributes := #[] }, { accessFlags := 2, nameIndex := 65, descriptorIndex := 66, attributes := #[] }, { accessFlags := 1, nameIndex := 24, descriptorIndex := 25, attributes := #[] }, { accessFlags := 1, nameIndex := 504, descriptorIndex := 25, attributes := #[] }, { accessFlags := 1, nameIndex := 28, descriptorIndex := 29, attributes := #[] }, { accessFlags := 1, nameIndex := 255, descriptorIndex := 263, attributes := #[] }, { accessFlags := 1, nameIndex := 259, descriptorIndex := 25, attributes := #[] }] 49 148 #[210, 269, 465, 467] #[{ accessFlags := 26, nameIndex := 469, descriptorIndex := 470, attributes := #[] }, { accessFlags := 26, nameIndex := 130, descriptorIndex := 131, attributes := #[] }, { accessFlags := 18, nameIndex := 152, descriptorIndex := 153, attributes := #[] }, { accessFlags := 18, nameIndex := 35, descriptorIndex := 153, attributes := #[] }])
  fields := #[{ name := "serialVersionUID", type := .long, accessFlags := 26, slot := 0, constantValue := 0 }, { name := "PARSER", type := (.object "java/time/format/DateTimeFormatter"), accessFlags := 26, slot := 1, constantValue := 0 }, { name := "year", type := .int, accessFlags := 18, slot := 0, constantValue := 0 }, { name := "month", type := .int, accessFlags := 18, slot := 1, constantValue := 0 }]
  methods := #[k20m0, k20m1, k20m2, k20m3, k20m4, k20m5, k20m6]
  instanceTypes := #[.int, .int]
  staticTypes := #[.long, (.object "java/time/format/DateTimeFormatter")]
  resolved := Array.replicate 601 none
  statics := none }

def pool21 : Array CpInfo := pool [(1, .class_ 2), (0, u "java/time/Month"), (2, u "JANUARY"), (0, u "Ljava/time/Month;"), (2, u "FEBRUARY"), (2, u "MARCH"), (2, u "APRIL"), (2, u "MAY"), (2, u "JUNE"), (2, u "JULY"), (2, u "AUGUST"), (2, u "SEPTEMBER"), (2, u "OCTOBER"), (2, u "NOVEMBER"), (2, u "DECEMBER"), (2, u "$VALUES"), (0, u "[Ljava/time/Month;"), (6, .class_ 52), (1, u "java/lang/Enum"), (29, .fieldref 1 83), (0, .nameAndType 84 43), (0, u "ENUMS"), (28, .class_ 115), (1, u "java/time/temporal/TemporalAccessor"), (4, u "of"), (0, u "(I)Ljava/time/Month;"), (19, .methodref 1 142), (0, .nameAndType 143 144), (0, u "ordinal"), (0, u "()I"), (96, .class_ 242), (0, u "java/time/temporal/TemporalAdjuster"), (33, u "length"), (0, u "(Z)I")] 19

def k21c0 : Code := { maxStack := 4, maxLocals := 1, code := jdk_2329_method_4_code, exceptionTable := #[], attributes := #[] }
def k21m0 : Method := { name := "of", desc := "(I)Ljava/time/Month;", sig := { parameters := [.int], returnType := some (.object "java/time/Month") }, accessFlags := 9, code := some k21c0 }
def k21c1 : Code := { maxStack := 1, maxLocals := 2, code := jdk_2329_method_14_code, exceptionTable := #[], attributes := #[] }
def k21m1 : Method := { name := "length", desc := "(Z)I", sig := { parameters := [.boolean], returnType := some .int }, accessFlags := 1, code := some k21c1 }
/-- java/time/Month -/
def k21 : Class := { plain "java/time/Month" (some 11) with
  accessFlags := 16433
  interfaces := #[3, 5]
  cf := some (fileOf pool21 1 #[] #[{ accessFlags := 9, nameIndex := 120, descriptorIndex := 121, attributes := #[] }, { accessFlags := 1, nameIndex := 276, descriptorIndex := 277, attributes := #[] }] 16433 50 #[113, 241] #[{ accessFlags := 16409, nameIndex := 5, descriptorIndex := 6, attributes := #[] }, { accessFlags := 16409, nameIndex := 9, descriptorIndex := 6, attributes := #[] }, { accessFlags := 16409, nameIndex := 12, descriptorIndex := 6, attributes := #[] }, { accessFlags := 16409, nameIndex := 15, descriptorIndex := 6, attributes := #[] }, { accessFlags := 16409, nameIndex := 18, descriptorIndex := 6, attributes := #[] }, { accessFlags := 16409, nameIndex := 21, descriptorIndex := 6, attributes := #[] }, { accessFlags := 16409, nameIndex := 24, descriptorIndex := 6, attributes := #[] }, { accessFlags := 16409, nameIndex := 27, descriptorIndex := 6, attributes := #[] }, { accessFlags := 16409, nameIndex := 30, descriptorIndex := 6, attributes := #[] }, { accessFlags := 16409, nameIndex := 33, descriptorIndex := 6, attributes := #[] }, { accessFlags := 16409, nameIndex := 36, descriptorIndex := 6, attributes := #[] }, { accessFlags := 16409, nameIndex := 39, descriptorIndex := 6, attributes := #[] }, { accessFlags := 26, nameIndex := 84, descriptorIndex := 43, attributes := #[] }, { accessFlags := 4122, nameIndex := 42, descriptorIndex := 43, attributes := #[] }])
  fields := #[{ name := "JANUARY", type := (.object "java/time/Month"), accessFlags := 16409, slot := 0, constantValue := 0 }, { name := "FEBRUARY", type := (.object "java/time/Month"), accessFlags := 16409, slot := 1, constantValue := 0 }, { name := "MARCH", type := (.object "java/time/Month"), accessFlags := 16409, slot := 2, constantValue := 0 }, { name := "APRIL", type := (.object "java/time/Month"), accessFlags := 16409, slot := 3, constantValue := 0 }, { name := "MAY", type := (.object "java/time/Month"), accessFlags := 16409, slot := 4, constantValue := 0 }, { name := "JUNE", type := (.object "java/time/Month"), accessFlags := 16409, slot := 5, constantValue := 0 }, { name := "JULY", type := (.object "java/time/Month"), accessFlags := 16409, slot := 6, constantValue := 0 }, { name := "AUGUST", type := (.object "java/time/Month"), accessFlags := 16409, slot := 7, constantValue := 0 }, { name := "SEPTEMBER", type := (.object "java/time/Month"), accessFlags := 16409, slot := 8, constantValue := 0 }, { name := "OCTOBER", type := (.object "java/time/Month"), accessFlags := 16409, slot := 9, constantValue := 0 }, { name := "NOVEMBER", type := (.object "java/time/Month"), accessFlags := 16409, slot := 10, constantValue := 0 }, { name := "DECEMBER", type := (.object "java/time/Month"), accessFlags := 16409, slot := 11, constantValue := 0 }, { name := "ENUMS", type := (.array (.object "java/time/Month")), accessFlags := 26, slot := 12, constantValue := 0 }, { name := "$VALUES", type := (.array (.object "java/time/Month")), accessFlags := 4122, slot := 13, constantValue := 0 }]
  methods := #[k21m0, k21m1]
  instanceTypes := #[(.object "java/lang/String"), .int, .int]
  staticTypes := #[(.object "java/time/Month"), (.object "java/time/Month"), (.object "java/time/Month"), (.object "java/time/Month"), (.object "java/time/Month"), (.object "java/time/Month"), (.object "java/time/Month"), (.object "java/time/Month"), (.object "java/time/Month"), (.object "java/time/Month"), (.object "java/time/Month"), (.object "java/time/Month"), (.array (.object "java/time/Month")), (.array (.object "java/time/Month"))]
  resolved := Array.replicate 297 none
  statics := some 3 }

def pool22 : Array CpInfo := pool [(21, .class_ 22), (0, u "java/time/chrono/Chronology"), (138, .class_ 162), (0, u "java/time/chrono/Chronology$1"), (74, .class_ 238), (0, u "java/lang/Object"), (0, .class_ 240), (0, u "java/lang/Comparable")] 86

/-- java/time/chrono/Chronology -/
def k22 : Class := { plain "java/time/chrono/Chronology" (some 0) with
  accessFlags := 1537
  interfaces := #[6]
  cf := some (fileOf pool22 21 #[.nestMembers #[161]] #[] 1537 237 #[239] #[])
  fields := #[]
  methods := #[]
  instanceTypes := #[]
  staticTypes := #[]
  resolved := Array.replicate 327 none
  statics := none }

def pool23 : Array CpInfo := pool [(2, .class_ 4), (1, u "java/time/chrono/Chronology"), (3, .class_ 10), (1, u "java/time/chrono/AbstractChronology"), (4, u "CHRONOS_BY_ID"), (0, u "Ljava/util/concurrent/ConcurrentHashMap;"), (11, u "CHRONOS_BY_TYPE"), (69, u "<init>"), (0, u "()V"), (71, .class_ 172), (0, u "java/lang/Object")] 383

def k23m0 : Method := { name := "<init>", desc := "()V", sig := { parameters := [], returnType := none }, accessFlags := 4, code := none }
/-- java/time/chrono/AbstractChronology -/
def k23 : Class := { plain "java/time/chrono/AbstractChronology" (some 0) with
  accessFlags := 1057
  interfaces := #[22]
  cf := some (fileOf pool23 8 #[] #[{ accessFlags := 4, nameIndex := 98, descriptorIndex := 99, attributes := #[] }] 1057 171 #[2] #[{ accessFlags := 26, nameIndex := 15, descriptorIndex := 16, attributes := #[] }, { accessFlags := 26, nameIndex := 28, descriptorIndex := 16, attributes := #[] }])
  fields := #[{ name := "CHRONOS_BY_ID", type := (.object "java/util/concurrent/ConcurrentHashMap"), accessFlags := 26, slot := 0, constantValue := 0 }, { name := "CHRONOS_BY_TYPE", type := (.object "java/util/concurrent/ConcurrentHashMap"), accessFlags := 26, slot := 1, constantValue := 0 }]
  methods := #[k23m0]
  instanceTypes := #[]
  staticTypes := #[(.object "java/util/concurrent/ConcurrentHashMap"), (.object "java/util/concurrent/ConcurrentHashMap")]
  resolved := Array.replicate 556 none
  statics := none }

def pool24 : Array CpInfo := pool [(2, .class_ 4), (1, u "java/time/chrono/AbstractChronology"), (0, u "<init>"), (0, u "()V"), (5, .class_ 14), (1, u "java/time/chrono/IsoChronology"), (102, .long 3), (5, .long 100), (3, .long 400), (3, u "INSTANCE"), (0, u "Ljava/time/chrono/IsoChronology;"), (2, u "isLeapYear"), (0, u "(J)Z"), (228, .class_ 366), (0, u "java/io/Serializable"), (0, u "serialVersionUID"), (0, u "J"), (3, u "DAYS_0000_TO_1970")] 81

def k24m0 : Method := { name := "<init>", desc := "()V", sig := { parameters := [], returnType := none }, accessFlags := 2, code := none }
def k24c1 : Code := { maxStack := 4, maxLocals := 3, code := jdk_2369_method_18_code, exceptionTable := #[], attributes := #[] }
def k24m1 : Method := { name := "isLeapYear", desc := "(J)Z", sig := { parameters := [.long], returnType := some .boolean }, accessFlags := 1, code := some k24c1 }
/-- java/time/chrono/IsoChronology -/
def k24 : Class := { plain "java/time/chrono/IsoChronology" (some 23) with
  accessFlags := 49
  interfaces := #[8]
  cf := some (fileOf pool24 12 #[] #[{ accessFlags := 2, nameIndex := 5, descriptorIndex := 6, attributes := #[] }, { accessFlags := 1, nameIndex := 135, descriptorIndex := 136, attributes := #[] }] 49 2 #[365] #[{ accessFlags := 25, nameIndex := 131, descriptorIndex := 132, attributes := #[] }, { accessFlags := 26, nameIndex := 367, descriptorIndex := 368, attributes := #[] }, { accessFlags := 26, nameIndex := 372, descriptorIndex := 368, attributes := #[] }])
  fields := #[{ name := "INSTANCE", type := (.object "java/time/chrono/IsoChronology"), accessFlags := 25, slot := 0, constantValue := 0 }, { name := "serialVersionUID", type := .long, accessFlags := 26, slot := 1, constantValue := 0 }, { name := "DAYS_0000_TO_1970", type := .long, accessFlags := 26, slot := 2, constantValue := 0 }]
  methods := #[k24m0, k24m1]
  instanceTypes := #[]
  staticTypes := #[(.object "java/time/chrono/IsoChronology"), .long, .long]
  resolved := Array.replicate 454 none
  statics := some 4 }

def pool25 : Array CpInfo := pool [(1, .methodref 2 3), (0, .class_ 4), (0, .nameAndType 5 6), (0, u "java/lang/Object"), (0, u "<init>"), (0, u "()V"), (0, .fieldref 8 9), (0, .class_ 10), (0, .nameAndType 11 12), (0, u "java/math/BigDecimal"), (0, u "ZERO"), (0, u "Ljava/math/BigDecimal;"), (0, .fieldref 14 15), (0, .class_ 16), (0, .nameAndType 17 12), (0, u "com/example/roomyield/roomyield/NightTally$Nights"), (0, u "revenue"), (0, .fieldref 14 19), (0, .nameAndType 20 12), (0, u "guests"), (0, .fieldref 14 22), (0, .nameAndType 23 24), (0, u "complimentary"), (0, u "J"), (0, .methodref 8 26), (0, .nameAndType 27 28), (0, u "valueOf"), (0, u "(J)Ljava/math/BigDecimal;"), (0, .fieldref 14 30), (0, .nameAndType 31 24), (0, u "sold"), (0, .methodref 8 33), (0, .nameAndType 34 35), (0, u "multiply"), (0, u "(Ljava/math/BigDecimal;)Ljava/math/BigDecimal;"), (0, .methodref 8 37), (0, .nameAndType 38 35), (0, u "add"), (0, .fieldref 8 40), (0, .nameAndType 41 12), (0, u "ONE"), (0, .methodref 8 43), (0, .nameAndType 44 45), (0, u "compareTo"), (0, u "(Ljava/math/BigDecimal;)I"), (0, .fieldref 14 47), (0, .nameAndType 48 24), (0, u "multipleOccupied"), (7, u "(JZLjava/math/BigDecimal;Ljava/math/BigDecimal;)V"), (7, .class_ 65), (0, u "com/example/roomyield/roomyield/NightTally")] 2

def k25c0 : Code := { maxStack := 2, maxLocals := 1, code := prog_9_method_1_code, exceptionTable := #[], attributes := #[] }
def k25m0 : Method := { name := "<init>", desc := "()V", sig := { parameters := [], returnType := none }, accessFlags := 2, code := some k25c0 }
def k25c1 : Code := { maxStack := 5, maxLocals := 7, code := prog_9_method_2_code, exceptionTable := #[], attributes := #[] }
def k25m1 : Method := { name := "add", desc := "(JZLjava/math/BigDecimal;Ljava/math/BigDecimal;)V", sig := { parameters := [.long, .boolean, (.object "java/math/BigDecimal"), (.object "java/math/BigDecimal")], returnType := none }, accessFlags := 2, code := some k25c1 }
/-- com/example/roomyield/roomyield/NightTally$Nights -/
def k25 : Class := { plain "com/example/roomyield/roomyield/NightTally$Nights" (some 0) with
  accessFlags := 48
  interfaces := #[]
  cf := some (fileOf pool25 14 #[.nestHost 64] #[{ accessFlags := 2, nameIndex := 5, descriptorIndex := 6, attributes := #[] }, { accessFlags := 2, nameIndex := 38, descriptorIndex := 56, attributes := #[] }] 48 2 #[] #[{ accessFlags := 2, nameIndex := 31, descriptorIndex := 24, attributes := #[] }, { accessFlags := 2, nameIndex := 23, descriptorIndex := 24, attributes := #[] }, { accessFlags := 2, nameIndex := 17, descriptorIndex := 12, attributes := #[] }, { accessFlags := 2, nameIndex := 20, descriptorIndex := 12, attributes := #[] }, { accessFlags := 2, nameIndex := 48, descriptorIndex := 24, attributes := #[] }])
  fields := #[{ name := "sold", type := .long, accessFlags := 2, slot := 0, constantValue := 0 }, { name := "complimentary", type := .long, accessFlags := 2, slot := 1, constantValue := 0 }, { name := "revenue", type := (.object "java/math/BigDecimal"), accessFlags := 2, slot := 2, constantValue := 0 }, { name := "guests", type := (.object "java/math/BigDecimal"), accessFlags := 2, slot := 3, constantValue := 0 }, { name := "multipleOccupied", type := .long, accessFlags := 2, slot := 4, constantValue := 0 }]
  methods := #[k25m0, k25m1]
  instanceTypes := #[.long, .long, (.object "java/math/BigDecimal"), (.object "java/math/BigDecimal"), .long]
  staticTypes := #[]
  resolved := Array.replicate 68 none
  statics := none }

def pool26 : Array CpInfo := pool [(1, .class_ 2), (0, u "java/lang/constant/ConstantDesc"), (0, .class_ 4), (0, u "java/lang/Object")] 32

/-- java/lang/constant/ConstantDesc -/
def k26 : Class := { plain "java/lang/constant/ConstantDesc" (some 0) with
  accessFlags := 1537
  interfaces := #[]
  cf := some (fileOf pool26 1 #[] #[] 1537 3 #[] #[])
  fields := #[]
  methods := #[]
  instanceTypes := #[]
  staticTypes := #[]
  resolved := Array.replicate 37 none
  statics := none }

def pool27 : Array CpInfo := pool [(1, .class_ 2), (0, u "java/lang/Long"), (98, u "(J)I"), (133, .class_ 237), (1, u "java/lang/Long$LongCache"), (33, .class_ 272), (0, u "java/lang/Number"), (2, u "value"), (0, u "J"), (84, u "TYPE"), (0, u "Ljava/lang/Class;"), (0, .class_ 364), (0, u "java/lang/Comparable"), (0, .class_ 366), (0, u "java/lang/constant/Constable"), (0, .class_ 368), (0, u "java/lang/constant/ConstantDesc"), (0, u "MIN_VALUE"), (1, u "MAX_VALUE"), (4, u "SIZE"), (0, u "I"), (1, u "BYTES"), (1, u "serialVersionUID"), (115, u "signum")] 26

def k27c0 : Code := { maxStack := 5, maxLocals := 2, code := jdk_35_method_57_code, exceptionTable := #[], attributes := #[] }
def k27m0 : Method := { name := "signum", desc := "(J)I", sig := { parameters := [.long], returnType := some .int }, accessFlags := 9, code := some k27c0 }
/-- java/lang/Long -/
def k27 : Class := { plain "java/lang/Long" (some 18) with
  accessFlags := 49
  interfaces := #[6, 10, 26]
  cf := some (fileOf pool27 1 #[.nestMembers #[235]] #[{ accessFlags := 9, nameIndex := 497, descriptorIndex := 101, attributes := #[] }] 49 271 #[363, 365, 367] #[{ accessFlags := 25, nameIndex := 369, descriptorIndex := 276, attributes := #[] }, { accessFlags := 25, nameIndex := 371, descriptorIndex := 276, attributes := #[] }, { accessFlags := 25, nameIndex := 361, descriptorIndex := 362, attributes := #[] }, { accessFlags := 18, nameIndex := 275, descriptorIndex := 276, attributes := #[] }, { accessFlags := 25, nameIndex := 376, descriptorIndex := 377, attributes := #[] }, { accessFlags := 25, nameIndex := 379, descriptorIndex := 377, attributes := #[] }, { accessFlags := 26, nameIndex := 381, descriptorIndex := 276, attributes := #[] }])
  fields := #[{ name := "MIN_VALUE", type := .long, accessFlags := 25, slot := 0, constantValue := 0 }, { name := "MAX_VALUE", type := .long, accessFlags := 25, slot := 1, constantValue := 0 }, { name := "TYPE", type := (.object "java/lang/Class"), accessFlags := 25, slot := 2, constantValue := 0 }, { name := "value", type := .long, accessFlags := 18, slot := 0, constantValue := 0 }, { name := "SIZE", type := .int, accessFlags := 25, slot := 3, constantValue := 0 }, { name := "BYTES", type := .int, accessFlags := 25, slot := 4, constantValue := 0 }, { name := "serialVersionUID", type := .long, accessFlags := 26, slot := 5, constantValue := 0 }]
  methods := #[k27m0]
  instanceTypes := #[.long]
  staticTypes := #[.long, .long, (.object "java/lang/Class"), .int, .int, .long]
  resolved := Array.replicate 524 none
  statics := none }

def pool28 : Array CpInfo := pool [(2, .class_ 4), (1, u "java/lang/Object"), (0, u "<init>"), (0, u "()V"), (35, .class_ 44), (1, u "java/util/Objects"), (0, u "requireNonNull"), (0, u "(Ljava/lang/Object;)Ljava/lang/Object;")] 137

def k28m0 : Method := { name := "<init>", desc := "()V", sig := { parameters := [], returnType := none }, accessFlags := 2, code := none }
def k28c1 : Code := { maxStack := 2, maxLocals := 1, code := jdk_31_method_10_code, exceptionTable := #[], attributes := #[] }
def k28m1 : Method := { name := "requireNonNull", desc := "(Ljava/lang/Object;)Ljava/lang/Object;", sig := { parameters := [(.object "java/lang/Object")], returnType := some (.object "java/lang/Object") }, accessFlags := 9, code := some k28c1 }
/-- java/util/Objects -/
def k28 : Class := { plain "java/util/Objects" (some 0) with
  accessFlags := 49
  interfaces := #[]
  cf := some (fileOf pool28 42 #[] #[{ accessFlags := 2, nameIndex := 5, descriptorIndex := 6, attributes := #[] }, { accessFlags := 9, nameIndex := 45, descriptorIndex := 46, attributes := #[] }] 49 2 #[] #[])
  fields := #[]
  methods := #[k28m0, k28m1]
  instanceTypes := #[]
  staticTypes := #[]
  resolved := Array.replicate 184 none
  statics := none }

def pool29 : Array CpInfo := pool [(4, .class_ 6), (1, u "java/lang/Number"), (16, .class_ 25), (1, u "java/math/BigInteger"), (0, u "ZERO"), (0, u "Ljava/math/BigInteger;"), (2, u "mag"), (0, u "[I"), (2, u "signum"), (0, u "I"), (59, u "bitsPerDigit"), (0, u "[J"), (9, u "digitsPerInt"), (12, u "intRadix"), (60, u "SMALL_PRIME_PRODUCT"), (79, u "ONE"), (6, u "TWO"), (43, u "$assertionsDisabled"), (0, u "Z"), (36, u "posConst"), (0, u "[Ljava/math/BigInteger;"), (4, u "negConst"), (116, .class_ 474), (1, u "java/math/BigInteger$RecursiveOp"), (106, u "NEGATIVE_ONE"), (91, u "bnExpModThreshTable"), (72, u "lowestSetBitPlusTwo"), (2, u "bitLengthPlusOne"), (2, u "bitCountPlusOne"), (6, u "LOG_TWO"), (0, u "D"), (2, u "logCache"), (0, u "[D"), (13, u "NUM_ZEROS"), (2, u "ZEROS"), (0, u "Ljava/lang/String;"), (9, u "longRadix"), (5, u "digitsPerLong"), (22, u "powerCache"), (0, u "[[Ljava/math/BigInteger;"), (45, u "firstNonzeroIntNumPlusTwo"), (38, .class_ 909), (1, u "java/math/BigInteger$UnsafeHolder"), (141, u "TEN"), (106, u "serialPersistentFields"), (0, u "[Ljava/io/ObjectStreamField;"), (0, .class_ 1161), (0, u "java/lang/Comparable"), (0, u "LONG_MASK"), (0, u "J"), (1, u "MAX_MAG_LENGTH"), (0, u "PRIME_SEARCH_BIT_LENGTH_LIMIT"), (1, u "KARATSUBA_THRESHOLD"), (1, u "TOOM_COOK_THRESHOLD"), (1, u "KARATSUBA_SQUARE_THRESHOLD"), (1, u "TOOM_COOK_SQUARE_THRESHOLD"), (1, u "BURNIKEL_ZIEGLER_THRESHOLD"), (0, u "BURNIKEL_ZIEGLER_OFFSET"), (1, u "SCHOENHAGE_BASE_CONVERSION_THRESHOLD"), (1, u "MULTIPLY_SQUARE_THRESHOLD"), (0, u "MONTGOMERY_INTRINSIC_THRESHOLD"), (1, u "SMALL_PRIME_THRESHOLD"), (1, u "DEFAULT_PRIME_CERTAINTY"), (1, u "MAX_CONSTANT"), (3, u "serialVersionUID"), (338, .class_ 1532), (0, u "java/math/BigInteger$RecursiveOp$RecursiveSquare"), (0, .class_ 1534), (0, u "java/math/BigInteger$RecursiveOp$RecursiveMultiply")] 7

/-- java/math/BigInteger -/
def k29 : Class := { plain "java/math/BigInteger" (some 18) with
  accessFlags := 33
  interfaces := #[6]
  cf := some (fileOf pool29 23 #[.nestMembers #[907, 472, 1531, 1533]] #[] 33 4 #[1160] #[{ accessFlags := 16, nameIndex := 34, descriptorIndex := 35, attributes := #[] }, { accessFlags := 16, nameIndex := 30, descriptorIndex := 31, attributes := #[] }, { accessFlags := 2, nameIndex := 752, descriptorIndex := 35, attributes := #[] }, { accessFlags := 2, nameIndex := 749, descriptorIndex := 35, attributes := #[] }, { accessFlags := 2, nameIndex := 746, descriptorIndex := 35, attributes := #[] }, { accessFlags := 2, nameIndex := 868, descriptorIndex := 35, attributes := #[] }, { accessFlags := 24, nameIndex := 1162, descriptorIndex := 1163, attributes := #[] }, { accessFlags := 26, nameIndex := 1165, descriptorIndex := 35, attributes := #[] }, { accessFlags := 26, nameIndex := 1166, descriptorIndex := 35, attributes := #[] }, { accessFlags := 26, nameIndex := 1168, descriptorIndex := 35, attributes := #[] }, { accessFlags := 26, nameIndex := 1170, descriptorIndex := 35, attributes := #[] }, { accessFlags := 26, nameIndex := 1172, descriptorIndex := 35, attributes := #[] }, { accessFlags := 26, nameIndex := 1174, descriptorIndex := 35, attributes := #[] }, { accessFlags := 24, nameIndex := 1176, descriptorIndex := 35, attributes := #[] }, { accessFlags := 24, nameIndex := 1177, descriptorIndex := 35, attributes := #[] }, { accessFlags := 26, nameIndex := 1179, descriptorIndex := 35, attributes := #[] }, { accessFlags := 26, nameIndex := 1181, descriptorIndex := 35, attributes := #[] }, { accessFlags := 26, nameIndex := 1182, descriptorIndex := 35, attributes := #[] }, { accessFlags := 10, nameIndex := 95, descriptorIndex := 96, attributes := #[] }, { accessFlags := 26, nameIndex := 1184, descriptorIndex := 35, attributes := #[] }, { accessFlags := 26, nameIndex := 1186, descriptorIndex := 35, attributes := #[] }, { accessFlags := 26, nameIndex := 180, descriptorIndex := 27, attributes := #[] }, { accessFlags := 26, nameIndex := 1188, descriptorIndex := 35, attributes := #[] }, { accessFlags := 26, nameIndex := 349, descriptorIndex := 350, attributes := #[] }, { accessFlags := 26, nameIndex := 355, descriptorIndex := 350, attributes := #[] }, { accessFlags := 74, nameIndex := 821, descriptorIndex := 822, attributes := #[] }, { accessFlags := 26, nameIndex := 763, descriptorIndex := 764, attributes := #[] }, { accessFlags := 26, nameIndex := 759, descriptorIndex := 760, attributes := #[] }, { accessFlags := 25, nameIndex := 26, descriptorIndex := 27, attributes := #[] }, { accessFlags := 25, nameIndex := 260, descriptorIndex := 27, attributes := #[] }, { accessFlags := 25, nameIndex := 267, descriptorIndex := 27, attributes := #[] }, { accessFlags := 26, nameIndex := 581, descriptorIndex := 27, attributes := #[] }, { accessFlags := 25, nameIndex := 1051, descriptorIndex := 27, attributes := #[] }, { accessFlags := 8, nameIndex := 673, descriptorIndex := 31, attributes := #[] }, { accessFlags := 10, nameIndex := 778, descriptorIndex := 35, attributes := #[] }, { accessFlags := 26, nameIndex := 781, descriptorIndex := 782, attributes := #[] }, { accessFlags := 10, nameIndex := 798, descriptorIndex := 31, attributes := #[] }, { accessFlags := 10, nameIndex := 792, descriptorIndex := 350, attributes := #[] }, { accessFlags := 10, nameIndex := 106, descriptorIndex := 31, attributes := #[] }, { accessFlags := 10, nameIndex := 119, descriptorIndex := 31, attributes := #[] }, { accessFlags := 26, nameIndex := 1192, descriptorIndex := 1163, attributes := #[] }, { accessFlags := 26, nameIndex := 1158, descriptorIndex := 1159, attributes := #[] }, { accessFlags := 4120, nameIndex := 311, descriptorIndex := 312, attributes := #[] }])
  fields := #[{ name := "signum", type := .int, accessFlags := 16, slot := 0, constantValue := 0 }, { name := "mag", type := (.array .int), accessFlags := 16, slot := 1, constantValue := 0 }, { name := "bitCountPlusOne", type := .int, accessFlags := 2, slot := 2, constantValue := 0 }, { name := "bitLengthPlusOne", type := .int, accessFlags := 2, slot := 3, constantValue := 0 }, { name := "lowestSetBitPlusTwo", type := .int, accessFlags := 2, slot := 4, constantValue := 0 }, { name := "firstNonzeroIntNumPlusTwo", type := .int, accessFlags := 2, slot := 5, constantValue := 0 }, { name := "LONG_MASK", type := .long, accessFlags := 24, slot := 0, constantValue := 0 }, { name := "MAX_MAG_LENGTH", type := .int, accessFlags := 26, slot := 1, constantValue := 0 }, { name := "PRIME_SEARCH_BIT_LENGTH_LIMIT", type := .int, accessFlags := 26, slot := 2, constantValue := 0 }, { name := "KARATSUBA_THRESHOLD", type := .int, accessFlags := 26, slot := 3, constantValue := 0 }, { name := "TOOM_COOK_THRESHOLD", type := .int, accessFlags := 26, slot := 4, constantValue := 0 }, { name := "KARATSUBA_SQUARE_THRESHOLD", type := .int, accessFlags := 26, slot := 5, constantValue := 0 }, { name := "TOOM_COOK_SQUARE_THRESHOLD", type := .int, accessFlags := 26, slot := 6, constantValue := 0 }, { name := "BURNIKEL_ZIEGLER_THRESHOLD", type := .int, accessFlags := 24, slot := 7, constantValue := 0 }, { name := "BURNIKEL_ZIEGLER_OFFSET", type := .int, accessFlags := 24, slot := 8, constantValue := 0 }, { name := "SCHOENHAGE_BASE_CONVERSION_THRESHOLD", type := .int, accessFlags := 26, slot := 9, constantValue := 0 }, { name := "MULTIPLY_SQUARE_THRESHOLD", type := .int, accessFlags := 26, slot := 10, constantValue := 0 }, { name := "MONTGOMERY_INTRINSIC_THRESHOLD", type := .int, accessFlags := 26, slot := 11, constantValue := 0 }, { name := "bitsPerDigit", type := (.array .long), accessFlags := 10, slot := 12, constantValue := 0 }, { name := "SMALL_PRIME_THRESHOLD", type := .int, accessFlags := 26, slot := 13, constantValue := 0 }, { name := "DEFAULT_PRIME_CERTAINTY", type := .int, accessFlags := 26, slot := 14, constantValue := 0 }, { name := "SMALL_PRIME_PRODUCT", type := (.object "java/math/BigInteger"), accessFlags := 26, slot := 15, constantValue := 0 }, { name := "MAX_CONSTANT", type := .int, accessFlags := 26, slot := 16, constantValue := 0 }, { name := "posConst", type := (.array (.object "java/math/BigInteger")), accessFlags := 26, slot := 17, constantValue := 0 }, { name := "negConst", type := (.array (.object "java/math/BigInteger")), accessFlags := 26, slot := 18, constantValue := 0 }, { name := "powerCache", type := (.array (.array (.object "java/math/BigInteger"))), accessFlags := 74, slot := 19, constantValue := 0 }, { name := "logCache", type := (.array .double), accessFlags := 26, slot := 20, constantValue := 0 }, { name := "LOG_TWO", type := .double, accessFlags := 26, slot := 21, constantValue := 0 }, { name := "ZERO", type := (.object "java/math/BigInteger"), accessFlags := 25, slot := 22, constantValue := 0 }, { name := "ONE", type := (.object "java/math/BigInteger"), accessFlags := 25, slot := 23, constantValue := 0 }, { name := "TWO", type := (.object "java/math/BigInteger"), accessFlags := 25, slot := 24, constantValue := 0 }, { name := "NEGATIVE_ONE", type := (.object "java/math/BigInteger"), accessFlags := 26, slot := 25, constantValue := 0 }, { name := "TEN", type := (.object "java/math/BigInteger"), accessFlags := 25, slot := 26, constantValue := 0 }, { name := "bnExpModThreshTable", type := (.array .int), accessFlags := 8, slot := 27, constantValue := 0 }, { name := "NUM_ZEROS", type := .int, accessFlags := 10, slot := 28, constantValue := 0 }, { name := "ZEROS", type := (.object "java/lang/String"), accessFlags := 26, slot := 29, constantValue := 0 }, { name := "digitsPerLong", type := (.array .int), accessFlags := 10, slot := 30, constantValue := 0 }, { name := "longRadix", type := (.array (.object "java/math/BigInteger")), accessFlags := 10, slot := 31, constantValue := 0 }, { name := "digitsPerInt", type := (.array .int), accessFlags := 10, slot := 32, constantValue := 0 }, { name := "intRadix", type := (.array .int), accessFlags := 10, slot := 33, constantValue := 0 }, { name := "serialVersionUID", type := .long, accessFlags := 26, slot := 34, constantValue := 0 }, { name := "serialPersistentFields", type := (.array (.object "java/io/ObjectStreamField")), accessFlags := 26, slot := 35, constantValue := 0 }, { name := "$assertionsDisabled", type := .boolean, accessFlags := 4120, slot := 36, constantValue := 0 }]
  methods := #[]
  instanceTypes := #[.int, (.array .int), .int, .int, .int, .int]
  staticTypes := #[.long, .int, .int, .int, .int, .int, .int, .int, .int, .int, .int, .int, (.array .long), .int, .int, (.object "java/math/BigInteger"), .int, (.array (.object "java/math/BigInteger")), (.array (.object "java/math/BigInteger")), (.array (.array (.object "java/math/BigInteger"))), (.array .double), .double, (.object "java/math/BigInteger"), (.object "java/math/BigInteger"), (.object "java/math/BigInteger"), (.object "java/math/BigInteger"), (.object "java/math/BigInteger"), (.array .int), .int, (.object "java/lang/String"), (.array .int), (.array (.object "java/math/BigInteger")), (.array .int), (.array .int), .long, (.array (.object "java/io/ObjectStreamField")), .boolean]
  resolved := Array.replicate 1542 none
  statics := some 5 }

def pool30 : Array CpInfo := pool [(4, .class_ 6), (1, u "java/time/temporal/TemporalUnit"), (23, .class_ 31), (0, u "java/lang/Object")] 27

/-- java/time/temporal/TemporalUnit -/
def k30 : Class := { plain "java/time/temporal/TemporalUnit" (some 0) with
  accessFlags := 1537
  interfaces := #[]
  cf := some (fileOf pool30 4 #[] #[] 1537 30 #[] #[])
  fields := #[]
  methods := #[]
  instanceTypes := #[]
  staticTypes := #[]
  resolved := Array.replicate 59 none
  statics := none }

def pool31 : Array CpInfo := pool [(1, .class_ 2), (0, u "java/time/temporal/ChronoUnit"), (2, u "NANOS"), (0, u "Ljava/time/temporal/ChronoUnit;"), (2, u "MICROS"), (2, u "MILLIS"), (2, u "SECONDS"), (2, u "MINUTES"), (2, u "HOURS"), (2, u "HALF_DAYS"), (2, u "DAYS"), (2, u "WEEKS"), (2, u "MONTHS"), (2, u "YEARS"), (2, u "DECADES"), (2, u "CENTURIES"), (2, u "MILLENNIA"), (2, u "ERAS"), (2, u "FOREVER"), (2, u "$VALUES"), (0, u "[Ljava/time/temporal/ChronoUnit;"), (6, .class_ 64), (1, u "java/lang/Enum"), (8, u "name"), (0, u "Ljava/lang/String;"), (2, u "duration"), (0, u "Ljava/time/Duration;"), (117, .class_ 197), (0, u "java/time/temporal/TemporalUnit")] 39

/-- java/time/temporal/ChronoUnit -/
def k31 : Class := { plain "java/time/temporal/ChronoUnit" (some 11) with
  accessFlags := 16433
  interfaces := #[30]
  cf := some (fileOf pool31 1 #[] #[] 16433 62 #[196] #[{ accessFlags := 16409, nameIndex := 5, descriptorIndex := 6, attributes := #[] }, { accessFlags := 16409, nameIndex := 9, descriptorIndex := 6, attributes := #[] }, { accessFlags := 16409, nameIndex := 12, descriptorIndex := 6, attributes := #[] }, { accessFlags := 16409, nameIndex := 15, descriptorIndex := 6, attributes := #[] }, { accessFlags := 16409, nameIndex := 18, descriptorIndex := 6, attributes := #[] }, { accessFlags := 16409, nameIndex := 21, descriptorIndex := 6, attributes := #[] }, { accessFlags := 16409, nameIndex := 24, descriptorIndex := 6, attributes := #[] }, { accessFlags := 16409, nameIndex := 27, descriptorIndex := 6, attributes := #[] }, { accessFlags := 16409, nameIndex := 30, descriptorIndex := 6, attributes := #[] }, { accessFlags := 16409, nameIndex := 33, descriptorIndex := 6, attributes := #[] }, { accessFlags := 16409, nameIndex := 36, descriptorIndex := 6, attributes := #[] }, { accessFlags := 16409, nameIndex := 39, descriptorIndex := 6, attributes := #[] }, { accessFlags := 16409, nameIndex := 42, descriptorIndex := 6, attributes := #[] }, { accessFlags := 16409, nameIndex := 45, descriptorIndex := 6, attributes := #[] }, { accessFlags := 16409, nameIndex := 48, descriptorIndex := 6, attributes := #[] }, { accessFlags := 16409, nameIndex := 51, descriptorIndex := 6, attributes := #[] }, { accessFlags := 18, nameIndex := 73, descriptorIndex := 74, attributes := #[] }, { accessFlags := 18, nameIndex := 77, descriptorIndex := 78, attributes := #[] }, { accessFlags := 4122, nameIndex := 54, descriptorIndex := 55, attributes := #[] }])
  fields := #[{ name := "NANOS", type := (.object "java/time/temporal/ChronoUnit"), accessFlags := 16409, slot := 0, constantValue := 0 }, { name := "MICROS", type := (.object "java/time/temporal/ChronoUnit"), accessFlags := 16409, slot := 1, constantValue := 0 }, { name := "MILLIS", type := (.object "java/time/temporal/ChronoUnit"), accessFlags := 16409, slot := 2, constantValue := 0 }, { name := "SECONDS", type := (.object "java/time/temporal/ChronoUnit"), accessFlags := 16409, slot := 3, constantValue := 0 }, { name := "MINUTES", type := (.object "java/time/temporal/ChronoUnit"), accessFlags := 16409, slot := 4, constantValue := 0 }, { name := "HOURS", type := (.object "java/time/temporal/ChronoUnit"), accessFlags := 16409, slot := 5, constantValue := 0 }, { name := "HALF_DAYS", type := (.object "java/time/temporal/ChronoUnit"), accessFlags := 16409, slot := 6, constantValue := 0 }, { name := "DAYS", type := (.object "java/time/temporal/ChronoUnit"), accessFlags := 16409, slot := 7, constantValue := 0 }, { name := "WEEKS", type := (.object "java/time/temporal/ChronoUnit"), accessFlags := 16409, slot := 8, constantValue := 0 }, { name := "MONTHS", type := (.object "java/time/temporal/ChronoUnit"), accessFlags := 16409, slot := 9, constantValue := 0 }, { name := "YEARS", type := (.object "java/time/temporal/ChronoUnit"), accessFlags := 16409, slot := 10, constantValue := 0 }, { name := "DECADES", type := (.object "java/time/temporal/ChronoUnit"), accessFlags := 16409, slot := 11, constantValue := 0 }, { name := "CENTURIES", type := (.object "java/time/temporal/ChronoUnit"), accessFlags := 16409, slot := 12, constantValue := 0 }, { name := "MILLENNIA", type := (.object "java/time/temporal/ChronoUnit"), accessFlags := 16409, slot := 13, constantValue := 0 }, { name := "ERAS", type := (.object "java/time/temporal/ChronoUnit"), accessFlags := 16409, slot := 14, constantValue := 0 }, { name := "FOREVER", type := (.object "java/time/temporal/ChronoUnit"), accessFlags := 16409, slot := 15, constantValue := 0 }, { name := "name", type := (.object "java/lang/String"), accessFlags := 18, slot := 3, constantValue := 0 }, { name := "duration", type := (.object "java/time/Duration"), accessFlags := 18, slot := 4, constantValue := 0 }, { name := "$VALUES", type := (.array (.object "java/time/temporal/ChronoUnit")), accessFlags := 4122, slot := 16, constantValue := 0 }]
  methods := #[]
  instanceTypes := #[(.object "java/lang/String"), .int, .int, (.object "java/lang/String"), (.object "java/time/Duration")]
  staticTypes := #[(.object "java/time/temporal/ChronoUnit"), (.object "java/time/temporal/ChronoUnit"), (.object "java/time/temporal/ChronoUnit"), (.object "java/time/temporal/ChronoUnit"), (.object "java/time/temporal/ChronoUnit"), (.object "java/time/temporal/ChronoUnit"), (.object "java/time/temporal/ChronoUnit"), (.object "java/time/temporal/ChronoUnit"), (.object "java/time/temporal/ChronoUnit"), (.object "java/time/temporal/ChronoUnit"), (.object "java/time/temporal/ChronoUnit"), (.object "java/time/temporal/ChronoUnit"), (.object "java/time/temporal/ChronoUnit"), (.object "java/time/temporal/ChronoUnit"), (.object "java/time/temporal/ChronoUnit"), (.object "java/time/temporal/ChronoUnit"), (.array (.object "java/time/temporal/ChronoUnit"))]
  resolved := Array.replicate 237 none
  statics := some 6 }

def pool32 : Array CpInfo := pool [(2, .class_ 4), (1, u "java/lang/CharSequence"), (42, .class_ 48), (0, u "java/lang/CharSequence$1CodePointIterator"), (10, .class_ 60), (0, u "java/lang/CharSequence$1CharIterator"), (5, .class_ 67), (0, u "java/lang/Object")] 63

/-- java/lang/CharSequence -/
def k32 : Class := { plain "java/lang/CharSequence" (some 0) with
  accessFlags := 1537
  interfaces := #[]
  cf := some (fileOf pool32 2 #[.nestMembers #[47, 59]] #[] 1537 66 #[] #[])
  fields := #[]
  methods := #[]
  instanceTypes := #[]
  staticTypes := #[]
  resolved := Array.replicate 131 none
  statics := none }

def pool33 : Array CpInfo := pool [(2, .class_ 4), (1, u "java/lang/Object"), (0, u "<init>"), (0, u "()V"), (3, .class_ 12), (1, u "java/lang/String"), (0, u "value"), (0, u "[B"), (2, u "coder"), (0, u "B"), (2, u "hash"), (0, u "I"), (2, u "hashIsZero"), (0, u "Z"), (13, u "COMPACT_STRINGS"), (534, .class_ 576), (0, u "java/lang/CharSequence"), (22, u "CASE_INSENSITIVE_ORDER"), (0, u "Ljava/util/Comparator;"), (500, u "serialPersistentFields"), (0, u "[Ljava/io/ObjectStreamField;"), (0, .class_ 1104), (0, u "java/lang/String$CaseInsensitiveComparator"), (1, .class_ 1107), (0, u "java/io/Serializable"), (0, .class_ 1109), (0, u "java/lang/Comparable"), (0, .class_ 1111), (0, u "java/lang/constant/Constable"), (0, .class_ 1113), (0, u "java/lang/constant/ConstantDesc"), (2, u "serialVersionUID"), (0, u "J"), (3, u "REPL"), (0, u "C"), (2, u "LATIN1"), (1, u "UTF16")] 323

def k33m0 : Method := { name := "<init>", desc := "()V", sig := { parameters := [], returnType := none }, accessFlags := 1, code := none }
/-- java/lang/String -/
def k33 : Class := { plain "java/lang/String" (some 0) with
  accessFlags := 49
  interfaces := #[8, 6, 32, 10, 26]
  cf := some (fileOf pool33 10 #[.nestMembers #[1103]] #[{ accessFlags := 1, nameIndex := 5, descriptorIndex := 6, attributes := #[] }] 49 2 #[1106, 1108, 575, 1110, 1112] #[{ accessFlags := 18, nameIndex := 13, descriptorIndex := 14, attributes := #[] }, { accessFlags := 18, nameIndex := 17, descriptorIndex := 18, attributes := #[] }, { accessFlags := 2, nameIndex := 21, descriptorIndex := 22, attributes := #[] }, { accessFlags := 2, nameIndex := 25, descriptorIndex := 26, attributes := #[] }, { accessFlags := 26, nameIndex := 1116, descriptorIndex := 1117, attributes := #[] }, { accessFlags := 24, nameIndex := 40, descriptorIndex := 26, attributes := #[] }, { accessFlags := 26, nameIndex := 1101, descriptorIndex := 1102, attributes := #[] }, { accessFlags := 26, nameIndex := 1121, descriptorIndex := 1122, attributes := #[] }, { accessFlags := 25, nameIndex := 599, descriptorIndex := 600, attributes := #[] }, { accessFlags := 24, nameIndex := 1125, descriptorIndex := 18, attributes := #[] }, { accessFlags := 24, nameIndex := 1127, descriptorIndex := 18, attributes := #[] }])
  fields := #[{ name := "value", type := (.array .byte), accessFlags := 18, slot := 0, constantValue := 0 }, { name := "coder", type := .byte, accessFlags := 18, slot := 1, constantValue := 0 }, { name := "hash", type := .int, accessFlags := 2, slot := 2, constantValue := 0 }, { name := "hashIsZero", type := .boolean, accessFlags := 2, slot := 3, constantValue := 0 }, { name := "serialVersionUID", type := .long, accessFlags := 26, slot := 0, constantValue := 0 }, { name := "COMPACT_STRINGS", type := .boolean, accessFlags := 24, slot := 1, constantValue := 0 }, { name := "serialPersistentFields", type := (.array (.object "java/io/ObjectStreamField")), accessFlags := 26, slot := 2, constantValue := 0 }, { name := "REPL", type := .char, accessFlags := 26, slot := 3, constantValue := 0 }, { name := "CASE_INSENSITIVE_ORDER", type := (.object "java/util/Comparator"), accessFlags := 25, slot := 4, constantValue := 0 }, { name := "LATIN1", type := .byte, accessFlags := 24, slot := 5, constantValue := 0 }, { name := "UTF16", type := .byte, accessFlags := 24, slot := 6, constantValue := 0 }]
  methods := #[k33m0]
  instanceTypes := #[(.array .byte), .byte, .int, .boolean]
  staticTypes := #[.long, .boolean, (.array (.object "java/io/ObjectStreamField")), .char, (.object "java/util/Comparator"), .byte, .byte]
  resolved := Array.replicate 1451 none
  statics := none }

def pool34 : Array CpInfo := pool [(1, .class_ 2), (0, u "java/time/temporal/TemporalAmount"), (0, .class_ 4), (0, u "java/lang/Object")] 11

/-- java/time/temporal/TemporalAmount -/
def k34 : Class := { plain "java/time/temporal/TemporalAmount" (some 0) with
  accessFlags := 1537
  interfaces := #[]
  cf := some (fileOf pool34 1 #[] #[] 1537 3 #[] #[])
  fields := #[]
  methods := #[]
  instanceTypes := #[]
  staticTypes := #[]
  resolved := Array.replicate 16 none
  statics := none }

def pool35 : Array CpInfo := pool [(11, .class_ 13), (1, u "java/time/Duration"), (20, u "ZERO"), (0, u "Ljava/time/Duration;"), (13, .class_ 51), (1, u "java/time/temporal/TemporalAmount"), (27, .class_ 81), (1, u "java/time/Duration$Lazy"), (35, u "seconds"), (101, .class_ 220), (0, u "java/lang/Object"), (2, u "J"), (2, u "nanos"), (0, u "I"), (11, .class_ 241), (1, u "java/time/Duration$DurationUnits"), (27, .class_ 271), (1, u "java/time/Duration$1"), (91, u "BI_NANOS_PER_SECOND"), (0, u "Ljava/math/BigInteger;"), (120, .class_ 486), (0, u "java/lang/Comparable"), (0, .class_ 488), (0, u "java/io/Serializable"), (0, u "serialVersionUID")] 166

/-- java/time/Duration -/
def k35 : Class := { plain "java/time/Duration" (some 0) with
  accessFlags := 49
  interfaces := #[34, 6, 8]
  cf := some (fileOf pool35 11 #[.nestMembers #[269, 239, 79]] #[] 49 219 #[49, 485, 487] #[{ accessFlags := 25, nameIndex := 34, descriptorIndex := 35, attributes := #[] }, { accessFlags := 26, nameIndex := 489, descriptorIndex := 223, attributes := #[] }, { accessFlags := 26, nameIndex := 363, descriptorIndex := 364, attributes := #[] }, { accessFlags := 18, nameIndex := 117, descriptorIndex := 223, attributes := #[] }, { accessFlags := 18, nameIndex := 226, descriptorIndex := 227, attributes := #[] }])
  fields := #[{ name := "ZERO", type := (.object "java/time/Duration"), accessFlags := 25, slot := 0, constantValue := 0 }, { name := "serialVersionUID", type := .long, accessFlags := 26, slot := 1, constantValue := 0 }, { name := "BI_NANOS_PER_SECOND", type := (.object "java/math/BigInteger"), accessFlags := 26, slot := 2, constantValue := 0 }, { name := "seconds", type := .long, accessFlags := 18, slot := 0, constantValue := 0 }, { name := "nanos", type := .int, accessFlags := 18, slot := 1, constantValue := 0 }]
  methods := #[]
  instanceTypes := #[.long, .int]
  staticTypes := #[(.object "java/time/Duration"), .long, (.object "java/math/BigInteger")]
  resolved := Array.replicate 656 none
  statics := none }

def pool36 : Array CpInfo := pool [(1, u "java/lang/Cloneable"), (0, .class_ 1), (0, u "java/lang/Object"), (0, .class_ 3)] 3

/-- java/lang/Cloneable -/
def k36 : Class := { plain "java/lang/Cloneable" (some 0) with
  accessFlags := 1537
  interfaces := #[]
  cf := some (fileOf pool36 2 #[] #[] 1537 4 #[] #[])
  fields := #[]
  methods := #[]
  instanceTypes := #[]
  staticTypes := #[]
  resolved := Array.replicate 8 none
  statics := none }

/-- the primitive byte -/
def k37 : Class := { plain "byte" none with kind := .primitive 'B', accessFlags := 0x411 }
/-- [B -/
def k38 : Class := { plain "[B" (some 0) with kind := .array 37 .byte, interfaces := #[36, 8], accessFlags := 1041 }

/-- the primitive int -/
def k39 : Class := { plain "int" none with kind := .primitive 'I', accessFlags := 0x411 }
/-- [I -/
def k40 : Class := { plain "[I" (some 0) with kind := .array 39 .int, interfaces := #[36, 8], accessFlags := 1041 }

/-- the primitive long -/
def k41 : Class := { plain "long" none with kind := .primitive 'J', accessFlags := 0x411 }
/-- [J -/
def k42 : Class := { plain "[J" (some 0) with kind := .array 41 .long, interfaces := #[36, 8], accessFlags := 1041 }

/-- [Lcom/example/roomyield/roomyield/NightTally$MonthNights; -/
def k43 : Class := { plain "[Lcom/example/roomyield/roomyield/NightTally$MonthNights;" (some 0) with kind := .array 16 (.object "com/example/roomyield/roomyield/NightTally$MonthNights"), interfaces := #[36, 8], accessFlags := 1041 }

/-- [Ljava/math/BigDecimal; -/
def k44 : Class := { plain "[Ljava/math/BigDecimal;" (some 0) with kind := .array 19 (.object "java/math/BigDecimal"), interfaces := #[36, 8], accessFlags := 1041 }

/-- [Ljava/time/Month; -/
def k45 : Class := { plain "[Ljava/time/Month;" (some 0) with kind := .array 21 (.object "java/time/Month"), interfaces := #[36, 8], accessFlags := 1041 }

def heap : Heap := #[{ cls := 13, slots := #[.null, .null, .null, .null, .null, .null, .null, .null, .null, .null, .null, .null, .null, .null, .null, .null, .null, .null, .null, .null, .ref 7, .null, .null, .ref 35, .null, .null, .ref 26, .null, .null, .null, .null], vm := .statics 13 },
  { cls := 17, slots := #[.ref 19], vm := .statics 17 },
  { cls := 19, slots := #[.double 0, .int 0, .int 0, .int 0, .int 0, .int 0, .int 0, .long 0, .null, .int 0, .long 0, .ref 73, .null, .long 0, .long 0, .ref 70, .ref 23, .ref 74, .ref 20, .null, .null, .int 0, .int 0, .int 0, .int 0, .int 0, .int 0, .int 0, .int 0, .null, .null, .null, .null, .int 0, .int 0, .null, .long 0, .null, .int 0], vm := .statics 19 },
  { cls := 21, slots := #[.ref 45, .ref 47, .ref 49, .ref 51, .ref 53, .ref 55, .ref 57, .ref 59, .ref 61, .ref 63, .ref 65, .ref 67, .ref 44, .null], vm := .statics 21 },
  { cls := 24, slots := #[.ref 69, .long 0, .long 0], vm := .statics 24 },
  { cls := 29, slots := #[.long 0, .int 0, .int 0, .int 0, .int 0, .int 0, .int 0, .int 0, .int 0, .int 0, .int 0, .int 0, .null, .int 0, .int 0, .null, .int 0, .null, .null, .null, .null, .double 0, .ref 71, .ref 24, .ref 75, .null, .ref 21, .null, .int 0, .null, .null, .null, .null, .null, .long 0, .null, .int 0], vm := .statics 29 },
  { cls := 31, slots := #[.null, .null, .null, .null, .null, .null, .null, .ref 10, .null, .ref 38, .ref 29, .null, .null, .null, .null, .ref 14, .null], vm := .statics 31 },
  { cls := 13, slots := #[.ref 8, .int 20, .int 0, .ref 9, .ref 10, .ref 14, .ref 18, .null], vm := .none },
  { cls := 33, slots := #[.null, .int 0, .int 0, .int 0], vm := .none },
  { cls := 33, slots := #[.null, .int 0, .int 0, .int 0], vm := .none },
  { cls := 31, slots := #[.ref 11, .int 7, .int 0, .ref 12, .ref 13], vm := .none },
  { cls := 33, slots := #[.null, .int 0, .int 0, .int 0], vm := .none },
  { cls := 33, slots := #[.null, .int 0, .int 0, .int 0], vm := .none },
  { cls := 35, slots := #[.long 0, .int 0], vm := .none },
  { cls := 31, slots := #[.ref 15, .int 15, .int 0, .ref 16, .ref 17], vm := .none },
  { cls := 33, slots := #[.null, .int 0, .int 0, .int 0], vm := .none },
  { cls := 33, slots := #[.null, .int 0, .int 0, .int 0], vm := .none },
  { cls := 35, slots := #[.long 0, .int 0], vm := .none },
  { cls := 14, slots := #[.long (-365243219162), .long (-365243219162), .long 365241780471, .long 365241780471], vm := .none },
  { cls := 17, slots := #[.null], vm := .none },
  { cls := 19, slots := #[.ref 21, .int 0, .int 0, .null, .long 10], vm := .none },
  { cls := 29, slots := #[.int 1, .ref 22, .int 0, .int 0, .int 0, .int 0], vm := .none },
  { cls := 40, slots := #[.int 10], vm := .none },
  { cls := 19, slots := #[.ref 24, .int 0, .int 0, .null, .long 1], vm := .none },
  { cls := 29, slots := #[.int 1, .ref 25, .int 0, .int 0, .int 0, .int 0], vm := .none },
  { cls := 40, slots := #[.int 1], vm := .none },
  { cls := 13, slots := #[.ref 27, .int 26, .int 0, .ref 28, .ref 29, .ref 14, .ref 33, .ref 34], vm := .none },
  { cls := 33, slots := #[.null, .int 0, .int 0, .int 0], vm := .none },
  { cls := 33, slots := #[.null, .int 0, .int 0, .int 0], vm := .none },
  { cls := 31, slots := #[.ref 30, .int 10, .int 0, .ref 31, .ref 32], vm := .none },
  { cls := 33, slots := #[.null, .int 0, .int 0, .int 0], vm := .none },
  { cls := 33, slots := #[.null, .int 0, .int 0, .int 0], vm := .none },
  { cls := 35, slots := #[.long 0, .int 0], vm := .none },
  { cls := 14, slots := #[.long (-999999999), .long (-999999999), .long 999999999, .long 999999999], vm := .none },
  { cls := 33, slots := #[.null, .int 0, .int 0, .int 0], vm := .none },
  { cls := 13, slots := #[.ref 36, .int 23, .int 0, .ref 37, .ref 38, .ref 29, .ref 42, .ref 43], vm := .none },
  { cls := 33, slots := #[.null, .int 0, .int 0, .int 0], vm := .none },
  { cls := 33, slots := #[.null, .int 0, .int 0, .int 0], vm := .none },
  { cls := 31, slots := #[.ref 39, .int 9, .int 0, .ref 40, .ref 41], vm := .none },
  { cls := 33, slots := #[.null, .int 0, .int 0, .int 0], vm := .none },
  { cls := 33, slots := #[.null, .int 0, .int 0, .int 0], vm := .none },
  { cls := 35, slots := #[.long 0, .int 0], vm := .none },
  { cls := 14, slots := #[.long 1, .long 1, .long 12, .long 12], vm := .none },
  { cls := 33, slots := #[.null, .int 0, .int 0, .int 0], vm := .none },
  { cls := 45, slots := #[.ref 45, .ref 47, .ref 49, .ref 51, .ref 53, .ref 55, .ref 57, .ref 59, .ref 61, .ref 63, .ref 65, .ref 67], vm := .none },
  { cls := 21, slots := #[.ref 46, .int 0, .int 0], vm := .none },
  { cls := 33, slots := #[.null, .int 0, .int 0, .int 0], vm := .none },
  { cls := 21, slots := #[.ref 48, .int 1, .int 0], vm := .none },
  { cls := 33, slots := #[.null, .int 0, .int 0, .int 0], vm := .none },
  { cls := 21, slots := #[.ref 50, .int 2, .int 0], vm := .none },
  { cls := 33, slots := #[.null, .int 0, .int 0, .int 0], vm := .none },
  { cls := 21, slots := #[.ref 52, .int 3, .int 0], vm := .none },
  { cls := 33, slots := #[.null, .int 0, .int 0, .int 0], vm := .none },
  { cls := 21, slots := #[.ref 54, .int 4, .int 0], vm := .none },
  { cls := 33, slots := #[.null, .int 0, .int 0, .int 0], vm := .none },
  { cls := 21, slots := #[.ref 56, .int 5, .int 0], vm := .none },
  { cls := 33, slots := #[.null, .int 0, .int 0, .int 0], vm := .none },
  { cls := 21, slots := #[.ref 58, .int 6, .int 0], vm := .none },
  { cls := 33, slots := #[.null, .int 0, .int 0, .int 0], vm := .none },
  { cls := 21, slots := #[.ref 60, .int 7, .int 0], vm := .none },
  { cls := 33, slots := #[.null, .int 0, .int 0, .int 0], vm := .none },
  { cls := 21, slots := #[.ref 62, .int 8, .int 0], vm := .none },
  { cls := 33, slots := #[.null, .int 0, .int 0, .int 0], vm := .none },
  { cls := 21, slots := #[.ref 64, .int 9, .int 0], vm := .none },
  { cls := 33, slots := #[.null, .int 0, .int 0, .int 0], vm := .none },
  { cls := 21, slots := #[.ref 66, .int 10, .int 0], vm := .none },
  { cls := 33, slots := #[.null, .int 0, .int 0, .int 0], vm := .none },
  { cls := 21, slots := #[.ref 68, .int 11, .int 0], vm := .none },
  { cls := 33, slots := #[.null, .int 0, .int 0, .int 0], vm := .none },
  { cls := 24, slots := #[], vm := .none },
  { cls := 19, slots := #[.ref 71, .int 0, .int 0, .null, .long 0], vm := .none },
  { cls := 29, slots := #[.int 0, .ref 72, .int 0, .int 0, .int 0, .int 0], vm := .none },
  { cls := 40, slots := #[], vm := .none },
  { cls := 44, slots := #[.ref 70, .ref 23, .ref 74, .ref 77, .ref 80, .ref 83, .ref 86, .ref 89, .ref 92, .ref 95, .ref 20], vm := .none },
  { cls := 19, slots := #[.ref 75, .int 0, .int 0, .null, .long 2], vm := .none },
  { cls := 29, slots := #[.int 1, .ref 76, .int 0, .int 0, .int 0, .int 0], vm := .none },
  { cls := 40, slots := #[.int 0], vm := .none },
  { cls := 19, slots := #[.ref 78, .int 0, .int 0, .null, .long 3], vm := .none },
  { cls := 29, slots := #[.int 1, .ref 79, .int 0, .int 0, .int 0, .int 0], vm := .none },
  { cls := 40, slots := #[.int 0], vm := .none },
  { cls := 19, slots := #[.ref 81, .int 0, .int 0, .null, .long 4], vm := .none },
  { cls := 29, slots := #[.int 1, .ref 82, .int 0, .int 0, .int 0, .int 0], vm := .none },
  { cls := 40, slots := #[.int 0], vm := .none },
  { cls := 19, slots := #[.ref 84, .int 0, .int 0, .null, .long 5], vm := .none },
  { cls := 29, slots := #[.int 1, .ref 85, .int 0, .int 0, .int 0, .int 0], vm := .none },
  { cls := 40, slots := #[.int 0], vm := .none },
  { cls := 19, slots := #[.ref 87, .int 0, .int 0, .null, .long 6], vm := .none },
  { cls := 29, slots := #[.int 1, .ref 88, .int 0, .int 0, .int 0, .int 0], vm := .none },
  { cls := 40, slots := #[.int 0], vm := .none },
  { cls := 19, slots := #[.ref 90, .int 0, .int 0, .null, .long 7], vm := .none },
  { cls := 29, slots := #[.int 1, .ref 91, .int 0, .int 0, .int 0, .int 0], vm := .none },
  { cls := 40, slots := #[.int 0], vm := .none },
  { cls := 19, slots := #[.ref 93, .int 0, .int 0, .null, .long 8], vm := .none },
  { cls := 29, slots := #[.int 1, .ref 94, .int 0, .int 0, .int 0, .int 0], vm := .none },
  { cls := 40, slots := #[.int 0], vm := .none },
  { cls := 19, slots := #[.ref 96, .int 0, .int 0, .null, .long 9], vm := .none },
  { cls := 29, slots := #[.int 1, .ref 97, .int 0, .int 0, .int 0, .int 0], vm := .none },
  { cls := 40, slots := #[.int 0], vm := .none }]
def classes : Array Class := #[k0, k1, k2, k3, k4, k5, k6, k7, k8, k9, k10, k11, k12, k13, k14, k15, k16, k17, k18, k19, k20, k21, k22, k23, k24, k25, k26, k27, k28, k29, k30, k31, k32, k33, k34, k35, k36, k37, k38, k39, k40, k41, k42, k43, k44, k45]
def interned : List (Array UInt16 × Addr) := []
def slotsUsed : Nat := 509
def theMethod : MethodId := ⟨1, 6⟩
def args0 : Array Value := #[.int 5, .int 6, .int 7, .int 8, .int 9]
def aboutOver (below : List Frame) : State where
  vm := { classes := classes, interned := interned.toArray }
  heap := heap
  slotsUsed := slotsUsed
  threads := #[{ frames := .invoking theMethod args0 :: below }]
def below0 : List Frame := [.native { method := ⟨0, 0⟩, args := #[] }]
def about1 : State := aboutOver below0
def p0 : Program := .bare "" "" ""
def e0 : Env := launch0.env 0 0 0
theorem w_frames : about1.frames = Frame.invoking theMethod args0 :: below0 := rfl
set_option maxRecDepth 65536 in
theorem w_args : argsFit about1.vm theMethod args0 = true := by decide +kernel
set_option maxRecDepth 65536 in
theorem w_heap : heapFits about1 = true := by decide +kernel
set_option maxRecDepth 65536 in
theorem w_runnable : about1.curStatus? = some .runnable := by decide +kernel
set_option maxRecDepth 65536 in
theorem w_alone : about1.alone = true := by decide +kernel
set_option maxRecDepth 65536 in
theorem w_named : about1.methodNamed? x = some theMethod := by decide +kernel
set_option maxRecDepth 65536 in
theorem w_hears : about1.hears theMethod below0 = true := by decide +kernel
set_option maxRecDepth 65536 in
theorem w_ripe : about1.ripe theMethod args0 below0 = true := by decide +kernel
theorem w_running : about1.status = .running := rfl
set_option maxRecDepth 65536 in
theorem w_room : about1.hasRoom e0.platform room_1 = true :=
  launch0.hasRoom_least _ room_1 (by decide +kernel) (by decide +kernel) (by decide +kernel) (by decide +kernel) (by decide +kernel) (by decide +kernel)
theorem allAtoms_all (ts : List Jvm.Cond) (a : Array Jvm.Value) (st : Jvm.State) : (allAtoms ts).before a st = ts.all (fun c => c.before a st) := by
  induction ts with
  | nil => rfl
  | cons c t ih =>
    show (Jvm.Cond.and c (allAtoms t)).before a st = _
    rw [Jvm.Cond.before_and, ih, List.all_cons]
def words1 : List Jvm.Cond := Jvm.Cond.code x code maxLocals ret :: tables_1
/-- a 'code' word, met by the world's own term for the bytes: nothing is compared byte by byte -/
theorem code_word {y : MethodName} {bytes : ByteArray} {mx : Nat} {rt : Option FieldType} {a : Array Value} {s : State} {m : MethodId} {meth : Method} {c : Code} (h1 : s.methodNamed? y = some m) (h2 : s.vm.method? m = some meth) (h3 : meth.code = some c) (h4 : c.code = bytes)
    (h5 : (c.maxLocals == mx && c.exceptionTable.isEmpty && decide (c.maxStack ≤ mostOperands) && decide (meth.sig.returnType = rt) && !meth.locks && decide (parseMethodDescriptor y.desc = some meth.sig)) = true) : (Jvm.Cond.code y bytes mx rt).before a s = true := by
  simp only [Bool.and_eq_true, beq_iff_eq, Bool.not_eq_true', decide_eq_true_eq] at h5
  obtain ⟨⟨⟨⟨⟨g1, g2⟩, g3⟩, g4⟩, g5⟩, g6⟩ := h5
  simp [Cond.before, Cond.holds, Cond.value, h1, h2, h3, h4, g1, g2, g3, g4, g5, g6]
def isCode : Jvm.Cond → Bool
  | .code _ _ _ _ => true
  | _ => false
theorem all_split {L : List Jvm.Cond} {P : Jvm.Cond → Bool} (h1 : L.all (fun c => isCode c || P c) = true) (h2 : ∀ c ∈ L.filter isCode, P c = true) : L.all P = true := by
  refine List.all_eq_true.mpr fun c hc => ?_
  have h := List.all_eq_true.mp h1 c hc
  rcases Bool.eq_false_or_eq_true (isCode c) with hi | hi
  · exact h2 c (List.mem_filter.mpr ⟨hc, hi⟩)
  · simpa [hi] using h
set_option maxRecDepth 65536 in
theorem w_c0 : (Jvm.Cond.code x code maxLocals ret).before args0 about1 = true := code_word (m := ⟨1, 6⟩) (meth := k1m6) (c := k1c6) (by decide +kernel) rfl rfl rfl (by decide +kernel)
set_option maxRecDepth 65536 in
theorem w_c1 : (Jvm.Cond.code ({ cls := "com/example/roomyield/roomyield/NightTallyFirstMonthPinLaw", name := "start", desc := "(I)J" } : Jvm.MethodName) method_2_code (1 : Nat) (Option.some Jvm.ClassFile.FieldType.long)).before args0 about1 = true := code_word (m := ⟨1, 1⟩) (meth := k1m1) (c := k1c1) (by decide +kernel) rfl rfl rfl (by decide +kernel)
set_option maxRecDepth 65536 in
theorem w_c2 : (Jvm.Cond.code ({ cls := "com/example/roomyield/roomyield/NightTallyFirstMonthPinLaw", name := "other", desc := "(III)J" } : Jvm.MethodName) method_3_code (7 : Nat) (Option.some Jvm.ClassFile.FieldType.long)).before args0 about1 = true := code_word (m := ⟨1, 2⟩) (meth := k1m2) (c := k1c2) (by decide +kernel) rfl rfl rfl (by decide +kernel)
set_option maxRecDepth 65536 in
theorem w_c3 : (Jvm.Cond.code ({ cls := "java/lang/Math", name := "min", desc := "(JJ)J" } : Jvm.MethodName) jdk_29_method_70_code (4 : Nat) (Option.some Jvm.ClassFile.FieldType.long)).before args0 about1 = true := code_word (m := ⟨2, 5⟩) (meth := k2m5) (c := k2c5) (by decide +kernel) rfl rfl rfl (by decide +kernel)
set_option maxRecDepth 65536 in
theorem w_c4 : (Jvm.Cond.code ({ cls := "java/lang/Math", name := "max", desc := "(JJ)J" } : Jvm.MethodName) jdk_29_method_66_code (4 : Nat) (Option.some Jvm.ClassFile.FieldType.long)).before args0 about1 = true := code_word (m := ⟨2, 3⟩) (meth := k2m3) (c := k2c3) (by decide +kernel) rfl rfl rfl (by decide +kernel)
set_option maxRecDepth 65536 in
theorem w_c5 : (Jvm.Cond.code ({ cls := "com/example/roomyield/roomyield/NightTallyFirstMonthPinLaw", name := "date", desc := "(J)Ljava/time/LocalDate;" } : Jvm.MethodName) method_4_code (2 : Nat) (Option.some (Jvm.ClassFile.FieldType.object "java/time/LocalDate"))).before args0 about1 = true := code_word (m := ⟨1, 3⟩) (meth := k1m3) (c := k1c3) (by decide +kernel) rfl rfl rfl (by decide +kernel)
set_option maxRecDepth 65536 in
theorem w_c6 : (Jvm.Cond.code ({ cls := "java/time/LocalDate", name := "ofEpochDay", desc := "(J)Ljava/time/LocalDate;" } : Jvm.MethodName) jdk_2323_method_8_code (14 : Nat) (Option.some (Jvm.ClassFile.FieldType.object "java/time/LocalDate"))).before args0 about1 = true := code_word (m := ⟨9, 0⟩) (meth := k9m0) (c := k9c0) (by decide +kernel) rfl rfl rfl (by decide +kernel)
set_option maxRecDepth 65536 in
theorem w_c7 : (Jvm.Cond.code ({ cls := "java/time/temporal/ChronoField", name := "checkValidValue", desc := "(J)J" } : Jvm.MethodName) jdk_2395_method_11_code (3 : Nat) (Option.some Jvm.ClassFile.FieldType.long)).before args0 about1 = true := code_word (m := ⟨13, 1⟩) (meth := k13m1) (c := k13c1) (by decide +kernel) rfl rfl rfl (by decide +kernel)
set_option maxRecDepth 65536 in
theorem w_c8 : (Jvm.Cond.code ({ cls := "java/time/temporal/ChronoField", name := "range", desc := "()Ljava/time/temporal/ValueRange;" } : Jvm.MethodName) jdk_2395_method_8_code (1 : Nat) (Option.some (Jvm.ClassFile.FieldType.object "java/time/temporal/ValueRange"))).before args0 about1 = true := code_word (m := ⟨13, 0⟩) (meth := k13m0) (c := k13c0) (by decide +kernel) rfl rfl rfl (by decide +kernel)
set_option maxRecDepth 65536 in
theorem w_c9 : (Jvm.Cond.code ({ cls := "java/time/temporal/ValueRange", name := "checkValidValue", desc := "(JLjava/time/temporal/TemporalField;)J" } : Jvm.MethodName) jdk_2423_method_13_code (4 : Nat) (Option.some Jvm.ClassFile.FieldType.long)).before args0 about1 = true := code_word (m := ⟨14, 3⟩) (meth := k14m3) (c := k14c3) (by decide +kernel) rfl rfl rfl (by decide +kernel)
set_option maxRecDepth 65536 in
theorem w_c10 : (Jvm.Cond.code ({ cls := "java/time/temporal/ValueRange", name := "isValidValue", desc := "(J)Z" } : Jvm.MethodName) jdk_2423_method_11_code (3 : Nat) (Option.some Jvm.ClassFile.FieldType.boolean)).before args0 about1 = true := code_word (m := ⟨14, 2⟩) (meth := k14m2) (c := k14c2) (by decide +kernel) rfl rfl rfl (by decide +kernel)
set_option maxRecDepth 65536 in
theorem w_c11 : (Jvm.Cond.code ({ cls := "java/time/temporal/ValueRange", name := "getMinimum", desc := "()J" } : Jvm.MethodName) jdk_2423_method_6_code (1 : Nat) (Option.some Jvm.ClassFile.FieldType.long)).before args0 about1 = true := code_word (m := ⟨14, 0⟩) (meth := k14m0) (c := k14c0) (by decide +kernel) rfl rfl rfl (by decide +kernel)
set_option maxRecDepth 65536 in
theorem w_c12 : (Jvm.Cond.code ({ cls := "java/time/temporal/ValueRange", name := "getMaximum", desc := "()J" } : Jvm.MethodName) jdk_2423_method_9_code (1 : Nat) (Option.some Jvm.ClassFile.FieldType.long)).before args0 about1 = true := code_word (m := ⟨14, 1⟩) (meth := k14m1) (c := k14c1) (by decide +kernel) rfl rfl rfl (by decide +kernel)
set_option maxRecDepth 65536 in
theorem w_c13 : (Jvm.Cond.code ({ cls := "java/time/LocalDate", name := "<init>", desc := "(III)V" } : Jvm.MethodName) jdk_2323_method_14_code (4 : Nat) (Option.none : Option Jvm.ClassFile.FieldType)).before args0 about1 = true := code_word (m := ⟨9, 1⟩) (meth := k9m1) (c := k9c1) (by decide +kernel) rfl rfl rfl (by decide +kernel)
set_option maxRecDepth 65536 in
theorem w_c14 : (Jvm.Cond.code ({ cls := "java/lang/Object", name := "<init>", desc := "()V" } : Jvm.MethodName) object_method_1_code (1 : Nat) (Option.none : Option Jvm.ClassFile.FieldType)).before args0 about1 = true := code_word (m := ⟨0, 0⟩) (meth := k0m0) (c := k0c0) (by decide +kernel) rfl rfl rfl (by decide +kernel)
set_option maxRecDepth 65536 in
theorem w_c15 : (Jvm.Cond.code ({ cls := "com/example/roomyield/roomyield/NightTally", name := "<init>", desc := "()V" } : Jvm.MethodName) prog_5_method_1_code (1 : Nat) (Option.none : Option Jvm.ClassFile.FieldType)).before args0 about1 = true := code_word (m := ⟨15, 0⟩) (meth := k15m0) (c := k15c0) (by decide +kernel) rfl rfl rfl (by decide +kernel)
set_option maxRecDepth 65536 in
theorem w_c16 : (Jvm.Cond.code ({ cls := "com/example/roomyield/roomyield/NightTally", name := "firstMonth", desc := "()Ljava/util/Optional;" } : Jvm.MethodName) prog_5_method_3_code (1 : Nat) (Option.some (Jvm.ClassFile.FieldType.object "java/util/Optional"))).before args0 about1 = true := code_word (m := ⟨15, 2⟩) (meth := k15m2) (c := k15c2) (by decide +kernel) rfl rfl rfl (by decide +kernel)
set_option maxRecDepth 65536 in
theorem w_c17 : (Jvm.Cond.code ({ cls := "java/util/Optional", name := "empty", desc := "()Ljava/util/Optional;" } : Jvm.MethodName) jdk_32_method_1_code (1 : Nat) (Option.some (Jvm.ClassFile.FieldType.object "java/util/Optional"))).before args0 about1 = true := code_word (m := ⟨17, 0⟩) (meth := k17m0) (c := k17c0) (by decide +kernel) rfl rfl rfl (by decide +kernel)
set_option maxRecDepth 65536 in
theorem w_c18 : (Jvm.Cond.code ({ cls := "java/util/Optional", name := "isEmpty", desc := "()Z" } : Jvm.MethodName) jdk_32_method_7_code (1 : Nat) (Option.some Jvm.ClassFile.FieldType.boolean)).before args0 about1 = true := code_word (m := ⟨17, 4⟩) (meth := k17m4) (c := k17c4) (by decide +kernel) rfl rfl rfl (by decide +kernel)
set_option maxRecDepth 65536 in
theorem w_c19 : (Jvm.Cond.code ({ cls := "com/example/roomyield/roomyield/NightTallyFirstMonthPinLaw", name := "rate", desc := "(I)Ljava/math/BigDecimal;" } : Jvm.MethodName) method_6_code (1 : Nat) (Option.some (Jvm.ClassFile.FieldType.object "java/math/BigDecimal"))).before args0 about1 = true := code_word (m := ⟨1, 5⟩) (meth := k1m5) (c := k1c5) (by decide +kernel) rfl rfl rfl (by decide +kernel)
set_option maxRecDepth 65536 in
theorem w_c20 : (Jvm.Cond.code ({ cls := "com/example/roomyield/roomyield/NightTally", name := "add", desc := "(Ljava/time/LocalDate;Ljava/time/LocalDate;Ljava/math/BigDecimal;Ljava/math/BigDecimal;)V" } : Jvm.MethodName) prog_5_method_2_code (10 : Nat) (Option.none : Option Jvm.ClassFile.FieldType)).before args0 about1 = true := code_word (m := ⟨15, 1⟩) (meth := k15m1) (c := k15c1) (by decide +kernel) rfl rfl rfl (by decide +kernel)
set_option maxRecDepth 65536 in
theorem w_c21 : (Jvm.Cond.code ({ cls := "java/time/LocalDate", name := "isBefore", desc := "(Ljava/time/chrono/ChronoLocalDate;)Z" } : Jvm.MethodName) jdk_2323_method_72_code (2 : Nat) (Option.some Jvm.ClassFile.FieldType.boolean)).before args0 about1 = true := code_word (m := ⟨9, 6⟩) (meth := k9m6) (c := k9c6) (by decide +kernel) rfl rfl rfl (by decide +kernel)
set_option maxRecDepth 65536 in
theorem w_c22 : (Jvm.Cond.code ({ cls := "java/time/LocalDate", name := "compareTo0", desc := "(Ljava/time/LocalDate;)I" } : Jvm.MethodName) jdk_2323_method_70_code (3 : Nat) (Option.some Jvm.ClassFile.FieldType.int)).before args0 about1 = true := code_word (m := ⟨9, 5⟩) (meth := k9m5) (c := k9c5) (by decide +kernel) rfl rfl rfl (by decide +kernel)
set_option maxRecDepth 65536 in
theorem w_c23 : (Jvm.Cond.code ({ cls := "java/time/LocalDate", name := "getYear", desc := "()I" } : Jvm.MethodName) jdk_2323_method_24_code (1 : Nat) (Option.some Jvm.ClassFile.FieldType.int)).before args0 about1 = true := code_word (m := ⟨9, 2⟩) (meth := k9m2) (c := k9c2) (by decide +kernel) rfl rfl rfl (by decide +kernel)
set_option maxRecDepth 65536 in
theorem w_c24 : (Jvm.Cond.code ({ cls := "java/time/LocalDate", name := "getMonthValue", desc := "()I" } : Jvm.MethodName) jdk_2323_method_25_code (1 : Nat) (Option.some Jvm.ClassFile.FieldType.int)).before args0 about1 = true := code_word (m := ⟨9, 3⟩) (meth := k9m3) (c := k9c3) (by decide +kernel) rfl rfl rfl (by decide +kernel)
set_option maxRecDepth 65536 in
theorem w_c25 : (Jvm.Cond.code ({ cls := "com/example/roomyield/roomyield/NightTally", name := "index", desc := "(II)I" } : Jvm.MethodName) prog_5_method_7_code (2 : Nat) (Option.some Jvm.ClassFile.FieldType.int)).before args0 about1 = true := code_word (m := ⟨15, 3⟩) (meth := k15m3) (c := k15c3) (by decide +kernel) rfl rfl rfl (by decide +kernel)
set_option maxRecDepth 65536 in
theorem w_c26 : (Jvm.Cond.code ({ cls := "com/example/roomyield/roomyield/NightTally", name := "tally", desc := "(I)Lcom/example/roomyield/roomyield/NightTally$MonthNights;" } : Jvm.MethodName) prog_5_method_9_code (2 : Nat) (Option.some (Jvm.ClassFile.FieldType.object "com/example/roomyield/roomyield/NightTally$MonthNights"))).before args0 about1 = true := code_word (m := ⟨15, 5⟩) (meth := k15m5) (c := k15c5) (by decide +kernel) rfl rfl rfl (by decide +kernel)
set_option maxRecDepth 65536 in
theorem w_c27 : (Jvm.Cond.code ({ cls := "com/example/roomyield/roomyield/NightTally", name := "month", desc := "(I)Ljava/time/YearMonth;" } : Jvm.MethodName) prog_5_method_8_code (1 : Nat) (Option.some (Jvm.ClassFile.FieldType.object "java/time/YearMonth"))).before args0 about1 = true := code_word (m := ⟨15, 4⟩) (meth := k15m4) (c := k15c4) (by decide +kernel) rfl rfl rfl (by decide +kernel)
set_option maxRecDepth 65536 in
theorem w_c28 : (Jvm.Cond.code ({ cls := "java/time/YearMonth", name := "of", desc := "(II)Ljava/time/YearMonth;" } : Jvm.MethodName) jdk_2340_method_5_code (2 : Nat) (Option.some (Jvm.ClassFile.FieldType.object "java/time/YearMonth"))).before args0 about1 = true := code_word (m := ⟨20, 0⟩) (meth := k20m0) (c := k20c0) (by decide +kernel) rfl rfl rfl (by decide +kernel)
set_option maxRecDepth 65536 in
theorem w_c29 : (Jvm.Cond.code ({ cls := "java/time/YearMonth", name := "<init>", desc := "(II)V" } : Jvm.MethodName) jdk_2340_method_9_code (3 : Nat) (Option.none : Option Jvm.ClassFile.FieldType)).before args0 about1 = true := code_word (m := ⟨20, 1⟩) (meth := k20m1) (c := k20c1) (by decide +kernel) rfl rfl rfl (by decide +kernel)
set_option maxRecDepth 65536 in
theorem w_c30 : (Jvm.Cond.code ({ cls := "java/time/YearMonth", name := "lengthOfMonth", desc := "()I" } : Jvm.MethodName) jdk_2340_method_22_code (1 : Nat) (Option.some Jvm.ClassFile.FieldType.int)).before args0 about1 = true := code_word (m := ⟨20, 6⟩) (meth := k20m6) (c := k20c6) (by decide +kernel) rfl rfl rfl (by decide +kernel)
set_option maxRecDepth 65536 in
theorem w_c31 : (Jvm.Cond.code ({ cls := "java/time/YearMonth", name := "getMonth", desc := "()Ljava/time/Month;" } : Jvm.MethodName) jdk_2340_method_19_code (1 : Nat) (Option.some (Jvm.ClassFile.FieldType.object "java/time/Month"))).before args0 about1 = true := code_word (m := ⟨20, 4⟩) (meth := k20m4) (c := k20c4) (by decide +kernel) rfl rfl rfl (by decide +kernel)
set_option maxRecDepth 65536 in
theorem w_c32 : (Jvm.Cond.code ({ cls := "java/time/Month", name := "of", desc := "(I)Ljava/time/Month;" } : Jvm.MethodName) jdk_2329_method_4_code (1 : Nat) (Option.some (Jvm.ClassFile.FieldType.object "java/time/Month"))).before args0 about1 = true := code_word (m := ⟨21, 0⟩) (meth := k21m0) (c := k21c0) (by decide +kernel) rfl rfl rfl (by decide +kernel)
set_option maxRecDepth 65536 in
theorem w_c33 : (Jvm.Cond.code ({ cls := "java/time/YearMonth", name := "isLeapYear", desc := "()Z" } : Jvm.MethodName) jdk_2340_method_20_code (1 : Nat) (Option.some Jvm.ClassFile.FieldType.boolean)).before args0 about1 = true := code_word (m := ⟨20, 5⟩) (meth := k20m5) (c := k20c5) (by decide +kernel) rfl rfl rfl (by decide +kernel)
set_option maxRecDepth 65536 in
theorem w_c34 : (Jvm.Cond.code ({ cls := "java/time/chrono/IsoChronology", name := "isLeapYear", desc := "(J)Z" } : Jvm.MethodName) jdk_2369_method_18_code (3 : Nat) (Option.some Jvm.ClassFile.FieldType.boolean)).before args0 about1 = true := code_word (m := ⟨24, 1⟩) (meth := k24m1) (c := k24c1) (by decide +kernel) rfl rfl rfl (by decide +kernel)
set_option maxRecDepth 65536 in
theorem w_c35 : (Jvm.Cond.code ({ cls := "java/time/Month", name := "length", desc := "(Z)I" } : Jvm.MethodName) jdk_2329_method_14_code (2 : Nat) (Option.some Jvm.ClassFile.FieldType.int)).before args0 about1 = true := code_word (m := ⟨21, 1⟩) (meth := k21m1) (c := k21c1) (by decide +kernel) rfl rfl rfl (by decide +kernel)
set_option maxRecDepth 65536 in
theorem w_c36 : (Jvm.Cond.code ({ cls := "java/lang/Enum", name := "ordinal", desc := "()I" } : Jvm.MethodName) jdk_37_method_2_code (1 : Nat) (Option.some Jvm.ClassFile.FieldType.int)).before args0 about1 = true := code_word (m := ⟨11, 0⟩) (meth := k11m0) (c := k11c0) (by decide +kernel) rfl rfl rfl (by decide +kernel)
set_option maxRecDepth 65536 in
theorem w_c37 : (Jvm.Cond.code ({ cls := "com/example/roomyield/roomyield/NightTally$MonthNights", name := "<init>", desc := "(I)V" } : Jvm.MethodName) prog_7_method_1_code (2 : Nat) (Option.none : Option Jvm.ClassFile.FieldType)).before args0 about1 = true := code_word (m := ⟨16, 0⟩) (meth := k16m0) (c := k16c0) (by decide +kernel) rfl rfl rfl (by decide +kernel)
set_option maxRecDepth 65536 in
theorem w_c38 : (Jvm.Cond.code ({ cls := "com/example/roomyield/roomyield/NightTally$Nights", name := "<init>", desc := "()V" } : Jvm.MethodName) prog_9_method_1_code (1 : Nat) (Option.none : Option Jvm.ClassFile.FieldType)).before args0 about1 = true := code_word (m := ⟨25, 0⟩) (meth := k25m0) (c := k25c0) (by decide +kernel) rfl rfl rfl (by decide +kernel)
set_option maxRecDepth 65536 in
theorem w_c39 : (Jvm.Cond.code ({ cls := "java/time/LocalDate", name := "getDayOfMonth", desc := "()I" } : Jvm.MethodName) jdk_2323_method_27_code (1 : Nat) (Option.some Jvm.ClassFile.FieldType.int)).before args0 about1 = true := code_word (m := ⟨9, 4⟩) (meth := k9m4) (c := k9c4) (by decide +kernel) rfl rfl rfl (by decide +kernel)
set_option maxRecDepth 65536 in
theorem w_c40 : (Jvm.Cond.code ({ cls := "java/math/BigDecimal", name := "signum", desc := "()I" } : Jvm.MethodName) jdk_17_method_58_code (1 : Nat) (Option.some Jvm.ClassFile.FieldType.int)).before args0 about1 = true := code_word (m := ⟨19, 5⟩) (meth := k19m5) (c := k19c5) (by decide +kernel) rfl rfl rfl (by decide +kernel)
set_option maxRecDepth 65536 in
theorem w_c41 : (Jvm.Cond.code ({ cls := "java/lang/Long", name := "signum", desc := "(J)I" } : Jvm.MethodName) jdk_35_method_57_code (2 : Nat) (Option.some Jvm.ClassFile.FieldType.int)).before args0 about1 = true := code_word (m := ⟨27, 0⟩) (meth := k27m0) (c := k27c0) (by decide +kernel) rfl rfl rfl (by decide +kernel)
set_option maxRecDepth 65536 in
theorem w_c42 : (Jvm.Cond.code ({ cls := "com/example/roomyield/roomyield/NightTally$Nights", name := "add", desc := "(JZLjava/math/BigDecimal;Ljava/math/BigDecimal;)V" } : Jvm.MethodName) prog_9_method_2_code (7 : Nat) (Option.none : Option Jvm.ClassFile.FieldType)).before args0 about1 = true := code_word (m := ⟨25, 1⟩) (meth := k25m1) (c := k25c1) (by decide +kernel) rfl rfl rfl (by decide +kernel)
set_option maxRecDepth 65536 in
theorem w_c43 : (Jvm.Cond.code ({ cls := "java/math/BigDecimal", name := "valueOf", desc := "(J)Ljava/math/BigDecimal;" } : Jvm.MethodName) jdk_17_method_21_code (2 : Nat) (Option.some (Jvm.ClassFile.FieldType.object "java/math/BigDecimal"))).before args0 about1 = true := code_word (m := ⟨19, 2⟩) (meth := k19m2) (c := k19c2) (by decide +kernel) rfl rfl rfl (by decide +kernel)
set_option maxRecDepth 65536 in
theorem w_c44 : (Jvm.Cond.code ({ cls := "java/math/BigDecimal", name := "multiply", desc := "(Ljava/math/BigDecimal;)Ljava/math/BigDecimal;" } : Jvm.MethodName) jdk_17_method_31_code (3 : Nat) (Option.some (Jvm.ClassFile.FieldType.object "java/math/BigDecimal"))).before args0 about1 = true := code_word (m := ⟨19, 4⟩) (meth := k19m4) (c := k19c4) (by decide +kernel) rfl rfl rfl (by decide +kernel)
set_option maxRecDepth 65536 in
theorem w_c45 : (Jvm.Cond.code ({ cls := "java/math/BigDecimal", name := "checkScale", desc := "(J)I" } : Jvm.MethodName) jdk_17_method_106_code (5 : Nat) (Option.some Jvm.ClassFile.FieldType.int)).before args0 about1 = true := code_word (m := ⟨19, 7⟩) (meth := k19m7) (c := k19c7) (by decide +kernel) rfl rfl rfl (by decide +kernel)
set_option maxRecDepth 65536 in
theorem w_c46 : (Jvm.Cond.code ({ cls := "java/math/BigDecimal", name := "multiply", desc := "(JJI)Ljava/math/BigDecimal;" } : Jvm.MethodName) jdk_17_method_157_code (7 : Nat) (Option.some (Jvm.ClassFile.FieldType.object "java/math/BigDecimal"))).before args0 about1 = true := code_word (m := ⟨19, 12⟩) (meth := k19m12) (c := k19c12) (by decide +kernel) rfl rfl rfl (by decide +kernel)
set_option maxRecDepth 65536 in
theorem w_c47 : (Jvm.Cond.code ({ cls := "java/math/BigDecimal", name := "multiply", desc := "(JJ)J" } : Jvm.MethodName) jdk_17_method_156_code (10 : Nat) (Option.some Jvm.ClassFile.FieldType.long)).before args0 about1 = true := code_word (m := ⟨19, 11⟩) (meth := k19m11) (c := k19c11) (by decide +kernel) rfl rfl rfl (by decide +kernel)
set_option maxRecDepth 65536 in
theorem w_c48 : (Jvm.Cond.code ({ cls := "java/lang/Math", name := "abs", desc := "(J)J" } : Jvm.MethodName) jdk_29_method_61_code (2 : Nat) (Option.some Jvm.ClassFile.FieldType.long)).before args0 about1 = true := code_word (m := ⟨2, 1⟩) (meth := k2m1) (c := k2c1) (by decide +kernel) rfl rfl rfl (by decide +kernel)
set_option maxRecDepth 65536 in
theorem w_c49 : (Jvm.Cond.code ({ cls := "java/math/BigDecimal", name := "valueOf", desc := "(JI)Ljava/math/BigDecimal;" } : Jvm.MethodName) jdk_17_method_20_code (3 : Nat) (Option.some (Jvm.ClassFile.FieldType.object "java/math/BigDecimal"))).before args0 about1 = true := code_word (m := ⟨19, 1⟩) (meth := k19m1) (c := k19c1) (by decide +kernel) rfl rfl rfl (by decide +kernel)
set_option maxRecDepth 65536 in
theorem w_c50 : (Jvm.Cond.code ({ cls := "java/math/BigDecimal", name := "add", desc := "(Ljava/math/BigDecimal;)Ljava/math/BigDecimal;" } : Jvm.MethodName) jdk_17_method_26_code (2 : Nat) (Option.some (Jvm.ClassFile.FieldType.object "java/math/BigDecimal"))).before args0 about1 = true := code_word (m := ⟨19, 3⟩) (meth := k19m3) (c := k19c3) (by decide +kernel) rfl rfl rfl (by decide +kernel)
set_option maxRecDepth 65536 in
theorem w_c51 : (Jvm.Cond.code ({ cls := "java/math/BigDecimal", name := "add", desc := "(JIJI)Ljava/math/BigDecimal;" } : Jvm.MethodName) jdk_17_method_134_code (12 : Nat) (Option.some (Jvm.ClassFile.FieldType.object "java/math/BigDecimal"))).before args0 about1 = true := code_word (m := ⟨19, 10⟩) (meth := k19m10) (c := k19c10) (by decide +kernel) rfl rfl rfl (by decide +kernel)
set_option maxRecDepth 65536 in
theorem w_c52 : (Jvm.Cond.code ({ cls := "java/math/BigDecimal", name := "add", desc := "(JJI)Ljava/math/BigDecimal;" } : Jvm.MethodName) jdk_17_method_133_code (7 : Nat) (Option.some (Jvm.ClassFile.FieldType.object "java/math/BigDecimal"))).before args0 about1 = true := code_word (m := ⟨19, 9⟩) (meth := k19m9) (c := k19c9) (by decide +kernel) rfl rfl rfl (by decide +kernel)
set_option maxRecDepth 65536 in
theorem w_c53 : (Jvm.Cond.code ({ cls := "java/math/BigDecimal", name := "add", desc := "(JJ)J" } : Jvm.MethodName) jdk_17_method_132_code (6 : Nat) (Option.some Jvm.ClassFile.FieldType.long)).before args0 about1 = true := code_word (m := ⟨19, 8⟩) (meth := k19m8) (c := k19c8) (by decide +kernel) rfl rfl rfl (by decide +kernel)
set_option maxRecDepth 65536 in
theorem w_c54 : (Jvm.Cond.code ({ cls := "java/math/BigDecimal", name := "compareTo", desc := "(Ljava/math/BigDecimal;)I" } : Jvm.MethodName) jdk_17_method_70_code (6 : Nat) (Option.some Jvm.ClassFile.FieldType.int)).before args0 about1 = true := code_word (m := ⟨19, 6⟩) (meth := k19m6) (c := k19c6) (by decide +kernel) rfl rfl rfl (by decide +kernel)
set_option maxRecDepth 65536 in
theorem w_c55 : (Jvm.Cond.code ({ cls := "java/lang/Math", name := "min", desc := "(II)I" } : Jvm.MethodName) jdk_29_method_69_code (2 : Nat) (Option.some Jvm.ClassFile.FieldType.int)).before args0 about1 = true := code_word (m := ⟨2, 4⟩) (meth := k2m4) (c := k2c4) (by decide +kernel) rfl rfl rfl (by decide +kernel)
set_option maxRecDepth 65536 in
theorem w_c56 : (Jvm.Cond.code ({ cls := "java/lang/Math", name := "max", desc := "(II)I" } : Jvm.MethodName) jdk_29_method_65_code (2 : Nat) (Option.some Jvm.ClassFile.FieldType.int)).before args0 about1 = true := code_word (m := ⟨2, 2⟩) (meth := k2m2) (c := k2c2) (by decide +kernel) rfl rfl rfl (by decide +kernel)
set_option maxRecDepth 65536 in
theorem w_c57 : (Jvm.Cond.code ({ cls := "com/example/roomyield/roomyield/NightTallyFirstMonthPinLaw", name := "monthIndex", desc := "(Ljava/time/LocalDate;)I" } : Jvm.MethodName) method_5_code (1 : Nat) (Option.some Jvm.ClassFile.FieldType.int)).before args0 about1 = true := code_word (m := ⟨1, 4⟩) (meth := k1m4) (c := k1c4) (by decide +kernel) rfl rfl rfl (by decide +kernel)
set_option maxRecDepth 65536 in
theorem w_c58 : (Jvm.Cond.code ({ cls := "java/util/Optional", name := "of", desc := "(Ljava/lang/Object;)Ljava/util/Optional;" } : Jvm.MethodName) jdk_32_method_3_code (1 : Nat) (Option.some (Jvm.ClassFile.FieldType.object "java/util/Optional"))).before args0 about1 = true := code_word (m := ⟨17, 2⟩) (meth := k17m2) (c := k17c2) (by decide +kernel) rfl rfl rfl (by decide +kernel)
set_option maxRecDepth 65536 in
theorem w_c59 : (Jvm.Cond.code ({ cls := "java/util/Objects", name := "requireNonNull", desc := "(Ljava/lang/Object;)Ljava/lang/Object;" } : Jvm.MethodName) jdk_31_method_10_code (1 : Nat) (Option.some (Jvm.ClassFile.FieldType.object "java/lang/Object"))).before args0 about1 = true := code_word (m := ⟨28, 1⟩) (meth := k28m1) (c := k28c1) (by decide +kernel) rfl rfl rfl (by decide +kernel)
set_option maxRecDepth 65536 in
theorem w_c60 : (Jvm.Cond.code ({ cls := "java/util/Optional", name := "<init>", desc := "(Ljava/lang/Object;)V" } : Jvm.MethodName) jdk_32_method_2_code (2 : Nat) (Option.none : Option Jvm.ClassFile.FieldType)).before args0 about1 = true := code_word (m := ⟨17, 1⟩) (meth := k17m1) (c := k17c1) (by decide +kernel) rfl rfl rfl (by decide +kernel)
set_option maxRecDepth 65536 in
theorem w_c61 : (Jvm.Cond.code ({ cls := "java/util/Optional", name := "get", desc := "()Ljava/lang/Object;" } : Jvm.MethodName) jdk_32_method_5_code (1 : Nat) (Option.some (Jvm.ClassFile.FieldType.object "java/lang/Object"))).before args0 about1 = true := code_word (m := ⟨17, 3⟩) (meth := k17m3) (c := k17c3) (by decide +kernel) rfl rfl rfl (by decide +kernel)
set_option maxRecDepth 65536 in
theorem w_c62 : (Jvm.Cond.code ({ cls := "java/time/YearMonth", name := "getYear", desc := "()I" } : Jvm.MethodName) jdk_2340_method_17_code (1 : Nat) (Option.some Jvm.ClassFile.FieldType.int)).before args0 about1 = true := code_word (m := ⟨20, 2⟩) (meth := k20m2) (c := k20c2) (by decide +kernel) rfl rfl rfl (by decide +kernel)
set_option maxRecDepth 65536 in
theorem w_c63 : (Jvm.Cond.code ({ cls := "java/time/YearMonth", name := "getMonthValue", desc := "()I" } : Jvm.MethodName) jdk_2340_method_18_code (1 : Nat) (Option.some Jvm.ClassFile.FieldType.int)).before args0 about1 = true := code_word (m := ⟨20, 3⟩) (meth := k20m3) (c := k20c3) (by decide +kernel) rfl rfl rfl (by decide +kernel)
set_option maxRecDepth 65536 in
theorem w_c64 : (Jvm.Cond.code ({ cls := "java/math/BigDecimal", name := "<init>", desc := "(Ljava/math/BigInteger;JII)V" } : Jvm.MethodName) jdk_17_method_1_code (6 : Nat) (Option.none : Option Jvm.ClassFile.FieldType)).before args0 about1 = true := code_word (m := ⟨19, 0⟩) (meth := k19m0) (c := k19c0) (by decide +kernel) rfl rfl rfl (by decide +kernel)
set_option maxRecDepth 65536 in
theorem w_c65 : (Jvm.Cond.code ({ cls := "java/lang/Number", name := "<init>", desc := "()V" } : Jvm.MethodName) jdk_18_method_1_code (1 : Nat) (Option.none : Option Jvm.ClassFile.FieldType)).before args0 about1 = true := code_word (m := ⟨18, 0⟩) (meth := k18m0) (c := k18c0) (by decide +kernel) rfl rfl rfl (by decide +kernel)
def codes1 : List Jvm.Cond := [Jvm.Cond.code x code maxLocals ret, Jvm.Cond.code ({ cls := "com/example/roomyield/roomyield/NightTallyFirstMonthPinLaw", name := "start", desc := "(I)J" } : Jvm.MethodName) method_2_code (1 : Nat) (Option.some Jvm.ClassFile.FieldType.long), Jvm.Cond.code ({ cls := "com/example/roomyield/roomyield/NightTallyFirstMonthPinLaw", name := "other", desc := "(III)J" } : Jvm.MethodName) method_3_code (7 : Nat) (Option.some Jvm.ClassFile.FieldType.long), Jvm.Cond.code ({ cls := "java/lang/Math", name := "min", desc := "(JJ)J" } : Jvm.MethodName) jdk_29_method_70_code (4 : Nat) (Option.some Jvm.ClassFile.FieldType.long), Jvm.Cond.code ({ cls := "java/lang/Math", name := "max", desc := "(JJ)J" } : Jvm.MethodName) jdk_29_method_66_code (4 : Nat) (Option.some Jvm.ClassFile.FieldType.long), Jvm.Cond.code ({ cls := "com/example/roomyield/roomyield/NightTallyFirstMonthPinLaw", name := "date", desc := "(J)Ljava/time/LocalDate;" } : Jvm.MethodName) method_4_code (2 : Nat) (Option.some (Jvm.ClassFile.FieldType.object "java/time/LocalDate")), Jvm.Cond.code ({ cls := "java/time/LocalDate", name := "ofEpochDay", desc := "(J)Ljava/time/LocalDate;" } : Jvm.MethodName) jdk_2323_method_8_code (14 : Nat) (Option.some (Jvm.ClassFile.FieldType.object "java/time/LocalDate")), Jvm.Cond.code ({ cls := "java/time/temporal/ChronoField", name := "checkValidValue", desc := "(J)J" } : Jvm.MethodName) jdk_2395_method_11_code (3 : Nat) (Option.some Jvm.ClassFile.FieldType.long), Jvm.Cond.code ({ cls := "java/time/temporal/ChronoField", name := "range", desc := "()Ljava/time/temporal/ValueRange;" } : Jvm.MethodName) jdk_2395_method_8_code (1 : Nat) (Option.some (Jvm.ClassFile.FieldType.object "java/time/temporal/ValueRange")), Jvm.Cond.code ({ cls := "java/time/temporal/ValueRange", name := "checkValidValue", desc := "(JLjava/time/temporal/TemporalField;)J" } : Jvm.MethodName) jdk_2423_method_13_code (4 : Nat) (Option.some Jvm.ClassFile.FieldType.long), Jvm.Cond.code ({ cls := "java/time/temporal/ValueRange", name := "isValidValue", desc := "(J)Z" } : Jvm.MethodName) jdk_2423_method_11_code (3 : Nat) (Option.some Jvm.ClassFile.FieldType.boolean), Jvm.Cond.code ({ cls := "java/time/temporal/ValueRange", name := "getMinimum", desc := "()J" } : Jvm.MethodName) jdk_2423_method_6_code (1 : Nat) (Option.some Jvm.ClassFile.FieldType.long), Jvm.Cond.code ({ cls := "java/time/temporal/ValueRange", name := "getMaximum", desc := "()J" } : Jvm.MethodName) jdk_2423_method_9_code (1 : Nat) (Option.some Jvm.ClassFile.FieldType.long), Jvm.Cond.code ({ cls := "java/time/LocalDate", name := "<init>", desc := "(III)V" } : Jvm.MethodName) jdk_2323_method_14_code (4 : Nat) (Option.none : Option Jvm.ClassFile.FieldType), Jvm.Cond.code ({ cls := "java/lang/Object", name := "<init>", desc := "()V" } : Jvm.MethodName) object_method_1_code (1 : Nat) (Option.none : Option Jvm.ClassFile.FieldType), Jvm.Cond.code ({ cls := "com/example/roomyield/roomyield/NightTally", name := "<init>", desc := "()V" } : Jvm.MethodName) prog_5_method_1_code (1 : Nat) (Option.none : Option Jvm.ClassFile.FieldType), Jvm.Cond.code ({ cls := "com/example/roomyield/roomyield/NightTally", name := "firstMonth", desc := "()Ljava/util/Optional;" } : Jvm.MethodName) prog_5_method_3_code (1 : Nat) (Option.some (Jvm.ClassFile.FieldType.object "java/util/Optional")), Jvm.Cond.code ({ cls := "java/util/Optional", name := "empty", desc := "()Ljava/util/Optional;" } : Jvm.MethodName) jdk_32_method_1_code (1 : Nat) (Option.some (Jvm.ClassFile.FieldType.object "java/util/Optional")), Jvm.Cond.code ({ cls := "java/util/Optional", name := "isEmpty", desc := "()Z" } : Jvm.MethodName) jdk_32_method_7_code (1 : Nat) (Option.some Jvm.ClassFile.FieldType.boolean), Jvm.Cond.code ({ cls := "com/example/roomyield/roomyield/NightTallyFirstMonthPinLaw", name := "rate", desc := "(I)Ljava/math/BigDecimal;" } : Jvm.MethodName) method_6_code (1 : Nat) (Option.some (Jvm.ClassFile.FieldType.object "java/math/BigDecimal")), Jvm.Cond.code ({ cls := "com/example/roomyield/roomyield/NightTally", name := "add", desc := "(Ljava/time/LocalDate;Ljava/time/LocalDate;Ljava/math/BigDecimal;Ljava/math/BigDecimal;)V" } : Jvm.MethodName) prog_5_method_2_code (10 : Nat) (Option.none : Option Jvm.ClassFile.FieldType), Jvm.Cond.code ({ cls := "java/time/LocalDate", name := "isBefore", desc := "(Ljava/time/chrono/ChronoLocalDate;)Z" } : Jvm.MethodName) jdk_2323_method_72_code (2 : Nat) (Option.some Jvm.ClassFile.FieldType.boolean), Jvm.Cond.code ({ cls := "java/time/LocalDate", name := "compareTo0", desc := "(Ljava/time/LocalDate;)I" } : Jvm.MethodName) jdk_2323_method_70_code (3 : Nat) (Option.some Jvm.ClassFile.FieldType.int), Jvm.Cond.code ({ cls := "java/time/LocalDate", name := "getYear", desc := "()I" } : Jvm.MethodName) jdk_2323_method_24_code (1 : Nat) (Option.some Jvm.ClassFile.FieldType.int), Jvm.Cond.code ({ cls := "java/time/LocalDate", name := "getMonthValue", desc := "()I" } : Jvm.MethodName) jdk_2323_method_25_code (1 : Nat) (Option.some Jvm.ClassFile.FieldType.int), Jvm.Cond.code ({ cls := "com/example/roomyield/roomyield/NightTally", name := "index", desc := "(II)I" } : Jvm.MethodName) prog_5_method_7_code (2 : Nat) (Option.some Jvm.ClassFile.FieldType.int), Jvm.Cond.code ({ cls := "com/example/roomyield/roomyield/NightTally", name := "tally", desc := "(I)Lcom/example/roomyield/roomyield/NightTally$MonthNights;" } : Jvm.MethodName) prog_5_method_9_code (2 : Nat) (Option.some (Jvm.ClassFile.FieldType.object "com/example/roomyield/roomyield/NightTally$MonthNights")), Jvm.Cond.code ({ cls := "com/example/roomyield/roomyield/NightTally", name := "month", desc := "(I)Ljava/time/YearMonth;" } : Jvm.MethodName) prog_5_method_8_code (1 : Nat) (Option.some (Jvm.ClassFile.FieldType.object "java/time/YearMonth")), Jvm.Cond.code ({ cls := "java/time/YearMonth", name := "of", desc := "(II)Ljava/time/YearMonth;" } : Jvm.MethodName) jdk_2340_method_5_code (2 : Nat) (Option.some (Jvm.ClassFile.FieldType.object "java/time/YearMonth")), Jvm.Cond.code ({ cls := "java/time/YearMonth", name := "<init>", desc := "(II)V" } : Jvm.MethodName) jdk_2340_method_9_code (3 : Nat) (Option.none : Option Jvm.ClassFile.FieldType), Jvm.Cond.code ({ cls := "java/time/YearMonth", name := "lengthOfMonth", desc := "()I" } : Jvm.MethodName) jdk_2340_method_22_code (1 : Nat) (Option.some Jvm.ClassFile.FieldType.int), Jvm.Cond.code ({ cls := "java/time/YearMonth", name := "getMonth", desc := "()Ljava/time/Month;" } : Jvm.MethodName) jdk_2340_method_19_code (1 : Nat) (Option.some (Jvm.ClassFile.FieldType.object "java/time/Month")), Jvm.Cond.code ({ cls := "java/time/Month", name := "of", desc := "(I)Ljava/time/Month;" } : Jvm.MethodName) jdk_2329_method_4_code (1 : Nat) (Option.some (Jvm.ClassFile.FieldType.object "java/time/Month")), Jvm.Cond.code ({ cls := "java/time/YearMonth", name := "isLeapYear", desc := "()Z" } : Jvm.MethodName) jdk_2340_method_20_code (1 : Nat) (Option.some Jvm.ClassFile.FieldType.boolean), Jvm.Cond.code ({ cls := "java/time/chrono/IsoChronology", name := "isLeapYear", desc := "(J)Z" } : Jvm.MethodName) jdk_2369_method_18_code (3 : Nat) (Option.some Jvm.ClassFile.FieldType.boolean), Jvm.Cond.code ({ cls := "java/time/Month", name := "length", desc := "(Z)I" } : Jvm.MethodName) jdk_2329_method_14_code (2 : Nat) (Option.some Jvm.ClassFile.FieldType.int), Jvm.Cond.code ({ cls := "java/lang/Enum", name := "ordinal", desc := "()I" } : Jvm.MethodName) jdk_37_method_2_code (1 : Nat) (Option.some Jvm.ClassFile.FieldType.int), Jvm.Cond.code ({ cls := "com/example/roomyield/roomyield/NightTally$MonthNights", name := "<init>", desc := "(I)V" } : Jvm.MethodName) prog_7_method_1_code (2 : Nat) (Option.none : Option Jvm.ClassFile.FieldType), Jvm.Cond.code ({ cls := "com/example/roomyield/roomyield/NightTally$Nights", name := "<init>", desc := "()V" } : Jvm.MethodName) prog_9_method_1_code (1 : Nat) (Option.none : Option Jvm.ClassFile.FieldType), Jvm.Cond.code ({ cls := "java/time/LocalDate", name := "getDayOfMonth", desc := "()I" } : Jvm.MethodName) jdk_2323_method_27_code (1 : Nat) (Option.some Jvm.ClassFile.FieldType.int), Jvm.Cond.code ({ cls := "java/math/BigDecimal", name := "signum", desc := "()I" } : Jvm.MethodName) jdk_17_method_58_code (1 : Nat) (Option.some Jvm.ClassFile.FieldType.int), Jvm.Cond.code ({ cls := "java/lang/Long", name := "signum", desc := "(J)I" } : Jvm.MethodName) jdk_35_method_57_code (2 : Nat) (Option.some Jvm.ClassFile.FieldType.int), Jvm.Cond.code ({ cls := "com/example/roomyield/roomyield/NightTally$Nights", name := "add", desc := "(JZLjava/math/BigDecimal;Ljava/math/BigDecimal;)V" } : Jvm.MethodName) prog_9_method_2_code (7 : Nat) (Option.none : Option Jvm.ClassFile.FieldType), Jvm.Cond.code ({ cls := "java/math/BigDecimal", name := "valueOf", desc := "(J)Ljava/math/BigDecimal;" } : Jvm.MethodName) jdk_17_method_21_code (2 : Nat) (Option.some (Jvm.ClassFile.FieldType.object "java/math/BigDecimal")), Jvm.Cond.code ({ cls := "java/math/BigDecimal", name := "multiply", desc := "(Ljava/math/BigDecimal;)Ljava/math/BigDecimal;" } : Jvm.MethodName) jdk_17_method_31_code (3 : Nat) (Option.some (Jvm.ClassFile.FieldType.object "java/math/BigDecimal")), Jvm.Cond.code ({ cls := "java/math/BigDecimal", name := "checkScale", desc := "(J)I" } : Jvm.MethodName) jdk_17_method_106_code (5 : Nat) (Option.some Jvm.ClassFile.FieldType.int), Jvm.Cond.code ({ cls := "java/math/BigDecimal", name := "multiply", desc := "(JJI)Ljava/math/BigDecimal;" } : Jvm.MethodName) jdk_17_method_157_code (7 : Nat) (Option.some (Jvm.ClassFile.FieldType.object "java/math/BigDecimal")), Jvm.Cond.code ({ cls := "java/math/BigDecimal", name := "multiply", desc := "(JJ)J" } : Jvm.MethodName) jdk_17_method_156_code (10 : Nat) (Option.some Jvm.ClassFile.FieldType.long), Jvm.Cond.code ({ cls := "java/lang/Math", name := "abs", desc := "(J)J" } : Jvm.MethodName) jdk_29_method_61_code (2 : Nat) (Option.some Jvm.ClassFile.FieldType.long), Jvm.Cond.code ({ cls := "java/math/BigDecimal", name := "valueOf", desc := "(JI)Ljava/math/BigDecimal;" } : Jvm.MethodName) jdk_17_method_20_code (3 : Nat) (Option.some (Jvm.ClassFile.FieldType.object "java/math/BigDecimal")), Jvm.Cond.code ({ cls := "java/math/BigDecimal", name := "add", desc := "(Ljava/math/BigDecimal;)Ljava/math/BigDecimal;" } : Jvm.MethodName) jdk_17_method_26_code (2 : Nat) (Option.some (Jvm.ClassFile.FieldType.object "java/math/BigDecimal")), Jvm.Cond.code ({ cls := "java/math/BigDecimal", name := "add", desc := "(JIJI)Ljava/math/BigDecimal;" } : Jvm.MethodName) jdk_17_method_134_code (12 : Nat) (Option.some (Jvm.ClassFile.FieldType.object "java/math/BigDecimal")), Jvm.Cond.code ({ cls := "java/math/BigDecimal", name := "add", desc := "(JJI)Ljava/math/BigDecimal;" } : Jvm.MethodName) jdk_17_method_133_code (7 : Nat) (Option.some (Jvm.ClassFile.FieldType.object "java/math/BigDecimal")), Jvm.Cond.code ({ cls := "java/math/BigDecimal", name := "add", desc := "(JJ)J" } : Jvm.MethodName) jdk_17_method_132_code (6 : Nat) (Option.some Jvm.ClassFile.FieldType.long), Jvm.Cond.code ({ cls := "java/math/BigDecimal", name := "compareTo", desc := "(Ljava/math/BigDecimal;)I" } : Jvm.MethodName) jdk_17_method_70_code (6 : Nat) (Option.some Jvm.ClassFile.FieldType.int), Jvm.Cond.code ({ cls := "java/lang/Math", name := "min", desc := "(II)I" } : Jvm.MethodName) jdk_29_method_69_code (2 : Nat) (Option.some Jvm.ClassFile.FieldType.int), Jvm.Cond.code ({ cls := "java/lang/Math", name := "max", desc := "(II)I" } : Jvm.MethodName) jdk_29_method_65_code (2 : Nat) (Option.some Jvm.ClassFile.FieldType.int), Jvm.Cond.code ({ cls := "com/example/roomyield/roomyield/NightTallyFirstMonthPinLaw", name := "monthIndex", desc := "(Ljava/time/LocalDate;)I" } : Jvm.MethodName) method_5_code (1 : Nat) (Option.some Jvm.ClassFile.FieldType.int), Jvm.Cond.code ({ cls := "java/util/Optional", name := "of", desc := "(Ljava/lang/Object;)Ljava/util/Optional;" } : Jvm.MethodName) jdk_32_method_3_code (1 : Nat) (Option.some (Jvm.ClassFile.FieldType.object "java/util/Optional")), Jvm.Cond.code ({ cls := "java/util/Objects", name := "requireNonNull", desc := "(Ljava/lang/Object;)Ljava/lang/Object;" } : Jvm.MethodName) jdk_31_method_10_code (1 : Nat) (Option.some (Jvm.ClassFile.FieldType.object "java/lang/Object")), Jvm.Cond.code ({ cls := "java/util/Optional", name := "<init>", desc := "(Ljava/lang/Object;)V" } : Jvm.MethodName) jdk_32_method_2_code (2 : Nat) (Option.none : Option Jvm.ClassFile.FieldType), Jvm.Cond.code ({ cls := "java/util/Optional", name := "get", desc := "()Ljava/lang/Object;" } : Jvm.MethodName) jdk_32_method_5_code (1 : Nat) (Option.some (Jvm.ClassFile.FieldType.object "java/lang/Object")), Jvm.Cond.code ({ cls := "java/time/YearMonth", name := "getYear", desc := "()I" } : Jvm.MethodName) jdk_2340_method_17_code (1 : Nat) (Option.some Jvm.ClassFile.FieldType.int), Jvm.Cond.code ({ cls := "java/time/YearMonth", name := "getMonthValue", desc := "()I" } : Jvm.MethodName) jdk_2340_method_18_code (1 : Nat) (Option.some Jvm.ClassFile.FieldType.int), Jvm.Cond.code ({ cls := "java/math/BigDecimal", name := "<init>", desc := "(Ljava/math/BigInteger;JII)V" } : Jvm.MethodName) jdk_17_method_1_code (6 : Nat) (Option.none : Option Jvm.ClassFile.FieldType), Jvm.Cond.code ({ cls := "java/lang/Number", name := "<init>", desc := "()V" } : Jvm.MethodName) jdk_18_method_1_code (1 : Nat) (Option.none : Option Jvm.ClassFile.FieldType)]
set_option maxRecDepth 65536 in
theorem codes_eq : words1.filter isCode = codes1 := rfl
theorem w_codes : ∀ c ∈ words1.filter isCode, c.before args0 about1 = true := by
  rw [codes_eq]
  intro c hc
  simp only [codes1, List.mem_cons, List.not_mem_nil, or_false] at hc
  rcases hc with rfl | rfl | rfl | rfl | rfl | rfl | rfl | rfl | rfl | rfl | rfl | rfl | rfl | rfl | rfl | rfl | rfl | rfl | rfl | rfl | rfl | rfl | rfl | rfl | rfl | rfl | rfl | rfl | rfl | rfl | rfl | rfl | rfl | rfl | rfl | rfl | rfl | rfl | rfl | rfl | rfl | rfl | rfl | rfl | rfl | rfl | rfl | rfl | rfl | rfl | rfl | rfl | rfl | rfl | rfl | rfl | rfl | rfl | rfl | rfl | rfl | rfl | rfl | rfl | rfl | rfl
  · exact w_c0
  · exact w_c1
  · exact w_c2
  · exact w_c3
  · exact w_c4
  · exact w_c5
  · exact w_c6
  · exact w_c7
  · exact w_c8
  · exact w_c9
  · exact w_c10
  · exact w_c11
  · exact w_c12
  · exact w_c13
  · exact w_c14
  · exact w_c15
  · exact w_c16
  · exact w_c17
  · exact w_c18
  · exact w_c19
  · exact w_c20
  · exact w_c21
  · exact w_c22
  · exact w_c23
  · exact w_c24
  · exact w_c25
  · exact w_c26
  · exact w_c27
  · exact w_c28
  · exact w_c29
  · exact w_c30
  · exact w_c31
  · exact w_c32
  · exact w_c33
  · exact w_c34
  · exact w_c35
  · exact w_c36
  · exact w_c37
  · exact w_c38
  · exact w_c39
  · exact w_c40
  · exact w_c41
  · exact w_c42
  · exact w_c43
  · exact w_c44
  · exact w_c45
  · exact w_c46
  · exact w_c47
  · exact w_c48
  · exact w_c49
  · exact w_c50
  · exact w_c51
  · exact w_c52
  · exact w_c53
  · exact w_c54
  · exact w_c55
  · exact w_c56
  · exact w_c57
  · exact w_c58
  · exact w_c59
  · exact w_c60
  · exact w_c61
  · exact w_c62
  · exact w_c63
  · exact w_c64
  · exact w_c65
set_option maxRecDepth 65536 in
theorem w_t1 : (words1.take 24).all (fun c => isCode c || c.before args0 about1) = true := by decide +kernel
set_option maxRecDepth 65536 in
theorem w_t2 : ((words1.drop 24).take 24).all (fun c => isCode c || c.before args0 about1) = true := by decide +kernel
set_option maxRecDepth 65536 in
theorem w_t3 : (((words1.drop 24).drop 24).take 24).all (fun c => isCode c || c.before args0 about1) = true := by decide +kernel
set_option maxRecDepth 65536 in
theorem w_t4 : ((((words1.drop 24).drop 24).drop 24).take 24).all (fun c => isCode c || c.before args0 about1) = true := by decide +kernel
set_option maxRecDepth 65536 in
theorem w_t5 : (((((words1.drop 24).drop 24).drop 24).drop 24).take 24).all (fun c => isCode c || c.before args0 about1) = true := by decide +kernel
set_option maxRecDepth 65536 in
theorem w_t6 : ((((((words1.drop 24).drop 24).drop 24).drop 24).drop 24).take 24).all (fun c => isCode c || c.before args0 about1) = true := by decide +kernel
set_option maxRecDepth 65536 in
theorem w_t7 : (((((((words1.drop 24).drop 24).drop 24).drop 24).drop 24).drop 24).take 24).all (fun c => isCode c || c.before args0 about1) = true := by decide +kernel
set_option maxRecDepth 65536 in
theorem w_t8 : ((((((((words1.drop 24).drop 24).drop 24).drop 24).drop 24).drop 24).drop 24).take 24).all (fun c => isCode c || c.before args0 about1) = true := by decide +kernel
set_option maxRecDepth 65536 in
theorem w_t9 : (((((((((words1.drop 24).drop 24).drop 24).drop 24).drop 24).drop 24).drop 24).drop 24).take 24).all (fun c => isCode c || c.before args0 about1) = true := by decide +kernel
set_option maxRecDepth 65536 in
theorem w_t10 : ((((((((((words1.drop 24).drop 24).drop 24).drop 24).drop 24).drop 24).drop 24).drop 24).drop 24).take 24).all (fun c => isCode c || c.before args0 about1) = true := by decide +kernel
set_option maxRecDepth 65536 in
theorem w_t11 : (((((((((((words1.drop 24).drop 24).drop 24).drop 24).drop 24).drop 24).drop 24).drop 24).drop 24).drop 24).take 24).all (fun c => isCode c || c.before args0 about1) = true := by decide +kernel
set_option maxRecDepth 65536 in
theorem w_t12 : ((((((((((((words1.drop 24).drop 24).drop 24).drop 24).drop 24).drop 24).drop 24).drop 24).drop 24).drop 24).drop 24).take 24).all (fun c => isCode c || c.before args0 about1) = true := by decide +kernel
set_option maxRecDepth 65536 in
theorem w_t13 : (((((((((((((words1.drop 24).drop 24).drop 24).drop 24).drop 24).drop 24).drop 24).drop 24).drop 24).drop 24).drop 24).drop 24).take 24).all (fun c => isCode c || c.before args0 about1) = true := by decide +kernel
set_option maxRecDepth 65536 in
theorem w_t14 : ((((((((((((((words1.drop 24).drop 24).drop 24).drop 24).drop 24).drop 24).drop 24).drop 24).drop 24).drop 24).drop 24).drop 24).drop 24).take 24).all (fun c => isCode c || c.before args0 about1) = true := by decide +kernel
set_option maxRecDepth 65536 in
theorem w_t15 : (((((((((((((((words1.drop 24).drop 24).drop 24).drop 24).drop 24).drop 24).drop 24).drop 24).drop 24).drop 24).drop 24).drop 24).drop 24).drop 24).take 24).all (fun c => isCode c || c.before args0 about1) = true := by decide +kernel
set_option maxRecDepth 65536 in
theorem w_t16 : ((((((((((((((((words1.drop 24).drop 24).drop 24).drop 24).drop 24).drop 24).drop 24).drop 24).drop 24).drop 24).drop 24).drop 24).drop 24).drop 24).drop 24).take 24).all (fun c => isCode c || c.before args0 about1) = true := by decide +kernel
set_option maxRecDepth 65536 in
theorem w_t17 : ((((((((((((((((words1.drop 24).drop 24).drop 24).drop 24).drop 24).drop 24).drop 24).drop 24).drop 24).drop 24).drop 24).drop 24).drop 24).drop 24).drop 24).drop 24).all (fun c => isCode c || c.before args0 about1) = true := by decide +kernel
theorem w_tables : (allAtoms (Jvm.Cond.code x code maxLocals ret :: tables_1)).before args0 about1 = true := by
  rw [allAtoms_all]
  show words1.all (fun c => c.before args0 about1) = true
  refine all_split ?_ w_codes
  rw [← List.take_append_drop 24 words1, List.all_append, w_t1, ← List.take_append_drop 24 (words1.drop 24), List.all_append, w_t2, ← List.take_append_drop 24 ((words1.drop 24).drop 24), List.all_append, w_t3, ← List.take_append_drop 24 (((words1.drop 24).drop 24).drop 24), List.all_append, w_t4, ← List.take_append_drop 24 ((((words1.drop 24).drop 24).drop 24).drop 24), List.all_append, w_t5, ← List.take_append_drop 24 (((((words1.drop 24).drop 24).drop 24).drop 24).drop 24), List.all_append, w_t6, ← List.take_append_drop 24 ((((((words1.drop 24).drop 24).drop 24).drop 24).drop 24).drop 24), List.all_append, w_t7, ← List.take_append_drop 24 (((((((words1.drop 24).drop 24).drop 24).drop 24).drop 24).drop 24).drop 24), List.all_append, w_t8, ← List.take_append_drop 24 ((((((((words1.drop 24).drop 24).drop 24).drop 24).drop 24).drop 24).drop 24).drop 24), List.all_append, w_t9, ← List.take_append_drop 24 (((((((((words1.drop 24).drop 24).drop 24).drop 24).drop 24).drop 24).drop 24).drop 24).drop 24), List.all_append, w_t10, ← List.take_append_drop 24 ((((((((((words1.drop 24).drop 24).drop 24).drop 24).drop 24).drop 24).drop 24).drop 24).drop 24).drop 24), List.all_append, w_t11, ← List.take_append_drop 24 (((((((((((words1.drop 24).drop 24).drop 24).drop 24).drop 24).drop 24).drop 24).drop 24).drop 24).drop 24).drop 24), List.all_append, w_t12, ← List.take_append_drop 24 ((((((((((((words1.drop 24).drop 24).drop 24).drop 24).drop 24).drop 24).drop 24).drop 24).drop 24).drop 24).drop 24).drop 24), List.all_append, w_t13, ← List.take_append_drop 24 (((((((((((((words1.drop 24).drop 24).drop 24).drop 24).drop 24).drop 24).drop 24).drop 24).drop 24).drop 24).drop 24).drop 24).drop 24), List.all_append, w_t14, ← List.take_append_drop 24 ((((((((((((((words1.drop 24).drop 24).drop 24).drop 24).drop 24).drop 24).drop 24).drop 24).drop 24).drop 24).drop 24).drop 24).drop 24).drop 24), List.all_append, w_t15, ← List.take_append_drop 24 (((((((((((((((words1.drop 24).drop 24).drop 24).drop 24).drop 24).drop 24).drop 24).drop 24).drop 24).drop 24).drop 24).drop 24).drop 24).drop 24).drop 24), List.all_append, w_t16, w_t17]
  rfl
set_option maxRecDepth 65536 in
theorem w_rest : rest_1_c.before args0 about1 = true := by decide +kernel
set_option maxRecDepth 65536 in
theorem w_case : (Jvm.Cond.and given_1 narrow_1).before args0 about1 = true := by decide +kernel
theorem w_applies : (headSpec (Jvm.Cond.code x code maxLocals ret :: tables_1) room_1).applies x e0.platform about1 = true :=
  (Spec.applies_iff w_frames).mpr ⟨w_running, w_runnable, w_alone, w_named, w_hears, w_ripe, w_room, w_tables⟩
theorem atStart : AtStart classFile x code maxLocals ret World_1 tables_1 room_1 Calls_1 rest_1 Pre_1 launch0 p0 e0 about1 theMethod args0 below0 :=
  ⟨lists_1, trivial, launch0.admits_env _ _ _, launch0.least_env, fairChoices_fair.cas, fairChoices_fair.clock, w_frames, w_args, w_heap, w_applies, trivial, w_rest, w_case⟩
end start1
theorem witness_1 : WitnessClaimed_1 := ⟨start1.p0, start1.e0, start1.about1, start1.theMethod, start1.args0, start1.below0, start1.atStart⟩
end Jvm.Pilot.@@N@@
