import JvmDerived
import JvmDerived.Pilot.@@N@@Statement
import JvmDerived.Pilot.@@N@@Code
set_option linter.unusedVariables false
set_option linter.unusedSimpArgs false
@@BLOCK:NumsL.lean.txt@@
namespace Jvm.Pilot.@@N@@
open Jvm Jvm.ClassFile Sem Op Lib Jvm.Free Jvm.Stand Jvm.LawKit Jvm.RoadKit Bundle Jvm.Pilot.@@N@@.Jvm.D
/-! THE OWN KIT: walks by continuation. oWP says: from this frame over this heap the body runs to its end, and Q holds there. -/
/-- what a conditional branch asks, in plain words -/
def oC : ClassFile.Cond → Int32 → Int32 → Prop
  | .eq, x, w => x = w
  | .ne, x, w => ¬ x = w
  | .lt, x, w => x < w
  | .ge, x, w => ¬ x < w
  | .gt, x, w => w < x
  | .le, x, w => ¬ w < x
theorem oC_cases (cd : ClassFile.Cond) (x w : Int32) : (if_icmp.holds cd x w = true ∧ oC cd x w) ∨ (if_icmp.holds cd x w = false ∧ ¬ oC cd x w) := by
  cases cd with
  | eq =>
    by_cases q : x = w
    · exact Or.inl ⟨(teq q).1, q⟩
    · exact Or.inr ⟨(feq q).1, q⟩
  | ne =>
    by_cases q : x = w
    · exact Or.inr ⟨(teq q).2, fun r => r q⟩
    · exact Or.inl ⟨(feq q).2, q⟩
  | lt =>
    by_cases q : x < w
    · exact Or.inl ⟨(tlt q).1, q⟩
    · exact Or.inr ⟨(flt q).1, q⟩
  | ge =>
    by_cases q : x < w
    · exact Or.inr ⟨(tlt q).2.1, fun r => r q⟩
    · exact Or.inl ⟨(flt q).2.1, q⟩
  | gt =>
    by_cases q : w < x
    · exact Or.inl ⟨(tlt q).2.2.1, q⟩
    · exact Or.inr ⟨(flt q).2.2.1, q⟩
  | le =>
    by_cases q : w < x
    · exact Or.inr ⟨(tlt q).2.2.2, fun r => r q⟩
    · exact Or.inl ⟨(flt q).2.2.2, q⟩
def oA : ACond → Value → Value → Prop
  | .eq, x, w => x = w
  | .ne, x, w => ¬ x = w
theorem oA_cases (cd : ACond) (x w : Value) : (acV cd (decide (x = w)) = true ∧ oA cd x w) ∨ (acV cd (decide (x = w)) = false ∧ ¬ oA cd x w) := by
  cases cd with
  | eq =>
    by_cases q : x = w
    · exact Or.inl ⟨decide_eq_true q, q⟩
    · exact Or.inr ⟨decide_eq_false q, q⟩
  | ne =>
    by_cases q : x = w
    · exact Or.inr ⟨by rw [decide_eq_true q]; rfl, fun r => r q⟩
    · exact Or.inl ⟨by rw [decide_eq_false q]; rfl, q⟩
section OwnKit
variable {b : Bool} {p : Program} {l : Launch} {e : Env} {R : Room} {s : State} {m : MethodId} {args : Array Value} {below : List Frame} {meth : Method} {c : Code} {P : Addr → Prop} {Q : Option Value → Heap → Vm → Prop} {J : Vm → Prop} {h : Heap} {k n : Nat} {Z : State} {a0 : Array Value} {y : MethodName} {B : ByteArray} {ml : Nat} {rt : Option FieldType}
/-- every place written lies in a cell that may be written -/
def oAl (P : Addr → Prop) (L : List Loc) : Prop := ∀ q ∈ L, P q.base
theorem oAl.snoc {L : List Loc} {a : Addr} {sl : Nat} (N : oAl P L) (q : P a) : oAl P (L ++ [⟨a, sl⟩]) := fun z hz => (List.mem_append.mp hz).elim (N z) fun hz => by cases List.mem_singleton.mp hz; exact q
theorem oAl.app {L L' : List Loc} (N : oAl P L) (N' : oAl P L') : oAl P (L ++ L') := fun z hz => (List.mem_append.mp hz).elim (N z) (N' z)
/-- from h to h': no cell went, classes and sizes stay, a cell that P does not name stays as it is -/
def oKp (P : Addr → Prop) (h h' : Heap) : Prop := h.size ≤ h'.size ∧ ∀ (x : Addr) (c : Cell), h[x]? = some c → ∃ c' : Cell, h'[x]? = some c' ∧ c'.cls = c.cls ∧ c'.vm = c.vm ∧ c'.slots.size = c.slots.size ∧ (¬ P x → c' = c)
theorem oKp.of_same {t : State} {L : List Loc} {ck cn : Nat} (hS : s.sameButNew t L ck cn) (N : oAl P L) : oKp P s.heap t.heap := by
  obtain ⟨-, h1, -, -, -, hh⟩ := hS
  refine ⟨h1, fun x c hx => ?_⟩
  obtain ⟨c', e1, e2, e3, e4⟩ := hh x c hx
  refine ⟨c', e1, by rw [e2], by rw [e2], e3, fun q => ?_⟩
  have e5 : c'.slots = c.slots := Array.ext_getElem? fun i => e4 i fun z => q (N _ z)
  rw [e2, e5]
theorem oKp.ext {h' : Heap} (K : oKp (fun a => h.size ≤ a) h h') : Ext h h' := ⟨K.1, fun a c hc => by
  obtain ⟨c', e1, -, -, -, e5⟩ := K.2 a c hc
  rw [e5 (Nat.not_le.mpr (Array.getElem?_eq_some_iff.mp hc).1)] at e1; exact e1⟩
theorem oKp.fld {h' : Heap} {a : Addr} {C f d : String} {v : Value} (K : oKp P h h') (F : Fld Z h a C f d v) (q : ¬ P a) : Fld Z h' a C f d v := by
  obtain ⟨cell, cf, k, i, f, h1, r⟩ := F
  obtain ⟨c', e1, -, -, -, e5⟩ := K.2 a cell h1
  rw [e5 q] at e1; exact ⟨cell, cf, k, i, f, e1, r⟩
theorem oKp.exa {h' : Heap} {a : Addr} {C : String} (K : oKp P h h') (F : Exa Z h a C) : Exa Z h' a C := by
  obtain ⟨cell, k, h1, h2, h3, h4, h5⟩ := F
  obtain ⟨c', e1, e2, e3, e4, -⟩ := K.2 a cell h1
  exact ⟨c', k, e1, by rw [e2]; exact h2, by rw [e2]; exact h3, by rw [e3]; exact h4, by rw [e4]; exact h5⟩
theorem oKp.arr {h' : Heap} {a : Addr} {cl : Cell} {ty : FieldType} (K : oKp P h h') (F : Arr Z h a cl ty) (q : ¬ P a) : Arr Z h' a cl ty := by
  obtain ⟨c', e1, -, -, -, e5⟩ := K.2 a cl F.1
  rw [e5 q] at e1; exact ⟨e1, F.2⟩
theorem oKp.trans {h' h'' : Heap} {P' : Addr → Prop} (K : oKp P h h') (K' : oKp P' h' h'') (q : ∀ a, P' a → P a) : oKp P h h'' := by
  refine ⟨Nat.le_trans K.1 K'.1, fun x c hx => ?_⟩
  obtain ⟨c1, a1, a2, a3, a4, a5⟩ := K.2 x c hx
  obtain ⟨c2, b1, b2, b3, b4, b5⟩ := K'.2 x c1 a1
  exact ⟨c2, b1, b2.trans a2, b3.trans a3, b4.trans a4, fun r => (b5 fun z => r (q x z)).trans (a5 r)⟩
/-- what is fixed along one body's walk -/
def oCx (p : Program) (s : State) (m : MethodId) (meth : Method) (c : Code) (P : Addr → Prop) (Z : State) (y : MethodName) (B : ByteArray) (ml : Nat) (rt : Option FieldType) : Prop :=
  p.tables.exec = Jvm.exec ∧ c.code = B ∧ c.maxLocals = ml ∧ meth.sig.returnType = rt ∧ meth.locks = false ∧ Z.Warmed39 s.vm ∧ s.vm.findClass y.cls = some m.cls ∧ meth.name = y.name ∧ Ext Z.heap s.heap ∧ (∀ a, s.heap.size ≤ a → P a) ∧ (∀ a, P a → Z.heap.size ≤ a)
theorem oCx.hml (C : oCx p s m meth c P Z y B ml rt) : c.maxLocals = ml := C.2.2.1
theorem oCx.hrt (C : oCx p s m meth c P Z y B ml rt) : meth.sig.returnType = rt := C.2.2.2.1
theorem oCx.locks (C : oCx p s m meth c P Z y B ml rt) : meth.locks = false := C.2.2.2.2.1
theorem oCx.hZ (C : oCx p s m meth c P Z y B ml rt) : Z.Warmed39 s.vm := C.2.2.2.2.2.1
theorem oCx.own (C : oCx p s m meth c P Z y B ml rt) : s.vm.findClass y.cls = some m.cls := C.2.2.2.2.2.2.1
theorem oCx.nm (C : oCx p s m meth c P Z y B ml rt) : meth.name = y.name := C.2.2.2.2.2.2.2.1
theorem oCx.old (C : oCx p s m meth c P Z y B ml rt) : Ext Z.heap s.heap := C.2.2.2.2.2.2.2.2.1
theorem oCx.new (C : oCx p s m meth c P Z y B ml rt) : ∀ a, s.heap.size ≤ a → P a := C.2.2.2.2.2.2.2.2.2.1
theorem oCx.young (C : oCx p s m meth c P Z y B ml rt) : ∀ a, P a → Z.heap.size ≤ a := C.2.2.2.2.2.2.2.2.2.2
theorem oCx.rebase {vm0 : Vm} {k0 : Nat} (C : oCx p s m meth c P Z y B ml rt) (hS : s.Since vm0 k0) : oCx p (s.setVm vm0) m meth c P Z y B ml rt :=
  ⟨C.1, C.2.1, C.2.2.1, C.2.2.2.1, C.2.2.2.2.1, State.Warmed39.trans C.hZ hS.1, by show vm0.findClass y.cls = _; rw [hS.1.alike.findClass]; exact C.own, C.2.2.2.2.2.2.2⟩
/-- J holds on, whatever classes, fields and methods come to be resolved -/
def oJs (J : Vm → Prop) : Prop := ∀ (s : State) (vm' : Vm), J s.vm → s.WarmedH vm' → J vm'
def oT : Vm → Prop := fun _ => True
theorem oTs : oJs oT := fun _ _ _ _ => trivial
/-- the end of a body: wide, and narrow where b says so -/
def oEnd (b : Bool) (s : State) (o : Outcome) (u : State) (L : List Loc) (k n : Nat) : Prop := (b = false → FrameEnd s o u L k n) ∧ ReturnedEndW s o u L k n
def oSd (b : Bool) (p : Program) (l : Launch) (e : Env) (R : Room) (s : State) (m : MethodId) (args : Array Value) (below : List Frame) (meth : Method) (c : Code) (P : Addr → Prop) (J : Vm → Prop) (h : Heap) (k n : Nat) (T : State) : Prop :=
  ∃ (vm0 : Vm) (k0 : Nat) (locs : List Loc) (ck cn : Nat), Stand p l e R (s.setVm vm0) m args below meth c T locs ck cn ∧ T.heap = h ∧ oAl P locs ∧ ck ≤ k ∧ cn ≤ n ∧ s.Since vm0 k0 ∧ k0 ≤ h.size ∧ (b = false → vm0 = s.vm) ∧ J vm0 ∧ oJs J
/-- from the frame g over the heap h the body runs to its end and Q holds there -/
def oWP (b : Bool) (p : Program) (l : Launch) (e : Env) (R : Room) (s : State) (m : MethodId) (args : Array Value) (below : List Frame) (meth : Method) (c : Code) (P : Addr → Prop) (Q : Option Value → Heap → Vm → Prop) (J : Vm → Prop) (h : Heap) (k n : Nat) (g : JFrame) : Prop :=
  ∀ T, oSd b p l e R s m args below meth c P J h k n T → ∃ u o, Steps p.tables e below (T.setTop g) u ∧ u.status = .running ∧ Ended u below o ∧ ∃ v L, o = .returned v ∧ (Q v u.heap u.vm ∧ oAl P L) ∧ oEnd b s o u L R.cells R.slots
abbrev oF (m : MethodId) (pc : Nat) (Ls : List Slot) (S : List Value) : JFrame := mkF m pc (Array.mk Ls) S
/-- a body's contract, where it resolves no string -/
def oMeets (l : Launch) (Z : State) (y : MethodName) (B : ByteArray) (ml : Nat) (rt : Option FieldType) (rm : Room) (as' : Array Value) (h0 : Heap) (P : Addr → Prop) (Q : Option Value → Heap → Prop) : Prop :=
  Ext Z.heap h0 → ∀ ws, MetFree l y (head1 (Jvm.Cond.code y B ml rt :: ws) rm) (fun a U => a = as' ∧ Z.Warmed39 U.vm ∧ U.heap = h0) (fun _ _ _ _ _ => True) (fun _ U o U' => ∃ v L, o = .returned v ∧ (Q v U'.heap ∧ oAl P L ∧ oKp P h0 U'.heap) ∧ FrameEnd U o U' L rm.cells rm.slots)
/-- a body's contract, where it may; J: what it asks of the tables -/
def oMeetsW (l : Launch) (Z : State) (y : MethodName) (B : ByteArray) (ml : Nat) (rt : Option FieldType) (rm : Room) (as' : Array Value) (h0 : Heap) (P : Addr → Prop) (J : Vm → Prop) (Q : Option Value → Heap → Vm → Prop) : Prop :=
  Ext Z.heap h0 → ∀ ws, MetFree l y (head1 (Jvm.Cond.code y B ml rt :: ws) rm) (fun a U => a = as' ∧ Z.Warmed39 U.vm ∧ U.heap = h0 ∧ J U.vm) (fun _ _ _ _ _ => True) (fun _ U o U' => ∃ v L, o = .returned v ∧ (Q v U'.heap U'.vm ∧ oAl P L ∧ oKp P h0 U'.heap) ∧ ReturnedEndW U o U' L rm.cells rm.slots)
theorem oMeets.of {rm : Room} {as' : Array Value} {h0 : Heap} {Ls : List Slot} {Q : Option Value → Heap → Prop} (hpl : plainFor y = true) (hP0 : ∀ a, h0.size ≤ a → P a) (hPn : Ext Z.heap h0 → ∀ a, P a → Z.heap.size ≤ a) (hef : ∀ m, entryFrame m as' ml = oF m 0 Ls [])
    (body : ∀ (p : Program) (e : Env) (s : State) (m : MethodId) (below : List Frame) (meth : Method) (c : Code), oCx p s m meth c P Z y B ml rt → s.heap = h0 → oWP false p l e rm s m as' below meth c P (fun v h _ => Q v h) oT h0 0 0 (oF m 0 Ls [])) : oMeets l Z y B ml rt rm as' h0 P Q := by
  intro hE ws
  refine MetFree.of_bodySF hpl hisR ?_
  intro p e s m args below meth c s₁ Bd hml0 hP hK
  obtain ⟨rfl, hZ, hh⟩ := hP
  have C : oCx p s m meth c P Z y B ml rt := ⟨Bd.exec, Bd.bytes, hml0, Bd.returns, Bd.notSynchronized, hZ, findClass_of_methodNamed Bd.named, (name_of_methodNamed Bd.named Bd.method).1, by rw [hh]; exact hE, by rw [hh]; exact hP0, hPn hE⟩
  have X0 : Stand p l e rm s m args below meth c s₁ [] 0 0 := Stand.of_body Bd
  have e0 : s₁.heap = h0 := by rw [← hh, Bd.state]; rfl
  obtain ⟨u, o, h1, h2, h3, v, L, rfl, ⟨hQ, hN⟩, hF⟩ := body p e s m below meth c C hh s₁ ⟨s.vm, 0, [], 0, 0, X0, e0, fun _ q => (nomatch q), Nat.le_refl _, Nat.le_refl _, (State.WarmedH.refl s).since 0, Nat.zero_le _, fun _ => rfl, trivial, oTs⟩
  refine ⟨u, _, castTop (hef m) h1, h2, h3, v, L, rfl, ⟨hQ, hN, ?_⟩, hF.1 rfl⟩
  rw [← hh]
  exact oKp.of_same (t := { u with vm := s.vm }) hF.2.2.2.2 hN
theorem oMeetsW.of {rm : Room} {as' : Array Value} {h0 : Heap} {Ls : List Slot} (hpl : plainFor y = true) (hP0 : ∀ a, h0.size ≤ a → P a) (hPn : Ext Z.heap h0 → ∀ a, P a → Z.heap.size ≤ a) (hef : ∀ m, entryFrame m as' ml = oF m 0 Ls []) (hJs : oJs J)
    (body : ∀ (p : Program) (e : Env) (s : State) (m : MethodId) (below : List Frame) (meth : Method) (c : Code), oCx p s m meth c P Z y B ml rt → s.heap = h0 → oWP true p l e rm s m as' below meth c P Q J h0 0 0 (oF m 0 Ls [])) : oMeetsW l Z y B ml rt rm as' h0 P J Q := by
  intro hE ws
  refine MetFree.of_bodySF hpl hisR ?_
  intro p e s m args below meth c s₁ Bd hml0 hP hK
  obtain ⟨rfl, hZ, hh, hJ⟩ := hP
  have C : oCx p s m meth c P Z y B ml rt := ⟨Bd.exec, Bd.bytes, hml0, Bd.returns, Bd.notSynchronized, hZ, findClass_of_methodNamed Bd.named, (name_of_methodNamed Bd.named Bd.method).1, by rw [hh]; exact hE, by rw [hh]; exact hP0, hPn hE⟩
  have X0 : Stand p l e rm s m args below meth c s₁ [] 0 0 := Stand.of_body Bd
  have e0 : s₁.heap = h0 := by rw [← hh, Bd.state]; rfl
  obtain ⟨u, o, h1, h2, h3, v, L, rfl, ⟨hQ, hN⟩, hF⟩ := body p e s m below meth c C hh s₁ ⟨s.vm, 0, [], 0, 0, X0, e0, fun _ q => (nomatch q), Nat.le_refl _, Nat.le_refl _, (State.WarmedH.refl s).since 0, Nat.zero_le _, fun _ => rfl, hJ, hJs⟩
  refine ⟨u, _, castTop (hef m) h1, h2, h3, v, L, rfl, ⟨hQ, hN, ?_⟩, hF.2⟩
  rw [← hh]
  exact oKp.of_same (t := { u with vm := s.vm }) hF.2.2.2.2 hN
theorem oMeets.mono {rm : Room} {as' : Array Value} {h0 : Heap} {Q Q' : Option Value → Heap → Prop} (M : oMeets l Z y B ml rt rm as' h0 P Q) (i : ∀ v h, Q v h → Q' v h) : oMeets l Z y B ml rt rm as' h0 P Q' := fun hE ws p e h1 h2 h3 s m a d h4 h5 h6 h7 => by
  obtain ⟨n, o, g1, g2, g3, v, L, rfl, ⟨hQ, r⟩, hF⟩ := M hE ws p e h1 h2 h3 s m a d h4 h5 h6 h7
  exact ⟨n, _, g1, g2, g3, v, L, rfl, ⟨i _ _ hQ, r⟩, hF⟩
theorem oWP.step {g g' : JFrame} (st : ∀ T, At T m c below → ∀ target, Steps p.tables e below (T.setTop g') target → Steps p.tables e below (T.setTop g) target) (K : oWP b p l e R s m args below meth c P Q J h k n g') : oWP b p l e R s m args below meth c P Q J h k n g := fun T hT => by
  obtain ⟨u, o, h1, h2⟩ := K T hT
  obtain ⟨_, _, _, _, _, X, -⟩ := hT
  exact ⟨u, o, st T X.here u h1, h2⟩
theorem oWP.stepX {g g' : JFrame} (st : ∀ s' T locs ck cn, Stand p l e R s' m args below meth c T locs ck cn → ∀ target, Steps p.tables e below (T.setTop g') target → Steps p.tables e below (T.setTop g) target) (K : oWP b p l e R s m args below meth c P Q J h k n g') : oWP b p l e R s m args below meth c P Q J h k n g := fun T hT => by
  obtain ⟨u, o, h1, h2⟩ := K T hT
  obtain ⟨_, _, _, _, _, X, -⟩ := hT
  exact ⟨u, o, st _ T _ _ _ X u h1, h2⟩
/-- a step by a law that hands back a new state over the same heap -/
theorem oWP.law {g g' : JFrame} (K : oWP b p l e R s m args below meth c P Q J h k n g') (C : oCx p s m meth c P Z y B ml rt) (st : ∀ s', oCx p s' m meth c P Z y B ml rt → ∀ T locs ck cn, Stand p l e R s' m args below meth c T locs ck cn → T.heap = h → ∃ T', Stand p l e R s' m args below meth c T' locs ck cn ∧ T'.heap = h ∧ ∀ target, Steps p.tables e below (T'.setTop g') target → Steps p.tables e below (T.setTop g) target) : oWP b p l e R s m args below meth c P Q J h k n g := fun T hT => by
  obtain ⟨vm0, k0, locs, ck, cn, X, eT, N, q1, q2, hS, hk0, hbv, hJ⟩ := hT
  obtain ⟨T', X', e', st'⟩ := st _ (C.rebase hS) T locs ck cn X eT
  obtain ⟨u, o, h1, h2⟩ := K T' ⟨vm0, k0, locs, ck, cn, X', e', N, q1, q2, hS, hk0, hbv, hJ⟩
  exact ⟨u, o, st' u h1, h2⟩
theorem oWP.more {g : JFrame} {k' n' : Nat} (K : oWP b p l e R s m args below meth c P Q J h k' n' g) (hk : k ≤ k') (hn : n ≤ n') : oWP b p l e R s m args below meth c P Q J h k n g := fun T hT => by
  obtain ⟨vm0, k0, locs, ck, cn, X, eT, N, q1, q2, r⟩ := hT
  exact K T ⟨vm0, k0, locs, ck, cn, X, eT, N, Nat.le_trans q1 hk, Nat.le_trans q2 hn, r⟩
theorem oSd.old {T : State} (C : oCx p s m meth c P Z y B ml rt) (hT : oSd b p l e R s m args below meth c P J h k n T) : Ext Z.heap h ∧ s.heap.size ≤ h.size ∧ oKp P s.heap h := by
  obtain ⟨vm0, k0, locs, ck, cn, X, rfl, N, -⟩ := hT
  have K : oKp P s.heap T.heap := oKp.of_same (s := s.setVm vm0) (t := T.setVm (s.setVm vm0).vm) X.same N
  refine ⟨⟨Nat.le_trans C.old.1 K.1, fun a cl ha => ?_⟩, K.1, K⟩
  obtain ⟨c', e1, -, -, -, e5⟩ := K.2 a cl (C.old.2 a cl ha)
  rw [e5 fun q => absurd (C.young a q) (Nat.not_le.mpr (Array.getElem?_eq_some_iff.mp ha).1)] at e1
  exact e1
/-- what stood at the start stands here; the heap only grew; and what the body kept so far -/
theorem K_old {g : JFrame} (C : oCx p s m meth c P Z y B ml rt) (K : Ext Z.heap h → s.heap.size ≤ h.size → oKp P s.heap h → oWP b p l e R s m args below meth c P Q J h k n g) : oWP b p l e R s m args below meth c P Q J h k n g := fun T hT => by
  obtain ⟨h1, h2, h3⟩ := oSd.old C hT
  exact K h1 h2 h3 T hT
variable {pc : Nat} {Ls : List Slot} {S : List Value}
theorem K_iloadN (C : oCx p s m meth c P Z y B ml rt) {i : Fin 4} {v : Int32} (hd : decode B pc = .ok (.iload_n i, 1)) (hl : (Array.mk Ls)[i.val]? = some (.val (.int v))) (K : oWP b p l e R s m args below meth c P Q J h k n (oF m (pc + 1) Ls ((.int v) :: S))) : oWP b p l e R s m args below meth c P Q J h k n (oF m pc Ls S) := K.step fun _ A _ => XS.iloadN A C.1 rfl (hb C.2.1 hd) hl
theorem K_iload (C : oCx p s m meth c P Z y B ml rt) {i : Nat} {v : Int32} (hd : decode B pc = .ok (.iload i, 2)) (hl : (Array.mk Ls)[i]? = some (.val (.int v))) (K : oWP b p l e R s m args below meth c P Q J h k n (oF m (pc + 2) Ls ((.int v) :: S))) : oWP b p l e R s m args below meth c P Q J h k n (oF m pc Ls S) := K.step fun _ A _ => XS.iload A C.1 rfl (hb C.2.1 hd) hl
theorem K_lloadN (C : oCx p s m meth c P Z y B ml rt) {i : Fin 4} {v : Int64} (hd : decode B pc = .ok (.lload_n i, 1)) (hl : (Array.mk Ls)[i.val]? = some (.val (.long v))) (K : oWP b p l e R s m args below meth c P Q J h k n (oF m (pc + 1) Ls ((.long v) :: S))) : oWP b p l e R s m args below meth c P Q J h k n (oF m pc Ls S) := K.step fun _ A _ => XT.lloadN A C.1 rfl (hb C.2.1 hd) hl
theorem K_lload (C : oCx p s m meth c P Z y B ml rt) {i : Nat} {v : Int64} (hd : decode B pc = .ok (.lload i, 2)) (hl : (Array.mk Ls)[i]? = some (.val (.long v))) (K : oWP b p l e R s m args below meth c P Q J h k n (oF m (pc + 2) Ls ((.long v) :: S))) : oWP b p l e R s m args below meth c P Q J h k n (oF m pc Ls S) := K.step fun _ A _ => XT.lload A C.1 rfl (hb C.2.1 hd) hl
theorem K_aloadN (C : oCx p s m meth c P Z y B ml rt) {i : Fin 4} {v : Value} (hd : decode B pc = .ok (.aload_n i, 1)) (hl : (Array.mk Ls)[i.val]? = some (.val v)) (hv : v.isRef = true) (K : oWP b p l e R s m args below meth c P Q J h k n (oF m (pc + 1) Ls (v :: S))) : oWP b p l e R s m args below meth c P Q J h k n (oF m pc Ls S) := K.step fun _ A _ => XS.aloadN A C.1 rfl (hb C.2.1 hd) hl hv
theorem K_aload (C : oCx p s m meth c P Z y B ml rt) {i : Nat} {v : Value} (hd : decode B pc = .ok (.aload i, 2)) (hl : (Array.mk Ls)[i]? = some (.val v)) (hv : v.isRef = true) (K : oWP b p l e R s m args below meth c P Q J h k n (oF m (pc + 2) Ls (v :: S))) : oWP b p l e R s m args below meth c P Q J h k n (oF m pc Ls S) := K.step fun _ A _ => XS.aload A C.1 rfl (hb C.2.1 hd) hl hv
theorem K_istoreN (C : oCx p s m meth c P Z y B ml rt) {i : Fin 4} {v : Int32} {Ls' : List Slot} (hd : decode B pc = .ok (.istore_n i, 1)) (hl : storeLocals (Array.mk Ls) i.val (.int v) = some (Array.mk Ls')) (K : oWP b p l e R s m args below meth c P Q J h k n (oF m (pc + 1) Ls' S)) : oWP b p l e R s m args below meth c P Q J h k n (oF m pc Ls ((.int v) :: S)) := K.step fun _ A _ => XS.istoreN A C.1 rfl (hb C.2.1 hd) rfl hl
theorem K_istore (C : oCx p s m meth c P Z y B ml rt) {i : Nat} {v : Int32} {Ls' : List Slot} (hd : decode B pc = .ok (.istore i, 2)) (hl : storeLocals (Array.mk Ls) i (.int v) = some (Array.mk Ls')) (K : oWP b p l e R s m args below meth c P Q J h k n (oF m (pc + 2) Ls' S)) : oWP b p l e R s m args below meth c P Q J h k n (oF m pc Ls ((.int v) :: S)) := K.step fun _ A _ => XS.istore A C.1 rfl (hb C.2.1 hd) rfl hl
theorem K_lstoreN (C : oCx p s m meth c P Z y B ml rt) {i : Fin 4} {v : Int64} {Ls' : List Slot} (hd : decode B pc = .ok (.lstore_n i, 1)) (hl : storeLocals (Array.mk Ls) i.val (.long v) = some (Array.mk Ls')) (K : oWP b p l e R s m args below meth c P Q J h k n (oF m (pc + 1) Ls' S)) : oWP b p l e R s m args below meth c P Q J h k n (oF m pc Ls ((.long v) :: S)) := K.step fun _ A _ => XT.lstoreN A C.1 rfl (hb C.2.1 hd) rfl hl
theorem K_lstore (C : oCx p s m meth c P Z y B ml rt) {i : Nat} {v : Int64} {Ls' : List Slot} (hd : decode B pc = .ok (.lstore i, 2)) (hl : storeLocals (Array.mk Ls) i (.long v) = some (Array.mk Ls')) (K : oWP b p l e R s m args below meth c P Q J h k n (oF m (pc + 2) Ls' S)) : oWP b p l e R s m args below meth c P Q J h k n (oF m pc Ls ((.long v) :: S)) := K.step fun _ A _ => XT.lstore A C.1 rfl (hb C.2.1 hd) rfl hl
theorem K_astoreN (C : oCx p s m meth c P Z y B ml rt) {i : Fin 4} {v : Value} {Ls' : List Slot} (hd : decode B pc = .ok (.astore_n i, 1)) (hv : v.isRef = true) (hl : storeLocals (Array.mk Ls) i.val v = some (Array.mk Ls')) (K : oWP b p l e R s m args below meth c P Q J h k n (oF m (pc + 1) Ls' S)) : oWP b p l e R s m args below meth c P Q J h k n (oF m pc Ls (v :: S)) := K.step fun _ A _ => XS.astoreN A C.1 rfl (hb C.2.1 hd) rfl hv hl
theorem K_astore (C : oCx p s m meth c P Z y B ml rt) {i : Nat} {v : Value} {Ls' : List Slot} (hd : decode B pc = .ok (.astore i, 2)) (hv : v.isRef = true) (hl : storeLocals (Array.mk Ls) i v = some (Array.mk Ls')) (K : oWP b p l e R s m args below meth c P Q J h k n (oF m (pc + 2) Ls' S)) : oWP b p l e R s m args below meth c P Q J h k n (oF m pc Ls (v :: S)) := K.step fun _ A _ => XS.astore A C.1 rfl (hb C.2.1 hd) rfl hv hl
theorem K_iinc (C : oCx p s m meth c P Z y B ml rt) {i : Nat} {cst : Int} {v w : Int32} {Ls' : List Slot} (hd : decode B pc = .ok (.iinc i cst, 3)) (hc : Int32.ofInt cst = w) (hl : (Array.mk Ls)[i]? = some (.val (.int v))) (hl' : storeLocals (Array.mk Ls) i (.int (v + w)) = some (Array.mk Ls')) (K : oWP b p l e R s m args below meth c P Q J h k n (oF m (pc + 3) Ls' S)) : oWP b p l e R s m args below meth c P Q J h k n (oF m pc Ls S) := K.step fun _ A _ => XS.iinc A C.1 rfl (hb C.2.1 hd) hl (hc ▸ hl')
theorem K_iconst (C : oCx p s m meth c P Z y B ml rt) {i : Int} (v : Int32) (hd : decode B pc = .ok (.iconst i, 1)) (hv : Int32.ofInt i = v) (K : oWP b p l e R s m args below meth c P Q J h k n (oF m (pc + 1) Ls (.int v :: S))) : oWP b p l e R s m args below meth c P Q J h k n (oF m pc Ls S) := K.step fun _ A _ => XT.iconstV A C.1 rfl v (hb C.2.1 hd) hv
theorem K_bipush (C : oCx p s m meth c P Z y B ml rt) {i : Int} (v : Int32) (hd : decode B pc = .ok (.bipush i, 2)) (hv : (Int8.ofInt i).toInt32 = v) (K : oWP b p l e R s m args below meth c P Q J h k n (oF m (pc + 2) Ls (.int v :: S))) : oWP b p l e R s m args below meth c P Q J h k n (oF m pc Ls S) := K.step fun _ A _ => XT.bipushV A C.1 rfl v (hb C.2.1 hd) hv
theorem K_sipush (C : oCx p s m meth c P Z y B ml rt) {i : Int} (v : Int32) (hd : decode B pc = .ok (.sipush i, 3)) (hv : (Int16.ofInt i).toInt32 = v) (K : oWP b p l e R s m args below meth c P Q J h k n (oF m (pc + 3) Ls (.int v :: S))) : oWP b p l e R s m args below meth c P Q J h k n (oF m pc Ls S) := K.step fun _ A _ => XT.sipushV A C.1 rfl v (hb C.2.1 hd) hv
theorem K_lconst (C : oCx p s m meth c P Z y B ml rt) {i : Fin 2} (v : Int64) (hd : decode B pc = .ok (.lconst i, 1)) (hv : Int64.ofNat i = v) (K : oWP b p l e R s m args below meth c P Q J h k n (oF m (pc + 1) Ls (.long v :: S))) : oWP b p l e R s m args below meth c P Q J h k n (oF m pc Ls S) := K.step fun _ A _ => XT.lconstV A C.1 rfl v (hb C.2.1 hd) hv
theorem K_aconst_null (C : oCx p s m meth c P Z y B ml rt)  (hd : decode B pc = .ok (.aconst_null, 1)) (K : oWP b p l e R s m args below meth c P Q J h k n (oF m (pc + 1) Ls (.null :: S))) : oWP b p l e R s m args below meth c P Q J h k n (oF m pc Ls (S)) := K.step fun _ A _ => XS.aconstNull A C.1 rfl (hb C.2.1 hd)
theorem K_dup (C : oCx p s m meth c P Z y B ml rt) {v : Value} (hd : decode B pc = .ok (.dup, 1)) (hc : v.category = 1) (K : oWP b p l e R s m args below meth c P Q J h k n (oF m (pc + 1) Ls (v :: v :: S))) : oWP b p l e R s m args below meth c P Q J h k n (oF m pc Ls (v :: S)) := K.step fun _ A _ => XS.dup A C.1 rfl (hb C.2.1 hd) rfl hc
theorem K_dup_x1 (C : oCx p s m meth c P Z y B ml rt) {v w : Value} (hd : decode B pc = .ok (.dup_x1, 1)) (hc : v.category = 1) (hc' : w.category = 1) (K : oWP b p l e R s m args below meth c P Q J h k n (oF m (pc + 1) Ls (v :: w :: v :: S))) : oWP b p l e R s m args below meth c P Q J h k n (oF m pc Ls (v :: w :: S)) := K.step fun _ A _ => XT.dupX1 A C.1 rfl (hb C.2.1 hd) rfl hc hc'
theorem K_dup2 (C : oCx p s m meth c P Z y B ml rt) {v w : Value} (hd : decode B pc = .ok (.dup2, 1)) (hc : v.category = 1) (hc' : w.category = 1) (K : oWP b p l e R s m args below meth c P Q J h k n (oF m (pc + 1) Ls (v :: w :: v :: w :: S))) : oWP b p l e R s m args below meth c P Q J h k n (oF m pc Ls (v :: w :: S)) := K.step fun _ A _ => XT.dup2 A C.1 rfl (hb C.2.1 hd) rfl hc hc'
theorem K_pop (C : oCx p s m meth c P Z y B ml rt) {v : Value} (hd : decode B pc = .ok (.pop, 1)) (hc : v.category = 1) (K : oWP b p l e R s m args below meth c P Q J h k n (oF m (pc + 1) Ls (S))) : oWP b p l e R s m args below meth c P Q J h k n (oF m pc Ls (v :: S)) := K.step fun _ A _ => XT.pop A C.1 rfl (hb C.2.1 hd) rfl hc
theorem K_goto (C : oCx p s m meth c P Z y B ml rt) {o : Int} (q : Nat) (hd : decode B pc = .ok (.goto o, 3)) (ho : 0 ≤ (pc : Int) + o) (hp : ((pc : Int) + o).toNat = q) (K : oWP b p l e R s m args below meth c P Q J h k n (oF m q Ls S)) : oWP b p l e R s m args below meth c P Q J h k n (oF m pc Ls S) := K.step fun _ A _ => XS.goto A C.1 rfl rfl (hb C.2.1 hd) ho hp
theorem K_if (C : oCx p s m meth c P Z y B ml rt) {cd : ClassFile.Cond} {x : Int32} {o : Int} (q : Nat) (hd : decode B pc = .ok (.ifCond cd o, 3)) (ho : 0 ≤ (pc : Int) + o) (hp : ((pc : Int) + o).toNat = q) (K1 : oC cd x 0 → oWP b p l e R s m args below meth c P Q J h k n (oF m q Ls S)) (K2 : ¬ oC cd x 0 → oWP b p l e R s m args below meth c P Q J h k n (oF m (pc + 3) Ls S)) : oWP b p l e R s m args below meth c P Q J h k n (oF m pc Ls (.int x :: S)) := by
  rcases oC_cases cd x 0 with ⟨h1, h2⟩ | ⟨h1, h2⟩
  · exact (K1 h2).step fun _ A _ => XS.ifYes A C.1 rfl rfl (hb C.2.1 hd) rfl ((if0 _ _).trans h1) ho hp
  · exact (K2 h2).step fun _ A _ => XS.ifNo A C.1 rfl (hb C.2.1 hd) rfl ((if0 _ _).trans h1)
theorem K_icmp (C : oCx p s m meth c P Z y B ml rt) {cd : ClassFile.Cond} {x w : Int32} {o : Int} (q : Nat) (hd : decode B pc = .ok (.if_icmp cd o, 3)) (ho : 0 ≤ (pc : Int) + o) (hp : ((pc : Int) + o).toNat = q) (K1 : oC cd x w → oWP b p l e R s m args below meth c P Q J h k n (oF m q Ls S)) (K2 : ¬ oC cd x w → oWP b p l e R s m args below meth c P Q J h k n (oF m (pc + 3) Ls S)) : oWP b p l e R s m args below meth c P Q J h k n (oF m pc Ls (.int w :: .int x :: S)) := by
  rcases oC_cases cd x w with ⟨h1, h2⟩ | ⟨h1, h2⟩
  · exact (K1 h2).step fun _ A _ => XS.icmpYes A C.1 rfl rfl (hb C.2.1 hd) rfl h1 ho hp
  · exact (K2 h2).step fun _ A _ => XS.icmpNo A C.1 rfl (hb C.2.1 hd) rfl h1
theorem K_acmp (C : oCx p s m meth c P Z y B ml rt) {cd : ACond} {x w : Value} {o : Int} (q : Nat) (hd : decode B pc = .ok (.if_acmp cd o, 3)) (h1 : x.isRef = true) (h2 : w.isRef = true) (ho : 0 ≤ (pc : Int) + o) (hp : ((pc : Int) + o).toNat = q)
    (K1 : oA cd x w → oWP b p l e R s m args below meth c P Q J h k n (oF m q Ls S)) (K2 : ¬ oA cd x w → oWP b p l e R s m args below meth c P Q J h k n (oF m (pc + 3) Ls S)) : oWP b p l e R s m args below meth c P Q J h k n (oF m pc Ls (w :: x :: S)) := by
  rcases oA_cases cd x w with ⟨g1, g2⟩ | ⟨g1, g2⟩
  · exact (K1 g2).stepX fun _ T locs ck cn X target hr => RoadKit.acmp (g := oF m pc Ls (w :: x :: S)) X C.1 rfl h1 h2 (pc0 := pc) (pc' := q) rfl (hb C.2.1 hd) rfl rfl ho (by rw [g1, ← hp]; rfl) hr
  · exact (K2 g2).stepX fun _ T locs ck cn X target hr => RoadKit.acmp (g := oF m pc Ls (w :: x :: S)) X C.1 rfl h1 h2 (pc0 := pc) (pc' := pc + 3) rfl (hb C.2.1 hd) rfl rfl ho (by rw [g1]; rfl) hr
theorem K_ifnull_ref (C : oCx p s m meth c P Z y B ml rt) {a : Addr} {o : Int} (hd : decode B pc = .ok (.ifnull o, 3)) (K : oWP b p l e R s m args below meth c P Q J h k n (oF m (pc + 3) Ls S)) : oWP b p l e R s m args below meth c P Q J h k n (oF m pc Ls (.ref a :: S)) := K.step fun _ A _ => XS.ifnullNo A C.1 rfl (hb C.2.1 hd) rfl
theorem K_ifnull_null (C : oCx p s m meth c P Z y B ml rt) {o : Int} (q : Nat) (hd : decode B pc = .ok (.ifnull o, 3)) (ho : 0 ≤ (pc : Int) + o) (hp : ((pc : Int) + o).toNat = q) (K : oWP b p l e R s m args below meth c P Q J h k n (oF m q Ls S)) : oWP b p l e R s m args below meth c P Q J h k n (oF m pc Ls (.null :: S)) := K.step fun _ A _ => XS.ifnullYes A C.1 rfl rfl (hb C.2.1 hd) rfl ho hp
theorem K_ifnonnull_ref (C : oCx p s m meth c P Z y B ml rt) {a : Addr} {o : Int} (q : Nat) (hd : decode B pc = .ok (.ifnonnull o, 3)) (ho : 0 ≤ (pc : Int) + o) (hp : ((pc : Int) + o).toNat = q) (K : oWP b p l e R s m args below meth c P Q J h k n (oF m q Ls S)) : oWP b p l e R s m args below meth c P Q J h k n (oF m pc Ls (.ref a :: S)) := K.step fun _ A _ => XT.ifnonnullYes A C.1 rfl rfl (hb C.2.1 hd) rfl ho hp
theorem K_ifnonnull_null (C : oCx p s m meth c P Z y B ml rt) {o : Int} (hd : decode B pc = .ok (.ifnonnull o, 3)) (K : oWP b p l e R s m args below meth c P Q J h k n (oF m (pc + 3) Ls S)) : oWP b p l e R s m args below meth c P Q J h k n (oF m pc Ls (.null :: S)) := K.step fun _ A _ => XT.ifnonnullNo A C.1 rfl (hb C.2.1 hd) rfl
theorem K_tsw (C : oCx p s m meth c P Z y B ml rt) {dflt low high o : Int} {offs : Array Int} {len : Nat} {i : Int32} (q : Nat) (hd : decode B pc = .ok (.tableswitch dflt low high offs, len)) (hin : ¬ (i.toInt < low ∨ i.toInt > high)) (hoff : offs[(i.toInt - low).toNat]? = some o) (ho : 0 ≤ (pc : Int) + o) (hp : ((pc : Int) + o).toNat = q) (K : oWP b p l e R s m args below meth c P Q J h k n (oF m q Ls S)) : oWP b p l e R s m args below meth c P Q J h k n (oF m pc Ls (.int i :: S)) := K.step fun _ A _ => XS.tswIn (g := oF m pc Ls (.int i :: S)) A C.1 rfl (pc0 := pc) rfl (hb C.2.1 hd) rfl hin hoff ho hp
theorem K_tswOut (C : oCx p s m meth c P Z y B ml rt) {dflt low high : Int} {offs : Array Int} {len : Nat} {i : Int32} (q : Nat) (hd : decode B pc = .ok (.tableswitch dflt low high offs, len)) (hout : i.toInt < low ∨ i.toInt > high) (ho : 0 ≤ (pc : Int) + dflt) (hp : ((pc : Int) + dflt).toNat = q) (K : oWP b p l e R s m args below meth c P Q J h k n (oF m q Ls S)) : oWP b p l e R s m args below meth c P Q J h k n (oF m pc Ls (.int i :: S)) := K.step fun _ A _ => XS.tswOut (g := oF m pc Ls (.int i :: S)) A C.1 rfl (pc0 := pc) rfl (hb C.2.1 hd) rfl hout ho hp
theorem K_iadd (C : oCx p s m meth c P Z y B ml rt) {x w : Int32} (hd : decode B pc = .ok (.iadd, 1)) (K : oWP b p l e R s m args below meth c P Q J h k n (oF m (pc + 1) Ls (.int (x + w) :: S))) : oWP b p l e R s m args below meth c P Q J h k n (oF m pc Ls (.int w :: .int x :: S)) := K.step fun _ A _ => XS.iadd A C.1 rfl (hb C.2.1 hd) rfl
theorem K_isub (C : oCx p s m meth c P Z y B ml rt) {x w : Int32} (hd : decode B pc = .ok (.isub, 1)) (K : oWP b p l e R s m args below meth c P Q J h k n (oF m (pc + 1) Ls (.int (x - w) :: S))) : oWP b p l e R s m args below meth c P Q J h k n (oF m pc Ls (.int w :: .int x :: S)) := K.step fun _ A _ => XS.isub A C.1 rfl (hb C.2.1 hd) rfl
theorem K_iand (C : oCx p s m meth c P Z y B ml rt) {x w : Int32} (hd : decode B pc = .ok (.iand, 1)) (K : oWP b p l e R s m args below meth c P Q J h k n (oF m (pc + 1) Ls (.int (x &&& w) :: S))) : oWP b p l e R s m args below meth c P Q J h k n (oF m pc Ls (.int w :: .int x :: S)) := K.step fun _ A _ => XS.iand A C.1 rfl (hb C.2.1 hd) rfl
theorem K_imul (C : oCx p s m meth c P Z y B ml rt) {x w : Int32} (hd : decode B pc = .ok (.imul, 1)) (K : oWP b p l e R s m args below meth c P Q J h k n (oF m (pc + 1) Ls (.int (x * w) :: S))) : oWP b p l e R s m args below meth c P Q J h k n (oF m pc Ls (.int w :: .int x :: S)) := K.step fun _ A _ => XS.imul A C.1 rfl (hb C.2.1 hd) rfl
theorem K_ior (C : oCx p s m meth c P Z y B ml rt) {x w : Int32} (hd : decode B pc = .ok (.ior, 1)) (K : oWP b p l e R s m args below meth c P Q J h k n (oF m (pc + 1) Ls (.int (x ||| w) :: S))) : oWP b p l e R s m args below meth c P Q J h k n (oF m pc Ls (.int w :: .int x :: S)) := K.step fun _ A _ => XT.ior A C.1 rfl (hb C.2.1 hd) rfl
theorem K_ixor (C : oCx p s m meth c P Z y B ml rt) {x w : Int32} (hd : decode B pc = .ok (.ixor, 1)) (K : oWP b p l e R s m args below meth c P Q J h k n (oF m (pc + 1) Ls (.int (x ^^^ w) :: S))) : oWP b p l e R s m args below meth c P Q J h k n (oF m pc Ls (.int w :: .int x :: S)) := K.step fun _ A _ => XT.ixor A C.1 rfl (hb C.2.1 hd) rfl
theorem K_ishl (C : oCx p s m meth c P Z y B ml rt) {x w : Int32} (hd : decode B pc = .ok (.ishl, 1)) (K : oWP b p l e R s m args below meth c P Q J h k n (oF m (pc + 1) Ls (.int (x <<< (w &&& 31)) :: S))) : oWP b p l e R s m args below meth c P Q J h k n (oF m pc Ls (.int w :: .int x :: S)) := K.step fun _ A _ => XT.ishl A C.1 rfl (hb C.2.1 hd) rfl
theorem K_ishr (C : oCx p s m meth c P Z y B ml rt) {x w : Int32} (hd : decode B pc = .ok (.ishr, 1)) (K : oWP b p l e R s m args below meth c P Q J h k n (oF m (pc + 1) Ls (.int (x >>> (w &&& 31)) :: S))) : oWP b p l e R s m args below meth c P Q J h k n (oF m pc Ls (.int w :: .int x :: S)) := K.step fun _ A _ => XT.ishr A C.1 rfl (hb C.2.1 hd) rfl
theorem K_iushr (C : oCx p s m meth c P Z y B ml rt) {x w : Int32} (hd : decode B pc = .ok (.iushr, 1)) (K : oWP b p l e R s m args below meth c P Q J h k n (oF m (pc + 1) Ls (.int (XT.ushr x w) :: S))) : oWP b p l e R s m args below meth c P Q J h k n (oF m pc Ls (.int w :: .int x :: S)) := K.step fun _ A _ => XT.iushr A C.1 rfl (hb C.2.1 hd) rfl
theorem K_idiv (C : oCx p s m meth c P Z y B ml rt) {x w : Int32} (hd : decode B pc = .ok (.idiv, 1)) (hy : w ≠ 0) (K : oWP b p l e R s m args below meth c P Q J h k n (oF m (pc + 1) Ls (.int (x / w) :: S))) : oWP b p l e R s m args below meth c P Q J h k n (oF m pc Ls (.int w :: .int x :: S)) := K.step fun _ A _ => XS.idiv A C.1 rfl (hb C.2.1 hd) rfl hy
theorem K_ladd (C : oCx p s m meth c P Z y B ml rt) {x w : Int64} (hd : decode B pc = .ok (.ladd, 1)) (K : oWP b p l e R s m args below meth c P Q J h k n (oF m (pc + 1) Ls (.long (x + w) :: S))) : oWP b p l e R s m args below meth c P Q J h k n (oF m pc Ls (.long w :: .long x :: S)) := K.step fun _ A _ => XT.ladd A C.1 rfl (hb C.2.1 hd) rfl
theorem K_lsub (C : oCx p s m meth c P Z y B ml rt) {x w : Int64} (hd : decode B pc = .ok (.lsub, 1)) (K : oWP b p l e R s m args below meth c P Q J h k n (oF m (pc + 1) Ls (.long (x - w) :: S))) : oWP b p l e R s m args below meth c P Q J h k n (oF m pc Ls (.long w :: .long x :: S)) := K.step fun _ A _ => XT.lsub A C.1 rfl (hb C.2.1 hd) rfl
theorem K_lmul (C : oCx p s m meth c P Z y B ml rt) {x w : Int64} (hd : decode B pc = .ok (.lmul, 1)) (K : oWP b p l e R s m args below meth c P Q J h k n (oF m (pc + 1) Ls (.long (x * w) :: S))) : oWP b p l e R s m args below meth c P Q J h k n (oF m pc Ls (.long w :: .long x :: S)) := K.step fun _ A _ => XT.lmul A C.1 rfl (hb C.2.1 hd) rfl
theorem K_land (C : oCx p s m meth c P Z y B ml rt) {x w : Int64} (hd : decode B pc = .ok (.land, 1)) (K : oWP b p l e R s m args below meth c P Q J h k n (oF m (pc + 1) Ls (.long (x &&& w) :: S))) : oWP b p l e R s m args below meth c P Q J h k n (oF m pc Ls (.long w :: .long x :: S)) := K.step fun _ A _ => XT.land A C.1 rfl (hb C.2.1 hd) rfl
theorem K_lor (C : oCx p s m meth c P Z y B ml rt) {x w : Int64} (hd : decode B pc = .ok (.lor, 1)) (K : oWP b p l e R s m args below meth c P Q J h k n (oF m (pc + 1) Ls (.long (x ||| w) :: S))) : oWP b p l e R s m args below meth c P Q J h k n (oF m pc Ls (.long w :: .long x :: S)) := K.step fun _ A _ => XT.lor A C.1 rfl (hb C.2.1 hd) rfl
theorem K_lxor (C : oCx p s m meth c P Z y B ml rt) {x w : Int64} (hd : decode B pc = .ok (.lxor, 1)) (K : oWP b p l e R s m args below meth c P Q J h k n (oF m (pc + 1) Ls (.long (x ^^^ w) :: S))) : oWP b p l e R s m args below meth c P Q J h k n (oF m pc Ls (.long w :: .long x :: S)) := K.step fun _ A _ => XT.lxor A C.1 rfl (hb C.2.1 hd) rfl
theorem K_ldiv (C : oCx p s m meth c P Z y B ml rt) {x w : Int64} (hd : decode B pc = .ok (.ldiv, 1)) (hy : w ≠ 0) (K : oWP b p l e R s m args below meth c P Q J h k n (oF m (pc + 1) Ls (.long (x / w) :: S))) : oWP b p l e R s m args below meth c P Q J h k n (oF m pc Ls (.long w :: .long x :: S)) := K.step fun _ A _ => XT.ldiv A C.1 rfl (hb C.2.1 hd) rfl hy
theorem K_irem (C : oCx p s m meth c P Z y B ml rt) {x w : Int32} (hd : decode B pc = .ok (.irem, 1)) (hy : w ≠ 0) (K : oWP b p l e R s m args below meth c P Q J h k n (oF m (pc + 1) Ls (.int (x % w) :: S))) : oWP b p l e R s m args below meth c P Q J h k n (oF m pc Ls (.int w :: .int x :: S)) := K.stepX fun _ T _ _ _ X _ hr => iremM X C.1 rfl (hb C.2.1 hd) rfl hy hr
theorem K_lrem (C : oCx p s m meth c P Z y B ml rt) {x w : Int64} (hd : decode B pc = .ok (.lrem, 1)) (hy : w ≠ 0) (K : oWP b p l e R s m args below meth c P Q J h k n (oF m (pc + 1) Ls (.long (x - (x / w) * w) :: S))) : oWP b p l e R s m args below meth c P Q J h k n (oF m pc Ls (.long w :: .long x :: S)) := K.step fun _ A _ => XT.lrem A C.1 rfl (hb C.2.1 hd) rfl hy
theorem K_lshl (C : oCx p s m meth c P Z y B ml rt) {x : Int64} {w : Int32} (hd : decode B pc = .ok (.lshl, 1)) (K : oWP b p l e R s m args below meth c P Q J h k n (oF m (pc + 1) Ls (.long (x <<< (w.toInt64 &&& 63)) :: S))) : oWP b p l e R s m args below meth c P Q J h k n (oF m pc Ls (.int w :: .long x :: S)) := K.step fun _ A _ => XT.lshl A C.1 rfl (hb C.2.1 hd) rfl
theorem K_lshr (C : oCx p s m meth c P Z y B ml rt) {x : Int64} {w : Int32} (hd : decode B pc = .ok (.lshr, 1)) (K : oWP b p l e R s m args below meth c P Q J h k n (oF m (pc + 1) Ls (.long (x >>> (w.toInt64 &&& 63)) :: S))) : oWP b p l e R s m args below meth c P Q J h k n (oF m pc Ls (.int w :: .long x :: S)) := K.step fun _ A _ => XT.lshr A C.1 rfl (hb C.2.1 hd) rfl
theorem K_lushr (C : oCx p s m meth c P Z y B ml rt) {x : Int64} {w : Int32} (hd : decode B pc = .ok (.lushr, 1)) (K : oWP b p l e R s m args below meth c P Q J h k n (oF m (pc + 1) Ls (.long (XT.ushrL x w) :: S))) : oWP b p l e R s m args below meth c P Q J h k n (oF m pc Ls (.int w :: .long x :: S)) := K.step fun _ A _ => XT.lushr A C.1 rfl (hb C.2.1 hd) rfl
theorem K_ineg (C : oCx p s m meth c P Z y B ml rt) {x : Int32} (hd : decode B pc = .ok (.ineg, 1)) (K : oWP b p l e R s m args below meth c P Q J h k n (oF m (pc + 1) Ls (.int (-x) :: S))) : oWP b p l e R s m args below meth c P Q J h k n (oF m pc Ls (.int x :: S)) := K.step fun _ A _ => XS.ineg A C.1 rfl (hb C.2.1 hd) rfl
theorem K_lneg (C : oCx p s m meth c P Z y B ml rt) {x : Int64} (hd : decode B pc = .ok (.lneg, 1)) (K : oWP b p l e R s m args below meth c P Q J h k n (oF m (pc + 1) Ls (.long (-x) :: S))) : oWP b p l e R s m args below meth c P Q J h k n (oF m pc Ls (.long x :: S)) := K.step fun _ A _ => XT.lneg A C.1 rfl (hb C.2.1 hd) rfl
theorem K_i2l (C : oCx p s m meth c P Z y B ml rt) {x : Int32} (hd : decode B pc = .ok (.i2l, 1)) (K : oWP b p l e R s m args below meth c P Q J h k n (oF m (pc + 1) Ls (.long (x.toInt64) :: S))) : oWP b p l e R s m args below meth c P Q J h k n (oF m pc Ls (.int x :: S)) := K.step fun _ A _ => XT.i2l A C.1 rfl (hb C.2.1 hd) rfl
theorem K_l2i (C : oCx p s m meth c P Z y B ml rt) {x : Int64} (hd : decode B pc = .ok (.l2i, 1)) (K : oWP b p l e R s m args below meth c P Q J h k n (oF m (pc + 1) Ls (.int (x.toInt32) :: S))) : oWP b p l e R s m args below meth c P Q J h k n (oF m pc Ls (.long x :: S)) := K.step fun _ A _ => XT.l2i A C.1 rfl (hb C.2.1 hd) rfl
theorem K_i2b (C : oCx p s m meth c P Z y B ml rt) {x : Int32} (hd : decode B pc = .ok (.i2b, 1)) (K : oWP b p l e R s m args below meth c P Q J h k n (oF m (pc + 1) Ls (.int (x.toInt8.toInt32) :: S))) : oWP b p l e R s m args below meth c P Q J h k n (oF m pc Ls (.int x :: S)) := K.step fun _ A _ => XT.i2b A C.1 rfl (hb C.2.1 hd) rfl
theorem K_i2c (C : oCx p s m meth c P Z y B ml rt) {x : Int32} (hd : decode B pc = .ok (.i2c, 1)) (K : oWP b p l e R s m args below meth c P Q J h k n (oF m (pc + 1) Ls (.int (x.toUInt32.toUInt16.toUInt32.toInt32) :: S))) : oWP b p l e R s m args below meth c P Q J h k n (oF m pc Ls (.int x :: S)) := K.step fun _ A _ => XT.i2c A C.1 rfl (hb C.2.1 hd) rfl
theorem K_i2s (C : oCx p s m meth c P Z y B ml rt) {x : Int32} (hd : decode B pc = .ok (.i2s, 1)) (K : oWP b p l e R s m args below meth c P Q J h k n (oF m (pc + 1) Ls (.int (x.toInt16.toInt32) :: S))) : oWP b p l e R s m args below meth c P Q J h k n (oF m pc Ls (.int x :: S)) := K.step fun _ A _ => XT.i2s A C.1 rfl (hb C.2.1 hd) rfl
theorem K_lcmp (C : oCx p s m meth c P Z y B ml rt) {x w : Int64} (hd : decode B pc = .ok (.lcmp, 1)) (K : oWP b p l e R s m args below meth c P Q J h k n (oF m (pc + 1) Ls (.int (XT.cmpL x w) :: S))) : oWP b p l e R s m args below meth c P Q J h k n (oF m pc Ls (.long w :: .long x :: S)) := K.step fun _ A _ => XT.lcmp A C.1 rfl (hb C.2.1 hd) rfl
theorem K_ret (C : oCx p s m meth c P Z y B ml rt) {v : Option Value} {g : JFrame} (hv : rt = none → v = none) (hk : k ≤ R.cells) (hn : n ≤ R.slots) (hQ : ∀ vm, J vm → Q v h vm)
    (st : ∀ s' T locs ck cn, Stand p l e R s' m args below meth c T locs ck cn → ∀ fs, (∀ (f : JFrame) (acts : List Action), f.method = m → f.locked = none → f.entered = [] → (doReturn e (T.setTop f) acts v).1 = T.setFrames fs) → Steps p.tables e below (T.setTop g) (T.setFrames fs)) : oWP b p l e R s m args below meth c P Q J h k n g := fun T hT => by
  obtain ⟨vm0, k0, locs, ck, cn, X, eT, N, q1, q2, hS, hk0, hbv, hJ⟩ := hT
  obtain ⟨fs, hr, hrun, hended, hW, hsame⟩ := X.leave (v := v) (by rw [C.hrt]; exact hv) C.locks
  obtain ⟨r1, r2, r3⟩ := hS.ended (U := T.setFrames fs) hW (by show k0 ≤ T.heap.size; rw [eT]; exact hk0) hsame
  have hs3 := r3.mono (Nat.le_trans q1 hk) (Nat.le_trans q2 hn)
  refine ⟨_, _, st _ T _ _ _ X fs hr, hrun, hended, _, _, rfl, ⟨?_, N⟩, fun hb => ⟨⟨_, rfl⟩, ?_, hs3⟩, ⟨_, rfl⟩, r1, r2, hs3⟩
  · show Q v T.heap T.vm
    rw [eT]; exact hQ _ (hJ.2 (s.setVm vm0) _ hJ.1 X.warmed)
  · have hb' := hbv hb
    subst hb'
    exact hW
theorem K_ireturn {t : FieldType} (C : oCx p s m meth c P Z y B ml (some t)) {z z' : Int32} (hd : decode B pc = .ok (.ireturn, 1)) (ht : t = .int ∨ t = .boolean ∨ t = .byte ∨ t = .char ∨ t = .short) (hz : nar t z = z') (hk : k ≤ R.cells) (hn : n ≤ R.slots) (hQ : ∀ vm, J vm → Q (some (.int z')) h vm) : oWP b p l e R s m args below meth c P Q J h k n (oF m pc Ls (.int z :: S)) := by
  subst hz
  refine K_ret C (v := some (.int (nar t z))) (fun q => nomatch q) hk hn hQ fun _ T locs ck cn X fs hr => ?_
  rcases ht with rfl | ht
  · exact retOut X C.1 C.hrt rfl (Or.inl ⟨rfl, Or.inl rfl, z, rfl⟩) (hb C.2.1 hd) hr
  · exact retN X C.1 C.hrt ht (hb C.2.1 hd) hr
theorem K_areturn {t : FieldType} (C : oCx p s m meth c P Z y B ml (some t)) {w : Value} (hd : decode B pc = .ok (.areturn, 1)) (ht : t.isReference = true) (hw : w.isRef = true) (hnw : narrow t w = w) (hk : k ≤ R.cells) (hn : n ≤ R.slots) (hQ : ∀ vm, J vm → Q (some w) h vm) : oWP b p l e R s m args below meth c P Q J h k n (oF m pc Ls (w :: S)) :=
  K_ret C (fun q => nomatch q) hk hn hQ fun _ T locs ck cn X fs hr => retOut X C.1 C.hrt hnw (Or.inr (Or.inr (Or.inr (Or.inr ⟨rfl, ht, hw⟩)))) (hb C.2.1 hd) hr
theorem K_lreturn (C : oCx p s m meth c P Z y B ml (some .long)) {w : Int64} (hd : decode B pc = .ok (.lreturn, 1)) (hk : k ≤ R.cells) (hn : n ≤ R.slots) (hQ : ∀ vm, J vm → Q (some (.long w)) h vm) : oWP b p l e R s m args below meth c P Q J h k n (oF m pc Ls (.long w :: S)) :=
  K_ret C (fun q => nomatch q) hk hn hQ fun _ T locs ck cn X fs hr => retOut X C.1 C.hrt rfl (Or.inr (Or.inl ⟨rfl, rfl, w, rfl⟩)) (hb C.2.1 hd) hr
theorem K_return (C : oCx p s m meth c P Z y B ml none) (hd : decode B pc = .ok (.return_, 1)) (hk : k ≤ R.cells) (hn : n ≤ R.slots) (hQ : ∀ vm, J vm → Q none h vm) : oWP b p l e R s m args below meth c P Q J h k n (oF m pc Ls []) :=
  K_ret C (fun _ => rfl) hk hn hQ fun _ T locs ck cn X fs hr => X.returnOut C.1 C.hrt (hb C.2.1 hd) hr
theorem K_ldcI (C : oCx p s m meth c P Z y B ml rt) {idx : Nat} {v : Int32} (w : (Jvm.Cond.constant y.cls idx v).before a0 Z = true) (hd : decode B pc = .ok (.ldc idx, 2)) (K : oWP b p l e R s m args below meth c P Q J h k n (oF m (pc + 2) Ls (.int v :: S))) : oWP b p l e R s m args below meth c P Q J h k n (oF m pc Ls S) := K.law C fun _ C T _ _ _ X eT => ⟨T, X, eT, X.ldcInt C.1 C.own (mvT C.hZ w) (g := oF m pc Ls S) rfl (hb C.2.1 hd)⟩
theorem K_ldcwI (C : oCx p s m meth c P Z y B ml rt) {idx : Nat} {v : Int32} (w : (Jvm.Cond.constant y.cls idx v).before a0 Z = true) (hd : decode B pc = .ok (.ldc_w idx, 3)) (K : oWP b p l e R s m args below meth c P Q J h k n (oF m (pc + 3) Ls (.int v :: S))) : oWP b p l e R s m args below meth c P Q J h k n (oF m pc Ls S) := K.law C fun _ C T _ _ _ X eT => ⟨T, X, eT, X.ldcwInt C.1 C.own (mvT C.hZ w) (g := oF m pc Ls S) rfl (hb C.2.1 hd)⟩
theorem K_ldc2J (C : oCx p s m meth c P Z y B ml rt) {idx : Nat} {v : Int64} (w : (Jvm.Cond.constantLong y.cls idx v).before a0 Z = true) (hd : decode B pc = .ok (.ldc2_w idx, 3)) (K : oWP b p l e R s m args below meth c P Q J h k n (oF m (pc + 3) Ls (.long v :: S))) : oWP b p l e R s m args below meth c P Q J h k n (oF m pc Ls S) := K.law C fun _ C T _ _ _ X eT => ⟨T, X, eT, X.ldc2Long C.1 C.own (mvT C.hZ w) (g := oF m pc Ls S) rfl (hb C.2.1 hd)⟩
theorem K_ldcS (C : oCx p s m meth c P Z y B ml rt) {idx nn : Nat} {text : String} (w : (Jvm.Cond.stringLink y.cls idx text).before a0 Z = true) (wS : ∀ a ∈ Bundle.stringAtoms, a.before a0 Z = true) (hd : decode B pc = .ok (.ldc idx, 2)) (hnn : 4 * text.toList.length ≤ nn) (hbig : nn ≤ 536870912) (hk : k + 2 ≤ R.cells) (hn : n + (nn + 4) ≤ R.slots) (K : ∀ a h', Ext h h' → oWP true p l e R s m args below meth c P Q oT h' (k + 2) (n + (nn + 4)) (oF m (pc + 2) Ls (.ref a :: S))) : oWP true p l e R s m args below meth c P Q oT h k n (oF m pc Ls S) := fun T hT => by
  obtain ⟨vm0, k0, locs, ck, cn, X, eT, N, q1, q2, hS, hk0, hbv, hJ⟩ := hT
  have C' := C.rebase hS
  obtain ⟨a, T', h', k1, X', e', E, hS1, hk1, -, -, st⟩ := ldcS X C.1 C'.hZ C'.own w wS eT hS hk0 (g := oF m pc Ls S) rfl (hb C.2.1 hd) hnn hbig (by omega) (by omega)
  obtain ⟨u, o, g1, g2⟩ := K a h' E T' ⟨_, k1, locs, _, _, X', e', N, by omega, by omega, hS1, hk1, (fun q => nomatch q), trivial, oTs⟩
  exact ⟨u, o, st u g1, g2⟩
theorem K_ldcwS (C : oCx p s m meth c P Z y B ml rt) {idx nn : Nat} {text : String} (w : (Jvm.Cond.stringLink y.cls idx text).before a0 Z = true) (wS : ∀ a ∈ Bundle.stringAtoms, a.before a0 Z = true) (hd : decode B pc = .ok (.ldc_w idx, 3)) (hnn : 4 * text.toList.length ≤ nn) (hbig : nn ≤ 536870912) (hk : k + 2 ≤ R.cells) (hn : n + (nn + 4) ≤ R.slots) (K : ∀ a h', Ext h h' → oWP true p l e R s m args below meth c P Q oT h' (k + 2) (n + (nn + 4)) (oF m (pc + 3) Ls (.ref a :: S))) : oWP true p l e R s m args below meth c P Q oT h k n (oF m pc Ls S) := fun T hT => by
  obtain ⟨vm0, k0, locs, ck, cn, X, eT, N, q1, q2, hS, hk0, hbv, hJ⟩ := hT
  have C' := C.rebase hS
  obtain ⟨a, T', h', k1, X', e', E, hS1, hk1, -, -, st⟩ := ldcSW X C.1 C'.hZ C'.own w wS eT hS hk0 (g := oF m pc Ls S) rfl (hb C.2.1 hd) hnn hbig (by omega) (by omega)
  obtain ⟨u, o, g1, g2⟩ := K a h' E T' ⟨_, k1, locs, _, _, X', e', N, by omega, by omega, hS1, hk1, (fun q => nomatch q), trivial, oTs⟩
  exact ⟨u, o, st u g1, g2⟩
theorem K_getF (C : oCx p s m meth c P Z y B ml rt) {R0 O f d : String} {idx : Nat} {a : Addr} {v : Value} (w : (Jvm.Cond.fieldLink y.cls idx R0 f d).before a0 Z = true) (via : Via Z R0 O f d) (F : Fld Z h a O f d v) (hd : decode B pc = .ok (.getfield idx, 3)) (K : oWP b p l e R s m args below meth c P Q J h k n (oF m (pc + 3) Ls (v :: S))) : oWP b p l e R s m args below meth c P Q J h k n (oF m pc Ls (.ref a :: S)) := K.law C fun _ C T _ _ _ X eT => getF X C.1 C.hZ C.own (host := "") (Or.inl w) via eT F (g := oF m pc Ls (.ref a :: S)) rfl rfl (hb C.2.1 hd)
theorem K_getS (C : oCx p s m meth c P Z y B ml rt) {R0 O f d : String} {idx : Nat} {v : Value} (w : (Jvm.Cond.fieldLink y.cls idx R0 f d).before a0 Z = true) (via : Via Z R0 O f d) (F : Sta Z Z.heap O f d v) (hd : decode B pc = .ok (.getstatic idx, 3)) (K : oWP b p l e R s m args below meth c P Q J h k n (oF m (pc + 3) Ls (v :: S))) : oWP b p l e R s m args below meth c P Q J h k n (oF m pc Ls S) := K_old C fun hE _ _ => K.law C fun _ C T _ _ _ X eT => getS2 X C.1 C.hZ C.own (host := "") (Or.inl w) via eT (F.ext hE) (g := oF m pc Ls S) rfl (hb C.2.1 hd)
theorem K_putF (C : oCx p s m meth c P Z y B ml rt) {R0 O f d Cn : String} {idx kk : Nat} {ty : FieldType} {a : Addr} {v old : Value} (w : (Jvm.Cond.fieldLink y.cls idx R0 f d).before a0 Z = true) (via : Via Z R0 O f d) (F : Fld Z h a O f d old) (E : Exa Z h a Cn) (L : (Jvm.Cond.lays Cn O f d).before a0 Z = true ∨ ((Jvm.Cond.laysFinal Cn O f d).before a0 Z = true ∧ y.cls = O ∧ y.name = "<init>")) (wi : (Jvm.Cond.instantiable Cn kk).before a0 Z = true)
    (hty : parseFieldDescriptor d = some ty) (hnv : narrow ty v = v) (hf : fits ty v = true) (hP : P a) (hd : decode B pc = .ok (.putfield idx, 3)) (K : ∀ h', Wr h h' a (RoadKit.slotOf Z O f d) v → oWP b p l e R s m args below meth c P Q J h' k n (oF m (pc + 3) Ls S)) : oWP b p l e R s m args below meth c P Q J h k n (oF m pc Ls (v :: .ref a :: S)) := fun T hT => by
  obtain ⟨vm0, k0, locs, ck, cn, X, eT, N, q1, q2, hS, hk0, hbv, hJ⟩ := hT
  have C' := C.rebase hS
  obtain ⟨T', h', X', e', Wr1, st⟩ := putF X C.1 C'.hZ C'.own (host := "") (Or.inl w) via eT F E (L.imp id fun q => ⟨q.1, q.2.1, C.nm.trans q.2.2⟩) wi hty hnv hf (g := oF m pc Ls (v :: .ref a :: S)) rfl rfl (hb C.2.1 hd)
  obtain ⟨u, o, g1, g2⟩ := K h' Wr1 T' ⟨vm0, k0, _, ck, cn, X', e', N.snoc hP, q1, q2, hS, by rw [Wr1.size]; exact hk0, hbv, hJ⟩
  exact ⟨u, o, st u g1, g2⟩
theorem K_getFN (C : oCx p s m meth c P Z y B ml rt) {R0 O f d : String} {host : String} {idx : Nat} {a : Addr} {v : Value} (w : (Jvm.Cond.fieldLinkNest y.cls idx R0 f d host).before a0 Z = true) (via : Via Z R0 O f d) (F : Fld Z h a O f d v) (hd : decode B pc = .ok (.getfield idx, 3)) (K : oWP b p l e R s m args below meth c P Q J h k n (oF m (pc + 3) Ls (v :: S))) : oWP b p l e R s m args below meth c P Q J h k n (oF m pc Ls (.ref a :: S)) := K.law C fun _ C T _ _ _ X eT => getF X C.1 C.hZ C.own (Or.inr w) via eT F (g := oF m pc Ls (.ref a :: S)) rfl rfl (hb C.2.1 hd)
theorem K_getSN (C : oCx p s m meth c P Z y B ml rt) {R0 O f d : String} {host : String} {idx : Nat} {v : Value} (w : (Jvm.Cond.fieldLinkNest y.cls idx R0 f d host).before a0 Z = true) (via : Via Z R0 O f d) (F : Sta Z Z.heap O f d v) (hd : decode B pc = .ok (.getstatic idx, 3)) (K : oWP b p l e R s m args below meth c P Q J h k n (oF m (pc + 3) Ls (v :: S))) : oWP b p l e R s m args below meth c P Q J h k n (oF m pc Ls S) := K_old C fun hE _ _ => K.law C fun _ C T _ _ _ X eT => getS2 X C.1 C.hZ C.own (Or.inr w) via eT (F.ext hE) (g := oF m pc Ls S) rfl (hb C.2.1 hd)
theorem K_putFN (C : oCx p s m meth c P Z y B ml rt) {R0 O f d Cn : String} {host : String} {idx kk : Nat} {ty : FieldType} {a : Addr} {v old : Value} (w : (Jvm.Cond.fieldLinkNest y.cls idx R0 f d host).before a0 Z = true) (via : Via Z R0 O f d) (F : Fld Z h a O f d old) (E : Exa Z h a Cn) (L : (Jvm.Cond.lays Cn O f d).before a0 Z = true ∨ ((Jvm.Cond.laysFinal Cn O f d).before a0 Z = true ∧ y.cls = O ∧ y.name = "<init>")) (wi : (Jvm.Cond.instantiable Cn kk).before a0 Z = true)
    (hty : parseFieldDescriptor d = some ty) (hnv : narrow ty v = v) (hf : fits ty v = true) (hP : P a) (hd : decode B pc = .ok (.putfield idx, 3)) (K : ∀ h', Wr h h' a (RoadKit.slotOf Z O f d) v → oWP b p l e R s m args below meth c P Q J h' k n (oF m (pc + 3) Ls S)) : oWP b p l e R s m args below meth c P Q J h k n (oF m pc Ls (v :: .ref a :: S)) := fun T hT => by
  obtain ⟨vm0, k0, locs, ck, cn, X, eT, N, q1, q2, hS, hk0, hbv, hJ⟩ := hT
  have C' := C.rebase hS
  obtain ⟨T', h', X', e', Wr1, st⟩ := putF X C.1 C'.hZ C'.own (Or.inr w) via eT F E (L.imp id fun q => ⟨q.1, q.2.1, C.nm.trans q.2.2⟩) wi hty hnv hf (g := oF m pc Ls (v :: .ref a :: S)) rfl rfl (hb C.2.1 hd)
  obtain ⟨u, o, g1, g2⟩ := K h' Wr1 T' ⟨vm0, k0, _, ck, cn, X', e', N.snoc hP, q1, q2, hS, by rw [Wr1.size]; exact hk0, hbv, hJ⟩
  exact ⟨u, o, st u g1, g2⟩
theorem K_new (C : oCx p s m meth c P Z y B ml rt) {Cn : String} {idx sz : Nat} (w : (Jvm.Cond.classLink y.cls idx Cn).before a0 Z = true) (wi : (Jvm.Cond.instantiable Cn sz).before a0 Z = true) (wz : (Jvm.Cond.initialized Cn).before a0 Z = true) (hd : decode B pc = .ok (.new idx, 3)) (hk : k + 1 ≤ R.cells) (hn : n + sz ≤ R.slots)
    (K : ∀ h' a, a = h.size → P a → Ext h h' → Exa Z h' a Cn → (∀ {O nm d : String} {ty : FieldType}, Laid Z a0 Cn O nm d → parseFieldDescriptor d = some ty → Fld Z h' a O nm d (defaultValue ty)) → oWP b p l e R s m args below meth c P Q J h' (k + 1) (n + sz) (oF m (pc + 3) Ls (.ref a :: S))) : oWP b p l e R s m args below meth c P Q J h k n (oF m pc Ls S) := fun T hT => by
  have hO := oSd.old C hT
  obtain ⟨vm0, k0, locs, ck, cn, X, eT, N, q1, q2, hS, hk0, hbv, hJ⟩ := hT
  have C' := C.rebase hS
  obtain ⟨T', h', X', e', E, A, D, -, st⟩ := newO X C.1 C'.hZ C'.own w wi wz eT (g := oF m pc Ls S) rfl (hb C.2.1 hd) (by omega) (by omega)
  obtain ⟨u, o, g1, g2⟩ := K h' h.size rfl (C.new _ hO.2.1) E A D T' ⟨vm0, k0, locs, _, _, X', e', N, by omega, by omega, hS, Nat.le_trans hk0 E.1, hbv, hJ⟩
  exact ⟨u, o, st u g1, g2⟩
theorem K_initO (C : oCx p s m meth c P Z y B ml rt) {idx : Nat} {a : Addr} (w1 : (Jvm.Cond.methodLink y.cls idx Lib.objectInit).before a0 Z = true) (w2 : (Jvm.Cond.instanceMethod Lib.objectInit).before a0 Z = true) (w3 : (Jvm.Cond.code Lib.objectInit ⟨#[0xb1]⟩ 1 none).before a0 Z = true) (hd : decode B pc = .ok (.invokespecial idx, 3)) (hml : Ls.length = ml) (hf : 1 ≤ R.frames) (hl : (S.map fun v => v.category).sum + 12 ≤ R.locals) (K : oWP b p l e R s m args below meth c P Q J h k n (oF m (pc + 3) Ls S)) : oWP b p l e R s m args below meth c P Q J h k n (oF m pc Ls (.ref a :: S)) :=
  K.law C fun _ C T _ _ _ X eT => initO X C.1 C.hZ C.own w1 w2 w3 eT (g := oF m pc Ls (.ref a :: S)) rfl (by rw [C.hml]; exact hml) rfl (hb C.2.1 hd) hf (W := (S.map fun v => v.category).sum) (by show 2 * 0 + _ ≤ _; exact Nat.le_of_eq (Nat.zero_add _)) hl
theorem oBackW {s' : State} {z : MethodName} {B' : ByteArray} {ml' len W : Nat} {rt' : Option FieldType} {rm : Room} {as' : Array Value} {P' : Addr → Prop} {J' : Vm → Prop} {Q' : Option Value → Heap → Vm → Prop}
    (M : oMeetsW l Z z B' ml' rt' rm as' h P' J' Q') (hE : Ext Z.heap h) (hZ : Z.Warmed39 s'.vm) (wc : (Jvm.Cond.code z B' ml' rt').before a0 Z = true) (wz : (Jvm.Cond.initialized z.cls).before a0 Z = true) (hf : rm.frames + 1 ≤ R.frames) (hl : W + (ml' + 11) + rm.locals ≤ R.locals) :
    BackS l R p e below s' args z len W (fun A a => a = as' ∧ A.U.heap = h ∧ A.cells + rm.cells ≤ R.cells ∧ A.slots + rm.slots ≤ R.slots ∧ J' A.U.vm)
      (fun A _ v B => ∃ L, (Q' v B.U.heap B.U.vm ∧ oAl P' L ∧ oKp P' h B.U.heap) ∧ B.locs = A.locs ++ L ∧ B.cells = A.cells + rm.cells ∧ B.slots = A.slots + rm.slots) :=
  BackS.of_freeW (bytes := B') (maxL := ml') (ret := rt') (E := fun _ _ o t L k n => k = rm.cells ∧ n = rm.slots ∧ ∃ v, o = .returned v ∧ (Q' v t.heap t.vm ∧ oAl P' L ∧ oKp P' h t.heap)) (M hE []) hf hl
    (fun m meth c A a Y hp => have hU : Z.Warmed39 A.U.vm := wtrans hZ Y.warmed
      ⟨by show (Jvm.Cond.and _ .tt).before a A.U = true; rw [Cond.before_and, mv hU wc]; rfl, mv hU wc, mv hU wz, hp.2.2.1, hp.2.2.2.1⟩)
    (fun m meth c A a g mk Y hp => ⟨hp.1, wtrans hZ Y.warmed, hp.2.1, hp.2.2.2.2⟩) (fun _ _ _ _ _ _ _ _ _ => trivial)
    (fun _ _ _ _ ⟨v, L, h1, h2, h3⟩ => ⟨L, _, _, h3, rfl, rfl, v, h1, h2⟩)
    (fun m meth c A a g mk v t L k n Y hp _ _ ⟨e1, e2, v', e3, e4⟩ => by cases e3; subst e1 e2; exact ⟨L, e4, rfl, rfl, rfl⟩)
theorem K_static (C : oCx p s m meth c P Z y B ml rt) {idx : Nat} {z : MethodName} {B' : ByteArray} {ml' : Nat} {rt' : Option FieldType} {rm : Room} {as' : Array Value} {P' : Addr → Prop} {Q' : Option Value → Heap → Prop} {argsL rest : List Value} {ps : List FieldType} {rr : Option FieldType} (M : oMeets l Z z B' ml' rt' rm as' h P' Q') (w1 : (Jvm.Cond.methodLink y.cls idx z).before a0 Z = true) (w2 : (Jvm.Cond.static z).before a0 Z = true) (w3 : (Jvm.Cond.initialized z.cls).before a0 Z = true) (w4 : (Jvm.Cond.code z B' ml' rt').before a0 Z = true) (hy : z.cls ≠ "java/lang/invoke/MethodHandle" ∧ z.cls ≠ "java/lang/invoke/VarHandle") (hpd : parseMethodDescriptor z.desc = some ⟨ps, rr⟩) (hd : decode B pc = .ok (.invokestatic idx, 3)) (hS : S = argsL.reverse ++ rest) (hlen : argsL.length = ps.length) (ha : argsL.toArray = as') (hml : Ls.length = ml) (hP : ∀ a, s.heap.size ≤ h.size → P' a → P a) (hf : rm.frames + 1 ≤ R.frames) (hl : (rest.map fun v => v.category).sum + (ml' + 11) + rm.locals ≤ R.locals) (hk : k + rm.cells ≤ R.cells) (hn : n + rm.slots ≤ R.slots)
    (K : ∀ v h', Q' v h' → oKp P' h h' → oWP b p l e R s m args below meth c P Q J h' (k + rm.cells) (n + rm.slots) (oF m (pc + 3) Ls (v.toList ++ rest))) : oWP b p l e R s m args below meth c P Q J h k n (oF m pc Ls S) := fun T hT => by
  obtain ⟨hE, hle, -⟩ := oSd.old C hT
  obtain ⟨vm0, k0, locs, ck, cn, X, eT, N, q1, q2, hSi, hk0, hbv, hJ⟩ := hT
  subst hS
  have C' := C.rebase hSi
  obtain ⟨v, vm₁, ⟨T', L', k', n'⟩, -, X', ⟨Lc, ⟨hQ, hN, hK⟩, e1, e2, e3⟩, st⟩ := Jvm.LawKit.callS X C.1 (y := z) C'.own (mvT C'.hZ w1) (mvT C'.hZ w2) (mvT C'.hZ w3) (mvT C'.hZ w4) hy (backOf (W := (rest.map fun v => v.category).sum) (Q := fun v h' L => Q' v h' ∧ oAl P' L ∧ oKp P' h h') (M hE []) C'.hZ w4 w3 hf hl) (g := oF m pc Ls (argsL.reverse ++ rest)) rfl (by rw [C.hml]; exact hml) (argsL := argsL) (rest := rest) (lenOf hpd hlen) rfl (by show 2 * 0 + _ ≤ _; exact Nat.le_of_eq (Nat.zero_add _)) (hb C.2.1 hd) (fun vm₁ hw₁ => ⟨ha, eT, by show ck + _ ≤ _; omega, by show cn + _ ≤ _; omega⟩)
  dsimp only [Pt.U, Pt.locs, Pt.cells, Pt.slots] at X' e1 e2 e3 st hQ hK
  subst e1 e2 e3
  obtain ⟨u, o, g1, g2⟩ := K v T'.heap hQ hK T' ⟨vm0, k0, _, _, _, X', rfl, N.app fun q hq => hP _ hle (hN q hq), by omega, by omega, hSi, Nat.le_trans hk0 hK.1, hbv, hJ⟩
  exact ⟨u, o, st u g1, g2⟩
theorem K_special (C : oCx p s m meth c P Z y B ml rt) {idx : Nat} {z : MethodName} {B' : ByteArray} {ml' : Nat} {rm : Room} {as' : Array Value} {P' : Addr → Prop} {Q' : Option Value → Heap → Prop} {argsL rest : List Value} {ps : List FieldType} {rr : Option FieldType} (M : oMeets l Z z B' ml' none rm as' h P' Q') {a : Addr} (w1 : (Jvm.Cond.methodLink y.cls idx z).before a0 Z = true) (w2 : (Jvm.Cond.instanceMethod z).before a0 Z = true) (w3 : (Jvm.Cond.initialized z.cls).before a0 Z = true) (w4 : (Jvm.Cond.code z B' ml' none).before a0 Z = true) (hi : z.name = "<init>") (hy : z.cls ≠ "java/lang/invoke/MethodHandle" ∧ z.cls ≠ "java/lang/invoke/VarHandle") (hpd : parseMethodDescriptor z.desc = some ⟨ps, rr⟩) (hd : decode B pc = .ok (.invokespecial idx, 3)) (hS : S = argsL.reverse ++ .ref a :: rest) (hlen : argsL.length = ps.length) (ha : (.ref a :: argsL).toArray = as') (hml : Ls.length = ml) (hP : ∀ a, s.heap.size ≤ h.size → P' a → P a) (hf : rm.frames + 1 ≤ R.frames) (hl : (rest.map fun v => v.category).sum + (ml' + 11) + rm.locals ≤ R.locals) (hk : k + rm.cells ≤ R.cells) (hn : n + rm.slots ≤ R.slots)
    (K : ∀ v h', Q' v h' → oKp P' h h' → oWP b p l e R s m args below meth c P Q J h' (k + rm.cells) (n + rm.slots) (oF m (pc + 3) Ls (v.toList ++ rest))) : oWP b p l e R s m args below meth c P Q J h k n (oF m pc Ls S) := fun T hT => by
  obtain ⟨hE, hle, -⟩ := oSd.old C hT
  obtain ⟨vm0, k0, locs, ck, cn, X, eT, N, q1, q2, hSi, hk0, hbv, hJ⟩ := hT
  subst hS
  have C' := C.rebase hSi
  obtain ⟨v, vm₁, ⟨T', L', k', n'⟩, -, X', ⟨Lc, ⟨hQ, hN, hK⟩, e1, e2, e3⟩, st⟩ := X.specialBack C.1 (y := z) hi C'.own (mvT C'.hZ w1) (mvT C'.hZ w2) (mvT C'.hZ w4) hy (backOf (W := (rest.map fun v => v.category).sum) (Q := fun v h' L => Q' v h' ∧ oAl P' L ∧ oKp P' h h') (M hE []) C'.hZ w4 w3 hf hl) (g := oF m pc Ls (argsL.reverse ++ .ref a :: rest)) rfl (by rw [C.hml]; exact hml) (Steps.refl _) (a := a) (argsL := argsL) (rest := rest) (lenOf hpd hlen) rfl (by show 2 * 0 + _ ≤ _; exact Nat.le_of_eq (Nat.zero_add _)) (hb C.2.1 hd) (fun vm₁ hw₁ => ⟨ha, eT, by show ck + _ ≤ _; omega, by show cn + _ ≤ _; omega⟩)
  dsimp only [Pt.U, Pt.locs, Pt.cells, Pt.slots] at X' e1 e2 e3 st hQ hK
  subst e1 e2 e3
  obtain ⟨u, o, g1, g2⟩ := K v T'.heap hQ hK T' ⟨vm0, k0, _, _, _, X', rfl, N.app fun q hq => hP _ hle (hN q hq), by omega, by omega, hSi, Nat.le_trans hk0 hK.1, hbv, hJ⟩
  exact ⟨u, o, st.trans g1, g2⟩
theorem K_virtual (C : oCx p s m meth c P Z y B ml rt) {idx : Nat} {z z0 : MethodName} {B' : ByteArray} {ml' : Nat} {rt' : Option FieldType} {rm : Room} {as' : Array Value} {P' : Addr → Prop} {Q' : Option Value → Heap → Prop} {argsL rest : List Value} {ps : List FieldType} {rr : Option FieldType} (M : oMeets l Z z B' ml' rt' rm as' h P' Q') {a : Addr} {Cn : String} (E : Exa Z h a Cn) (w1 : (Jvm.Cond.methodLink y.cls idx z0).before a0 Z = true) (wd : (Jvm.Cond.declares z0).before a0 Z = true) (nf : ∀ s', Z.Warmed39 s'.vm → NotFace s' z0) (ws : (Jvm.Cond.selects Cn z0 z).before a0 Z = true) (w2 : (Jvm.Cond.instanceMethod z).before a0 Z = true) (w3 : (Jvm.Cond.initialized z.cls).before a0 Z = true) (w4 : (Jvm.Cond.code z B' ml' rt').before a0 Z = true) (hy : z0.cls ≠ "java/lang/invoke/MethodHandle" ∧ z0.cls ≠ "java/lang/invoke/VarHandle") (hpd : parseMethodDescriptor z0.desc = some ⟨ps, rr⟩) (hd : decode B pc = .ok (.invokevirtual idx, 3)) (hS : S = argsL.reverse ++ .ref a :: rest) (hlen : argsL.length = ps.length) (ha : (.ref a :: argsL).toArray = as') (hml : Ls.length = ml) (hP : ∀ a, s.heap.size ≤ h.size → P' a → P a) (hf : rm.frames + 1 ≤ R.frames) (hl : (rest.map fun v => v.category).sum + (ml' + 11) + rm.locals ≤ R.locals) (hk : k + rm.cells ≤ R.cells) (hn : n + rm.slots ≤ R.slots)
    (K : ∀ v h', Q' v h' → oKp P' h h' → oWP b p l e R s m args below meth c P Q J h' (k + rm.cells) (n + rm.slots) (oF m (pc + 3) Ls (v.toList ++ rest))) : oWP b p l e R s m args below meth c P Q J h k n (oF m pc Ls S) := fun T hT => by
  obtain ⟨hE, hle, -⟩ := oSd.old C hT
  obtain ⟨vm0, k0, locs, ck, cn, X, eT, N, q1, q2, hSi, hk0, hbv, hJ⟩ := hT
  subst hS
  have C' := C.rebase hSi
  obtain ⟨cq, kq, qa, qb, qc⟩ := isOf C'.hZ eT E
  obtain ⟨v, vm₁, ⟨T', L', k', n'⟩, -, X', ⟨Lc, ⟨hQ, hN, hK⟩, e1, e2, e3⟩, st⟩ := X.virtualBack C.1 (y := z0) (z := z) C'.own (mvT C'.hZ w1) (mvT C'.hZ wd) (nf _ C'.hZ) (mvT C'.hZ ws) (mvT C'.hZ w2) hy (backOf (W := (rest.map fun v => v.category).sum) (Q := fun v h' L => Q' v h' ∧ oAl P' L ∧ oKp P' h h') (M hE []) C'.hZ w4 w3 hf hl) qa qc (g := oF m pc Ls (argsL.reverse ++ .ref a :: rest)) rfl (by rw [C.hml]; exact hml) (Steps.refl _) (argsL := argsL) (rest := rest) (lenOf hpd hlen) rfl (by show 2 * 0 + _ ≤ _; exact Nat.le_of_eq (Nat.zero_add _)) (hb C.2.1 hd) (fun vm₁ hw₁ => ⟨ha, eT, by show ck + _ ≤ _; omega, by show cn + _ ≤ _; omega⟩)
  dsimp only [Pt.U, Pt.locs, Pt.cells, Pt.slots] at X' e1 e2 e3 st hQ hK
  subst e1 e2 e3
  obtain ⟨u, o, g1, g2⟩ := K v T'.heap hQ hK T' ⟨vm0, k0, _, _, _, X', rfl, N.app fun q hq => hP _ hle (hN q hq), by omega, by omega, hSi, Nat.le_trans hk0 hK.1, hbv, hJ⟩
  exact ⟨u, o, st.trans g1, g2⟩
theorem K_virtualUp (C : oCx p s m meth c P Z y B ml rt) {idx : Nat} {z z0 : MethodName} {B' : ByteArray} {ml' : Nat} {rt' : Option FieldType} {rm : Room} {as' : Array Value} {P' : Addr → Prop} {Q' : Option Value → Heap → Prop} {argsL rest : List Value} {ps : List FieldType} {rr : Option FieldType} (M : oMeets l Z z B' ml' rt' rm as' h P' Q') {a : Addr} {Cn owner : String} (E : Exa Z h a Cn) (w1 : (Jvm.Cond.methodLink y.cls idx z0).before a0 Z = true) (wsm : (Jvm.Cond.sameMethod z0.cls owner z0.name z0.desc).before a0 Z = true) (wd : (Jvm.Cond.declares ⟨owner, z0.name, z0.desc⟩).before a0 Z = true) (ws : (Jvm.Cond.selects Cn z0 z).before a0 Z = true) (w2 : (Jvm.Cond.instanceMethod z).before a0 Z = true) (w3 : (Jvm.Cond.initialized z.cls).before a0 Z = true) (w4 : (Jvm.Cond.code z B' ml' rt').before a0 Z = true) (hy : owner ≠ "java/lang/invoke/MethodHandle" ∧ owner ≠ "java/lang/invoke/VarHandle") (hpd : parseMethodDescriptor z0.desc = some ⟨ps, rr⟩) (hd : decode B pc = .ok (.invokevirtual idx, 3)) (hS : S = argsL.reverse ++ .ref a :: rest) (hlen : argsL.length = ps.length) (ha : (.ref a :: argsL).toArray = as') (hml : Ls.length = ml) (hP : ∀ a, s.heap.size ≤ h.size → P' a → P a) (hf : rm.frames + 1 ≤ R.frames) (hl : (rest.map fun v => v.category).sum + (ml' + 11) + rm.locals ≤ R.locals) (hk : k + rm.cells ≤ R.cells) (hn : n + rm.slots ≤ R.slots)
    (K : ∀ v h', Q' v h' → oKp P' h h' → oWP b p l e R s m args below meth c P Q J h' (k + rm.cells) (n + rm.slots) (oF m (pc + 3) Ls (v.toList ++ rest))) : oWP b p l e R s m args below meth c P Q J h k n (oF m pc Ls S) := fun T hT => by
  obtain ⟨hE, hle, -⟩ := oSd.old C hT
  obtain ⟨vm0, k0, locs, ck, cn, X, eT, N, q1, q2, hSi, hk0, hbv, hJ⟩ := hT
  subst hS
  have C' := C.rebase hSi
  obtain ⟨cq, kq, qa, qb, qc⟩ := isOf C'.hZ eT E
  obtain ⟨v, vm₁, ⟨T', L', k', n'⟩, -, X', ⟨Lc, ⟨hQ, hN, hK⟩, e1, e2, e3⟩, st⟩ := X.virtualBackUp C.1 (x := z0) (y := z) C'.own (mvT C'.hZ w1) (mvT C'.hZ wsm) (mvT C'.hZ wd) hy (mvT C'.hZ ws) (mvT C'.hZ w2) (backOf (W := (rest.map fun v => v.category).sum) (Q := fun v h' L => Q' v h' ∧ oAl P' L ∧ oKp P' h h') (M hE []) C'.hZ w4 w3 hf hl) qa qc (g := oF m pc Ls (argsL.reverse ++ .ref a :: rest)) rfl (by rw [C.hml]; exact hml) (Steps.refl _) (argsL := argsL) (rest := rest) (lenOf hpd hlen) rfl (by show 2 * 0 + _ ≤ _; exact Nat.le_of_eq (Nat.zero_add _)) (hb C.2.1 hd) (fun vm₁ hw₁ => ⟨ha, eT, by show ck + _ ≤ _; omega, by show cn + _ ≤ _; omega⟩)
  dsimp only [Pt.U, Pt.locs, Pt.cells, Pt.slots] at X' e1 e2 e3 st hQ hK
  subst e1 e2 e3
  obtain ⟨u, o, g1, g2⟩ := K v T'.heap hQ hK T' ⟨vm0, k0, _, _, _, X', rfl, N.app fun q hq => hP _ hle (hN q hq), by omega, by omega, hSi, Nat.le_trans hk0 hK.1, hbv, hJ⟩
  exact ⟨u, o, st.trans g1, g2⟩
theorem K_staticW (C : oCx p s m meth c P Z y B ml rt) {idx : Nat} {z : MethodName} {B' : ByteArray} {ml' : Nat} {rt' : Option FieldType} {rm : Room} {as' : Array Value} {P' : Addr → Prop} {J' : Vm → Prop} {Q' : Option Value → Heap → Vm → Prop} {argsL rest : List Value} {ps : List FieldType} {rr : Option FieldType} (M : oMeetsW l Z z B' ml' rt' rm as' h P' J' Q') (hJJ : ∀ vm, J vm → J' vm) (w1 : (Jvm.Cond.methodLink y.cls idx z).before a0 Z = true) (w2 : (Jvm.Cond.static z).before a0 Z = true) (w3 : (Jvm.Cond.initialized z.cls).before a0 Z = true) (w4 : (Jvm.Cond.code z B' ml' rt').before a0 Z = true) (hy : z.cls ≠ "java/lang/invoke/MethodHandle" ∧ z.cls ≠ "java/lang/invoke/VarHandle") (hpd : parseMethodDescriptor z.desc = some ⟨ps, rr⟩) (hd : decode B pc = .ok (.invokestatic idx, 3)) (hS : S = argsL.reverse ++ rest) (hlen : argsL.length = ps.length) (ha : argsL.toArray = as') (hml : Ls.length = ml) (hP : ∀ a, s.heap.size ≤ h.size → P' a → P a) (hf : rm.frames + 1 ≤ R.frames) (hl : (rest.map fun v => v.category).sum + (ml' + 11) + rm.locals ≤ R.locals) (hk : k + rm.cells ≤ R.cells) (hn : n + rm.slots ≤ R.slots)
    (K : ∀ v h' vm', Q' v h' vm' → oKp P' h h' → ∃ J1 : Vm → Prop, J1 vm' ∧ oJs J1 ∧ oWP true p l e R s m args below meth c P Q J1 h' (k + rm.cells) (n + rm.slots) (oF m (pc + 3) Ls (v.toList ++ rest))) : oWP true p l e R s m args below meth c P Q J h k n (oF m pc Ls S) := fun T hT => by
  obtain ⟨hE, hle, -⟩ := oSd.old C hT
  obtain ⟨vm0, k0, locs, ck, cn, X, eT, N, q1, q2, hSi, hk0, hbv, hJ⟩ := hT
  subst hS
  have C' := C.rebase hSi
  obtain ⟨v, vm₁, ⟨T', L', k', n'⟩, -, X', hS2, hgr, ⟨Lc, ⟨hQ, hN, hK⟩, e1, e2, e3⟩, st⟩ := callSS X C.1 (y := z) C'.own (mvT C'.hZ w1) (mvT C'.hZ w2) (mvT C'.hZ w3) (mvT C'.hZ w4) hy (oBackW (W := (rest.map fun v => v.category).sum) M hE C'.hZ w4 w3 hf hl) (g := oF m pc Ls (argsL.reverse ++ rest)) rfl (by rw [C.hml]; exact hml) (argsL := argsL) (rest := rest) (lenOf hpd hlen) rfl (by show 2 * 0 + _ ≤ _; exact Nat.le_of_eq (Nat.zero_add _)) (hb C.2.1 hd) (fun vm₁ hw₁ => ⟨ha, eT, by show ck + _ ≤ _; omega, by show cn + _ ≤ _; omega, hJJ _ (hJ.2 (s.setVm vm0) _ hJ.1 hw₁)⟩)
  dsimp only [Pt.U, Pt.locs, Pt.cells, Pt.slots] at X' hS2 hgr e1 e2 e3 st hQ hK
  subst e1 e2 e3
  obtain ⟨J1, j1, j2, K1⟩ := K v T'.heap T'.vm hQ hK
  obtain ⟨u, o, g1, g2⟩ := K1 T' ⟨T'.vm, T'.heap.size, _, _, _, X', rfl, N.app fun q hq => hP _ hle (hN q hq), by omega, by omega, foldS hSi (by rw [eT]; exact hk0) hS2 hgr, Nat.le_refl _, (fun q => nomatch q), j1, j2⟩
  exact ⟨u, o, st.trans g1, g2⟩
theorem K_specialW (C : oCx p s m meth c P Z y B ml rt) {idx : Nat} {z : MethodName} {B' : ByteArray} {ml' : Nat} {rm : Room} {as' : Array Value} {P' : Addr → Prop} {J' : Vm → Prop} {Q' : Option Value → Heap → Vm → Prop} {argsL rest : List Value} {ps : List FieldType} {rr : Option FieldType} (M : oMeetsW l Z z B' ml' none rm as' h P' J' Q') (hJJ : ∀ vm, J vm → J' vm) {a : Addr} (w1 : (Jvm.Cond.methodLink y.cls idx z).before a0 Z = true) (w2 : (Jvm.Cond.instanceMethod z).before a0 Z = true) (w3 : (Jvm.Cond.initialized z.cls).before a0 Z = true) (w4 : (Jvm.Cond.code z B' ml' none).before a0 Z = true) (hi : z.name = "<init>") (hy : z.cls ≠ "java/lang/invoke/MethodHandle" ∧ z.cls ≠ "java/lang/invoke/VarHandle") (hpd : parseMethodDescriptor z.desc = some ⟨ps, rr⟩) (hd : decode B pc = .ok (.invokespecial idx, 3)) (hS : S = argsL.reverse ++ .ref a :: rest) (hlen : argsL.length = ps.length) (ha : (.ref a :: argsL).toArray = as') (hml : Ls.length = ml) (hP : ∀ a, s.heap.size ≤ h.size → P' a → P a) (hf : rm.frames + 1 ≤ R.frames) (hl : (rest.map fun v => v.category).sum + (ml' + 11) + rm.locals ≤ R.locals) (hk : k + rm.cells ≤ R.cells) (hn : n + rm.slots ≤ R.slots)
    (K : ∀ v h' vm', Q' v h' vm' → oKp P' h h' → ∃ J1 : Vm → Prop, J1 vm' ∧ oJs J1 ∧ oWP true p l e R s m args below meth c P Q J1 h' (k + rm.cells) (n + rm.slots) (oF m (pc + 3) Ls (v.toList ++ rest))) : oWP true p l e R s m args below meth c P Q J h k n (oF m pc Ls S) := fun T hT => by
  obtain ⟨hE, hle, -⟩ := oSd.old C hT
  obtain ⟨vm0, k0, locs, ck, cn, X, eT, N, q1, q2, hSi, hk0, hbv, hJ⟩ := hT
  subst hS
  have C' := C.rebase hSi
  obtain ⟨v, vm₁, ⟨T', L', k', n'⟩, -, X', hS2, hgr, ⟨Lc, ⟨hQ, hN, hK⟩, e1, e2, e3⟩, st⟩ := X.specialBackS C.1 (y := z) hi C'.own (mvT C'.hZ w1) (mvT C'.hZ w2) (mvT C'.hZ w4) hy (oBackW (W := (rest.map fun v => v.category).sum) M hE C'.hZ w4 w3 hf hl) (g := oF m pc Ls (argsL.reverse ++ .ref a :: rest)) rfl (by rw [C.hml]; exact hml) (Steps.refl _) (a := a) (argsL := argsL) (rest := rest) (lenOf hpd hlen) rfl (by show 2 * 0 + _ ≤ _; exact Nat.le_of_eq (Nat.zero_add _)) (hb C.2.1 hd) (fun vm₁ hw₁ => ⟨ha, eT, by show ck + _ ≤ _; omega, by show cn + _ ≤ _; omega, hJJ _ (hJ.2 (s.setVm vm0) _ hJ.1 hw₁)⟩)
  dsimp only [Pt.U, Pt.locs, Pt.cells, Pt.slots] at X' hS2 hgr e1 e2 e3 st hQ hK
  subst e1 e2 e3
  obtain ⟨J1, j1, j2, K1⟩ := K v T'.heap T'.vm hQ hK
  obtain ⟨u, o, g1, g2⟩ := K1 T' ⟨T'.vm, T'.heap.size, _, _, _, X', rfl, N.app fun q hq => hP _ hle (hN q hq), by omega, by omega, foldS hSi (by rw [eT]; exact hk0) hS2 hgr, Nat.le_refl _, (fun q => nomatch q), j1, j2⟩
  exact ⟨u, o, st.trans g1, g2⟩
theorem K_virtualW (C : oCx p s m meth c P Z y B ml rt) {idx : Nat} {z z0 : MethodName} {B' : ByteArray} {ml' : Nat} {rt' : Option FieldType} {rm : Room} {as' : Array Value} {P' : Addr → Prop} {J' : Vm → Prop} {Q' : Option Value → Heap → Vm → Prop} {argsL rest : List Value} {ps : List FieldType} {rr : Option FieldType} (M : oMeetsW l Z z B' ml' rt' rm as' h P' J' Q') (hJJ : ∀ vm, J vm → J' vm) {a : Addr} {Cn : String} (E : Exa Z h a Cn) (w1 : (Jvm.Cond.methodLink y.cls idx z0).before a0 Z = true) (wd : (Jvm.Cond.declares z0).before a0 Z = true) (nf : ∀ s', Z.Warmed39 s'.vm → NotFace s' z0) (ws : (Jvm.Cond.selects Cn z0 z).before a0 Z = true) (w2 : (Jvm.Cond.instanceMethod z).before a0 Z = true) (w3 : (Jvm.Cond.initialized z.cls).before a0 Z = true) (w4 : (Jvm.Cond.code z B' ml' rt').before a0 Z = true) (hy : z0.cls ≠ "java/lang/invoke/MethodHandle" ∧ z0.cls ≠ "java/lang/invoke/VarHandle") (hpd : parseMethodDescriptor z0.desc = some ⟨ps, rr⟩) (hd : decode B pc = .ok (.invokevirtual idx, 3)) (hS : S = argsL.reverse ++ .ref a :: rest) (hlen : argsL.length = ps.length) (ha : (.ref a :: argsL).toArray = as') (hml : Ls.length = ml) (hP : ∀ a, s.heap.size ≤ h.size → P' a → P a) (hf : rm.frames + 1 ≤ R.frames) (hl : (rest.map fun v => v.category).sum + (ml' + 11) + rm.locals ≤ R.locals) (hk : k + rm.cells ≤ R.cells) (hn : n + rm.slots ≤ R.slots)
    (K : ∀ v h' vm', Q' v h' vm' → oKp P' h h' → ∃ J1 : Vm → Prop, J1 vm' ∧ oJs J1 ∧ oWP true p l e R s m args below meth c P Q J1 h' (k + rm.cells) (n + rm.slots) (oF m (pc + 3) Ls (v.toList ++ rest))) : oWP true p l e R s m args below meth c P Q J h k n (oF m pc Ls S) := fun T hT => by
  obtain ⟨hE, hle, -⟩ := oSd.old C hT
  obtain ⟨vm0, k0, locs, ck, cn, X, eT, N, q1, q2, hSi, hk0, hbv, hJ⟩ := hT
  subst hS
  have C' := C.rebase hSi
  obtain ⟨cq, kq, qa, qb, qc⟩ := isOf C'.hZ eT E
  obtain ⟨v, vm₁, ⟨T', L', k', n'⟩, -, X', hS2, hgr, ⟨Lc, ⟨hQ, hN, hK⟩, e1, e2, e3⟩, st⟩ := X.virtualBackS C.1 (y := z0) (z := z) C'.own (mvT C'.hZ w1) (mvT C'.hZ wd) (nf _ C'.hZ) (mvT C'.hZ ws) (mvT C'.hZ w2) hy (oBackW (W := (rest.map fun v => v.category).sum) M hE C'.hZ w4 w3 hf hl) qa qc (g := oF m pc Ls (argsL.reverse ++ .ref a :: rest)) rfl (by rw [C.hml]; exact hml) (Steps.refl _) (argsL := argsL) (rest := rest) (lenOf hpd hlen) rfl (by show 2 * 0 + _ ≤ _; exact Nat.le_of_eq (Nat.zero_add _)) (hb C.2.1 hd) (fun vm₁ hw₁ => ⟨ha, eT, by show ck + _ ≤ _; omega, by show cn + _ ≤ _; omega, hJJ _ (hJ.2 (s.setVm vm0) _ hJ.1 hw₁)⟩)
  dsimp only [Pt.U, Pt.locs, Pt.cells, Pt.slots] at X' hS2 hgr e1 e2 e3 st hQ hK
  subst e1 e2 e3
  obtain ⟨J1, j1, j2, K1⟩ := K v T'.heap T'.vm hQ hK
  obtain ⟨u, o, g1, g2⟩ := K1 T' ⟨T'.vm, T'.heap.size, _, _, _, X', rfl, N.app fun q hq => hP _ hle (hN q hq), by omega, by omega, foldS hSi (by rw [eT]; exact hk0) hS2 hgr, Nat.le_refl _, (fun q => nomatch q), j1, j2⟩
  exact ⟨u, o, st.trans g1, g2⟩
theorem K_virtualUpW (C : oCx p s m meth c P Z y B ml rt) {idx : Nat} {z z0 : MethodName} {B' : ByteArray} {ml' : Nat} {rt' : Option FieldType} {rm : Room} {as' : Array Value} {P' : Addr → Prop} {J' : Vm → Prop} {Q' : Option Value → Heap → Vm → Prop} {argsL rest : List Value} {ps : List FieldType} {rr : Option FieldType} (M : oMeetsW l Z z B' ml' rt' rm as' h P' J' Q') (hJJ : ∀ vm, J vm → J' vm) {a : Addr} {Cn owner : String} (E : Exa Z h a Cn) (w1 : (Jvm.Cond.methodLink y.cls idx z0).before a0 Z = true) (wsm : (Jvm.Cond.sameMethod z0.cls owner z0.name z0.desc).before a0 Z = true) (wd : (Jvm.Cond.declares ⟨owner, z0.name, z0.desc⟩).before a0 Z = true) (ws : (Jvm.Cond.selects Cn z0 z).before a0 Z = true) (w2 : (Jvm.Cond.instanceMethod z).before a0 Z = true) (w3 : (Jvm.Cond.initialized z.cls).before a0 Z = true) (w4 : (Jvm.Cond.code z B' ml' rt').before a0 Z = true) (hy : owner ≠ "java/lang/invoke/MethodHandle" ∧ owner ≠ "java/lang/invoke/VarHandle") (hpd : parseMethodDescriptor z0.desc = some ⟨ps, rr⟩) (hd : decode B pc = .ok (.invokevirtual idx, 3)) (hS : S = argsL.reverse ++ .ref a :: rest) (hlen : argsL.length = ps.length) (ha : (.ref a :: argsL).toArray = as') (hml : Ls.length = ml) (hP : ∀ a, s.heap.size ≤ h.size → P' a → P a) (hf : rm.frames + 1 ≤ R.frames) (hl : (rest.map fun v => v.category).sum + (ml' + 11) + rm.locals ≤ R.locals) (hk : k + rm.cells ≤ R.cells) (hn : n + rm.slots ≤ R.slots)
    (K : ∀ v h' vm', Q' v h' vm' → oKp P' h h' → ∃ J1 : Vm → Prop, J1 vm' ∧ oJs J1 ∧ oWP true p l e R s m args below meth c P Q J1 h' (k + rm.cells) (n + rm.slots) (oF m (pc + 3) Ls (v.toList ++ rest))) : oWP true p l e R s m args below meth c P Q J h k n (oF m pc Ls S) := fun T hT => by
  obtain ⟨hE, hle, -⟩ := oSd.old C hT
  obtain ⟨vm0, k0, locs, ck, cn, X, eT, N, q1, q2, hSi, hk0, hbv, hJ⟩ := hT
  subst hS
  have C' := C.rebase hSi
  obtain ⟨cq, kq, qa, qb, qc⟩ := isOf C'.hZ eT E
  obtain ⟨v, vm₁, ⟨T', L', k', n'⟩, -, X', hS2, hgr, ⟨Lc, ⟨hQ, hN, hK⟩, e1, e2, e3⟩, st⟩ := X.virtualBackUpS C.1 (x := z0) (y := z) C'.own (mvT C'.hZ w1) (mvT C'.hZ wsm) (mvT C'.hZ wd) hy (mvT C'.hZ ws) (mvT C'.hZ w2) (oBackW (W := (rest.map fun v => v.category).sum) M hE C'.hZ w4 w3 hf hl) qa qc (g := oF m pc Ls (argsL.reverse ++ .ref a :: rest)) rfl (by rw [C.hml]; exact hml) (Steps.refl _) (argsL := argsL) (rest := rest) (lenOf hpd hlen) rfl (by show 2 * 0 + _ ≤ _; exact Nat.le_of_eq (Nat.zero_add _)) (hb C.2.1 hd) (fun vm₁ hw₁ => ⟨ha, eT, by show ck + _ ≤ _; omega, by show cn + _ ≤ _; omega, hJJ _ (hJ.2 (s.setVm vm0) _ hJ.1 hw₁)⟩)
  dsimp only [Pt.U, Pt.locs, Pt.cells, Pt.slots] at X' hS2 hgr e1 e2 e3 st hQ hK
  subst e1 e2 e3
  obtain ⟨J1, j1, j2, K1⟩ := K v T'.heap T'.vm hQ hK
  obtain ⟨u, o, g1, g2⟩ := K1 T' ⟨T'.vm, T'.heap.size, _, _, _, X', rfl, N.app fun q hq => hP _ hle (hN q hq), by omega, by omega, foldS hSi (by rw [eT]; exact hk0) hS2 hgr, Nat.le_refl _, (fun q => nomatch q), j1, j2⟩
  exact ⟨u, o, st.trans g1, g2⟩
theorem oNF {Cn : String} {z : MethodName} (w : (Jvm.Cond.selects Cn z z).before a0 Z = true) : ∀ s' : State, Z.Warmed39 s'.vm → NotFace s' z := fun _ hZ => notFace_of_selects (args := #[]) (mvT hZ w)
theorem oNFs {S' : String} {z : MethodName} (w : (Jvm.Cond.superclass z.cls S').before a0 Z = true) : ∀ s' : State, Z.Warmed39 s'.vm → NotFace s' z := fun _ hZ => nf_super (args := #[]) (mvT hZ w)
theorem K_putFn (C : oCx p s m meth c P Z y B ml rt) {R0 O f d Cn : String} {idx kk : Nat} {ty : FieldType} {a : Addr} {v v' old : Value} (w : (Jvm.Cond.fieldLink y.cls idx R0 f d).before a0 Z = true) (via : Via Z R0 O f d) (F : Fld Z h a O f d old) (E : Exa Z h a Cn) (L : (Jvm.Cond.lays Cn O f d).before a0 Z = true ∨ ((Jvm.Cond.laysFinal Cn O f d).before a0 Z = true ∧ y.cls = O ∧ y.name = "<init>")) (wi : (Jvm.Cond.instantiable Cn kk).before a0 Z = true)
    (hty : parseFieldDescriptor d = some ty) (hnv : narrow ty v = v') (hf : fits ty v' = true) (hP : P a) (hd : decode B pc = .ok (.putfield idx, 3)) (K : ∀ h', Wr h h' a (RoadKit.slotOf Z O f d) v' → oWP b p l e R s m args below meth c P Q J h' k n (oF m (pc + 3) Ls S)) : oWP b p l e R s m args below meth c P Q J h k n (oF m pc Ls (v :: .ref a :: S)) := fun T hT => by
  obtain ⟨vm0, k0, locs, ck, cn, X, eT, N, q1, q2, hS, hk0, hbv, hJ⟩ := hT
  have C' := C.rebase hS
  obtain ⟨T', h', X', e', Wr1, st⟩ := putFN X C.1 C'.hZ C'.own w via eT F E (L.imp id fun q => ⟨q.1, q.2.1, C.nm.trans q.2.2⟩) wi hty hnv hf (g := oF m pc Ls (v :: .ref a :: S)) rfl rfl (hb C.2.1 hd)
  obtain ⟨u, o, g1, g2⟩ := K h' Wr1 T' ⟨vm0, k0, _, ck, cn, X', e', N.snoc hP, q1, q2, hS, by rw [Wr1.size]; exact hk0, hbv, hJ⟩
  exact ⟨u, o, st u g1, g2⟩
theorem K_castY (C : oCx p s m meth c P Z y B ml rt) {idx : Nat} {a : Addr} {Cn : String} (w : (Jvm.Cond.classLink y.cls idx Cn).before a0 Z = true) (F : Ins Z h a Cn true) (hd : decode B pc = .ok (.checkcast idx, 3)) (K : oWP b p l e R s m args below meth c P Q J h k n (oF m (pc + 3) Ls (.ref a :: S))) : oWP b p l e R s m args below meth c P Q J h k n (oF m pc Ls (.ref a :: S)) := K.law C fun _ C T _ _ _ X eT => castY X C.1 C.hZ C.own w eT F (g := oF m pc Ls (.ref a :: S)) rfl rfl (hb C.2.1 hd)
theorem K_instY (C : oCx p s m meth c P Z y B ml rt) {idx : Nat} {a : Addr} {Cn : String} (w : (Jvm.Cond.classLink y.cls idx Cn).before a0 Z = true) (F : Ins Z h a Cn true) (hd : decode B pc = .ok (.instanceof idx, 3)) (K : oWP b p l e R s m args below meth c P Q J h k n (oF m (pc + 3) Ls (.int 1 :: S))) : oWP b p l e R s m args below meth c P Q J h k n (oF m pc Ls (.ref a :: S)) := K.law C fun _ C T _ _ _ X eT => instY X C.1 C.hZ C.own w eT F (g := oF m pc Ls (.ref a :: S)) rfl rfl (hb C.2.1 hd)
theorem K_astoreV (C : oCx p s m meth c P Z y B ml rt) {i : Nat} {v : Value} {Ls' : List Slot} (o : Slot) (hd : decode B pc = .ok (.astore i, 2)) (hv : v.isRef = true) (hold : (Array.mk Ls)[i]? = some o) (ho : o = .unset ∨ ∃ w, o = .val w ∧ w.category = 1) (hL : (Array.mk Ls).setIfInBounds i (.val v) = Array.mk Ls') (K : oWP b p l e R s m args below meth c P Q J h k n (oF m (pc + 2) Ls' S)) : oWP b p l e R s m args below meth c P Q J h k n (oF m pc Ls (v :: S)) :=
  K_astore C hd hv (by rw [XS.store1 hold ho (XT.cat1 hv), hL]) K
theorem K_astoreNV (C : oCx p s m meth c P Z y B ml rt) {i : Fin 4} {v : Value} {Ls' : List Slot} (o : Slot) (hd : decode B pc = .ok (.astore_n i, 1)) (hv : v.isRef = true) (hold : (Array.mk Ls)[i.val]? = some o) (ho : o = .unset ∨ ∃ w, o = .val w ∧ w.category = 1) (hL : (Array.mk Ls).setIfInBounds i.val (.val v) = Array.mk Ls') (K : oWP b p l e R s m args below meth c P Q J h k n (oF m (pc + 1) Ls' S)) : oWP b p l e R s m args below meth c P Q J h k n (oF m pc Ls (v :: S)) :=
  K_astoreN C hd hv (by rw [XS.store1 hold ho (XT.cat1 hv), hL]) K
theorem K_istoreV (C : oCx p s m meth c P Z y B ml rt) {i : Nat} {v : Int32} {Ls' : List Slot} (o : Slot) (hd : decode B pc = .ok (.istore i, 2)) (hold : (Array.mk Ls)[i]? = some o) (ho : o = .unset ∨ ∃ w, o = .val w ∧ w.category = 1) (hL : (Array.mk Ls).setIfInBounds i (.val (.int v)) = Array.mk Ls') (K : oWP b p l e R s m args below meth c P Q J h k n (oF m (pc + 2) Ls' S)) : oWP b p l e R s m args below meth c P Q J h k n (oF m pc Ls (.int v :: S)) :=
  K_istore C hd (by rw [XS.store1 hold ho rfl, hL]) K
theorem K_iaload (C : oCx p s m meth c P Z y B ml rt) {a : Addr} {cl : Cell} {j : Int32} {v : Value} (A : Arr Z h a cl .int) (hj : ¬ (j < 0 ∨ cl.slots.size ≤ j.toNatClampNeg)) (hv : cl.slots[j.toNatClampNeg]? = some v) (hd : decode B pc = .ok (.iaload, 1)) (K : oWP b p l e R s m args below meth c P Q J h k n (oF m (pc + 1) Ls (v :: S))) : oWP b p l e R s m args below meth c P Q J h k n (oF m pc Ls (.int j :: .ref a :: S)) := K.law C fun _ C T _ _ _ X eT => ⟨T, X, eT, X.iaload C.1 (by rw [eT]; exact A.1) (State.isArrayOf_alike C.hZ.alike A.2.1) A.2.2 hj hv (g := oF m pc Ls (.int j :: .ref a :: S)) rfl rfl (hb C.2.1 hd)⟩
theorem K_caload (C : oCx p s m meth c P Z y B ml rt) {a : Addr} {cl : Cell} {j : Int32} {v : Value} (A : Arr Z h a cl .char) (hj : ¬ (j < 0 ∨ cl.slots.size ≤ j.toNatClampNeg)) (hv : cl.slots[j.toNatClampNeg]? = some v) (hd : decode B pc = .ok (.caload, 1)) (K : oWP b p l e R s m args below meth c P Q J h k n (oF m (pc + 1) Ls (v :: S))) : oWP b p l e R s m args below meth c P Q J h k n (oF m pc Ls (.int j :: .ref a :: S)) := K.law C fun _ C T _ _ _ X eT => ⟨T, X, eT, X.caload C.1 (by rw [eT]; exact A.1) (State.isArrayOf_alike C.hZ.alike A.2.1) A.2.2 hj hv (g := oF m pc Ls (.int j :: .ref a :: S)) rfl rfl (hb C.2.1 hd)⟩
theorem K_laload (C : oCx p s m meth c P Z y B ml rt) {a : Addr} {cl : Cell} {j : Int32} {v : Value} (A : Arr Z h a cl .long) (hj : ¬ (j < 0 ∨ cl.slots.size ≤ j.toNatClampNeg)) (hv : cl.slots[j.toNatClampNeg]? = some v) (hd : decode B pc = .ok (.laload, 1)) (K : oWP b p l e R s m args below meth c P Q J h k n (oF m (pc + 1) Ls (v :: S))) : oWP b p l e R s m args below meth c P Q J h k n (oF m pc Ls (.int j :: .ref a :: S)) := K.law C fun _ C T _ _ _ X eT => ⟨T, X, eT, X.laload C.1 (by rw [eT]; exact A.1) (State.isArrayOf_alike C.hZ.alike A.2.1) A.2.2 hj hv (g := oF m pc Ls (.int j :: .ref a :: S)) rfl rfl (hb C.2.1 hd)⟩
theorem K_baload (C : oCx p s m meth c P Z y B ml rt) {a : Addr} {cl : Cell} {j : Int32} {v : Value} (A : Arr Z h a cl .byte) (hj : ¬ (j < 0 ∨ cl.slots.size ≤ j.toNatClampNeg)) (hv : cl.slots[j.toNatClampNeg]? = some v) (hd : decode B pc = .ok (.baload, 1)) (K : oWP b p l e R s m args below meth c P Q J h k n (oF m (pc + 1) Ls (v :: S))) : oWP b p l e R s m args below meth c P Q J h k n (oF m pc Ls (.int j :: .ref a :: S)) := K.law C fun _ C T _ _ _ X eT => ⟨T, X, eT, X.baloadBytes C.1 (by rw [eT]; exact A.1) (State.isArrayOf_alike C.hZ.alike A.2.1) A.2.2 hj hv (g := oF m pc Ls (.int j :: .ref a :: S)) rfl rfl (hb C.2.1 hd)⟩
theorem K_aaload (C : oCx p s m meth c P Z y B ml rt) {a : Addr} {cl : Cell} {ty : FieldType} {j : Int32} {v : Value} (A : Arr Z h a cl ty) (hty : ty.isReference = true) (hj : ¬ (j < 0 ∨ cl.slots.size ≤ j.toNatClampNeg)) (hv : cl.slots[j.toNatClampNeg]? = some v) (hd : decode B pc = .ok (.aaload, 1)) (K : oWP b p l e R s m args below meth c P Q J h k n (oF m (pc + 1) Ls (v :: S))) : oWP b p l e R s m args below meth c P Q J h k n (oF m pc Ls (.int j :: .ref a :: S)) := K.law C fun _ C T _ _ _ X eT => ⟨T, X, eT, X.aaload C.1 (by rw [eT]; exact A.1) (State.isArrayOf_alike C.hZ.alike A.2.1) hty A.2.2 hj hv (g := oF m pc Ls (.int j :: .ref a :: S)) rfl rfl (hb C.2.1 hd)⟩
theorem K_arraylength (C : oCx p s m meth c P Z y B ml rt) {a : Addr} {cl : Cell} {ty : FieldType} (A : Arr Z h a cl ty) (hd : decode B pc = .ok (.arraylength, 1)) (K : oWP b p l e R s m args below meth c P Q J h k n (oF m (pc + 1) Ls (.int cl.slots.size.toInt32 :: S))) : oWP b p l e R s m args below meth c P Q J h k n (oF m pc Ls (.ref a :: S)) := K.law C fun _ C T _ _ _ X eT => ⟨T, X, eT, X.arraylength C.1 (by rw [eT]; exact A.1) (State.isArrayOf_alike C.hZ.alike A.2.1) (g := oF m pc Ls (.ref a :: S)) rfl rfl (hb C.2.1 hd)⟩
theorem K_newarray (C : oCx p s m meth c P Z y B ml rt) {aty : ArrayType} {z : Int32} {cap : Nat} (w : (Jvm.Cond.arrayClass (newarray.typeOf aty)).before a0 Z = true) (hd : decode B pc = .ok (.newarray aty, 2)) (hz : ¬ z < 0) (hcap : z.toNatClampNeg ≤ cap) (hb8 : cap * 8 ≤ 536870912) (hk : k + 1 ≤ R.cells) (hn : n + cap ≤ R.slots)
    (K : ∀ h' a cA, a = h.size → P a → Ext h h' → Arr Z h' a (newA cA (newarray.typeOf aty) z) (newarray.typeOf aty) → oWP b p l e R s m args below meth c P Q J h' (k + 1) (n + cap) (oF m (pc + 2) Ls (.ref a :: S))) : oWP b p l e R s m args below meth c P Q J h k n (oF m pc Ls (.int z :: S)) := fun T hT => by
  have hO := oSd.old C hT
  obtain ⟨vm0, k0, locs, ck, cn, X, eT, N, q1, q2, hS, hk0, hbv, hJ⟩ := hT
  have C' := C.rebase hS
  obtain ⟨T', h', cA, X', e', E, A, st⟩ := newP X C.1 C'.hZ w eT (g := oF m pc Ls (.int z :: S)) rfl (hb C.2.1 hd) rfl hz hcap hb8 (by omega) (by omega)
  obtain ⟨u, o, g1, g2⟩ := K h' h.size cA rfl (C.new _ hO.2.1) E A T' ⟨vm0, k0, locs, _, _, X', e', N, by omega, by omega, hS, Nat.le_trans hk0 E.1, hbv, hJ⟩
  exact ⟨u, o, st u g1, g2⟩
theorem K_iastore (C : oCx p s m meth c P Z y B ml rt) {a : Addr} {cl : Cell} {j : Int32} {x : Int32} (A : Arr Z h a cl .int) (hj : ¬ (j < 0 ∨ cl.slots.size ≤ j.toNatClampNeg)) (hP : P a) (hd : decode B pc = .ok (.iastore, 1)) (K : ∀ h', Wr h h' a j.toNatClampNeg (.int x) → oWP b p l e R s m args below meth c P Q J h' k n (oF m (pc + 1) Ls S)) : oWP b p l e R s m args below meth c P Q J h k n (oF m pc Ls (.int x :: .int j :: .ref a :: S)) := fun T hT => by
  obtain ⟨vm0, k0, locs, ck, cn, X, eT, N, q1, q2, hS, hk0, hbv, hJ⟩ := hT
  have C' := C.rebase hS
  obtain ⟨T', h', X', e', Wr1, st⟩ := stI X C.1 C'.hZ eT A hj (g := oF m pc Ls (.int x :: .int j :: .ref a :: S)) rfl rfl (hb C.2.1 hd)
  obtain ⟨u, o, g1, g2⟩ := K h' Wr1 T' ⟨vm0, k0, _, ck, cn, X', e', N.snoc hP, q1, q2, hS, by rw [Wr1.size]; exact hk0, hbv, hJ⟩
  exact ⟨u, o, st u g1, g2⟩
theorem K_castore (C : oCx p s m meth c P Z y B ml rt) {a : Addr} {cl : Cell} {j : Int32} {x : Int32} (A : Arr Z h a cl .char) (hj : ¬ (j < 0 ∨ cl.slots.size ≤ j.toNatClampNeg)) (hP : P a) (hd : decode B pc = .ok (.castore, 1)) (K : ∀ h', Wr h h' a j.toNatClampNeg (.int (nar .char x)) → oWP b p l e R s m args below meth c P Q J h' k n (oF m (pc + 1) Ls S)) : oWP b p l e R s m args below meth c P Q J h k n (oF m pc Ls (.int x :: .int j :: .ref a :: S)) := fun T hT => by
  obtain ⟨vm0, k0, locs, ck, cn, X, eT, N, q1, q2, hS, hk0, hbv, hJ⟩ := hT
  have C' := C.rebase hS
  obtain ⟨T', h', X', e', Wr1, st⟩ := stC X C.1 C'.hZ eT A hj (g := oF m pc Ls (.int x :: .int j :: .ref a :: S)) rfl rfl (hb C.2.1 hd)
  obtain ⟨u, o, g1, g2⟩ := K h' Wr1 T' ⟨vm0, k0, _, ck, cn, X', e', N.snoc hP, q1, q2, hS, by rw [Wr1.size]; exact hk0, hbv, hJ⟩
  exact ⟨u, o, st u g1, g2⟩
theorem K_bastore (C : oCx p s m meth c P Z y B ml rt) {a : Addr} {cl : Cell} {j : Int32} {x : Int32} (A : Arr Z h a cl .byte) (hj : ¬ (j < 0 ∨ cl.slots.size ≤ j.toNatClampNeg)) (hP : P a) (hd : decode B pc = .ok (.bastore, 1)) (K : ∀ h', Wr h h' a j.toNatClampNeg (.int (nar .byte x)) → oWP b p l e R s m args below meth c P Q J h' k n (oF m (pc + 1) Ls S)) : oWP b p l e R s m args below meth c P Q J h k n (oF m pc Ls (.int x :: .int j :: .ref a :: S)) := fun T hT => by
  obtain ⟨vm0, k0, locs, ck, cn, X, eT, N, q1, q2, hS, hk0, hbv, hJ⟩ := hT
  have C' := C.rebase hS
  obtain ⟨T', h', X', e', Wr1, st⟩ := stB X C.1 C'.hZ eT A hj (g := oF m pc Ls (.int x :: .int j :: .ref a :: S)) rfl rfl (hb C.2.1 hd)
  obtain ⟨u, o, g1, g2⟩ := K h' Wr1 T' ⟨vm0, k0, _, ck, cn, X', e', N.snoc hP, q1, q2, hS, by rw [Wr1.size]; exact hk0, hbv, hJ⟩
  exact ⟨u, o, st u g1, g2⟩
theorem K_zastore (C : oCx p s m meth c P Z y B ml rt) {a : Addr} {cl : Cell} {j : Int32} {x : Int32} (A : Arr Z h a cl .boolean) (hj : ¬ (j < 0 ∨ cl.slots.size ≤ j.toNatClampNeg)) (hP : P a) (hd : decode B pc = .ok (.bastore, 1)) (K : ∀ h', Wr h h' a j.toNatClampNeg (.int (nar .boolean x)) → oWP b p l e R s m args below meth c P Q J h' k n (oF m (pc + 1) Ls S)) : oWP b p l e R s m args below meth c P Q J h k n (oF m pc Ls (.int x :: .int j :: .ref a :: S)) := fun T hT => by
  obtain ⟨vm0, k0, locs, ck, cn, X, eT, N, q1, q2, hS, hk0, hbv, hJ⟩ := hT
  have C' := C.rebase hS
  obtain ⟨T', h', X', e', Wr1, st⟩ := stZ X C.1 C'.hZ eT A hj (g := oF m pc Ls (.int x :: .int j :: .ref a :: S)) rfl rfl (hb C.2.1 hd)
  obtain ⟨u, o, g1, g2⟩ := K h' Wr1 T' ⟨vm0, k0, _, ck, cn, X', e', N.snoc hP, q1, q2, hS, by rw [Wr1.size]; exact hk0, hbv, hJ⟩
  exact ⟨u, o, st u g1, g2⟩
theorem K_lastore (C : oCx p s m meth c P Z y B ml rt) {a : Addr} {cl : Cell} {j : Int32} {x : Int64} (A : Arr Z h a cl .long) (hj : ¬ (j < 0 ∨ cl.slots.size ≤ j.toNatClampNeg)) (hP : P a) (hd : decode B pc = .ok (.lastore, 1)) (K : ∀ h', Wr h h' a j.toNatClampNeg (.long x) → oWP b p l e R s m args below meth c P Q J h' k n (oF m (pc + 1) Ls S)) : oWP b p l e R s m args below meth c P Q J h k n (oF m pc Ls (.long x :: .int j :: .ref a :: S)) := fun T hT => by
  obtain ⟨vm0, k0, locs, ck, cn, X, eT, N, q1, q2, hS, hk0, hbv, hJ⟩ := hT
  have C' := C.rebase hS
  obtain ⟨T', h', X', e', Wr1, st⟩ := stJ X C.1 C'.hZ eT A hj (g := oF m pc Ls (.long x :: .int j :: .ref a :: S)) rfl rfl (hb C.2.1 hd)
  obtain ⟨u, o, g1, g2⟩ := K h' Wr1 T' ⟨vm0, k0, _, ck, cn, X', e', N.snoc hP, q1, q2, hS, by rw [Wr1.size]; exact hk0, hbv, hJ⟩
  exact ⟨u, o, st u g1, g2⟩
end OwnKit
section OwnKit3
theorem oNarB0 : nar .boolean 0 = 0 := by decide
theorem oNarB1 : nar .boolean 1 = 1 := by decide
theorem oEqI {args : Array Value} {s : State} {t : Term} {k : Int32} (h : (Jvm.Cond.eq t (.int k)).value args s none s [] = some true) : t.eval args s none [] s = some (.int k) := by
  obtain ⟨x, y, hx, hy, hk, -⟩ := cmp_v (Or.inl h)
  cases (Term.int_eval k).symm.trans hy
  cases x with
  | int z => simp [Cond.value, hx, Term.int_eval] at h; rw [hx, h]
  | _ => simp [Kin, Value.isRef] at hk
theorem oEqR {args : Array Value} {s : State} {t u : Term} {w : Addr} (h : (Jvm.Cond.eq t u).value args s none s [] = some true) (hu : u.eval args s none [] s = some (.ref w)) : t.eval args s none [] s = some (.ref w) := by
  obtain ⟨x, y, hx, hy, hk, -⟩ := cmp_v (Or.inl h)
  cases hu.symm.trans hy
  cases x with
  | ref z => simp [Cond.value, hx, hu] at h; rw [hx, h]
  | null => simp [Cond.value, hx, hu] at h
  | _ => simp [Kin, Value.isRef] at hk
/-- a mask that is one below a power of two, then a remainder: some small natural -/
theorem oRem (x : Int32) (q : Nat) (hq : 0 < q) (hq2 : q < 2 ^ 31) : ∃ i : Nat, i < q ∧ (x &&& 2147483647) % Int32.ofNat q = Int32.ofNat i := by
  have e1 : (x &&& 2147483647).toInt = x.toInt % 2 ^ 31 := Jvm.Kit.i32_mask x 2147483647 (k := 31) (by decide) (by decide)
  have hb : 0 ≤ (x &&& 2147483647).toInt := by rw [e1]; exact Int.emod_nonneg _ (by decide)
  have e2 : (Int32.ofNat q).toInt = q := Int32.toInt_ofNat_of_lt hq2
  have e3 : ((x &&& 2147483647) % Int32.ofNat q).toInt = (x &&& 2147483647).toInt % q := by
    rw [Int32.toInt_mod, e2, Int.tmod_eq_emod_of_nonneg hb]
  refine ⟨((x &&& 2147483647).toInt % q).toNat, ?_, ?_⟩
  · have := Int.emod_lt_of_pos (x &&& 2147483647).toInt (b := (q : Int)) (by omega)
    have := Int.emod_nonneg (x &&& 2147483647).toInt (b := (q : Int)) (by omega)
    omega
  · apply Int32.toInt_inj.mp
    have h1 := Int.emod_lt_of_pos (x &&& 2147483647).toInt (b := (q : Int)) (by omega)
    have h2 := Int.emod_nonneg (x &&& 2147483647).toInt (b := (q : Int)) (by omega)
    rw [e3, Int32.toInt_ofNat_of_lt (by omega)]
    omega
theorem oAnd3 (x : Int32) : x &&& 3 = 0 ∨ x &&& 3 = 1 ∨ x &&& 3 = 2 ∨ x &&& 3 = 3 := by
  have e1 : (x &&& 3).toInt = x.toInt % 2 ^ 2 := Jvm.Kit.i32_mask x 3 (k := 2) (by decide) (by decide)
  have h1 := Int.emod_lt_of_pos x.toInt (b := 4) (by decide)
  have h2 := Int.emod_nonneg x.toInt (b := 4) (by decide)
  have : x.toInt % 2 ^ 2 = 0 ∨ x.toInt % 2 ^ 2 = 1 ∨ x.toInt % 2 ^ 2 = 2 ∨ x.toInt % 2 ^ 2 = 3 := by omega
  rcases this with q | q | q | q
  · exact Or.inl (Int32.toInt_inj.mp (by rw [e1, q]; rfl))
  · exact Or.inr (Or.inl (Int32.toInt_inj.mp (by rw [e1, q]; rfl)))
  · exact Or.inr (Or.inr (Or.inl (Int32.toInt_inj.mp (by rw [e1, q]; rfl))))
  · exact Or.inr (Or.inr (Or.inr (Int32.toInt_inj.mp (by rw [e1, q]; rfl))))
theorem oExt.tr {h1 h2 h3 : Heap} (a : Ext h1 h2) (b : Ext h2 h3) : Ext h1 h3 := ⟨Nat.le_trans a.1 b.1, fun x c q => b.2 x c (a.2 x c q)⟩
theorem oEqL {args : Array Value} {s : State} {t : Term} {k : Int64} (h : (Jvm.Cond.eq t (.long k)).value args s none s [] = some true) : t.eval args s none [] s = some (.long k) := by
  obtain ⟨x, y, hx, hy, hk, -⟩ := cmp_v (Or.inl h)
  have e : (Term.long k).eval args s none [] s = some (.long k) := rfl
  cases e.symm.trans hy
  cases x with
  | long z => simp [Cond.value, hx, e] at h; rw [hx, h]
  | _ => simp [Kin, Value.isRef] at hk
theorem oLen {args : Array Value} {s : State} {t : Term} {a : Addr} {c : Cell} {ty : FieldType} {z : Int32} (ea : t.eval args s none [] s = some (.ref a)) (A : Arr s s.heap a c ty) (h : (Jvm.Cond.eq (Term.length t) (.int z)).value args s none s [] = some true) : c.slots.size = z.toInt.toNat := by
  have h1 := oEqI h
  have h2 := Arr.fin (State.Warmed39.refl s).alike A
  simp only [Term.eval, ea, h2, Option.bind_eq_bind, Option.bind_some] at h1
  split at h1
  · rename_i hlt
    cases h1
    rw [len_toInt hlt]; simp
  · cases h1
end OwnKit3
section OwnArr
variable {b : Bool} {p : Program} {l : Launch} {e : Env} {R : Room} {s : State} {m : MethodId} {args : Array Value} {below : List Frame} {meth : Method} {c : Code} {P : Addr → Prop} {Q : Option Value → Heap → Vm → Prop} {J : Vm → Prop} {h : Heap} {k n : Nat} {Z : State} {a0 : Array Value} {y : MethodName} {B : ByteArray} {ml : Nat} {rt : Option FieldType}
variable {pc : Nat} {Ls : List Slot} {S : List Value} {h' : Heap} {a : Addr} {ty : FieldType} {vs : List Value} {i : Nat} {j : Int32}
/-- the array at a holds just vs -/
def oArr (Z : State) (h : Heap) (a : Addr) (ty : FieldType) (vs : List Value) : Prop := ∃ c : Cell, Arr Z h a c ty ∧ c.slots = Array.mk vs
theorem oArr.lt (A : oArr Z h a ty vs) : a < h.size := by obtain ⟨c, A, -⟩ := A; exact A.lt
theorem oArr.ext (A : oArr Z h a ty vs) (E : Ext h h') : oArr Z h' a ty vs := by obtain ⟨c, A, e⟩ := A; exact ⟨c, A.ext E, e⟩
theorem oArr.kp (A : oArr Z h a ty vs) (K : oKp P h h') (q : ¬ P a) : oArr Z h' a ty vs := by obtain ⟨c, A, e⟩ := A; exact ⟨c, K.arr A q, e⟩
theorem oArr.other {b : Addr} {sl : Nat} {v : Value} (A : oArr Z h a ty vs) (W : Wr h h' b sl v) (q : a ≠ b) : oArr Z h' a ty vs := by obtain ⟨c, A, e⟩ := A; exact ⟨c, A.other W q, e⟩
theorem oArr.same {v : Value} (A : oArr Z h a ty vs) (W : Wr h h' a i v) : oArr Z h' a ty (vs.set i v) := by
  obtain ⟨c, A, e⟩ := A
  refine ⟨_, A.same W, ?_⟩
  show c.slots.setIfInBounds i v = _
  rw [e]; simp
theorem oArr.new {cA : ClassId} {z : Int32} (A : Arr Z h a (newA cA ty z) ty) : oArr Z h a ty (List.replicate z.toNatClampNeg (defaultValue ty)) := ⟨_, A, by
  apply Array.ext'
  simp [newA]⟩
theorem oArr.eq {vs' : List Value} (A : oArr Z h a ty vs) (q : vs = vs') : oArr Z h a ty vs' := q ▸ A
theorem oIdx {n : Nat} (hj : j.toInt = (i : Int)) (hi : i < n) : ¬ (j < 0 ∨ n ≤ j.toNatClampNeg) ∧ j.toNatClampNeg = i := by
  have e : j.toNatClampNeg = i := by simp only [Int32.toNatClampNeg, hj]; rfl
  refine ⟨fun q => ?_, e⟩
  rcases q with q | q
  · rw [Int32.lt_iff_toInt_lt, hj] at q
    have : (0 : Int32).toInt = 0 := rfl
    omega
  · omega
theorem oAt {v : Value} (hv : vs[i]? = some v) : i < vs.length := (List.getElem?_eq_some_iff.mp hv).1
theorem K_iaload2 (C : oCx p s m meth c P Z y B ml rt) {v : Value} (i : Nat) (A : oArr Z h a .int vs) (hj : j.toInt = (i : Int)) (hv : vs[i]? = some v) (hd : decode B pc = .ok (.iaload, 1)) (K : oWP b p l e R s m args below meth c P Q J h k n (oF m (pc + 1) Ls (v :: S))) : oWP b p l e R s m args below meth c P Q J h k n (oF m pc Ls (.int j :: .ref a :: S)) := by
  obtain ⟨cl, A, e⟩ := A
  have q := oIdx (n := cl.slots.size) hj (by rw [e]; exact oAt hv)
  exact K_iaload C A q.1 (by rw [q.2, e]; simpa using hv) hd K
theorem K_caload2 (C : oCx p s m meth c P Z y B ml rt) {v : Value} (i : Nat) (A : oArr Z h a .char vs) (hj : j.toInt = (i : Int)) (hv : vs[i]? = some v) (hd : decode B pc = .ok (.caload, 1)) (K : oWP b p l e R s m args below meth c P Q J h k n (oF m (pc + 1) Ls (v :: S))) : oWP b p l e R s m args below meth c P Q J h k n (oF m pc Ls (.int j :: .ref a :: S)) := by
  obtain ⟨cl, A, e⟩ := A
  have q := oIdx (n := cl.slots.size) hj (by rw [e]; exact oAt hv)
  exact K_caload C A q.1 (by rw [q.2, e]; simpa using hv) hd K
theorem K_laload2 (C : oCx p s m meth c P Z y B ml rt) {v : Value} (i : Nat) (A : oArr Z h a .long vs) (hj : j.toInt = (i : Int)) (hv : vs[i]? = some v) (hd : decode B pc = .ok (.laload, 1)) (K : oWP b p l e R s m args below meth c P Q J h k n (oF m (pc + 1) Ls (v :: S))) : oWP b p l e R s m args below meth c P Q J h k n (oF m pc Ls (.int j :: .ref a :: S)) := by
  obtain ⟨cl, A, e⟩ := A
  have q := oIdx (n := cl.slots.size) hj (by rw [e]; exact oAt hv)
  exact K_laload C A q.1 (by rw [q.2, e]; simpa using hv) hd K
theorem K_baload2 (C : oCx p s m meth c P Z y B ml rt) {v : Value} (i : Nat) (A : oArr Z h a .byte vs) (hj : j.toInt = (i : Int)) (hv : vs[i]? = some v) (hd : decode B pc = .ok (.baload, 1)) (K : oWP b p l e R s m args below meth c P Q J h k n (oF m (pc + 1) Ls (v :: S))) : oWP b p l e R s m args below meth c P Q J h k n (oF m pc Ls (.int j :: .ref a :: S)) := by
  obtain ⟨cl, A, e⟩ := A
  have q := oIdx (n := cl.slots.size) hj (by rw [e]; exact oAt hv)
  exact K_baload C A q.1 (by rw [q.2, e]; simpa using hv) hd K
theorem K_aaload2 (C : oCx p s m meth c P Z y B ml rt) {v : Value} (i : Nat) (A : oArr Z h a ty vs) (hty : ty.isReference = true) (hj : j.toInt = (i : Int)) (hv : vs[i]? = some v) (hd : decode B pc = .ok (.aaload, 1)) (K : oWP b p l e R s m args below meth c P Q J h k n (oF m (pc + 1) Ls (v :: S))) : oWP b p l e R s m args below meth c P Q J h k n (oF m pc Ls (.int j :: .ref a :: S)) := by
  obtain ⟨cl, A, e⟩ := A
  have q := oIdx (n := cl.slots.size) hj (by rw [e]; exact oAt hv)
  exact K_aaload C A hty q.1 (by rw [q.2, e]; simpa using hv) hd K
theorem K_alen2 (C : oCx p s m meth c P Z y B ml rt) (A : oArr Z h a ty vs) (hd : decode B pc = .ok (.arraylength, 1)) (K : oWP b p l e R s m args below meth c P Q J h k n (oF m (pc + 1) Ls (.int (Int32.ofNat vs.length) :: S))) : oWP b p l e R s m args below meth c P Q J h k n (oF m pc Ls (.ref a :: S)) := by
  obtain ⟨cl, A, e⟩ := A
  refine K_arraylength C A hd ?_
  rw [e]; exact K
theorem K_iastore2 (C : oCx p s m meth c P Z y B ml rt) {x : Int32} (i : Nat) (A : oArr Z h a .int vs) (hj : j.toInt = (i : Int)) (hi : i < vs.length) (hP : P a) (hd : decode B pc = .ok (.iastore, 1)) (K : ∀ h', Wr h h' a i (.int x) → oArr Z h' a .int (vs.set i (.int x)) → oWP b p l e R s m args below meth c P Q J h' k n (oF m (pc + 1) Ls S)) : oWP b p l e R s m args below meth c P Q J h k n (oF m pc Ls (.int x :: .int j :: .ref a :: S)) := by
  obtain ⟨cl, A, e⟩ := A
  have q := oIdx (n := cl.slots.size) hj (by rw [e]; exact hi)
  refine K_iastore C A q.1 hP hd fun h' Wr1 => ?_
  rw [q.2] at Wr1
  exact K h' Wr1 (oArr.same ⟨cl, A, e⟩ Wr1)
theorem K_castore2 (C : oCx p s m meth c P Z y B ml rt) {x : Int32} (i : Nat) (A : oArr Z h a .char vs) (hj : j.toInt = (i : Int)) (hi : i < vs.length) (hP : P a) (hd : decode B pc = .ok (.castore, 1)) (K : ∀ h', Wr h h' a i (.int (nar .char x)) → oArr Z h' a .char (vs.set i (.int (nar .char x))) → oWP b p l e R s m args below meth c P Q J h' k n (oF m (pc + 1) Ls S)) : oWP b p l e R s m args below meth c P Q J h k n (oF m pc Ls (.int x :: .int j :: .ref a :: S)) := by
  obtain ⟨cl, A, e⟩ := A
  have q := oIdx (n := cl.slots.size) hj (by rw [e]; exact hi)
  refine K_castore C A q.1 hP hd fun h' Wr1 => ?_
  rw [q.2] at Wr1
  exact K h' Wr1 (oArr.same ⟨cl, A, e⟩ Wr1)
theorem K_bastore2 (C : oCx p s m meth c P Z y B ml rt) {x : Int32} (i : Nat) (A : oArr Z h a .byte vs) (hj : j.toInt = (i : Int)) (hi : i < vs.length) (hP : P a) (hd : decode B pc = .ok (.bastore, 1)) (K : ∀ h', Wr h h' a i (.int (nar .byte x)) → oArr Z h' a .byte (vs.set i (.int (nar .byte x))) → oWP b p l e R s m args below meth c P Q J h' k n (oF m (pc + 1) Ls S)) : oWP b p l e R s m args below meth c P Q J h k n (oF m pc Ls (.int x :: .int j :: .ref a :: S)) := by
  obtain ⟨cl, A, e⟩ := A
  have q := oIdx (n := cl.slots.size) hj (by rw [e]; exact hi)
  refine K_bastore C A q.1 hP hd fun h' Wr1 => ?_
  rw [q.2] at Wr1
  exact K h' Wr1 (oArr.same ⟨cl, A, e⟩ Wr1)
theorem K_zastore2 (C : oCx p s m meth c P Z y B ml rt) {x : Int32} (i : Nat) (A : oArr Z h a .boolean vs) (hj : j.toInt = (i : Int)) (hi : i < vs.length) (hP : P a) (hd : decode B pc = .ok (.bastore, 1)) (K : ∀ h', Wr h h' a i (.int (nar .boolean x)) → oArr Z h' a .boolean (vs.set i (.int (nar .boolean x))) → oWP b p l e R s m args below meth c P Q J h' k n (oF m (pc + 1) Ls S)) : oWP b p l e R s m args below meth c P Q J h k n (oF m pc Ls (.int x :: .int j :: .ref a :: S)) := by
  obtain ⟨cl, A, e⟩ := A
  have q := oIdx (n := cl.slots.size) hj (by rw [e]; exact hi)
  refine K_zastore C A q.1 hP hd fun h' Wr1 => ?_
  rw [q.2] at Wr1
  exact K h' Wr1 (oArr.same ⟨cl, A, e⟩ Wr1)
theorem K_lastore2 (C : oCx p s m meth c P Z y B ml rt) {x : Int64} (i : Nat) (A : oArr Z h a .long vs) (hj : j.toInt = (i : Int)) (hi : i < vs.length) (hP : P a) (hd : decode B pc = .ok (.lastore, 1)) (K : ∀ h', Wr h h' a i (.long x) → oArr Z h' a .long (vs.set i (.long x)) → oWP b p l e R s m args below meth c P Q J h' k n (oF m (pc + 1) Ls S)) : oWP b p l e R s m args below meth c P Q J h k n (oF m pc Ls (.long x :: .int j :: .ref a :: S)) := by
  obtain ⟨cl, A, e⟩ := A
  have q := oIdx (n := cl.slots.size) hj (by rw [e]; exact hi)
  refine K_lastore C A q.1 hP hd fun h' Wr1 => ?_
  rw [q.2] at Wr1
  exact K h' Wr1 (oArr.same ⟨cl, A, e⟩ Wr1)
theorem K_newarray2 (C : oCx p s m meth c P Z y B ml rt) {aty : ArrayType} {z : Int32} (len cap : Nat) (w : (Jvm.Cond.arrayClass (newarray.typeOf aty)).before a0 Z = true) (hd : decode B pc = .ok (.newarray aty, 2)) (hz : z.toInt = (len : Int)) (hcap : len ≤ cap) (hb8 : cap * 8 ≤ 536870912) (hk : k + 1 ≤ R.cells) (hn : n + cap ≤ R.slots)
    (K : ∀ h' a, a = h.size → P a → Ext h h' → oArr Z h' a (newarray.typeOf aty) (List.replicate len (defaultValue (newarray.typeOf aty))) → oWP b p l e R s m args below meth c P Q J h' (k + 1) (n + cap) (oF m (pc + 2) Ls (.ref a :: S))) : oWP b p l e R s m args below meth c P Q J h k n (oF m pc Ls (.int z :: S)) := by
  have e : z.toNatClampNeg = len := by simp only [Int32.toNatClampNeg, hz]; rfl
  refine K_newarray C (cap := cap) w hd (fun q => ?_) (e ▸ hcap) hb8 hk hn fun h' a cA ha hPa E A => K h' a ha hPa E ?_
  · rw [Int32.lt_iff_toInt_lt, hz] at q
    have : (0 : Int32).toInt = 0 := rfl
    omega
  · have := oArr.new A
    rwa [e] at this
end OwnArr
section OwnStr
theorem oOf (i : Nat) (h : i < 2 ^ 31) : (Int32.ofNat i).toInt = i := Int32.toInt_ofNat_of_lt h
theorem oOfLt {i n : Nat} (hi : i < 2 ^ 31) (hn : n < 2 ^ 31) : (Int32.ofNat i < Int32.ofNat n) ↔ i < n := by
  rw [Int32.lt_iff_toInt_lt, oOf i hi, oOf n hn]; omega
theorem oOfEq {i n : Nat} (hi : i < 2 ^ 31) (hn : n < 2 ^ 31) : (Int32.ofNat i = Int32.ofNat n) ↔ i = n := by
  constructor
  · intro q
    have := congrArg Int32.toInt q
    rw [oOf i hi, oOf n hn] at this; omega
  · intro q; rw [q]
theorem oOfS (i : Nat) : Int32.ofNat i + 1 = Int32.ofNat (i + 1) := (Int32.ofNat_add i 1).symm
/-- a char's number -/
def oChr (u : Int32) : Prop := 0 ≤ u.toInt ∧ u.toInt < 65536
def oSmall (u : Int32) : Prop := ¬ (255 : Int32) < u
def oLob (u : Int32) : Int32 := u.toInt8.toInt32
def oHib (u : Int32) : Int32 := (u >>> ((8 : Int32) &&& 31)).toInt8.toInt32
theorem oNarLob (u : Int32) : nar .byte (u.toInt8.toInt32) = u.toInt8.toInt32 := by simp [nar]
abbrev oLv (u : Int32) : Value := .int (oLob u)
abbrev oLH (u : Int32) : List Value := [.int (oLob u), .int (oHib u)]
theorem oSetL {α β : Type} {us : List α} {f : α → β} {d : β} {i : Nat} {u : α} (hu : us[i]? = some u) : ((us.take i).map f ++ List.replicate (us.length - i) d).set i (f u) = (us.take (i + 1)).map f ++ List.replicate (us.length - (i + 1)) d := by
  obtain ⟨hi, e⟩ := List.getElem?_eq_some_iff.mp hu
  have e1 : us.length - i = (us.length - (i + 1)) + 1 := by omega
  have e2 : ((us.take i).map f).length = i := by simp; omega
  rw [List.set_append_right _ _ (by omega), e2, Nat.sub_self, e1, List.replicate_succ, List.set_cons_zero, List.take_add_one, hu]
  simp
/-- how a String's chars lie in its bytes -/
def oEnc (us : List Int32) (cd : Int32) (bs : List Value) : Prop :=
  (cd = 0 ∧ (∀ u ∈ us, oSmall u) ∧ bs = us.map oLv) ∨ (cd = 1 ∧ (∃ u ∈ us, ¬ oSmall u) ∧ bs = us.flatMap oLH)
/-- the object at a is a String of the chars us -/
def oStr (Z : State) (h : Heap) (a : Addr) (us : List Int32) : Prop :=
  Exa Z h a "java/lang/String" ∧ (∀ u ∈ us, oChr u) ∧ ∃ (b : Addr) (cd : Int32) (bs : List Value), Fld Z h a "java/lang/String" "value" "[B" (.ref b) ∧ Fld Z h a "java/lang/String" "coder" "B" (.int cd) ∧ oArr Z h b .byte bs ∧ oEnc us cd bs
theorem oStr.ext {Z : State} {h h' : Heap} {a : Addr} {us : List Int32} (F : oStr Z h a us) (E : Ext h h') : oStr Z h' a us := by
  obtain ⟨X, c, b, cd, bs, f1, f2, A, e⟩ := F
  exact ⟨X.ext E, c, b, cd, bs, f1.ext E, f2.ext E, A.ext E, e⟩
/-- null or a String of the chars us -/
def oOStr (Z : State) (h : Heap) (v : Value) (us : List Int32) : Prop := v = .null ∨ ∃ a, v = .ref a ∧ oStr Z h a us
theorem oOStr.ext {Z : State} {h h' : Heap} {v : Value} {us : List Int32} (F : oOStr Z h v us) (E : Ext h h') : oOStr Z h' v us := F.imp id fun ⟨a, e, q⟩ => ⟨a, e, q.ext E⟩
theorem oOStr.ref {Z : State} {h : Heap} {v : Value} {us : List Int32} (F : oOStr Z h v us) : v.isRef = true := by
  rcases F with rfl | ⟨a, rfl, -⟩ <;> rfl
theorem oFitR {v : Value} {n : String} (hv : v.isRef = true) : fits (.object n) v = true := by rcases ref_cases hv with rfl | ⟨_, rfl⟩ <;> rfl
theorem oNarR {v : Value} {n : String} : narrow (.object n) v = v := by cases v <;> rfl
theorem oOne {v : Value} (hv : v.isRef = true) : Slot.val v = .unset ∨ ∃ w, Slot.val v = .val w ∧ w.category = 1 := XT.slot1 hv
/-- equal bytes: equal chars -/
theorem oLobInj {u w : Int32} (hu : oChr u) (hw : oChr w) (su : oSmall u) (sw : oSmall w) (e : oLob u = oLob w) : u = w := by
  have e1 : (oLob u).toInt = (oLob w).toInt := by rw [e]
  simp only [oLob, Int8.toInt_toInt32, Int32.toInt_toInt8] at e1
  have a1 : ¬ (255 : Int) < u.toInt := fun q => su (by rw [Int32.lt_iff_toInt_lt]; exact q)
  have a2 : ¬ (255 : Int) < w.toInt := fun q => sw (by rw [Int32.lt_iff_toInt_lt]; exact q)
  apply Int32.toInt_inj.mp
  obtain ⟨h1, h2⟩ := hu
  obtain ⟨h3, h4⟩ := hw
  rw [Int.bmod_def, Int.bmod_def] at e1
  omega
theorem oSmallI {u : Int32} (h : u.toInt ≤ 255) : oSmall u := fun q => by
  rw [Int32.lt_iff_toInt_lt] at q
  have : (255 : Int32).toInt = 255 := rfl
  omega
/-- the low byte of an int, as a char -/
theorem oMask (x : Int32) : oChr (x &&& 255) ∧ oSmall (x &&& 255) ∧ (x &&& 255).toUInt32.toUInt16.toUInt32.toInt32 = x &&& 255 := by
  have e1 : (x &&& 255).toInt = x.toInt % 2 ^ 8 := Jvm.Kit.i32_mask x 255 (k := 8) (by decide) (by decide)
  have h1 := Int.emod_lt_of_pos x.toInt (b := 256) (by decide)
  have h2 := Int.emod_nonneg x.toInt (b := 256) (by decide)
  exact ⟨⟨by omega, by omega⟩, oSmallI (by omega), i2c_mask x⟩
theorem oNarC {u : Int32} (h : u.toUInt32.toUInt16.toUInt32.toInt32 = u) : nar .char u = u := h
end OwnStr
section OwnStr2
theorem oLobMap {us ws : List Int32} (hu : ∀ u ∈ us, oChr u) (hw : ∀ u ∈ ws, oChr u) (su : ∀ u ∈ us, oSmall u) (sw : ∀ u ∈ ws, oSmall u) : us.map oLob = ws.map oLob ↔ us = ws := by
  refine ⟨fun q => ?_, fun q => by rw [q]⟩
  induction us generalizing ws with
  | nil => cases ws with
    | nil => rfl
    | cons w t => simp at q
  | cons u t ih => cases ws with
    | nil => simp at q
    | cons w t' =>
      simp only [List.map_cons, List.cons.injEq] at q
      rw [oLobInj (hu u (by simp)) (hw w (by simp)) (su u (by simp)) (sw w (by simp)) q.1, ih (fun x hx => hu x (by simp [hx])) (fun x hx => hw x (by simp [hx])) (fun x hx => su x (by simp [hx])) (fun x hx => sw x (by simp [hx])) q.2]
theorem oStr.inj {Z : State} {h : Heap} {a : Addr} {us ws : List Int32} (F : oStr Z h a us) (G : oStr Z h a ws) (su : ∀ u ∈ us, oSmall u) (sw : ∀ u ∈ ws, oSmall u) : us = ws := by
  obtain ⟨-, hu, b1, c1, l1, V1, -, A1, e1⟩ := F
  obtain ⟨-, hw, b2, c2, l2, V2, -, A2, e2⟩ := G
  obtain ⟨-, -, rfl⟩ := e1.resolve_right (fun q => by obtain ⟨u, q1, q2⟩ := q.2.1; exact q2 (su u q1))
  obtain ⟨-, -, rfl⟩ := e2.resolve_right (fun q => by obtain ⟨u, q1, q2⟩ := q.2.1; exact q2 (sw u q1))
  have e : b1 = b2 := by
    obtain ⟨k1, _, _, _, _, p1, p2, -, -, -, -, p7⟩ := V1
    obtain ⟨k2, _, _, _, _, r1, r2, -, -, -, -, r7⟩ := V2
    cases p1.symm.trans r1; cases p2.symm.trans r2
    exact Value.ref.inj (Option.some.inj (p7.symm.trans r7))
  subst e
  obtain ⟨k1, ⟨p1, -⟩, p2⟩ := A1
  obtain ⟨k2, ⟨r1, -⟩, r2⟩ := A2
  cases p1.symm.trans r1
  have e3 := congrArg Array.toList (p2.symm.trans r2)
  have e4 : us.map oLob = ws.map oLob := by
    have e5 : (us.map oLob).map Value.int = (ws.map oLob).map Value.int := by rw [List.map_map, List.map_map]; exact e3
    exact (List.map_inj_right (fun x y q => Value.int.inj q)).mp e5
  exact (oLobMap hu hw su sw).mp e4
theorem oNC (x : Int32) : nar .char ((x &&& 255).toUInt32.toUInt16.toUInt32.toInt32) = x &&& 255 := by
  rw [(oMask x).2.2]; exact (oMask x).2.2
end OwnStr2
section OwnLit
variable {p : Program} {l : Launch} {e : Env} {R : Room} {s : State} {m : MethodId} {args : Array Value} {below : List Frame} {meth : Method} {c : Code} {P : Addr → Prop} {Q : Option Value → Heap → Vm → Prop} {J : Vm → Prop} {Z : State} {y : MethodName} {B : ByteArray} {ml : Nat} {rt : Option FieldType} {b : Bool} {h h' : Heap} {k n pc : Nat} {Ls : List Slot} {S : List Value} {a0 : Array Value} {EL : List (String × Nat)} {xs : List Addr} {vm : Vm}
/-- what the tables book for the entries of EL stands in h, and none of xs is among it -/
def oH (Z : State) (EL : List (String × Nat)) (h : Heap) (xs : List Addr) : Vm → Prop := fun vm => Z.Warmed39 vm ∧ CHv Z EL vm h ∧ ∀ x ∈ xs, x < h.size ∧ Safe Z EL vm h x
theorem oH.js (w : EW Z a0 EL) : oJs (oH Z EL h xs) := fun s vm' hJ hw => by
  obtain ⟨hZ, H, hx⟩ := hJ
  have q := CHv.later (h' := h) hZ (hW := (show (Wst Z s.vm h).Warmed39 vm' from hw.wide)) w ⟨Nat.le_refl _, fun _ _ q => q⟩ (Or.inl hw.interned_eq) H
  exact ⟨State.Warmed39.trans hZ hw.wide, q.1, fun x hm => ⟨(hx x hm).1, fun Bx => (q.2 x Bx).elim (hx x hm).2 fun z => absurd (hx x hm).1 (Nat.not_lt.mpr z)⟩⟩
theorem oH.ext (E : Ext h h') (H : oH Z EL h xs vm) : oH Z EL h' xs vm := ⟨H.1, H.2.1.ext E, fun x hm => ⟨Nat.lt_of_lt_of_le (H.2.2 x hm).1 E.1, (H.2.2 x hm).2.ext E H.2.1⟩⟩
theorem oH.add {a : Addr} (E : Ext h h') (ha : a = h.size) (hl : a < h'.size) (H : oH Z EL h xs vm) : oH Z EL h' (a :: xs) vm := ⟨H.1, H.2.1.ext E, fun x hm => by
  rcases List.mem_cons.mp hm with rfl | hm
  · exact ⟨hl, (Safe.new (Nat.le_of_eq ha.symm)).ext E H.2.1⟩
  · exact (H.ext E).2.2 x hm⟩
theorem oH.sub {zs : List Addr} (q : ∀ x ∈ zs, x ∈ xs) (H : oH Z EL h xs vm) : oH Z EL h zs vm := ⟨H.1, H.2.1, fun x hm => H.2.2 x (q x hm)⟩
theorem oH.wrS {a : Addr} {sl : Nat} {v : Value} (W : Wr h h' a sl v) (S : Safe Z EL vm h a) (H : oH Z EL h xs vm) : oH Z EL h' xs vm := ⟨H.1, H.2.1.wr W S, fun x hm => ⟨by rw [W.size]; exact (H.2.2 x hm).1, Safe.wr W S H.2.1 (H.2.2 x hm).2⟩⟩
theorem oH.wr {a : Addr} {sl : Nat} {v : Value} (W : Wr h h' a sl v) (hm : a ∈ xs) (H : oH Z EL h xs vm) : oH Z EL h' xs vm := H.wrS W (H.2.2 a hm).2
theorem oH.wrA {a : Addr} {sl : Nat} {v : Value} {ty : FieldType} {vs : List Value} (W : Wr h h' a sl v) (A : oArr Z h a ty vs) (ht : ty ≠ .byte) (H : oH Z EL h xs vm) : oH Z EL h' xs vm := by
  obtain ⟨cl, A, -⟩ := A
  exact H.wrS W (Safe.arr H.1.alike A ht)
theorem oH.kp {P : Addr → Prop} (K : oKp P h h') (hP : ∀ x, P x → x ∈ xs ∨ h.size ≤ x) (H : oH Z EL h xs vm) : oH Z EL h' xs vm := by
  have q := H.2.1.step (h' := h') fun y By cell hy => by
    obtain ⟨c', e1, -, -, -, e5⟩ := K.2 y cell hy
    rw [e5 fun hPy => (hP y hPy).elim (fun z => (H.2.2 y z).2 By) (fun z => absurd (Array.getElem?_eq_some_iff.mp hy).1 (Nat.not_lt.mpr z))] at e1
    exact e1
  exact ⟨H.1, q.1, fun x hm => ⟨Nat.lt_of_lt_of_le (H.2.2 x hm).1 K.1, fun Bx => (H.2.2 x hm).2 (q.2 x Bx)⟩⟩
theorem K_J {g : JFrame} {J2 : Vm → Prop} (hJ : ∀ vm, J vm → J2 vm) (hs : oJs J2) (K : oWP b p l e R s m args below meth c P Q J2 h k n g) : oWP b p l e R s m args below meth c P Q J h k n g := fun T hT => by
  obtain ⟨vm0, k0, locs, ck, cn, X, eT, N, q1, q2, hS, hk0, hbv, hJ0, -⟩ := hT
  exact K T ⟨vm0, k0, locs, ck, cn, X, eT, N, q1, q2, hS, hk0, hbv, hJ _ hJ0, hs⟩
/-- ldc of the empty String, held -/
theorem K_ldcE (C : oCx p s m meth c P Z y B ml rt) {idx : Nat} (w : (Jvm.Cond.stringLink y.cls idx "").before a0 Z = true) (wS : ∀ a ∈ Bundle.stringAtoms, a.before a0 Z = true) (hEL : EW Z a0 EL) (hmem : (y.cls, idx) ∈ EL) (hd : decode B pc = .ok (.ldc idx, 2)) (hk : k + 2 ≤ R.cells) (hn : n + 4 ≤ R.slots)
    (K : ∀ a bb h', Ext h h' → Exa Z h' a "java/lang/String" → Fld Z h' a "java/lang/String" "coder" "B" (.int 0) → Fld Z h' a "java/lang/String" "value" "[B" (.ref bb) → oArr Z h' bb .byte [] → oWP true p l e R s m args below meth c P Q (oH Z EL h' xs) h' (k + 2) (n + 4) (oF m (pc + 2) Ls (.ref a :: S))) : oWP true p l e R s m args below meth c P Q (oH Z EL h xs) h k n (oF m pc Ls S) := fun T hT => by
  obtain ⟨vm0, k0, locs, ck, cn, X, eT, N, q1, q2, hS, hk0, hbv, hJ⟩ := hT
  have C' := C.rebase hS
  obtain ⟨a, T', h', k1, bb, kc, X', e', E, hS1, hk1, hW, -, Xa, Fc, Fv, A, -, -, hC, -, -, st⟩ := ldcCH X C.1 C'.hZ C'.own w wS eT hS hk0 hEL hmem hJ.1.2.1 (vs := []) (z := 0) ⟨by simp, rfl⟩ (by decide) rfl (g := oF m pc Ls S) rfl (hb C.2.1 hd) (n := 0) (by simp) (by decide) (by omega) (by omega)
  obtain ⟨cl, A1, -, hsz, -⟩ := A
  have A2 : oArr Z h' bb .byte [] := ⟨cl, A1, by
    have : cl.slots.size = 0 := hsz
    exact Array.eq_empty_of_size_eq_zero this⟩
  have J1 : oH Z EL h' xs T'.vm := ⟨hW, hC.1, fun x hm => ⟨Nat.lt_of_lt_of_le (hJ.1.2.2 x hm).1 E.1, hC.safe (hJ.1.2.2 x hm).1 (hJ.1.2.2 x hm).2⟩⟩
  obtain ⟨u, o, g1, g2⟩ := K a bb h' E Xa Fc Fv A2 T' ⟨_, k1, locs, _, _, X', e', N, by omega, by omega, hS1, hk1, (fun q => nomatch q), J1, oH.js hEL⟩
  exact ⟨u, o, st u g1, g2⟩
end OwnLit
section OwnLit2
variable {Z : State} {EL : List (String × Nat)} {h h' : Heap} {xs : List Addr} {vm : Vm}
theorem oH.kpX {P : Addr → Prop} (K : oKp P h h') (hP : ∀ x, P x → (∃ Cn, Exa Z h x Cn ∧ Cn ≠ "java/lang/String" ∧ Cn ≠ "[B") ∨ h.size ≤ x) (H : oH Z EL h xs vm) : oH Z EL h' xs vm := by
  have q := H.2.1.step (h' := h') fun y By cell hy => by
    obtain ⟨c', e1, -, -, -, e5⟩ := K.2 y cell hy
    rw [e5 fun hPy => (hP y hPy).elim (fun ⟨Cn, X, n1, n2⟩ => Safe.exa H.1.alike X n1 n2 By) (fun z => absurd (Array.getElem?_eq_some_iff.mp hy).1 (Nat.not_lt.mpr z))] at e1
    exact e1
  exact ⟨H.1, q.1, fun x hm => ⟨Nat.lt_of_lt_of_le (H.2.2 x hm).1 K.1, fun Bx => (H.2.2 x hm).2 (q.2 x Bx)⟩⟩
theorem oStr.kpX {a q : Addr} {us : List Int32} {Cn : String} {a0 : Array Value} {kk : Nat} (F : oStr Z h a us) (X : Exa Z h q Cn) (hn : Cn ≠ "java/lang/String") (wi : (Jvm.Cond.instantiable Cn kk).before a0 Z = true) (K : oKp (fun x => x = q ∨ h.size ≤ x) h h') : oStr Z h' a us := by
  obtain ⟨X1, c, b, cd, bs, f1, f2, A, e⟩ := F
  have ha : a < h.size := by
    obtain ⟨k, hk, -⟩ := X1.cell
    exact (Array.getElem?_eq_some_iff.mp hk).1
  have na : ¬ (a = q ∨ h.size ≤ a) := fun r => r.elim (fun z => (Exa.ne X1 X hn.symm) z) (fun z => absurd ha (Nat.not_lt.mpr z))
  have nb : ¬ (b = q ∨ h.size ≤ b) := fun r => r.elim (fun z => by obtain ⟨_, A, -⟩ := A; exact (ne_arr X wi A) z.symm) (fun z => absurd A.lt (Nat.not_lt.mpr z))
  exact ⟨K.exa X1, c, b, cd, bs, K.fld f1 na, K.fld f2 na, A.kp K nb, e⟩
end OwnLit2
section OwnStr3
theorem oPairB (x : BitVec 32) : (((x.signExtend 8).signExtend 32 &&& 255#32) ||| (((((x.sshiftRight 8).signExtend 8).signExtend 32) &&& 255#32) <<< 8)) = x &&& 65535#32 := by
  have key : ∀ i : Fin 32, (((x.signExtend 8).signExtend 32 &&& 255#32) ||| (((((x.sshiftRight 8).signExtend 8).signExtend 32) &&& 255#32) <<< 8)).getLsbD i.val = (x &&& 65535#32).getLsbD i.val := by
    intro i
    match i with
    | ⟨0, _⟩ => simp [BitVec.getElem_signExtend, BitVec.getElem_sshiftRight]
    | ⟨1, _⟩ => simp [BitVec.getElem_signExtend, BitVec.getElem_sshiftRight]
    | ⟨2, _⟩ => simp [BitVec.getElem_signExtend, BitVec.getElem_sshiftRight]
    | ⟨3, _⟩ => simp [BitVec.getElem_signExtend, BitVec.getElem_sshiftRight]
    | ⟨4, _⟩ => simp [BitVec.getElem_signExtend, BitVec.getElem_sshiftRight]
    | ⟨5, _⟩ => simp [BitVec.getElem_signExtend, BitVec.getElem_sshiftRight]
    | ⟨6, _⟩ => simp [BitVec.getElem_signExtend, BitVec.getElem_sshiftRight]
    | ⟨7, _⟩ => simp [BitVec.getElem_signExtend, BitVec.getElem_sshiftRight]
    | ⟨8, _⟩ => simp [BitVec.getElem_signExtend, BitVec.getElem_sshiftRight]
    | ⟨9, _⟩ => simp [BitVec.getElem_signExtend, BitVec.getElem_sshiftRight]
    | ⟨10, _⟩ => simp [BitVec.getElem_signExtend, BitVec.getElem_sshiftRight]
    | ⟨11, _⟩ => simp [BitVec.getElem_signExtend, BitVec.getElem_sshiftRight]
    | ⟨12, _⟩ => simp [BitVec.getElem_signExtend, BitVec.getElem_sshiftRight]
    | ⟨13, _⟩ => simp [BitVec.getElem_signExtend, BitVec.getElem_sshiftRight]
    | ⟨14, _⟩ => simp [BitVec.getElem_signExtend, BitVec.getElem_sshiftRight]
    | ⟨15, _⟩ => simp [BitVec.getElem_signExtend, BitVec.getElem_sshiftRight]
    | ⟨16, _⟩ => simp [BitVec.getElem_signExtend, BitVec.getElem_sshiftRight]
    | ⟨17, _⟩ => simp [BitVec.getElem_signExtend, BitVec.getElem_sshiftRight]
    | ⟨18, _⟩ => simp [BitVec.getElem_signExtend, BitVec.getElem_sshiftRight]
    | ⟨19, _⟩ => simp [BitVec.getElem_signExtend, BitVec.getElem_sshiftRight]
    | ⟨20, _⟩ => simp [BitVec.getElem_signExtend, BitVec.getElem_sshiftRight]
    | ⟨21, _⟩ => simp [BitVec.getElem_signExtend, BitVec.getElem_sshiftRight]
    | ⟨22, _⟩ => simp [BitVec.getElem_signExtend, BitVec.getElem_sshiftRight]
    | ⟨23, _⟩ => simp [BitVec.getElem_signExtend, BitVec.getElem_sshiftRight]
    | ⟨24, _⟩ => simp [BitVec.getElem_signExtend, BitVec.getElem_sshiftRight]
    | ⟨25, _⟩ => simp [BitVec.getElem_signExtend, BitVec.getElem_sshiftRight]
    | ⟨26, _⟩ => simp [BitVec.getElem_signExtend, BitVec.getElem_sshiftRight]
    | ⟨27, _⟩ => simp [BitVec.getElem_signExtend, BitVec.getElem_sshiftRight]
    | ⟨28, _⟩ => simp [BitVec.getElem_signExtend, BitVec.getElem_sshiftRight]
    | ⟨29, _⟩ => simp [BitVec.getElem_signExtend, BitVec.getElem_sshiftRight]
    | ⟨30, _⟩ => simp [BitVec.getElem_signExtend, BitVec.getElem_sshiftRight]
    | ⟨31, _⟩ => simp [BitVec.getElem_signExtend, BitVec.getElem_sshiftRight]
    | ⟨i + 32, h⟩ => exact absurd h (by omega)
  exact BitVec.eq_of_getLsbD_eq fun i hi => key ⟨i, hi⟩
/-- a char's two bytes tell it -/
theorem oPair {u : Int32} (hu : oChr u) : (((oLob u &&& 255) <<< ((0 : Int32) &&& 31)) ||| ((oHib u &&& 255) <<< ((8 : Int32) &&& 31))) = u := by
  have e : (((oLob u &&& 255) <<< ((0 : Int32) &&& 31)) ||| ((oHib u &&& 255) <<< ((8 : Int32) &&& 31))) = u &&& 65535 := by
    apply Int32.toBitVec_inj.mp
    simp [oLob, oHib]
    exact oPairB _
  rw [e]
  apply Int32.toInt_inj.mp
  rw [show (u &&& 65535).toInt = u.toInt % 2 ^ 16 from Jvm.Kit.i32_mask u 65535 (k := 16) (by decide) (by decide)]
  obtain ⟨h1, h2⟩ := hu
  omega
theorem oCharN {u : Int32} (hu : oChr u) : u.toUInt32.toUInt16.toUInt32.toInt32 = u := char_back u (by rw [Int32.le_iff_toInt_le]; exact hu.1) (by rw [Int32.le_iff_toInt_le]; have := hu.2; have e : (65535 : Int32).toInt = 65535 := rfl; omega)
theorem oLobM {u : Int32} (hu : oChr u) (su : oSmall u) : oLob u &&& 255 = u := by
  apply Int32.toInt_inj.mp
  rw [show (oLob u &&& 255).toInt = (oLob u).toInt % 2 ^ 8 from Jvm.Kit.i32_mask (oLob u) 255 (k := 8) (by decide) (by decide)]
  obtain ⟨h1, h2⟩ := hu
  have h3 : ¬ (255 : Int) < u.toInt := fun q => su (by rw [Int32.lt_iff_toInt_lt]; exact q)
  simp only [oLob, Int8.toInt_toInt32, Int32.toInt_toInt8, Int.bmod_def]
  omega
theorem oLHlen (us : List Int32) : (us.flatMap oLH).length = 2 * us.length := by
  induction us with
  | nil => rfl
  | cons u t ih =>
    rw [List.flatMap_cons, List.length_append, ih]
    simp [oLH]; omega
theorem oLHget {us : List Int32} {j : Nat} {u : Int32} (hu : us[j]? = some u) : (us.flatMap oLH)[2 * j]? = some (.int (oLob u)) ∧ (us.flatMap oLH)[2 * j + 1]? = some (.int (oHib u)) := by
  induction us generalizing j with
  | nil => simp at hu
  | cons w t ih =>
    cases j with
    | zero => simp at hu; subst hu; exact ⟨rfl, rfl⟩
    | succ j =>
      have := ih (by simpa using hu)
      rw [show 2 * (j + 1) = 2 * j + 2 by omega, show 2 * j + 2 + 1 = 2 * j + 1 + 2 by omega]
      exact this
theorem oLHset {us : List Int32} {i : Nat} {u : Int32} (hu : us[i]? = some u) : ((((us.take i).flatMap oLH ++ List.replicate (2 * (us.length - i)) (Value.int 0)).set (2 * i) (.int (oLob u))).set (2 * i + 1) (.int (oHib u))) = (us.take (i + 1)).flatMap oLH ++ List.replicate (2 * (us.length - (i + 1))) (.int 0) := by
  have hi : i < us.length := (List.getElem?_eq_some_iff.mp hu).1
  have hl : ((us.take i).flatMap oLH).length = 2 * i := by rw [oLHlen, List.length_take]; omega
  have e : List.replicate (2 * (us.length - i)) (Value.int 0) = .int 0 :: .int 0 :: List.replicate (2 * (us.length - (i + 1))) (.int 0) := by
    rw [show 2 * (us.length - i) = 2 * (us.length - (i + 1)) + 1 + 1 by omega, List.replicate_succ, List.replicate_succ]
  rw [e, List.set_append_right _ _ (by omega), List.set_append_right _ _ (by omega), hl, Nat.sub_self, show 2 * i + 1 - 2 * i = 1 by omega, List.take_add_one, hu]
  simp [oLH]
theorem oShl {n : Nat} (h : n < 16) : Int32.ofNat n <<< ((1 : Int32) &&& 31) = Int32.ofNat (2 * n) := by
  have : ∀ n, n < 16 → Int32.ofNat n <<< ((1 : Int32) &&& 31) = Int32.ofNat (2 * n) := by decide +kernel
  exact this n h
theorem oShr {n : Nat} (h : n < 16) : Int32.ofNat (2 * n) >>> ((1 : Int32) &&& 31) = Int32.ofNat n := by
  have : ∀ n, n < 16 → Int32.ofNat (2 * n) >>> ((1 : Int32) &&& 31) = Int32.ofNat n := by decide +kernel
  exact this n h
theorem oShr0 {n : Nat} (h : n < 16) : Int32.ofNat n >>> ((0 : Int32) &&& 31) = Int32.ofNat n := by
  have : ∀ n, n < 16 → Int32.ofNat n >>> ((0 : Int32) &&& 31) = Int32.ofNat n := by decide +kernel
  exact this n h
theorem oCoder {n : Nat} (h : n < 16) (hp : 0 < n) : (XT.ushr (Int32.ofNat n - Int32.ofNat (2 * n)) 31).toInt8.toInt32 = 1 := by
  have : ∀ n, n < 16 → 0 < n → (XT.ushr (Int32.ofNat n - Int32.ofNat (2 * n)) 31).toInt8.toInt32 = 1 := by decide +kernel
  exact this n h hp
theorem oOf1 (i : Nat) : Int32.ofNat (2 * i) + 1 = Int32.ofNat (2 * i + 1) := oOfS _
theorem oSh0 (u : Int32) : u >>> ((0 : Int32) &&& 31) = u := by
  apply Int32.toBitVec_inj.mp
  simp
theorem oNCu {u : Int32} (hu : oChr u) : nar .char (u.toUInt32.toUInt16.toUInt32.toInt32) = u := by
  rw [oCharN hu]; exact oCharN hu
theorem oEncLen {us : List Int32} {cd : Int32} {bs : List Value} (e : oEnc us cd bs) : (cd = 0 ∧ bs.length = us.length) ∨ (cd = 1 ∧ bs.length = 2 * us.length) := by
  rcases e with ⟨rfl, -, rfl⟩ | ⟨rfl, -, rfl⟩
  · exact Or.inl ⟨rfl, by simp⟩
  · exact Or.inr ⟨rfl, oLHlen us⟩
theorem oNarCd {us : List Int32} {cd : Int32} {bs : List Value} (e : oEnc us cd bs) : nar .byte cd = cd := by
  rcases oEncLen e with ⟨rfl, -⟩ | ⟨rfl, -⟩ <;> decide
theorem oLenCd {us : List Int32} {cd : Int32} {bs : List Value} (e : oEnc us cd bs) (h : us.length < 16) : Int32.ofNat bs.length >>> (cd &&& 31) = Int32.ofNat us.length := by
  rcases oEncLen e with ⟨rfl, q⟩ | ⟨rfl, q⟩ <;> rw [q]
  · exact oSh0 _
  · exact oShr h
end OwnStr3
theorem tw0 {Z : State} {a0 : Array Value} (hw : ∀ d ∈ tables_1, d.before a0 Z = true) : ((Jvm.Cond.arrayClass Jvm.ClassFile.FieldType.char)).before a0 Z = true := hw _ (List.mem_of_getElem? (i := 0) rfl)
theorem tw1 {Z : State} {a0 : Array Value} (hw : ∀ d ∈ tables_1, d.before a0 Z = true) : ((Jvm.Cond.methodLink "com/example/fencerow/fencerow/model/DigitsValuePinLaw" (11 : Nat) ({ cls := "com/example/fencerow/fencerow/model/DigitsValuePinLaw", name := "ch", desc := "(JIII)C" } : Jvm.MethodName))).before a0 Z = true := hw _ (List.mem_of_getElem? (i := 1) rfl)
theorem tw2 {Z : State} {a0 : Array Value} (hw : ∀ d ∈ tables_1, d.before a0 Z = true) : ((Jvm.Cond.static ({ cls := "com/example/fencerow/fencerow/model/DigitsValuePinLaw", name := "ch", desc := "(JIII)C" } : Jvm.MethodName))).before a0 Z = true := hw _ (List.mem_of_getElem? (i := 2) rfl)
theorem tw3 {Z : State} {a0 : Array Value} (hw : ∀ d ∈ tables_1, d.before a0 Z = true) : ((Jvm.Cond.initialized "com/example/fencerow/fencerow/model/DigitsValuePinLaw")).before a0 Z = true := hw _ (List.mem_of_getElem? (i := 3) rfl)
theorem tw4 {Z : State} {a0 : Array Value} (hw : ∀ d ∈ tables_1, d.before a0 Z = true) : ((Jvm.Cond.code ({ cls := "com/example/fencerow/fencerow/model/DigitsValuePinLaw", name := "ch", desc := "(JIII)C" } : Jvm.MethodName) method_2_code (7 : Nat) (Option.some Jvm.ClassFile.FieldType.char))).before a0 Z = true := hw _ (List.mem_of_getElem? (i := 4) rfl)
theorem tw5 {Z : State} {a0 : Array Value} (hw : ∀ d ∈ tables_1, d.before a0 Z = true) : ((Jvm.Cond.constantLong "com/example/fencerow/fencerow/model/DigitsValuePinLaw" (7 : Nat) (65535 : Int64))).before a0 Z = true := hw _ (List.mem_of_getElem? (i := 5) rfl)
theorem tw6 {Z : State} {a0 : Array Value} (hw : ∀ d ∈ tables_1, d.before a0 Z = true) : ((Jvm.Cond.classLink "com/example/fencerow/fencerow/model/DigitsValuePinLaw" (17 : Nat) "java/lang/String")).before a0 Z = true := hw _ (List.mem_of_getElem? (i := 6) rfl)
theorem tw7 {Z : State} {a0 : Array Value} (hw : ∀ d ∈ tables_1, d.before a0 Z = true) : ((Jvm.Cond.instantiable "java/lang/String" (4 : Nat))).before a0 Z = true := hw _ (List.mem_of_getElem? (i := 7) rfl)
theorem tw8 {Z : State} {a0 : Array Value} (hw : ∀ d ∈ tables_1, d.before a0 Z = true) : ((Jvm.Cond.initialized "java/lang/String")).before a0 Z = true := hw _ (List.mem_of_getElem? (i := 8) rfl)
theorem tw9 {Z : State} {a0 : Array Value} (hw : ∀ d ∈ tables_1, d.before a0 Z = true) : ((Jvm.Cond.methodLink "com/example/fencerow/fencerow/model/DigitsValuePinLaw" (19 : Nat) ({ cls := "java/lang/String", name := "<init>", desc := "([C)V" } : Jvm.MethodName))).before a0 Z = true := hw _ (List.mem_of_getElem? (i := 9) rfl)
theorem tw10 {Z : State} {a0 : Array Value} (hw : ∀ d ∈ tables_1, d.before a0 Z = true) : ((Jvm.Cond.instanceMethod ({ cls := "java/lang/String", name := "<init>", desc := "([C)V" } : Jvm.MethodName))).before a0 Z = true := hw _ (List.mem_of_getElem? (i := 10) rfl)
theorem tw11 {Z : State} {a0 : Array Value} (hw : ∀ d ∈ tables_1, d.before a0 Z = true) : ((Jvm.Cond.code ({ cls := "java/lang/String", name := "<init>", desc := "([C)V" } : Jvm.MethodName) jdk_42_method_3_code (2 : Nat) (Option.none : Option Jvm.ClassFile.FieldType))).before a0 Z = true := hw _ (List.mem_of_getElem? (i := 11) rfl)
theorem tw12 {Z : State} {a0 : Array Value} (hw : ∀ d ∈ tables_1, d.before a0 Z = true) : ((Jvm.Cond.methodLink "java/lang/String" (27 : Nat) ({ cls := "java/lang/String", name := "<init>", desc := "([CIILjava/lang/Void;)V" } : Jvm.MethodName))).before a0 Z = true := hw _ (List.mem_of_getElem? (i := 12) rfl)
theorem tw13 {Z : State} {a0 : Array Value} (hw : ∀ d ∈ tables_1, d.before a0 Z = true) : ((Jvm.Cond.instanceMethod ({ cls := "java/lang/String", name := "<init>", desc := "([CIILjava/lang/Void;)V" } : Jvm.MethodName))).before a0 Z = true := hw _ (List.mem_of_getElem? (i := 13) rfl)
theorem tw15 {Z : State} {a0 : Array Value} (hw : ∀ d ∈ tables_1, d.before a0 Z = true) : ((Jvm.Cond.code ({ cls := "java/lang/String", name := "<init>", desc := "([CIILjava/lang/Void;)V" } : Jvm.MethodName) jdk_42_method_149_code (6 : Nat) (Option.none : Option Jvm.ClassFile.FieldType))).before a0 Z = true := hw _ (List.mem_of_getElem? (i := 15) rfl)
theorem tw16 {Z : State} {a0 : Array Value} (hw : ∀ d ∈ tables_1, d.before a0 Z = true) : ((Jvm.Cond.methodLink "java/lang/String" (1 : Nat) ({ cls := "java/lang/Object", name := "<init>", desc := "()V" } : Jvm.MethodName))).before a0 Z = true := hw _ (List.mem_of_getElem? (i := 16) rfl)
theorem tw17 {Z : State} {a0 : Array Value} (hw : ∀ d ∈ tables_1, d.before a0 Z = true) : ((Jvm.Cond.instanceMethod ({ cls := "java/lang/Object", name := "<init>", desc := "()V" } : Jvm.MethodName))).before a0 Z = true := hw _ (List.mem_of_getElem? (i := 17) rfl)
theorem tw18 {Z : State} {a0 : Array Value} (hw : ∀ d ∈ tables_1, d.before a0 Z = true) : ((Jvm.Cond.code ({ cls := "java/lang/Object", name := "<init>", desc := "()V" } : Jvm.MethodName) object_method_1_code (1 : Nat) (Option.none : Option Jvm.ClassFile.FieldType))).before a0 Z = true := hw _ (List.mem_of_getElem? (i := 18) rfl)
theorem tw19 {Z : State} {a0 : Array Value} (hw : ∀ d ∈ tables_1, d.before a0 Z = true) : ((Jvm.Cond.fieldLink "java/lang/String" (38 : Nat) "java/lang/String" "COMPACT_STRINGS" "Z")).before a0 Z = true := hw _ (List.mem_of_getElem? (i := 19) rfl)
theorem tw20 {Z : State} {a0 : Array Value} (hw : ∀ d ∈ tables_1, d.before a0 Z = true) : ((Jvm.Cond.methodLink "java/lang/String" (177 : Nat) ({ cls := "java/lang/StringUTF16", name := "compress", desc := "([CII)[B" } : Jvm.MethodName))).before a0 Z = true := hw _ (List.mem_of_getElem? (i := 20) rfl)
theorem tw21 {Z : State} {a0 : Array Value} (hw : ∀ d ∈ tables_1, d.before a0 Z = true) : ((Jvm.Cond.static ({ cls := "java/lang/StringUTF16", name := "compress", desc := "([CII)[B" } : Jvm.MethodName))).before a0 Z = true := hw _ (List.mem_of_getElem? (i := 21) rfl)
theorem tw22 {Z : State} {a0 : Array Value} (hw : ∀ d ∈ tables_1, d.before a0 Z = true) : ((Jvm.Cond.initialized "java/lang/StringUTF16")).before a0 Z = true := hw _ (List.mem_of_getElem? (i := 22) rfl)
theorem tw23 {Z : State} {a0 : Array Value} (hw : ∀ d ∈ tables_1, d.before a0 Z = true) : ((Jvm.Cond.code ({ cls := "java/lang/StringUTF16", name := "compress", desc := "([CII)[B" } : Jvm.MethodName) jdk_52_method_16_code (6 : Nat) (Option.some (Jvm.ClassFile.FieldType.array Jvm.ClassFile.FieldType.byte)))).before a0 Z = true := hw _ (List.mem_of_getElem? (i := 23) rfl)
theorem tw24 {Z : State} {a0 : Array Value} (hw : ∀ d ∈ tables_1, d.before a0 Z = true) : ((Jvm.Cond.arrayClass Jvm.ClassFile.FieldType.byte)).before a0 Z = true := hw _ (List.mem_of_getElem? (i := 24) rfl)
theorem tw25 {Z : State} {a0 : Array Value} (hw : ∀ d ∈ tables_1, d.before a0 Z = true) : ((Jvm.Cond.methodLink "java/lang/StringUTF16" (115 : Nat) ({ cls := "java/lang/StringUTF16", name := "compress", desc := "([CI[BII)I" } : Jvm.MethodName))).before a0 Z = true := hw _ (List.mem_of_getElem? (i := 25) rfl)
theorem tw26 {Z : State} {a0 : Array Value} (hw : ∀ d ∈ tables_1, d.before a0 Z = true) : ((Jvm.Cond.static ({ cls := "java/lang/StringUTF16", name := "compress", desc := "([CI[BII)I" } : Jvm.MethodName))).before a0 Z = true := hw _ (List.mem_of_getElem? (i := 26) rfl)
theorem tw27 {Z : State} {a0 : Array Value} (hw : ∀ d ∈ tables_1, d.before a0 Z = true) : ((Jvm.Cond.code ({ cls := "java/lang/StringUTF16", name := "compress", desc := "([CI[BII)I" } : Jvm.MethodName) jdk_52_method_21_code (7 : Nat) (Option.some Jvm.ClassFile.FieldType.int))).before a0 Z = true := hw _ (List.mem_of_getElem? (i := 27) rfl)
theorem tw28 {Z : State} {a0 : Array Value} (hw : ∀ d ∈ tables_1, d.before a0 Z = true) : ((Jvm.Cond.methodLink "java/lang/StringUTF16" (119 : Nat) ({ cls := "java/lang/StringUTF16", name := "toBytes", desc := "([CII)[B" } : Jvm.MethodName))).before a0 Z = true := hw _ (List.mem_of_getElem? (i := 28) rfl)
theorem tw29 {Z : State} {a0 : Array Value} (hw : ∀ d ∈ tables_1, d.before a0 Z = true) : ((Jvm.Cond.static ({ cls := "java/lang/StringUTF16", name := "toBytes", desc := "([CII)[B" } : Jvm.MethodName))).before a0 Z = true := hw _ (List.mem_of_getElem? (i := 29) rfl)
theorem tw30 {Z : State} {a0 : Array Value} (hw : ∀ d ∈ tables_1, d.before a0 Z = true) : ((Jvm.Cond.code ({ cls := "java/lang/StringUTF16", name := "toBytes", desc := "([CII)[B" } : Jvm.MethodName) jdk_52_method_14_code (5 : Nat) (Option.some (Jvm.ClassFile.FieldType.array Jvm.ClassFile.FieldType.byte)))).before a0 Z = true := hw _ (List.mem_of_getElem? (i := 30) rfl)
theorem tw31 {Z : State} {a0 : Array Value} (hw : ∀ d ∈ tables_1, d.before a0 Z = true) : ((Jvm.Cond.methodLink "java/lang/StringUTF16" (107 : Nat) ({ cls := "java/lang/StringUTF16", name := "newBytesFor", desc := "(I)[B" } : Jvm.MethodName))).before a0 Z = true := hw _ (List.mem_of_getElem? (i := 31) rfl)
theorem tw32 {Z : State} {a0 : Array Value} (hw : ∀ d ∈ tables_1, d.before a0 Z = true) : ((Jvm.Cond.static ({ cls := "java/lang/StringUTF16", name := "newBytesFor", desc := "(I)[B" } : Jvm.MethodName))).before a0 Z = true := hw _ (List.mem_of_getElem? (i := 32) rfl)
theorem tw33 {Z : State} {a0 : Array Value} (hw : ∀ d ∈ tables_1, d.before a0 Z = true) : ((Jvm.Cond.code ({ cls := "java/lang/StringUTF16", name := "newBytesFor", desc := "(I)[B" } : Jvm.MethodName) jdk_52_method_2_code (1 : Nat) (Option.some (Jvm.ClassFile.FieldType.array Jvm.ClassFile.FieldType.byte)))).before a0 Z = true := hw _ (List.mem_of_getElem? (i := 33) rfl)
theorem tw34 {Z : State} {a0 : Array Value} (hw : ∀ d ∈ tables_1, d.before a0 Z = true) : ((Jvm.Cond.methodLink "java/lang/StringUTF16" (11 : Nat) ({ cls := "java/lang/StringUTF16", name := "newBytesLength", desc := "(I)I" } : Jvm.MethodName))).before a0 Z = true := hw _ (List.mem_of_getElem? (i := 34) rfl)
theorem tw35 {Z : State} {a0 : Array Value} (hw : ∀ d ∈ tables_1, d.before a0 Z = true) : ((Jvm.Cond.static ({ cls := "java/lang/StringUTF16", name := "newBytesLength", desc := "(I)I" } : Jvm.MethodName))).before a0 Z = true := hw _ (List.mem_of_getElem? (i := 35) rfl)
theorem tw36 {Z : State} {a0 : Array Value} (hw : ∀ d ∈ tables_1, d.before a0 Z = true) : ((Jvm.Cond.code ({ cls := "java/lang/StringUTF16", name := "newBytesLength", desc := "(I)I" } : Jvm.MethodName) jdk_52_method_3_code (1 : Nat) (Option.some Jvm.ClassFile.FieldType.int))).before a0 Z = true := hw _ (List.mem_of_getElem? (i := 36) rfl)
theorem tw37 {Z : State} {a0 : Array Value} (hw : ∀ d ∈ tables_1, d.before a0 Z = true) : ((Jvm.Cond.constant "java/lang/StringUTF16" (20 : Nat) (1073741823 : Int32))).before a0 Z = true := hw _ (List.mem_of_getElem? (i := 37) rfl)
theorem tw38 {Z : State} {a0 : Array Value} (hw : ∀ d ∈ tables_1, d.before a0 Z = true) : ((Jvm.Cond.methodLink "java/lang/StringUTF16" (111 : Nat) ({ cls := "java/lang/StringUTF16", name := "putChar", desc := "([BII)V" } : Jvm.MethodName))).before a0 Z = true := hw _ (List.mem_of_getElem? (i := 38) rfl)
theorem tw39 {Z : State} {a0 : Array Value} (hw : ∀ d ∈ tables_1, d.before a0 Z = true) : ((Jvm.Cond.static ({ cls := "java/lang/StringUTF16", name := "putChar", desc := "([BII)V" } : Jvm.MethodName))).before a0 Z = true := hw _ (List.mem_of_getElem? (i := 39) rfl)
theorem tw40 {Z : State} {a0 : Array Value} (hw : ∀ d ∈ tables_1, d.before a0 Z = true) : ((Jvm.Cond.code ({ cls := "java/lang/StringUTF16", name := "putChar", desc := "([BII)V" } : Jvm.MethodName) jdk_52_method_4_code (3 : Nat) (Option.none : Option Jvm.ClassFile.FieldType))).before a0 Z = true := hw _ (List.mem_of_getElem? (i := 40) rfl)
theorem tw41 {Z : State} {a0 : Array Value} (hw : ∀ d ∈ tables_1, d.before a0 Z = true) : ((Jvm.Cond.fieldLink "java/lang/StringUTF16" (44 : Nat) "java/lang/StringUTF16" "$assertionsDisabled" "Z")).before a0 Z = true := hw _ (List.mem_of_getElem? (i := 41) rfl)
theorem tw42 {Z : State} {a0 : Array Value} (hw : ∀ d ∈ tables_1, d.before a0 Z = true) : ((Jvm.Cond.fieldLink "java/lang/StringUTF16" (59 : Nat) "java/lang/StringUTF16" "HI_BYTE_SHIFT" "I")).before a0 Z = true := hw _ (List.mem_of_getElem? (i := 42) rfl)
theorem tw43 {Z : State} {a0 : Array Value} (hw : ∀ d ∈ tables_1, d.before a0 Z = true) : ((Jvm.Cond.fieldLink "java/lang/StringUTF16" (63 : Nat) "java/lang/StringUTF16" "LO_BYTE_SHIFT" "I")).before a0 Z = true := hw _ (List.mem_of_getElem? (i := 43) rfl)
theorem tw44 {Z : State} {a0 : Array Value} (hw : ∀ d ∈ tables_1, d.before a0 Z = true) : ((Jvm.Cond.methodLink "java/lang/StringUTF16" (71 : Nat) ({ cls := "java/lang/StringUTF16", name := "getChar", desc := "([BI)C" } : Jvm.MethodName))).before a0 Z = true := hw _ (List.mem_of_getElem? (i := 44) rfl)
theorem tw45 {Z : State} {a0 : Array Value} (hw : ∀ d ∈ tables_1, d.before a0 Z = true) : ((Jvm.Cond.static ({ cls := "java/lang/StringUTF16", name := "getChar", desc := "([BI)C" } : Jvm.MethodName))).before a0 Z = true := hw _ (List.mem_of_getElem? (i := 45) rfl)
theorem tw46 {Z : State} {a0 : Array Value} (hw : ∀ d ∈ tables_1, d.before a0 Z = true) : ((Jvm.Cond.code ({ cls := "java/lang/StringUTF16", name := "getChar", desc := "([BI)C" } : Jvm.MethodName) jdk_52_method_5_code (2 : Nat) (Option.some Jvm.ClassFile.FieldType.char))).before a0 Z = true := hw _ (List.mem_of_getElem? (i := 46) rfl)
theorem tw47 {Z : State} {a0 : Array Value} (hw : ∀ d ∈ tables_1, d.before a0 Z = true) : ((Jvm.Cond.methodLink "java/lang/String" (47 : Nat) ({ cls := "java/lang/StringUTF16", name := "coderFromArrayLen", desc := "([BI)B" } : Jvm.MethodName))).before a0 Z = true := hw _ (List.mem_of_getElem? (i := 47) rfl)
theorem tw48 {Z : State} {a0 : Array Value} (hw : ∀ d ∈ tables_1, d.before a0 Z = true) : ((Jvm.Cond.static ({ cls := "java/lang/StringUTF16", name := "coderFromArrayLen", desc := "([BI)B" } : Jvm.MethodName))).before a0 Z = true := hw _ (List.mem_of_getElem? (i := 48) rfl)
theorem tw49 {Z : State} {a0 : Array Value} (hw : ∀ d ∈ tables_1, d.before a0 Z = true) : ((Jvm.Cond.code ({ cls := "java/lang/StringUTF16", name := "coderFromArrayLen", desc := "([BI)B" } : Jvm.MethodName) jdk_52_method_15_code (2 : Nat) (Option.some Jvm.ClassFile.FieldType.byte))).before a0 Z = true := hw _ (List.mem_of_getElem? (i := 49) rfl)
theorem tw50 {Z : State} {a0 : Array Value} (hw : ∀ d ∈ tables_1, d.before a0 Z = true) : ((Jvm.Cond.fieldLink "java/lang/String" (15 : Nat) "java/lang/String" "coder" "B")).before a0 Z = true := hw _ (List.mem_of_getElem? (i := 50) rfl)
theorem tw51 {Z : State} {a0 : Array Value} (hw : ∀ d ∈ tables_1, d.before a0 Z = true) : ((Jvm.Cond.laysFinal "java/lang/String" "java/lang/String" "coder" "B")).before a0 Z = true := hw _ (List.mem_of_getElem? (i := 51) rfl)
theorem tw52 {Z : State} {a0 : Array Value} (hw : ∀ d ∈ tables_1, d.before a0 Z = true) : ((Jvm.Cond.fieldLink "java/lang/String" (9 : Nat) "java/lang/String" "value" "[B")).before a0 Z = true := hw _ (List.mem_of_getElem? (i := 52) rfl)
theorem tw53 {Z : State} {a0 : Array Value} (hw : ∀ d ∈ tables_1, d.before a0 Z = true) : ((Jvm.Cond.laysFinal "java/lang/String" "java/lang/String" "value" "[B")).before a0 Z = true := hw _ (List.mem_of_getElem? (i := 53) rfl)
theorem tw54 {Z : State} {a0 : Array Value} (hw : ∀ d ∈ tables_1, d.before a0 Z = true) : ((Jvm.Cond.constant "com/example/fencerow/fencerow/model/DigitsValuePinLaw" (22 : Nat) (2147483647 : Int32))).before a0 Z = true := hw _ (List.mem_of_getElem? (i := 54) rfl)
theorem tw55 {Z : State} {a0 : Array Value} (hw : ∀ d ∈ tables_1, d.before a0 Z = true) : ((Jvm.Cond.arrayClass Jvm.ClassFile.FieldType.long)).before a0 Z = true := hw _ (List.mem_of_getElem? (i := 55) rfl)
theorem tw56 {Z : State} {a0 : Array Value} (hw : ∀ d ∈ tables_1, d.before a0 Z = true) : ((Jvm.Cond.constantLong "com/example/fencerow/fencerow/model/DigitsValuePinLaw" (23 : Nat) (10 : Int64))).before a0 Z = true := hw _ (List.mem_of_getElem? (i := 56) rfl)
theorem tw57 {Z : State} {a0 : Array Value} (hw : ∀ d ∈ tables_1, d.before a0 Z = true) : ((Jvm.Cond.constantLong "com/example/fencerow/fencerow/model/DigitsValuePinLaw" (25 : Nat) (100 : Int64))).before a0 Z = true := hw _ (List.mem_of_getElem? (i := 57) rfl)
theorem tw58 {Z : State} {a0 : Array Value} (hw : ∀ d ∈ tables_1, d.before a0 Z = true) : ((Jvm.Cond.constantLong "com/example/fencerow/fencerow/model/DigitsValuePinLaw" (27 : Nat) (1000 : Int64))).before a0 Z = true := hw _ (List.mem_of_getElem? (i := 58) rfl)
theorem tw59 {Z : State} {a0 : Array Value} (hw : ∀ d ∈ tables_1, d.before a0 Z = true) : ((Jvm.Cond.constantLong "com/example/fencerow/fencerow/model/DigitsValuePinLaw" (29 : Nat) (10000 : Int64))).before a0 Z = true := hw _ (List.mem_of_getElem? (i := 59) rfl)
theorem tw60 {Z : State} {a0 : Array Value} (hw : ∀ d ∈ tables_1, d.before a0 Z = true) : ((Jvm.Cond.constantLong "com/example/fencerow/fencerow/model/DigitsValuePinLaw" (31 : Nat) (100000 : Int64))).before a0 Z = true := hw _ (List.mem_of_getElem? (i := 60) rfl)
theorem tw61 {Z : State} {a0 : Array Value} (hw : ∀ d ∈ tables_1, d.before a0 Z = true) : ((Jvm.Cond.constantLong "com/example/fencerow/fencerow/model/DigitsValuePinLaw" (33 : Nat) (1000000 : Int64))).before a0 Z = true := hw _ (List.mem_of_getElem? (i := 61) rfl)
theorem tw62 {Z : State} {a0 : Array Value} (hw : ∀ d ∈ tables_1, d.before a0 Z = true) : ((Jvm.Cond.constantLong "com/example/fencerow/fencerow/model/DigitsValuePinLaw" (35 : Nat) (10000000 : Int64))).before a0 Z = true := hw _ (List.mem_of_getElem? (i := 62) rfl)
theorem tw63 {Z : State} {a0 : Array Value} (hw : ∀ d ∈ tables_1, d.before a0 Z = true) : ((Jvm.Cond.constantLong "com/example/fencerow/fencerow/model/DigitsValuePinLaw" (37 : Nat) (100000000 : Int64))).before a0 Z = true := hw _ (List.mem_of_getElem? (i := 63) rfl)
theorem tw64 {Z : State} {a0 : Array Value} (hw : ∀ d ∈ tables_1, d.before a0 Z = true) : ((Jvm.Cond.constantLong "com/example/fencerow/fencerow/model/DigitsValuePinLaw" (39 : Nat) (1000000000 : Int64))).before a0 Z = true := hw _ (List.mem_of_getElem? (i := 64) rfl)
theorem tw65 {Z : State} {a0 : Array Value} (hw : ∀ d ∈ tables_1, d.before a0 Z = true) : ((Jvm.Cond.constantLong "com/example/fencerow/fencerow/model/DigitsValuePinLaw" (9 : Nat) (-1 : Int64))).before a0 Z = true := hw _ (List.mem_of_getElem? (i := 65) rfl)
theorem tw66 {Z : State} {a0 : Array Value} (hw : ∀ d ∈ tables_1, d.before a0 Z = true) : ((Jvm.Cond.methodLink "com/example/fencerow/fencerow/model/DigitsValuePinLaw" (41 : Nat) ({ cls := "com/example/fencerow/fencerow/model/DigitsValuePinLaw", name := "term", desc := "([CIII[J)J" } : Jvm.MethodName))).before a0 Z = true := hw _ (List.mem_of_getElem? (i := 66) rfl)
theorem tw67 {Z : State} {a0 : Array Value} (hw : ∀ d ∈ tables_1, d.before a0 Z = true) : ((Jvm.Cond.static ({ cls := "com/example/fencerow/fencerow/model/DigitsValuePinLaw", name := "term", desc := "([CIII[J)J" } : Jvm.MethodName))).before a0 Z = true := hw _ (List.mem_of_getElem? (i := 67) rfl)
theorem tw68 {Z : State} {a0 : Array Value} (hw : ∀ d ∈ tables_1, d.before a0 Z = true) : ((Jvm.Cond.code ({ cls := "com/example/fencerow/fencerow/model/DigitsValuePinLaw", name := "term", desc := "([CIII[J)J" } : Jvm.MethodName) method_3_code (6 : Nat) (Option.some Jvm.ClassFile.FieldType.long))).before a0 Z = true := hw _ (List.mem_of_getElem? (i := 68) rfl)
theorem tw69 {Z : State} {a0 : Array Value} (hw : ∀ d ∈ tables_1, d.before a0 Z = true) : ((Jvm.Cond.methodLink "com/example/fencerow/fencerow/model/DigitsValuePinLaw" (45 : Nat) ({ cls := "com/example/fencerow/fencerow/model/Digits", name := "value", desc := "(Ljava/lang/String;II)I" } : Jvm.MethodName))).before a0 Z = true := hw _ (List.mem_of_getElem? (i := 69) rfl)
theorem tw70 {Z : State} {a0 : Array Value} (hw : ∀ d ∈ tables_1, d.before a0 Z = true) : ((Jvm.Cond.static ({ cls := "com/example/fencerow/fencerow/model/Digits", name := "value", desc := "(Ljava/lang/String;II)I" } : Jvm.MethodName))).before a0 Z = true := hw _ (List.mem_of_getElem? (i := 70) rfl)
theorem tw71 {Z : State} {a0 : Array Value} (hw : ∀ d ∈ tables_1, d.before a0 Z = true) : ((Jvm.Cond.initialized "com/example/fencerow/fencerow/model/Digits")).before a0 Z = true := hw _ (List.mem_of_getElem? (i := 71) rfl)
theorem tw72 {Z : State} {a0 : Array Value} (hw : ∀ d ∈ tables_1, d.before a0 Z = true) : ((Jvm.Cond.code ({ cls := "com/example/fencerow/fencerow/model/Digits", name := "value", desc := "(Ljava/lang/String;II)I" } : Jvm.MethodName) prog_30_method_3_code (5 : Nat) (Option.some Jvm.ClassFile.FieldType.int))).before a0 Z = true := hw _ (List.mem_of_getElem? (i := 72) rfl)
theorem tw73 {Z : State} {a0 : Array Value} (hw : ∀ d ∈ tables_1, d.before a0 Z = true) : ((Jvm.Cond.methodLink "com/example/fencerow/fencerow/model/Digits" (17 : Nat) ({ cls := "com/example/fencerow/fencerow/model/Digits", name := "all", desc := "(Ljava/lang/String;II)Z" } : Jvm.MethodName))).before a0 Z = true := hw _ (List.mem_of_getElem? (i := 73) rfl)
theorem tw74 {Z : State} {a0 : Array Value} (hw : ∀ d ∈ tables_1, d.before a0 Z = true) : ((Jvm.Cond.static ({ cls := "com/example/fencerow/fencerow/model/Digits", name := "all", desc := "(Ljava/lang/String;II)Z" } : Jvm.MethodName))).before a0 Z = true := hw _ (List.mem_of_getElem? (i := 74) rfl)
theorem tw75 {Z : State} {a0 : Array Value} (hw : ∀ d ∈ tables_1, d.before a0 Z = true) : ((Jvm.Cond.code ({ cls := "com/example/fencerow/fencerow/model/Digits", name := "all", desc := "(Ljava/lang/String;II)Z" } : Jvm.MethodName) prog_30_method_2_code (5 : Nat) (Option.some Jvm.ClassFile.FieldType.boolean))).before a0 Z = true := hw _ (List.mem_of_getElem? (i := 75) rfl)
theorem tw76 {Z : State} {a0 : Array Value} (hw : ∀ d ∈ tables_1, d.before a0 Z = true) : ((Jvm.Cond.methodLink "com/example/fencerow/fencerow/model/Digits" (7 : Nat) ({ cls := "java/lang/String", name := "length", desc := "()I" } : Jvm.MethodName))).before a0 Z = true := hw _ (List.mem_of_getElem? (i := 76) rfl)
theorem tw77 {Z : State} {a0 : Array Value} (hw : ∀ d ∈ tables_1, d.before a0 Z = true) : ((Jvm.Cond.declares ({ cls := "java/lang/String", name := "length", desc := "()I" } : Jvm.MethodName))).before a0 Z = true := hw _ (List.mem_of_getElem? (i := 77) rfl)
theorem tw78 {Z : State} {a0 : Array Value} (hw : ∀ d ∈ tables_1, d.before a0 Z = true) : ((Jvm.Cond.instanceMethod ({ cls := "java/lang/String", name := "length", desc := "()I" } : Jvm.MethodName))).before a0 Z = true := hw _ (List.mem_of_getElem? (i := 78) rfl)
theorem tw79 {Z : State} {a0 : Array Value} (hw : ∀ d ∈ tables_1, d.before a0 Z = true) : ((Jvm.Cond.selects "java/lang/String" ({ cls := "java/lang/String", name := "length", desc := "()I" } : Jvm.MethodName) ({ cls := "java/lang/String", name := "length", desc := "()I" } : Jvm.MethodName))).before a0 Z = true := hw _ (List.mem_of_getElem? (i := 79) rfl)
theorem tw80 {Z : State} {a0 : Array Value} (hw : ∀ d ∈ tables_1, d.before a0 Z = true) : ((Jvm.Cond.code ({ cls := "java/lang/String", name := "length", desc := "()I" } : Jvm.MethodName) jdk_42_method_54_code (1 : Nat) (Option.some Jvm.ClassFile.FieldType.int))).before a0 Z = true := hw _ (List.mem_of_getElem? (i := 80) rfl)
theorem tw81 {Z : State} {a0 : Array Value} (hw : ∀ d ∈ tables_1, d.before a0 Z = true) : ((Jvm.Cond.methodLink "java/lang/String" (335 : Nat) ({ cls := "java/lang/String", name := "coder", desc := "()B" } : Jvm.MethodName))).before a0 Z = true := hw _ (List.mem_of_getElem? (i := 81) rfl)
theorem tw82 {Z : State} {a0 : Array Value} (hw : ∀ d ∈ tables_1, d.before a0 Z = true) : ((Jvm.Cond.declares ({ cls := "java/lang/String", name := "coder", desc := "()B" } : Jvm.MethodName))).before a0 Z = true := hw _ (List.mem_of_getElem? (i := 82) rfl)
theorem tw83 {Z : State} {a0 : Array Value} (hw : ∀ d ∈ tables_1, d.before a0 Z = true) : ((Jvm.Cond.instanceMethod ({ cls := "java/lang/String", name := "coder", desc := "()B" } : Jvm.MethodName))).before a0 Z = true := hw _ (List.mem_of_getElem? (i := 83) rfl)
theorem tw84 {Z : State} {a0 : Array Value} (hw : ∀ d ∈ tables_1, d.before a0 Z = true) : ((Jvm.Cond.selects "java/lang/String" ({ cls := "java/lang/String", name := "coder", desc := "()B" } : Jvm.MethodName) ({ cls := "java/lang/String", name := "coder", desc := "()B" } : Jvm.MethodName))).before a0 Z = true := hw _ (List.mem_of_getElem? (i := 84) rfl)
theorem tw85 {Z : State} {a0 : Array Value} (hw : ∀ d ∈ tables_1, d.before a0 Z = true) : ((Jvm.Cond.code ({ cls := "java/lang/String", name := "coder", desc := "()B" } : Jvm.MethodName) jdk_42_method_152_code (1 : Nat) (Option.some Jvm.ClassFile.FieldType.byte))).before a0 Z = true := hw _ (List.mem_of_getElem? (i := 85) rfl)
theorem tw86 {Z : State} {a0 : Array Value} (hw : ∀ d ∈ tables_1, d.before a0 Z = true) : ((Jvm.Cond.methodLink "com/example/fencerow/fencerow/model/Digits" (13 : Nat) ({ cls := "java/lang/String", name := "charAt", desc := "(I)C" } : Jvm.MethodName))).before a0 Z = true := hw _ (List.mem_of_getElem? (i := 86) rfl)
theorem tw87 {Z : State} {a0 : Array Value} (hw : ∀ d ∈ tables_1, d.before a0 Z = true) : ((Jvm.Cond.declares ({ cls := "java/lang/String", name := "charAt", desc := "(I)C" } : Jvm.MethodName))).before a0 Z = true := hw _ (List.mem_of_getElem? (i := 87) rfl)
theorem tw88 {Z : State} {a0 : Array Value} (hw : ∀ d ∈ tables_1, d.before a0 Z = true) : ((Jvm.Cond.instanceMethod ({ cls := "java/lang/String", name := "charAt", desc := "(I)C" } : Jvm.MethodName))).before a0 Z = true := hw _ (List.mem_of_getElem? (i := 88) rfl)
theorem tw89 {Z : State} {a0 : Array Value} (hw : ∀ d ∈ tables_1, d.before a0 Z = true) : ((Jvm.Cond.selects "java/lang/String" ({ cls := "java/lang/String", name := "charAt", desc := "(I)C" } : Jvm.MethodName) ({ cls := "java/lang/String", name := "charAt", desc := "(I)C" } : Jvm.MethodName))).before a0 Z = true := hw _ (List.mem_of_getElem? (i := 89) rfl)
theorem tw90 {Z : State} {a0 : Array Value} (hw : ∀ d ∈ tables_1, d.before a0 Z = true) : ((Jvm.Cond.code ({ cls := "java/lang/String", name := "charAt", desc := "(I)C" } : Jvm.MethodName) jdk_42_method_56_code (2 : Nat) (Option.some Jvm.ClassFile.FieldType.char))).before a0 Z = true := hw _ (List.mem_of_getElem? (i := 90) rfl)
theorem tw91 {Z : State} {a0 : Array Value} (hw : ∀ d ∈ tables_1, d.before a0 Z = true) : ((Jvm.Cond.methodLink "java/lang/String" (492 : Nat) ({ cls := "java/lang/String", name := "isLatin1", desc := "()Z" } : Jvm.MethodName))).before a0 Z = true := hw _ (List.mem_of_getElem? (i := 91) rfl)
theorem tw92 {Z : State} {a0 : Array Value} (hw : ∀ d ∈ tables_1, d.before a0 Z = true) : ((Jvm.Cond.declares ({ cls := "java/lang/String", name := "isLatin1", desc := "()Z" } : Jvm.MethodName))).before a0 Z = true := hw _ (List.mem_of_getElem? (i := 92) rfl)
theorem tw93 {Z : State} {a0 : Array Value} (hw : ∀ d ∈ tables_1, d.before a0 Z = true) : ((Jvm.Cond.instanceMethod ({ cls := "java/lang/String", name := "isLatin1", desc := "()Z" } : Jvm.MethodName))).before a0 Z = true := hw _ (List.mem_of_getElem? (i := 93) rfl)
theorem tw94 {Z : State} {a0 : Array Value} (hw : ∀ d ∈ tables_1, d.before a0 Z = true) : ((Jvm.Cond.selects "java/lang/String" ({ cls := "java/lang/String", name := "isLatin1", desc := "()Z" } : Jvm.MethodName) ({ cls := "java/lang/String", name := "isLatin1", desc := "()Z" } : Jvm.MethodName))).before a0 Z = true := hw _ (List.mem_of_getElem? (i := 94) rfl)
theorem tw95 {Z : State} {a0 : Array Value} (hw : ∀ d ∈ tables_1, d.before a0 Z = true) : ((Jvm.Cond.code ({ cls := "java/lang/String", name := "isLatin1", desc := "()Z" } : Jvm.MethodName) jdk_42_method_154_code (1 : Nat) (Option.some Jvm.ClassFile.FieldType.boolean))).before a0 Z = true := hw _ (List.mem_of_getElem? (i := 95) rfl)
theorem tw96 {Z : State} {a0 : Array Value} (hw : ∀ d ∈ tables_1, d.before a0 Z = true) : ((Jvm.Cond.methodLink "java/lang/String" (498 : Nat) ({ cls := "java/lang/StringUTF16", name := "charAt", desc := "([BI)C" } : Jvm.MethodName))).before a0 Z = true := hw _ (List.mem_of_getElem? (i := 96) rfl)
theorem tw97 {Z : State} {a0 : Array Value} (hw : ∀ d ∈ tables_1, d.before a0 Z = true) : ((Jvm.Cond.static ({ cls := "java/lang/StringUTF16", name := "charAt", desc := "([BI)C" } : Jvm.MethodName))).before a0 Z = true := hw _ (List.mem_of_getElem? (i := 97) rfl)
theorem tw98 {Z : State} {a0 : Array Value} (hw : ∀ d ∈ tables_1, d.before a0 Z = true) : ((Jvm.Cond.code ({ cls := "java/lang/StringUTF16", name := "charAt", desc := "([BI)C" } : Jvm.MethodName) jdk_52_method_83_code (2 : Nat) (Option.some Jvm.ClassFile.FieldType.char))).before a0 Z = true := hw _ (List.mem_of_getElem? (i := 98) rfl)
theorem tw99 {Z : State} {a0 : Array Value} (hw : ∀ d ∈ tables_1, d.before a0 Z = true) : ((Jvm.Cond.methodLink "java/lang/StringUTF16" (67 : Nat) ({ cls := "java/lang/StringUTF16", name := "checkIndex", desc := "(I[B)V" } : Jvm.MethodName))).before a0 Z = true := hw _ (List.mem_of_getElem? (i := 99) rfl)
theorem tw100 {Z : State} {a0 : Array Value} (hw : ∀ d ∈ tables_1, d.before a0 Z = true) : ((Jvm.Cond.static ({ cls := "java/lang/StringUTF16", name := "checkIndex", desc := "(I[B)V" } : Jvm.MethodName))).before a0 Z = true := hw _ (List.mem_of_getElem? (i := 100) rfl)
theorem tw101 {Z : State} {a0 : Array Value} (hw : ∀ d ∈ tables_1, d.before a0 Z = true) : ((Jvm.Cond.code ({ cls := "java/lang/StringUTF16", name := "checkIndex", desc := "(I[B)V" } : Jvm.MethodName) jdk_52_method_91_code (2 : Nat) (Option.none : Option Jvm.ClassFile.FieldType))).before a0 Z = true := hw _ (List.mem_of_getElem? (i := 101) rfl)
theorem tw102 {Z : State} {a0 : Array Value} (hw : ∀ d ∈ tables_1, d.before a0 Z = true) : ((Jvm.Cond.methodLink "java/lang/StringUTF16" (48 : Nat) ({ cls := "java/lang/StringUTF16", name := "length", desc := "([B)I" } : Jvm.MethodName))).before a0 Z = true := hw _ (List.mem_of_getElem? (i := 102) rfl)
theorem tw103 {Z : State} {a0 : Array Value} (hw : ∀ d ∈ tables_1, d.before a0 Z = true) : ((Jvm.Cond.static ({ cls := "java/lang/StringUTF16", name := "length", desc := "([B)I" } : Jvm.MethodName))).before a0 Z = true := hw _ (List.mem_of_getElem? (i := 103) rfl)
theorem tw104 {Z : State} {a0 : Array Value} (hw : ∀ d ∈ tables_1, d.before a0 Z = true) : ((Jvm.Cond.code ({ cls := "java/lang/StringUTF16", name := "length", desc := "([B)I" } : Jvm.MethodName) jdk_52_method_6_code (1 : Nat) (Option.some Jvm.ClassFile.FieldType.int))).before a0 Z = true := hw _ (List.mem_of_getElem? (i := 104) rfl)
theorem tw105 {Z : State} {a0 : Array Value} (hw : ∀ d ∈ tables_1, d.before a0 Z = true) : ((Jvm.Cond.methodLink "java/lang/StringUTF16" (414 : Nat) ({ cls := "java/lang/String", name := "checkIndex", desc := "(II)V" } : Jvm.MethodName))).before a0 Z = true := hw _ (List.mem_of_getElem? (i := 105) rfl)
theorem tw106 {Z : State} {a0 : Array Value} (hw : ∀ d ∈ tables_1, d.before a0 Z = true) : ((Jvm.Cond.static ({ cls := "java/lang/String", name := "checkIndex", desc := "(II)V" } : Jvm.MethodName))).before a0 Z = true := hw _ (List.mem_of_getElem? (i := 106) rfl)
theorem tw107 {Z : State} {a0 : Array Value} (hw : ∀ d ∈ tables_1, d.before a0 Z = true) : ((Jvm.Cond.code ({ cls := "java/lang/String", name := "checkIndex", desc := "(II)V" } : Jvm.MethodName) jdk_42_method_155_code (2 : Nat) (Option.none : Option Jvm.ClassFile.FieldType))).before a0 Z = true := hw _ (List.mem_of_getElem? (i := 107) rfl)
theorem tw108 {Z : State} {a0 : Array Value} (hw : ∀ d ∈ tables_1, d.before a0 Z = true) : ((Jvm.Cond.fieldLink "java/lang/String" (1053 : Nat) "jdk/internal/util/Preconditions" "SIOOBE_FORMATTER" "Ljava/util/function/BiFunction;")).before a0 Z = true := hw _ (List.mem_of_getElem? (i := 108) rfl)
theorem tw109 {Z : State} {a0 : Array Value} (hw : ∀ d ∈ tables_1, d.before a0 Z = true) : ((Jvm.Cond.initialized "jdk/internal/util/Preconditions")).before a0 Z = true := hw _ (List.mem_of_getElem? (i := 109) rfl)
theorem tw110 {Z : State} {a0 : Array Value} (hw : ∀ d ∈ tables_1, d.before a0 Z = true) : ((Jvm.Cond.methodLink "java/lang/String" (1059 : Nat) ({ cls := "jdk/internal/util/Preconditions", name := "checkIndex", desc := "(IILjava/util/function/BiFunction;)I" } : Jvm.MethodName))).before a0 Z = true := hw _ (List.mem_of_getElem? (i := 110) rfl)
theorem tw111 {Z : State} {a0 : Array Value} (hw : ∀ d ∈ tables_1, d.before a0 Z = true) : ((Jvm.Cond.static ({ cls := "jdk/internal/util/Preconditions", name := "checkIndex", desc := "(IILjava/util/function/BiFunction;)I" } : Jvm.MethodName))).before a0 Z = true := hw _ (List.mem_of_getElem? (i := 111) rfl)
theorem tw112 {Z : State} {a0 : Array Value} (hw : ∀ d ∈ tables_1, d.before a0 Z = true) : ((Jvm.Cond.code ({ cls := "jdk/internal/util/Preconditions", name := "checkIndex", desc := "(IILjava/util/function/BiFunction;)I" } : Jvm.MethodName) jdk_41_method_11_code (3 : Nat) (Option.some Jvm.ClassFile.FieldType.int))).before a0 Z = true := hw _ (List.mem_of_getElem? (i := 112) rfl)
theorem tw113 {Z : State} {a0 : Array Value} (hw : ∀ d ∈ tables_1, d.before a0 Z = true) : ((Jvm.Cond.methodLink "java/lang/String" (495 : Nat) ({ cls := "java/lang/StringLatin1", name := "charAt", desc := "([BI)C" } : Jvm.MethodName))).before a0 Z = true := hw _ (List.mem_of_getElem? (i := 113) rfl)
theorem tw114 {Z : State} {a0 : Array Value} (hw : ∀ d ∈ tables_1, d.before a0 Z = true) : ((Jvm.Cond.static ({ cls := "java/lang/StringLatin1", name := "charAt", desc := "([BI)C" } : Jvm.MethodName))).before a0 Z = true := hw _ (List.mem_of_getElem? (i := 114) rfl)
theorem tw115 {Z : State} {a0 : Array Value} (hw : ∀ d ∈ tables_1, d.before a0 Z = true) : ((Jvm.Cond.initialized "java/lang/StringLatin1")).before a0 Z = true := hw _ (List.mem_of_getElem? (i := 115) rfl)
theorem tw116 {Z : State} {a0 : Array Value} (hw : ∀ d ∈ tables_1, d.before a0 Z = true) : ((Jvm.Cond.code ({ cls := "java/lang/StringLatin1", name := "charAt", desc := "([BI)C" } : Jvm.MethodName) jdk_43_method_2_code (2 : Nat) (Option.some Jvm.ClassFile.FieldType.char))).before a0 Z = true := hw _ (List.mem_of_getElem? (i := 116) rfl)
theorem tw117 {Z : State} {a0 : Array Value} (hw : ∀ d ∈ tables_1, d.before a0 Z = true) : ((Jvm.Cond.methodLink "java/lang/StringLatin1" (9 : Nat) ({ cls := "java/lang/String", name := "checkIndex", desc := "(II)V" } : Jvm.MethodName))).before a0 Z = true := hw _ (List.mem_of_getElem? (i := 117) rfl)
theorem d1_0 : decode method_2_code 0 = .ok (.lload_n 0, 1) := by decide +kernel
theorem d1_1 : decode method_2_code 1 = .ok (.bipush 16, 2) := by decide +kernel
theorem d1_3 : decode method_2_code 3 = .ok (.iload_n 2, 1) := by decide +kernel
theorem d1_4 : decode method_2_code 4 = .ok (.imul, 1) := by decide +kernel
theorem d1_5 : decode method_2_code 5 = .ok (.lushr, 1) := by decide +kernel
theorem d1_6 : decode method_2_code 6 = .ok (.ldc2_w 7, 3) := by decide +kernel
theorem d1_9 : decode method_2_code 9 = .ok (.land, 1) := by decide +kernel
theorem d1_10 : decode method_2_code 10 = .ok (.l2i, 1) := by decide +kernel
theorem d1_11 : decode method_2_code 11 = .ok (.istore 5, 2) := by decide +kernel
theorem d1_13 : decode method_2_code 13 = .ok (.iload_n 3, 1) := by decide +kernel
theorem d1_14 : decode method_2_code 14 = .ok (.iconst 2, 1) := by decide +kernel
theorem d1_15 : decode method_2_code 15 = .ok (.iload 4, 2) := by decide +kernel
theorem d1_17 : decode method_2_code 17 = .ok (.imul, 1) := by decide +kernel
theorem d1_18 : decode method_2_code 18 = .ok (.iushr, 1) := by decide +kernel
theorem d1_19 : decode method_2_code 19 = .ok (.iconst 3, 1) := by decide +kernel
theorem d1_20 : decode method_2_code 20 = .ok (.iand, 1) := by decide +kernel
theorem d1_21 : decode method_2_code 21 = .ok (.istore 6, 2) := by decide +kernel
theorem d1_23 : decode method_2_code 23 = .ok (.iload 6, 2) := by decide +kernel
theorem d1_25 : decode method_2_code 25 = .ok (.ifCond .eq 13, 3) := by decide +kernel
theorem d1_28 : decode method_2_code 28 = .ok (.bipush 48, 2) := by decide +kernel
theorem d1_30 : decode method_2_code 30 = .ok (.iload 5, 2) := by decide +kernel
theorem d1_32 : decode method_2_code 32 = .ok (.bipush 10, 2) := by decide +kernel
theorem d1_34 : decode method_2_code 34 = .ok (.irem, 1) := by decide +kernel
theorem d1_35 : decode method_2_code 35 = .ok (.iadd, 1) := by decide +kernel
theorem d1_36 : decode method_2_code 36 = .ok (.i2c, 1) := by decide +kernel
theorem d1_37 : decode method_2_code 37 = .ok (.ireturn, 1) := by decide +kernel
theorem d1_38 : decode method_2_code 38 = .ok (.iload 5, 2) := by decide +kernel
theorem d1_40 : decode method_2_code 40 = .ok (.i2c, 1) := by decide +kernel
theorem d1_41 : decode method_2_code 41 = .ok (.ireturn, 1) := by decide +kernel
theorem d2_0 : decode jdk_42_method_3_code 0 = .ok (.aload_n 0, 1) := by decide +kernel
theorem d2_1 : decode jdk_42_method_3_code 1 = .ok (.aload_n 1, 1) := by decide +kernel
theorem d2_2 : decode jdk_42_method_3_code 2 = .ok (.iconst 0, 1) := by decide +kernel
theorem d2_3 : decode jdk_42_method_3_code 3 = .ok (.aload_n 1, 1) := by decide +kernel
theorem d2_4 : decode jdk_42_method_3_code 4 = .ok (.arraylength, 1) := by decide +kernel
theorem d2_5 : decode jdk_42_method_3_code 5 = .ok (.aconst_null, 1) := by decide +kernel
theorem d2_6 : decode jdk_42_method_3_code 6 = .ok (.invokespecial 27, 3) := by decide +kernel
theorem d2_9 : decode jdk_42_method_3_code 9 = .ok (.return_, 1) := by decide +kernel
theorem d3_0 : decode jdk_42_method_149_code 0 = .ok (.aload_n 0, 1) := by decide +kernel
theorem d3_1 : decode jdk_42_method_149_code 1 = .ok (.invokespecial 1, 3) := by decide +kernel
theorem d3_4 : decode jdk_42_method_149_code 4 = .ok (.iload_n 3, 1) := by decide +kernel
theorem d3_5 : decode jdk_42_method_149_code 5 = .ok (.ifCond .ne 22, 3) := by decide +kernel
theorem d3_27 : decode jdk_42_method_149_code 27 = .ok (.getstatic 38, 3) := by decide +kernel
theorem d3_30 : decode jdk_42_method_149_code 30 = .ok (.ifCond .eq 28, 3) := by decide +kernel
theorem d3_33 : decode jdk_42_method_149_code 33 = .ok (.aload_n 1, 1) := by decide +kernel
theorem d3_34 : decode jdk_42_method_149_code 34 = .ok (.iload_n 2, 1) := by decide +kernel
theorem d3_35 : decode jdk_42_method_149_code 35 = .ok (.iload_n 3, 1) := by decide +kernel
theorem d3_36 : decode jdk_42_method_149_code 36 = .ok (.invokestatic 177, 3) := by decide +kernel
theorem d3_39 : decode jdk_42_method_149_code 39 = .ok (.astore 5, 2) := by decide +kernel
theorem d3_41 : decode jdk_42_method_149_code 41 = .ok (.aload_n 0, 1) := by decide +kernel
theorem d3_42 : decode jdk_42_method_149_code 42 = .ok (.aload 5, 2) := by decide +kernel
theorem d3_44 : decode jdk_42_method_149_code 44 = .ok (.iload_n 3, 1) := by decide +kernel
theorem d3_45 : decode jdk_42_method_149_code 45 = .ok (.invokestatic 47, 3) := by decide +kernel
theorem d3_48 : decode jdk_42_method_149_code 48 = .ok (.putfield 15, 3) := by decide +kernel
theorem d3_51 : decode jdk_42_method_149_code 51 = .ok (.aload_n 0, 1) := by decide +kernel
theorem d3_52 : decode jdk_42_method_149_code 52 = .ok (.aload 5, 2) := by decide +kernel
theorem d3_54 : decode jdk_42_method_149_code 54 = .ok (.putfield 9, 3) := by decide +kernel
theorem d3_57 : decode jdk_42_method_149_code 57 = .ok (.return_, 1) := by decide +kernel
theorem d5_0 : decode jdk_52_method_16_code 0 = .ok (.iload_n 2, 1) := by decide +kernel
theorem d5_1 : decode jdk_52_method_16_code 1 = .ok (.newarray .byte, 2) := by decide +kernel
theorem d5_3 : decode jdk_52_method_16_code 3 = .ok (.astore_n 3, 1) := by decide +kernel
theorem d5_4 : decode jdk_52_method_16_code 4 = .ok (.aload_n 0, 1) := by decide +kernel
theorem d5_5 : decode jdk_52_method_16_code 5 = .ok (.iload_n 1, 1) := by decide +kernel
theorem d5_6 : decode jdk_52_method_16_code 6 = .ok (.aload_n 3, 1) := by decide +kernel
theorem d5_7 : decode jdk_52_method_16_code 7 = .ok (.iconst 0, 1) := by decide +kernel
theorem d5_8 : decode jdk_52_method_16_code 8 = .ok (.iload_n 2, 1) := by decide +kernel
theorem d5_9 : decode jdk_52_method_16_code 9 = .ok (.invokestatic 115, 3) := by decide +kernel
theorem d5_12 : decode jdk_52_method_16_code 12 = .ok (.istore 4, 2) := by decide +kernel
theorem d5_14 : decode jdk_52_method_16_code 14 = .ok (.iload 4, 2) := by decide +kernel
theorem d5_16 : decode jdk_52_method_16_code 16 = .ok (.iload_n 2, 1) := by decide +kernel
theorem d5_17 : decode jdk_52_method_16_code 17 = .ok (.if_icmp .eq 40, 3) := by decide +kernel
theorem d5_20 : decode jdk_52_method_16_code 20 = .ok (.aload_n 0, 1) := by decide +kernel
theorem d5_21 : decode jdk_52_method_16_code 21 = .ok (.iload_n 1, 1) := by decide +kernel
theorem d5_22 : decode jdk_52_method_16_code 22 = .ok (.iload_n 2, 1) := by decide +kernel
theorem d5_23 : decode jdk_52_method_16_code 23 = .ok (.invokestatic 119, 3) := by decide +kernel
theorem d5_26 : decode jdk_52_method_16_code 26 = .ok (.astore 5, 2) := by decide +kernel
theorem d5_28 : decode jdk_52_method_16_code 28 = .ok (.aload 5, 2) := by decide +kernel
theorem d5_30 : decode jdk_52_method_16_code 30 = .ok (.iload 4, 2) := by decide +kernel
theorem d5_32 : decode jdk_52_method_16_code 32 = .ok (.invokestatic 71, 3) := by decide +kernel
theorem d5_35 : decode jdk_52_method_16_code 35 = .ok (.sipush 255, 3) := by decide +kernel
theorem d5_38 : decode jdk_52_method_16_code 38 = .ok (.if_icmp .gt 16, 3) := by decide +kernel
theorem d5_54 : decode jdk_52_method_16_code 54 = .ok (.aload 5, 2) := by decide +kernel
theorem d5_56 : decode jdk_52_method_16_code 56 = .ok (.areturn, 1) := by decide +kernel
theorem d5_57 : decode jdk_52_method_16_code 57 = .ok (.aload_n 3, 1) := by decide +kernel
theorem d5_58 : decode jdk_52_method_16_code 58 = .ok (.areturn, 1) := by decide +kernel
theorem d6_0 : decode jdk_52_method_21_code 0 = .ok (.iconst 0, 1) := by decide +kernel
theorem d6_1 : decode jdk_52_method_21_code 1 = .ok (.istore 5, 2) := by decide +kernel
theorem d6_3 : decode jdk_52_method_21_code 3 = .ok (.iload 5, 2) := by decide +kernel
theorem d6_5 : decode jdk_52_method_21_code 5 = .ok (.iload 4, 2) := by decide +kernel
theorem d6_7 : decode jdk_52_method_21_code 7 = .ok (.if_icmp .ge 37, 3) := by decide +kernel
theorem d6_10 : decode jdk_52_method_21_code 10 = .ok (.aload_n 0, 1) := by decide +kernel
theorem d6_11 : decode jdk_52_method_21_code 11 = .ok (.iload_n 1, 1) := by decide +kernel
theorem d6_12 : decode jdk_52_method_21_code 12 = .ok (.caload, 1) := by decide +kernel
theorem d6_13 : decode jdk_52_method_21_code 13 = .ok (.istore 6, 2) := by decide +kernel
theorem d6_15 : decode jdk_52_method_21_code 15 = .ok (.iload 6, 2) := by decide +kernel
theorem d6_17 : decode jdk_52_method_21_code 17 = .ok (.sipush 255, 3) := by decide +kernel
theorem d6_20 : decode jdk_52_method_21_code 20 = .ok (.if_icmp .le 6, 3) := by decide +kernel
theorem d6_23 : decode jdk_52_method_21_code 23 = .ok (.iload 5, 2) := by decide +kernel
theorem d6_25 : decode jdk_52_method_21_code 25 = .ok (.ireturn, 1) := by decide +kernel
theorem d6_26 : decode jdk_52_method_21_code 26 = .ok (.aload_n 2, 1) := by decide +kernel
theorem d6_27 : decode jdk_52_method_21_code 27 = .ok (.iload_n 3, 1) := by decide +kernel
theorem d6_28 : decode jdk_52_method_21_code 28 = .ok (.iload 6, 2) := by decide +kernel
theorem d6_30 : decode jdk_52_method_21_code 30 = .ok (.i2b, 1) := by decide +kernel
theorem d6_31 : decode jdk_52_method_21_code 31 = .ok (.bastore, 1) := by decide +kernel
theorem d6_32 : decode jdk_52_method_21_code 32 = .ok (.iinc 1 1, 3) := by decide +kernel
theorem d6_35 : decode jdk_52_method_21_code 35 = .ok (.iinc 3 1, 3) := by decide +kernel
theorem d6_38 : decode jdk_52_method_21_code 38 = .ok (.iinc 5 1, 3) := by decide +kernel
theorem d6_41 : decode jdk_52_method_21_code 41 = .ok (.goto (-38), 3) := by decide +kernel
theorem d6_44 : decode jdk_52_method_21_code 44 = .ok (.iload 4, 2) := by decide +kernel
theorem d6_46 : decode jdk_52_method_21_code 46 = .ok (.ireturn, 1) := by decide +kernel
theorem d7_0 : decode jdk_52_method_14_code 0 = .ok (.iload_n 2, 1) := by decide +kernel
theorem d7_1 : decode jdk_52_method_14_code 1 = .ok (.invokestatic 107, 3) := by decide +kernel
theorem d7_4 : decode jdk_52_method_14_code 4 = .ok (.astore_n 3, 1) := by decide +kernel
theorem d7_5 : decode jdk_52_method_14_code 5 = .ok (.iconst 0, 1) := by decide +kernel
theorem d7_6 : decode jdk_52_method_14_code 6 = .ok (.istore 4, 2) := by decide +kernel
theorem d7_8 : decode jdk_52_method_14_code 8 = .ok (.iload 4, 2) := by decide +kernel
theorem d7_10 : decode jdk_52_method_14_code 10 = .ok (.iload_n 2, 1) := by decide +kernel
theorem d7_11 : decode jdk_52_method_14_code 11 = .ok (.if_icmp .ge 21, 3) := by decide +kernel
theorem d7_14 : decode jdk_52_method_14_code 14 = .ok (.aload_n 3, 1) := by decide +kernel
theorem d7_15 : decode jdk_52_method_14_code 15 = .ok (.iload 4, 2) := by decide +kernel
theorem d7_17 : decode jdk_52_method_14_code 17 = .ok (.aload_n 0, 1) := by decide +kernel
theorem d7_18 : decode jdk_52_method_14_code 18 = .ok (.iload_n 1, 1) := by decide +kernel
theorem d7_19 : decode jdk_52_method_14_code 19 = .ok (.caload, 1) := by decide +kernel
theorem d7_20 : decode jdk_52_method_14_code 20 = .ok (.invokestatic 111, 3) := by decide +kernel
theorem d7_23 : decode jdk_52_method_14_code 23 = .ok (.iinc 1 1, 3) := by decide +kernel
theorem d7_26 : decode jdk_52_method_14_code 26 = .ok (.iinc 4 1, 3) := by decide +kernel
theorem d7_29 : decode jdk_52_method_14_code 29 = .ok (.goto (-21), 3) := by decide +kernel
theorem d7_32 : decode jdk_52_method_14_code 32 = .ok (.aload_n 3, 1) := by decide +kernel
theorem d7_33 : decode jdk_52_method_14_code 33 = .ok (.areturn, 1) := by decide +kernel
theorem d8_0 : decode jdk_52_method_2_code 0 = .ok (.iload_n 0, 1) := by decide +kernel
theorem d8_1 : decode jdk_52_method_2_code 1 = .ok (.invokestatic 11, 3) := by decide +kernel
theorem d8_4 : decode jdk_52_method_2_code 4 = .ok (.newarray .byte, 2) := by decide +kernel
theorem d8_6 : decode jdk_52_method_2_code 6 = .ok (.areturn, 1) := by decide +kernel
theorem d9_0 : decode jdk_52_method_3_code 0 = .ok (.iload_n 0, 1) := by decide +kernel
theorem d9_1 : decode jdk_52_method_3_code 1 = .ok (.ifCond .ge 11, 3) := by decide +kernel
theorem d9_12 : decode jdk_52_method_3_code 12 = .ok (.iload_n 0, 1) := by decide +kernel
theorem d9_13 : decode jdk_52_method_3_code 13 = .ok (.ldc 20, 2) := by decide +kernel
theorem d9_15 : decode jdk_52_method_3_code 15 = .ok (.if_icmp .lt 40, 3) := by decide +kernel
theorem d9_55 : decode jdk_52_method_3_code 55 = .ok (.iload_n 0, 1) := by decide +kernel
theorem d9_56 : decode jdk_52_method_3_code 56 = .ok (.iconst 1, 1) := by decide +kernel
theorem d9_57 : decode jdk_52_method_3_code 57 = .ok (.ishl, 1) := by decide +kernel
theorem d9_58 : decode jdk_52_method_3_code 58 = .ok (.ireturn, 1) := by decide +kernel
theorem d10_0 : decode jdk_52_method_4_code 0 = .ok (.getstatic 44, 3) := by decide +kernel
theorem d10_3 : decode jdk_52_method_4_code 3 = .ok (.ifCond .ne 25, 3) := by decide +kernel
theorem d10_28 : decode jdk_52_method_4_code 28 = .ok (.iload_n 1, 1) := by decide +kernel
theorem d10_29 : decode jdk_52_method_4_code 29 = .ok (.iconst 1, 1) := by decide +kernel
theorem d10_30 : decode jdk_52_method_4_code 30 = .ok (.ishl, 1) := by decide +kernel
theorem d10_31 : decode jdk_52_method_4_code 31 = .ok (.istore_n 1, 1) := by decide +kernel
theorem d10_32 : decode jdk_52_method_4_code 32 = .ok (.aload_n 0, 1) := by decide +kernel
theorem d10_33 : decode jdk_52_method_4_code 33 = .ok (.iload_n 1, 1) := by decide +kernel
theorem d10_34 : decode jdk_52_method_4_code 34 = .ok (.iinc 1 1, 3) := by decide +kernel
theorem d10_37 : decode jdk_52_method_4_code 37 = .ok (.iload_n 2, 1) := by decide +kernel
theorem d10_38 : decode jdk_52_method_4_code 38 = .ok (.getstatic 59, 3) := by decide +kernel
theorem d10_41 : decode jdk_52_method_4_code 41 = .ok (.ishr, 1) := by decide +kernel
theorem d10_42 : decode jdk_52_method_4_code 42 = .ok (.i2b, 1) := by decide +kernel
theorem d10_43 : decode jdk_52_method_4_code 43 = .ok (.bastore, 1) := by decide +kernel
theorem d10_44 : decode jdk_52_method_4_code 44 = .ok (.aload_n 0, 1) := by decide +kernel
theorem d10_45 : decode jdk_52_method_4_code 45 = .ok (.iload_n 1, 1) := by decide +kernel
theorem d10_46 : decode jdk_52_method_4_code 46 = .ok (.iload_n 2, 1) := by decide +kernel
theorem d10_47 : decode jdk_52_method_4_code 47 = .ok (.getstatic 63, 3) := by decide +kernel
theorem d10_50 : decode jdk_52_method_4_code 50 = .ok (.ishr, 1) := by decide +kernel
theorem d10_51 : decode jdk_52_method_4_code 51 = .ok (.i2b, 1) := by decide +kernel
theorem d10_52 : decode jdk_52_method_4_code 52 = .ok (.bastore, 1) := by decide +kernel
theorem d10_53 : decode jdk_52_method_4_code 53 = .ok (.return_, 1) := by decide +kernel
theorem d11_0 : decode jdk_52_method_5_code 0 = .ok (.getstatic 44, 3) := by decide +kernel
theorem d11_3 : decode jdk_52_method_5_code 3 = .ok (.ifCond .ne 25, 3) := by decide +kernel
theorem d11_28 : decode jdk_52_method_5_code 28 = .ok (.iload_n 1, 1) := by decide +kernel
theorem d11_29 : decode jdk_52_method_5_code 29 = .ok (.iconst 1, 1) := by decide +kernel
theorem d11_30 : decode jdk_52_method_5_code 30 = .ok (.ishl, 1) := by decide +kernel
theorem d11_31 : decode jdk_52_method_5_code 31 = .ok (.istore_n 1, 1) := by decide +kernel
theorem d11_32 : decode jdk_52_method_5_code 32 = .ok (.aload_n 0, 1) := by decide +kernel
theorem d11_33 : decode jdk_52_method_5_code 33 = .ok (.iload_n 1, 1) := by decide +kernel
theorem d11_34 : decode jdk_52_method_5_code 34 = .ok (.iinc 1 1, 3) := by decide +kernel
theorem d11_37 : decode jdk_52_method_5_code 37 = .ok (.baload, 1) := by decide +kernel
theorem d11_38 : decode jdk_52_method_5_code 38 = .ok (.sipush 255, 3) := by decide +kernel
theorem d11_41 : decode jdk_52_method_5_code 41 = .ok (.iand, 1) := by decide +kernel
theorem d11_42 : decode jdk_52_method_5_code 42 = .ok (.getstatic 59, 3) := by decide +kernel
theorem d11_45 : decode jdk_52_method_5_code 45 = .ok (.ishl, 1) := by decide +kernel
theorem d11_46 : decode jdk_52_method_5_code 46 = .ok (.aload_n 0, 1) := by decide +kernel
theorem d11_47 : decode jdk_52_method_5_code 47 = .ok (.iload_n 1, 1) := by decide +kernel
theorem d11_48 : decode jdk_52_method_5_code 48 = .ok (.baload, 1) := by decide +kernel
theorem d11_49 : decode jdk_52_method_5_code 49 = .ok (.sipush 255, 3) := by decide +kernel
theorem d11_52 : decode jdk_52_method_5_code 52 = .ok (.iand, 1) := by decide +kernel
theorem d11_53 : decode jdk_52_method_5_code 53 = .ok (.getstatic 63, 3) := by decide +kernel
theorem d11_56 : decode jdk_52_method_5_code 56 = .ok (.ishl, 1) := by decide +kernel
theorem d11_57 : decode jdk_52_method_5_code 57 = .ok (.ior, 1) := by decide +kernel
theorem d11_58 : decode jdk_52_method_5_code 58 = .ok (.i2c, 1) := by decide +kernel
theorem d11_59 : decode jdk_52_method_5_code 59 = .ok (.ireturn, 1) := by decide +kernel
theorem d12_0 : decode jdk_52_method_15_code 0 = .ok (.iload_n 1, 1) := by decide +kernel
theorem d12_1 : decode jdk_52_method_15_code 1 = .ok (.aload_n 0, 1) := by decide +kernel
theorem d12_2 : decode jdk_52_method_15_code 2 = .ok (.arraylength, 1) := by decide +kernel
theorem d12_3 : decode jdk_52_method_15_code 3 = .ok (.isub, 1) := by decide +kernel
theorem d12_4 : decode jdk_52_method_15_code 4 = .ok (.bipush 31, 2) := by decide +kernel
theorem d12_6 : decode jdk_52_method_15_code 6 = .ok (.iushr, 1) := by decide +kernel
theorem d12_7 : decode jdk_52_method_15_code 7 = .ok (.i2b, 1) := by decide +kernel
theorem d12_8 : decode jdk_52_method_15_code 8 = .ok (.ireturn, 1) := by decide +kernel
theorem d13_0 : decode method_3_code 0 = .ok (.iload_n 1, 1) := by decide +kernel
theorem d13_1 : decode method_3_code 1 = .ok (.iload_n 2, 1) := by decide +kernel
theorem d13_2 : decode method_3_code 2 = .ok (.if_icmp .lt 8, 3) := by decide +kernel
theorem d13_5 : decode method_3_code 5 = .ok (.iload_n 1, 1) := by decide +kernel
theorem d13_6 : decode method_3_code 6 = .ok (.iload_n 3, 1) := by decide +kernel
theorem d13_7 : decode method_3_code 7 = .ok (.if_icmp .lt 5, 3) := by decide +kernel
theorem d13_10 : decode method_3_code 10 = .ok (.lconst 0, 1) := by decide +kernel
theorem d13_11 : decode method_3_code 11 = .ok (.lreturn, 1) := by decide +kernel
theorem d13_12 : decode method_3_code 12 = .ok (.aload_n 0, 1) := by decide +kernel
theorem d13_13 : decode method_3_code 13 = .ok (.iload_n 1, 1) := by decide +kernel
theorem d13_14 : decode method_3_code 14 = .ok (.caload, 1) := by decide +kernel
theorem d13_15 : decode method_3_code 15 = .ok (.istore 5, 2) := by decide +kernel
theorem d13_17 : decode method_3_code 17 = .ok (.iload 5, 2) := by decide +kernel
theorem d13_19 : decode method_3_code 19 = .ok (.bipush 48, 2) := by decide +kernel
theorem d13_21 : decode method_3_code 21 = .ok (.if_icmp .lt 10, 3) := by decide +kernel
theorem d13_24 : decode method_3_code 24 = .ok (.iload 5, 2) := by decide +kernel
theorem d13_26 : decode method_3_code 26 = .ok (.bipush 57, 2) := by decide +kernel
theorem d13_28 : decode method_3_code 28 = .ok (.if_icmp .le 7, 3) := by decide +kernel
theorem d13_31 : decode method_3_code 31 = .ok (.ldc2_w 9, 3) := by decide +kernel
theorem d13_34 : decode method_3_code 34 = .ok (.lreturn, 1) := by decide +kernel
theorem d13_35 : decode method_3_code 35 = .ok (.iload 5, 2) := by decide +kernel
theorem d13_37 : decode method_3_code 37 = .ok (.bipush 48, 2) := by decide +kernel
theorem d13_39 : decode method_3_code 39 = .ok (.isub, 1) := by decide +kernel
theorem d13_40 : decode method_3_code 40 = .ok (.i2l, 1) := by decide +kernel
theorem d13_41 : decode method_3_code 41 = .ok (.aload 4, 2) := by decide +kernel
theorem d13_43 : decode method_3_code 43 = .ok (.iload_n 3, 1) := by decide +kernel
theorem d13_44 : decode method_3_code 44 = .ok (.iconst 1, 1) := by decide +kernel
theorem d13_45 : decode method_3_code 45 = .ok (.isub, 1) := by decide +kernel
theorem d13_46 : decode method_3_code 46 = .ok (.iload_n 1, 1) := by decide +kernel
theorem d13_47 : decode method_3_code 47 = .ok (.isub, 1) := by decide +kernel
theorem d13_48 : decode method_3_code 48 = .ok (.laload, 1) := by decide +kernel
theorem d13_49 : decode method_3_code 49 = .ok (.lmul, 1) := by decide +kernel
theorem d13_50 : decode method_3_code 50 = .ok (.lreturn, 1) := by decide +kernel
theorem d14_0 : decode prog_30_method_3_code 0 = .ok (.aload_n 0, 1) := by decide +kernel
theorem d14_1 : decode prog_30_method_3_code 1 = .ok (.iload_n 1, 1) := by decide +kernel
theorem d14_2 : decode prog_30_method_3_code 2 = .ok (.iload_n 2, 1) := by decide +kernel
theorem d14_3 : decode prog_30_method_3_code 3 = .ok (.invokestatic 17, 3) := by decide +kernel
theorem d14_6 : decode prog_30_method_3_code 6 = .ok (.ifCond .ne 5, 3) := by decide +kernel
theorem d14_9 : decode prog_30_method_3_code 9 = .ok (.iconst (-1), 1) := by decide +kernel
theorem d14_10 : decode prog_30_method_3_code 10 = .ok (.ireturn, 1) := by decide +kernel
theorem d14_11 : decode prog_30_method_3_code 11 = .ok (.iconst 0, 1) := by decide +kernel
theorem d14_12 : decode prog_30_method_3_code 12 = .ok (.istore_n 3, 1) := by decide +kernel
theorem d14_13 : decode prog_30_method_3_code 13 = .ok (.iload_n 1, 1) := by decide +kernel
theorem d14_14 : decode prog_30_method_3_code 14 = .ok (.istore 4, 2) := by decide +kernel
theorem d14_16 : decode prog_30_method_3_code 16 = .ok (.iload 4, 2) := by decide +kernel
theorem d14_18 : decode prog_30_method_3_code 18 = .ok (.iload_n 2, 1) := by decide +kernel
theorem d14_19 : decode prog_30_method_3_code 19 = .ok (.if_icmp .ge 24, 3) := by decide +kernel
theorem d14_22 : decode prog_30_method_3_code 22 = .ok (.iload_n 3, 1) := by decide +kernel
theorem d14_23 : decode prog_30_method_3_code 23 = .ok (.bipush 10, 2) := by decide +kernel
theorem d14_25 : decode prog_30_method_3_code 25 = .ok (.imul, 1) := by decide +kernel
theorem d14_26 : decode prog_30_method_3_code 26 = .ok (.aload_n 0, 1) := by decide +kernel
theorem d14_27 : decode prog_30_method_3_code 27 = .ok (.iload 4, 2) := by decide +kernel
theorem d14_29 : decode prog_30_method_3_code 29 = .ok (.invokevirtual 13, 3) := by decide +kernel
theorem d14_32 : decode prog_30_method_3_code 32 = .ok (.iadd, 1) := by decide +kernel
theorem d14_33 : decode prog_30_method_3_code 33 = .ok (.bipush 48, 2) := by decide +kernel
theorem d14_35 : decode prog_30_method_3_code 35 = .ok (.isub, 1) := by decide +kernel
theorem d14_36 : decode prog_30_method_3_code 36 = .ok (.istore_n 3, 1) := by decide +kernel
theorem d14_37 : decode prog_30_method_3_code 37 = .ok (.iinc 4 1, 3) := by decide +kernel
theorem d14_40 : decode prog_30_method_3_code 40 = .ok (.goto (-24), 3) := by decide +kernel
theorem d14_43 : decode prog_30_method_3_code 43 = .ok (.iload_n 3, 1) := by decide +kernel
theorem d14_44 : decode prog_30_method_3_code 44 = .ok (.ireturn, 1) := by decide +kernel
theorem d15_0 : decode prog_30_method_2_code 0 = .ok (.iload_n 1, 1) := by decide +kernel
theorem d15_1 : decode prog_30_method_2_code 1 = .ok (.iload_n 2, 1) := by decide +kernel
theorem d15_2 : decode prog_30_method_2_code 2 = .ok (.if_icmp .ge 11, 3) := by decide +kernel
theorem d15_5 : decode prog_30_method_2_code 5 = .ok (.iload_n 2, 1) := by decide +kernel
theorem d15_6 : decode prog_30_method_2_code 6 = .ok (.aload_n 0, 1) := by decide +kernel
theorem d15_7 : decode prog_30_method_2_code 7 = .ok (.invokevirtual 7, 3) := by decide +kernel
theorem d15_10 : decode prog_30_method_2_code 10 = .ok (.if_icmp .le 5, 3) := by decide +kernel
theorem d15_13 : decode prog_30_method_2_code 13 = .ok (.iconst 0, 1) := by decide +kernel
theorem d15_14 : decode prog_30_method_2_code 14 = .ok (.ireturn, 1) := by decide +kernel
theorem d15_15 : decode prog_30_method_2_code 15 = .ok (.iload_n 1, 1) := by decide +kernel
theorem d15_16 : decode prog_30_method_2_code 16 = .ok (.istore_n 3, 1) := by decide +kernel
theorem d15_17 : decode prog_30_method_2_code 17 = .ok (.iload_n 3, 1) := by decide +kernel
theorem d15_18 : decode prog_30_method_2_code 18 = .ok (.iload_n 2, 1) := by decide +kernel
theorem d15_19 : decode prog_30_method_2_code 19 = .ok (.if_icmp .ge 32, 3) := by decide +kernel
theorem d15_22 : decode prog_30_method_2_code 22 = .ok (.aload_n 0, 1) := by decide +kernel
theorem d15_23 : decode prog_30_method_2_code 23 = .ok (.iload_n 3, 1) := by decide +kernel
theorem d15_24 : decode prog_30_method_2_code 24 = .ok (.invokevirtual 13, 3) := by decide +kernel
theorem d15_27 : decode prog_30_method_2_code 27 = .ok (.istore 4, 2) := by decide +kernel
theorem d15_29 : decode prog_30_method_2_code 29 = .ok (.iload 4, 2) := by decide +kernel
theorem d15_31 : decode prog_30_method_2_code 31 = .ok (.bipush 48, 2) := by decide +kernel
theorem d15_33 : decode prog_30_method_2_code 33 = .ok (.if_icmp .lt 10, 3) := by decide +kernel
theorem d15_36 : decode prog_30_method_2_code 36 = .ok (.iload 4, 2) := by decide +kernel
theorem d15_38 : decode prog_30_method_2_code 38 = .ok (.bipush 57, 2) := by decide +kernel
theorem d15_40 : decode prog_30_method_2_code 40 = .ok (.if_icmp .le 5, 3) := by decide +kernel
theorem d15_43 : decode prog_30_method_2_code 43 = .ok (.iconst 0, 1) := by decide +kernel
theorem d15_44 : decode prog_30_method_2_code 44 = .ok (.ireturn, 1) := by decide +kernel
theorem d15_45 : decode prog_30_method_2_code 45 = .ok (.iinc 3 1, 3) := by decide +kernel
theorem d15_48 : decode prog_30_method_2_code 48 = .ok (.goto (-31), 3) := by decide +kernel
theorem d15_51 : decode prog_30_method_2_code 51 = .ok (.iconst 1, 1) := by decide +kernel
theorem d15_52 : decode prog_30_method_2_code 52 = .ok (.ireturn, 1) := by decide +kernel
theorem d16_0 : decode jdk_42_method_54_code 0 = .ok (.aload_n 0, 1) := by decide +kernel
theorem d16_1 : decode jdk_42_method_54_code 1 = .ok (.getfield 9, 3) := by decide +kernel
theorem d16_4 : decode jdk_42_method_54_code 4 = .ok (.arraylength, 1) := by decide +kernel
theorem d16_5 : decode jdk_42_method_54_code 5 = .ok (.aload_n 0, 1) := by decide +kernel
theorem d16_6 : decode jdk_42_method_54_code 6 = .ok (.invokevirtual 335, 3) := by decide +kernel
theorem d16_9 : decode jdk_42_method_54_code 9 = .ok (.ishr, 1) := by decide +kernel
theorem d16_10 : decode jdk_42_method_54_code 10 = .ok (.ireturn, 1) := by decide +kernel
theorem d17_0 : decode jdk_42_method_152_code 0 = .ok (.getstatic 38, 3) := by decide +kernel
theorem d17_3 : decode jdk_42_method_152_code 3 = .ok (.ifCond .eq 10, 3) := by decide +kernel
theorem d17_6 : decode jdk_42_method_152_code 6 = .ok (.aload_n 0, 1) := by decide +kernel
theorem d17_7 : decode jdk_42_method_152_code 7 = .ok (.getfield 15, 3) := by decide +kernel
theorem d17_10 : decode jdk_42_method_152_code 10 = .ok (.goto 4, 3) := by decide +kernel
theorem d17_14 : decode jdk_42_method_152_code 14 = .ok (.ireturn, 1) := by decide +kernel
theorem d18_0 : decode jdk_42_method_56_code 0 = .ok (.aload_n 0, 1) := by decide +kernel
theorem d18_1 : decode jdk_42_method_56_code 1 = .ok (.invokevirtual 492, 3) := by decide +kernel
theorem d18_4 : decode jdk_42_method_56_code 4 = .ok (.ifCond .eq 12, 3) := by decide +kernel
theorem d18_7 : decode jdk_42_method_56_code 7 = .ok (.aload_n 0, 1) := by decide +kernel
theorem d18_8 : decode jdk_42_method_56_code 8 = .ok (.getfield 9, 3) := by decide +kernel
theorem d18_11 : decode jdk_42_method_56_code 11 = .ok (.iload_n 1, 1) := by decide +kernel
theorem d18_12 : decode jdk_42_method_56_code 12 = .ok (.invokestatic 495, 3) := by decide +kernel
theorem d18_15 : decode jdk_42_method_56_code 15 = .ok (.ireturn, 1) := by decide +kernel
theorem d18_16 : decode jdk_42_method_56_code 16 = .ok (.aload_n 0, 1) := by decide +kernel
theorem d18_17 : decode jdk_42_method_56_code 17 = .ok (.getfield 9, 3) := by decide +kernel
theorem d18_20 : decode jdk_42_method_56_code 20 = .ok (.iload_n 1, 1) := by decide +kernel
theorem d18_21 : decode jdk_42_method_56_code 21 = .ok (.invokestatic 498, 3) := by decide +kernel
theorem d18_24 : decode jdk_42_method_56_code 24 = .ok (.ireturn, 1) := by decide +kernel
theorem d19_0 : decode jdk_42_method_154_code 0 = .ok (.getstatic 38, 3) := by decide +kernel
theorem d19_3 : decode jdk_42_method_154_code 3 = .ok (.ifCond .eq 14, 3) := by decide +kernel
theorem d19_6 : decode jdk_42_method_154_code 6 = .ok (.aload_n 0, 1) := by decide +kernel
theorem d19_7 : decode jdk_42_method_154_code 7 = .ok (.getfield 15, 3) := by decide +kernel
theorem d19_10 : decode jdk_42_method_154_code 10 = .ok (.ifCond .ne 7, 3) := by decide +kernel
theorem d19_13 : decode jdk_42_method_154_code 13 = .ok (.iconst 1, 1) := by decide +kernel
theorem d19_14 : decode jdk_42_method_154_code 14 = .ok (.goto 4, 3) := by decide +kernel
theorem d19_17 : decode jdk_42_method_154_code 17 = .ok (.iconst 0, 1) := by decide +kernel
theorem d19_18 : decode jdk_42_method_154_code 18 = .ok (.ireturn, 1) := by decide +kernel
theorem d20_0 : decode jdk_52_method_83_code 0 = .ok (.iload_n 1, 1) := by decide +kernel
theorem d20_1 : decode jdk_52_method_83_code 1 = .ok (.aload_n 0, 1) := by decide +kernel
theorem d20_2 : decode jdk_52_method_83_code 2 = .ok (.invokestatic 67, 3) := by decide +kernel
theorem d20_5 : decode jdk_52_method_83_code 5 = .ok (.aload_n 0, 1) := by decide +kernel
theorem d20_6 : decode jdk_52_method_83_code 6 = .ok (.iload_n 1, 1) := by decide +kernel
theorem d20_7 : decode jdk_52_method_83_code 7 = .ok (.invokestatic 71, 3) := by decide +kernel
theorem d20_10 : decode jdk_52_method_83_code 10 = .ok (.ireturn, 1) := by decide +kernel
theorem d21_0 : decode jdk_52_method_91_code 0 = .ok (.iload_n 0, 1) := by decide +kernel
theorem d21_1 : decode jdk_52_method_91_code 1 = .ok (.aload_n 1, 1) := by decide +kernel
theorem d21_2 : decode jdk_52_method_91_code 2 = .ok (.invokestatic 48, 3) := by decide +kernel
theorem d21_5 : decode jdk_52_method_91_code 5 = .ok (.invokestatic 414, 3) := by decide +kernel
theorem d21_8 : decode jdk_52_method_91_code 8 = .ok (.return_, 1) := by decide +kernel
theorem d22_0 : decode jdk_52_method_6_code 0 = .ok (.aload_n 0, 1) := by decide +kernel
theorem d22_1 : decode jdk_52_method_6_code 1 = .ok (.arraylength, 1) := by decide +kernel
theorem d22_2 : decode jdk_52_method_6_code 2 = .ok (.iconst 1, 1) := by decide +kernel
theorem d22_3 : decode jdk_52_method_6_code 3 = .ok (.ishr, 1) := by decide +kernel
theorem d22_4 : decode jdk_52_method_6_code 4 = .ok (.ireturn, 1) := by decide +kernel
theorem d23_0 : decode jdk_42_method_155_code 0 = .ok (.iload_n 0, 1) := by decide +kernel
theorem d23_1 : decode jdk_42_method_155_code 1 = .ok (.iload_n 1, 1) := by decide +kernel
theorem d23_2 : decode jdk_42_method_155_code 2 = .ok (.getstatic 1053, 3) := by decide +kernel
theorem d23_5 : decode jdk_42_method_155_code 5 = .ok (.invokestatic 1059, 3) := by decide +kernel
theorem d23_8 : decode jdk_42_method_155_code 8 = .ok (.pop, 1) := by decide +kernel
theorem d23_9 : decode jdk_42_method_155_code 9 = .ok (.return_, 1) := by decide +kernel
theorem d24_0 : decode jdk_41_method_11_code 0 = .ok (.iload_n 0, 1) := by decide +kernel
theorem d24_1 : decode jdk_41_method_11_code 1 = .ok (.ifCond .lt 8, 3) := by decide +kernel
theorem d24_4 : decode jdk_41_method_11_code 4 = .ok (.iload_n 0, 1) := by decide +kernel
theorem d24_5 : decode jdk_41_method_11_code 5 = .ok (.iload_n 1, 1) := by decide +kernel
theorem d24_6 : decode jdk_41_method_11_code 6 = .ok (.if_icmp .lt 10, 3) := by decide +kernel
theorem d24_16 : decode jdk_41_method_11_code 16 = .ok (.iload_n 0, 1) := by decide +kernel
theorem d24_17 : decode jdk_41_method_11_code 17 = .ok (.ireturn, 1) := by decide +kernel
theorem d25_0 : decode jdk_43_method_2_code 0 = .ok (.iload_n 1, 1) := by decide +kernel
theorem d25_1 : decode jdk_43_method_2_code 1 = .ok (.aload_n 0, 1) := by decide +kernel
theorem d25_2 : decode jdk_43_method_2_code 2 = .ok (.arraylength, 1) := by decide +kernel
theorem d25_3 : decode jdk_43_method_2_code 3 = .ok (.invokestatic 9, 3) := by decide +kernel
theorem d25_6 : decode jdk_43_method_2_code 6 = .ok (.aload_n 0, 1) := by decide +kernel
theorem d25_7 : decode jdk_43_method_2_code 7 = .ok (.iload_n 1, 1) := by decide +kernel
theorem d25_8 : decode jdk_43_method_2_code 8 = .ok (.baload, 1) := by decide +kernel
theorem d25_9 : decode jdk_43_method_2_code 9 = .ok (.sipush 255, 3) := by decide +kernel
theorem d25_12 : decode jdk_43_method_2_code 12 = .ok (.iand, 1) := by decide +kernel
theorem d25_13 : decode jdk_43_method_2_code 13 = .ok (.i2c, 1) := by decide +kernel
theorem d25_14 : decode jdk_43_method_2_code 14 = .ok (.ireturn, 1) := by decide +kernel
theorem pdo_0 : parseMethodDescriptor "(I)I" = some ⟨[.int], some .int⟩ := by decide +kernel
theorem pdo_1 : parseMethodDescriptor "(I)[B" = some ⟨[.int], some (.array .byte)⟩ := by decide +kernel
theorem pdo_2 : parseMethodDescriptor "([BII)V" = some ⟨[(.array .byte), .int, .int], none⟩ := by decide +kernel
theorem pdo_3 : parseMethodDescriptor "([CI[BII)I" = some ⟨[(.array .char), .int, (.array .byte), .int, .int], some .int⟩ := by decide +kernel
theorem pdo_4 : parseMethodDescriptor "([CII)[B" = some ⟨[(.array .char), .int, .int], some (.array .byte)⟩ := by decide +kernel
theorem pdo_5 : parseMethodDescriptor "([BI)C" = some ⟨[(.array .byte), .int], some .char⟩ := by decide +kernel
theorem pdo_6 : parseMethodDescriptor "([BI)B" = some ⟨[(.array .byte), .int], some .byte⟩ := by decide +kernel
theorem pdo_7 : parseMethodDescriptor "([CIILjava/lang/Void;)V" = some ⟨[(.array .char), .int, .int, (.object "java/lang/Void")], none⟩ := by decide +kernel
theorem pdo_8 : parseMethodDescriptor "()B" = some ⟨[], some .byte⟩ := by decide +kernel
theorem pdo_9 : parseMethodDescriptor "(IILjava/util/function/BiFunction;)I" = some ⟨[.int, .int, (.object "java/util/function/BiFunction")], some .int⟩ := by decide +kernel
theorem pdo_10 : parseMethodDescriptor "(II)V" = some ⟨[.int, .int], none⟩ := by decide +kernel
theorem pdo_11 : parseMethodDescriptor "([B)I" = some ⟨[(.array .byte)], some .int⟩ := by decide +kernel
theorem pdo_12 : parseMethodDescriptor "(I[B)V" = some ⟨[.int, (.array .byte)], none⟩ := by decide +kernel
theorem pdo_13 : parseMethodDescriptor "()Z" = some ⟨[], some .boolean⟩ := by decide +kernel
theorem pdo_14 : parseMethodDescriptor "()I" = some ⟨[], some .int⟩ := by decide +kernel
theorem pdo_15 : parseMethodDescriptor "(I)C" = some ⟨[.int], some .char⟩ := by decide +kernel
theorem pdo_16 : parseMethodDescriptor "(Ljava/lang/String;II)Z" = some ⟨[(.object "java/lang/String"), .int, .int], some .boolean⟩ := by decide +kernel
theorem pdo_17 : parseMethodDescriptor "([C)V" = some ⟨[(.array .char)], none⟩ := by decide +kernel
theorem pdo_18 : parseMethodDescriptor "(Ljava/lang/String;II)I" = some ⟨[(.object "java/lang/String"), .int, .int], some .int⟩ := by decide +kernel
theorem pdo_19 : parseMethodDescriptor "([CIII[J)J" = some ⟨[(.array .char), .int, .int, .int, (.array .long)], some .long⟩ := by decide +kernel
theorem pdo_20 : parseMethodDescriptor "(JIII)C" = some ⟨[.long, .int, .int, .int], some .char⟩ := by decide +kernel
theorem pno_6 : plainFor (⟨"java/lang/StringUTF16", "compress", "([CI[BII)I"⟩ : MethodName) = true := by first | exact plainFor_of_name (by first | (simp [plainName, overriddenIn]; done) | decide +kernel) | decide +kernel
theorem efo_6 (m : MethodId) (x0 : Addr) (x1 : Int32) (x2 : Addr) (x3 : Int32) (x4 : Int32) : entryFrame m #[.ref x0, .int x1, .ref x2, .int x3, .int x4] 7 = oF m 0 [.val (.ref x0), .val (.int x1), .val (.ref x2), .val (.int x3), .val (.int x4), .unset, .unset] [] := by (first | (simp [entryFrame, oF, mkF, argsToLocals, Value.category]; done) | rfl)
set_option maxRecDepth 65536 in
set_option maxHeartbeats 40000000 in
theorem mC5 (l : Launch) (Z : State) (a0 : Array Value) (hw : ∀ d ∈ tables_1, d.before a0 Z = true) (va da : Addr) (us : List Int32) (h0 : Heap) (hlen : us.length < 2 ^ 31) (hya : Z.heap.size ≤ da) (hne : va ≠ da) (A : oArr Z h0 va .char (us.map Value.int)) (D : oArr Z h0 da .byte (List.replicate us.length (.int 0))) :
    oMeets l Z (⟨"java/lang/StringUTF16", "compress", "([CI[BII)I"⟩ : MethodName) jdk_52_method_21_code 7 (some .int) ({ frames := 0, cells := 0, slots := 0, locals := 0 } : Room) #[.ref va, .int 0, .ref da, .int 0, .int (Int32.ofNat us.length)] h0 (fun x => x = da ∨ h0.size ≤ x) (fun v h => ∃ j : Nat, v = some (.int (Int32.ofNat j)) ∧ ((j = us.length ∧ (∀ u ∈ us, oSmall u) ∧ oArr Z h da .byte (us.map oLv)) ∨ (j < us.length ∧ ∃ u, us[j]? = some u ∧ ¬ oSmall u))) := by
  refine oMeets.of pno_6 (fun _ q => Or.inr q) (fun E x q => q.elim (fun r => r ▸ hya) (fun r => Nat.le_trans E.1 r)) (Ls := [.val (.ref va), .val (.int 0), .val (.ref da), .val (.int 0), .val (.int (Int32.ofNat us.length)), .unset, .unset]) (fun m => efo_6 m va 0 da 0 (Int32.ofNat us.length)) ?_
  intro p e s m below meth c C hs
  have loop : ∀ (k i : Nat) (h : Heap) (s6 : Slot), i + k = us.length → (∀ u ∈ us.take i, oSmall u) → oArr Z h va .char (us.map Value.int) → oArr Z h da .byte ((us.take i).map oLv ++ List.replicate (us.length - i) (.int 0)) → (s6 = .unset ∨ ∃ w, s6 = .val w ∧ w.category = 1) →
      oWP false p l e ({ frames := 0, cells := 0, slots := 0, locals := 0 } : Room) s m #[.ref va, .int 0, .ref da, .int 0, .int (Int32.ofNat us.length)] below meth c (fun x => x = da ∨ h0.size ≤ x) (fun v h _ => ((fun v h => ∃ j : Nat, v = some (.int (Int32.ofNat j)) ∧ ((j = us.length ∧ (∀ u ∈ us, oSmall u) ∧ oArr Z h da .byte (us.map oLv)) ∨ (j < us.length ∧ ∃ u, us[j]? = some u ∧ ¬ oSmall u)))) v h) oT h 0 0 (oF m 3 [.val (.ref va), .val (.int (Int32.ofNat i)), .val (.ref da), .val (.int (Int32.ofNat i)), .val (.int (Int32.ofNat us.length)), .val (.int (Int32.ofNat i)), s6] []) := by
    intro k
    induction k with
    | zero =>
      intro i h s6 hik hsm A1 D1 h6
      obtain rfl : i = us.length := by omega
      refine K_iload C (pc := 3) d6_3 rfl ?_
      refine K_iload C (pc := 5) d6_5 rfl ?_
      refine K_icmp C (pc := 7) 44 d6_7 (by decide) (by decide) (fun hc7 => ?_) (fun hc7 => ?_)
      · simp only [oC, Classical.not_not] at hc7
        refine K_iload C (pc := 44) d6_44 rfl ?_
        refine K_ireturn C (pc := 46) d6_46 (by simp) rfl (by decide) (by decide) (fun _ _ => ⟨us.length, rfl, Or.inl ⟨rfl, by simpa using hsm, by simpa using D1⟩⟩)
      · simp only [oC, Classical.not_not] at hc7
        exact absurd hc7 (by rw [oOfLt hlen hlen]; omega)
    | succ k ih =>
      intro i h s6 hik hsm A1 D1 h6
      have hi : i < us.length := by omega
      obtain ⟨u, hu⟩ : ∃ u, us[i]? = some u := ⟨us[i], by simp [hi]⟩
      refine K_iload C (pc := 3) d6_3 rfl ?_
      refine K_iload C (pc := 5) d6_5 rfl ?_
      refine K_icmp C (pc := 7) 44 d6_7 (by decide) (by decide) (fun hc7 => ?_) (fun hc7 => ?_)
      · simp only [oC, Classical.not_not] at hc7
        exact absurd ((oOfLt (by omega) hlen).mpr hi) hc7
      · simp only [oC, Classical.not_not] at hc7
        refine K_aloadN C (pc := 10) d6_10 rfl (by first | rfl | assumption) ?_
        refine K_iloadN C (pc := 11) d6_11 rfl ?_
        refine K_caload2 C (pc := 12) (v := .int u) i A1 (oOf i (by omega)) (by simp [hu]) d6_12 ?_
        refine K_istoreV C (pc := 13) (Ls' := [_, _, _, _, _, _, _]) _ d6_13 rfl h6 rfl ?_
        refine K_iload C (pc := 15) d6_15 rfl ?_
        refine K_sipush C (pc := 17) 255 d6_17 (by decide) ?_
        refine K_icmp C (pc := 20) 26 d6_20 (by decide) (by decide) (fun hc20 => ?_) (fun hc20 => ?_)
        · simp only [oC, Classical.not_not] at hc20
          refine K_aloadN C (pc := 26) d6_26 rfl (by first | rfl | assumption) ?_
          refine K_iloadN C (pc := 27) d6_27 rfl ?_
          refine K_iload C (pc := 28) d6_28 rfl ?_
          refine K_i2b C (pc := 30) d6_30 ?_
          refine K_bastore2 C (pc := 31) i D1 (oOf i (by omega)) (by simp; omega) (Or.inl rfl) d6_31 ?_
          intro h' Wr1 D2
          refine K_iinc C (pc := 32) (w := 1) (Ls' := [_, _, _, _, _, _, _]) d6_32 (by decide) rfl rfl ?_
          refine K_iinc C (pc := 35) (w := 1) (Ls' := [_, _, _, _, _, _, _]) d6_35 (by decide) rfl rfl ?_
          refine K_iinc C (pc := 38) (w := 1) (Ls' := [_, _, _, _, _, _, _]) d6_38 (by decide) rfl rfl ?_
          refine K_goto C (pc := 41) 3 d6_41 (by decide) (by decide) ?_
          rw [oOfS]
          refine ih (i + 1) h' _ (by omega) ?_ (A1.other Wr1 hne) (D2.eq (by rw [oNarLob]; exact oSetL (f := oLv) hu)) (Or.inr ⟨_, rfl, rfl⟩)
          intro w hw1
          rw [List.take_add_one, hu] at hw1
          rcases List.mem_append.mp hw1 with q | q
          · exact hsm w q
          · simp at q; rw [q]; exact hc20
        · simp only [oC, Classical.not_not] at hc20
          refine K_iload C (pc := 23) d6_23 rfl ?_
          refine K_ireturn C (pc := 25) d6_25 (by simp) rfl (by decide) (by decide) (fun _ _ => ⟨i, rfl, Or.inr ⟨hi, u, hu, fun q => q hc20⟩⟩)
  refine K_iconst C (pc := 0) 0 d6_0 (by decide) ?_
  refine K_istore C (pc := 1) (Ls' := [_, _, _, _, _, _, _]) d6_1 rfl ?_
  exact loop us.length 0 h0 .unset (by omega) (by simp) A (D.eq (by simp)) (Or.inl rfl)
theorem pno_9 : plainFor (⟨"java/lang/StringUTF16", "newBytesLength", "(I)I"⟩ : MethodName) = true := by first | exact plainFor_of_name (by first | (simp [plainName, overriddenIn]; done) | decide +kernel) | decide +kernel
theorem efo_9 (m : MethodId) (x0 : Int32) : entryFrame m #[.int x0] 1 = oF m 0 [.val (.int x0)] [] := by (first | (simp [entryFrame, oF, mkF, argsToLocals, Value.category]; done) | rfl)
set_option maxRecDepth 65536 in
set_option maxHeartbeats 40000000 in
theorem mNBL (l : Launch) (Z : State) (a0 : Array Value) (hw : ∀ d ∈ tables_1, d.before a0 Z = true) (k : Nat) (h0 : Heap) (hk : k < 16) :
    oMeets l Z (⟨"java/lang/StringUTF16", "newBytesLength", "(I)I"⟩ : MethodName) jdk_52_method_3_code 1 (some .int) ({ frames := 0, cells := 0, slots := 0, locals := 0 } : Room) #[.int (Int32.ofNat k)] h0 (fun a => h0.size ≤ a) (fun v h => v = some (.int (Int32.ofNat (2 * k))) ∧ h = h0) := by
  refine oMeets.of pno_9 (fun _ q => q) (fun E _ q => Nat.le_trans E.1 q) (Ls := [.val (.int (Int32.ofNat k))]) (fun m => efo_9 m (Int32.ofNat k)) ?_
  intro p e s m below meth c C hs
  refine K_iloadN C (pc := 0) d9_0 rfl ?_
  refine K_if C (pc := 1) 12 d9_1 (by decide) (by decide) (fun hc1 => ?_) (fun hc1 => ?_)
  · simp only [oC, Classical.not_not] at hc1
    refine K_iloadN C (pc := 12) d9_12 rfl ?_
    refine K_ldcI C (pc := 13) (tw37 hw) d9_13 ?_
    refine K_icmp C (pc := 15) 55 d9_15 (by decide) (by decide) (fun hc15 => ?_) (fun hc15 => ?_)
    · simp only [oC, Classical.not_not] at hc15
      refine K_iloadN C (pc := 55) d9_55 rfl ?_
      refine K_iconst C (pc := 56) 1 d9_56 (by decide) ?_
      refine K_ishl C (pc := 57) d9_57 ?_
      rw [oShl hk]
      refine K_ireturn C (pc := 58) d9_58 (by simp) rfl (by decide) (by decide) (fun _ _ => ⟨rfl, rfl⟩)
    · simp only [oC, Classical.not_not] at hc15
      exact absurd (by rw [show (1073741823 : Int32) = Int32.ofNat 1073741823 from rfl, oOfLt (by omega) (by decide)]; omega) hc15
  · simp only [oC, Classical.not_not] at hc1
    exact absurd hc1 (by rw [show (0 : Int32) = Int32.ofNat 0 from rfl, oOfLt (by omega) (by decide)]; omega)
theorem pno_8 : plainFor (⟨"java/lang/StringUTF16", "newBytesFor", "(I)[B"⟩ : MethodName) = true := by first | exact plainFor_of_name (by first | (simp [plainName, overriddenIn]; done) | decide +kernel) | decide +kernel
theorem efo_8 (m : MethodId) (x0 : Int32) : entryFrame m #[.int x0] 1 = oF m 0 [.val (.int x0)] [] := by (first | (simp [entryFrame, oF, mkF, argsToLocals, Value.category]; done) | rfl)
set_option maxRecDepth 65536 in
set_option maxHeartbeats 40000000 in
theorem mNBF (l : Launch) (Z : State) (a0 : Array Value) (hw : ∀ d ∈ tables_1, d.before a0 Z = true) (k : Nat) (h0 : Heap) (hk : k ≤ 10) :
    oMeets l Z (⟨"java/lang/StringUTF16", "newBytesFor", "(I)[B"⟩ : MethodName) jdk_52_method_2_code 1 (some (.array .byte)) ({ frames := 1, cells := 1, slots := 20, locals := 20 } : Room) #[.int (Int32.ofNat k)] h0 (fun a => h0.size ≤ a) (fun v h => ∃ b, v = some (.ref b) ∧ oArr Z h b .byte (List.replicate (2 * k) (.int 0)) ∧ h0.size ≤ b) := by
  refine oMeets.of pno_8 (fun _ q => q) (fun E _ q => Nat.le_trans E.1 q) (Ls := [.val (.int (Int32.ofNat k))]) (fun m => efo_8 m (Int32.ofNat k)) ?_
  intro p e s m below meth c C hs
  refine K_iloadN C (pc := 0) d8_0 rfl ?_
  refine K_static C (pc := 1) (mNBL l Z a0 hw k _ (by omega)) (tw34 hw) (tw35 hw) (tw22 hw) (tw36 hw) (by decide) pdo_0 d8_1 (argsL := [_]) (rest := _) rfl rfl rfl rfl (fun a q r => C.new a (Nat.le_trans q r)) (by decide) (Nat.le_of_ble_eq_true rfl) (by decide) (by decide) ?_
  rintro _ h8 ⟨rfl, rfl⟩ -
  dsimp only [Option.toList, List.cons_append, List.nil_append]
  refine K_newarray2 C (aty := .byte) (pc := 4) (2 * k) 20 (tw24 hw) d8_4 (oOf _ (by omega)) (by omega) (by decide) (by decide) (by decide) ?_
  intro h1 da hda hPa E1 D1
  refine K_areturn C (pc := 6) d8_6 rfl rfl rfl (by decide) (by decide) (fun _ _ => ⟨da, rfl, D1, hPa⟩)
theorem pno_10 : plainFor (⟨"java/lang/StringUTF16", "putChar", "([BII)V"⟩ : MethodName) = true := by first | exact plainFor_of_name (by first | (simp [plainName, overriddenIn]; done) | decide +kernel) | decide +kernel
theorem efo_10 (m : MethodId) (x0 : Addr) (x1 : Int32) (x2 : Int32) : entryFrame m #[.ref x0, .int x1, .int x2] 3 = oF m 0 [.val (.ref x0), .val (.int x1), .val (.int x2)] [] := by (first | (simp [entryFrame, oF, mkF, argsToLocals, Value.category]; done) | rfl)
set_option maxRecDepth 65536 in
set_option maxHeartbeats 40000000 in
theorem mPUTC (l : Launch) (Z : State) (a0 : Array Value) (hw : ∀ d ∈ tables_1, d.before a0 Z = true) (b : Addr) (i : Nat) (u : Int32) (bs : List Value) (h0 : Heap) (hi : i < 16) (hb : 2 * i + 1 < bs.length) (hya : Z.heap.size ≤ b) (D : oArr Z h0 b .byte bs) (S__assertionsDisabled : Sta Z Z.heap "java/lang/StringUTF16" "$assertionsDisabled" "Z" (.int 1)) (S_HI_BYTE_SHIFT : Sta Z Z.heap "java/lang/StringUTF16" "HI_BYTE_SHIFT" "I" (.int 0)) (S_LO_BYTE_SHIFT : Sta Z Z.heap "java/lang/StringUTF16" "LO_BYTE_SHIFT" "I" (.int 8)) :
    oMeets l Z (⟨"java/lang/StringUTF16", "putChar", "([BII)V"⟩ : MethodName) jdk_52_method_4_code 3 none ({ frames := 0, cells := 0, slots := 0, locals := 0 } : Room) #[.ref b, .int (Int32.ofNat i), .int u] h0 (fun x => x = b ∨ h0.size ≤ x) (fun v h => v = none ∧ oArr Z h b .byte ((bs.set (2 * i) (.int (oLob u))).set (2 * i + 1) (.int (oHib u)))) := by
  refine oMeets.of pno_10 (fun _ q => Or.inr q) (fun E x q => q.elim (fun r => r ▸ hya) (fun r => Nat.le_trans E.1 r)) (Ls := [.val (.ref b), .val (.int (Int32.ofNat i)), .val (.int u)]) (fun m => efo_10 m b (Int32.ofNat i) u) ?_
  intro p e s m below meth c C hs
  refine K_getS C (pc := 0) (tw41 hw) Via.refl S__assertionsDisabled d10_0 ?_
  refine K_if C (pc := 3) 28 d10_3 (by decide) (by decide) (fun hc3 => ?_) (fun hc3 => ?_)
  · simp only [oC, Classical.not_not] at hc3
    refine K_iloadN C (pc := 28) d10_28 rfl ?_
    refine K_iconst C (pc := 29) 1 d10_29 (by decide) ?_
    refine K_ishl C (pc := 30) d10_30 ?_
    rw [oShl hi]
    refine K_istoreN C (pc := 31) (Ls' := [_, _, _]) d10_31 rfl ?_
    refine K_aloadN C (pc := 32) d10_32 rfl (by first | rfl | assumption) ?_
    refine K_iloadN C (pc := 33) d10_33 rfl ?_
    refine K_iinc C (pc := 34) (w := 1) (Ls' := [_, _, _]) d10_34 (by decide) rfl rfl ?_
    rw [oOf1]
    refine K_iloadN C (pc := 37) d10_37 rfl ?_
    refine K_getS C (pc := 38) (tw42 hw) Via.refl S_HI_BYTE_SHIFT d10_38 ?_
    refine K_ishr C (pc := 41) d10_41 ?_
    rw [oSh0]
    refine K_i2b C (pc := 42) d10_42 ?_
    refine K_bastore2 C (pc := 43) (2 * i) D (oOf _ (by omega)) (by omega) (Or.inl rfl) d10_43 ?_
    intro h1 Wr1 D1
    refine K_aloadN C (pc := 44) d10_44 rfl (by first | rfl | assumption) ?_
    refine K_iloadN C (pc := 45) d10_45 rfl ?_
    refine K_iloadN C (pc := 46) d10_46 rfl ?_
    refine K_getS C (pc := 47) (tw43 hw) Via.refl S_LO_BYTE_SHIFT d10_47 ?_
    refine K_ishr C (pc := 50) d10_50 ?_
    refine K_i2b C (pc := 51) d10_51 ?_
    refine K_bastore2 C (pc := 52) (2 * i + 1) D1 (oOf _ (by omega)) (by simp; omega) (Or.inl rfl) d10_52 ?_
    intro h2 Wr2 D2
    refine K_return C (pc := 53) d10_53 (by decide) (by decide) (fun _ _ => ⟨rfl, D2.eq (by rw [oNarLob, oNarLob]; rfl)⟩)
  · simp only [oC, Classical.not_not] at hc3
    exact absurd hc3 (by decide)
theorem pno_7 : plainFor (⟨"java/lang/StringUTF16", "toBytes", "([CII)[B"⟩ : MethodName) = true := by first | exact plainFor_of_name (by first | (simp [plainName, overriddenIn]; done) | decide +kernel) | decide +kernel
theorem efo_7 (m : MethodId) (x0 : Addr) (x1 : Int32) (x2 : Int32) : entryFrame m #[.ref x0, .int x1, .int x2] 5 = oF m 0 [.val (.ref x0), .val (.int x1), .val (.int x2), .unset, .unset] [] := by (first | (simp [entryFrame, oF, mkF, argsToLocals, Value.category]; done) | rfl)
set_option maxRecDepth 65536 in
set_option maxHeartbeats 40000000 in
theorem mTB (l : Launch) (Z : State) (a0 : Array Value) (hw : ∀ d ∈ tables_1, d.before a0 Z = true) (va : Addr) (us : List Int32) (h0 : Heap) (hN : us.length ≤ 10) (A : oArr Z h0 va .char (us.map Value.int)) (S__assertionsDisabled : Sta Z Z.heap "java/lang/StringUTF16" "$assertionsDisabled" "Z" (.int 1)) (S_HI_BYTE_SHIFT : Sta Z Z.heap "java/lang/StringUTF16" "HI_BYTE_SHIFT" "I" (.int 0)) (S_LO_BYTE_SHIFT : Sta Z Z.heap "java/lang/StringUTF16" "LO_BYTE_SHIFT" "I" (.int 8)) :
    oMeets l Z (⟨"java/lang/StringUTF16", "toBytes", "([CII)[B"⟩ : MethodName) jdk_52_method_14_code 5 (some (.array .byte)) ({ frames := 2, cells := 1, slots := 20, locals := 60 } : Room) #[.ref va, .int 0, .int (Int32.ofNat us.length)] h0 (fun a => h0.size ≤ a) (fun v h => ∃ b, v = some (.ref b) ∧ oArr Z h b .byte (us.flatMap oLH)) := by
  refine oMeets.of pno_7 (fun _ q => q) (fun E _ q => Nat.le_trans E.1 q) (Ls := [.val (.ref va), .val (.int 0), .val (.int (Int32.ofNat us.length)), .unset, .unset]) (fun m => efo_7 m va 0 (Int32.ofNat us.length)) ?_
  intro p e s m below meth c C hs
  refine K_iloadN C (pc := 0) d7_0 rfl ?_
  refine K_static C (pc := 1) (mNBF l Z a0 hw us.length _ hN) (tw31 hw) (tw32 hw) (tw22 hw) (tw33 hw) (by decide) pdo_1 d7_1 (argsL := [_]) (rest := _) rfl rfl rfl rfl (fun a q r => C.new a (Nat.le_trans q r)) (by decide) (Nat.le_of_ble_eq_true rfl) (by decide) (by decide) ?_
  rintro _ h1 ⟨b, rfl, D1, hPb⟩ hK1
  have E1 := hK1.ext
  dsimp only [Option.toList, List.cons_append, List.nil_append]
  have hne : va ≠ b := fun q => Nat.lt_irrefl _ (Nat.lt_of_lt_of_le A.lt (by rw [q]; exact hPb))
  have hva := A.lt
  have loop : ∀ (k i : Nat) (h : Heap), i + k = us.length → oArr Z h va .char (us.map Value.int) → oArr Z h b .byte ((us.take i).flatMap oLH ++ List.replicate (2 * (us.length - i)) (.int 0)) → oWP false p l e ({ frames := 2, cells := 1, slots := 20, locals := 60 } : Room) s m #[.ref va, .int 0, .int (Int32.ofNat us.length)] below meth c (fun a => h0.size ≤ a) (fun v h _ => ((fun v h => ∃ b, v = some (.ref b) ∧ oArr Z h b .byte (us.flatMap oLH))) v h) oT h 1 20 (oF m 8 [.val (.ref va), .val (.int (Int32.ofNat i)), .val (.int (Int32.ofNat us.length)), .val (.ref b), .val (.int (Int32.ofNat i))] []) := by
    intro k
    induction k with
    | zero =>
      intro i h hik A2 D2
      obtain rfl : i = us.length := by omega
      refine K_iload C (pc := 8) d7_8 rfl ?_
      refine K_iloadN C (pc := 10) d7_10 rfl ?_
      refine K_icmp C (pc := 11) 32 d7_11 (by decide) (by decide) (fun hc11 => ?_) (fun hc11 => ?_)
      · simp only [oC, Classical.not_not] at hc11
        refine K_aloadN C (pc := 32) d7_32 rfl (by first | rfl | assumption) ?_
        refine K_areturn C (pc := 33) d7_33 rfl rfl rfl (by decide) (by decide) (fun _ _ => ⟨b, rfl, D2.eq (by simp)⟩)
      · simp only [oC, Classical.not_not] at hc11
        exact absurd hc11 (by rw [oOfLt (by omega) (by omega)]; omega)
    | succ k ih =>
      intro i h hik A2 D2
      have hi : i < us.length := by omega
      obtain ⟨u, hu⟩ : ∃ u, us[i]? = some u := ⟨us[i], by simp [hi]⟩
      refine K_iload C (pc := 8) d7_8 rfl ?_
      refine K_iloadN C (pc := 10) d7_10 rfl ?_
      refine K_icmp C (pc := 11) 32 d7_11 (by decide) (by decide) (fun hc11 => ?_) (fun hc11 => ?_)
      · simp only [oC, Classical.not_not] at hc11
        exact absurd ((oOfLt (by omega) (by omega)).mpr hi) hc11
      · simp only [oC, Classical.not_not] at hc11
        refine K_aloadN C (pc := 14) d7_14 rfl (by first | rfl | assumption) ?_
        refine K_iload C (pc := 15) d7_15 rfl ?_
        refine K_aloadN C (pc := 17) d7_17 rfl (by first | rfl | assumption) ?_
        refine K_iloadN C (pc := 18) d7_18 rfl ?_
        refine K_caload2 C (pc := 19) (v := .int u) i A2 (oOf i (by omega)) (by simp [hu]) d7_19 ?_
        refine K_old C (fun hE0 hle0 _ => ?_)
        refine K_static C (pc := 20) (mPUTC l Z a0 hw b i u _ h (by omega) (by rw [List.length_append, oLHlen, List.length_take, List.length_replicate]; omega) (C.young b hPb) D2 S__assertionsDisabled S_HI_BYTE_SHIFT S_LO_BYTE_SHIFT) (tw38 hw) (tw39 hw) (tw22 hw) (tw40 hw) (by decide) pdo_2 d7_20 (argsL := [_, _, _]) (rest := _) rfl rfl rfl rfl (fun x q r => r.elim (fun z => z ▸ hPb) (fun z => C.new x (Nat.le_trans q z))) (by decide) (Nat.le_of_ble_eq_true rfl) (by decide) (by decide) ?_
        rintro _ h' ⟨rfl, D3⟩ hK
        dsimp only [Option.toList, List.cons_append, List.nil_append]
        refine K_iinc C (pc := 23) (w := 1) (Ls' := [_, _, _, _, _]) d7_23 (by decide) rfl rfl ?_
        refine K_iinc C (pc := 26) (w := 1) (Ls' := [_, _, _, _, _]) d7_26 (by decide) rfl rfl ?_
        refine K_goto C (pc := 29) 8 d7_29 (by decide) (by decide) ?_
        rw [oOfS]
        exact ih (i + 1) h' (by omega) (A2.kp hK (fun r => r.elim hne (fun z => Nat.lt_irrefl _ (Nat.lt_of_lt_of_le A2.lt z)))) (D3.eq (oLHset hu))
  refine K_astoreN C (pc := 4) (Ls' := [_, _, _, _, _]) d7_4 rfl rfl ?_
  refine K_iconst C (pc := 5) 0 d7_5 (by decide) ?_
  refine K_istore C (pc := 6) (Ls' := [_, _, _, _, _]) d7_6 rfl ?_
  exact loop us.length 0 h1 (by omega) (A.ext E1) (D1.eq (by simp))
theorem pno_11 : plainFor (⟨"java/lang/StringUTF16", "getChar", "([BI)C"⟩ : MethodName) = true := by first | exact plainFor_of_name (by first | (simp [plainName, overriddenIn]; done) | decide +kernel) | decide +kernel
theorem efo_11 (m : MethodId) (x0 : Addr) (x1 : Int32) : entryFrame m #[.ref x0, .int x1] 2 = oF m 0 [.val (.ref x0), .val (.int x1)] [] := by (first | (simp [entryFrame, oF, mkF, argsToLocals, Value.category]; done) | rfl)
set_option maxRecDepth 65536 in
set_option maxHeartbeats 40000000 in
theorem mGC (l : Launch) (Z : State) (a0 : Array Value) (hw : ∀ d ∈ tables_1, d.before a0 Z = true) (b : Addr) (j : Nat) (u : Int32) (us : List Int32) (h0 : Heap) (hj : j < 16) (hu : us[j]? = some u) (hc : oChr u) (D : oArr Z h0 b .byte (us.flatMap oLH)) (S__assertionsDisabled : Sta Z Z.heap "java/lang/StringUTF16" "$assertionsDisabled" "Z" (.int 1)) (S_HI_BYTE_SHIFT : Sta Z Z.heap "java/lang/StringUTF16" "HI_BYTE_SHIFT" "I" (.int 0)) (S_LO_BYTE_SHIFT : Sta Z Z.heap "java/lang/StringUTF16" "LO_BYTE_SHIFT" "I" (.int 8)) :
    oMeets l Z (⟨"java/lang/StringUTF16", "getChar", "([BI)C"⟩ : MethodName) jdk_52_method_5_code 2 (some .char) ({ frames := 0, cells := 0, slots := 0, locals := 0 } : Room) #[.ref b, .int (Int32.ofNat j)] h0 (fun a => h0.size ≤ a) (fun v h => v = some (.int u) ∧ h = h0) := by
  refine oMeets.of pno_11 (fun _ q => q) (fun E _ q => Nat.le_trans E.1 q) (Ls := [.val (.ref b), .val (.int (Int32.ofNat j))]) (fun m => efo_11 m b (Int32.ofNat j)) ?_
  intro p e s m below meth c C hs
  refine K_getS C (pc := 0) (tw41 hw) Via.refl S__assertionsDisabled d11_0 ?_
  refine K_if C (pc := 3) 28 d11_3 (by decide) (by decide) (fun hc3 => ?_) (fun hc3 => ?_)
  · simp only [oC, Classical.not_not] at hc3
    refine K_iloadN C (pc := 28) d11_28 rfl ?_
    refine K_iconst C (pc := 29) 1 d11_29 (by decide) ?_
    refine K_ishl C (pc := 30) d11_30 ?_
    rw [oShl hj]
    refine K_istoreN C (pc := 31) (Ls' := [_, _]) d11_31 rfl ?_
    refine K_aloadN C (pc := 32) d11_32 rfl (by first | rfl | assumption) ?_
    refine K_iloadN C (pc := 33) d11_33 rfl ?_
    refine K_iinc C (pc := 34) (w := 1) (Ls' := [_, _]) d11_34 (by decide) rfl rfl ?_
    rw [oOf1]
    refine K_baload2 C (pc := 37) (v := .int (oLob u)) (2 * j) D (oOf _ (by omega)) (oLHget hu).1 d11_37 ?_
    refine K_sipush C (pc := 38) 255 d11_38 (by decide) ?_
    refine K_iand C (pc := 41) d11_41 ?_
    refine K_getS C (pc := 42) (tw42 hw) Via.refl S_HI_BYTE_SHIFT d11_42 ?_
    refine K_ishl C (pc := 45) d11_45 ?_
    refine K_aloadN C (pc := 46) d11_46 rfl (by first | rfl | assumption) ?_
    refine K_iloadN C (pc := 47) d11_47 rfl ?_
    refine K_baload2 C (pc := 48) (v := .int (oHib u)) (2 * j + 1) D (oOf _ (by omega)) (oLHget hu).2 d11_48 ?_
    refine K_sipush C (pc := 49) 255 d11_49 (by decide) ?_
    refine K_iand C (pc := 52) d11_52 ?_
    refine K_getS C (pc := 53) (tw43 hw) Via.refl S_LO_BYTE_SHIFT d11_53 ?_
    refine K_ishl C (pc := 56) d11_56 ?_
    refine K_ior C (pc := 57) d11_57 ?_
    rw [oPair hc]
    refine K_i2c C (pc := 58) d11_58 ?_
    refine K_ireturn C (pc := 59) d11_59 (by simp) (z' := u) (oNCu hc) (by decide) (by decide) (fun _ _ => ⟨rfl, rfl⟩)
  · simp only [oC, Classical.not_not] at hc3
    exact absurd hc3 (by decide)
theorem pno_5 : plainFor (⟨"java/lang/StringUTF16", "compress", "([CII)[B"⟩ : MethodName) = true := by first | exact plainFor_of_name (by first | (simp [plainName, overriddenIn]; done) | decide +kernel) | decide +kernel
theorem efo_5 (m : MethodId) (x0 : Addr) (x1 : Int32) (x2 : Int32) : entryFrame m #[.ref x0, .int x1, .int x2] 6 = oF m 0 [.val (.ref x0), .val (.int x1), .val (.int x2), .unset, .unset, .unset] [] := by (first | (simp [entryFrame, oF, mkF, argsToLocals, Value.category]; done) | rfl)
set_option maxRecDepth 65536 in
set_option maxHeartbeats 40000000 in
theorem mC3 (l : Launch) (Z : State) (a0 : Array Value) (hw : ∀ d ∈ tables_1, d.before a0 Z = true) (va : Addr) (us : List Int32) (h0 : Heap) (hN : us.length ≤ 10) (hch : ∀ u ∈ us, oChr u) (A : oArr Z h0 va .char (us.map Value.int)) (S__assertionsDisabled : Sta Z Z.heap "java/lang/StringUTF16" "$assertionsDisabled" "Z" (.int 1)) (S_HI_BYTE_SHIFT : Sta Z Z.heap "java/lang/StringUTF16" "HI_BYTE_SHIFT" "I" (.int 0)) (S_LO_BYTE_SHIFT : Sta Z Z.heap "java/lang/StringUTF16" "LO_BYTE_SHIFT" "I" (.int 8)) :
    oMeets l Z (⟨"java/lang/StringUTF16", "compress", "([CII)[B"⟩ : MethodName) jdk_52_method_16_code 6 (some (.array .byte)) ({ frames := 3, cells := 2, slots := 30, locals := 100 } : Room) #[.ref va, .int 0, .int (Int32.ofNat us.length)] h0 (fun a => h0.size ≤ a) (fun v h => ∃ b cd bs, v = some (.ref b) ∧ oArr Z h b .byte bs ∧ oEnc us cd bs) := by
  refine oMeets.of pno_5 (fun _ q => q) (fun E _ q => Nat.le_trans E.1 q) (Ls := [.val (.ref va), .val (.int 0), .val (.int (Int32.ofNat us.length)), .unset, .unset, .unset]) (fun m => efo_5 m va 0 (Int32.ofNat us.length)) ?_
  intro p e s m below meth c C hs
  refine K_iloadN C (pc := 0) d5_0 rfl ?_
  refine K_newarray2 C (aty := .byte) (pc := 1) us.length 10 (tw24 hw) d5_1 (oOf _ (by omega)) hN (by decide) (by decide) (by decide) ?_
  intro h1 da hda hPa E1 D1
  refine K_astoreN C (pc := 3) (Ls' := [_, _, _, _, _, _]) d5_3 rfl rfl ?_
  refine K_aloadN C (pc := 4) d5_4 rfl (by first | rfl | assumption) ?_
  refine K_iloadN C (pc := 5) d5_5 rfl ?_
  refine K_aloadN C (pc := 6) d5_6 rfl (by first | rfl | assumption) ?_
  refine K_iconst C (pc := 7) 0 d5_7 (by decide) ?_
  refine K_iloadN C (pc := 8) d5_8 rfl ?_
  have hne : va ≠ da := fun q => Nat.lt_irrefl _ (Nat.lt_of_lt_of_eq A.lt (by rw [← hda, ← q]))
  refine K_static C (pc := 9) (mC5 l Z a0 hw va da us h1 (by omega) (C.young da hPa) hne (A.ext E1) D1) (tw25 hw) (tw26 hw) (tw22 hw) (tw27 hw) (by decide) pdo_3 d5_9 (argsL := [_, _, _, _, _]) (rest := _) rfl rfl rfl rfl (fun x q r => r.elim (fun z => z ▸ hPa) (fun z => C.new x (Nat.le_trans q z))) (by decide) (Nat.le_of_ble_eq_true rfl) (by decide) (by decide) ?_
  rintro _ h2 ⟨j, rfl, hj⟩ hK
  dsimp only [Option.toList, List.cons_append, List.nil_append]
  have A2 := (A.ext E1).kp hK (fun r => r.elim hne (fun z => Nat.lt_irrefl _ (Nat.lt_of_lt_of_le (A.ext E1).lt z)))
  rcases hj with ⟨rfl, hs, D2⟩ | ⟨hj, u, hu, hb⟩
  · refine K_istore C (pc := 12) (Ls' := [_, _, _, _, _, _]) d5_12 rfl ?_
    refine K_iload C (pc := 14) d5_14 rfl ?_
    refine K_iloadN C (pc := 16) d5_16 rfl ?_
    refine K_icmp C (pc := 17) 57 d5_17 (by decide) (by decide) (fun hc17 => ?_) (fun hc17 => ?_)
    · simp only [oC, Classical.not_not] at hc17
      refine K_aloadN C (pc := 57) d5_57 rfl (by first | rfl | assumption) ?_
      refine K_areturn C (pc := 58) d5_58 rfl rfl rfl (by decide) (by decide) (fun _ _ => ⟨da, 0, _, rfl, D2, Or.inl ⟨rfl, hs, rfl⟩⟩)
    · simp only [oC, Classical.not_not] at hc17
      exact absurd hc17 (by simp)
  · refine K_istore C (pc := 12) (Ls' := [_, _, _, _, _, _]) d5_12 rfl ?_
    refine K_iload C (pc := 14) d5_14 rfl ?_
    refine K_iloadN C (pc := 16) d5_16 rfl ?_
    refine K_icmp C (pc := 17) 57 d5_17 (by decide) (by decide) (fun hc17 => ?_) (fun hc17 => ?_)
    · simp only [oC, Classical.not_not] at hc17
      exact absurd hc17 (by rw [oOfEq (by omega) (by omega)]; omega)
    · simp only [oC, Classical.not_not] at hc17
      refine K_aloadN C (pc := 20) d5_20 rfl (by first | rfl | assumption) ?_
      refine K_iloadN C (pc := 21) d5_21 rfl ?_
      refine K_iloadN C (pc := 22) d5_22 rfl ?_
      refine K_static C (pc := 23) (mTB l Z a0 hw va us _ hN A2 S__assertionsDisabled S_HI_BYTE_SHIFT S_LO_BYTE_SHIFT) (tw28 hw) (tw29 hw) (tw22 hw) (tw30 hw) (by decide) pdo_4 d5_23 (argsL := [_, _, _]) (rest := _) rfl rfl rfl rfl (fun a q r => C.new a (Nat.le_trans q r)) (by decide) (Nat.le_of_ble_eq_true rfl) (by decide) (by decide) ?_
      rintro _ h3 ⟨b, rfl, D3⟩ -
      dsimp only [Option.toList, List.cons_append, List.nil_append]
      refine K_astore C (pc := 26) (Ls' := [_, _, _, _, _, _]) d5_26 rfl rfl ?_
      refine K_aload C (pc := 28) d5_28 rfl (by first | rfl | assumption) ?_
      refine K_iload C (pc := 30) d5_30 rfl ?_
      refine K_static C (pc := 32) (mGC l Z a0 hw b j u us _ (by omega) hu (hch u (List.mem_of_getElem? hu)) D3 S__assertionsDisabled S_HI_BYTE_SHIFT S_LO_BYTE_SHIFT) (tw44 hw) (tw45 hw) (tw22 hw) (tw46 hw) (by decide) pdo_5 d5_32 (argsL := [_, _]) (rest := _) rfl rfl rfl rfl (fun a q r => C.new a (Nat.le_trans q r)) (by decide) (Nat.le_of_ble_eq_true rfl) (by decide) (by decide) ?_
      rintro _ h8 ⟨rfl, rfl⟩ -
      dsimp only [Option.toList, List.cons_append, List.nil_append]
      refine K_sipush C (pc := 35) 255 d5_35 (by decide) ?_
      refine K_icmp C (pc := 38) 54 d5_38 (by decide) (by decide) (fun hc38 => ?_) (fun hc38 => ?_)
      · simp only [oC, Classical.not_not] at hc38
        refine K_aload C (pc := 54) d5_54 rfl (by first | rfl | assumption) ?_
        refine K_areturn C (pc := 56) d5_56 rfl rfl rfl (by decide) (by decide) (fun _ _ => ⟨b, 1, _, rfl, D3, Or.inr ⟨rfl, ⟨u, List.mem_of_getElem? hu, hb⟩, rfl⟩⟩)
      · simp only [oC, Classical.not_not] at hc38
        exact absurd hc38 hb
theorem pno_12 : plainFor (⟨"java/lang/StringUTF16", "coderFromArrayLen", "([BI)B"⟩ : MethodName) = true := by first | exact plainFor_of_name (by first | (simp [plainName, overriddenIn]; done) | decide +kernel) | decide +kernel
theorem efo_12 (m : MethodId) (x0 : Addr) (x1 : Int32) : entryFrame m #[.ref x0, .int x1] 2 = oF m 0 [.val (.ref x0), .val (.int x1)] [] := by (first | (simp [entryFrame, oF, mkF, argsToLocals, Value.category]; done) | rfl)
set_option maxRecDepth 65536 in
set_option maxHeartbeats 40000000 in
theorem mCF (l : Launch) (Z : State) (a0 : Array Value) (hw : ∀ d ∈ tables_1, d.before a0 Z = true) (b : Addr) (bs : List Value) (k : Nat) (h0 : Heap) (hl : bs.length = k) (D : oArr Z h0 b .byte bs) :
    oMeets l Z (⟨"java/lang/StringUTF16", "coderFromArrayLen", "([BI)B"⟩ : MethodName) jdk_52_method_15_code 2 (some .byte) ({ frames := 0, cells := 0, slots := 0, locals := 0 } : Room) #[.ref b, .int (Int32.ofNat k)] h0 (fun a => h0.size ≤ a) (fun v h => v = some (.int 0) ∧ h = h0) := by
  refine oMeets.of pno_12 (fun _ q => q) (fun E _ q => Nat.le_trans E.1 q) (Ls := [.val (.ref b), .val (.int (Int32.ofNat k))]) (fun m => efo_12 m b (Int32.ofNat k)) ?_
  intro p e s m below meth c C hs
  refine K_iloadN C (pc := 0) d12_0 rfl ?_
  refine K_aloadN C (pc := 1) d12_1 rfl (by first | rfl | assumption) ?_
  refine K_alen2 C (pc := 2) D d12_2 ?_
  rw [hl]
  refine K_isub C (pc := 3) d12_3 ?_
  refine K_bipush C (pc := 4) 31 d12_4 (by decide) ?_
  refine K_iushr C (pc := 6) d12_6 ?_
  refine K_i2b C (pc := 7) d12_7 ?_
  refine K_ireturn C (pc := 8) d12_8 (by simp) (z' := 0) (by rw [Int32.sub_self]; decide) (by decide) (by decide) (fun _ _ => ⟨rfl, rfl⟩)
set_option maxRecDepth 65536 in
set_option maxHeartbeats 40000000 in
theorem mCF1 (l : Launch) (Z : State) (a0 : Array Value) (hw : ∀ d ∈ tables_1, d.before a0 Z = true) (b : Addr) (bs : List Value) (k : Nat) (h0 : Heap) (hk : k < 16) (hp : 0 < k) (hl : bs.length = 2 * k) (D : oArr Z h0 b .byte bs) :
    oMeets l Z (⟨"java/lang/StringUTF16", "coderFromArrayLen", "([BI)B"⟩ : MethodName) jdk_52_method_15_code 2 (some .byte) ({ frames := 0, cells := 0, slots := 0, locals := 0 } : Room) #[.ref b, .int (Int32.ofNat k)] h0 (fun a => h0.size ≤ a) (fun v h => v = some (.int 1) ∧ h = h0) := by
  refine oMeets.of pno_12 (fun _ q => q) (fun E _ q => Nat.le_trans E.1 q) (Ls := [.val (.ref b), .val (.int (Int32.ofNat k))]) (fun m => efo_12 m b (Int32.ofNat k)) ?_
  intro p e s m below meth c C hs
  refine K_iloadN C (pc := 0) d12_0 rfl ?_
  refine K_aloadN C (pc := 1) d12_1 rfl (by first | rfl | assumption) ?_
  refine K_alen2 C (pc := 2) D d12_2 ?_
  rw [hl]
  refine K_isub C (pc := 3) d12_3 ?_
  refine K_bipush C (pc := 4) 31 d12_4 (by decide) ?_
  refine K_iushr C (pc := 6) d12_6 ?_
  refine K_i2b C (pc := 7) d12_7 ?_
  refine K_ireturn C (pc := 8) d12_8 (by simp) (z' := 1) (by rw [oCoder hk hp]; decide) (by decide) (by decide) (fun _ _ => ⟨rfl, rfl⟩)
theorem mCFg (l : Launch) (Z : State) (a0 : Array Value) (hw : ∀ d ∈ tables_1, d.before a0 Z = true) (b : Addr) (bs : List Value) (us : List Int32) (cd : Int32) (h0 : Heap) (hk : us.length < 16) (hp : 0 < us.length) (e : oEnc us cd bs) (D : oArr Z h0 b .byte bs) :
    oMeets l Z (⟨"java/lang/StringUTF16", "coderFromArrayLen", "([BI)B"⟩ : MethodName) jdk_52_method_15_code 2 (some .byte) ({ frames := 0, cells := 0, slots := 0, locals := 0 } : Room) #[.ref b, .int (Int32.ofNat us.length)] h0 (fun a => h0.size ≤ a) (fun v h => v = some (.int cd) ∧ h = h0) := by
  rcases oEncLen e with ⟨rfl, q⟩ | ⟨rfl, q⟩
  · exact mCF l Z a0 hw b bs _ h0 q D
  · exact mCF1 l Z a0 hw b bs _ h0 hk hp q D
theorem pno_3 : plainFor (⟨"java/lang/String", "<init>", "([CIILjava/lang/Void;)V"⟩ : MethodName) = true := by first | exact plainFor_of_name (by first | (simp [plainName, overriddenIn]; done) | decide +kernel) | decide +kernel
theorem efo_3n (m : MethodId) (x0 : Addr) (x1 : Addr) (x2 : Int32) (x3 : Int32) : entryFrame m #[.ref x0, .ref x1, .int x2, .int x3, .null] 6 = oF m 0 [.val (.ref x0), .val (.ref x1), .val (.int x2), .val (.int x3), .val .null, .unset] [] := by (first | (simp [entryFrame, oF, mkF, argsToLocals, Value.category]; done) | rfl)
set_option maxRecDepth 65536 in
set_option maxHeartbeats 40000000 in
theorem mSI4 (l : Launch) (Z : State) (a0 : Array Value) (hw : ∀ d ∈ tables_1, d.before a0 Z = true) (a va : Addr) (us : List Int32) (h0 : Heap) (hN : us.length ≤ 10) (hpos : 0 < us.length) (hch : ∀ u ∈ us, oChr u) (hya : Z.heap.size ≤ a) (X : Exa Z h0 a "java/lang/String") (FV : Fld Z h0 a "java/lang/String" "value" "[B" .null) (FC : Fld Z h0 a "java/lang/String" "coder" "B" (.int 0)) (A : oArr Z h0 va .char (us.map Value.int)) (cs : Int32) (hcs : cs ≠ 0) (S_COMPACT_STRINGS : Sta Z Z.heap "java/lang/String" "COMPACT_STRINGS" "Z" (.int cs)) (S__assertionsDisabled : Sta Z Z.heap "java/lang/StringUTF16" "$assertionsDisabled" "Z" (.int 1)) (S_HI_BYTE_SHIFT : Sta Z Z.heap "java/lang/StringUTF16" "HI_BYTE_SHIFT" "I" (.int 0)) (S_LO_BYTE_SHIFT : Sta Z Z.heap "java/lang/StringUTF16" "LO_BYTE_SHIFT" "I" (.int 8)) :
    oMeets l Z (⟨"java/lang/String", "<init>", "([CIILjava/lang/Void;)V"⟩ : MethodName) jdk_42_method_149_code 6 none ({ frames := 4, cells := 2, slots := 30, locals := 130 } : Room) #[.ref a, .ref va, .int 0, .int (Int32.ofNat us.length), .null] h0 (fun x => x = a ∨ h0.size ≤ x) (fun v h => v = none ∧ oStr Z h a us) := by
  refine oMeets.of pno_3 (fun _ q => Or.inr q) (fun E x q => q.elim (fun r => r ▸ hya) (fun r => Nat.le_trans E.1 r)) (Ls := [.val (.ref a), .val (.ref va), .val (.int 0), .val (.int (Int32.ofNat us.length)), .val .null, .unset]) (fun m => efo_3n m a va 0 (Int32.ofNat us.length)) ?_
  intro p e s m below meth c C hs
  refine K_aloadN C (pc := 0) d3_0 rfl (by first | rfl | assumption) ?_
  refine K_initO C (pc := 1) (tw16 hw) (tw17 hw) (tw18 hw) d3_1 rfl (by decide) (Nat.le_of_ble_eq_true rfl) ?_
  refine K_iloadN C (pc := 4) d3_4 rfl ?_
  refine K_if C (pc := 5) 27 d3_5 (by decide) (by decide) (fun hc5 => ?_) (fun hc5 => ?_)
  · simp only [oC, Classical.not_not] at hc5
    refine K_getS C (pc := 27) (tw19 hw) Via.refl S_COMPACT_STRINGS d3_27 ?_
    refine K_if C (pc := 30) 58 d3_30 (by decide) (by decide) (fun hc30 => ?_) (fun hc30 => ?_)
    · simp only [oC, Classical.not_not] at hc30
      exact absurd hc30 hcs
    · simp only [oC, Classical.not_not] at hc30
      refine K_aloadN C (pc := 33) d3_33 rfl (by first | rfl | assumption) ?_
      refine K_iloadN C (pc := 34) d3_34 rfl ?_
      refine K_iloadN C (pc := 35) d3_35 rfl ?_
      refine K_static C (pc := 36) (mC3 l Z a0 hw va us _ hN hch A S__assertionsDisabled S_HI_BYTE_SHIFT S_LO_BYTE_SHIFT) (tw20 hw) (tw21 hw) (tw22 hw) (tw23 hw) (by decide) pdo_4 d3_36 (argsL := [_, _, _]) (rest := _) rfl rfl rfl rfl (fun a q r => C.new a (Nat.le_trans q r)) (by decide) (Nat.le_of_ble_eq_true rfl) (by decide) (by decide) ?_
      rintro _ h1 ⟨b, cd, bs, rfl, D1, enc⟩ hK1
      have E1 := hK1.ext
      dsimp only [Option.toList, List.cons_append, List.nil_append]
      refine K_astore C (pc := 39) (Ls' := [_, _, _, _, _, _]) d3_39 rfl rfl ?_
      refine K_aloadN C (pc := 41) d3_41 rfl (by first | rfl | assumption) ?_
      refine K_aload C (pc := 42) d3_42 rfl (by first | rfl | assumption) ?_
      refine K_iloadN C (pc := 44) d3_44 rfl ?_
      refine K_static C (pc := 45) (mCFg l Z a0 hw b bs us cd h1 (by omega) hpos enc D1) (tw47 hw) (tw48 hw) (tw22 hw) (tw49 hw) (by decide) pdo_6 d3_45 (argsL := [_, _]) (rest := _) rfl rfl rfl rfl (fun a q r => C.new a (Nat.le_trans q r)) (by decide) (Nat.le_of_ble_eq_true rfl) (by decide) (by decide) ?_
      rintro _ h2 ⟨rfl, rfl⟩ -
      dsimp only [Option.toList, List.cons_append, List.nil_append]
      refine K_putFn C (pc := 48) (tw50 hw) Via.refl (FC.ext E1) (X.ext E1) (Or.inr ⟨(tw51 hw), rfl, rfl⟩) (tw7 hw) (ty := .byte) (by decide) rfl (fits_nar_byte _) (Or.inl rfl) d3_48 ?_
      intro h3 Wr1
      have FC3 : Fld Z h3 a "java/lang/String" "coder" "B" (.int cd) := by have q := Fld.same Wr1 (FC.ext E1); rwa [show narrow .byte (.int cd) = .int cd from congrArg Value.int (oNarCd enc)] at q
      have FV3 := (Fld.other Wr1 (FV.ext E1) (Or.inr (slot_ne (Or.inr (tw53 hw)) (Or.inr (tw51 hw)) (by decide) (t := (.array .byte)) (t' := .byte) (by decide) (by decide))))
      have X3 := (X.ext E1).wr Wr1
      have hab : b ≠ a := fun q => by obtain ⟨cl, A1, -⟩ := D1; exact (ne_arr (X.ext E1) (tw7 hw) A1) q.symm
      have D3 := D1.other Wr1 hab
      refine K_aloadN C (pc := 51) d3_51 rfl (by first | rfl | assumption) ?_
      refine K_aload C (pc := 52) d3_52 rfl (by first | rfl | assumption) ?_
      refine K_putF C (pc := 54) (tw52 hw) Via.refl FV3 X3 (Or.inr ⟨(tw53 hw), rfl, rfl⟩) (tw7 hw) (ty := (.array .byte)) (by decide) rfl rfl (Or.inl rfl) d3_54 ?_
      intro h4 Wr2
      have FV4 := Fld.same Wr2 FV3
      have FC4 := (Fld.other Wr2 FC3 (Or.inr (slot_ne (Or.inr (tw51 hw)) (Or.inr (tw53 hw)) (by decide) (t := .byte) (t' := (.array .byte)) (by decide) (by decide))))
      have X4 := X3.wr Wr2
      have D4 := D3.other Wr2 hab
      refine K_return C (pc := 57) d3_57 (by decide) (by decide) (fun _ _ => ⟨rfl, X4, hch, b, cd, _, FV4, FC4, D4, enc⟩)
  · simp only [oC, Classical.not_not] at hc5
    exact absurd hc5 (by rw [show (0 : Int32) = Int32.ofNat 0 from rfl, oOfEq (by omega) (by decide)]; omega)
theorem pno_2 : plainFor (⟨"java/lang/String", "<init>", "([C)V"⟩ : MethodName) = true := by first | exact plainFor_of_name (by first | (simp [plainName, overriddenIn]; done) | decide +kernel) | decide +kernel
theorem efo_2 (m : MethodId) (x0 : Addr) (x1 : Addr) : entryFrame m #[.ref x0, .ref x1] 2 = oF m 0 [.val (.ref x0), .val (.ref x1)] [] := by (first | (simp [entryFrame, oF, mkF, argsToLocals, Value.category]; done) | rfl)
set_option maxRecDepth 65536 in
set_option maxHeartbeats 40000000 in
theorem mSI1 (l : Launch) (Z : State) (a0 : Array Value) (hw : ∀ d ∈ tables_1, d.before a0 Z = true) (a va : Addr) (us : List Int32) (h0 : Heap) (hN : us.length ≤ 10) (hpos : 0 < us.length) (hch : ∀ u ∈ us, oChr u) (hya : Z.heap.size ≤ a) (X : Exa Z h0 a "java/lang/String") (FV : Fld Z h0 a "java/lang/String" "value" "[B" .null) (FC : Fld Z h0 a "java/lang/String" "coder" "B" (.int 0)) (A : oArr Z h0 va .char (us.map Value.int)) (cs : Int32) (hcs : cs ≠ 0) (S_COMPACT_STRINGS : Sta Z Z.heap "java/lang/String" "COMPACT_STRINGS" "Z" (.int cs)) (S__assertionsDisabled : Sta Z Z.heap "java/lang/StringUTF16" "$assertionsDisabled" "Z" (.int 1)) (S_HI_BYTE_SHIFT : Sta Z Z.heap "java/lang/StringUTF16" "HI_BYTE_SHIFT" "I" (.int 0)) (S_LO_BYTE_SHIFT : Sta Z Z.heap "java/lang/StringUTF16" "LO_BYTE_SHIFT" "I" (.int 8)) :
    oMeets l Z (⟨"java/lang/String", "<init>", "([C)V"⟩ : MethodName) jdk_42_method_3_code 2 none ({ frames := 5, cells := 2, slots := 30, locals := 150 } : Room) #[.ref a, .ref va] h0 (fun x => x = a ∨ h0.size ≤ x) (fun v h => v = none ∧ oStr Z h a us) := by
  refine oMeets.of pno_2 (fun _ q => Or.inr q) (fun E x q => q.elim (fun r => r ▸ hya) (fun r => Nat.le_trans E.1 r)) (Ls := [.val (.ref a), .val (.ref va)]) (fun m => efo_2 m a va) ?_
  intro p e s m below meth c C hs
  refine K_aloadN C (pc := 0) d2_0 rfl (by first | rfl | assumption) ?_
  refine K_aloadN C (pc := 1) d2_1 rfl (by first | rfl | assumption) ?_
  refine K_iconst C (pc := 2) 0 d2_2 (by decide) ?_
  refine K_aloadN C (pc := 3) d2_3 rfl (by first | rfl | assumption) ?_
  refine K_alen2 C (pc := 4) A d2_4 ?_
  rw [List.length_map]
  refine K_aconst_null C (pc := 5) d2_5 ?_
  refine K_special C (pc := 6) (mSI4 l Z a0 hw a va us _ hN hpos hch hya X FV FC A cs hcs S_COMPACT_STRINGS S__assertionsDisabled S_HI_BYTE_SHIFT S_LO_BYTE_SHIFT) (tw12 hw) (tw13 hw) (tw8 hw) (tw15 hw) rfl (by decide) pdo_7 d2_6 (argsL := [_, _, _, _]) (rest := _) rfl rfl rfl rfl (fun x q r => r.elim (fun z => Or.inl z) (fun z => C.new x (Nat.le_trans q z))) (by decide) (Nat.le_of_ble_eq_true rfl) (by decide) (by decide) ?_
  rintro _ h1 ⟨rfl, R1⟩ -
  dsimp only [Option.toList, List.cons_append, List.nil_append]
  refine K_return C (pc := 9) d2_9 (by decide) (by decide) (fun _ _ => ⟨rfl, R1⟩)
theorem pno_17 : plainFor (⟨"java/lang/String", "coder", "()B"⟩ : MethodName) = true := by first | exact plainFor_of_name (by first | (simp [plainName, overriddenIn]; done) | decide +kernel) | decide +kernel
theorem efo_17 (m : MethodId) (x0 : Addr) : entryFrame m #[.ref x0] 1 = oF m 0 [.val (.ref x0)] [] := by (first | (simp [entryFrame, oF, mkF, argsToLocals, Value.category]; done) | rfl)
set_option maxRecDepth 65536 in
set_option maxHeartbeats 40000000 in
theorem mCOD (l : Launch) (Z : State) (a0 : Array Value) (hw : ∀ d ∈ tables_1, d.before a0 Z = true) (x : Addr) (cd : Int32) (us : List Int32) (bs : List Value) (h0 : Heap) (K1 : Fld Z h0 x "java/lang/String" "coder" "B" (.int cd)) (enc : oEnc us cd bs) (cs : Int32) (hcs : cs ≠ 0) (S_COMPACT_STRINGS : Sta Z Z.heap "java/lang/String" "COMPACT_STRINGS" "Z" (.int cs)) :
    oMeets l Z (⟨"java/lang/String", "coder", "()B"⟩ : MethodName) jdk_42_method_152_code 1 (some .byte) ({ frames := 0, cells := 0, slots := 0, locals := 0 } : Room) #[.ref x] h0 (fun a => h0.size ≤ a) (fun v h => v = some (.int cd) ∧ h = h0) := by
  refine oMeets.of pno_17 (fun _ q => q) (fun E _ q => Nat.le_trans E.1 q) (Ls := [.val (.ref x)]) (fun m => efo_17 m x) ?_
  intro p e s m below meth c C hs
  refine K_getS C (pc := 0) (tw19 hw) Via.refl S_COMPACT_STRINGS d17_0 ?_
  refine K_if C (pc := 3) 13 d17_3 (by decide) (by decide) (fun hc3 => ?_) (fun hc3 => ?_)
  · simp only [oC, Classical.not_not] at hc3
    exact absurd hc3 hcs
  · simp only [oC, Classical.not_not] at hc3
    refine K_aloadN C (pc := 6) d17_6 rfl (by first | rfl | assumption) ?_
    refine K_getF C (pc := 7) (tw50 hw) Via.refl K1 d17_7 ?_
    refine K_goto C (pc := 10) 14 d17_10 (by decide) (by decide) ?_
    refine K_ireturn C (pc := 14) d17_14 (by simp) (z' := cd) (oNarCd enc) (by decide) (by decide) (fun _ _ => ⟨rfl, rfl⟩)
theorem pno_16 : plainFor (⟨"java/lang/String", "length", "()I"⟩ : MethodName) = true := by first | exact plainFor_of_name (by first | (simp [plainName, overriddenIn]; done) | decide +kernel) | decide +kernel
theorem efo_16 (m : MethodId) (x0 : Addr) : entryFrame m #[.ref x0] 1 = oF m 0 [.val (.ref x0)] [] := by (first | (simp [entryFrame, oF, mkF, argsToLocals, Value.category]; done) | rfl)
set_option maxRecDepth 65536 in
set_option maxHeartbeats 40000000 in
theorem mLEN (l : Launch) (Z : State) (a0 : Array Value) (hw : ∀ d ∈ tables_1, d.before a0 Z = true) (x : Addr) (us : List Int32) (h0 : Heap) (hN : us.length < 16) (R : oStr Z h0 x us) (cs : Int32) (hcs : cs ≠ 0) (S_COMPACT_STRINGS : Sta Z Z.heap "java/lang/String" "COMPACT_STRINGS" "Z" (.int cs)) :
    oMeets l Z (⟨"java/lang/String", "length", "()I"⟩ : MethodName) jdk_42_method_54_code 1 (some .int) ({ frames := 1, cells := 0, slots := 0, locals := 20 } : Room) #[.ref x] h0 (fun a => h0.size ≤ a) (fun v h => v = some (.int (Int32.ofNat us.length)) ∧ h = h0) := by
  refine oMeets.of pno_16 (fun _ q => q) (fun E _ q => Nat.le_trans E.1 q) (Ls := [.val (.ref x)]) (fun m => efo_16 m x) ?_
  intro p e s m below meth c C hs
  obtain ⟨X1, hu, b, cd, bs, V1, K1, A1, e⟩ := R
  refine K_aloadN C (pc := 0) d16_0 rfl (by first | rfl | assumption) ?_
  refine K_getF C (pc := 1) (tw52 hw) Via.refl V1 d16_1 ?_
  refine K_alen2 C (pc := 4) A1 d16_4 ?_
  refine K_aloadN C (pc := 5) d16_5 rfl (by first | rfl | assumption) ?_
  refine K_virtual C (pc := 6) (mCOD l Z a0 hw x cd us bs _ K1 e cs hcs S_COMPACT_STRINGS) (X1) (tw81 hw) (tw82 hw) (oNF (tw84 hw)) (tw84 hw) (tw83 hw) (tw8 hw) (tw85 hw) (by decide) pdo_8 d16_6 (argsL := []) (rest := _) rfl rfl rfl rfl (fun a q r => C.new a (Nat.le_trans q r)) (by decide) (Nat.le_of_ble_eq_true rfl) (by decide) (by decide) ?_
  rintro _ h8 ⟨rfl, rfl⟩ -
  dsimp only [Option.toList, List.cons_append, List.nil_append]
  refine K_ishr C (pc := 9) d16_9 ?_
  rw [oLenCd e hN]
  refine K_ireturn C (pc := 10) d16_10 (by simp) rfl (by decide) (by decide) (fun _ _ => ⟨rfl, rfl⟩)
theorem pno_19 : plainFor (⟨"java/lang/String", "isLatin1", "()Z"⟩ : MethodName) = true := by first | exact plainFor_of_name (by first | (simp [plainName, overriddenIn]; done) | decide +kernel) | decide +kernel
theorem efo_19 (m : MethodId) (x0 : Addr) : entryFrame m #[.ref x0] 1 = oF m 0 [.val (.ref x0)] [] := by (first | (simp [entryFrame, oF, mkF, argsToLocals, Value.category]; done) | rfl)
set_option maxRecDepth 65536 in
set_option maxHeartbeats 40000000 in
theorem mISL (l : Launch) (Z : State) (a0 : Array Value) (hw : ∀ d ∈ tables_1, d.before a0 Z = true) (x : Addr) (cd : Int32) (h0 : Heap) (K1 : Fld Z h0 x "java/lang/String" "coder" "B" (.int cd)) (cs : Int32) (hcs : cs ≠ 0) (S_COMPACT_STRINGS : Sta Z Z.heap "java/lang/String" "COMPACT_STRINGS" "Z" (.int cs)) :
    oMeets l Z (⟨"java/lang/String", "isLatin1", "()Z"⟩ : MethodName) jdk_42_method_154_code 1 (some .boolean) ({ frames := 0, cells := 0, slots := 0, locals := 0 } : Room) #[.ref x] h0 (fun a => h0.size ≤ a) (fun v h => v = some (.int (if cd = 0 then 1 else 0)) ∧ h = h0) := by
  refine oMeets.of pno_19 (fun _ q => q) (fun E _ q => Nat.le_trans E.1 q) (Ls := [.val (.ref x)]) (fun m => efo_19 m x) ?_
  intro p e s m below meth c C hs
  refine K_getS C (pc := 0) (tw19 hw) Via.refl S_COMPACT_STRINGS d19_0 ?_
  refine K_if C (pc := 3) 17 d19_3 (by decide) (by decide) (fun hc3 => ?_) (fun hc3 => ?_)
  · simp only [oC, Classical.not_not] at hc3
    exact absurd hc3 hcs
  · simp only [oC, Classical.not_not] at hc3
    refine K_aloadN C (pc := 6) d19_6 rfl (by first | rfl | assumption) ?_
    refine K_getF C (pc := 7) (tw50 hw) Via.refl K1 d19_7 ?_
    refine K_if C (pc := 10) 17 d19_10 (by decide) (by decide) (fun hc10 => ?_) (fun hc10 => ?_)
    · simp only [oC, Classical.not_not] at hc10
      refine K_iconst C (pc := 17) 0 d19_17 (by decide) ?_
      refine K_ireturn C (pc := 18) d19_18 (by simp) (z' := 0) (by decide) (by decide) (by decide) (fun _ _ => ⟨by simp [hc10], rfl⟩)
    · simp only [oC, Classical.not_not] at hc10
      refine K_iconst C (pc := 13) 1 d19_13 (by decide) ?_
      refine K_goto C (pc := 14) 18 d19_14 (by decide) (by decide) ?_
      refine K_ireturn C (pc := 18) d19_18 (by simp) (z' := 1) (by decide) (by decide) (by decide) (fun _ _ => ⟨by simp [hc10], rfl⟩)
theorem pno_24 : plainFor (⟨"jdk/internal/util/Preconditions", "checkIndex", "(IILjava/util/function/BiFunction;)I"⟩ : MethodName) = true := by first | exact plainFor_of_name (by first | (simp [plainName, overriddenIn]; done) | decide +kernel) | decide +kernel
theorem efo_24v (m : MethodId) (x0 : Int32) (x1 : Int32) (x2 : Value) (r2 : x2.isRef = true) : entryFrame m #[.int x0, .int x1, x2] 3 = oF m 0 [.val (.int x0), .val (.int x1), .val x2] [] := by rcases ref_cases r2 with rfl | ⟨_, rfl⟩ <;> (first | (simp [entryFrame, oF, mkF, argsToLocals, Value.category]; done) | rfl)
set_option maxRecDepth 65536 in
set_option maxHeartbeats 40000000 in
theorem mPCI (l : Launch) (Z : State) (a0 : Array Value) (hw : ∀ d ∈ tables_1, d.before a0 Z = true) (w : Value) (hr_w : w.isRef = true) (i k : Nat) (h0 : Heap) (hik : i < k) (hk : k < 2 ^ 31) :
    oMeets l Z (⟨"jdk/internal/util/Preconditions", "checkIndex", "(IILjava/util/function/BiFunction;)I"⟩ : MethodName) jdk_41_method_11_code 3 (some .int) ({ frames := 0, cells := 0, slots := 0, locals := 0 } : Room) #[.int (Int32.ofNat i), .int (Int32.ofNat k), w] h0 (fun a => h0.size ≤ a) (fun v h => v = some (.int (Int32.ofNat i)) ∧ h = h0) := by
  refine oMeets.of pno_24 (fun _ q => q) (fun E _ q => Nat.le_trans E.1 q) (Ls := [.val (.int (Int32.ofNat i)), .val (.int (Int32.ofNat k)), .val w]) (fun m => efo_24v m (Int32.ofNat i) (Int32.ofNat k) w hr_w) ?_
  intro p e s m below meth c C hs
  refine K_iloadN C (pc := 0) d24_0 rfl ?_
  refine K_if C (pc := 1) 9 d24_1 (by decide) (by decide) (fun hc1 => ?_) (fun hc1 => ?_)
  · simp only [oC, Classical.not_not] at hc1
    exact absurd hc1 (by rw [show (0 : Int32) = Int32.ofNat 0 from rfl, oOfLt (by omega) (by decide)]; omega)
  · simp only [oC, Classical.not_not] at hc1
    refine K_iloadN C (pc := 4) d24_4 rfl ?_
    refine K_iloadN C (pc := 5) d24_5 rfl ?_
    refine K_icmp C (pc := 6) 16 d24_6 (by decide) (by decide) (fun hc6 => ?_) (fun hc6 => ?_)
    · simp only [oC, Classical.not_not] at hc6
      refine K_iloadN C (pc := 16) d24_16 rfl ?_
      refine K_ireturn C (pc := 17) d24_17 (by simp) rfl (by decide) (by decide) (fun _ _ => ⟨rfl, rfl⟩)
    · simp only [oC, Classical.not_not] at hc6
      exact absurd ((oOfLt (by omega) hk).mpr hik) hc6
theorem pno_23 : plainFor (⟨"java/lang/String", "checkIndex", "(II)V"⟩ : MethodName) = true := by first | exact plainFor_of_name (by first | (simp [plainName, overriddenIn]; done) | decide +kernel) | decide +kernel
theorem efo_23 (m : MethodId) (x0 : Int32) (x1 : Int32) : entryFrame m #[.int x0, .int x1] 2 = oF m 0 [.val (.int x0), .val (.int x1)] [] := by (first | (simp [entryFrame, oF, mkF, argsToLocals, Value.category]; done) | rfl)
set_option maxRecDepth 65536 in
set_option maxHeartbeats 40000000 in
theorem mCI (l : Launch) (Z : State) (a0 : Array Value) (hw : ∀ d ∈ tables_1, d.before a0 Z = true) (i k : Nat) (h0 : Heap) (hik : i < k) (hk : k < 2 ^ 31) (vf : Value) (hr_vf : vf.isRef = true) (S_SIOOBE_FORMATTER : Sta Z Z.heap "jdk/internal/util/Preconditions" "SIOOBE_FORMATTER" "Ljava/util/function/BiFunction;" vf) :
    oMeets l Z (⟨"java/lang/String", "checkIndex", "(II)V"⟩ : MethodName) jdk_42_method_155_code 2 none ({ frames := 1, cells := 0, slots := 0, locals := 20 } : Room) #[.int (Int32.ofNat i), .int (Int32.ofNat k)] h0 (fun a => h0.size ≤ a) (fun v h => v = none ∧ h = h0) := by
  refine oMeets.of pno_23 (fun _ q => q) (fun E _ q => Nat.le_trans E.1 q) (Ls := [.val (.int (Int32.ofNat i)), .val (.int (Int32.ofNat k))]) (fun m => efo_23 m (Int32.ofNat i) (Int32.ofNat k)) ?_
  intro p e s m below meth c C hs
  refine K_iloadN C (pc := 0) d23_0 rfl ?_
  refine K_iloadN C (pc := 1) d23_1 rfl ?_
  refine K_getS C (pc := 2) (tw108 hw) Via.refl S_SIOOBE_FORMATTER d23_2 ?_
  refine K_static C (pc := 5) (mPCI l Z a0 hw vf hr_vf i k _ hik hk) (tw110 hw) (tw111 hw) (tw109 hw) (tw112 hw) (by decide) pdo_9 d23_5 (argsL := [_, _, _]) (rest := _) rfl rfl rfl rfl (fun a q r => C.new a (Nat.le_trans q r)) (by decide) (Nat.le_of_ble_eq_true rfl) (by decide) (by decide) ?_
  rintro _ h8 ⟨rfl, rfl⟩ -
  dsimp only [Option.toList, List.cons_append, List.nil_append]
  refine K_pop C (pc := 8) d23_8 rfl ?_
  refine K_return C (pc := 9) d23_9 (by decide) (by decide) (fun _ _ => ⟨rfl, rfl⟩)
theorem pno_25 : plainFor (⟨"java/lang/StringLatin1", "charAt", "([BI)C"⟩ : MethodName) = true := by first | exact plainFor_of_name (by first | (simp [plainName, overriddenIn]; done) | decide +kernel) | decide +kernel
theorem efo_25 (m : MethodId) (x0 : Addr) (x1 : Int32) : entryFrame m #[.ref x0, .int x1] 2 = oF m 0 [.val (.ref x0), .val (.int x1)] [] := by (first | (simp [entryFrame, oF, mkF, argsToLocals, Value.category]; done) | rfl)
set_option maxRecDepth 65536 in
set_option maxHeartbeats 40000000 in
theorem mLCA (l : Launch) (Z : State) (a0 : Array Value) (hw : ∀ d ∈ tables_1, d.before a0 Z = true) (b : Addr) (i : Nat) (u : Int32) (us : List Int32) (h0 : Heap) (hN : us.length < 16) (hu : us[i]? = some u) (hc : oChr u) (hsm : oSmall u) (D : oArr Z h0 b .byte (us.map oLv)) (vf : Value) (hr_vf : vf.isRef = true) (S_SIOOBE_FORMATTER : Sta Z Z.heap "jdk/internal/util/Preconditions" "SIOOBE_FORMATTER" "Ljava/util/function/BiFunction;" vf) :
    oMeets l Z (⟨"java/lang/StringLatin1", "charAt", "([BI)C"⟩ : MethodName) jdk_43_method_2_code 2 (some .char) ({ frames := 2, cells := 0, slots := 0, locals := 40 } : Room) #[.ref b, .int (Int32.ofNat i)] h0 (fun a => h0.size ≤ a) (fun v h => v = some (.int u) ∧ h = h0) := by
  refine oMeets.of pno_25 (fun _ q => q) (fun E _ q => Nat.le_trans E.1 q) (Ls := [.val (.ref b), .val (.int (Int32.ofNat i))]) (fun m => efo_25 m b (Int32.ofNat i)) ?_
  intro p e s m below meth c C hs
  refine K_iloadN C (pc := 0) d25_0 rfl ?_
  refine K_aloadN C (pc := 1) d25_1 rfl (by first | rfl | assumption) ?_
  refine K_alen2 C (pc := 2) D d25_2 ?_
  rw [List.length_map]
  refine K_static C (pc := 3) (mCI l Z a0 hw i us.length _ (List.getElem?_eq_some_iff.mp hu).1 (by omega) vf hr_vf S_SIOOBE_FORMATTER) (tw117 hw) (tw106 hw) (tw8 hw) (tw107 hw) (by decide) pdo_10 d25_3 (argsL := [_, _]) (rest := _) rfl rfl rfl rfl (fun a q r => C.new a (Nat.le_trans q r)) (by decide) (Nat.le_of_ble_eq_true rfl) (by decide) (by decide) ?_
  rintro _ h8 ⟨rfl, rfl⟩ -
  dsimp only [Option.toList, List.cons_append, List.nil_append]
  refine K_aloadN C (pc := 6) d25_6 rfl (by first | rfl | assumption) ?_
  refine K_iloadN C (pc := 7) d25_7 rfl ?_
  refine K_baload2 C (pc := 8) (v := .int (oLob u)) i D (oOf _ (by have := (List.getElem?_eq_some_iff.mp hu).1; omega)) (by simp [hu]) d25_8 ?_
  refine K_sipush C (pc := 9) 255 d25_9 (by decide) ?_
  refine K_iand C (pc := 12) d25_12 ?_
  rw [oLobM hc hsm]
  refine K_i2c C (pc := 13) d25_13 ?_
  refine K_ireturn C (pc := 14) d25_14 (by simp) (z' := u) (oNCu hc) (by decide) (by decide) (fun _ _ => ⟨rfl, rfl⟩)
theorem pno_22 : plainFor (⟨"java/lang/StringUTF16", "length", "([B)I"⟩ : MethodName) = true := by first | exact plainFor_of_name (by first | (simp [plainName, overriddenIn]; done) | decide +kernel) | decide +kernel
theorem efo_22 (m : MethodId) (x0 : Addr) : entryFrame m #[.ref x0] 1 = oF m 0 [.val (.ref x0)] [] := by (first | (simp [entryFrame, oF, mkF, argsToLocals, Value.category]; done) | rfl)
set_option maxRecDepth 65536 in
set_option maxHeartbeats 40000000 in
theorem mUL (l : Launch) (Z : State) (a0 : Array Value) (hw : ∀ d ∈ tables_1, d.before a0 Z = true) (b : Addr) (us : List Int32) (h0 : Heap) (hN : us.length < 16) (D : oArr Z h0 b .byte (us.flatMap oLH)) :
    oMeets l Z (⟨"java/lang/StringUTF16", "length", "([B)I"⟩ : MethodName) jdk_52_method_6_code 1 (some .int) ({ frames := 0, cells := 0, slots := 0, locals := 0 } : Room) #[.ref b] h0 (fun a => h0.size ≤ a) (fun v h => v = some (.int (Int32.ofNat us.length)) ∧ h = h0) := by
  refine oMeets.of pno_22 (fun _ q => q) (fun E _ q => Nat.le_trans E.1 q) (Ls := [.val (.ref b)]) (fun m => efo_22 m b) ?_
  intro p e s m below meth c C hs
  refine K_aloadN C (pc := 0) d22_0 rfl (by first | rfl | assumption) ?_
  refine K_alen2 C (pc := 1) D d22_1 ?_
  rw [oLHlen]
  refine K_iconst C (pc := 2) 1 d22_2 (by decide) ?_
  refine K_ishr C (pc := 3) d22_3 ?_
  rw [oShr hN]
  refine K_ireturn C (pc := 4) d22_4 (by simp) rfl (by decide) (by decide) (fun _ _ => ⟨rfl, rfl⟩)
theorem pno_21 : plainFor (⟨"java/lang/StringUTF16", "checkIndex", "(I[B)V"⟩ : MethodName) = true := by first | exact plainFor_of_name (by first | (simp [plainName, overriddenIn]; done) | decide +kernel) | decide +kernel
theorem efo_21 (m : MethodId) (x0 : Int32) (x1 : Addr) : entryFrame m #[.int x0, .ref x1] 2 = oF m 0 [.val (.int x0), .val (.ref x1)] [] := by (first | (simp [entryFrame, oF, mkF, argsToLocals, Value.category]; done) | rfl)
set_option maxRecDepth 65536 in
set_option maxHeartbeats 40000000 in
theorem mUCI (l : Launch) (Z : State) (a0 : Array Value) (hw : ∀ d ∈ tables_1, d.before a0 Z = true) (b : Addr) (i : Nat) (us : List Int32) (h0 : Heap) (hN : us.length < 16) (hi : i < us.length) (D : oArr Z h0 b .byte (us.flatMap oLH)) (vf : Value) (hr_vf : vf.isRef = true) (S_SIOOBE_FORMATTER : Sta Z Z.heap "jdk/internal/util/Preconditions" "SIOOBE_FORMATTER" "Ljava/util/function/BiFunction;" vf) :
    oMeets l Z (⟨"java/lang/StringUTF16", "checkIndex", "(I[B)V"⟩ : MethodName) jdk_52_method_91_code 2 none ({ frames := 2, cells := 0, slots := 0, locals := 40 } : Room) #[.int (Int32.ofNat i), .ref b] h0 (fun a => h0.size ≤ a) (fun v h => v = none ∧ h = h0) := by
  refine oMeets.of pno_21 (fun _ q => q) (fun E _ q => Nat.le_trans E.1 q) (Ls := [.val (.int (Int32.ofNat i)), .val (.ref b)]) (fun m => efo_21 m (Int32.ofNat i) b) ?_
  intro p e s m below meth c C hs
  refine K_iloadN C (pc := 0) d21_0 rfl ?_
  refine K_aloadN C (pc := 1) d21_1 rfl (by first | rfl | assumption) ?_
  refine K_static C (pc := 2) (mUL l Z a0 hw b us _ hN D) (tw102 hw) (tw103 hw) (tw22 hw) (tw104 hw) (by decide) pdo_11 d21_2 (argsL := [_]) (rest := _) rfl rfl rfl rfl (fun a q r => C.new a (Nat.le_trans q r)) (by decide) (Nat.le_of_ble_eq_true rfl) (by decide) (by decide) ?_
  rintro _ h8 ⟨rfl, rfl⟩ -
  dsimp only [Option.toList, List.cons_append, List.nil_append]
  refine K_static C (pc := 5) (mCI l Z a0 hw i us.length _ hi (by omega) vf hr_vf S_SIOOBE_FORMATTER) (tw105 hw) (tw106 hw) (tw8 hw) (tw107 hw) (by decide) pdo_10 d21_5 (argsL := [_, _]) (rest := _) rfl rfl rfl rfl (fun a q r => C.new a (Nat.le_trans q r)) (by decide) (Nat.le_of_ble_eq_true rfl) (by decide) (by decide) ?_
  rintro _ h8 ⟨rfl, rfl⟩ -
  dsimp only [Option.toList, List.cons_append, List.nil_append]
  refine K_return C (pc := 8) d21_8 (by decide) (by decide) (fun _ _ => ⟨rfl, rfl⟩)
theorem pno_20 : plainFor (⟨"java/lang/StringUTF16", "charAt", "([BI)C"⟩ : MethodName) = true := by first | exact plainFor_of_name (by first | (simp [plainName, overriddenIn]; done) | decide +kernel) | decide +kernel
theorem efo_20 (m : MethodId) (x0 : Addr) (x1 : Int32) : entryFrame m #[.ref x0, .int x1] 2 = oF m 0 [.val (.ref x0), .val (.int x1)] [] := by (first | (simp [entryFrame, oF, mkF, argsToLocals, Value.category]; done) | rfl)
set_option maxRecDepth 65536 in
set_option maxHeartbeats 40000000 in
theorem mUCA (l : Launch) (Z : State) (a0 : Array Value) (hw : ∀ d ∈ tables_1, d.before a0 Z = true) (b : Addr) (i : Nat) (u : Int32) (us : List Int32) (h0 : Heap) (hN : us.length < 16) (hu : us[i]? = some u) (hc : oChr u) (D : oArr Z h0 b .byte (us.flatMap oLH)) (vf : Value) (hr_vf : vf.isRef = true) (S_SIOOBE_FORMATTER : Sta Z Z.heap "jdk/internal/util/Preconditions" "SIOOBE_FORMATTER" "Ljava/util/function/BiFunction;" vf) (S__assertionsDisabled : Sta Z Z.heap "java/lang/StringUTF16" "$assertionsDisabled" "Z" (.int 1)) (S_HI_BYTE_SHIFT : Sta Z Z.heap "java/lang/StringUTF16" "HI_BYTE_SHIFT" "I" (.int 0)) (S_LO_BYTE_SHIFT : Sta Z Z.heap "java/lang/StringUTF16" "LO_BYTE_SHIFT" "I" (.int 8)) :
    oMeets l Z (⟨"java/lang/StringUTF16", "charAt", "([BI)C"⟩ : MethodName) jdk_52_method_83_code 2 (some .char) ({ frames := 3, cells := 0, slots := 0, locals := 60 } : Room) #[.ref b, .int (Int32.ofNat i)] h0 (fun a => h0.size ≤ a) (fun v h => v = some (.int u) ∧ h = h0) := by
  refine oMeets.of pno_20 (fun _ q => q) (fun E _ q => Nat.le_trans E.1 q) (Ls := [.val (.ref b), .val (.int (Int32.ofNat i))]) (fun m => efo_20 m b (Int32.ofNat i)) ?_
  intro p e s m below meth c C hs
  refine K_iloadN C (pc := 0) d20_0 rfl ?_
  refine K_aloadN C (pc := 1) d20_1 rfl (by first | rfl | assumption) ?_
  refine K_static C (pc := 2) (mUCI l Z a0 hw b i us _ hN (List.getElem?_eq_some_iff.mp hu).1 D vf hr_vf S_SIOOBE_FORMATTER) (tw99 hw) (tw100 hw) (tw22 hw) (tw101 hw) (by decide) pdo_12 d20_2 (argsL := [_, _]) (rest := _) rfl rfl rfl rfl (fun a q r => C.new a (Nat.le_trans q r)) (by decide) (Nat.le_of_ble_eq_true rfl) (by decide) (by decide) ?_
  rintro _ h8 ⟨rfl, rfl⟩ -
  dsimp only [Option.toList, List.cons_append, List.nil_append]
  refine K_aloadN C (pc := 5) d20_5 rfl (by first | rfl | assumption) ?_
  refine K_iloadN C (pc := 6) d20_6 rfl ?_
  refine K_static C (pc := 7) (mGC l Z a0 hw b i u us _ (by have := (List.getElem?_eq_some_iff.mp hu).1; omega) hu hc D S__assertionsDisabled S_HI_BYTE_SHIFT S_LO_BYTE_SHIFT) (tw44 hw) (tw45 hw) (tw22 hw) (tw46 hw) (by decide) pdo_5 d20_7 (argsL := [_, _]) (rest := _) rfl rfl rfl rfl (fun a q r => C.new a (Nat.le_trans q r)) (by decide) (Nat.le_of_ble_eq_true rfl) (by decide) (by decide) ?_
  rintro _ h8 ⟨rfl, rfl⟩ -
  dsimp only [Option.toList, List.cons_append, List.nil_append]
  refine K_ireturn C (pc := 10) d20_10 (by simp) (z' := u) (oCharN hc) (by decide) (by decide) (fun _ _ => ⟨rfl, rfl⟩)
theorem pno_18 : plainFor (⟨"java/lang/String", "charAt", "(I)C"⟩ : MethodName) = true := by first | exact plainFor_of_name (by first | (simp [plainName, overriddenIn]; done) | decide +kernel) | decide +kernel
theorem efo_18 (m : MethodId) (x0 : Addr) (x1 : Int32) : entryFrame m #[.ref x0, .int x1] 2 = oF m 0 [.val (.ref x0), .val (.int x1)] [] := by (first | (simp [entryFrame, oF, mkF, argsToLocals, Value.category]; done) | rfl)
set_option maxRecDepth 65536 in
set_option maxHeartbeats 40000000 in
theorem mCA (l : Launch) (Z : State) (a0 : Array Value) (hw : ∀ d ∈ tables_1, d.before a0 Z = true) (x : Addr) (i : Nat) (u : Int32) (us : List Int32) (h0 : Heap) (hN : us.length < 16) (hu : us[i]? = some u) (R : oStr Z h0 x us) (cs : Int32) (hcs : cs ≠ 0) (S_COMPACT_STRINGS : Sta Z Z.heap "java/lang/String" "COMPACT_STRINGS" "Z" (.int cs)) (vf : Value) (hr_vf : vf.isRef = true) (S_SIOOBE_FORMATTER : Sta Z Z.heap "jdk/internal/util/Preconditions" "SIOOBE_FORMATTER" "Ljava/util/function/BiFunction;" vf) (S__assertionsDisabled : Sta Z Z.heap "java/lang/StringUTF16" "$assertionsDisabled" "Z" (.int 1)) (S_HI_BYTE_SHIFT : Sta Z Z.heap "java/lang/StringUTF16" "HI_BYTE_SHIFT" "I" (.int 0)) (S_LO_BYTE_SHIFT : Sta Z Z.heap "java/lang/StringUTF16" "LO_BYTE_SHIFT" "I" (.int 8)) :
    oMeets l Z (⟨"java/lang/String", "charAt", "(I)C"⟩ : MethodName) jdk_42_method_56_code 2 (some .char) ({ frames := 4, cells := 0, slots := 0, locals := 80 } : Room) #[.ref x, .int (Int32.ofNat i)] h0 (fun a => h0.size ≤ a) (fun v h => v = some (.int u) ∧ h = h0) := by
  refine oMeets.of pno_18 (fun _ q => q) (fun E _ q => Nat.le_trans E.1 q) (Ls := [.val (.ref x), .val (.int (Int32.ofNat i))]) (fun m => efo_18 m x (Int32.ofNat i)) ?_
  intro p e s m below meth c C hs
  obtain ⟨X1, hch, b, cd, bs, V1, K1, A1, e⟩ := R
  have hc := hch u (List.mem_of_getElem? hu)
  refine K_aloadN C (pc := 0) d18_0 rfl (by first | rfl | assumption) ?_
  refine K_virtual C (pc := 1) (mISL l Z a0 hw x cd _ K1 cs hcs S_COMPACT_STRINGS) (X1) (tw91 hw) (tw92 hw) (oNF (tw94 hw)) (tw94 hw) (tw93 hw) (tw8 hw) (tw95 hw) (by decide) pdo_13 d18_1 (argsL := []) (rest := _) rfl rfl rfl rfl (fun a q r => C.new a (Nat.le_trans q r)) (by decide) (Nat.le_of_ble_eq_true rfl) (by decide) (by decide) ?_
  rintro _ h8 ⟨rfl, rfl⟩ -
  dsimp only [Option.toList, List.cons_append, List.nil_append]
  refine K_if C (pc := 4) 16 d18_4 (by decide) (by decide) (fun hc4 => ?_) (fun hc4 => ?_)
  · simp only [oC, Classical.not_not] at hc4
    obtain ⟨rfl, hs, rfl⟩ := e.resolve_left (fun q => absurd hc4 (by rw [q.1]; decide))
    refine K_aloadN C (pc := 16) d18_16 rfl (by first | rfl | assumption) ?_
    refine K_getF C (pc := 17) (tw52 hw) Via.refl V1 d18_17 ?_
    refine K_iloadN C (pc := 20) d18_20 rfl ?_
    refine K_static C (pc := 21) (mUCA l Z a0 hw b i u us _ hN hu hc A1 vf hr_vf S_SIOOBE_FORMATTER S__assertionsDisabled S_HI_BYTE_SHIFT S_LO_BYTE_SHIFT) (tw96 hw) (tw97 hw) (tw22 hw) (tw98 hw) (by decide) pdo_5 d18_21 (argsL := [_, _]) (rest := _) rfl rfl rfl rfl (fun a q r => C.new a (Nat.le_trans q r)) (by decide) (Nat.le_of_ble_eq_true rfl) (by decide) (by decide) ?_
    rintro _ h8 ⟨rfl, rfl⟩ -
    dsimp only [Option.toList, List.cons_append, List.nil_append]
    refine K_ireturn C (pc := 24) d18_24 (by simp) (z' := u) (oCharN hc) (by decide) (by decide) (fun _ _ => ⟨rfl, rfl⟩)
  · simp only [oC, Classical.not_not] at hc4
    obtain ⟨rfl, hs, rfl⟩ := e.resolve_right (fun q => hc4 (by rw [q.1]; rfl))
    refine K_aloadN C (pc := 7) d18_7 rfl (by first | rfl | assumption) ?_
    refine K_getF C (pc := 8) (tw52 hw) Via.refl V1 d18_8 ?_
    refine K_iloadN C (pc := 11) d18_11 rfl ?_
    refine K_static C (pc := 12) (mLCA l Z a0 hw b i u us _ hN hu hc (hs u (List.mem_of_getElem? hu)) A1 vf hr_vf S_SIOOBE_FORMATTER) (tw113 hw) (tw114 hw) (tw115 hw) (tw116 hw) (by decide) pdo_5 d18_12 (argsL := [_, _]) (rest := _) rfl rfl rfl rfl (fun a q r => C.new a (Nat.le_trans q r)) (by decide) (Nat.le_of_ble_eq_true rfl) (by decide) (by decide) ?_
    rintro _ h8 ⟨rfl, rfl⟩ -
    dsimp only [Option.toList, List.cons_append, List.nil_append]
    refine K_ireturn C (pc := 15) d18_15 (by simp) (z' := u) (oCharN hc) (by decide) (by decide) (fun _ _ => ⟨rfl, rfl⟩)
def oDig (u : Int32) : Prop := ¬ u < 48 ∧ ¬ 57 < u
def own_all (us : List Int32) (f t : Int32) : Prop := f < t ∧ ¬ Int32.ofNat us.length < t ∧ ∀ (i : Nat) (u : Int32), f.toInt ≤ (i : Int) → (i : Int) < t.toInt → us[i]? = some u → oDig u
theorem own_nat {us : List Int32} {f t : Int32} (hf : 0 ≤ f.toInt) (hN : us.length < 16) (h1 : f < t) (h2 : ¬ Int32.ofNat us.length < t) : ∃ fn tn : Nat, f = Int32.ofNat fn ∧ t = Int32.ofNat tn ∧ fn < tn ∧ tn ≤ us.length := by
  rw [Int32.lt_iff_toInt_lt] at h1 h2
  rw [oOf _ (by omega)] at h2
  refine ⟨f.toInt.toNat, t.toInt.toNat, Int32.toInt_inj.mp ?_, Int32.toInt_inj.mp ?_, by omega, by omega⟩
  · rw [oOf _ (by omega)]; omega
  · rw [oOf _ (by omega)]; omega
theorem pno_15 : plainFor (⟨"com/example/fencerow/fencerow/model/Digits", "all", "(Ljava/lang/String;II)Z"⟩ : MethodName) = true := by first | exact plainFor_of_name (by first | (simp [plainName, overriddenIn]; done) | decide +kernel) | decide +kernel
theorem efo_15 (m : MethodId) (x0 : Addr) (x1 : Int32) (x2 : Int32) : entryFrame m #[.ref x0, .int x1, .int x2] 5 = oF m 0 [.val (.ref x0), .val (.int x1), .val (.int x2), .unset, .unset] [] := by (first | (simp [entryFrame, oF, mkF, argsToLocals, Value.category]; done) | rfl)
set_option maxRecDepth 65536 in
set_option maxHeartbeats 40000000 in
theorem mALL (l : Launch) (Z : State) (a0 : Array Value) (hw : ∀ d ∈ tables_1, d.before a0 Z = true) (x : Addr) (f t : Int32) (us : List Int32) (h0 : Heap) (hN : us.length < 16) (hf : 0 ≤ f.toInt) (R : oStr Z h0 x us) (cs : Int32) (hcs : cs ≠ 0) (S_COMPACT_STRINGS : Sta Z Z.heap "java/lang/String" "COMPACT_STRINGS" "Z" (.int cs)) (vf : Value) (hr_vf : vf.isRef = true) (S_SIOOBE_FORMATTER : Sta Z Z.heap "jdk/internal/util/Preconditions" "SIOOBE_FORMATTER" "Ljava/util/function/BiFunction;" vf) (S__assertionsDisabled : Sta Z Z.heap "java/lang/StringUTF16" "$assertionsDisabled" "Z" (.int 1)) (S_HI_BYTE_SHIFT : Sta Z Z.heap "java/lang/StringUTF16" "HI_BYTE_SHIFT" "I" (.int 0)) (S_LO_BYTE_SHIFT : Sta Z Z.heap "java/lang/StringUTF16" "LO_BYTE_SHIFT" "I" (.int 8)) :
    oMeets l Z (⟨"com/example/fencerow/fencerow/model/Digits", "all", "(Ljava/lang/String;II)Z"⟩ : MethodName) prog_30_method_2_code 5 (some .boolean) ({ frames := 5, cells := 0, slots := 0, locals := 110 } : Room) #[.ref x, .int f, .int t] h0 (fun a => h0.size ≤ a) (fun v h => ∃ r : Int32, v = some (.int r) ∧ h = h0 ∧ ((r = 1 ∧ own_all us f t) ∨ (r = 0 ∧ ¬ own_all us f t))) := by
  refine oMeets.of pno_15 (fun _ q => q) (fun E _ q => Nat.le_trans E.1 q) (Ls := [.val (.ref x), .val (.int f), .val (.int t), .unset, .unset]) (fun m => efo_15 m x f t) ?_
  intro p e s m below meth c C hs
  refine K_iloadN C (pc := 0) d15_0 rfl ?_
  refine K_iloadN C (pc := 1) d15_1 rfl ?_
  refine K_icmp C (pc := 2) 13 d15_2 (by decide) (by decide) (fun hc2 => ?_) (fun hc2 => ?_)
  · simp only [oC, Classical.not_not] at hc2
    refine K_iconst C (pc := 13) 0 d15_13 (by decide) ?_
    refine K_ireturn C (pc := 14) d15_14 (by simp) (z' := 0) (by decide) (by decide) (by decide) (fun _ _ => ⟨0, rfl, rfl, Or.inr ⟨rfl, fun q => hc2 q.1⟩⟩)
  · simp only [oC, Classical.not_not] at hc2
    refine K_iloadN C (pc := 5) d15_5 rfl ?_
    refine K_aloadN C (pc := 6) d15_6 rfl (by first | rfl | assumption) ?_
    refine K_virtual C (pc := 7) (mLEN l Z a0 hw x us _ hN R cs hcs S_COMPACT_STRINGS) (R.1) (tw76 hw) (tw77 hw) (oNF (tw79 hw)) (tw79 hw) (tw78 hw) (tw8 hw) (tw80 hw) (by decide) pdo_14 d15_7 (argsL := []) (rest := _) rfl rfl rfl rfl (fun a q r => C.new a (Nat.le_trans q r)) (by decide) (Nat.le_of_ble_eq_true rfl) (by decide) (by decide) ?_
    rintro _ h8 ⟨rfl, hh⟩ -
    replace hh := hh.symm
    subst hh
    dsimp only [Option.toList, List.cons_append, List.nil_append]
    refine K_icmp C (pc := 10) 15 d15_10 (by decide) (by decide) (fun hc10 => ?_) (fun hc10 => ?_)
    · simp only [oC, Classical.not_not] at hc10
      obtain ⟨fn, tn, rfl, rfl, hft, htn⟩ := own_nat hf hN hc2 hc10
      have loop : ∀ (k i : Nat) (s4 : Slot), i + k = tn → fn ≤ i → (∀ (j : Nat) (u : Int32), fn ≤ j → j < i → us[j]? = some u → oDig u) → (s4 = .unset ∨ ∃ w, s4 = .val w ∧ w.category = 1) → oWP false p l e ({ frames := 5, cells := 0, slots := 0, locals := 110 } : Room) s m #[.ref x, .int (Int32.ofNat fn), .int (Int32.ofNat tn)] below meth c (fun a => h0.size ≤ a) (fun v h _ => ((fun v h => ∃ r : Int32, v = some (.int r) ∧ h = h0 ∧ ((r = 1 ∧ own_all us (Int32.ofNat fn) (Int32.ofNat tn)) ∨ (r = 0 ∧ ¬ own_all us (Int32.ofNat fn) (Int32.ofNat tn))))) v h) oT h0 0 0 (oF m 17 [.val (.ref x), .val (.int (Int32.ofNat fn)), .val (.int (Int32.ofNat tn)), .val (.int (Int32.ofNat i)), s4] []) := by
        intro k
        induction k with
        | zero =>
          intro i s4 hik hfi hall h4
          obtain rfl : i = tn := by omega
          refine K_iloadN C (pc := 17) d15_17 rfl ?_
          refine K_iloadN C (pc := 18) d15_18 rfl ?_
          refine K_icmp C (pc := 19) 51 d15_19 (by decide) (by decide) (fun hc19 => ?_) (fun hc19 => ?_)
          · simp only [oC, Classical.not_not] at hc19
            refine K_iconst C (pc := 51) 1 d15_51 (by decide) ?_
            refine K_ireturn C (pc := 52) d15_52 (by simp) (z' := 1) (by decide) (by decide) (by decide) (fun _ _ => ⟨1, rfl, rfl, Or.inl ⟨rfl, hc2, hc10, fun j u q1 q2 q3 => hall j u (by rw [oOf _ (by omega)] at q1; omega) (by rw [oOf _ (by omega)] at q2; omega) q3⟩⟩)
          · simp only [oC, Classical.not_not] at hc19
            exact absurd hc19 (by rw [oOfLt (by omega) (by omega)]; omega)
        | succ k ih =>
          intro i s4 hik hfi hall h4
          have hi : i < us.length := by omega
          obtain ⟨u, hu⟩ : ∃ u, us[i]? = some u := ⟨us[i], by simp [hi]⟩
          refine K_iloadN C (pc := 17) d15_17 rfl ?_
          refine K_iloadN C (pc := 18) d15_18 rfl ?_
          refine K_icmp C (pc := 19) 51 d15_19 (by decide) (by decide) (fun hc19 => ?_) (fun hc19 => ?_)
          · simp only [oC, Classical.not_not] at hc19
            exact absurd ((oOfLt (by omega) (by omega)).mpr (by omega)) hc19
          · simp only [oC, Classical.not_not] at hc19
            refine K_aloadN C (pc := 22) d15_22 rfl (by first | rfl | assumption) ?_
            refine K_iloadN C (pc := 23) d15_23 rfl ?_
            refine K_virtual C (pc := 24) (mCA l Z a0 hw x i u us _ hN hu R cs hcs S_COMPACT_STRINGS vf hr_vf S_SIOOBE_FORMATTER S__assertionsDisabled S_HI_BYTE_SHIFT S_LO_BYTE_SHIFT) (R.1) (tw86 hw) (tw87 hw) (oNF (tw89 hw)) (tw89 hw) (tw88 hw) (tw8 hw) (tw90 hw) (by decide) pdo_15 d15_24 (argsL := [_]) (rest := _) rfl rfl rfl rfl (fun a q r => C.new a (Nat.le_trans q r)) (by decide) (Nat.le_of_ble_eq_true rfl) (by decide) (by decide) ?_
            rintro _ h8 ⟨rfl, hh⟩ -
            replace hh := hh.symm
            subst hh
            dsimp only [Option.toList, List.cons_append, List.nil_append]
            refine K_istoreV C (pc := 27) (Ls' := [_, _, _, _, _]) _ d15_27 rfl h4 rfl ?_
            refine K_iload C (pc := 29) d15_29 rfl ?_
            refine K_bipush C (pc := 31) 48 d15_31 (by decide) ?_
            refine K_icmp C (pc := 33) 43 d15_33 (by decide) (by decide) (fun hc33 => ?_) (fun hc33 => ?_)
            · simp only [oC, Classical.not_not] at hc33
              refine K_iconst C (pc := 43) 0 d15_43 (by decide) ?_
              refine K_ireturn C (pc := 44) d15_44 (by simp) (z' := 0) (by decide) (by decide) (by decide) (fun _ _ => ⟨0, rfl, rfl, Or.inr ⟨rfl, fun q => (q.2.2 i u (by rw [oOf _ (by omega)]; omega) (by rw [oOf _ (by omega)]; omega) hu).1 hc33⟩⟩)
            · simp only [oC, Classical.not_not] at hc33
              refine K_iload C (pc := 36) d15_36 rfl ?_
              refine K_bipush C (pc := 38) 57 d15_38 (by decide) ?_
              refine K_icmp C (pc := 40) 45 d15_40 (by decide) (by decide) (fun hc40 => ?_) (fun hc40 => ?_)
              · simp only [oC, Classical.not_not] at hc40
                refine K_iinc C (pc := 45) (w := 1) (Ls' := [_, _, _, _, _]) d15_45 (by decide) rfl rfl ?_
                refine K_goto C (pc := 48) 17 d15_48 (by decide) (by decide) ?_
                rw [oOfS]
                refine ih (i + 1) _ (by omega) (by omega) (fun j w q1 q2 q3 => ?_) (Or.inr ⟨_, rfl, rfl⟩)
                rcases Nat.lt_or_ge j i with q | q
                · exact hall j w q1 q q3
                · obtain rfl : j = i := by omega
                  cases hu.symm.trans q3
                  exact ⟨hc33, hc40⟩
              · simp only [oC, Classical.not_not] at hc40
                refine K_iconst C (pc := 43) 0 d15_43 (by decide) ?_
                refine K_ireturn C (pc := 44) d15_44 (by simp) (z' := 0) (by decide) (by decide) (by decide) (fun _ _ => ⟨0, rfl, rfl, Or.inr ⟨rfl, fun q => (q.2.2 i u (by rw [oOf _ (by omega)]; omega) (by rw [oOf _ (by omega)]; omega) hu).2 hc40⟩⟩)
      refine K_iloadN C (pc := 15) d15_15 rfl ?_
      refine K_istoreN C (pc := 16) (Ls' := [_, _, _, _, _]) d15_16 rfl ?_
      exact loop (tn - fn) fn _ (by omega) (by omega) (fun j u q1 q2 => by omega) (Or.inl rfl)
    · simp only [oC, Classical.not_not] at hc10
      refine K_iconst C (pc := 13) 0 d15_13 (by decide) ?_
      refine K_ireturn C (pc := 14) d15_14 (by simp) (z' := 0) (by decide) (by decide) (by decide) (fun _ _ => ⟨0, rfl, rfl, Or.inr ⟨rfl, fun q => q.2.1 hc10⟩⟩)
section OwnVal
theorem own_digI {u : Int32} : oDig u ↔ 48 ≤ u.toInt ∧ u.toInt ≤ 57 := by
  unfold oDig
  rw [Int32.lt_iff_toInt_lt, Int32.lt_iff_toInt_lt, show (48 : Int32).toInt = 48 from rfl, show (57 : Int32).toInt = 57 from rfl]
  omega
theorem own_m64 (x : Int64) : oChr (x &&& 65535).toInt32 := by
  have e : (x &&& 65535).toInt = x.toInt % (2 ^ 16 : Nat) := c_maskL x 65535 16 (by decide) (by decide)
  unfold oChr
  rw [Int64.toInt_toInt32, e, Int.bmod_def]
  omega
theorem own_dc {r : Int32} (h : oChr r) : oChr (48 + r % 10) := by
  have : 0 ≤ (r % 10).toInt ∧ (r % 10).toInt < 10 := by
    rw [Int32.toInt_mod, show (10 : Int32).toInt = 10 from rfl, Int.tmod_eq_emod_of_nonneg h.1]
    omega
  unfold oChr
  rw [Int32.toInt_add, show (48 : Int32).toInt = 48 from rfl, Int.bmod_def]
  omega
/-- the value of k digits from place fn -/
def own_hv (us : List Int32) (fn : Nat) : Nat → Int
  | 0 => 0
  | k + 1 => own_hv us fn k * 10 + ((us[fn + k]?.getD 0).toInt - 48)
def own_S (v : Nat → Int) : Nat → Int
  | 0 => 0
  | n + 1 => own_S v n + v n
theorem own_hvb {us : List Int32} {fn : Nat} (k : Nat) (h : ∀ j u, fn ≤ j → j < fn + k → us[j]? = some u → oDig u) (hl : fn + k ≤ us.length) : 0 ≤ own_hv us fn k ∧ own_hv us fn k < 10 ^ k := by
  induction k with
  | zero => exact ⟨Int.le_refl 0, by show (0 : Int) < 1; decide⟩
  | succ k ih =>
    obtain ⟨h1, h2⟩ := ih (fun j u a b => h j u a (by omega)) (by omega)
    have hg : us[fn + k]? = some us[fn + k] := List.getElem?_eq_getElem (by omega)
    have hd := own_digI.mp (h (fn + k) _ (by omega) (by omega) hg)
    unfold own_hv
    rw [hg, Option.getD_some, Int.pow_succ]
    omega
theorem own_p10 {k n : Nat} (h : k ≤ n) : (10 : Int) ^ k ≤ 10 ^ n := by
  have := Nat.pow_le_pow_right (n := 10) (by decide) h
  exact_mod_cast this
/-- one step of Horner's rule in int -/
theorem own_step {us : List Int32} {fn k : Nat} {r u : Int32} (hk : k ≤ 8) (h : ∀ j u, fn ≤ j → j < fn + (k + 1) → us[j]? = some u → oDig u) (hl : fn + (k + 1) ≤ us.length) (hr : r.toInt = own_hv us fn k) (hu : us[fn + k]? = some u) : (r * 10 + u - 48).toInt = own_hv us fn (k + 1) := by
  obtain ⟨h1, h2⟩ := own_hvb k (fun j u a b => h j u a (by omega)) (by omega)
  have h3 := own_p10 hk
  have hd := own_digI.mp (h _ _ (by omega) (by omega) hu)
  have e8 : (10 : Int) ^ 8 = 100000000 := by decide
  rw [e8] at h3
  unfold own_hv
  rw [hu, Option.getD_some, ← hr, Int32.toInt_sub, Int32.toInt_add, Int32.toInt_mul, show (10 : Int32).toInt = 10 from rfl, show (48 : Int32).toInt = 48 from rfl]
  simp only [Int.bmod_def]
  omega
def own_v (us : List Int32) (fn tn i : Nat) : Int := if fn ≤ i ∧ i < tn then ((us[i]?.getD 0).toInt - 48) * 10 ^ (tn - 1 - i) else 0
theorem own_Slo {us : List Int32} {fn tn : Nat} : ∀ m, m ≤ fn → own_S (own_v us fn tn) m = 0
  | 0, _ => rfl
  | m + 1, h => by
    rw [own_S, own_Slo m (by omega), own_v, if_neg (by omega)]; rfl
theorem own_Smi {us : List Int32} {fn tn : Nat} (d : Nat) (h : fn + d ≤ tn) : own_S (own_v us fn tn) (fn + d) = own_hv us fn d * 10 ^ (tn - (fn + d)) := by
  induction d with
  | zero => rw [own_Slo _ (by omega), own_hv, Int.zero_mul]
  | succ d ih =>
    rw [← Nat.add_assoc, own_S, ih (by omega), own_v, if_pos (by omega), own_hv, show tn - (fn + d) = (tn - (fn + d + 1)) + 1 by omega, show tn - 1 - (fn + d) = tn - (fn + d + 1) by omega, Int.pow_succ, Int.add_mul, Int.mul_assoc, Int.mul_comm (10 ^ _) 10]
theorem own_Shi {us : List Int32} {fn tn : Nat} (e : Nat) : own_S (own_v us fn tn) (tn + e) = own_S (own_v us fn tn) tn := by
  induction e with
  | zero => rfl
  | succ e ih => rw [← Nat.add_assoc, own_S, ih, own_v, if_neg (by omega), Int.add_zero]
theorem own_sum {us : List Int32} {fn tn : Nat} (h : fn ≤ tn) (h2 : tn ≤ 10) : own_S (own_v us fn tn) 10 = own_hv us fn (tn - fn) := by
  have e1 := own_Shi (us := us) (fn := fn) (tn := tn) (10 - tn)
  have e2 := own_Smi (us := us) (fn := fn) (tn := tn) (tn - fn) (by omega)
  rw [show tn + (10 - tn) = 10 by omega] at e1
  rw [show fn + (tn - fn) = tn by omega, Nat.sub_self, Int.pow_zero, Int.mul_one] at e2
  rw [e1, e2]
def own_T (us : List Int32) (fn tn i : Nat) (u : Int32) (z : Int64) : Prop :=
  (¬ (fn ≤ i ∧ i < tn) ∧ z = 0) ∨ (fn ≤ i ∧ i < tn ∧ ¬ oDig u ∧ z = -1) ∨ (fn ≤ i ∧ i < tn ∧ oDig u ∧ z.toInt = (u.toInt - 48) * 10 ^ (tn - 1 - i))
theorem own_Tneg {us : List Int32} {fn tn i : Nat} {u : Int32} {z : Int64} (T : own_T us fn tn i u z) (hz : z < 0) : fn ≤ i ∧ i < tn ∧ ¬ oDig u := by
  rcases T with ⟨-, rfl⟩ | ⟨a, b, c, -⟩ | ⟨a, b, c, e⟩
  · exact absurd hz (by decide)
  · exact ⟨a, b, c⟩
  · have := own_digI.mp c
    rw [Int64.lt_iff_toInt_lt, show (0 : Int64).toInt = 0 from rfl, e] at hz
    have h1 : 0 ≤ (u.toInt - 48) * 10 ^ (tn - 1 - i) := Int.mul_nonneg (by omega) (Int.pow_nonneg (by decide))
    omega
theorem own_Tpos {us : List Int32} {fn tn i : Nat} {u : Int32} {z : Int64} (T : own_T us fn tn i u z) (hz : ¬ z < 0) (hu : us[i]? = some u) (ht : tn ≤ 10) : (fn ≤ i → i < tn → oDig u) ∧ z.toInt = own_v us fn tn i ∧ 0 ≤ z.toInt ∧ z.toInt ≤ 9000000000 := by
  rcases T with ⟨a, rfl⟩ | ⟨a, b, c, rfl⟩ | ⟨a, b, c, e⟩
  · refine ⟨fun x y => absurd ⟨x, y⟩ a, ?_, by decide, by decide⟩
    rw [own_v, if_neg a]; rfl
  · exact absurd (by decide) hz
  · refine ⟨fun _ _ => c, ?_, ?_, ?_⟩
    · rw [own_v, if_pos ⟨a, b⟩, hu, Option.getD_some, e]
    · rw [Int64.lt_iff_toInt_lt, show (0 : Int64).toInt = 0 from rfl] at hz
      omega
    · have := own_digI.mp c
      have h3 := own_p10 (k := tn - 1 - i) (n := 9) (by omega)
      have h4 : (u.toInt - 48) * 10 ^ (tn - 1 - i) ≤ 9 * 10 ^ 9 := Int.mul_le_mul (by omega) h3 (Int.pow_nonneg (by decide)) (by decide)
      rw [e]
      exact h4
theorem own_add {x y : Int64} {a b c : Int} (hx : x.toInt = a ∧ 0 ≤ a ∧ a ≤ c) (hy : y.toInt = b ∧ 0 ≤ y.toInt ∧ y.toInt ≤ 9000000000) (hc : c ≤ 90000000000) : (x + y).toInt = a + b ∧ 0 ≤ a + b ∧ a + b ≤ c + 9000000000 := by
  obtain ⟨h1, h2, h3⟩ := hx
  obtain ⟨h4, h5, h6⟩ := hy
  rw [h4] at h5 h6
  refine ⟨?_, by omega, by omega⟩
  rw [Int64.toInt_add, h1, h4, Int.bmod_def]
  omega
theorem own_sum10 {z0 z1 z2 z3 z4 z5 z6 z7 z8 z9 : Int64} {v : Nat → Int} (h0 : z0.toInt = v 0 ∧ 0 ≤ z0.toInt ∧ z0.toInt ≤ 9000000000) (h1 : z1.toInt = v 1 ∧ 0 ≤ z1.toInt ∧ z1.toInt ≤ 9000000000) (h2 : z2.toInt = v 2 ∧ 0 ≤ z2.toInt ∧ z2.toInt ≤ 9000000000) (h3 : z3.toInt = v 3 ∧ 0 ≤ z3.toInt ∧ z3.toInt ≤ 9000000000) (h4 : z4.toInt = v 4 ∧ 0 ≤ z4.toInt ∧ z4.toInt ≤ 9000000000) (h5 : z5.toInt = v 5 ∧ 0 ≤ z5.toInt ∧ z5.toInt ≤ 9000000000) (h6 : z6.toInt = v 6 ∧ 0 ≤ z6.toInt ∧ z6.toInt ≤ 9000000000) (h7 : z7.toInt = v 7 ∧ 0 ≤ z7.toInt ∧ z7.toInt ≤ 9000000000) (h8 : z8.toInt = v 8 ∧ 0 ≤ z8.toInt ∧ z8.toInt ≤ 9000000000) (h9 : z9.toInt = v 9 ∧ 0 ≤ z9.toInt ∧ z9.toInt ≤ 9000000000) :
    (z0 + z1 + z2 + z3 + z4 + z5 + z6 + z7 + z8 + z9).toInt = own_S v 10 := by
  have e : own_S v 10 = 0 + v 0 + v 1 + v 2 + v 3 + v 4 + v 5 + v 6 + v 7 + v 8 + v 9 := rfl
  rw [e, Int.zero_add]
  have s0 : z0.toInt = v 0 ∧ 0 ≤ v 0 ∧ v 0 ≤ 9000000000 := by rw [← h0.1]; exact ⟨rfl, h0.2⟩
  have s1 := own_add s0 h1 (by decide)
  have s2 := own_add s1 h2 (by decide)
  have s3 := own_add s2 h3 (by decide)
  have s4 := own_add s3 h4 (by decide)
  have s5 := own_add s4 h5 (by decide)
  have s6 := own_add s5 h6 (by decide)
  have s7 := own_add s6 h7 (by decide)
  have s8 := own_add s7 h8 (by decide)
  have s9 := own_add s8 h9 (by decide)
  exact s9.1
theorem own_i64 {r : Int32} {z : Int64} (h : z.toInt = r.toInt) : XT.cmpL r.toInt64 z = 0 := by
  have e : r.toInt64 = z := Int64.toInt_inj.mp (by rw [Int32.toInt_toInt64, h])
  subst e
  unfold XT.cmpL
  rw [if_neg (by rw [Int64.lt_iff_toInt_lt]; omega), if_pos rfl]
theorem own_c0 {z : Int64} : XT.cmpL z 0 < 0 ↔ z < 0 := by
  unfold XT.cmpL
  split
  · rename_i h
    rw [Int64.lt_iff_toInt_lt, show (0 : Int64).toInt = 0 from rfl] at h
    exact ⟨fun q => absurd q (by decide), fun q => by rw [Int64.lt_iff_toInt_lt, show (0 : Int64).toInt = 0 from rfl] at q; omega⟩
  · split
    · rename_i h; exact ⟨fun q => absurd q (by decide), fun q => by rw [h] at q; exact absurd q (by decide)⟩
    · rename_i h g
      refine ⟨fun _ => ?_, fun _ => by decide⟩
      have : z.toInt ≠ 0 := fun q => g (Int64.toInt_inj.mp q)
      rw [Int64.lt_iff_toInt_lt, show (0 : Int64).toInt = 0 from rfl] at h ⊢
      omega
theorem own_T3 {u : Int32} {e : Nat} {w : Int64} (hd : oDig u) (he : e ≤ 9) (hw : w.toInt = 10 ^ e) : ((u - 48).toInt64 * w).toInt = (u.toInt - 48) * 10 ^ e := by
  have h := own_digI.mp hd
  have h3 := own_p10 he
  have h4 : (u.toInt - 48) * 10 ^ e ≤ 9 * 10 ^ 9 := Int.mul_le_mul (by omega) h3 (Int.pow_nonneg (by decide)) (by decide)
  have h5 : 0 ≤ (u.toInt - 48) * 10 ^ e := Int.mul_nonneg (by omega) (Int.pow_nonneg (by decide))
  have h6 : (u - 48).toInt = u.toInt - 48 := by
    rw [Int32.toInt_sub, show (48 : Int32).toInt = 48 from rfl, Int.bmod_def]
    omega
  rw [Int64.toInt_mul, Int32.toInt_toInt64, h6, hw, Int.bmod_def]
  have e9 : (9 : Int) * 10 ^ 9 = 9000000000 := by decide
  rw [e9] at h4
  omega
theorem own_pwk (e : Nat) (he : e ≤ 9) : ∃ w : Int64, ([1, 10, 100, 1000, 10000, 100000, 1000000, 10000000, 100000000, 1000000000] : List Int64)[e]? = some w ∧ w.toInt = 10 ^ e := by
  match e, he with
  | 0, _ => exact ⟨_, rfl, by decide⟩
  | 1, _ => exact ⟨_, rfl, by decide⟩
  | 2, _ => exact ⟨_, rfl, by decide⟩
  | 3, _ => exact ⟨_, rfl, by decide⟩
  | 4, _ => exact ⟨_, rfl, by decide⟩
  | 5, _ => exact ⟨_, rfl, by decide⟩
  | 6, _ => exact ⟨_, rfl, by decide⟩
  | 7, _ => exact ⟨_, rfl, by decide⟩
  | 8, _ => exact ⟨_, rfl, by decide⟩
  | 9, _ => exact ⟨_, rfl, by decide⟩
  | e + 10, h => omega
theorem own_t {fn gn : Nat} (hf : fn < 12) (hg : gn < 12) : (Int32.ofNat fn - 2 + Int32.ofNat gn).toInt = (fn : Int) - 2 + gn := by
  rw [Int32.toInt_add, Int32.toInt_sub, oOf fn (by omega), oOf gn (by omega), show (2 : Int32).toInt = 2 from rfl]
  simp only [Int.bmod_def]
  omega
theorem own_ix {tn i : Nat} (h1 : i < tn) (h2 : tn ≤ 10) : (Int32.ofNat tn - 1 - Int32.ofNat i).toInt = ((tn - 1 - i : Nat) : Int) := by
  rw [Int32.toInt_sub, Int32.toInt_sub, oOf tn (by omega), oOf i (by omega), show (1 : Int32).toInt = 1 from rfl]
  simp only [Int.bmod_def]
  omega
theorem own_tn {us : List Int32} {fn : Nat} {t : Int32} (hN : us.length < 16) (hf : fn < 12) (h1 : Int32.ofNat fn < t) (h2 : ¬ Int32.ofNat us.length < t) : ∃ tn : Nat, t = Int32.ofNat tn ∧ fn < tn ∧ tn ≤ us.length := by
  rw [Int32.lt_iff_toInt_lt, oOf _ (by omega)] at h1 h2
  refine ⟨t.toInt.toNat, Int32.toInt_inj.mp ?_, by omega, by omega⟩
  rw [oOf _ (by omega)]; omega
theorem own_dg {us : List Int32} {fn tn : Nat} (hf : fn < 2 ^ 31) (ht : tn < 2 ^ 31) (h : own_all us (Int32.ofNat fn) (Int32.ofNat tn)) : ∀ j u, fn ≤ j → j < tn → us[j]? = some u → oDig u := fun j u a b c => h.2.2 j u (by rw [oOf _ hf]; omega) (by rw [oOf _ ht]; omega) c
theorem own_allT {us : List Int32} {fn tn : Nat} {u0 u1 u2 u3 u4 u5 u6 u7 u8 u9 : Int32} (hl : us.length = 10) (h1 : fn < tn) (h2 : tn ≤ 10) (e0 : us[0]? = some u0) (e1 : us[1]? = some u1) (e2 : us[2]? = some u2) (e3 : us[3]? = some u3) (e4 : us[4]? = some u4) (e5 : us[5]? = some u5) (e6 : us[6]? = some u6) (e7 : us[7]? = some u7) (e8 : us[8]? = some u8) (e9 : us[9]? = some u9) (d0 : fn ≤ 0 → 0 < tn → oDig u0) (d1 : fn ≤ 1 → 1 < tn → oDig u1) (d2 : fn ≤ 2 → 2 < tn → oDig u2) (d3 : fn ≤ 3 → 3 < tn → oDig u3) (d4 : fn ≤ 4 → 4 < tn → oDig u4) (d5 : fn ≤ 5 → 5 < tn → oDig u5) (d6 : fn ≤ 6 → 6 < tn → oDig u6) (d7 : fn ≤ 7 → 7 < tn → oDig u7) (d8 : fn ≤ 8 → 8 < tn → oDig u8) (d9 : fn ≤ 9 → 9 < tn → oDig u9) : own_all us (Int32.ofNat fn) (Int32.ofNat tn) := by
  refine ⟨(oOfLt (by omega) (by omega)).mpr h1, fun q => ?_, fun i u a b c => ?_⟩
  · rw [oOfLt (by omega) (by omega)] at q; omega
  · rw [oOf _ (by omega)] at a b
    match i, a, b, c with
    | 0, a, b, c => cases e0.symm.trans c; exact d0 (by omega) (by omega)
    | 1, a, b, c => cases e1.symm.trans c; exact d1 (by omega) (by omega)
    | 2, a, b, c => cases e2.symm.trans c; exact d2 (by omega) (by omega)
    | 3, a, b, c => cases e3.symm.trans c; exact d3 (by omega) (by omega)
    | 4, a, b, c => cases e4.symm.trans c; exact d4 (by omega) (by omega)
    | 5, a, b, c => cases e5.symm.trans c; exact d5 (by omega) (by omega)
    | 6, a, b, c => cases e6.symm.trans c; exact d6 (by omega) (by omega)
    | 7, a, b, c => cases e7.symm.trans c; exact d7 (by omega) (by omega)
    | 8, a, b, c => cases e8.symm.trans c; exact d8 (by omega) (by omega)
    | 9, a, b, c => cases e9.symm.trans c; exact d9 (by omega) (by omega)
    | i + 10, a, b, c => omega
/-- what Digits.value answers -/
def own_R (us : List Int32) (fn : Nat) (t : Int32) (r : Int32) : Prop := (own_all us (Int32.ofNat fn) t ∧ r.toInt = own_hv us fn (t.toInt.toNat - fn)) ∨ (¬ own_all us (Int32.ofNat fn) t ∧ r = -1)
def own_RL (us : List Int32) (fn : Nat) (t : Int32) (x : Int64) : Prop := (own_all us (Int32.ofNat fn) t ∧ x.toInt = own_hv us fn (t.toInt.toNat - fn)) ∨ (¬ own_all us (Int32.ofNat fn) t ∧ x = -1)
theorem own_RR {us : List Int32} {fn : Nat} {t r : Int32} {x : Int64} (h : own_R us fn t r) (g : own_RL us fn t x) : x.toInt = r.toInt := by
  rcases h with ⟨a, b⟩ | ⟨a, rfl⟩ <;> rcases g with ⟨c, d⟩ | ⟨c, rfl⟩
  · rw [b, d]
  · exact absurd a c
  · exact absurd c a
  · rfl
theorem oExtWr {h h1 h2 : Heap} {a : Addr} {sl : Nat} {v : Value} (E : Ext h h1) (W : Wr h1 h2 a sl v) (hp : h.size ≤ a) : Ext h h2 := by
  obtain ⟨cell, -, -, -, rfl⟩ := W
  refine ⟨by rw [Array.size_setIfInBounds]; exact E.1, fun x c q => ?_⟩
  rw [Array.getElem?_setIfInBounds_ne (fun z => Nat.lt_irrefl _ (Nat.lt_of_lt_of_le (Array.getElem?_eq_some_iff.mp q).1 (by rw [← z]; exact hp)))]
  exact E.2 x c q
def own_r (x : Int64) (k : Int32) : Int32 := (XT.ushrL x (16 * k) &&& 65535).toInt32
def own_c (x : Int64) (k w i : Int32) : Int32 := if XT.ushr w (2 * i) &&& 3 = 0 then own_r x k else 48 + own_r x k % 10
theorem own_cc (x : Int64) (k w i : Int32) : oChr (own_c x k w i) := by
  unfold own_c
  split
  · exact own_m64 _
  · exact own_dc (own_m64 _)
theorem own_narc (x : Int64) (k w i : Int32) : nar .char (own_c x k w i) = own_c x k w i := oCharN (own_cc x k w i)
def own_pw : List Int64 := [1, 10, 100, 1000, 10000, 100000, 1000000, 10000000, 100000000, 1000000000]
end OwnVal
theorem pno_1 : plainFor (⟨"com/example/fencerow/fencerow/model/DigitsValuePinLaw", "ch", "(JIII)C"⟩ : MethodName) = true := by first | exact plainFor_of_name (by first | (simp [plainName, overriddenIn]; done) | decide +kernel) | decide +kernel
theorem efo_1 (m : MethodId) (x0 : Int64) (x1 : Int32) (x2 : Int32) (x3 : Int32) : entryFrame m #[.long x0, .int x1, .int x2, .int x3] 7 = oF m 0 [.val (.long x0), .second, .val (.int x1), .val (.int x2), .val (.int x3), .unset, .unset] [] := by (first | (simp [entryFrame, oF, mkF, argsToLocals, Value.category]; done) | rfl)
set_option maxRecDepth 65536 in
set_option maxHeartbeats 40000000 in
theorem m1 (l : Launch) (Z : State) (a0 : Array Value) (hw : ∀ d ∈ tables_1, d.before a0 Z = true) (x : Int64) (k w i : Int32) (h0 : Heap) :
    oMeets l Z (⟨"com/example/fencerow/fencerow/model/DigitsValuePinLaw", "ch", "(JIII)C"⟩ : MethodName) method_2_code 7 (some .char) ({ frames := 0, cells := 0, slots := 0, locals := 0 } : Room) #[.long x, .int k, .int w, .int i] h0 (fun a => h0.size ≤ a) (fun v h => v = some (.int (own_c x k w i)) ∧ h = h0) := by
  refine oMeets.of pno_1 (fun _ q => q) (fun E _ q => Nat.le_trans E.1 q) (Ls := [.val (.long x), .second, .val (.int k), .val (.int w), .val (.int i), .unset, .unset]) (fun m => efo_1 m x k w i) ?_
  intro p e s m below meth c C hs
  refine K_lloadN C (pc := 0) d1_0 rfl ?_
  refine K_bipush C (pc := 1) 16 d1_1 (by decide) ?_
  refine K_iloadN C (pc := 3) d1_3 rfl ?_
  refine K_imul C (pc := 4) d1_4 ?_
  refine K_lushr C (pc := 5) d1_5 ?_
  refine K_ldc2J C (pc := 6) (tw5 hw) d1_6 ?_
  refine K_land C (pc := 9) d1_9 ?_
  refine K_l2i C (pc := 10) d1_10 ?_
  refine K_istore C (pc := 11) (Ls' := [_, _, _, _, _, _, _]) d1_11 rfl ?_
  refine K_iloadN C (pc := 13) d1_13 rfl ?_
  refine K_iconst C (pc := 14) 2 d1_14 (by decide) ?_
  refine K_iload C (pc := 15) d1_15 rfl ?_
  refine K_imul C (pc := 17) d1_17 ?_
  refine K_iushr C (pc := 18) d1_18 ?_
  refine K_iconst C (pc := 19) 3 d1_19 (by decide) ?_
  refine K_iand C (pc := 20) d1_20 ?_
  refine K_istore C (pc := 21) (Ls' := [_, _, _, _, _, _, _]) d1_21 rfl ?_
  refine K_iload C (pc := 23) d1_23 rfl ?_
  refine K_if C (pc := 25) 38 d1_25 (by decide) (by decide) (fun hc25 => ?_) (fun hc25 => ?_)
  · simp only [oC, Classical.not_not] at hc25
    refine K_iload C (pc := 38) d1_38 rfl ?_
    refine K_i2c C (pc := 40) d1_40 ?_
    have eE : own_c x k w i = own_r x k := if_pos hc25
    refine K_ireturn C (pc := 41) d1_41 (by simp) (z' := own_c x k w i) (by rw [eE]; exact oNCu (by have q := own_cc x k w i; rw [eE] at q; exact q)) (by decide) (by decide) (fun _ _ => ⟨rfl, rfl⟩)
  · simp only [oC, Classical.not_not] at hc25
    refine K_bipush C (pc := 28) 48 d1_28 (by decide) ?_
    refine K_iload C (pc := 30) d1_30 rfl ?_
    refine K_bipush C (pc := 32) 10 d1_32 (by decide) ?_
    refine K_irem C (pc := 34) d1_34 (by decide) ?_
    refine K_iadd C (pc := 35) d1_35 ?_
    refine K_i2c C (pc := 36) d1_36 ?_
    have eE : own_c x k w i = 48 + own_r x k % 10 := if_neg hc25
    refine K_ireturn C (pc := 37) d1_37 (by simp) (z' := own_c x k w i) (by rw [eE]; exact oNCu (by have q := own_cc x k w i; rw [eE] at q; exact q)) (by decide) (by decide) (fun _ _ => ⟨rfl, rfl⟩)
theorem pno_13 : plainFor (⟨"com/example/fencerow/fencerow/model/DigitsValuePinLaw", "term", "([CIII[J)J"⟩ : MethodName) = true := by first | exact plainFor_of_name (by first | (simp [plainName, overriddenIn]; done) | decide +kernel) | decide +kernel
theorem efo_13 (m : MethodId) (x0 : Addr) (x1 : Int32) (x2 : Int32) (x3 : Int32) (x4 : Addr) : entryFrame m #[.ref x0, .int x1, .int x2, .int x3, .ref x4] 6 = oF m 0 [.val (.ref x0), .val (.int x1), .val (.int x2), .val (.int x3), .val (.ref x4), .unset] [] := by (first | (simp [entryFrame, oF, mkF, argsToLocals, Value.category]; done) | rfl)
set_option maxRecDepth 65536 in
set_option maxHeartbeats 40000000 in
theorem m13 (l : Launch) (Z : State) (a0 : Array Value) (hw : ∀ d ∈ tables_1, d.before a0 Z = true) (ca pa : Addr) (us : List Int32) (i fn tn : Nat) (u : Int32) (h0 : Heap) (hu : us[i]? = some u) (hi : i < 10) (hfn : fn < 12) (htn : tn ≤ 10) (A : oArr Z h0 ca .char (us.map Value.int)) (PW : oArr Z h0 pa .long (own_pw.map Value.long)) :
    oMeets l Z (⟨"com/example/fencerow/fencerow/model/DigitsValuePinLaw", "term", "([CIII[J)J"⟩ : MethodName) method_3_code 6 (some .long) ({ frames := 0, cells := 0, slots := 0, locals := 0 } : Room) #[.ref ca, .int (Int32.ofNat i), .int (Int32.ofNat fn), .int (Int32.ofNat tn), .ref pa] h0 (fun a => h0.size ≤ a) (fun v h => ∃ z, v = some (.long z) ∧ h = h0 ∧ own_T us fn tn i u z) := by
  refine oMeets.of pno_13 (fun _ q => q) (fun E _ q => Nat.le_trans E.1 q) (Ls := [.val (.ref ca), .val (.int (Int32.ofNat i)), .val (.int (Int32.ofNat fn)), .val (.int (Int32.ofNat tn)), .val (.ref pa), .unset]) (fun m => efo_13 m ca (Int32.ofNat i) (Int32.ofNat fn) (Int32.ofNat tn) pa) ?_
  intro p e s m below meth c C hs
  refine K_iloadN C (pc := 0) d13_0 rfl ?_
  refine K_iloadN C (pc := 1) d13_1 rfl ?_
  refine K_icmp C (pc := 2) 10 d13_2 (by decide) (by decide) (fun hc2 => ?_) (fun hc2 => ?_)
  · simp only [oC, Classical.not_not] at hc2
    refine K_lconst C (pc := 10) 0 d13_10 (by decide) ?_
    refine K_lreturn C (pc := 11) d13_11 (by decide) (by decide) (fun _ _ => ⟨_, rfl, rfl, Or.inl ⟨fun q => Nat.lt_irrefl _ (Nat.lt_of_lt_of_le ((oOfLt (by omega) (by omega)).mp hc2) q.1), rfl⟩⟩)
  · simp only [oC, Classical.not_not] at hc2
    refine K_iloadN C (pc := 5) d13_5 rfl ?_
    refine K_iloadN C (pc := 6) d13_6 rfl ?_
    refine K_icmp C (pc := 7) 12 d13_7 (by decide) (by decide) (fun hc7 => ?_) (fun hc7 => ?_)
    · simp only [oC, Classical.not_not] at hc7
      refine K_aloadN C (pc := 12) d13_12 rfl (by first | rfl | assumption) ?_
      refine K_iloadN C (pc := 13) d13_13 rfl ?_
      refine K_caload2 C (pc := 14) (v := .int u) i A (oOf _ (by omega)) (by simp [hu]) d13_14 ?_
      refine K_istore C (pc := 15) (Ls' := [_, _, _, _, _, _]) d13_15 rfl ?_
      refine K_iload C (pc := 17) d13_17 rfl ?_
      refine K_bipush C (pc := 19) 48 d13_19 (by decide) ?_
      refine K_icmp C (pc := 21) 31 d13_21 (by decide) (by decide) (fun hc21 => ?_) (fun hc21 => ?_)
      · simp only [oC, Classical.not_not] at hc21
        refine K_ldc2J C (pc := 31) (tw65 hw) d13_31 ?_
        refine K_lreturn C (pc := 34) d13_34 (by decide) (by decide) (fun _ _ => ⟨_, rfl, rfl, Or.inr (Or.inl ⟨(Nat.le_of_not_lt (fun q => hc2 ((oOfLt (by omega) (by omega)).mpr q))), ((oOfLt (by omega) (by omega)).mp hc7), fun q => q.1 hc21, rfl⟩)⟩)
      · simp only [oC, Classical.not_not] at hc21
        refine K_iload C (pc := 24) d13_24 rfl ?_
        refine K_bipush C (pc := 26) 57 d13_26 (by decide) ?_
        refine K_icmp C (pc := 28) 35 d13_28 (by decide) (by decide) (fun hc28 => ?_) (fun hc28 => ?_)
        · simp only [oC, Classical.not_not] at hc28
          refine K_iload C (pc := 35) d13_35 rfl ?_
          refine K_bipush C (pc := 37) 48 d13_37 (by decide) ?_
          refine K_isub C (pc := 39) d13_39 ?_
          refine K_i2l C (pc := 40) d13_40 ?_
          refine K_aload C (pc := 41) d13_41 rfl (by first | rfl | assumption) ?_
          refine K_iloadN C (pc := 43) d13_43 rfl ?_
          refine K_iconst C (pc := 44) 1 d13_44 (by decide) ?_
          refine K_isub C (pc := 45) d13_45 ?_
          refine K_iloadN C (pc := 46) d13_46 rfl ?_
          refine K_isub C (pc := 47) d13_47 ?_
          have hin := (oOfLt (by omega) (by omega)).mp hc7
          obtain ⟨w, hw1, hw2⟩ := own_pwk (tn - 1 - i) (by omega)
          refine K_laload2 C (pc := 48) (v := .long w) (tn - 1 - i) PW (own_ix hin htn) (by rw [List.getElem?_map, show own_pw[tn - 1 - i]? = some w from hw1]; rfl) d13_48 ?_
          refine K_lmul C (pc := 49) d13_49 ?_
          refine K_lreturn C (pc := 50) d13_50 (by decide) (by decide) (fun _ _ => ⟨_, rfl, rfl, Or.inr (Or.inr ⟨(Nat.le_of_not_lt (fun q => hc2 ((oOfLt (by omega) (by omega)).mpr q))), ((oOfLt (by omega) (by omega)).mp hc7), ⟨hc21, hc28⟩, own_T3 ⟨hc21, hc28⟩ (by omega) hw2⟩)⟩)
        · simp only [oC, Classical.not_not] at hc28
          refine K_ldc2J C (pc := 31) (tw65 hw) d13_31 ?_
          refine K_lreturn C (pc := 34) d13_34 (by decide) (by decide) (fun _ _ => ⟨_, rfl, rfl, Or.inr (Or.inl ⟨(Nat.le_of_not_lt (fun q => hc2 ((oOfLt (by omega) (by omega)).mpr q))), ((oOfLt (by omega) (by omega)).mp hc7), fun q => q.2 hc28, rfl⟩)⟩)
    · simp only [oC, Classical.not_not] at hc7
      refine K_lconst C (pc := 10) 0 d13_10 (by decide) ?_
      refine K_lreturn C (pc := 11) d13_11 (by decide) (by decide) (fun _ _ => ⟨_, rfl, rfl, Or.inl ⟨fun q => hc7 ((oOfLt (by omega) (by omega)).mpr q.2), rfl⟩⟩)
theorem pno_14 : plainFor (⟨"com/example/fencerow/fencerow/model/Digits", "value", "(Ljava/lang/String;II)I"⟩ : MethodName) = true := by first | exact plainFor_of_name (by first | (simp [plainName, overriddenIn]; done) | decide +kernel) | decide +kernel
theorem efo_14 (m : MethodId) (x0 : Addr) (x1 : Int32) (x2 : Int32) : entryFrame m #[.ref x0, .int x1, .int x2] 5 = oF m 0 [.val (.ref x0), .val (.int x1), .val (.int x2), .unset, .unset] [] := by (first | (simp [entryFrame, oF, mkF, argsToLocals, Value.category]; done) | rfl)
set_option maxRecDepth 65536 in
set_option maxHeartbeats 40000000 in
theorem m14 (l : Launch) (Z : State) (a0 : Array Value) (hw : ∀ d ∈ tables_1, d.before a0 Z = true) (x : Addr) (fn : Nat) (t : Int32) (us : List Int32) (h0 : Heap) (hN : us.length < 16) (hfn : fn < 12) (ht : t.toInt ≤ (fn : Int) + 9) (R : oStr Z h0 x us) (cs : Int32) (hcs : cs ≠ 0) (S_COMPACT_STRINGS : Sta Z Z.heap "java/lang/String" "COMPACT_STRINGS" "Z" (.int cs)) (vf : Value) (hr_vf : vf.isRef = true) (S_SIOOBE_FORMATTER : Sta Z Z.heap "jdk/internal/util/Preconditions" "SIOOBE_FORMATTER" "Ljava/util/function/BiFunction;" vf) (S__assertionsDisabled : Sta Z Z.heap "java/lang/StringUTF16" "$assertionsDisabled" "Z" (.int 1)) (S_HI_BYTE_SHIFT : Sta Z Z.heap "java/lang/StringUTF16" "HI_BYTE_SHIFT" "I" (.int 0)) (S_LO_BYTE_SHIFT : Sta Z Z.heap "java/lang/StringUTF16" "LO_BYTE_SHIFT" "I" (.int 8)) :
    oMeets l Z (⟨"com/example/fencerow/fencerow/model/Digits", "value", "(Ljava/lang/String;II)I"⟩ : MethodName) prog_30_method_3_code 5 (some .int) ({ frames := 6, cells := 0, slots := 0, locals := 130 } : Room) #[.ref x, .int (Int32.ofNat fn), .int t] h0 (fun a => h0.size ≤ a) (fun v h => ∃ r : Int32, v = some (.int r) ∧ h = h0 ∧ own_R us fn t r) := by
  refine oMeets.of pno_14 (fun _ q => q) (fun E _ q => Nat.le_trans E.1 q) (Ls := [.val (.ref x), .val (.int (Int32.ofNat fn)), .val (.int t), .unset, .unset]) (fun m => efo_14 m x (Int32.ofNat fn) t) ?_
  intro p e s m below meth c C hs
  refine K_aloadN C (pc := 0) d14_0 rfl (by first | rfl | assumption) ?_
  refine K_iloadN C (pc := 1) d14_1 rfl ?_
  refine K_iloadN C (pc := 2) d14_2 rfl ?_
  refine K_static C (pc := 3) (mALL l Z a0 hw x (Int32.ofNat fn) t us _ hN (by rw [oOf _ (by omega)]; omega) R cs hcs S_COMPACT_STRINGS vf hr_vf S_SIOOBE_FORMATTER S__assertionsDisabled S_HI_BYTE_SHIFT S_LO_BYTE_SHIFT) (tw73 hw) (tw74 hw) (tw71 hw) (tw75 hw) (by decide) pdo_16 d14_3 (argsL := [_, _, _]) (rest := _) rfl rfl rfl rfl (fun a q r => C.new a (Nat.le_trans q r)) (by decide) (Nat.le_of_ble_eq_true rfl) (by decide) (by decide) ?_
  rintro _ h8 ⟨r0, rfl, hh, hr0⟩ -
  replace hh := hh.symm
  subst hh
  dsimp only [Option.toList, List.cons_append, List.nil_append]
  refine K_if C (pc := 6) 11 d14_6 (by decide) (by decide) (fun hc6 => ?_) (fun hc6 => ?_)
  · simp only [oC, Classical.not_not] at hc6
    have hU := (hr0.resolve_right (fun q => hc6 q.1)).2
    obtain ⟨tn, rfl, h1, h2⟩ := own_tn hN hfn hU.1 hU.2.1
    have hdg := own_dg (by omega) (by omega) hU
    rw [oOf _ (by omega)] at ht
    have loop : ∀ (k i : Nat) (r : Int32), i + k = tn → fn ≤ i → r.toInt = own_hv us fn (i - fn) → oWP false p l e ({ frames := 6, cells := 0, slots := 0, locals := 130 } : Room) s m #[.ref x, .int (Int32.ofNat fn), .int (Int32.ofNat tn)] below meth c (fun a => h0.size ≤ a) (fun v h _ => ((fun v h => ∃ r : Int32, v = some (.int r) ∧ h = h0 ∧ own_R us fn (Int32.ofNat tn) r)) v h) oT h0 0 0 (oF m 16 [.val (.ref x), .val (.int (Int32.ofNat fn)), .val (.int (Int32.ofNat tn)), .val (.int r), .val (.int (Int32.ofNat i))] []) := by
      intro k
      induction k with
      | zero =>
        intro i r hik hfi hr
        obtain rfl : i = tn := by omega
        refine K_iload C (pc := 16) d14_16 rfl ?_
        refine K_iloadN C (pc := 18) d14_18 rfl ?_
        refine K_icmp C (pc := 19) 43 d14_19 (by decide) (by decide) (fun hc19 => ?_) (fun hc19 => ?_)
        · simp only [oC, Classical.not_not] at hc19
          refine K_iloadN C (pc := 43) d14_43 rfl ?_
          refine K_ireturn C (pc := 44) d14_44 (by simp) rfl (by decide) (by decide) (fun _ _ => ⟨r, rfl, rfl, Or.inl ⟨hU, by rw [hr, oOf _ (by omega), Int.toNat_natCast]⟩⟩)
        · simp only [oC, Classical.not_not] at hc19
          exact absurd hc19 (by rw [oOfLt (by omega) (by omega)]; omega)
      | succ k ih =>
        intro i r hik hfi hr
        have hi : i < us.length := by omega
        obtain ⟨u, hu⟩ : ∃ u, us[i]? = some u := ⟨us[i], by simp [hi]⟩
        obtain ⟨d, rfl⟩ : ∃ d, i = fn + d := ⟨i - fn, by omega⟩
        rw [Nat.add_sub_cancel_left] at hr
        refine K_iload C (pc := 16) d14_16 rfl ?_
        refine K_iloadN C (pc := 18) d14_18 rfl ?_
        refine K_icmp C (pc := 19) 43 d14_19 (by decide) (by decide) (fun hc19 => ?_) (fun hc19 => ?_)
        · simp only [oC, Classical.not_not] at hc19
          exact absurd ((oOfLt (by omega) (by omega)).mpr (by omega)) hc19
        · simp only [oC, Classical.not_not] at hc19
          refine K_iloadN C (pc := 22) d14_22 rfl ?_
          refine K_bipush C (pc := 23) 10 d14_23 (by decide) ?_
          refine K_imul C (pc := 25) d14_25 ?_
          refine K_aloadN C (pc := 26) d14_26 rfl (by first | rfl | assumption) ?_
          refine K_iload C (pc := 27) d14_27 rfl ?_
          refine K_virtual C (pc := 29) (mCA l Z a0 hw x (fn + d) u us _ hN hu R cs hcs S_COMPACT_STRINGS vf hr_vf S_SIOOBE_FORMATTER S__assertionsDisabled S_HI_BYTE_SHIFT S_LO_BYTE_SHIFT) (R.1) (tw86 hw) (tw87 hw) (oNF (tw89 hw)) (tw89 hw) (tw88 hw) (tw8 hw) (tw90 hw) (by decide) pdo_15 d14_29 (argsL := [_]) (rest := _) rfl rfl rfl rfl (fun a q r => C.new a (Nat.le_trans q r)) (by decide) (Nat.le_of_ble_eq_true rfl) (by decide) (by decide) ?_
          rintro _ h8 ⟨rfl, hh⟩ -
          replace hh := hh.symm
          subst hh
          dsimp only [Option.toList, List.cons_append, List.nil_append]
          refine K_iadd C (pc := 32) d14_32 ?_
          refine K_bipush C (pc := 33) 48 d14_33 (by decide) ?_
          refine K_isub C (pc := 35) d14_35 ?_
          refine K_istoreN C (pc := 36) (Ls' := [_, _, _, _, _]) d14_36 rfl ?_
          refine K_iinc C (pc := 37) (w := 1) (Ls' := [_, _, _, _, _]) d14_37 (by decide) rfl rfl ?_
          refine K_goto C (pc := 40) 16 d14_40 (by decide) (by decide) ?_
          rw [oOfS]
          refine ih (fn + d + 1) _ (by omega) (by omega) ?_
          rw [show fn + d + 1 - fn = d + 1 by omega]
          exact own_step (by omega) (fun j w a b c => hdg j w a (by omega) c) (by omega) hr hu
    refine K_iconst C (pc := 11) 0 d14_11 (by decide) ?_
    refine K_istoreN C (pc := 12) (Ls' := [_, _, _, _, _]) d14_12 rfl ?_
    refine K_iloadN C (pc := 13) d14_13 rfl ?_
    refine K_istore C (pc := 14) (Ls' := [_, _, _, _, _]) d14_14 rfl ?_
    exact loop (tn - fn) fn 0 (by omega) (by omega) (by rw [Nat.sub_self]; rfl)
  · simp only [oC, Classical.not_not] at hc6
    refine K_iconst C (pc := 9) (-1) d14_9 (by decide) ?_
    refine K_ireturn C (pc := 10) d14_10 (by simp) rfl (by decide) (by decide) (fun _ _ => ⟨-1, rfl, rfl, Or.inr ⟨(hr0.resolve_left (fun q => by rw [q.1] at hc6; exact absurd hc6 (by decide))).2, rfl⟩⟩)
theorem pno_0 : plainFor x = true := by first | exact plainFor_of_name (by first | (simp [plainName, overriddenIn]; done) | decide +kernel) | decide +kernel
theorem efo_0 (m : MethodId) (x0 : Int64) (x1 : Int64) (x2 : Int64) (x3 : Int32) (x4 : Int32) (x5 : Int32) : entryFrame m #[.long x0, .long x1, .long x2, .int x3, .int x4, .int x5] maxLocals = oF m 0 [.val (.long x0), .second, .val (.long x1), .second, .val (.long x2), .second, .val (.int x3), .val (.int x4), .val (.int x5), .unset, .unset, .unset, .unset, .unset, .unset, .unset, .unset, .unset, .unset, .unset, .unset, .unset, .unset, .unset, .unset, .unset, .unset, .unset, .unset, .unset, .unset, .unset, .unset, .unset, .unset, .unset, .unset, .unset] [] := by (first | (simp [entryFrame, oF, mkF, argsToLocals, Value.category, maxLocals]; done) | rfl)
set_option maxRecDepth 65536 in
set_option maxHeartbeats 40000000 in
theorem m0 (l : Launch) (Z : State) (a0 : Array Value) (hw : ∀ d ∈ tables_1, d.before a0 Z = true) (p1 p2 p3 : Int64) (p4 p5 p6 : Int32) (h0 : Heap) (cs : Int32) (hcs : cs ≠ 0) (S_COMPACT_STRINGS : Sta Z Z.heap "java/lang/String" "COMPACT_STRINGS" "Z" (.int cs)) (vf : Value) (hr_vf : vf.isRef = true) (S_SIOOBE_FORMATTER : Sta Z Z.heap "jdk/internal/util/Preconditions" "SIOOBE_FORMATTER" "Ljava/util/function/BiFunction;" vf) (S__assertionsDisabled : Sta Z Z.heap "java/lang/StringUTF16" "$assertionsDisabled" "Z" (.int 1)) (S_HI_BYTE_SHIFT : Sta Z Z.heap "java/lang/StringUTF16" "HI_BYTE_SHIFT" "I" (.int 0)) (S_LO_BYTE_SHIFT : Sta Z Z.heap "java/lang/StringUTF16" "LO_BYTE_SHIFT" "I" (.int 8)) :
    oMeets l Z x code maxLocals ret room_1 #[.long p1, .long p2, .long p3, .int p4, .int p5, .int p6] h0 (fun a => h0.size ≤ a) (fun v _ => v = some (.int 1)) := by
  refine oMeets.of pno_0 (fun _ q => q) (fun E _ q => Nat.le_trans E.1 q) (Ls := [.val (.long p1), .second, .val (.long p2), .second, .val (.long p3), .second, .val (.int p4), .val (.int p5), .val (.int p6), .unset, .unset, .unset, .unset, .unset, .unset, .unset, .unset, .unset, .unset, .unset, .unset, .unset, .unset, .unset, .unset, .unset, .unset, .unset, .unset, .unset, .unset, .unset, .unset, .unset, .unset, .unset, .unset, .unset]) (fun m => efo_0 m p1 p2 p3 p4 p5 p6) ?_
  intro p e s m below meth c C hs
  have J136 : ∀ (us : List Int32) (h : Heap) (ca : Addr), us.length = 10 → (∀ u ∈ us, oChr u) → h0.size ≤ ca → oArr Z h ca .char (us.map Value.int) → oWP false p l e room_1 s m #[.long p1, .long p2, .long p3, .int p4, .int p5, .int p6] below meth c (fun a => h0.size ≤ a) (fun v h _ => ((fun v _ => v = some (.int 1))) v h) oT h 1 10 (oF m 136 [.val (.long p1), .second, .val (.long p2), .second, .val (.long p3), .second, .val (.int p4), .val (.int p5), .val (.int p6), .val (.ref ca), .unset, .unset, .unset, .unset, .unset, .unset, .unset, .unset, .unset, .unset, .unset, .unset, .unset, .unset, .unset, .unset, .unset, .unset, .unset, .unset, .unset, .unset, .unset, .unset, .unset, .unset, .unset, .unset] []) := by
    intro us h ca hl hch hPc A
    refine K_new C (pc := 136) (tw6 hw) (tw7 hw) (tw8 hw) at_136 (by decide) (by decide) ?_
    intro h1 a ha hPa E1 X1 D1
    have FV := D1 (Or.inr (tw53 hw)) (ty := .array .byte) (by decide)
    have FC := D1 (Or.inr (tw51 hw)) (ty := .byte) (by decide)
    have A1 := A.ext E1
    have hne : a ≠ ca := by obtain ⟨_, A, -⟩ := A1; exact ne_arr X1 (tw7 hw) A
    refine K_dup C (pc := 139) at_139 rfl ?_
    refine K_aload C (pc := 140) at_140 rfl (by first | rfl | assumption) ?_
    refine K_special C (pc := 142) (mSI1 l Z a0 hw a ca us _ (by omega) (by omega) hch (C.young a hPa) X1 FV FC A1 cs hcs S_COMPACT_STRINGS S__assertionsDisabled S_HI_BYTE_SHIFT S_LO_BYTE_SHIFT) (tw9 hw) (tw10 hw) (tw8 hw) (tw11 hw) rfl (by decide) pdo_17 at_142 (argsL := [_]) (rest := _) rfl rfl rfl rfl (fun x q r => r.elim (fun z => z ▸ hPa) (fun z => C.new x (Nat.le_trans q z))) (by decide) (Nat.le_of_ble_eq_true rfl) (by decide) (by decide) ?_
    rintro _ h9 ⟨rfl, R⟩ hK
    have A9 := A1.kp hK (fun r => r.elim (fun z => hne z.symm) (fun z => absurd A1.lt (Nat.not_lt.mpr z)))
    dsimp only [Option.toList, List.cons_append, List.nil_append]
    refine K_astore C (pc := 145) (Ls' := [_, _, _, _, _, _, _, _, _, _, _, _, _, _, _, _, _, _, _, _, _, _, _, _, _, _, _, _, _, _, _, _, _, _, _, _, _, _]) at_145 rfl rfl ?_
    refine K_iload C (pc := 147) at_147 rfl ?_
    refine K_ldcI C (pc := 149) (tw54 hw) at_149 ?_
    refine K_iand C (pc := 151) at_151 ?_
    refine K_bipush C (pc := 152) 12 at_152 (by decide) ?_
    refine K_irem C (pc := 154) at_154 (by decide) ?_
    obtain ⟨fn, hfn, ef⟩ := oRem p5 12 (by decide) (by decide)
    rw [show (p5 &&& 2147483647) % 12 = Int32.ofNat fn from ef]
    refine K_istore C (pc := 155) (Ls' := [_, _, _, _, _, _, _, _, _, _, _, _, _, _, _, _, _, _, _, _, _, _, _, _, _, _, _, _, _, _, _, _, _, _, _, _, _, _]) at_155 rfl ?_
    refine K_iload C (pc := 157) at_157 rfl ?_
    refine K_iconst C (pc := 159) 2 at_159 (by decide) ?_
    refine K_isub C (pc := 160) at_160 ?_
    refine K_iload C (pc := 161) at_161 rfl ?_
    refine K_ldcI C (pc := 163) (tw54 hw) at_163 ?_
    refine K_iand C (pc := 165) at_165 ?_
    refine K_bipush C (pc := 166) 12 at_166 (by decide) ?_
    refine K_irem C (pc := 168) at_168 (by decide) ?_
    obtain ⟨gn, hgn, eg⟩ := oRem p6 12 (by decide) (by decide)
    rw [show (p6 &&& 2147483647) % 12 = Int32.ofNat gn from eg]
    refine K_iadd C (pc := 169) at_169 ?_
    have ht := own_t hfn hgn
    generalize Int32.ofNat fn - 2 + Int32.ofNat gn = t at ht ⊢
    refine K_istore C (pc := 170) (Ls' := [_, _, _, _, _, _, _, _, _, _, _, _, _, _, _, _, _, _, _, _, _, _, _, _, _, _, _, _, _, _, _, _, _, _, _, _, _, _]) at_170 rfl ?_
    refine K_bipush C (pc := 172) 10 at_172 (by decide) ?_
    refine K_newarray2 C (aty := .long) (pc := 174) 10 10 (tw55 hw) at_174 rfl (by decide) (by decide) (by decide) (by decide) ?_
    intro h10 pa hpa hPp EE PW
    have hp9 : h9.size ≤ pa := Nat.le_of_eq hpa.symm
    refine K_dup C (pc := 176) at_176 rfl ?_
    refine K_iconst C (pc := 177) 0 at_177 (by decide) ?_
    refine K_lconst C (pc := 178) 1 at_178 (by decide) ?_
    refine K_lastore2 C (pc := 179) 0 PW rfl (by simp) hPp at_179 ?_
    intro h11 Wr PW2
    replace EE := oExtWr EE Wr hp9
    replace PW := PW2
    clear PW2 Wr
    refine K_dup C (pc := 180) at_180 rfl ?_
    refine K_iconst C (pc := 181) 1 at_181 (by decide) ?_
    refine K_ldc2J C (pc := 182) (tw56 hw) at_182 ?_
    refine K_lastore2 C (pc := 185) 1 PW rfl (by simp) hPp at_185 ?_
    intro h11 Wr PW2
    replace EE := oExtWr EE Wr hp9
    replace PW := PW2
    clear PW2 Wr
    refine K_dup C (pc := 186) at_186 rfl ?_
    refine K_iconst C (pc := 187) 2 at_187 (by decide) ?_
    refine K_ldc2J C (pc := 188) (tw57 hw) at_188 ?_
    refine K_lastore2 C (pc := 191) 2 PW rfl (by simp) hPp at_191 ?_
    intro h11 Wr PW2
    replace EE := oExtWr EE Wr hp9
    replace PW := PW2
    clear PW2 Wr
    refine K_dup C (pc := 192) at_192 rfl ?_
    refine K_iconst C (pc := 193) 3 at_193 (by decide) ?_
    refine K_ldc2J C (pc := 194) (tw58 hw) at_194 ?_
    refine K_lastore2 C (pc := 197) 3 PW rfl (by simp) hPp at_197 ?_
    intro h11 Wr PW2
    replace EE := oExtWr EE Wr hp9
    replace PW := PW2
    clear PW2 Wr
    refine K_dup C (pc := 198) at_198 rfl ?_
    refine K_iconst C (pc := 199) 4 at_199 (by decide) ?_
    refine K_ldc2J C (pc := 200) (tw59 hw) at_200 ?_
    refine K_lastore2 C (pc := 203) 4 PW rfl (by simp) hPp at_203 ?_
    intro h11 Wr PW2
    replace EE := oExtWr EE Wr hp9
    replace PW := PW2
    clear PW2 Wr
    refine K_dup C (pc := 204) at_204 rfl ?_
    refine K_iconst C (pc := 205) 5 at_205 (by decide) ?_
    refine K_ldc2J C (pc := 206) (tw60 hw) at_206 ?_
    refine K_lastore2 C (pc := 209) 5 PW rfl (by simp) hPp at_209 ?_
    intro h11 Wr PW2
    replace EE := oExtWr EE Wr hp9
    replace PW := PW2
    clear PW2 Wr
    refine K_dup C (pc := 210) at_210 rfl ?_
    refine K_bipush C (pc := 211) 6 at_211 (by decide) ?_
    refine K_ldc2J C (pc := 213) (tw61 hw) at_213 ?_
    refine K_lastore2 C (pc := 216) 6 PW rfl (by simp) hPp at_216 ?_
    intro h11 Wr PW2
    replace EE := oExtWr EE Wr hp9
    replace PW := PW2
    clear PW2 Wr
    refine K_dup C (pc := 217) at_217 rfl ?_
    refine K_bipush C (pc := 218) 7 at_218 (by decide) ?_
    refine K_ldc2J C (pc := 220) (tw62 hw) at_220 ?_
    refine K_lastore2 C (pc := 223) 7 PW rfl (by simp) hPp at_223 ?_
    intro h11 Wr PW2
    replace EE := oExtWr EE Wr hp9
    replace PW := PW2
    clear PW2 Wr
    refine K_dup C (pc := 224) at_224 rfl ?_
    refine K_bipush C (pc := 225) 8 at_225 (by decide) ?_
    refine K_ldc2J C (pc := 227) (tw63 hw) at_227 ?_
    refine K_lastore2 C (pc := 230) 8 PW rfl (by simp) hPp at_230 ?_
    intro h11 Wr PW2
    replace EE := oExtWr EE Wr hp9
    replace PW := PW2
    clear PW2 Wr
    refine K_dup C (pc := 231) at_231 rfl ?_
    refine K_bipush C (pc := 232) 9 at_232 (by decide) ?_
    refine K_ldc2J C (pc := 234) (tw64 hw) at_234 ?_
    refine K_lastore2 C (pc := 237) 9 PW rfl (by simp) hPp at_237 ?_
    intro h11 Wr PW2
    replace EE := oExtWr EE Wr hp9
    replace PW := PW2
    clear PW2 Wr
    refine K_astore C (pc := 238) (Ls' := [_, _, _, _, _, _, _, _, _, _, _, _, _, _, _, _, _, _, _, _, _, _, _, _, _, _, _, _, _, _, _, _, _, _, _, _, _, _]) at_238 rfl rfl ?_
    replace PW : oArr Z h11 pa .long (own_pw.map Value.long) := PW.eq rfl
    replace R := R.ext EE
    replace A := A9.ext EE
    clear A9 EE
    have JA : ∀ (r14 : Int32) (x : Int64), own_RL us fn t x → oWP false p l e room_1 s m #[.long p1, .long p2, .long p3, .int p4, .int p5, .int p6] below meth c (fun a => h0.size ≤ a) (fun v h _ => ((fun v _ => v = some (.int 1))) v h) oT h11 5 54 (oF m 528 [.val (.long p1), .second, .val (.long p2), .second, .val (.long p3), .second, .val (.int p4), .val (.int p5), .val (.int p6), .val (.ref ca), .val (.ref a), .val (.int (Int32.ofNat fn)), .val (.int t), .val (.ref pa), .val (.int r14), .val (.long x), .second, .unset, .unset, .unset, .unset, .unset, .unset, .unset, .unset, .unset, .unset, .unset, .unset, .unset, .unset, .unset, .unset, .unset, .unset, .unset, .unset, .unset] []) := by
      intro r14 x hx
      refine K_aload C (pc := 528) at_528 rfl (by first | rfl | assumption) ?_
      refine K_iload C (pc := 530) at_530 rfl ?_
      refine K_iload C (pc := 532) at_532 rfl ?_
      refine K_static C (pc := 534) (m14 l Z a0 hw a fn t us _ (by omega) hfn (by omega) R cs hcs S_COMPACT_STRINGS vf hr_vf S_SIOOBE_FORMATTER S__assertionsDisabled S_HI_BYTE_SHIFT S_LO_BYTE_SHIFT) (tw69 hw) (tw70 hw) (tw71 hw) (tw72 hw) (by decide) pdo_18 at_534 (argsL := [_, _, _]) (rest := _) rfl rfl rfl rfl (fun a q r => C.new a (Nat.le_trans q r)) (by decide) (Nat.le_of_ble_eq_true rfl) (by decide) (by decide) ?_
      rintro _ h12 ⟨r, rfl, hh, hr⟩ -
      replace hh := hh.symm
      subst hh
      dsimp only [Option.toList, List.cons_append, List.nil_append]
      refine K_istore C (pc := 537) (Ls' := [_, _, _, _, _, _, _, _, _, _, _, _, _, _, _, _, _, _, _, _, _, _, _, _, _, _, _, _, _, _, _, _, _, _, _, _, _, _]) at_537 rfl ?_
      refine K_iload C (pc := 539) at_539 rfl ?_
      refine K_i2l C (pc := 541) at_541 ?_
      refine K_lload C (pc := 542) at_542 rfl ?_
      refine K_lcmp C (pc := 544) at_544 ?_
      refine K_if C (pc := 545) 552 at_545 (by decide) (by decide) (fun hc545 => ?_) (fun hc545 => ?_)
      · simp only [oC, Classical.not_not] at hc545
        exact absurd (own_i64 (own_RR hr hx)) hc545
      · simp only [oC, Classical.not_not] at hc545
        refine K_iconst C (pc := 548) 1 at_548 (by decide) ?_
        refine K_goto C (pc := 549) 553 at_549 (by decide) (by decide) ?_
        refine K_ireturn C (pc := 553) at_553 (by simp) (by first | rfl | decide) (by decide) (by decide) (fun _ _ => rfl)
    have JB : ∀ (r14 : Int32) (x z0 z1 z2 z3 z4 z5 z6 z7 z8 z9 : Int64) (b : Int32), own_RL us fn t x → oWP false p l e room_1 s m #[.long p1, .long p2, .long p3, .int p4, .int p5, .int p6] below meth c (fun a => h0.size ≤ a) (fun v h _ => ((fun v _ => v = some (.int 1))) v h) oT h11 5 54 (oF m 528 [.val (.long p1), .second, .val (.long p2), .second, .val (.long p3), .second, .val (.int p4), .val (.int p5), .val (.int p6), .val (.ref ca), .val (.ref a), .val (.int (Int32.ofNat fn)), .val (.int t), .val (.ref pa), .val (.int r14), .val (.long x), .second, .val (.long z0), .second, .val (.long z1), .second, .val (.long z2), .second, .val (.long z3), .second, .val (.long z4), .second, .val (.long z5), .second, .val (.long z6), .second, .val (.long z7), .second, .val (.long z8), .second, .val (.long z9), .second, .val (.int b)] []) := by
      intro r14 x z0 z1 z2 z3 z4 z5 z6 z7 z8 z9 b hx
      refine K_aload C (pc := 528) at_528 rfl (by first | rfl | assumption) ?_
      refine K_iload C (pc := 530) at_530 rfl ?_
      refine K_iload C (pc := 532) at_532 rfl ?_
      refine K_static C (pc := 534) (m14 l Z a0 hw a fn t us _ (by omega) hfn (by omega) R cs hcs S_COMPACT_STRINGS vf hr_vf S_SIOOBE_FORMATTER S__assertionsDisabled S_HI_BYTE_SHIFT S_LO_BYTE_SHIFT) (tw69 hw) (tw70 hw) (tw71 hw) (tw72 hw) (by decide) pdo_18 at_534 (argsL := [_, _, _]) (rest := _) rfl rfl rfl rfl (fun a q r => C.new a (Nat.le_trans q r)) (by decide) (Nat.le_of_ble_eq_true rfl) (by decide) (by decide) ?_
      rintro _ h12 ⟨r, rfl, hh, hr⟩ -
      replace hh := hh.symm
      subst hh
      dsimp only [Option.toList, List.cons_append, List.nil_append]
      refine K_istore C (pc := 537) (Ls' := [_, _, _, _, _, _, _, _, _, _, _, _, _, _, _, _, _, _, _, _, _, _, _, _, _, _, _, _, _, _, _, _, _, _, _, _, _, _]) at_537 rfl ?_
      refine K_iload C (pc := 539) at_539 rfl ?_
      refine K_i2l C (pc := 541) at_541 ?_
      refine K_lload C (pc := 542) at_542 rfl ?_
      refine K_lcmp C (pc := 544) at_544 ?_
      refine K_if C (pc := 545) 552 at_545 (by decide) (by decide) (fun hc545 => ?_) (fun hc545 => ?_)
      · simp only [oC, Classical.not_not] at hc545
        exact absurd (own_i64 (own_RR hr hx)) hc545
      · simp only [oC, Classical.not_not] at hc545
        refine K_iconst C (pc := 548) 1 at_548 (by decide) ?_
        refine K_goto C (pc := 549) 553 at_549 (by decide) (by decide) ?_
        refine K_ireturn C (pc := 553) at_553 (by simp) (by first | rfl | decide) (by decide) (by decide) (fun _ _ => rfl)
    refine K_iload C (pc := 240) at_240 rfl ?_
    refine K_iload C (pc := 242) at_242 rfl ?_
    refine K_icmp C (pc := 244) 258 at_244 (by decide) (by decide) (fun hc244 => ?_) (fun hc244 => ?_)
    · simp only [oC, Classical.not_not] at hc244
      refine K_iconst C (pc := 258) 0 at_258 (by decide) ?_
      refine K_istore C (pc := 259) (Ls' := [_, _, _, _, _, _, _, _, _, _, _, _, _, _, _, _, _, _, _, _, _, _, _, _, _, _, _, _, _, _, _, _, _, _, _, _, _, _]) at_259 rfl ?_
      refine K_ldc2J C (pc := 261) (tw65 hw) at_261 ?_
      refine K_lstore C (pc := 264) (Ls' := [_, _, _, _, _, _, _, _, _, _, _, _, _, _, _, _, _, _, _, _, _, _, _, _, _, _, _, _, _, _, _, _, _, _, _, _, _, _]) at_264 rfl ?_
      refine K_iload C (pc := 266) at_266 rfl ?_
      refine K_if C (pc := 268) 528 at_268 (by decide) (by decide) (fun hc268 => ?_) (fun hc268 => ?_)
      · simp only [oC, Classical.not_not] at hc268
        exact JA _ _ (Or.inr ⟨fun q => hc244 q.1, rfl⟩)
      · simp only [oC, Classical.not_not] at hc268
        exact absurd hc268 (by simp)
    · simp only [oC, Classical.not_not] at hc244
      refine K_iload C (pc := 247) at_247 rfl ?_
      refine K_bipush C (pc := 249) 10 at_249 (by decide) ?_
      refine K_icmp C (pc := 251) 258 at_251 (by decide) (by decide) (fun hc251 => ?_) (fun hc251 => ?_)
      · simp only [oC, Classical.not_not] at hc251
        refine K_iconst C (pc := 258) 0 at_258 (by decide) ?_
        refine K_istore C (pc := 259) (Ls' := [_, _, _, _, _, _, _, _, _, _, _, _, _, _, _, _, _, _, _, _, _, _, _, _, _, _, _, _, _, _, _, _, _, _, _, _, _, _]) at_259 rfl ?_
        refine K_ldc2J C (pc := 261) (tw65 hw) at_261 ?_
        refine K_lstore C (pc := 264) (Ls' := [_, _, _, _, _, _, _, _, _, _, _, _, _, _, _, _, _, _, _, _, _, _, _, _, _, _, _, _, _, _, _, _, _, _, _, _, _, _]) at_264 rfl ?_
        refine K_iload C (pc := 266) at_266 rfl ?_
        refine K_if C (pc := 268) 528 at_268 (by decide) (by decide) (fun hc268 => ?_) (fun hc268 => ?_)
        · simp only [oC, Classical.not_not] at hc268
          exact JA _ _ (Or.inr ⟨fun q => q.2.1 (by rw [hl]; exact hc251), rfl⟩)
        · simp only [oC, Classical.not_not] at hc268
          exact absurd hc268 (by simp)
      · simp only [oC, Classical.not_not] at hc251
        refine K_iconst C (pc := 254) 1 at_254 (by decide) ?_
        refine K_goto C (pc := 255) 259 at_255 (by decide) (by decide) ?_
        refine K_istore C (pc := 259) (Ls' := [_, _, _, _, _, _, _, _, _, _, _, _, _, _, _, _, _, _, _, _, _, _, _, _, _, _, _, _, _, _, _, _, _, _, _, _, _, _]) at_259 rfl ?_
        refine K_ldc2J C (pc := 261) (tw65 hw) at_261 ?_
        refine K_lstore C (pc := 264) (Ls' := [_, _, _, _, _, _, _, _, _, _, _, _, _, _, _, _, _, _, _, _, _, _, _, _, _, _, _, _, _, _, _, _, _, _, _, _, _, _]) at_264 rfl ?_
        refine K_iload C (pc := 266) at_266 rfl ?_
        refine K_if C (pc := 268) 528 at_268 (by decide) (by decide) (fun hc268 => ?_) (fun hc268 => ?_)
        · simp only [oC, Classical.not_not] at hc268
          exact absurd hc268 (by simp)
        · simp only [oC, Classical.not_not] at hc268
          obtain ⟨tn, rfl, h1, htn⟩ := own_tn (us := us) (by omega) hfn hc244 (by rw [hl]; exact hc251)
          rw [hl] at htn
          rw [oOf _ (by omega)] at ht
          obtain ⟨u0, hu0⟩ : ∃ u, us[0]? = some u := ⟨us[0]'(by omega), List.getElem?_eq_getElem _⟩
          obtain ⟨u1, hu1⟩ : ∃ u, us[1]? = some u := ⟨us[1]'(by omega), List.getElem?_eq_getElem _⟩
          obtain ⟨u2, hu2⟩ : ∃ u, us[2]? = some u := ⟨us[2]'(by omega), List.getElem?_eq_getElem _⟩
          obtain ⟨u3, hu3⟩ : ∃ u, us[3]? = some u := ⟨us[3]'(by omega), List.getElem?_eq_getElem _⟩
          obtain ⟨u4, hu4⟩ : ∃ u, us[4]? = some u := ⟨us[4]'(by omega), List.getElem?_eq_getElem _⟩
          obtain ⟨u5, hu5⟩ : ∃ u, us[5]? = some u := ⟨us[5]'(by omega), List.getElem?_eq_getElem _⟩
          obtain ⟨u6, hu6⟩ : ∃ u, us[6]? = some u := ⟨us[6]'(by omega), List.getElem?_eq_getElem _⟩
          obtain ⟨u7, hu7⟩ : ∃ u, us[7]? = some u := ⟨us[7]'(by omega), List.getElem?_eq_getElem _⟩
          obtain ⟨u8, hu8⟩ : ∃ u, us[8]? = some u := ⟨us[8]'(by omega), List.getElem?_eq_getElem _⟩
          obtain ⟨u9, hu9⟩ : ∃ u, us[9]? = some u := ⟨us[9]'(by omega), List.getElem?_eq_getElem _⟩
          refine K_aload C (pc := 271) at_271 rfl (by first | rfl | assumption) ?_
          refine K_iconst C (pc := 273) 0 at_273 (by decide) ?_
          refine K_iload C (pc := 274) at_274 rfl ?_
          refine K_iload C (pc := 276) at_276 rfl ?_
          refine K_aload C (pc := 278) at_278 rfl (by first | rfl | assumption) ?_
          refine K_static C (pc := 280) (m13 l Z a0 hw ca pa us 0 fn tn u0 _ hu0 (by decide) hfn htn A PW) (tw66 hw) (tw67 hw) (tw3 hw) (tw68 hw) (by decide) pdo_19 at_280 (argsL := [_, _, _, _, _]) (rest := _) rfl rfl rfl rfl (fun a q r => C.new a (Nat.le_trans q r)) (by decide) (Nat.le_of_ble_eq_true rfl) (by decide) (by decide) ?_
          rintro _ h12 ⟨z0, rfl, hh, T0⟩ -
          replace hh := hh.symm
          subst hh
          dsimp only [Option.toList, List.cons_append, List.nil_append]
          refine K_lstore C (pc := 283) (Ls' := [_, _, _, _, _, _, _, _, _, _, _, _, _, _, _, _, _, _, _, _, _, _, _, _, _, _, _, _, _, _, _, _, _, _, _, _, _, _]) at_283 rfl ?_
          refine K_aload C (pc := 285) at_285 rfl (by first | rfl | assumption) ?_
          refine K_iconst C (pc := 287) 1 at_287 (by decide) ?_
          refine K_iload C (pc := 288) at_288 rfl ?_
          refine K_iload C (pc := 290) at_290 rfl ?_
          refine K_aload C (pc := 292) at_292 rfl (by first | rfl | assumption) ?_
          refine K_static C (pc := 294) (m13 l Z a0 hw ca pa us 1 fn tn u1 _ hu1 (by decide) hfn htn A PW) (tw66 hw) (tw67 hw) (tw3 hw) (tw68 hw) (by decide) pdo_19 at_294 (argsL := [_, _, _, _, _]) (rest := _) rfl rfl rfl rfl (fun a q r => C.new a (Nat.le_trans q r)) (by decide) (Nat.le_of_ble_eq_true rfl) (by decide) (by decide) ?_
          rintro _ h12 ⟨z1, rfl, hh, T1⟩ -
          replace hh := hh.symm
          subst hh
          dsimp only [Option.toList, List.cons_append, List.nil_append]
          refine K_lstore C (pc := 297) (Ls' := [_, _, _, _, _, _, _, _, _, _, _, _, _, _, _, _, _, _, _, _, _, _, _, _, _, _, _, _, _, _, _, _, _, _, _, _, _, _]) at_297 rfl ?_
          refine K_aload C (pc := 299) at_299 rfl (by first | rfl | assumption) ?_
          refine K_iconst C (pc := 301) 2 at_301 (by decide) ?_
          refine K_iload C (pc := 302) at_302 rfl ?_
          refine K_iload C (pc := 304) at_304 rfl ?_
          refine K_aload C (pc := 306) at_306 rfl (by first | rfl | assumption) ?_
          refine K_static C (pc := 308) (m13 l Z a0 hw ca pa us 2 fn tn u2 _ hu2 (by decide) hfn htn A PW) (tw66 hw) (tw67 hw) (tw3 hw) (tw68 hw) (by decide) pdo_19 at_308 (argsL := [_, _, _, _, _]) (rest := _) rfl rfl rfl rfl (fun a q r => C.new a (Nat.le_trans q r)) (by decide) (Nat.le_of_ble_eq_true rfl) (by decide) (by decide) ?_
          rintro _ h12 ⟨z2, rfl, hh, T2⟩ -
          replace hh := hh.symm
          subst hh
          dsimp only [Option.toList, List.cons_append, List.nil_append]
          refine K_lstore C (pc := 311) (Ls' := [_, _, _, _, _, _, _, _, _, _, _, _, _, _, _, _, _, _, _, _, _, _, _, _, _, _, _, _, _, _, _, _, _, _, _, _, _, _]) at_311 rfl ?_
          refine K_aload C (pc := 313) at_313 rfl (by first | rfl | assumption) ?_
          refine K_iconst C (pc := 315) 3 at_315 (by decide) ?_
          refine K_iload C (pc := 316) at_316 rfl ?_
          refine K_iload C (pc := 318) at_318 rfl ?_
          refine K_aload C (pc := 320) at_320 rfl (by first | rfl | assumption) ?_
          refine K_static C (pc := 322) (m13 l Z a0 hw ca pa us 3 fn tn u3 _ hu3 (by decide) hfn htn A PW) (tw66 hw) (tw67 hw) (tw3 hw) (tw68 hw) (by decide) pdo_19 at_322 (argsL := [_, _, _, _, _]) (rest := _) rfl rfl rfl rfl (fun a q r => C.new a (Nat.le_trans q r)) (by decide) (Nat.le_of_ble_eq_true rfl) (by decide) (by decide) ?_
          rintro _ h12 ⟨z3, rfl, hh, T3⟩ -
          replace hh := hh.symm
          subst hh
          dsimp only [Option.toList, List.cons_append, List.nil_append]
          refine K_lstore C (pc := 325) (Ls' := [_, _, _, _, _, _, _, _, _, _, _, _, _, _, _, _, _, _, _, _, _, _, _, _, _, _, _, _, _, _, _, _, _, _, _, _, _, _]) at_325 rfl ?_
          refine K_aload C (pc := 327) at_327 rfl (by first | rfl | assumption) ?_
          refine K_iconst C (pc := 329) 4 at_329 (by decide) ?_
          refine K_iload C (pc := 330) at_330 rfl ?_
          refine K_iload C (pc := 332) at_332 rfl ?_
          refine K_aload C (pc := 334) at_334 rfl (by first | rfl | assumption) ?_
          refine K_static C (pc := 336) (m13 l Z a0 hw ca pa us 4 fn tn u4 _ hu4 (by decide) hfn htn A PW) (tw66 hw) (tw67 hw) (tw3 hw) (tw68 hw) (by decide) pdo_19 at_336 (argsL := [_, _, _, _, _]) (rest := _) rfl rfl rfl rfl (fun a q r => C.new a (Nat.le_trans q r)) (by decide) (Nat.le_of_ble_eq_true rfl) (by decide) (by decide) ?_
          rintro _ h12 ⟨z4, rfl, hh, T4⟩ -
          replace hh := hh.symm
          subst hh
          dsimp only [Option.toList, List.cons_append, List.nil_append]
          refine K_lstore C (pc := 339) (Ls' := [_, _, _, _, _, _, _, _, _, _, _, _, _, _, _, _, _, _, _, _, _, _, _, _, _, _, _, _, _, _, _, _, _, _, _, _, _, _]) at_339 rfl ?_
          refine K_aload C (pc := 341) at_341 rfl (by first | rfl | assumption) ?_
          refine K_iconst C (pc := 343) 5 at_343 (by decide) ?_
          refine K_iload C (pc := 344) at_344 rfl ?_
          refine K_iload C (pc := 346) at_346 rfl ?_
          refine K_aload C (pc := 348) at_348 rfl (by first | rfl | assumption) ?_
          refine K_static C (pc := 350) (m13 l Z a0 hw ca pa us 5 fn tn u5 _ hu5 (by decide) hfn htn A PW) (tw66 hw) (tw67 hw) (tw3 hw) (tw68 hw) (by decide) pdo_19 at_350 (argsL := [_, _, _, _, _]) (rest := _) rfl rfl rfl rfl (fun a q r => C.new a (Nat.le_trans q r)) (by decide) (Nat.le_of_ble_eq_true rfl) (by decide) (by decide) ?_
          rintro _ h12 ⟨z5, rfl, hh, T5⟩ -
          replace hh := hh.symm
          subst hh
          dsimp only [Option.toList, List.cons_append, List.nil_append]
          refine K_lstore C (pc := 353) (Ls' := [_, _, _, _, _, _, _, _, _, _, _, _, _, _, _, _, _, _, _, _, _, _, _, _, _, _, _, _, _, _, _, _, _, _, _, _, _, _]) at_353 rfl ?_
          refine K_aload C (pc := 355) at_355 rfl (by first | rfl | assumption) ?_
          refine K_bipush C (pc := 357) 6 at_357 (by decide) ?_
          refine K_iload C (pc := 359) at_359 rfl ?_
          refine K_iload C (pc := 361) at_361 rfl ?_
          refine K_aload C (pc := 363) at_363 rfl (by first | rfl | assumption) ?_
          refine K_static C (pc := 365) (m13 l Z a0 hw ca pa us 6 fn tn u6 _ hu6 (by decide) hfn htn A PW) (tw66 hw) (tw67 hw) (tw3 hw) (tw68 hw) (by decide) pdo_19 at_365 (argsL := [_, _, _, _, _]) (rest := _) rfl rfl rfl rfl (fun a q r => C.new a (Nat.le_trans q r)) (by decide) (Nat.le_of_ble_eq_true rfl) (by decide) (by decide) ?_
          rintro _ h12 ⟨z6, rfl, hh, T6⟩ -
          replace hh := hh.symm
          subst hh
          dsimp only [Option.toList, List.cons_append, List.nil_append]
          refine K_lstore C (pc := 368) (Ls' := [_, _, _, _, _, _, _, _, _, _, _, _, _, _, _, _, _, _, _, _, _, _, _, _, _, _, _, _, _, _, _, _, _, _, _, _, _, _]) at_368 rfl ?_
          refine K_aload C (pc := 370) at_370 rfl (by first | rfl | assumption) ?_
          refine K_bipush C (pc := 372) 7 at_372 (by decide) ?_
          refine K_iload C (pc := 374) at_374 rfl ?_
          refine K_iload C (pc := 376) at_376 rfl ?_
          refine K_aload C (pc := 378) at_378 rfl (by first | rfl | assumption) ?_
          refine K_static C (pc := 380) (m13 l Z a0 hw ca pa us 7 fn tn u7 _ hu7 (by decide) hfn htn A PW) (tw66 hw) (tw67 hw) (tw3 hw) (tw68 hw) (by decide) pdo_19 at_380 (argsL := [_, _, _, _, _]) (rest := _) rfl rfl rfl rfl (fun a q r => C.new a (Nat.le_trans q r)) (by decide) (Nat.le_of_ble_eq_true rfl) (by decide) (by decide) ?_
          rintro _ h12 ⟨z7, rfl, hh, T7⟩ -
          replace hh := hh.symm
          subst hh
          dsimp only [Option.toList, List.cons_append, List.nil_append]
          refine K_lstore C (pc := 383) (Ls' := [_, _, _, _, _, _, _, _, _, _, _, _, _, _, _, _, _, _, _, _, _, _, _, _, _, _, _, _, _, _, _, _, _, _, _, _, _, _]) at_383 rfl ?_
          refine K_aload C (pc := 385) at_385 rfl (by first | rfl | assumption) ?_
          refine K_bipush C (pc := 387) 8 at_387 (by decide) ?_
          refine K_iload C (pc := 389) at_389 rfl ?_
          refine K_iload C (pc := 391) at_391 rfl ?_
          refine K_aload C (pc := 393) at_393 rfl (by first | rfl | assumption) ?_
          refine K_static C (pc := 395) (m13 l Z a0 hw ca pa us 8 fn tn u8 _ hu8 (by decide) hfn htn A PW) (tw66 hw) (tw67 hw) (tw3 hw) (tw68 hw) (by decide) pdo_19 at_395 (argsL := [_, _, _, _, _]) (rest := _) rfl rfl rfl rfl (fun a q r => C.new a (Nat.le_trans q r)) (by decide) (Nat.le_of_ble_eq_true rfl) (by decide) (by decide) ?_
          rintro _ h12 ⟨z8, rfl, hh, T8⟩ -
          replace hh := hh.symm
          subst hh
          dsimp only [Option.toList, List.cons_append, List.nil_append]
          refine K_lstore C (pc := 398) (Ls' := [_, _, _, _, _, _, _, _, _, _, _, _, _, _, _, _, _, _, _, _, _, _, _, _, _, _, _, _, _, _, _, _, _, _, _, _, _, _]) at_398 rfl ?_
          refine K_aload C (pc := 400) at_400 rfl (by first | rfl | assumption) ?_
          refine K_bipush C (pc := 402) 9 at_402 (by decide) ?_
          refine K_iload C (pc := 404) at_404 rfl ?_
          refine K_iload C (pc := 406) at_406 rfl ?_
          refine K_aload C (pc := 408) at_408 rfl (by first | rfl | assumption) ?_
          refine K_static C (pc := 410) (m13 l Z a0 hw ca pa us 9 fn tn u9 _ hu9 (by decide) hfn htn A PW) (tw66 hw) (tw67 hw) (tw3 hw) (tw68 hw) (by decide) pdo_19 at_410 (argsL := [_, _, _, _, _]) (rest := _) rfl rfl rfl rfl (fun a q r => C.new a (Nat.le_trans q r)) (by decide) (Nat.le_of_ble_eq_true rfl) (by decide) (by decide) ?_
          rintro _ h12 ⟨z9, rfl, hh, T9⟩ -
          replace hh := hh.symm
          subst hh
          dsimp only [Option.toList, List.cons_append, List.nil_append]
          refine K_lstore C (pc := 413) (Ls' := [_, _, _, _, _, _, _, _, _, _, _, _, _, _, _, _, _, _, _, _, _, _, _, _, _, _, _, _, _, _, _, _, _, _, _, _, _, _]) at_413 rfl ?_
          have J485 : ¬ own_all us (Int32.ofNat fn) (Int32.ofNat tn) → oWP false p l e room_1 s m #[.long p1, .long p2, .long p3, .int p4, .int p5, .int p6] below meth c (fun a => h0.size ≤ a) (fun v h _ => ((fun v _ => v = some (.int 1))) v h) oT h11 5 54 (oF m 485 [.val (.long p1), .second, .val (.long p2), .second, .val (.long p3), .second, .val (.int p4), .val (.int p5), .val (.int p6), .val (.ref ca), .val (.ref a), .val (.int (Int32.ofNat fn)), .val (.int (Int32.ofNat tn)), .val (.ref pa), .val (.int 1), .val (.long (-1)), .second, .val (.long z0), .second, .val (.long z1), .second, .val (.long z2), .second, .val (.long z3), .second, .val (.long z4), .second, .val (.long z5), .second, .val (.long z6), .second, .val (.long z7), .second, .val (.long z8), .second, .val (.long z9), .second, .unset] []) := by
            intro hU
            refine K_iconst C (pc := 485) 1 at_485 (by decide) ?_
            refine K_goto C (pc := 486) 490 at_486 (by decide) (by decide) ?_
            refine K_istore C (pc := 490) (Ls' := [_, _, _, _, _, _, _, _, _, _, _, _, _, _, _, _, _, _, _, _, _, _, _, _, _, _, _, _, _, _, _, _, _, _, _, _, _, _]) at_490 rfl ?_
            refine K_iload C (pc := 492) at_492 rfl ?_
            refine K_if C (pc := 494) 528 at_494 (by decide) (by decide) (fun hc494 => ?_) (fun hc494 => ?_)
            · simp only [oC, Classical.not_not] at hc494
              exact JB _ _ _ _ _ _ _ _ _ _ _ _ _ (Or.inr ⟨hU, rfl⟩)
            · simp only [oC, Classical.not_not] at hc494
              exact absurd hc494 (by simp)
          refine K_lload C (pc := 415) at_415 rfl ?_
          refine K_lconst C (pc := 417) 0 at_417 (by decide) ?_
          refine K_lcmp C (pc := 418) at_418 ?_
          refine K_if C (pc := 419) 485 at_419 (by decide) (by decide) (fun hc419 => ?_) (fun hc419 => ?_)
          · simp only [oC, Classical.not_not] at hc419
            exact J485 (fun q => (own_Tneg T0 (own_c0.mp hc419)).2.2 (own_dg (by omega) (by omega) q 0 u0 (own_Tneg T0 (own_c0.mp hc419)).1 (own_Tneg T0 (own_c0.mp hc419)).2.1 hu0))
          · simp only [oC, Classical.not_not] at hc419
            refine K_lload C (pc := 422) at_422 rfl ?_
            refine K_lconst C (pc := 424) 0 at_424 (by decide) ?_
            refine K_lcmp C (pc := 425) at_425 ?_
            refine K_if C (pc := 426) 485 at_426 (by decide) (by decide) (fun hc426 => ?_) (fun hc426 => ?_)
            · simp only [oC, Classical.not_not] at hc426
              exact J485 (fun q => (own_Tneg T1 (own_c0.mp hc426)).2.2 (own_dg (by omega) (by omega) q 1 u1 (own_Tneg T1 (own_c0.mp hc426)).1 (own_Tneg T1 (own_c0.mp hc426)).2.1 hu1))
            · simp only [oC, Classical.not_not] at hc426
              refine K_lload C (pc := 429) at_429 rfl ?_
              refine K_lconst C (pc := 431) 0 at_431 (by decide) ?_
              refine K_lcmp C (pc := 432) at_432 ?_
              refine K_if C (pc := 433) 485 at_433 (by decide) (by decide) (fun hc433 => ?_) (fun hc433 => ?_)
              · simp only [oC, Classical.not_not] at hc433
                exact J485 (fun q => (own_Tneg T2 (own_c0.mp hc433)).2.2 (own_dg (by omega) (by omega) q 2 u2 (own_Tneg T2 (own_c0.mp hc433)).1 (own_Tneg T2 (own_c0.mp hc433)).2.1 hu2))
              · simp only [oC, Classical.not_not] at hc433
                refine K_lload C (pc := 436) at_436 rfl ?_
                refine K_lconst C (pc := 438) 0 at_438 (by decide) ?_
                refine K_lcmp C (pc := 439) at_439 ?_
                refine K_if C (pc := 440) 485 at_440 (by decide) (by decide) (fun hc440 => ?_) (fun hc440 => ?_)
                · simp only [oC, Classical.not_not] at hc440
                  exact J485 (fun q => (own_Tneg T3 (own_c0.mp hc440)).2.2 (own_dg (by omega) (by omega) q 3 u3 (own_Tneg T3 (own_c0.mp hc440)).1 (own_Tneg T3 (own_c0.mp hc440)).2.1 hu3))
                · simp only [oC, Classical.not_not] at hc440
                  refine K_lload C (pc := 443) at_443 rfl ?_
                  refine K_lconst C (pc := 445) 0 at_445 (by decide) ?_
                  refine K_lcmp C (pc := 446) at_446 ?_
                  refine K_if C (pc := 447) 485 at_447 (by decide) (by decide) (fun hc447 => ?_) (fun hc447 => ?_)
                  · simp only [oC, Classical.not_not] at hc447
                    exact J485 (fun q => (own_Tneg T4 (own_c0.mp hc447)).2.2 (own_dg (by omega) (by omega) q 4 u4 (own_Tneg T4 (own_c0.mp hc447)).1 (own_Tneg T4 (own_c0.mp hc447)).2.1 hu4))
                  · simp only [oC, Classical.not_not] at hc447
                    refine K_lload C (pc := 450) at_450 rfl ?_
                    refine K_lconst C (pc := 452) 0 at_452 (by decide) ?_
                    refine K_lcmp C (pc := 453) at_453 ?_
                    refine K_if C (pc := 454) 485 at_454 (by decide) (by decide) (fun hc454 => ?_) (fun hc454 => ?_)
                    · simp only [oC, Classical.not_not] at hc454
                      exact J485 (fun q => (own_Tneg T5 (own_c0.mp hc454)).2.2 (own_dg (by omega) (by omega) q 5 u5 (own_Tneg T5 (own_c0.mp hc454)).1 (own_Tneg T5 (own_c0.mp hc454)).2.1 hu5))
                    · simp only [oC, Classical.not_not] at hc454
                      refine K_lload C (pc := 457) at_457 rfl ?_
                      refine K_lconst C (pc := 459) 0 at_459 (by decide) ?_
                      refine K_lcmp C (pc := 460) at_460 ?_
                      refine K_if C (pc := 461) 485 at_461 (by decide) (by decide) (fun hc461 => ?_) (fun hc461 => ?_)
                      · simp only [oC, Classical.not_not] at hc461
                        exact J485 (fun q => (own_Tneg T6 (own_c0.mp hc461)).2.2 (own_dg (by omega) (by omega) q 6 u6 (own_Tneg T6 (own_c0.mp hc461)).1 (own_Tneg T6 (own_c0.mp hc461)).2.1 hu6))
                      · simp only [oC, Classical.not_not] at hc461
                        refine K_lload C (pc := 464) at_464 rfl ?_
                        refine K_lconst C (pc := 466) 0 at_466 (by decide) ?_
                        refine K_lcmp C (pc := 467) at_467 ?_
                        refine K_if C (pc := 468) 485 at_468 (by decide) (by decide) (fun hc468 => ?_) (fun hc468 => ?_)
                        · simp only [oC, Classical.not_not] at hc468
                          exact J485 (fun q => (own_Tneg T7 (own_c0.mp hc468)).2.2 (own_dg (by omega) (by omega) q 7 u7 (own_Tneg T7 (own_c0.mp hc468)).1 (own_Tneg T7 (own_c0.mp hc468)).2.1 hu7))
                        · simp only [oC, Classical.not_not] at hc468
                          refine K_lload C (pc := 471) at_471 rfl ?_
                          refine K_lconst C (pc := 473) 0 at_473 (by decide) ?_
                          refine K_lcmp C (pc := 474) at_474 ?_
                          refine K_if C (pc := 475) 485 at_475 (by decide) (by decide) (fun hc475 => ?_) (fun hc475 => ?_)
                          · simp only [oC, Classical.not_not] at hc475
                            exact J485 (fun q => (own_Tneg T8 (own_c0.mp hc475)).2.2 (own_dg (by omega) (by omega) q 8 u8 (own_Tneg T8 (own_c0.mp hc475)).1 (own_Tneg T8 (own_c0.mp hc475)).2.1 hu8))
                          · simp only [oC, Classical.not_not] at hc475
                            refine K_lload C (pc := 478) at_478 rfl ?_
                            refine K_lconst C (pc := 480) 0 at_480 (by decide) ?_
                            refine K_lcmp C (pc := 481) at_481 ?_
                            refine K_if C (pc := 482) 489 at_482 (by decide) (by decide) (fun hc482 => ?_) (fun hc482 => ?_)
                            · simp only [oC, Classical.not_not] at hc482
                              have P0 := own_Tpos T0 (fun q => hc419 (own_c0.mpr q)) hu0 htn
                              have P1 := own_Tpos T1 (fun q => hc426 (own_c0.mpr q)) hu1 htn
                              have P2 := own_Tpos T2 (fun q => hc433 (own_c0.mpr q)) hu2 htn
                              have P3 := own_Tpos T3 (fun q => hc440 (own_c0.mpr q)) hu3 htn
                              have P4 := own_Tpos T4 (fun q => hc447 (own_c0.mpr q)) hu4 htn
                              have P5 := own_Tpos T5 (fun q => hc454 (own_c0.mpr q)) hu5 htn
                              have P6 := own_Tpos T6 (fun q => hc461 (own_c0.mpr q)) hu6 htn
                              have P7 := own_Tpos T7 (fun q => hc468 (own_c0.mpr q)) hu7 htn
                              have P8 := own_Tpos T8 (fun q => hc475 (own_c0.mpr q)) hu8 htn
                              have P9 := own_Tpos T9 (fun q => hc482 (own_c0.mpr q)) hu9 htn
                              refine K_iconst C (pc := 489) 0 at_489 (by decide) ?_
                              refine K_istore C (pc := 490) (Ls' := [_, _, _, _, _, _, _, _, _, _, _, _, _, _, _, _, _, _, _, _, _, _, _, _, _, _, _, _, _, _, _, _, _, _, _, _, _, _]) at_490 rfl ?_
                              refine K_iload C (pc := 492) at_492 rfl ?_
                              refine K_if C (pc := 494) 528 at_494 (by decide) (by decide) (fun hc494 => ?_) (fun hc494 => ?_)
                              · simp only [oC, Classical.not_not] at hc494
                                exact absurd hc494 (by simp)
                              · simp only [oC, Classical.not_not] at hc494
                                refine K_lload C (pc := 497) at_497 rfl ?_
                                refine K_lload C (pc := 499) at_499 rfl ?_
                                refine K_ladd C (pc := 501) at_501 ?_
                                refine K_lload C (pc := 502) at_502 rfl ?_
                                refine K_ladd C (pc := 504) at_504 ?_
                                refine K_lload C (pc := 505) at_505 rfl ?_
                                refine K_ladd C (pc := 507) at_507 ?_
                                refine K_lload C (pc := 508) at_508 rfl ?_
                                refine K_ladd C (pc := 510) at_510 ?_
                                refine K_lload C (pc := 511) at_511 rfl ?_
                                refine K_ladd C (pc := 513) at_513 ?_
                                refine K_lload C (pc := 514) at_514 rfl ?_
                                refine K_ladd C (pc := 516) at_516 ?_
                                refine K_lload C (pc := 517) at_517 rfl ?_
                                refine K_ladd C (pc := 519) at_519 ?_
                                refine K_lload C (pc := 520) at_520 rfl ?_
                                refine K_ladd C (pc := 522) at_522 ?_
                                refine K_lload C (pc := 523) at_523 rfl ?_
                                refine K_ladd C (pc := 525) at_525 ?_
                                refine K_lstore C (pc := 526) (Ls' := [_, _, _, _, _, _, _, _, _, _, _, _, _, _, _, _, _, _, _, _, _, _, _, _, _, _, _, _, _, _, _, _, _, _, _, _, _, _]) at_526 rfl ?_
                                refine JB _ _ _ _ _ _ _ _ _ _ _ _ _ (Or.inl ⟨own_allT hl h1 htn hu0 hu1 hu2 hu3 hu4 hu5 hu6 hu7 hu8 hu9 P0.1 P1.1 P2.1 P3.1 P4.1 P5.1 P6.1 P7.1 P8.1 P9.1, ?_⟩)
                                rw [own_sum10 (v := own_v us fn tn) P0.2 P1.2 P2.2 P3.2 P4.2 P5.2 P6.2 P7.2 P8.2 P9.2, own_sum (Nat.le_of_lt h1) htn, oOf _ (by omega), Int.toNat_natCast]
                            · simp only [oC, Classical.not_not] at hc482
                              exact J485 (fun q => (own_Tneg T9 (own_c0.mp hc482)).2.2 (own_dg (by omega) (by omega) q 9 u9 (own_Tneg T9 (own_c0.mp hc482)).1 (own_Tneg T9 (own_c0.mp hc482)).2.1 hu9))
  refine K_bipush C (pc := 0) 10 at_0 (by decide) ?_
  refine K_newarray2 C (aty := .char) (pc := 2) 10 10 (tw0 hw) at_2 rfl (by decide) (by decide) (by decide) (by decide) ?_
  intro h1 ca hca hPc E1 A
  refine K_astore C (pc := 4) (Ls' := [_, _, _, _, _, _, _, _, _, _, _, _, _, _, _, _, _, _, _, _, _, _, _, _, _, _, _, _, _, _, _, _, _, _, _, _, _, _]) at_4 rfl rfl ?_
  refine K_aload C (pc := 6) at_6 rfl (by first | rfl | assumption) ?_
  refine K_iconst C (pc := 8) 0 at_8 (by decide) ?_
  refine K_lloadN C (pc := 9) at_9 rfl ?_
  refine K_iconst C (pc := 10) 0 at_10 (by decide) ?_
  refine K_iload C (pc := 11) at_11 rfl ?_
  refine K_iconst C (pc := 13) 0 at_13 (by decide) ?_
  refine K_static C (pc := 14) (m1 l Z a0 hw p1 0 p4 0 _) (tw1 hw) (tw2 hw) (tw3 hw) (tw4 hw) (by decide) pdo_20 at_14 (argsL := [_, _, _, _]) (rest := _) rfl rfl rfl rfl (fun a q r => C.new a (Nat.le_trans q r)) (by decide) (Nat.le_of_ble_eq_true rfl) (by decide) (by decide) ?_
  rintro _ h8 ⟨rfl, hh⟩ -
  replace hh := hh.symm
  subst hh
  dsimp only [Option.toList, List.cons_append, List.nil_append]
  refine K_castore2 C (pc := 17) 0 A rfl (by simp) hPc at_17 ?_
  intro h3 Wr A3
  replace A := A3
  clear A3 Wr
  refine K_aload C (pc := 18) at_18 rfl (by first | rfl | assumption) ?_
  refine K_iconst C (pc := 20) 1 at_20 (by decide) ?_
  refine K_lloadN C (pc := 21) at_21 rfl ?_
  refine K_iconst C (pc := 22) 1 at_22 (by decide) ?_
  refine K_iload C (pc := 23) at_23 rfl ?_
  refine K_iconst C (pc := 25) 1 at_25 (by decide) ?_
  refine K_static C (pc := 26) (m1 l Z a0 hw p1 1 p4 1 _) (tw1 hw) (tw2 hw) (tw3 hw) (tw4 hw) (by decide) pdo_20 at_26 (argsL := [_, _, _, _]) (rest := _) rfl rfl rfl rfl (fun a q r => C.new a (Nat.le_trans q r)) (by decide) (Nat.le_of_ble_eq_true rfl) (by decide) (by decide) ?_
  rintro _ h8 ⟨rfl, hh⟩ -
  replace hh := hh.symm
  subst hh
  dsimp only [Option.toList, List.cons_append, List.nil_append]
  refine K_castore2 C (pc := 29) 1 A rfl (by simp) hPc at_29 ?_
  intro h3 Wr A3
  replace A := A3
  clear A3 Wr
  refine K_aload C (pc := 30) at_30 rfl (by first | rfl | assumption) ?_
  refine K_iconst C (pc := 32) 2 at_32 (by decide) ?_
  refine K_lloadN C (pc := 33) at_33 rfl ?_
  refine K_iconst C (pc := 34) 2 at_34 (by decide) ?_
  refine K_iload C (pc := 35) at_35 rfl ?_
  refine K_iconst C (pc := 37) 2 at_37 (by decide) ?_
  refine K_static C (pc := 38) (m1 l Z a0 hw p1 2 p4 2 _) (tw1 hw) (tw2 hw) (tw3 hw) (tw4 hw) (by decide) pdo_20 at_38 (argsL := [_, _, _, _]) (rest := _) rfl rfl rfl rfl (fun a q r => C.new a (Nat.le_trans q r)) (by decide) (Nat.le_of_ble_eq_true rfl) (by decide) (by decide) ?_
  rintro _ h8 ⟨rfl, hh⟩ -
  replace hh := hh.symm
  subst hh
  dsimp only [Option.toList, List.cons_append, List.nil_append]
  refine K_castore2 C (pc := 41) 2 A rfl (by simp) hPc at_41 ?_
  intro h3 Wr A3
  replace A := A3
  clear A3 Wr
  refine K_aload C (pc := 42) at_42 rfl (by first | rfl | assumption) ?_
  refine K_iconst C (pc := 44) 3 at_44 (by decide) ?_
  refine K_lloadN C (pc := 45) at_45 rfl ?_
  refine K_iconst C (pc := 46) 3 at_46 (by decide) ?_
  refine K_iload C (pc := 47) at_47 rfl ?_
  refine K_iconst C (pc := 49) 3 at_49 (by decide) ?_
  refine K_static C (pc := 50) (m1 l Z a0 hw p1 3 p4 3 _) (tw1 hw) (tw2 hw) (tw3 hw) (tw4 hw) (by decide) pdo_20 at_50 (argsL := [_, _, _, _]) (rest := _) rfl rfl rfl rfl (fun a q r => C.new a (Nat.le_trans q r)) (by decide) (Nat.le_of_ble_eq_true rfl) (by decide) (by decide) ?_
  rintro _ h8 ⟨rfl, hh⟩ -
  replace hh := hh.symm
  subst hh
  dsimp only [Option.toList, List.cons_append, List.nil_append]
  refine K_castore2 C (pc := 53) 3 A rfl (by simp) hPc at_53 ?_
  intro h3 Wr A3
  replace A := A3
  clear A3 Wr
  refine K_aload C (pc := 54) at_54 rfl (by first | rfl | assumption) ?_
  refine K_iconst C (pc := 56) 4 at_56 (by decide) ?_
  refine K_lloadN C (pc := 57) at_57 rfl ?_
  refine K_iconst C (pc := 58) 0 at_58 (by decide) ?_
  refine K_iload C (pc := 59) at_59 rfl ?_
  refine K_iconst C (pc := 61) 4 at_61 (by decide) ?_
  refine K_static C (pc := 62) (m1 l Z a0 hw p2 0 p4 4 _) (tw1 hw) (tw2 hw) (tw3 hw) (tw4 hw) (by decide) pdo_20 at_62 (argsL := [_, _, _, _]) (rest := _) rfl rfl rfl rfl (fun a q r => C.new a (Nat.le_trans q r)) (by decide) (Nat.le_of_ble_eq_true rfl) (by decide) (by decide) ?_
  rintro _ h8 ⟨rfl, hh⟩ -
  replace hh := hh.symm
  subst hh
  dsimp only [Option.toList, List.cons_append, List.nil_append]
  refine K_castore2 C (pc := 65) 4 A rfl (by simp) hPc at_65 ?_
  intro h3 Wr A3
  replace A := A3
  clear A3 Wr
  refine K_aload C (pc := 66) at_66 rfl (by first | rfl | assumption) ?_
  refine K_iconst C (pc := 68) 5 at_68 (by decide) ?_
  refine K_lloadN C (pc := 69) at_69 rfl ?_
  refine K_iconst C (pc := 70) 1 at_70 (by decide) ?_
  refine K_iload C (pc := 71) at_71 rfl ?_
  refine K_iconst C (pc := 73) 5 at_73 (by decide) ?_
  refine K_static C (pc := 74) (m1 l Z a0 hw p2 1 p4 5 _) (tw1 hw) (tw2 hw) (tw3 hw) (tw4 hw) (by decide) pdo_20 at_74 (argsL := [_, _, _, _]) (rest := _) rfl rfl rfl rfl (fun a q r => C.new a (Nat.le_trans q r)) (by decide) (Nat.le_of_ble_eq_true rfl) (by decide) (by decide) ?_
  rintro _ h8 ⟨rfl, hh⟩ -
  replace hh := hh.symm
  subst hh
  dsimp only [Option.toList, List.cons_append, List.nil_append]
  refine K_castore2 C (pc := 77) 5 A rfl (by simp) hPc at_77 ?_
  intro h3 Wr A3
  replace A := A3
  clear A3 Wr
  refine K_aload C (pc := 78) at_78 rfl (by first | rfl | assumption) ?_
  refine K_bipush C (pc := 80) 6 at_80 (by decide) ?_
  refine K_lloadN C (pc := 82) at_82 rfl ?_
  refine K_iconst C (pc := 83) 2 at_83 (by decide) ?_
  refine K_iload C (pc := 84) at_84 rfl ?_
  refine K_bipush C (pc := 86) 6 at_86 (by decide) ?_
  refine K_static C (pc := 88) (m1 l Z a0 hw p2 2 p4 6 _) (tw1 hw) (tw2 hw) (tw3 hw) (tw4 hw) (by decide) pdo_20 at_88 (argsL := [_, _, _, _]) (rest := _) rfl rfl rfl rfl (fun a q r => C.new a (Nat.le_trans q r)) (by decide) (Nat.le_of_ble_eq_true rfl) (by decide) (by decide) ?_
  rintro _ h8 ⟨rfl, hh⟩ -
  replace hh := hh.symm
  subst hh
  dsimp only [Option.toList, List.cons_append, List.nil_append]
  refine K_castore2 C (pc := 91) 6 A rfl (by simp) hPc at_91 ?_
  intro h3 Wr A3
  replace A := A3
  clear A3 Wr
  refine K_aload C (pc := 92) at_92 rfl (by first | rfl | assumption) ?_
  refine K_bipush C (pc := 94) 7 at_94 (by decide) ?_
  refine K_lloadN C (pc := 96) at_96 rfl ?_
  refine K_iconst C (pc := 97) 3 at_97 (by decide) ?_
  refine K_iload C (pc := 98) at_98 rfl ?_
  refine K_bipush C (pc := 100) 7 at_100 (by decide) ?_
  refine K_static C (pc := 102) (m1 l Z a0 hw p2 3 p4 7 _) (tw1 hw) (tw2 hw) (tw3 hw) (tw4 hw) (by decide) pdo_20 at_102 (argsL := [_, _, _, _]) (rest := _) rfl rfl rfl rfl (fun a q r => C.new a (Nat.le_trans q r)) (by decide) (Nat.le_of_ble_eq_true rfl) (by decide) (by decide) ?_
  rintro _ h8 ⟨rfl, hh⟩ -
  replace hh := hh.symm
  subst hh
  dsimp only [Option.toList, List.cons_append, List.nil_append]
  refine K_castore2 C (pc := 105) 7 A rfl (by simp) hPc at_105 ?_
  intro h3 Wr A3
  replace A := A3
  clear A3 Wr
  refine K_aload C (pc := 106) at_106 rfl (by first | rfl | assumption) ?_
  refine K_bipush C (pc := 108) 8 at_108 (by decide) ?_
  refine K_lload C (pc := 110) at_110 rfl ?_
  refine K_iconst C (pc := 112) 0 at_112 (by decide) ?_
  refine K_iload C (pc := 113) at_113 rfl ?_
  refine K_bipush C (pc := 115) 8 at_115 (by decide) ?_
  refine K_static C (pc := 117) (m1 l Z a0 hw p3 0 p4 8 _) (tw1 hw) (tw2 hw) (tw3 hw) (tw4 hw) (by decide) pdo_20 at_117 (argsL := [_, _, _, _]) (rest := _) rfl rfl rfl rfl (fun a q r => C.new a (Nat.le_trans q r)) (by decide) (Nat.le_of_ble_eq_true rfl) (by decide) (by decide) ?_
  rintro _ h8 ⟨rfl, hh⟩ -
  replace hh := hh.symm
  subst hh
  dsimp only [Option.toList, List.cons_append, List.nil_append]
  refine K_castore2 C (pc := 120) 8 A rfl (by simp) hPc at_120 ?_
  intro h3 Wr A3
  replace A := A3
  clear A3 Wr
  refine K_aload C (pc := 121) at_121 rfl (by first | rfl | assumption) ?_
  refine K_bipush C (pc := 123) 9 at_123 (by decide) ?_
  refine K_lload C (pc := 125) at_125 rfl ?_
  refine K_iconst C (pc := 127) 1 at_127 (by decide) ?_
  refine K_iload C (pc := 128) at_128 rfl ?_
  refine K_bipush C (pc := 130) 9 at_130 (by decide) ?_
  refine K_static C (pc := 132) (m1 l Z a0 hw p3 1 p4 9 _) (tw1 hw) (tw2 hw) (tw3 hw) (tw4 hw) (by decide) pdo_20 at_132 (argsL := [_, _, _, _]) (rest := _) rfl rfl rfl rfl (fun a q r => C.new a (Nat.le_trans q r)) (by decide) (Nat.le_of_ble_eq_true rfl) (by decide) (by decide) ?_
  rintro _ h8 ⟨rfl, hh⟩ -
  replace hh := hh.symm
  subst hh
  dsimp only [Option.toList, List.cons_append, List.nil_append]
  refine K_castore2 C (pc := 135) 9 A rfl (by simp) hPc at_135 ?_
  intro h3 Wr A3
  replace A := A3
  clear A3 Wr
  exact J136 [(own_c p1 0 p4 0), (own_c p1 1 p4 1), (own_c p1 2 p4 2), (own_c p1 3 p4 3), (own_c p2 0 p4 4), (own_c p2 1 p4 5), (own_c p2 2 p4 6), (own_c p2 3 p4 7), (own_c p3 0 p4 8), (own_c p3 1 p4 9)] _ ca rfl (by simp [own_cc]) hPc (A.eq (by simp only [own_narc]; rfl))
theorem oNe0 {args : Array Value} {s : State} {t : Term} {i k : Int32} (h : (Jvm.Cond.not (Jvm.Cond.eq t (.int k))).value args s none s [] = some true) (ht : t.eval args s none [] s = some (.int i)) : i ≠ k := by
  rintro rfl
  simp [Cond.value, ht, Term.eval] at h
theorem oIsR {args : Array Value} {s : State} {t : Term} (h : (Jvm.Cond.isRef t).value args s none s [] = some true) : ∃ v : Value, t.eval args s none [] s = some v ∧ v.isRef = true := by
  cases q : t.eval args s none [] s with
  | none => simp [Cond.value, q] at h
  | some v => exact ⟨v, rfl, by cases v <;> first | rfl | (simp [Cond.value, q] at h)⟩
set_option maxRecDepth 65536 in
set_option maxHeartbeats 40000000 in
theorem comes_1 {Post : Tables → Env → Array Value → State → Outcome → State → Prop} (hpost : ∀ tb e args s v u, (limb_1_1.after args s (.returned v) u = true ∧ limb_1_2.after args s (.returned v) u = true ∧ True) → FrameEnd s (.returned v) u (Jvm.fieldLocs frame_1_writes args s ++ Jvm.arrayLocs frame_1_arrays args s ++ Jvm.staticLocs frame_1_statics s) 24 192 → Post tb e args s (.returned v) u) :
    ArmFor flags0 classFile x code maxLocals ret World_1 tables_1 room_1 Calls_1 rest_1 Pre_1 Post := by
  intro l hfl _ _ p e ha hc hk s m args below hf hA hF happ hP
  obtain ⟨hcalls, hrest, hpre⟩ := hP
  obtain ⟨-, -, -, hnamed, -, -, -, hat⟩ := (Spec.applies_iff hf).mp happ
  obtain ⟨hg, hn⟩ := and_e (Cond.before_iff.mp (show (Jvm.Cond.and given_1 narrow_1).before args s = true from hpre))
  obtain ⟨gc, r0⟩ := and_e hg
  obtain ⟨g0, r1⟩ := and_e r0
  obtain ⟨g1, r2⟩ := and_e r1
  obtain ⟨g2, r3⟩ := and_e r2
  obtain ⟨g3, r4⟩ := and_e r3
  obtain ⟨g4, g5⟩ := and_e r4
  obtain ⟨w0, w1, w2, w3, w4, w5, rfl⟩ : ∃ w0 w1 w2 w3 w4 w5 : Value, args = #[w0, w1, w2, w3, w4, w5] := by
    have hs : args.size = 6 := by simpa [Cond.value, given_1] using gc
    obtain ⟨L⟩ := args
    match L, hs with
    | [w0, w1, w2, w3, w4, w5], _ => exact ⟨w0, w1, w2, w3, w4, w5, rfl⟩
  have hw := fun d (hd : d ∈ tables_1) => atoms_spec (ws := Jvm.Cond.code x code maxLocals ret :: tables_1) hat d (List.mem_cons_of_mem _ hd)
  obtain ⟨i0, ei0⟩ := isL_v g0
  obtain rfl : w0 = (.long i0) := Option.some.inj ei0
  obtain ⟨i1, ei1⟩ := isL_v g1
  obtain rfl : w1 = (.long i1) := Option.some.inj ei1
  obtain ⟨i2, ei2⟩ := isL_v g2
  obtain rfl : w2 = (.long i2) := Option.some.inj ei2
  obtain ⟨i3, ei3⟩ := is_v g3
  obtain rfl : w3 = (.int i3) := Option.some.inj ei3
  obtain ⟨i4, ei4⟩ := is_v g4
  obtain rfl : w4 = (.int i4) := Option.some.inj ei4
  obtain ⟨i5, ei5⟩ := is_v g5
  obtain rfl : w5 = (.int i5) := Option.some.inj ei5
  obtain ⟨hsets, hown0⟩ := atoms_of _ (rest_1_c_eq ▸ (show rest_1_c.before _ s = true from hrest))
  obtain ⟨cs, ecs⟩ := is_v (Cond.before_iff.mp (hsets _ (List.mem_of_getElem? (i := 1) rfl)))
  have S_COMPACT_STRINGS := Sta.start ecs (Or.inl (hsets _ (List.mem_of_getElem? (i := 0) rfl)))
  have hcs := oNe0 (Cond.before_iff.mp (hsets _ (List.mem_of_getElem? (i := 2) rfl))) ecs
  obtain ⟨vf, evf, hr_vf⟩ := oIsR (Cond.before_iff.mp (hsets _ (List.mem_of_getElem? (i := 8) rfl)))
  have S_SIOOBE_FORMATTER := Sta.start evf (Or.inl (hsets _ (List.mem_of_getElem? (i := 7) rfl)))
  have S__assertionsDisabled := Sta.start (oEqI (Cond.before_iff.mp (hsets _ (List.mem_of_getElem? (i := 12) rfl)))) (Or.inl (hsets _ (List.mem_of_getElem? (i := 11) rfl)))
  have S_HI_BYTE_SHIFT := Sta.start (oEqI (Cond.before_iff.mp (hsets _ (List.mem_of_getElem? (i := 15) rfl)))) (Or.inl (hsets _ (List.mem_of_getElem? (i := 14) rfl)))
  have S_LO_BYTE_SHIFT := Sta.start (oEqI (Cond.before_iff.mp (hsets _ (List.mem_of_getElem? (i := 18) rfl)))) (Or.inl (hsets _ (List.mem_of_getElem? (i := 17) rfl)))
  obtain ⟨nn, oo, h1, h2, h3, _, L, rfl, ⟨rfl, N, -⟩, hq⟩ := (m0 l s _ hw i0 i1 i2 i3 i4 i5 s.heap cs hcs S_COMPACT_STRINGS vf hr_vf S_SIOOBE_FORMATTER S__assertionsDisabled S_HI_BYTE_SHIFT S_LO_BYTE_SHIFT) ⟨Nat.le_refl _, fun _ _ q => q⟩ tables_1 p e ha hc hk s m _ below hf ((Spec.applies_iff_loose hf).mp happ).1 ⟨rfl, State.Warmed39.refl s, rfl⟩ trivial
  refine ⟨nn, _, h1, h2, h3, hpost _ _ _ _ _ _ ⟨Cond.after_iff.mpr rfl, Cond.after_iff.mpr (eq_i res_at (Term.int_eval (1)) rfl), trivial⟩ ⟨hq.1, hq.2.1, (hq.2.2.sift fun y hy => Or.inr (N y hy)).mono (by decide) (by decide)⟩⟩
theorem main_1_1 : Claimed_1_1 := comes_1 fun _ _ _ _ _ _ h hF => ⟨h.1, hF⟩
theorem main_1_2 : Claimed_1_2 := comes_1 fun _ _ _ _ _ _ h hF => ⟨h.2.1, hF⟩
end Jvm.Pilot.@@N@@
namespace Jvm.Pilot.@@N@@
open Jvm Jvm.ClassFile Sem Op Lib Jvm.Free Jvm.Stand Jvm.Pilot.@@N@@.Jvm.D
/-! MADE BY PROGRAM (witnessworld.py) out of the Statement's table words and the real class files: 22 classes; the members and pool entries that the words name. The judged class is class 1, her method 3. -/
namespace start1
open Jvm.ClassFile
def u (s : String) : CpInfo := .utf8 (stringToUtf16 s)
/-- a pool by its gaps: so many unusable entries, then the entry; so many at the end -/
def gap : Nat → List CpInfo → List CpInfo
  | 0, r => r
  | n + 1, r => .unusable :: gap n r
def poolList (es : List (Nat × CpInfo)) (last : Nat) : List CpInfo := es.foldr (fun e r => gap e.1 (e.2 :: r)) (gap last [])
def pool (es : List (Nat × CpInfo)) (last : Nat) : Array CpInfo := ⟨poolList es last⟩
def fileOf (pool : Array CpInfo) (this : Nat) (attrs : Array Attribute := #[]) (ms : Array MethodInfo := #[]) (fl : Nat := 33) (sup : Nat := 0) (ifs : Array Nat := #[]) (fds : Array FieldInfo := #[]) : ClassFile where
  minorVersion := 0
  majorVersion := 65
  constantPool := pool
  accessFlags := fl
  thisClass := this
  superClass := sup
  interfaces := ifs
  fields := fds
  methods := ms
  attributes := attrs
def plain (name : String) (sup : Option ClassId) : Class where
  name := name
  kind := .ordinary
  loader := none
  accessFlags := 33
  super := sup
  interfaces := #[]
  cf := none
  fields := #[]
  methods := #[]
  instanceTypes := #[]
  staticTypes := #[]
  resolved := #[]
  callSites := []
  init := .initialized
  statics := none
  mirror := none

def pool0 : Array CpInfo := pool [(5, u "<init>"), (0, u "()V"), (1, .class_ 10), (1, u "java/lang/Object")] 113

def k0c0 : Code := { maxStack := 0, maxLocals := 1, code := object_method_1_code, exceptionTable := #[], attributes := #[] }
def k0m0 : Method := { name := "<init>", desc := "()V", sig := { parameters := [], returnType := none }, accessFlags := 1, code := some k0c0 }
/-- java/lang/Object -/
def k0 : Class := { plain "java/lang/Object" none with
  accessFlags := 33
  interfaces := #[]
  cf := some (fileOf pool0 8 #[] #[{ accessFlags := 1, nameIndex := 5, descriptorIndex := 6, attributes := #[] }] 33 0 #[] #[])
  fields := #[]
  methods := #[k0m0]
  instanceTypes := #[]
  staticTypes := #[]
  resolved := Array.replicate 124 none
  statics := none }

def pool1 : Array CpInfo := pool [(2, .class_ 4), (1, u "java/lang/Object"), (0, u "<init>"), (0, u "()V"), (0, .long 65535), (1, .long 18446744073709551615), (1, .methodref 12 13), (0, .class_ 14), (0, .nameAndType 15 16), (0, u "com/example/fencerow/fencerow/model/DigitsValuePinLaw"), (0, u "ch"), (0, u "(JIII)C"), (0, .class_ 18), (0, u "java/lang/String"), (0, .methodref 17 20), (0, .nameAndType 5 21), (0, u "([C)V"), (0, .integer 2147483647), (0, .long 10), (1, .long 100), (1, .long 1000), (1, .long 10000), (1, .long 100000), (1, .long 1000000), (1, .long 10000000), (1, .long 100000000), (1, .long 1000000000), (1, .methodref 12 42), (0, .nameAndType 43 44), (0, u "term"), (0, u "([CIII[J)J"), (0, .methodref 46 47), (0, .class_ 48), (0, .nameAndType 49 50), (0, u "com/example/fencerow/fencerow/model/Digits"), (0, u "value"), (0, u "(Ljava/lang/String;II)I"), (3, u "law"), (0, u "(JJJIII)Z")] 6

def k1m0 : Method := { name := "<init>", desc := "()V", sig := { parameters := [], returnType := none }, accessFlags := 2, code := none }
def k1c1 : Code := { maxStack := 4, maxLocals := 7, code := method_2_code, exceptionTable := #[], attributes := #[] }
def k1m1 : Method := { name := "ch", desc := "(JIII)C", sig := { parameters := [.long, .int, .int, .int], returnType := some .char }, accessFlags := 10, code := some k1c1 }
def k1c2 : Code := { maxStack := 5, maxLocals := 6, code := method_3_code, exceptionTable := #[], attributes := #[] }
def k1m2 : Method := { name := "term", desc := "([CIII[J)J", sig := { parameters := [(.array .char), .int, .int, .int, (.array .long)], returnType := some .long }, accessFlags := 10, code := some k1c2 }
def k1c3 : Code := { maxStack := 7, maxLocals := 38, code := code, exceptionTable := #[], attributes := #[] }
def k1m3 : Method := { name := "law", desc := "(JJJIII)Z", sig := { parameters := [.long, .long, .long, .int, .int, .int], returnType := some .boolean }, accessFlags := 9, code := some k1c3 }
/-- com/example/fencerow/fencerow/model/DigitsValuePinLaw -/
def k1 : Class := { plain "com/example/fencerow/fencerow/model/DigitsValuePinLaw" (some 0) with
  accessFlags := 49
  interfaces := #[]
  cf := some (fileOf pool1 12 #[] #[{ accessFlags := 2, nameIndex := 5, descriptorIndex := 6, attributes := #[] }, { accessFlags := 10, nameIndex := 15, descriptorIndex := 16, attributes := #[] }, { accessFlags := 10, nameIndex := 43, descriptorIndex := 44, attributes := #[] }, { accessFlags := 9, nameIndex := 54, descriptorIndex := 55, attributes := #[] }] 49 2 #[] #[])
  fields := #[]
  methods := #[k1m0, k1m1, k1m2, k1m3]
  instanceTypes := #[]
  staticTypes := #[]
  resolved := Array.replicate 62 none
  statics := none }

def pool2 : Array CpInfo := pool [(1, .class_ 2), (0, u "java/io/Serializable"), (0, .class_ 4), (0, u "java/lang/Object")] 2

/-- java/io/Serializable -/
def k2 : Class := { plain "java/io/Serializable" (some 0) with
  accessFlags := 1537
  interfaces := #[]
  cf := some (fileOf pool2 1 #[] #[] 1537 3 #[] #[])
  fields := #[]
  methods := #[]
  instanceTypes := #[]
  staticTypes := #[]
  resolved := Array.replicate 7 none
  statics := none }

def pool3 : Array CpInfo := pool [(1, .class_ 2), (0, u "java/lang/Comparable"), (0, .class_ 4), (0, u "java/lang/Object")] 7

/-- java/lang/Comparable -/
def k3 : Class := { plain "java/lang/Comparable" (some 0) with
  accessFlags := 1537
  interfaces := #[]
  cf := some (fileOf pool3 1 #[] #[] 1537 3 #[] #[])
  fields := #[]
  methods := #[]
  instanceTypes := #[]
  staticTypes := #[]
  resolved := Array.replicate 12 none
  statics := none }

def pool4 : Array CpInfo := pool [(2, .class_ 4), (1, u "java/lang/CharSequence"), (42, .class_ 48), (0, u "java/lang/CharSequence$1CodePointIterator"), (10, .class_ 60), (0, u "java/lang/CharSequence$1CharIterator"), (5, .class_ 67), (0, u "java/lang/Object")] 63

/-- java/lang/CharSequence -/
def k4 : Class := { plain "java/lang/CharSequence" (some 0) with
  accessFlags := 1537
  interfaces := #[]
  cf := some (fileOf pool4 2 #[.nestMembers #[47, 59]] #[] 1537 66 #[] #[])
  fields := #[]
  methods := #[]
  instanceTypes := #[]
  staticTypes := #[]
  resolved := Array.replicate 131 none
  statics := none }

def pool5 : Array CpInfo := pool [(1, .class_ 2), (0, u "java/lang/constant/Constable"), (0, .class_ 4), (0, u "java/lang/Object")] 6

/-- java/lang/constant/Constable -/
def k5 : Class := { plain "java/lang/constant/Constable" (some 0) with
  accessFlags := 1537
  interfaces := #[]
  cf := some (fileOf pool5 1 #[] #[] 1537 3 #[] #[])
  fields := #[]
  methods := #[]
  instanceTypes := #[]
  staticTypes := #[]
  resolved := Array.replicate 11 none
  statics := none }

def pool6 : Array CpInfo := pool [(1, .class_ 2), (0, u "java/lang/constant/ConstantDesc"), (0, .class_ 4), (0, u "java/lang/Object")] 32

/-- java/lang/constant/ConstantDesc -/
def k6 : Class := { plain "java/lang/constant/ConstantDesc" (some 0) with
  accessFlags := 1537
  interfaces := #[]
  cf := some (fileOf pool6 1 #[] #[] 1537 3 #[] #[])
  fields := #[]
  methods := #[]
  instanceTypes := #[]
  staticTypes := #[]
  resolved := Array.replicate 37 none
  statics := none }

def pool7 : Array CpInfo := pool [(1, .methodref 2 3), (0, .class_ 4), (0, .nameAndType 5 6), (0, u "java/lang/Object"), (0, u "<init>"), (0, u "()V"), (2, .fieldref 10 11), (0, .class_ 12), (0, .nameAndType 13 14), (0, u "java/lang/String"), (0, u "value"), (0, u "[B"), (0, .fieldref 10 16), (0, .nameAndType 17 18), (0, u "coder"), (0, u "B"), (2, u "hash"), (0, u "I"), (2, u "hashIsZero"), (0, u "Z"), (0, .methodref 10 28), (0, .nameAndType 5 29), (0, u "([CIILjava/lang/Void;)V"), (8, .fieldref 10 39), (0, .nameAndType 40 26), (0, u "COMPACT_STRINGS"), (1, .class_ 44), (1, u "java/lang/StringUTF16"), (0, u "compress"), (1, .methodref 42 48), (0, .nameAndType 49 50), (0, u "coderFromArrayLen"), (0, u "([BI)B"), (56, .class_ 109), (1, u "java/lang/StringLatin1"), (32, u "()Z"), (34, .methodref 42 178), (0, .nameAndType 45 179), (0, u "([CII)[B"), (154, u "()I"), (0, .methodref 10 336), (0, .nameAndType 17 337), (0, u "()B"), (25, u "([BI)C"), (27, u "(II)V"), (35, u "(I)C"), (64, .methodref 10 493), (0, .nameAndType 494 142), (0, u "isLatin1"), (0, .methodref 107 496), (0, .nameAndType 497 363), (0, u "charAt"), (0, .methodref 42 496), (2, u "checkIndex"), (5, u "length"), (67, .class_ 576), (0, u "java/lang/CharSequence"), (22, u "CASE_INSENSITIVE_ORDER"), (0, u "Ljava/util/Comparator;"), (409, u "([C)V"), (42, .fieldref 1054 1055), (0, .class_ 1056), (0, .nameAndType 1057 1058), (0, u "jdk/internal/util/Preconditions"), (0, u "SIOOBE_FORMATTER"), (0, u "Ljava/util/function/BiFunction;"), (0, .methodref 1054 1060), (0, .nameAndType 501 1061), (0, u "(IILjava/util/function/BiFunction;)I"), (39, u "serialPersistentFields"), (0, u "[Ljava/io/ObjectStreamField;"), (0, .class_ 1104), (0, u "java/lang/String$CaseInsensitiveComparator"), (1, .class_ 1107), (0, u "java/io/Serializable"), (0, .class_ 1109), (0, u "java/lang/Comparable"), (0, .class_ 1111), (0, u "java/lang/constant/Constable"), (0, .class_ 1113), (0, u "java/lang/constant/ConstantDesc"), (2, u "serialVersionUID"), (0, u "J"), (3, u "REPL"), (0, u "C"), (2, u "LATIN1"), (1, u "UTF16")] 323

def k7m0 : Method := { name := "<init>", desc := "()V", sig := { parameters := [], returnType := none }, accessFlags := 1, code := none }
def k7c1 : Code := { maxStack := 5, maxLocals := 2, code := jdk_42_method_3_code, exceptionTable := #[], attributes := #[] }
def k7m1 : Method := { name := "<init>", desc := "([C)V", sig := { parameters := [(.array .char)], returnType := none }, accessFlags := 1, code := some k7c1 }
def k7c2 : Code := { maxStack := 2, maxLocals := 1, code := jdk_42_method_54_code, exceptionTable := #[], attributes := #[] }
def k7m2 : Method := { name := "length", desc := "()I", sig := { parameters := [], returnType := some .int }, accessFlags := 1, code := some k7c2 }
def k7c3 : Code := { maxStack := 2, maxLocals := 2, code := jdk_42_method_56_code, exceptionTable := #[], attributes := #[] }
def k7m3 : Method := { name := "charAt", desc := "(I)C", sig := { parameters := [.int], returnType := some .char }, accessFlags := 1, code := some k7c3 }
def k7c4 : Code := { maxStack := 4, maxLocals := 6, code := jdk_42_method_149_code, exceptionTable := #[], attributes := #[] }
def k7m4 : Method := { name := "<init>", desc := "([CIILjava/lang/Void;)V", sig := { parameters := [(.array .char), .int, .int, (.object "java/lang/Void")], returnType := none }, accessFlags := 2, code := some k7c4 }
def k7c5 : Code := { maxStack := 1, maxLocals := 1, code := jdk_42_method_152_code, exceptionTable := #[], attributes := #[] }
def k7m5 : Method := { name := "coder", desc := "()B", sig := { parameters := [], returnType := some .byte }, accessFlags := 0, code := some k7c5 }
def k7c6 : Code := { maxStack := 1, maxLocals := 1, code := jdk_42_method_154_code, exceptionTable := #[], attributes := #[] }
def k7m6 : Method := { name := "isLatin1", desc := "()Z", sig := { parameters := [], returnType := some .boolean }, accessFlags := 0, code := some k7c6 }
def k7c7 : Code := { maxStack := 3, maxLocals := 2, code := jdk_42_method_155_code, exceptionTable := #[], attributes := #[] }
def k7m7 : Method := { name := "checkIndex", desc := "(II)V", sig := { parameters := [.int, .int], returnType := none }, accessFlags := 8, code := some k7c7 }
/-- java/lang/String -/
def k7 : Class := { plain "java/lang/String" (some 0) with
  accessFlags := 49
  interfaces := #[2, 3, 4, 5, 6]
  cf := some (fileOf pool7 10 #[.nestMembers #[1103]] #[{ accessFlags := 1, nameIndex := 5, descriptorIndex := 6, attributes := #[] }, { accessFlags := 1, nameIndex := 5, descriptorIndex := 1010, attributes := #[] }, { accessFlags := 1, nameIndex := 507, descriptorIndex := 334, attributes := #[] }, { accessFlags := 1, nameIndex := 497, descriptorIndex := 427, attributes := #[] }, { accessFlags := 2, nameIndex := 5, descriptorIndex := 29, attributes := #[] }, { accessFlags := 0, nameIndex := 17, descriptorIndex := 337, attributes := #[] }, { accessFlags := 0, nameIndex := 494, descriptorIndex := 142, attributes := #[] }, { accessFlags := 8, nameIndex := 501, descriptorIndex := 391, attributes := #[] }] 49 2 #[1106, 1108, 575, 1110, 1112] #[{ accessFlags := 18, nameIndex := 13, descriptorIndex := 14, attributes := #[] }, { accessFlags := 18, nameIndex := 17, descriptorIndex := 18, attributes := #[] }, { accessFlags := 2, nameIndex := 21, descriptorIndex := 22, attributes := #[] }, { accessFlags := 2, nameIndex := 25, descriptorIndex := 26, attributes := #[] }, { accessFlags := 26, nameIndex := 1116, descriptorIndex := 1117, attributes := #[] }, { accessFlags := 24, nameIndex := 40, descriptorIndex := 26, attributes := #[] }, { accessFlags := 26, nameIndex := 1101, descriptorIndex := 1102, attributes := #[] }, { accessFlags := 26, nameIndex := 1121, descriptorIndex := 1122, attributes := #[] }, { accessFlags := 25, nameIndex := 599, descriptorIndex := 600, attributes := #[] }, { accessFlags := 24, nameIndex := 1125, descriptorIndex := 18, attributes := #[] }, { accessFlags := 24, nameIndex := 1127, descriptorIndex := 18, attributes := #[] }])
  fields := #[{ name := "value", type := (.array .byte), accessFlags := 18, slot := 0, constantValue := 0 }, { name := "coder", type := .byte, accessFlags := 18, slot := 1, constantValue := 0 }, { name := "hash", type := .int, accessFlags := 2, slot := 2, constantValue := 0 }, { name := "hashIsZero", type := .boolean, accessFlags := 2, slot := 3, constantValue := 0 }, { name := "serialVersionUID", type := .long, accessFlags := 26, slot := 0, constantValue := 0 }, { name := "COMPACT_STRINGS", type := .boolean, accessFlags := 24, slot := 1, constantValue := 0 }, { name := "serialPersistentFields", type := (.array (.object "java/io/ObjectStreamField")), accessFlags := 26, slot := 2, constantValue := 0 }, { name := "REPL", type := .char, accessFlags := 26, slot := 3, constantValue := 0 }, { name := "CASE_INSENSITIVE_ORDER", type := (.object "java/util/Comparator"), accessFlags := 25, slot := 4, constantValue := 0 }, { name := "LATIN1", type := .byte, accessFlags := 24, slot := 5, constantValue := 0 }, { name := "UTF16", type := .byte, accessFlags := 24, slot := 6, constantValue := 0 }]
  methods := #[k7m0, k7m1, k7m2, k7m3, k7m4, k7m5, k7m6, k7m7]
  instanceTypes := #[(.array .byte), .byte, .int, .boolean]
  staticTypes := #[.long, .boolean, (.array (.object "java/io/ObjectStreamField")), .char, (.object "java/util/Comparator"), .byte, .byte]
  resolved := Array.replicate 1451 none
  statics := some 0 }

def pool8 : Array CpInfo := pool [(3, .class_ 4), (0, u "java/lang/String"), (1, .class_ 8), (1, u "java/lang/Object"), (0, u "<init>"), (0, u "()V"), (0, .methodref 12 13), (0, .class_ 14), (0, .nameAndType 15 16), (0, u "java/lang/StringUTF16"), (0, u "newBytesLength"), (0, u "(I)I"), (3, .integer 1073741823), (23, .fieldref 12 45), (0, .nameAndType 46 47), (0, u "$assertionsDisabled"), (0, u "Z"), (0, .methodref 12 49), (0, .nameAndType 50 51), (0, u "length"), (0, u "([B)I"), (7, .fieldref 12 60), (0, .nameAndType 61 62), (0, u "HI_BYTE_SHIFT"), (0, u "I"), (0, .fieldref 12 64), (0, .nameAndType 65 62), (0, u "LO_BYTE_SHIFT"), (1, .methodref 12 68), (0, .nameAndType 69 70), (0, u "checkIndex"), (0, u "(I[B)V"), (0, .methodref 12 72), (0, .nameAndType 73 74), (0, u "getChar"), (0, u "([BI)C"), (32, .methodref 12 108), (0, .nameAndType 109 110), (0, u "newBytesFor"), (0, u "(I)[B"), (0, .methodref 12 112), (0, .nameAndType 113 114), (0, u "putChar"), (0, u "([BII)V"), (0, .methodref 12 116), (0, .nameAndType 117 118), (0, u "compress"), (0, u "([CI[BII)I"), (0, .methodref 12 120), (0, .nameAndType 121 122), (0, u "toBytes"), (0, u "([CII)[B"), (138, u "coderFromArrayLen"), (0, u "([BI)B"), (106, .class_ 371), (1, u "java/lang/StringUTF16$LinesSpliterator"), (20, u "charAt"), (21, .methodref 3 415), (0, .nameAndType 69 416), (0, u "(II)V"), (13, u "MAX_LENGTH"), (196, .class_ 628), (0, u "java/lang/StringUTF16$CodePointsSpliterator"), (0, .class_ 630), (0, u "java/lang/StringUTF16$CharsSpliterator")] 4

def k8m0 : Method := { name := "<init>", desc := "()V", sig := { parameters := [], returnType := none }, accessFlags := 0, code := none }
def k8c1 : Code := { maxStack := 1, maxLocals := 1, code := jdk_52_method_2_code, exceptionTable := #[], attributes := #[] }
def k8m1 : Method := { name := "newBytesFor", desc := "(I)[B", sig := { parameters := [.int], returnType := some (.array .byte) }, accessFlags := 9, code := some k8c1 }
def k8c2 : Code := { maxStack := 4, maxLocals := 1, code := jdk_52_method_3_code, exceptionTable := #[], attributes := #[] }
def k8m2 : Method := { name := "newBytesLength", desc := "(I)I", sig := { parameters := [.int], returnType := some .int }, accessFlags := 9, code := some k8c2 }
def k8c3 : Code := { maxStack := 4, maxLocals := 3, code := jdk_52_method_4_code, exceptionTable := #[], attributes := #[] }
def k8m3 : Method := { name := "putChar", desc := "([BII)V", sig := { parameters := [(.array .byte), .int, .int], returnType := none }, accessFlags := 8, code := some k8c3 }
def k8c4 : Code := { maxStack := 3, maxLocals := 2, code := jdk_52_method_5_code, exceptionTable := #[], attributes := #[] }
def k8m4 : Method := { name := "getChar", desc := "([BI)C", sig := { parameters := [(.array .byte), .int], returnType := some .char }, accessFlags := 8, code := some k8c4 }
def k8c5 : Code := { maxStack := 2, maxLocals := 1, code := jdk_52_method_6_code, exceptionTable := #[], attributes := #[] }
def k8m5 : Method := { name := "length", desc := "([B)I", sig := { parameters := [(.array .byte)], returnType := some .int }, accessFlags := 9, code := some k8c5 }
def k8c6 : Code := { maxStack := 4, maxLocals := 5, code := jdk_52_method_14_code, exceptionTable := #[], attributes := #[] }
def k8m6 : Method := { name := "toBytes", desc := "([CII)[B", sig := { parameters := [(.array .char), .int, .int], returnType := some (.array .byte) }, accessFlags := 9, code := some k8c6 }
def k8c7 : Code := { maxStack := 2, maxLocals := 2, code := jdk_52_method_15_code, exceptionTable := #[], attributes := #[] }
def k8m7 : Method := { name := "coderFromArrayLen", desc := "([BI)B", sig := { parameters := [(.array .byte), .int], returnType := some .byte }, accessFlags := 8, code := some k8c7 }
def k8c8 : Code := { maxStack := 5, maxLocals := 6, code := jdk_52_method_16_code, exceptionTable := #[], attributes := #[] }
def k8m8 : Method := { name := "compress", desc := "([CII)[B", sig := { parameters := [(.array .char), .int, .int], returnType := some (.array .byte) }, accessFlags := 9, code := some k8c8 }
def k8c9 : Code := { maxStack := 3, maxLocals := 7, code := jdk_52_method_21_code, exceptionTable := #[], attributes := #[] }
def k8m9 : Method := { name := "compress", desc := "([CI[BII)I", sig := { parameters := [(.array .char), .int, (.array .byte), .int, .int], returnType := some .int }, accessFlags := 9, code := some k8c9 }
def k8c10 : Code := { maxStack := 2, maxLocals := 2, code := jdk_52_method_83_code, exceptionTable := #[], attributes := #[] }
def k8m10 : Method := { name := "charAt", desc := "([BI)C", sig := { parameters := [(.array .byte), .int], returnType := some .char }, accessFlags := 9, code := some k8c10 }
def k8c11 : Code := { maxStack := 2, maxLocals := 2, code := jdk_52_method_91_code, exceptionTable := #[], attributes := #[] }
def k8m11 : Method := { name := "checkIndex", desc := "(I[B)V", sig := { parameters := [.int, (.array .byte)], returnType := none }, accessFlags := 9, code := some k8c11 }
/-- java/lang/StringUTF16 -/
def k8 : Class := { plain "java/lang/StringUTF16" (some 0) with
  accessFlags := 48
  interfaces := #[]
  cf := some (fileOf pool8 12 #[.nestMembers #[627, 629, 369]] #[{ accessFlags := 0, nameIndex := 9, descriptorIndex := 10, attributes := #[] }, { accessFlags := 9, nameIndex := 109, descriptorIndex := 110, attributes := #[] }, { accessFlags := 9, nameIndex := 15, descriptorIndex := 16, attributes := #[] }, { accessFlags := 8, nameIndex := 113, descriptorIndex := 114, attributes := #[] }, { accessFlags := 8, nameIndex := 73, descriptorIndex := 74, attributes := #[] }, { accessFlags := 9, nameIndex := 50, descriptorIndex := 51, attributes := #[] }, { accessFlags := 9, nameIndex := 121, descriptorIndex := 122, attributes := #[] }, { accessFlags := 8, nameIndex := 261, descriptorIndex := 262, attributes := #[] }, { accessFlags := 9, nameIndex := 117, descriptorIndex := 122, attributes := #[] }, { accessFlags := 9, nameIndex := 117, descriptorIndex := 118, attributes := #[] }, { accessFlags := 9, nameIndex := 392, descriptorIndex := 74, attributes := #[] }, { accessFlags := 9, nameIndex := 69, descriptorIndex := 70, attributes := #[] }] 48 6 #[] #[{ accessFlags := 26, nameIndex := 61, descriptorIndex := 62, attributes := #[] }, { accessFlags := 26, nameIndex := 65, descriptorIndex := 62, attributes := #[] }, { accessFlags := 24, nameIndex := 430, descriptorIndex := 62, attributes := #[] }, { accessFlags := 4120, nameIndex := 46, descriptorIndex := 47, attributes := #[] }])
  fields := #[{ name := "HI_BYTE_SHIFT", type := .int, accessFlags := 26, slot := 0, constantValue := 0 }, { name := "LO_BYTE_SHIFT", type := .int, accessFlags := 26, slot := 1, constantValue := 0 }, { name := "MAX_LENGTH", type := .int, accessFlags := 24, slot := 2, constantValue := 0 }, { name := "$assertionsDisabled", type := .boolean, accessFlags := 4120, slot := 3, constantValue := 0 }]
  methods := #[k8m0, k8m1, k8m2, k8m3, k8m4, k8m5, k8m6, k8m7, k8m8, k8m9, k8m10, k8m11]
  instanceTypes := #[]
  staticTypes := #[.int, .int, .int, .boolean]
  resolved := Array.replicate 635 none
  statics := some 1 }

def pool9 : Array CpInfo := pool [(2, .class_ 4), (1, u "java/lang/Object"), (0, u "<init>"), (0, u "()V"), (0, .methodref 8 9), (0, .class_ 10), (0, .nameAndType 11 12), (0, u "java/lang/String"), (0, u "length"), (0, u "()I"), (0, .methodref 8 14), (0, .nameAndType 15 16), (0, u "charAt"), (0, u "(I)C"), (0, .methodref 18 19), (0, .class_ 20), (0, .nameAndType 21 22), (0, u "com/example/fencerow/fencerow/model/Digits"), (0, u "all"), (0, u "(Ljava/lang/String;II)Z"), (0, u "RADIX"), (0, u "I"), (5, u "value"), (0, u "(Ljava/lang/String;II)I")] 2

def k9m0 : Method := { name := "<init>", desc := "()V", sig := { parameters := [], returnType := none }, accessFlags := 2, code := none }
def k9c1 : Code := { maxStack := 2, maxLocals := 5, code := prog_30_method_2_code, exceptionTable := #[], attributes := #[] }
def k9m1 : Method := { name := "all", desc := "(Ljava/lang/String;II)Z", sig := { parameters := [(.object "java/lang/String"), .int, .int], returnType := some .boolean }, accessFlags := 9, code := some k9c1 }
def k9c2 : Code := { maxStack := 3, maxLocals := 5, code := prog_30_method_3_code, exceptionTable := #[], attributes := #[] }
def k9m2 : Method := { name := "value", desc := "(Ljava/lang/String;II)I", sig := { parameters := [(.object "java/lang/String"), .int, .int], returnType := some .int }, accessFlags := 9, code := some k9c2 }
/-- com/example/fencerow/fencerow/model/Digits -/
def k9 : Class := { plain "com/example/fencerow/fencerow/model/Digits" (some 0) with
  accessFlags := 49
  interfaces := #[]
  cf := some (fileOf pool9 18 #[] #[{ accessFlags := 2, nameIndex := 5, descriptorIndex := 6, attributes := #[] }, { accessFlags := 9, nameIndex := 21, descriptorIndex := 22, attributes := #[] }, { accessFlags := 9, nameIndex := 30, descriptorIndex := 31, attributes := #[] }] 49 2 #[] #[{ accessFlags := 26, nameIndex := 23, descriptorIndex := 24, attributes := #[] }])
  fields := #[{ name := "RADIX", type := .int, accessFlags := 26, slot := 0, constantValue := 0 }]
  methods := #[k9m0, k9m1, k9m2]
  instanceTypes := #[]
  staticTypes := #[.int]
  resolved := Array.replicate 34 none
  statics := none }

def pool10 : Array CpInfo := pool [(2, .class_ 4), (1, u "java/lang/Object"), (0, u "<init>"), (0, u "()V"), (17, .class_ 26), (1, u "jdk/internal/util/Preconditions"), (6, u "checkIndex"), (21, .class_ 56), (0, u "jdk/internal/util/Preconditions$4"), (57, .class_ 115), (0, u "jdk/internal/util/Preconditions$1"), (7, u "SIOOBE_FORMATTER"), (0, u "Ljava/util/function/BiFunction;"), (0, .class_ 126), (0, u "jdk/internal/util/Preconditions$2"), (3, u "AIOOBE_FORMATTER"), (0, .class_ 132), (0, u "jdk/internal/util/Preconditions$3"), (3, u "IOOBE_FORMATTER"), (41, u "(IILjava/util/function/BiFunction;)I")] 15

def k10m0 : Method := { name := "<init>", desc := "()V", sig := { parameters := [], returnType := none }, accessFlags := 1, code := none }
def k10c1 : Code := { maxStack := 3, maxLocals := 3, code := jdk_41_method_11_code, exceptionTable := #[], attributes := #[] }
def k10m1 : Method := { name := "checkIndex", desc := "(IILjava/util/function/BiFunction;)I", sig := { parameters := [.int, .int, (.object "java/util/function/BiFunction")], returnType := some .int }, accessFlags := 9, code := some k10c1 }
/-- jdk/internal/util/Preconditions -/
def k10 : Class := { plain "jdk/internal/util/Preconditions" (some 0) with
  accessFlags := 33
  interfaces := #[]
  cf := some (fileOf pool10 24 #[.nestMembers #[55, 131, 125, 114]] #[{ accessFlags := 1, nameIndex := 5, descriptorIndex := 6, attributes := #[] }, { accessFlags := 9, nameIndex := 33, descriptorIndex := 178, attributes := #[] }] 33 2 #[] #[{ accessFlags := 25, nameIndex := 123, descriptorIndex := 124, attributes := #[] }, { accessFlags := 25, nameIndex := 130, descriptorIndex := 124, attributes := #[] }, { accessFlags := 25, nameIndex := 136, descriptorIndex := 124, attributes := #[] }])
  fields := #[{ name := "SIOOBE_FORMATTER", type := (.object "java/util/function/BiFunction"), accessFlags := 25, slot := 0, constantValue := 0 }, { name := "AIOOBE_FORMATTER", type := (.object "java/util/function/BiFunction"), accessFlags := 25, slot := 1, constantValue := 0 }, { name := "IOOBE_FORMATTER", type := (.object "java/util/function/BiFunction"), accessFlags := 25, slot := 2, constantValue := 0 }]
  methods := #[k10m0, k10m1]
  instanceTypes := #[]
  staticTypes := #[(.object "java/util/function/BiFunction"), (.object "java/util/function/BiFunction"), (.object "java/util/function/BiFunction")]
  resolved := Array.replicate 194 none
  statics := some 2 }

def pool11 : Array CpInfo := pool [(1, .class_ 2), (0, u "java/lang/String"), (1, .class_ 6), (1, u "java/lang/Object"), (0, u "<init>"), (0, u "()V"), (0, .methodref 1 10), (0, .nameAndType 11 12), (0, u "checkIndex"), (0, u "(II)V"), (1, .class_ 16), (1, u "java/lang/StringLatin1"), (36, u "([BI)C"), (67, u "$assertionsDisabled"), (0, u "Z"), (98, .class_ 223), (1, u "java/lang/StringLatin1$LinesSpliterator"), (28, u "charAt"), (137, .class_ 391), (0, u "java/lang/StringLatin1$CharsSpliterator")] 3

def k11m0 : Method := { name := "<init>", desc := "()V", sig := { parameters := [], returnType := none }, accessFlags := 0, code := none }
def k11c1 : Code := { maxStack := 2, maxLocals := 2, code := jdk_43_method_2_code, exceptionTable := #[], attributes := #[] }
def k11m1 : Method := { name := "charAt", desc := "([BI)C", sig := { parameters := [(.array .byte), .int], returnType := some .char }, accessFlags := 9, code := some k11c1 }
/-- java/lang/StringLatin1 -/
def k11 : Class := { plain "java/lang/StringLatin1" (some 0) with
  accessFlags := 48
  interfaces := #[]
  cf := some (fileOf pool11 14 #[.nestMembers #[390, 221]] #[{ accessFlags := 0, nameIndex := 7, descriptorIndex := 8, attributes := #[] }, { accessFlags := 9, nameIndex := 252, descriptorIndex := 53, attributes := #[] }] 48 4 #[] #[{ accessFlags := 4120, nameIndex := 121, descriptorIndex := 122, attributes := #[] }])
  fields := #[{ name := "$assertionsDisabled", type := .boolean, accessFlags := 4120, slot := 0, constantValue := 0 }]
  methods := #[k11m0, k11m1]
  instanceTypes := #[]
  staticTypes := #[.boolean]
  resolved := Array.replicate 395 none
  statics := none }

def pool12 : Array CpInfo := pool [(9, u "<init>"), (6, .class_ 18), (1, u "java/lang/Object"), (0, u "()V"), (1, .class_ 23), (1, u "jdk/internal/util/ArraysSupport"), (0, u "LOG2_ARRAY_LONG_INDEX_SCALE"), (0, u "I"), (2, u "U"), (0, u "Ljdk/internal/misc/Unsafe;"), (8, u "BIG_ENDIAN"), (0, u "Z"), (8, u "LOG2_BYTE_BIT_SIZE"), (4, u "LOG2_ARRAY_INT_INDEX_SCALE"), (54, u "JLA"), (0, u "Ljdk/internal/access/JavaLangAccess;"), (11, u "LOG2_ARRAY_BOOLEAN_INDEX_SCALE"), (9, u "LOG2_ARRAY_BYTE_INDEX_SCALE"), (5, u "LOG2_ARRAY_CHAR_INDEX_SCALE"), (5, u "LOG2_ARRAY_SHORT_INDEX_SCALE"), (18, u "LOG2_ARRAY_FLOAT_INDEX_SCALE"), (24, u "LOG2_ARRAY_DOUBLE_INDEX_SCALE"), (89, u "T_BOOLEAN"), (2, u "T_CHAR"), (1, u "T_FLOAT"), (1, u "T_DOUBLE"), (1, u "T_BYTE"), (1, u "T_SHORT"), (1, u "T_INT"), (1, u "T_LONG"), (1, u "SOFT_MAX_ARRAY_LENGTH")] 83

def k12m0 : Method := { name := "<init>", desc := "()V", sig := { parameters := [], returnType := none }, accessFlags := 2, code := none }
/-- jdk/internal/util/ArraysSupport -/
def k12 : Class := { plain "jdk/internal/util/ArraysSupport" (some 0) with
  accessFlags := 33
  interfaces := #[]
  cf := some (fileOf pool12 21 #[] #[{ accessFlags := 2, nameIndex := 9, descriptorIndex := 19, attributes := #[] }] 33 16 #[] #[{ accessFlags := 24, nameIndex := 28, descriptorIndex := 29, attributes := #[] }, { accessFlags := 26, nameIndex := 38, descriptorIndex := 39, attributes := #[] }, { accessFlags := 25, nameIndex := 121, descriptorIndex := 25, attributes := #[] }, { accessFlags := 25, nameIndex := 131, descriptorIndex := 25, attributes := #[] }, { accessFlags := 25, nameIndex := 137, descriptorIndex := 25, attributes := #[] }, { accessFlags := 25, nameIndex := 143, descriptorIndex := 25, attributes := #[] }, { accessFlags := 25, nameIndex := 53, descriptorIndex := 25, attributes := #[] }, { accessFlags := 25, nameIndex := 24, descriptorIndex := 25, attributes := #[] }, { accessFlags := 25, nameIndex := 162, descriptorIndex := 25, attributes := #[] }, { accessFlags := 25, nameIndex := 187, descriptorIndex := 25, attributes := #[] }, { accessFlags := 26, nameIndex := 48, descriptorIndex := 25, attributes := #[] }, { accessFlags := 25, nameIndex := 277, descriptorIndex := 25, attributes := #[] }, { accessFlags := 25, nameIndex := 280, descriptorIndex := 25, attributes := #[] }, { accessFlags := 25, nameIndex := 282, descriptorIndex := 25, attributes := #[] }, { accessFlags := 25, nameIndex := 284, descriptorIndex := 25, attributes := #[] }, { accessFlags := 25, nameIndex := 286, descriptorIndex := 25, attributes := #[] }, { accessFlags := 25, nameIndex := 288, descriptorIndex := 25, attributes := #[] }, { accessFlags := 25, nameIndex := 290, descriptorIndex := 25, attributes := #[] }, { accessFlags := 25, nameIndex := 292, descriptorIndex := 25, attributes := #[] }, { accessFlags := 26, nameIndex := 108, descriptorIndex := 109, attributes := #[] }, { accessFlags := 25, nameIndex := 294, descriptorIndex := 25, attributes := #[] }])
  fields := #[{ name := "U", type := (.object "jdk/internal/misc/Unsafe"), accessFlags := 24, slot := 0, constantValue := 0 }, { name := "BIG_ENDIAN", type := .boolean, accessFlags := 26, slot := 1, constantValue := 0 }, { name := "LOG2_ARRAY_BOOLEAN_INDEX_SCALE", type := .int, accessFlags := 25, slot := 2, constantValue := 0 }, { name := "LOG2_ARRAY_BYTE_INDEX_SCALE", type := .int, accessFlags := 25, slot := 3, constantValue := 0 }, { name := "LOG2_ARRAY_CHAR_INDEX_SCALE", type := .int, accessFlags := 25, slot := 4, constantValue := 0 }, { name := "LOG2_ARRAY_SHORT_INDEX_SCALE", type := .int, accessFlags := 25, slot := 5, constantValue := 0 }, { name := "LOG2_ARRAY_INT_INDEX_SCALE", type := .int, accessFlags := 25, slot := 6, constantValue := 0 }, { name := "LOG2_ARRAY_LONG_INDEX_SCALE", type := .int, accessFlags := 25, slot := 7, constantValue := 0 }, { name := "LOG2_ARRAY_FLOAT_INDEX_SCALE", type := .int, accessFlags := 25, slot := 8, constantValue := 0 }, { name := "LOG2_ARRAY_DOUBLE_INDEX_SCALE", type := .int, accessFlags := 25, slot := 9, constantValue := 0 }, { name := "LOG2_BYTE_BIT_SIZE", type := .int, accessFlags := 26, slot := 10, constantValue := 0 }, { name := "T_BOOLEAN", type := .int, accessFlags := 25, slot := 11, constantValue := 0 }, { name := "T_CHAR", type := .int, accessFlags := 25, slot := 12, constantValue := 0 }, { name := "T_FLOAT", type := .int, accessFlags := 25, slot := 13, constantValue := 0 }, { name := "T_DOUBLE", type := .int, accessFlags := 25, slot := 14, constantValue := 0 }, { name := "T_BYTE", type := .int, accessFlags := 25, slot := 15, constantValue := 0 }, { name := "T_SHORT", type := .int, accessFlags := 25, slot := 16, constantValue := 0 }, { name := "T_INT", type := .int, accessFlags := 25, slot := 17, constantValue := 0 }, { name := "T_LONG", type := .int, accessFlags := 25, slot := 18, constantValue := 0 }, { name := "JLA", type := (.object "jdk/internal/access/JavaLangAccess"), accessFlags := 26, slot := 19, constantValue := 0 }, { name := "SOFT_MAX_ARRAY_LENGTH", type := .int, accessFlags := 25, slot := 20, constantValue := 0 }]
  methods := #[k12m0]
  instanceTypes := #[]
  staticTypes := #[(.object "jdk/internal/misc/Unsafe"), .boolean, .int, .int, .int, .int, .int, .int, .int, .int, .int, .int, .int, .int, .int, .int, .int, .int, .int, (.object "jdk/internal/access/JavaLangAccess"), .int]
  resolved := Array.replicate 378 none
  statics := none }

def pool13 : Array CpInfo := pool [(1, u "java/lang/Cloneable"), (0, .class_ 1), (0, u "java/lang/Object"), (0, .class_ 3)] 3

/-- java/lang/Cloneable -/
def k13 : Class := { plain "java/lang/Cloneable" (some 0) with
  accessFlags := 1537
  interfaces := #[]
  cf := some (fileOf pool13 2 #[] #[] 1537 4 #[] #[])
  fields := #[]
  methods := #[]
  instanceTypes := #[]
  staticTypes := #[]
  resolved := Array.replicate 8 none
  statics := none }

/-- the primitive byte -/
def k14 : Class := { plain "byte" none with kind := .primitive 'B', accessFlags := 0x411 }
/-- [B -/
def k15 : Class := { plain "[B" (some 0) with kind := .array 14 .byte, interfaces := #[13, 2], accessFlags := 1041 }

/-- the primitive char -/
def k16 : Class := { plain "char" none with kind := .primitive 'C', accessFlags := 0x411 }
/-- [C -/
def k17 : Class := { plain "[C" (some 0) with kind := .array 16 .char, interfaces := #[13, 2], accessFlags := 1041 }

/-- the primitive int -/
def k18 : Class := { plain "int" none with kind := .primitive 'I', accessFlags := 0x411 }
/-- [I -/
def k19 : Class := { plain "[I" (some 0) with kind := .array 18 .int, interfaces := #[13, 2], accessFlags := 1041 }

/-- the primitive long -/
def k20 : Class := { plain "long" none with kind := .primitive 'J', accessFlags := 0x411 }
/-- [J -/
def k21 : Class := { plain "[J" (some 0) with kind := .array 20 .long, interfaces := #[13, 2], accessFlags := 1041 }

def heap : Heap := #[{ cls := 7, slots := #[.long 0, .int 1, .null, .int 0, .null, .int 0, .int 0], vm := .statics 7 },
  { cls := 8, slots := #[.int 0, .int 8, .int 0, .int 1], vm := .statics 8 },
  { cls := 10, slots := #[.null, .null, .null], vm := .statics 10 }]
def classes : Array Class := #[k0, k1, k2, k3, k4, k5, k6, k7, k8, k9, k10, k11, k12, k13, k14, k15, k16, k17, k18, k19, k20, k21]
def interned : List (Array UInt16 × Addr) := []
def slotsUsed : Nat := 14
def theMethod : MethodId := ⟨1, 3⟩
def args0 : Array Value := #[.long 5, .long 6, .long 7, .int 8, .int 9, .int 10]
def aboutOver (below : List Frame) : State where
  vm := { classes := classes, interned := interned.toArray }
  heap := heap
  slotsUsed := slotsUsed
  threads := #[{ frames := .invoking theMethod args0 :: below }]
def below0 : List Frame := [.native { method := ⟨0, 0⟩, args := #[] }]
def about1 : State := aboutOver below0
def p0 : Program := .bare "" "" ""
def e0 : Env := launch0.env 0 0 0
theorem w_frames : about1.frames = Frame.invoking theMethod args0 :: below0 := rfl
set_option maxRecDepth 65536 in
theorem w_args : argsFit about1.vm theMethod args0 = true := by decide +kernel
set_option maxRecDepth 65536 in
theorem w_heap : heapFits about1 = true := by decide +kernel
set_option maxRecDepth 65536 in
theorem w_runnable : about1.curStatus? = some .runnable := by decide +kernel
set_option maxRecDepth 65536 in
theorem w_alone : about1.alone = true := by decide +kernel
set_option maxRecDepth 65536 in
theorem w_named : about1.methodNamed? x = some theMethod := by decide +kernel
set_option maxRecDepth 65536 in
theorem w_hears : about1.hears theMethod below0 = true := by decide +kernel
set_option maxRecDepth 65536 in
theorem w_ripe : about1.ripe theMethod args0 below0 = true := by decide +kernel
theorem w_running : about1.status = .running := rfl
set_option maxRecDepth 65536 in
theorem w_room : about1.hasRoom e0.platform room_1 = true :=
  launch0.hasRoom_least _ room_1 (by decide +kernel) (by decide +kernel) (by decide +kernel) (by decide +kernel) (by decide +kernel) (by decide +kernel)
theorem allAtoms_all (ts : List Jvm.Cond) (a : Array Jvm.Value) (st : Jvm.State) : (allAtoms ts).before a st = ts.all (fun c => c.before a st) := by
  induction ts with
  | nil => rfl
  | cons c t ih =>
    show (Jvm.Cond.and c (allAtoms t)).before a st = _
    rw [Jvm.Cond.before_and, ih, List.all_cons]
def words1 : List Jvm.Cond := Jvm.Cond.code x code maxLocals ret :: tables_1
/-- a 'code' word, met by the world's own term for the bytes: nothing is compared byte by byte -/
theorem code_word {y : MethodName} {bytes : ByteArray} {mx : Nat} {rt : Option FieldType} {a : Array Value} {s : State} {m : MethodId} {meth : Method} {c : Code} (h1 : s.methodNamed? y = some m) (h2 : s.vm.method? m = some meth) (h3 : meth.code = some c) (h4 : c.code = bytes)
    (h5 : (c.maxLocals == mx && c.exceptionTable.isEmpty && decide (c.maxStack ≤ mostOperands) && decide (meth.sig.returnType = rt) && !meth.locks && decide (parseMethodDescriptor y.desc = some meth.sig)) = true) : (Jvm.Cond.code y bytes mx rt).before a s = true := by
  simp only [Bool.and_eq_true, beq_iff_eq, Bool.not_eq_true', decide_eq_true_eq] at h5
  obtain ⟨⟨⟨⟨⟨g1, g2⟩, g3⟩, g4⟩, g5⟩, g6⟩ := h5
  simp [Cond.before, Cond.holds, Cond.value, h1, h2, h3, h4, g1, g2, g3, g4, g5, g6]
def isCode : Jvm.Cond → Bool
  | .code _ _ _ _ => true
  | _ => false
theorem all_split {L : List Jvm.Cond} {P : Jvm.Cond → Bool} (h1 : L.all (fun c => isCode c || P c) = true) (h2 : ∀ c ∈ L.filter isCode, P c = true) : L.all P = true := by
  refine List.all_eq_true.mpr fun c hc => ?_
  have h := List.all_eq_true.mp h1 c hc
  rcases Bool.eq_false_or_eq_true (isCode c) with hi | hi
  · exact h2 c (List.mem_filter.mpr ⟨hc, hi⟩)
  · simpa [hi] using h
set_option maxRecDepth 65536 in
theorem w_c0 : (Jvm.Cond.code x code maxLocals ret).before args0 about1 = true := code_word (m := ⟨1, 3⟩) (meth := k1m3) (c := k1c3) (by decide +kernel) rfl rfl rfl (by decide +kernel)
set_option maxRecDepth 65536 in
theorem w_c1 : (Jvm.Cond.code ({ cls := "com/example/fencerow/fencerow/model/DigitsValuePinLaw", name := "ch", desc := "(JIII)C" } : Jvm.MethodName) method_2_code (7 : Nat) (Option.some Jvm.ClassFile.FieldType.char)).before args0 about1 = true := code_word (m := ⟨1, 1⟩) (meth := k1m1) (c := k1c1) (by decide +kernel) rfl rfl rfl (by decide +kernel)
set_option maxRecDepth 65536 in
theorem w_c2 : (Jvm.Cond.code ({ cls := "java/lang/String", name := "<init>", desc := "([C)V" } : Jvm.MethodName) jdk_42_method_3_code (2 : Nat) (Option.none : Option Jvm.ClassFile.FieldType)).before args0 about1 = true := code_word (m := ⟨7, 1⟩) (meth := k7m1) (c := k7c1) (by decide +kernel) rfl rfl rfl (by decide +kernel)
set_option maxRecDepth 65536 in
theorem w_c3 : (Jvm.Cond.code ({ cls := "java/lang/String", name := "<init>", desc := "([CIILjava/lang/Void;)V" } : Jvm.MethodName) jdk_42_method_149_code (6 : Nat) (Option.none : Option Jvm.ClassFile.FieldType)).before args0 about1 = true := code_word (m := ⟨7, 4⟩) (meth := k7m4) (c := k7c4) (by decide +kernel) rfl rfl rfl (by decide +kernel)
set_option maxRecDepth 65536 in
theorem w_c4 : (Jvm.Cond.code ({ cls := "java/lang/Object", name := "<init>", desc := "()V" } : Jvm.MethodName) object_method_1_code (1 : Nat) (Option.none : Option Jvm.ClassFile.FieldType)).before args0 about1 = true := code_word (m := ⟨0, 0⟩) (meth := k0m0) (c := k0c0) (by decide +kernel) rfl rfl rfl (by decide +kernel)
set_option maxRecDepth 65536 in
theorem w_c5 : (Jvm.Cond.code ({ cls := "java/lang/StringUTF16", name := "compress", desc := "([CII)[B" } : Jvm.MethodName) jdk_52_method_16_code (6 : Nat) (Option.some (Jvm.ClassFile.FieldType.array Jvm.ClassFile.FieldType.byte))).before args0 about1 = true := code_word (m := ⟨8, 8⟩) (meth := k8m8) (c := k8c8) (by decide +kernel) rfl rfl rfl (by decide +kernel)
set_option maxRecDepth 65536 in
theorem w_c6 : (Jvm.Cond.code ({ cls := "java/lang/StringUTF16", name := "compress", desc := "([CI[BII)I" } : Jvm.MethodName) jdk_52_method_21_code (7 : Nat) (Option.some Jvm.ClassFile.FieldType.int)).before args0 about1 = true := code_word (m := ⟨8, 9⟩) (meth := k8m9) (c := k8c9) (by decide +kernel) rfl rfl rfl (by decide +kernel)
set_option maxRecDepth 65536 in
theorem w_c7 : (Jvm.Cond.code ({ cls := "java/lang/StringUTF16", name := "toBytes", desc := "([CII)[B" } : Jvm.MethodName) jdk_52_method_14_code (5 : Nat) (Option.some (Jvm.ClassFile.FieldType.array Jvm.ClassFile.FieldType.byte))).before args0 about1 = true := code_word (m := ⟨8, 6⟩) (meth := k8m6) (c := k8c6) (by decide +kernel) rfl rfl rfl (by decide +kernel)
set_option maxRecDepth 65536 in
theorem w_c8 : (Jvm.Cond.code ({ cls := "java/lang/StringUTF16", name := "newBytesFor", desc := "(I)[B" } : Jvm.MethodName) jdk_52_method_2_code (1 : Nat) (Option.some (Jvm.ClassFile.FieldType.array Jvm.ClassFile.FieldType.byte))).before args0 about1 = true := code_word (m := ⟨8, 1⟩) (meth := k8m1) (c := k8c1) (by decide +kernel) rfl rfl rfl (by decide +kernel)
set_option maxRecDepth 65536 in
theorem w_c9 : (Jvm.Cond.code ({ cls := "java/lang/StringUTF16", name := "newBytesLength", desc := "(I)I" } : Jvm.MethodName) jdk_52_method_3_code (1 : Nat) (Option.some Jvm.ClassFile.FieldType.int)).before args0 about1 = true := code_word (m := ⟨8, 2⟩) (meth := k8m2) (c := k8c2) (by decide +kernel) rfl rfl rfl (by decide +kernel)
set_option maxRecDepth 65536 in
theorem w_c10 : (Jvm.Cond.code ({ cls := "java/lang/StringUTF16", name := "putChar", desc := "([BII)V" } : Jvm.MethodName) jdk_52_method_4_code (3 : Nat) (Option.none : Option Jvm.ClassFile.FieldType)).before args0 about1 = true := code_word (m := ⟨8, 3⟩) (meth := k8m3) (c := k8c3) (by decide +kernel) rfl rfl rfl (by decide +kernel)
set_option maxRecDepth 65536 in
theorem w_c11 : (Jvm.Cond.code ({ cls := "java/lang/StringUTF16", name := "getChar", desc := "([BI)C" } : Jvm.MethodName) jdk_52_method_5_code (2 : Nat) (Option.some Jvm.ClassFile.FieldType.char)).before args0 about1 = true := code_word (m := ⟨8, 4⟩) (meth := k8m4) (c := k8c4) (by decide +kernel) rfl rfl rfl (by decide +kernel)
set_option maxRecDepth 65536 in
theorem w_c12 : (Jvm.Cond.code ({ cls := "java/lang/StringUTF16", name := "coderFromArrayLen", desc := "([BI)B" } : Jvm.MethodName) jdk_52_method_15_code (2 : Nat) (Option.some Jvm.ClassFile.FieldType.byte)).before args0 about1 = true := code_word (m := ⟨8, 7⟩) (meth := k8m7) (c := k8c7) (by decide +kernel) rfl rfl rfl (by decide +kernel)
set_option maxRecDepth 65536 in
theorem w_c13 : (Jvm.Cond.code ({ cls := "com/example/fencerow/fencerow/model/DigitsValuePinLaw", name := "term", desc := "([CIII[J)J" } : Jvm.MethodName) method_3_code (6 : Nat) (Option.some Jvm.ClassFile.FieldType.long)).before args0 about1 = true := code_word (m := ⟨1, 2⟩) (meth := k1m2) (c := k1c2) (by decide +kernel) rfl rfl rfl (by decide +kernel)
set_option maxRecDepth 65536 in
theorem w_c14 : (Jvm.Cond.code ({ cls := "com/example/fencerow/fencerow/model/Digits", name := "value", desc := "(Ljava/lang/String;II)I" } : Jvm.MethodName) prog_30_method_3_code (5 : Nat) (Option.some Jvm.ClassFile.FieldType.int)).before args0 about1 = true := code_word (m := ⟨9, 2⟩) (meth := k9m2) (c := k9c2) (by decide +kernel) rfl rfl rfl (by decide +kernel)
set_option maxRecDepth 65536 in
theorem w_c15 : (Jvm.Cond.code ({ cls := "com/example/fencerow/fencerow/model/Digits", name := "all", desc := "(Ljava/lang/String;II)Z" } : Jvm.MethodName) prog_30_method_2_code (5 : Nat) (Option.some Jvm.ClassFile.FieldType.boolean)).before args0 about1 = true := code_word (m := ⟨9, 1⟩) (meth := k9m1) (c := k9c1) (by decide +kernel) rfl rfl rfl (by decide +kernel)
set_option maxRecDepth 65536 in
theorem w_c16 : (Jvm.Cond.code ({ cls := "java/lang/String", name := "length", desc := "()I" } : Jvm.MethodName) jdk_42_method_54_code (1 : Nat) (Option.some Jvm.ClassFile.FieldType.int)).before args0 about1 = true := code_word (m := ⟨7, 2⟩) (meth := k7m2) (c := k7c2) (by decide +kernel) rfl rfl rfl (by decide +kernel)
set_option maxRecDepth 65536 in
theorem w_c17 : (Jvm.Cond.code ({ cls := "java/lang/String", name := "coder", desc := "()B" } : Jvm.MethodName) jdk_42_method_152_code (1 : Nat) (Option.some Jvm.ClassFile.FieldType.byte)).before args0 about1 = true := code_word (m := ⟨7, 5⟩) (meth := k7m5) (c := k7c5) (by decide +kernel) rfl rfl rfl (by decide +kernel)
set_option maxRecDepth 65536 in
theorem w_c18 : (Jvm.Cond.code ({ cls := "java/lang/String", name := "charAt", desc := "(I)C" } : Jvm.MethodName) jdk_42_method_56_code (2 : Nat) (Option.some Jvm.ClassFile.FieldType.char)).before args0 about1 = true := code_word (m := ⟨7, 3⟩) (meth := k7m3) (c := k7c3) (by decide +kernel) rfl rfl rfl (by decide +kernel)
set_option maxRecDepth 65536 in
theorem w_c19 : (Jvm.Cond.code ({ cls := "java/lang/String", name := "isLatin1", desc := "()Z" } : Jvm.MethodName) jdk_42_method_154_code (1 : Nat) (Option.some Jvm.ClassFile.FieldType.boolean)).before args0 about1 = true := code_word (m := ⟨7, 6⟩) (meth := k7m6) (c := k7c6) (by decide +kernel) rfl rfl rfl (by decide +kernel)
set_option maxRecDepth 65536 in
theorem w_c20 : (Jvm.Cond.code ({ cls := "java/lang/StringUTF16", name := "charAt", desc := "([BI)C" } : Jvm.MethodName) jdk_52_method_83_code (2 : Nat) (Option.some Jvm.ClassFile.FieldType.char)).before args0 about1 = true := code_word (m := ⟨8, 10⟩) (meth := k8m10) (c := k8c10) (by decide +kernel) rfl rfl rfl (by decide +kernel)
set_option maxRecDepth 65536 in
theorem w_c21 : (Jvm.Cond.code ({ cls := "java/lang/StringUTF16", name := "checkIndex", desc := "(I[B)V" } : Jvm.MethodName) jdk_52_method_91_code (2 : Nat) (Option.none : Option Jvm.ClassFile.FieldType)).before args0 about1 = true := code_word (m := ⟨8, 11⟩) (meth := k8m11) (c := k8c11) (by decide +kernel) rfl rfl rfl (by decide +kernel)
set_option maxRecDepth 65536 in
theorem w_c22 : (Jvm.Cond.code ({ cls := "java/lang/StringUTF16", name := "length", desc := "([B)I" } : Jvm.MethodName) jdk_52_method_6_code (1 : Nat) (Option.some Jvm.ClassFile.FieldType.int)).before args0 about1 = true := code_word (m := ⟨8, 5⟩) (meth := k8m5) (c := k8c5) (by decide +kernel) rfl rfl rfl (by decide +kernel)
set_option maxRecDepth 65536 in
theorem w_c23 : (Jvm.Cond.code ({ cls := "java/lang/String", name := "checkIndex", desc := "(II)V" } : Jvm.MethodName) jdk_42_method_155_code (2 : Nat) (Option.none : Option Jvm.ClassFile.FieldType)).before args0 about1 = true := code_word (m := ⟨7, 7⟩) (meth := k7m7) (c := k7c7) (by decide +kernel) rfl rfl rfl (by decide +kernel)
set_option maxRecDepth 65536 in
theorem w_c24 : (Jvm.Cond.code ({ cls := "jdk/internal/util/Preconditions", name := "checkIndex", desc := "(IILjava/util/function/BiFunction;)I" } : Jvm.MethodName) jdk_41_method_11_code (3 : Nat) (Option.some Jvm.ClassFile.FieldType.int)).before args0 about1 = true := code_word (m := ⟨10, 1⟩) (meth := k10m1) (c := k10c1) (by decide +kernel) rfl rfl rfl (by decide +kernel)
set_option maxRecDepth 65536 in
theorem w_c25 : (Jvm.Cond.code ({ cls := "java/lang/StringLatin1", name := "charAt", desc := "([BI)C" } : Jvm.MethodName) jdk_43_method_2_code (2 : Nat) (Option.some Jvm.ClassFile.FieldType.char)).before args0 about1 = true := code_word (m := ⟨11, 1⟩) (meth := k11m1) (c := k11c1) (by decide +kernel) rfl rfl rfl (by decide +kernel)
def codes1 : List Jvm.Cond := [Jvm.Cond.code x code maxLocals ret, Jvm.Cond.code ({ cls := "com/example/fencerow/fencerow/model/DigitsValuePinLaw", name := "ch", desc := "(JIII)C" } : Jvm.MethodName) method_2_code (7 : Nat) (Option.some Jvm.ClassFile.FieldType.char), Jvm.Cond.code ({ cls := "java/lang/String", name := "<init>", desc := "([C)V" } : Jvm.MethodName) jdk_42_method_3_code (2 : Nat) (Option.none : Option Jvm.ClassFile.FieldType), Jvm.Cond.code ({ cls := "java/lang/String", name := "<init>", desc := "([CIILjava/lang/Void;)V" } : Jvm.MethodName) jdk_42_method_149_code (6 : Nat) (Option.none : Option Jvm.ClassFile.FieldType), Jvm.Cond.code ({ cls := "java/lang/Object", name := "<init>", desc := "()V" } : Jvm.MethodName) object_method_1_code (1 : Nat) (Option.none : Option Jvm.ClassFile.FieldType), Jvm.Cond.code ({ cls := "java/lang/StringUTF16", name := "compress", desc := "([CII)[B" } : Jvm.MethodName) jdk_52_method_16_code (6 : Nat) (Option.some (Jvm.ClassFile.FieldType.array Jvm.ClassFile.FieldType.byte)), Jvm.Cond.code ({ cls := "java/lang/StringUTF16", name := "compress", desc := "([CI[BII)I" } : Jvm.MethodName) jdk_52_method_21_code (7 : Nat) (Option.some Jvm.ClassFile.FieldType.int), Jvm.Cond.code ({ cls := "java/lang/StringUTF16", name := "toBytes", desc := "([CII)[B" } : Jvm.MethodName) jdk_52_method_14_code (5 : Nat) (Option.some (Jvm.ClassFile.FieldType.array Jvm.ClassFile.FieldType.byte)), Jvm.Cond.code ({ cls := "java/lang/StringUTF16", name := "newBytesFor", desc := "(I)[B" } : Jvm.MethodName) jdk_52_method_2_code (1 : Nat) (Option.some (Jvm.ClassFile.FieldType.array Jvm.ClassFile.FieldType.byte)), Jvm.Cond.code ({ cls := "java/lang/StringUTF16", name := "newBytesLength", desc := "(I)I" } : Jvm.MethodName) jdk_52_method_3_code (1 : Nat) (Option.some Jvm.ClassFile.FieldType.int), Jvm.Cond.code ({ cls := "java/lang/StringUTF16", name := "putChar", desc := "([BII)V" } : Jvm.MethodName) jdk_52_method_4_code (3 : Nat) (Option.none : Option Jvm.ClassFile.FieldType), Jvm.Cond.code ({ cls := "java/lang/StringUTF16", name := "getChar", desc := "([BI)C" } : Jvm.MethodName) jdk_52_method_5_code (2 : Nat) (Option.some Jvm.ClassFile.FieldType.char), Jvm.Cond.code ({ cls := "java/lang/StringUTF16", name := "coderFromArrayLen", desc := "([BI)B" } : Jvm.MethodName) jdk_52_method_15_code (2 : Nat) (Option.some Jvm.ClassFile.FieldType.byte), Jvm.Cond.code ({ cls := "com/example/fencerow/fencerow/model/DigitsValuePinLaw", name := "term", desc := "([CIII[J)J" } : Jvm.MethodName) method_3_code (6 : Nat) (Option.some Jvm.ClassFile.FieldType.long), Jvm.Cond.code ({ cls := "com/example/fencerow/fencerow/model/Digits", name := "value", desc := "(Ljava/lang/String;II)I" } : Jvm.MethodName) prog_30_method_3_code (5 : Nat) (Option.some Jvm.ClassFile.FieldType.int), Jvm.Cond.code ({ cls := "com/example/fencerow/fencerow/model/Digits", name := "all", desc := "(Ljava/lang/String;II)Z" } : Jvm.MethodName) prog_30_method_2_code (5 : Nat) (Option.some Jvm.ClassFile.FieldType.boolean), Jvm.Cond.code ({ cls := "java/lang/String", name := "length", desc := "()I" } : Jvm.MethodName) jdk_42_method_54_code (1 : Nat) (Option.some Jvm.ClassFile.FieldType.int), Jvm.Cond.code ({ cls := "java/lang/String", name := "coder", desc := "()B" } : Jvm.MethodName) jdk_42_method_152_code (1 : Nat) (Option.some Jvm.ClassFile.FieldType.byte), Jvm.Cond.code ({ cls := "java/lang/String", name := "charAt", desc := "(I)C" } : Jvm.MethodName) jdk_42_method_56_code (2 : Nat) (Option.some Jvm.ClassFile.FieldType.char), Jvm.Cond.code ({ cls := "java/lang/String", name := "isLatin1", desc := "()Z" } : Jvm.MethodName) jdk_42_method_154_code (1 : Nat) (Option.some Jvm.ClassFile.FieldType.boolean), Jvm.Cond.code ({ cls := "java/lang/StringUTF16", name := "charAt", desc := "([BI)C" } : Jvm.MethodName) jdk_52_method_83_code (2 : Nat) (Option.some Jvm.ClassFile.FieldType.char), Jvm.Cond.code ({ cls := "java/lang/StringUTF16", name := "checkIndex", desc := "(I[B)V" } : Jvm.MethodName) jdk_52_method_91_code (2 : Nat) (Option.none : Option Jvm.ClassFile.FieldType), Jvm.Cond.code ({ cls := "java/lang/StringUTF16", name := "length", desc := "([B)I" } : Jvm.MethodName) jdk_52_method_6_code (1 : Nat) (Option.some Jvm.ClassFile.FieldType.int), Jvm.Cond.code ({ cls := "java/lang/String", name := "checkIndex", desc := "(II)V" } : Jvm.MethodName) jdk_42_method_155_code (2 : Nat) (Option.none : Option Jvm.ClassFile.FieldType), Jvm.Cond.code ({ cls := "jdk/internal/util/Preconditions", name := "checkIndex", desc := "(IILjava/util/function/BiFunction;)I" } : Jvm.MethodName) jdk_41_method_11_code (3 : Nat) (Option.some Jvm.ClassFile.FieldType.int), Jvm.Cond.code ({ cls := "java/lang/StringLatin1", name := "charAt", desc := "([BI)C" } : Jvm.MethodName) jdk_43_method_2_code (2 : Nat) (Option.some Jvm.ClassFile.FieldType.char)]
set_option maxRecDepth 65536 in
theorem codes_eq : words1.filter isCode = codes1 := rfl
theorem w_codes : ∀ c ∈ words1.filter isCode, c.before args0 about1 = true := by
  rw [codes_eq]
  intro c hc
  simp only [codes1, List.mem_cons, List.not_mem_nil, or_false] at hc
  rcases hc with rfl | rfl | rfl | rfl | rfl | rfl | rfl | rfl | rfl | rfl | rfl | rfl | rfl | rfl | rfl | rfl | rfl | rfl | rfl | rfl | rfl | rfl | rfl | rfl | rfl | rfl
  · exact w_c0
  · exact w_c1
  · exact w_c2
  · exact w_c3
  · exact w_c4
  · exact w_c5
  · exact w_c6
  · exact w_c7
  · exact w_c8
  · exact w_c9
  · exact w_c10
  · exact w_c11
  · exact w_c12
  · exact w_c13
  · exact w_c14
  · exact w_c15
  · exact w_c16
  · exact w_c17
  · exact w_c18
  · exact w_c19
  · exact w_c20
  · exact w_c21
  · exact w_c22
  · exact w_c23
  · exact w_c24
  · exact w_c25
set_option maxRecDepth 65536 in
theorem w_t1 : (words1.take 24).all (fun c => isCode c || c.before args0 about1) = true := by decide +kernel
set_option maxRecDepth 65536 in
theorem w_t2 : ((words1.drop 24).take 24).all (fun c => isCode c || c.before args0 about1) = true := by decide +kernel
set_option maxRecDepth 65536 in
theorem w_t3 : (((words1.drop 24).drop 24).take 24).all (fun c => isCode c || c.before args0 about1) = true := by decide +kernel
set_option maxRecDepth 65536 in
theorem w_t4 : ((((words1.drop 24).drop 24).drop 24).take 24).all (fun c => isCode c || c.before args0 about1) = true := by decide +kernel
set_option maxRecDepth 65536 in
theorem w_t5 : ((((words1.drop 24).drop 24).drop 24).drop 24).all (fun c => isCode c || c.before args0 about1) = true := by decide +kernel
theorem w_tables : (allAtoms (Jvm.Cond.code x code maxLocals ret :: tables_1)).before args0 about1 = true := by
  rw [allAtoms_all]
  show words1.all (fun c => c.before args0 about1) = true
  refine all_split ?_ w_codes
  rw [← List.take_append_drop 24 words1, List.all_append, w_t1, ← List.take_append_drop 24 (words1.drop 24), List.all_append, w_t2, ← List.take_append_drop 24 ((words1.drop 24).drop 24), List.all_append, w_t3, ← List.take_append_drop 24 (((words1.drop 24).drop 24).drop 24), List.all_append, w_t4, w_t5]
  rfl
set_option maxRecDepth 65536 in
theorem w_rest : rest_1_c.before args0 about1 = true := by decide +kernel
set_option maxRecDepth 65536 in
theorem w_case : (Jvm.Cond.and given_1 narrow_1).before args0 about1 = true := by decide +kernel
theorem w_applies : (headSpec (Jvm.Cond.code x code maxLocals ret :: tables_1) room_1).applies x e0.platform about1 = true :=
  (Spec.applies_iff w_frames).mpr ⟨w_running, w_runnable, w_alone, w_named, w_hears, w_ripe, w_room, w_tables⟩
theorem atStart : AtStart classFile x code maxLocals ret World_1 tables_1 room_1 Calls_1 rest_1 Pre_1 launch0 p0 e0 about1 theMethod args0 below0 :=
  ⟨lists_1, trivial, launch0.admits_env _ _ _, launch0.least_env, fairChoices_fair.cas, fairChoices_fair.clock, w_frames, w_args, w_heap, w_applies, trivial, w_rest, w_case⟩
end start1
theorem witness_1 : WitnessClaimed_1 := ⟨start1.p0, start1.e0, start1.about1, start1.theMethod, start1.args0, start1.below0, start1.atStart⟩
end Jvm.Pilot.@@N@@
