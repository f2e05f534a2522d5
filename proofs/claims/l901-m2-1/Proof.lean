import JvmDerived
import JvmDerived.Pilot.@@N@@Statement
import JvmDerived.Pilot.@@N@@Code
set_option linter.unusedVariables false
set_option linter.unusedSimpArgs false
@@BLOCK:NumsL.lean.txt@@
namespace Jvm.Pilot.@@N@@
open Jvm Jvm.ClassFile Sem Op Lib Jvm.Free Jvm.Stand Jvm.LawKit Jvm.RoadKit Bundle Jvm.Pilot.@@N@@.Jvm.D
/-! THE OWN KIT: walks by continuation. oWP says: from this frame over this heap the body runs to its end, and Q holds there. -/
/-- what a conditional branch asks, in plain words -/
def oC : ClassFile.Cond → Int32 → Int32 → Prop
  | .eq, x, w => x = w
  | .ne, x, w => ¬ x = w
  | .lt, x, w => x < w
  | .ge, x, w => ¬ x < w
  | .gt, x, w => w < x
  | .le, x, w => ¬ w < x
theorem oC_cases (cd : ClassFile.Cond) (x w : Int32) : (if_icmp.holds cd x w = true ∧ oC cd x w) ∨ (if_icmp.holds cd x w = false ∧ ¬ oC cd x w) := by
  cases cd with
  | eq =>
    by_cases q : x = w
    · exact Or.inl ⟨(teq q).1, q⟩
    · exact Or.inr ⟨(feq q).1, q⟩
  | ne =>
    by_cases q : x = w
    · exact Or.inr ⟨(teq q).2, fun r => r q⟩
    · exact Or.inl ⟨(feq q).2, q⟩
  | lt =>
    by_cases q : x < w
    · exact Or.inl ⟨(tlt q).1, q⟩
    · exact Or.inr ⟨(flt q).1, q⟩
  | ge =>
    by_cases q : x < w
    · exact Or.inr ⟨(tlt q).2.1, fun r => r q⟩
    · exact Or.inl ⟨(flt q).2.1, q⟩
  | gt =>
    by_cases q : w < x
    · exact Or.inl ⟨(tlt q).2.2.1, q⟩
    · exact Or.inr ⟨(flt q).2.2.1, q⟩
  | le =>
    by_cases q : w < x
    · exact Or.inr ⟨(tlt q).2.2.2, fun r => r q⟩
    · exact Or.inl ⟨(flt q).2.2.2, q⟩
def oA : ACond → Value → Value → Prop
  | .eq, x, w => x = w
  | .ne, x, w => ¬ x = w
theorem oA_cases (cd : ACond) (x w : Value) : (acV cd (decide (x = w)) = true ∧ oA cd x w) ∨ (acV cd (decide (x = w)) = false ∧ ¬ oA cd x w) := by
  cases cd with
  | eq =>
    by_cases q : x = w
    · exact Or.inl ⟨decide_eq_true q, q⟩
    · exact Or.inr ⟨decide_eq_false q, q⟩
  | ne =>
    by_cases q : x = w
    · exact Or.inr ⟨by rw [decide_eq_true q]; rfl, fun r => r q⟩
    · exact Or.inl ⟨by rw [decide_eq_false q]; rfl, q⟩
section OwnKit
variable {b : Bool} {p : Program} {l : Launch} {e : Env} {R : Room} {s : State} {m : MethodId} {args : Array Value} {below : List Frame} {meth : Method} {c : Code} {P : Addr → Prop} {Q : Option Value → Heap → Vm → Prop} {J : Vm → Prop} {h : Heap} {k n : Nat} {Z : State} {a0 : Array Value} {y : MethodName} {B : ByteArray} {ml : Nat} {rt : Option FieldType}
/-- every place written lies in a cell that may be written -/
def oAl (P : Addr → Prop) (L : List Loc) : Prop := ∀ q ∈ L, P q.base
theorem oAl.snoc {L : List Loc} {a : Addr} {sl : Nat} (N : oAl P L) (q : P a) : oAl P (L ++ [⟨a, sl⟩]) := fun z hz => (List.mem_append.mp hz).elim (N z) fun hz => by cases List.mem_singleton.mp hz; exact q
theorem oAl.app {L L' : List Loc} (N : oAl P L) (N' : oAl P L') : oAl P (L ++ L') := fun z hz => (List.mem_append.mp hz).elim (N z) (N' z)
/-- from h to h': no cell went, classes and sizes stay, a cell that P does not name stays as it is -/
def oKp (P : Addr → Prop) (h h' : Heap) : Prop := h.size ≤ h'.size ∧ ∀ (x : Addr) (c : Cell), h[x]? = some c → ∃ c' : Cell, h'[x]? = some c' ∧ c'.cls = c.cls ∧ c'.vm = c.vm ∧ c'.slots.size = c.slots.size ∧ (¬ P x → c' = c)
theorem oKp.of_same {t : State} {L : List Loc} {ck cn : Nat} (hS : s.sameButNew t L ck cn) (N : oAl P L) : oKp P s.heap t.heap := by
  obtain ⟨-, h1, -, -, -, hh⟩ := hS
  refine ⟨h1, fun x c hx => ?_⟩
  obtain ⟨c', e1, e2, e3, e4⟩ := hh x c hx
  refine ⟨c', e1, by rw [e2], by rw [e2], e3, fun q => ?_⟩
  have e5 : c'.slots = c.slots := Array.ext_getElem? fun i => e4 i fun z => q (N _ z)
  rw [e2, e5]
theorem oKp.ext {h' : Heap} (K : oKp (fun a => h.size ≤ a) h h') : Ext h h' := ⟨K.1, fun a c hc => by
  obtain ⟨c', e1, -, -, -, e5⟩ := K.2 a c hc
  rw [e5 (Nat.not_le.mpr (Array.getElem?_eq_some_iff.mp hc).1)] at e1; exact e1⟩
theorem oKp.fld {h' : Heap} {a : Addr} {C f d : String} {v : Value} (K : oKp P h h') (F : Fld Z h a C f d v) (q : ¬ P a) : Fld Z h' a C f d v := by
  obtain ⟨cell, cf, k, i, f, h1, r⟩ := F
  obtain ⟨c', e1, -, -, -, e5⟩ := K.2 a cell h1
  rw [e5 q] at e1; exact ⟨cell, cf, k, i, f, e1, r⟩
theorem oKp.exa {h' : Heap} {a : Addr} {C : String} (K : oKp P h h') (F : Exa Z h a C) : Exa Z h' a C := by
  obtain ⟨cell, k, h1, h2, h3, h4, h5⟩ := F
  obtain ⟨c', e1, e2, e3, e4, -⟩ := K.2 a cell h1
  exact ⟨c', k, e1, by rw [e2]; exact h2, by rw [e2]; exact h3, by rw [e3]; exact h4, by rw [e4]; exact h5⟩
theorem oKp.arr {h' : Heap} {a : Addr} {cl : Cell} {ty : FieldType} (K : oKp P h h') (F : Arr Z h a cl ty) (q : ¬ P a) : Arr Z h' a cl ty := by
  obtain ⟨c', e1, -, -, -, e5⟩ := K.2 a cl F.1
  rw [e5 q] at e1; exact ⟨e1, F.2⟩
theorem oKp.trans {h' h'' : Heap} {P' : Addr → Prop} (K : oKp P h h') (K' : oKp P' h' h'') (q : ∀ a, P' a → P a) : oKp P h h'' := by
  refine ⟨Nat.le_trans K.1 K'.1, fun x c hx => ?_⟩
  obtain ⟨c1, a1, a2, a3, a4, a5⟩ := K.2 x c hx
  obtain ⟨c2, b1, b2, b3, b4, b5⟩ := K'.2 x c1 a1
  exact ⟨c2, b1, b2.trans a2, b3.trans a3, b4.trans a4, fun r => (b5 fun z => r (q x z)).trans (a5 r)⟩
/-- what is fixed along one body's walk -/
def oCx (p : Program) (s : State) (m : MethodId) (meth : Method) (c : Code) (P : Addr → Prop) (Z : State) (y : MethodName) (B : ByteArray) (ml : Nat) (rt : Option FieldType) : Prop :=
  p.tables.exec = Jvm.exec ∧ c.code = B ∧ c.maxLocals = ml ∧ meth.sig.returnType = rt ∧ meth.locks = false ∧ Z.Warmed39 s.vm ∧ s.vm.findClass y.cls = some m.cls ∧ meth.name = y.name ∧ Ext Z.heap s.heap ∧ (∀ a, s.heap.size ≤ a → P a) ∧ (∀ a, P a → Z.heap.size ≤ a)
theorem oCx.hml (C : oCx p s m meth c P Z y B ml rt) : c.maxLocals = ml := C.2.2.1
theorem oCx.hrt (C : oCx p s m meth c P Z y B ml rt) : meth.sig.returnType = rt := C.2.2.2.1
theorem oCx.locks (C : oCx p s m meth c P Z y B ml rt) : meth.locks = false := C.2.2.2.2.1
theorem oCx.hZ (C : oCx p s m meth c P Z y B ml rt) : Z.Warmed39 s.vm := C.2.2.2.2.2.1
theorem oCx.own (C : oCx p s m meth c P Z y B ml rt) : s.vm.findClass y.cls = some m.cls := C.2.2.2.2.2.2.1
theorem oCx.nm (C : oCx p s m meth c P Z y B ml rt) : meth.name = y.name := C.2.2.2.2.2.2.2.1
theorem oCx.old (C : oCx p s m meth c P Z y B ml rt) : Ext Z.heap s.heap := C.2.2.2.2.2.2.2.2.1
theorem oCx.new (C : oCx p s m meth c P Z y B ml rt) : ∀ a, s.heap.size ≤ a → P a := C.2.2.2.2.2.2.2.2.2.1
theorem oCx.young (C : oCx p s m meth c P Z y B ml rt) : ∀ a, P a → Z.heap.size ≤ a := C.2.2.2.2.2.2.2.2.2.2
theorem oCx.rebase {vm0 : Vm} {k0 : Nat} (C : oCx p s m meth c P Z y B ml rt) (hS : s.Since vm0 k0) : oCx p (s.setVm vm0) m meth c P Z y B ml rt :=
  ⟨C.1, C.2.1, C.2.2.1, C.2.2.2.1, C.2.2.2.2.1, State.Warmed39.trans C.hZ hS.1, by show vm0.findClass y.cls = _; rw [hS.1.alike.findClass]; exact C.own, C.2.2.2.2.2.2.2⟩
/-- J holds on, whatever classes, fields and methods come to be resolved -/
def oJs (J : Vm → Prop) : Prop := ∀ (s : State) (vm' : Vm), J s.vm → s.WarmedH vm' → J vm'
def oT : Vm → Prop := fun _ => True
theorem oTs : oJs oT := fun _ _ _ _ => trivial
/-- the end of a body: wide, and narrow where b says so -/
def oEnd (b : Bool) (s : State) (o : Outcome) (u : State) (L : List Loc) (k n : Nat) : Prop := (b = false → FrameEnd s o u L k n) ∧ ReturnedEndW s o u L k n
def oSd (b : Bool) (p : Program) (l : Launch) (e : Env) (R : Room) (s : State) (m : MethodId) (args : Array Value) (below : List Frame) (meth : Method) (c : Code) (P : Addr → Prop) (J : Vm → Prop) (h : Heap) (k n : Nat) (T : State) : Prop :=
  ∃ (vm0 : Vm) (k0 : Nat) (locs : List Loc) (ck cn : Nat), Stand p l e R (s.setVm vm0) m args below meth c T locs ck cn ∧ T.heap = h ∧ oAl P locs ∧ ck ≤ k ∧ cn ≤ n ∧ s.Since vm0 k0 ∧ k0 ≤ h.size ∧ (b = false → vm0 = s.vm) ∧ J vm0 ∧ oJs J
/-- from the frame g over the heap h the body runs to its end and Q holds there -/
def oWP (b : Bool) (p : Program) (l : Launch) (e : Env) (R : Room) (s : State) (m : MethodId) (args : Array Value) (below : List Frame) (meth : Method) (c : Code) (P : Addr → Prop) (Q : Option Value → Heap → Vm → Prop) (J : Vm → Prop) (h : Heap) (k n : Nat) (g : JFrame) : Prop :=
  ∀ T, oSd b p l e R s m args below meth c P J h k n T → ∃ u o, Steps p.tables e below (T.setTop g) u ∧ u.status = .running ∧ Ended u below o ∧ ∃ v L, o = .returned v ∧ (Q v u.heap u.vm ∧ oAl P L) ∧ oEnd b s o u L R.cells R.slots
abbrev oF (m : MethodId) (pc : Nat) (Ls : List Slot) (S : List Value) : JFrame := mkF m pc (Array.mk Ls) S
/-- a body's contract, where it resolves no string -/
def oMeets (l : Launch) (Z : State) (y : MethodName) (B : ByteArray) (ml : Nat) (rt : Option FieldType) (rm : Room) (as' : Array Value) (h0 : Heap) (P : Addr → Prop) (Q : Option Value → Heap → Prop) : Prop :=
  Ext Z.heap h0 → ∀ ws, MetFree l y (head1 (Jvm.Cond.code y B ml rt :: ws) rm) (fun a U => a = as' ∧ Z.Warmed39 U.vm ∧ U.heap = h0) (fun _ _ _ _ _ => True) (fun _ U o U' => ∃ v L, o = .returned v ∧ (Q v U'.heap ∧ oAl P L ∧ oKp P h0 U'.heap) ∧ FrameEnd U o U' L rm.cells rm.slots)
/-- a body's contract, where it may; J: what it asks of the tables -/
def oMeetsW (l : Launch) (Z : State) (y : MethodName) (B : ByteArray) (ml : Nat) (rt : Option FieldType) (rm : Room) (as' : Array Value) (h0 : Heap) (P : Addr → Prop) (J : Vm → Prop) (Q : Option Value → Heap → Vm → Prop) : Prop :=
  Ext Z.heap h0 → ∀ ws, MetFree l y (head1 (Jvm.Cond.code y B ml rt :: ws) rm) (fun a U => a = as' ∧ Z.Warmed39 U.vm ∧ U.heap = h0 ∧ J U.vm) (fun _ _ _ _ _ => True) (fun _ U o U' => ∃ v L, o = .returned v ∧ (Q v U'.heap U'.vm ∧ oAl P L ∧ oKp P h0 U'.heap) ∧ ReturnedEndW U o U' L rm.cells rm.slots)
theorem oMeets.of {rm : Room} {as' : Array Value} {h0 : Heap} {Ls : List Slot} {Q : Option Value → Heap → Prop} (hpl : plainFor y = true) (hP0 : ∀ a, h0.size ≤ a → P a) (hPn : Ext Z.heap h0 → ∀ a, P a → Z.heap.size ≤ a) (hef : ∀ m, entryFrame m as' ml = oF m 0 Ls [])
    (body : ∀ (p : Program) (e : Env) (s : State) (m : MethodId) (below : List Frame) (meth : Method) (c : Code), oCx p s m meth c P Z y B ml rt → s.heap = h0 → oWP false p l e rm s m as' below meth c P (fun v h _ => Q v h) oT h0 0 0 (oF m 0 Ls [])) : oMeets l Z y B ml rt rm as' h0 P Q := by
  intro hE ws
  refine MetFree.of_bodySF hpl hisR ?_
  intro p e s m args below meth c s₁ Bd hml0 hP hK
  obtain ⟨rfl, hZ, hh⟩ := hP
  have C : oCx p s m meth c P Z y B ml rt := ⟨Bd.exec, Bd.bytes, hml0, Bd.returns, Bd.notSynchronized, hZ, findClass_of_methodNamed Bd.named, (name_of_methodNamed Bd.named Bd.method).1, by rw [hh]; exact hE, by rw [hh]; exact hP0, hPn hE⟩
  have X0 : Stand p l e rm s m args below meth c s₁ [] 0 0 := Stand.of_body Bd
  have e0 : s₁.heap = h0 := by rw [← hh, Bd.state]; rfl
  obtain ⟨u, o, h1, h2, h3, v, L, rfl, ⟨hQ, hN⟩, hF⟩ := body p e s m below meth c C hh s₁ ⟨s.vm, 0, [], 0, 0, X0, e0, fun _ q => (nomatch q), Nat.le_refl _, Nat.le_refl _, (State.WarmedH.refl s).since 0, Nat.zero_le _, fun _ => rfl, trivial, oTs⟩
  refine ⟨u, _, castTop (hef m) h1, h2, h3, v, L, rfl, ⟨hQ, hN, ?_⟩, hF.1 rfl⟩
  rw [← hh]
  exact oKp.of_same (t := { u with vm := s.vm }) hF.2.2.2.2 hN
theorem oMeetsW.of {rm : Room} {as' : Array Value} {h0 : Heap} {Ls : List Slot} (hpl : plainFor y = true) (hP0 : ∀ a, h0.size ≤ a → P a) (hPn : Ext Z.heap h0 → ∀ a, P a → Z.heap.size ≤ a) (hef : ∀ m, entryFrame m as' ml = oF m 0 Ls []) (hJs : oJs J)
    (body : ∀ (p : Program) (e : Env) (s : State) (m : MethodId) (below : List Frame) (meth : Method) (c : Code), oCx p s m meth c P Z y B ml rt → s.heap = h0 → oWP true p l e rm s m as' below meth c P Q J h0 0 0 (oF m 0 Ls [])) : oMeetsW l Z y B ml rt rm as' h0 P J Q := by
  intro hE ws
  refine MetFree.of_bodySF hpl hisR ?_
  intro p e s m args below meth c s₁ Bd hml0 hP hK
  obtain ⟨rfl, hZ, hh, hJ⟩ := hP
  have C : oCx p s m meth c P Z y B ml rt := ⟨Bd.exec, Bd.bytes, hml0, Bd.returns, Bd.notSynchronized, hZ, findClass_of_methodNamed Bd.named, (name_of_methodNamed Bd.named Bd.method).1, by rw [hh]; exact hE, by rw [hh]; exact hP0, hPn hE⟩
  have X0 : Stand p l e rm s m args below meth c s₁ [] 0 0 := Stand.of_body Bd
  have e0 : s₁.heap = h0 := by rw [← hh, Bd.state]; rfl
  obtain ⟨u, o, h1, h2, h3, v, L, rfl, ⟨hQ, hN⟩, hF⟩ := body p e s m below meth c C hh s₁ ⟨s.vm, 0, [], 0, 0, X0, e0, fun _ q => (nomatch q), Nat.le_refl _, Nat.le_refl _, (State.WarmedH.refl s).since 0, Nat.zero_le _, fun _ => rfl, hJ, hJs⟩
  refine ⟨u, _, castTop (hef m) h1, h2, h3, v, L, rfl, ⟨hQ, hN, ?_⟩, hF.2⟩
  rw [← hh]
  exact oKp.of_same (t := { u with vm := s.vm }) hF.2.2.2.2 hN
theorem oMeets.mono {rm : Room} {as' : Array Value} {h0 : Heap} {Q Q' : Option Value → Heap → Prop} (M : oMeets l Z y B ml rt rm as' h0 P Q) (i : ∀ v h, Q v h → Q' v h) : oMeets l Z y B ml rt rm as' h0 P Q' := fun hE ws p e h1 h2 h3 s m a d h4 h5 h6 h7 => by
  obtain ⟨n, o, g1, g2, g3, v, L, rfl, ⟨hQ, r⟩, hF⟩ := M hE ws p e h1 h2 h3 s m a d h4 h5 h6 h7
  exact ⟨n, _, g1, g2, g3, v, L, rfl, ⟨i _ _ hQ, r⟩, hF⟩
theorem oWP.step {g g' : JFrame} (st : ∀ T, At T m c below → ∀ target, Steps p.tables e below (T.setTop g') target → Steps p.tables e below (T.setTop g) target) (K : oWP b p l e R s m args below meth c P Q J h k n g') : oWP b p l e R s m args below meth c P Q J h k n g := fun T hT => by
  obtain ⟨u, o, h1, h2⟩ := K T hT
  obtain ⟨_, _, _, _, _, X, -⟩ := hT
  exact ⟨u, o, st T X.here u h1, h2⟩
theorem oWP.stepX {g g' : JFrame} (st : ∀ s' T locs ck cn, Stand p l e R s' m args below meth c T locs ck cn → ∀ target, Steps p.tables e below (T.setTop g') target → Steps p.tables e below (T.setTop g) target) (K : oWP b p l e R s m args below meth c P Q J h k n g') : oWP b p l e R s m args below meth c P Q J h k n g := fun T hT => by
  obtain ⟨u, o, h1, h2⟩ := K T hT
  obtain ⟨_, _, _, _, _, X, -⟩ := hT
  exact ⟨u, o, st _ T _ _ _ X u h1, h2⟩
/-- a step by a law that hands back a new state over the same heap -/
theorem oWP.law {g g' : JFrame} (K : oWP b p l e R s m args below meth c P Q J h k n g') (C : oCx p s m meth c P Z y B ml rt) (st : ∀ s', oCx p s' m meth c P Z y B ml rt → ∀ T locs ck cn, Stand p l e R s' m args below meth c T locs ck cn → T.heap = h → ∃ T', Stand p l e R s' m args below meth c T' locs ck cn ∧ T'.heap = h ∧ ∀ target, Steps p.tables e below (T'.setTop g') target → Steps p.tables e below (T.setTop g) target) : oWP b p l e R s m args below meth c P Q J h k n g := fun T hT => by
  obtain ⟨vm0, k0, locs, ck, cn, X, eT, N, q1, q2, hS, hk0, hbv, hJ⟩ := hT
  obtain ⟨T', X', e', st'⟩ := st _ (C.rebase hS) T locs ck cn X eT
  obtain ⟨u, o, h1, h2⟩ := K T' ⟨vm0, k0, locs, ck, cn, X', e', N, q1, q2, hS, hk0, hbv, hJ⟩
  exact ⟨u, o, st' u h1, h2⟩
theorem oWP.more {g : JFrame} {k' n' : Nat} (K : oWP b p l e R s m args below meth c P Q J h k' n' g) (hk : k ≤ k') (hn : n ≤ n') : oWP b p l e R s m args below meth c P Q J h k n g := fun T hT => by
  obtain ⟨vm0, k0, locs, ck, cn, X, eT, N, q1, q2, r⟩ := hT
  exact K T ⟨vm0, k0, locs, ck, cn, X, eT, N, Nat.le_trans q1 hk, Nat.le_trans q2 hn, r⟩
theorem oSd.old {T : State} (C : oCx p s m meth c P Z y B ml rt) (hT : oSd b p l e R s m args below meth c P J h k n T) : Ext Z.heap h ∧ s.heap.size ≤ h.size ∧ oKp P s.heap h := by
  obtain ⟨vm0, k0, locs, ck, cn, X, rfl, N, -⟩ := hT
  have K : oKp P s.heap T.heap := oKp.of_same (s := s.setVm vm0) (t := T.setVm (s.setVm vm0).vm) X.same N
  refine ⟨⟨Nat.le_trans C.old.1 K.1, fun a cl ha => ?_⟩, K.1, K⟩
  obtain ⟨c', e1, -, -, -, e5⟩ := K.2 a cl (C.old.2 a cl ha)
  rw [e5 fun q => absurd (C.young a q) (Nat.not_le.mpr (Array.getElem?_eq_some_iff.mp ha).1)] at e1
  exact e1
/-- what stood at the start stands here; the heap only grew; and what the body kept so far -/
theorem K_old {g : JFrame} (C : oCx p s m meth c P Z y B ml rt) (K : Ext Z.heap h → s.heap.size ≤ h.size → oKp P s.heap h → oWP b p l e R s m args below meth c P Q J h k n g) : oWP b p l e R s m args below meth c P Q J h k n g := fun T hT => by
  obtain ⟨h1, h2, h3⟩ := oSd.old C hT
  exact K h1 h2 h3 T hT
variable {pc : Nat} {Ls : List Slot} {S : List Value}
theorem K_iloadN (C : oCx p s m meth c P Z y B ml rt) {i : Fin 4} {v : Int32} (hd : decode B pc = .ok (.iload_n i, 1)) (hl : (Array.mk Ls)[i.val]? = some (.val (.int v))) (K : oWP b p l e R s m args below meth c P Q J h k n (oF m (pc + 1) Ls ((.int v) :: S))) : oWP b p l e R s m args below meth c P Q J h k n (oF m pc Ls S) := K.step fun _ A _ => XS.iloadN A C.1 rfl (hb C.2.1 hd) hl
theorem K_iload (C : oCx p s m meth c P Z y B ml rt) {i : Nat} {v : Int32} (hd : decode B pc = .ok (.iload i, 2)) (hl : (Array.mk Ls)[i]? = some (.val (.int v))) (K : oWP b p l e R s m args below meth c P Q J h k n (oF m (pc + 2) Ls ((.int v) :: S))) : oWP b p l e R s m args below meth c P Q J h k n (oF m pc Ls S) := K.step fun _ A _ => XS.iload A C.1 rfl (hb C.2.1 hd) hl
theorem K_lloadN (C : oCx p s m meth c P Z y B ml rt) {i : Fin 4} {v : Int64} (hd : decode B pc = .ok (.lload_n i, 1)) (hl : (Array.mk Ls)[i.val]? = some (.val (.long v))) (K : oWP b p l e R s m args below meth c P Q J h k n (oF m (pc + 1) Ls ((.long v) :: S))) : oWP b p l e R s m args below meth c P Q J h k n (oF m pc Ls S) := K.step fun _ A _ => XT.lloadN A C.1 rfl (hb C.2.1 hd) hl
theorem K_lload (C : oCx p s m meth c P Z y B ml rt) {i : Nat} {v : Int64} (hd : decode B pc = .ok (.lload i, 2)) (hl : (Array.mk Ls)[i]? = some (.val (.long v))) (K : oWP b p l e R s m args below meth c P Q J h k n (oF m (pc + 2) Ls ((.long v) :: S))) : oWP b p l e R s m args below meth c P Q J h k n (oF m pc Ls S) := K.step fun _ A _ => XT.lload A C.1 rfl (hb C.2.1 hd) hl
theorem K_aloadN (C : oCx p s m meth c P Z y B ml rt) {i : Fin 4} {v : Value} (hd : decode B pc = .ok (.aload_n i, 1)) (hl : (Array.mk Ls)[i.val]? = some (.val v)) (hv : v.isRef = true) (K : oWP b p l e R s m args below meth c P Q J h k n (oF m (pc + 1) Ls (v :: S))) : oWP b p l e R s m args below meth c P Q J h k n (oF m pc Ls S) := K.step fun _ A _ => XS.aloadN A C.1 rfl (hb C.2.1 hd) hl hv
theorem K_aload (C : oCx p s m meth c P Z y B ml rt) {i : Nat} {v : Value} (hd : decode B pc = .ok (.aload i, 2)) (hl : (Array.mk Ls)[i]? = some (.val v)) (hv : v.isRef = true) (K : oWP b p l e R s m args below meth c P Q J h k n (oF m (pc + 2) Ls (v :: S))) : oWP b p l e R s m args below meth c P Q J h k n (oF m pc Ls S) := K.step fun _ A _ => XS.aload A C.1 rfl (hb C.2.1 hd) hl hv
theorem K_istoreN (C : oCx p s m meth c P Z y B ml rt) {i : Fin 4} {v : Int32} {Ls' : List Slot} (hd : decode B pc = .ok (.istore_n i, 1)) (hl : storeLocals (Array.mk Ls) i.val (.int v) = some (Array.mk Ls')) (K : oWP b p l e R s m args below meth c P Q J h k n (oF m (pc + 1) Ls' S)) : oWP b p l e R s m args below meth c P Q J h k n (oF m pc Ls ((.int v) :: S)) := K.step fun _ A _ => XS.istoreN A C.1 rfl (hb C.2.1 hd) rfl hl
theorem K_istore (C : oCx p s m meth c P Z y B ml rt) {i : Nat} {v : Int32} {Ls' : List Slot} (hd : decode B pc = .ok (.istore i, 2)) (hl : storeLocals (Array.mk Ls) i (.int v) = some (Array.mk Ls')) (K : oWP b p l e R s m args below meth c P Q J h k n (oF m (pc + 2) Ls' S)) : oWP b p l e R s m args below meth c P Q J h k n (oF m pc Ls ((.int v) :: S)) := K.step fun _ A _ => XS.istore A C.1 rfl (hb C.2.1 hd) rfl hl
theorem K_lstoreN (C : oCx p s m meth c P Z y B ml rt) {i : Fin 4} {v : Int64} {Ls' : List Slot} (hd : decode B pc = .ok (.lstore_n i, 1)) (hl : storeLocals (Array.mk Ls) i.val (.long v) = some (Array.mk Ls')) (K : oWP b p l e R s m args below meth c P Q J h k n (oF m (pc + 1) Ls' S)) : oWP b p l e R s m args below meth c P Q J h k n (oF m pc Ls ((.long v) :: S)) := K.step fun _ A _ => XT.lstoreN A C.1 rfl (hb C.2.1 hd) rfl hl
theorem K_lstore (C : oCx p s m meth c P Z y B ml rt) {i : Nat} {v : Int64} {Ls' : List Slot} (hd : decode B pc = .ok (.lstore i, 2)) (hl : storeLocals (Array.mk Ls) i (.long v) = some (Array.mk Ls')) (K : oWP b p l e R s m args below meth c P Q J h k n (oF m (pc + 2) Ls' S)) : oWP b p l e R s m args below meth c P Q J h k n (oF m pc Ls ((.long v) :: S)) := K.step fun _ A _ => XT.lstore A C.1 rfl (hb C.2.1 hd) rfl hl
theorem K_astoreN (C : oCx p s m meth c P Z y B ml rt) {i : Fin 4} {v : Value} {Ls' : List Slot} (hd : decode B pc = .ok (.astore_n i, 1)) (hv : v.isRef = true) (hl : storeLocals (Array.mk Ls) i.val v = some (Array.mk Ls')) (K : oWP b p l e R s m args below meth c P Q J h k n (oF m (pc + 1) Ls' S)) : oWP b p l e R s m args below meth c P Q J h k n (oF m pc Ls (v :: S)) := K.step fun _ A _ => XS.astoreN A C.1 rfl (hb C.2.1 hd) rfl hv hl
theorem K_astore (C : oCx p s m meth c P Z y B ml rt) {i : Nat} {v : Value} {Ls' : List Slot} (hd : decode B pc = .ok (.astore i, 2)) (hv : v.isRef = true) (hl : storeLocals (Array.mk Ls) i v = some (Array.mk Ls')) (K : oWP b p l e R s m args below meth c P Q J h k n (oF m (pc + 2) Ls' S)) : oWP b p l e R s m args below meth c P Q J h k n (oF m pc Ls (v :: S)) := K.step fun _ A _ => XS.astore A C.1 rfl (hb C.2.1 hd) rfl hv hl
theorem K_iinc (C : oCx p s m meth c P Z y B ml rt) {i : Nat} {cst : Int} {v w : Int32} {Ls' : List Slot} (hd : decode B pc = .ok (.iinc i cst, 3)) (hc : Int32.ofInt cst = w) (hl : (Array.mk Ls)[i]? = some (.val (.int v))) (hl' : storeLocals (Array.mk Ls) i (.int (v + w)) = some (Array.mk Ls')) (K : oWP b p l e R s m args below meth c P Q J h k n (oF m (pc + 3) Ls' S)) : oWP b p l e R s m args below meth c P Q J h k n (oF m pc Ls S) := K.step fun _ A _ => XS.iinc A C.1 rfl (hb C.2.1 hd) hl (hc ▸ hl')
theorem K_iconst (C : oCx p s m meth c P Z y B ml rt) {i : Int} (v : Int32) (hd : decode B pc = .ok (.iconst i, 1)) (hv : Int32.ofInt i = v) (K : oWP b p l e R s m args below meth c P Q J h k n (oF m (pc + 1) Ls (.int v :: S))) : oWP b p l e R s m args below meth c P Q J h k n (oF m pc Ls S) := K.step fun _ A _ => XT.iconstV A C.1 rfl v (hb C.2.1 hd) hv
theorem K_bipush (C : oCx p s m meth c P Z y B ml rt) {i : Int} (v : Int32) (hd : decode B pc = .ok (.bipush i, 2)) (hv : (Int8.ofInt i).toInt32 = v) (K : oWP b p l e R s m args below meth c P Q J h k n (oF m (pc + 2) Ls (.int v :: S))) : oWP b p l e R s m args below meth c P Q J h k n (oF m pc Ls S) := K.step fun _ A _ => XT.bipushV A C.1 rfl v (hb C.2.1 hd) hv
theorem K_sipush (C : oCx p s m meth c P Z y B ml rt) {i : Int} (v : Int32) (hd : decode B pc = .ok (.sipush i, 3)) (hv : (Int16.ofInt i).toInt32 = v) (K : oWP b p l e R s m args below meth c P Q J h k n (oF m (pc + 3) Ls (.int v :: S))) : oWP b p l e R s m args below meth c P Q J h k n (oF m pc Ls S) := K.step fun _ A _ => XT.sipushV A C.1 rfl v (hb C.2.1 hd) hv
theorem K_lconst (C : oCx p s m meth c P Z y B ml rt) {i : Fin 2} (v : Int64) (hd : decode B pc = .ok (.lconst i, 1)) (hv : Int64.ofNat i = v) (K : oWP b p l e R s m args below meth c P Q J h k n (oF m (pc + 1) Ls (.long v :: S))) : oWP b p l e R s m args below meth c P Q J h k n (oF m pc Ls S) := K.step fun _ A _ => XT.lconstV A C.1 rfl v (hb C.2.1 hd) hv
theorem K_aconst_null (C : oCx p s m meth c P Z y B ml rt)  (hd : decode B pc = .ok (.aconst_null, 1)) (K : oWP b p l e R s m args below meth c P Q J h k n (oF m (pc + 1) Ls (.null :: S))) : oWP b p l e R s m args below meth c P Q J h k n (oF m pc Ls (S)) := K.step fun _ A _ => XS.aconstNull A C.1 rfl (hb C.2.1 hd)
theorem K_dup (C : oCx p s m meth c P Z y B ml rt) {v : Value} (hd : decode B pc = .ok (.dup, 1)) (hc : v.category = 1) (K : oWP b p l e R s m args below meth c P Q J h k n (oF m (pc + 1) Ls (v :: v :: S))) : oWP b p l e R s m args below meth c P Q J h k n (oF m pc Ls (v :: S)) := K.step fun _ A _ => XS.dup A C.1 rfl (hb C.2.1 hd) rfl hc
theorem K_dup_x1 (C : oCx p s m meth c P Z y B ml rt) {v w : Value} (hd : decode B pc = .ok (.dup_x1, 1)) (hc : v.category = 1) (hc' : w.category = 1) (K : oWP b p l e R s m args below meth c P Q J h k n (oF m (pc + 1) Ls (v :: w :: v :: S))) : oWP b p l e R s m args below meth c P Q J h k n (oF m pc Ls (v :: w :: S)) := K.step fun _ A _ => XT.dupX1 A C.1 rfl (hb C.2.1 hd) rfl hc hc'
theorem K_dup2 (C : oCx p s m meth c P Z y B ml rt) {v w : Value} (hd : decode B pc = .ok (.dup2, 1)) (hc : v.category = 1) (hc' : w.category = 1) (K : oWP b p l e R s m args below meth c P Q J h k n (oF m (pc + 1) Ls (v :: w :: v :: w :: S))) : oWP b p l e R s m args below meth c P Q J h k n (oF m pc Ls (v :: w :: S)) := K.step fun _ A _ => XT.dup2 A C.1 rfl (hb C.2.1 hd) rfl hc hc'
theorem K_pop (C : oCx p s m meth c P Z y B ml rt) {v : Value} (hd : decode B pc = .ok (.pop, 1)) (hc : v.category = 1) (K : oWP b p l e R s m args below meth c P Q J h k n (oF m (pc + 1) Ls (S))) : oWP b p l e R s m args below meth c P Q J h k n (oF m pc Ls (v :: S)) := K.step fun _ A _ => XT.pop A C.1 rfl (hb C.2.1 hd) rfl hc
theorem K_goto (C : oCx p s m meth c P Z y B ml rt) {o : Int} (q : Nat) (hd : decode B pc = .ok (.goto o, 3)) (ho : 0 ≤ (pc : Int) + o) (hp : ((pc : Int) + o).toNat = q) (K : oWP b p l e R s m args below meth c P Q J h k n (oF m q Ls S)) : oWP b p l e R s m args below meth c P Q J h k n (oF m pc Ls S) := K.step fun _ A _ => XS.goto A C.1 rfl rfl (hb C.2.1 hd) ho hp
theorem K_if (C : oCx p s m meth c P Z y B ml rt) {cd : ClassFile.Cond} {x : Int32} {o : Int} (q : Nat) (hd : decode B pc = .ok (.ifCond cd o, 3)) (ho : 0 ≤ (pc : Int) + o) (hp : ((pc : Int) + o).toNat = q) (K1 : oC cd x 0 → oWP b p l e R s m args below meth c P Q J h k n (oF m q Ls S)) (K2 : ¬ oC cd x 0 → oWP b p l e R s m args below meth c P Q J h k n (oF m (pc + 3) Ls S)) : oWP b p l e R s m args below meth c P Q J h k n (oF m pc Ls (.int x :: S)) := by
  rcases oC_cases cd x 0 with ⟨h1, h2⟩ | ⟨h1, h2⟩
  · exact (K1 h2).step fun _ A _ => XS.ifYes A C.1 rfl rfl (hb C.2.1 hd) rfl ((if0 _ _).trans h1) ho hp
  · exact (K2 h2).step fun _ A _ => XS.ifNo A C.1 rfl (hb C.2.1 hd) rfl ((if0 _ _).trans h1)
theorem K_icmp (C : oCx p s m meth c P Z y B ml rt) {cd : ClassFile.Cond} {x w : Int32} {o : Int} (q : Nat) (hd : decode B pc = .ok (.if_icmp cd o, 3)) (ho : 0 ≤ (pc : Int) + o) (hp : ((pc : Int) + o).toNat = q) (K1 : oC cd x w → oWP b p l e R s m args below meth c P Q J h k n (oF m q Ls S)) (K2 : ¬ oC cd x w → oWP b p l e R s m args below meth c P Q J h k n (oF m (pc + 3) Ls S)) : oWP b p l e R s m args below meth c P Q J h k n (oF m pc Ls (.int w :: .int x :: S)) := by
  rcases oC_cases cd x w with ⟨h1, h2⟩ | ⟨h1, h2⟩
  · exact (K1 h2).step fun _ A _ => XS.icmpYes A C.1 rfl rfl (hb C.2.1 hd) rfl h1 ho hp
  · exact (K2 h2).step fun _ A _ => XS.icmpNo A C.1 rfl (hb C.2.1 hd) rfl h1
theorem K_acmp (C : oCx p s m meth c P Z y B ml rt) {cd : ACond} {x w : Value} {o : Int} (q : Nat) (hd : decode B pc = .ok (.if_acmp cd o, 3)) (h1 : x.isRef = true) (h2 : w.isRef = true) (ho : 0 ≤ (pc : Int) + o) (hp : ((pc : Int) + o).toNat = q)
    (K1 : oA cd x w → oWP b p l e R s m args below meth c P Q J h k n (oF m q Ls S)) (K2 : ¬ oA cd x w → oWP b p l e R s m args below meth c P Q J h k n (oF m (pc + 3) Ls S)) : oWP b p l e R s m args below meth c P Q J h k n (oF m pc Ls (w :: x :: S)) := by
  rcases oA_cases cd x w with ⟨g1, g2⟩ | ⟨g1, g2⟩
  · exact (K1 g2).stepX fun _ T locs ck cn X target hr => RoadKit.acmp (g := oF m pc Ls (w :: x :: S)) X C.1 rfl h1 h2 (pc0 := pc) (pc' := q) rfl (hb C.2.1 hd) rfl rfl ho (by rw [g1, ← hp]; rfl) hr
  · exact (K2 g2).stepX fun _ T locs ck cn X target hr => RoadKit.acmp (g := oF m pc Ls (w :: x :: S)) X C.1 rfl h1 h2 (pc0 := pc) (pc' := pc + 3) rfl (hb C.2.1 hd) rfl rfl ho (by rw [g1]; rfl) hr
theorem K_ifnull_ref (C : oCx p s m meth c P Z y B ml rt) {a : Addr} {o : Int} (hd : decode B pc = .ok (.ifnull o, 3)) (K : oWP b p l e R s m args below meth c P Q J h k n (oF m (pc + 3) Ls S)) : oWP b p l e R s m args below meth c P Q J h k n (oF m pc Ls (.ref a :: S)) := K.step fun _ A _ => XS.ifnullNo A C.1 rfl (hb C.2.1 hd) rfl
theorem K_ifnull_null (C : oCx p s m meth c P Z y B ml rt) {o : Int} (q : Nat) (hd : decode B pc = .ok (.ifnull o, 3)) (ho : 0 ≤ (pc : Int) + o) (hp : ((pc : Int) + o).toNat = q) (K : oWP b p l e R s m args below meth c P Q J h k n (oF m q Ls S)) : oWP b p l e R s m args below meth c P Q J h k n (oF m pc Ls (.null :: S)) := K.step fun _ A _ => XS.ifnullYes A C.1 rfl rfl (hb C.2.1 hd) rfl ho hp
theorem K_ifnonnull_ref (C : oCx p s m meth c P Z y B ml rt) {a : Addr} {o : Int} (q : Nat) (hd : decode B pc = .ok (.ifnonnull o, 3)) (ho : 0 ≤ (pc : Int) + o) (hp : ((pc : Int) + o).toNat = q) (K : oWP b p l e R s m args below meth c P Q J h k n (oF m q Ls S)) : oWP b p l e R s m args below meth c P Q J h k n (oF m pc Ls (.ref a :: S)) := K.step fun _ A _ => XT.ifnonnullYes A C.1 rfl rfl (hb C.2.1 hd) rfl ho hp
theorem K_ifnonnull_null (C : oCx p s m meth c P Z y B ml rt) {o : Int} (hd : decode B pc = .ok (.ifnonnull o, 3)) (K : oWP b p l e R s m args below meth c P Q J h k n (oF m (pc + 3) Ls S)) : oWP b p l e R s m args below meth c P Q J h k n (oF m pc Ls (.null :: S)) := K.step fun _ A _ => XT.ifnonnullNo A C.1 rfl (hb C.2.1 hd) rfl
theorem K_tsw (C : oCx p s m meth c P Z y B ml rt) {dflt low high o : Int} {offs : Array Int} {len : Nat} {i : Int32} (q : Nat) (hd : decode B pc = .ok (.tableswitch dflt low high offs, len)) (hin : ¬ (i.toInt < low ∨ i.toInt > high)) (hoff : offs[(i.toInt - low).toNat]? = some o) (ho : 0 ≤ (pc : Int) + o) (hp : ((pc : Int) + o).toNat = q) (K : oWP b p l e R s m args below meth c P Q J h k n (oF m q Ls S)) : oWP b p l e R s m args below meth c P Q J h k n (oF m pc Ls (.int i :: S)) := K.step fun _ A _ => XS.tswIn (g := oF m pc Ls (.int i :: S)) A C.1 rfl (pc0 := pc) rfl (hb C.2.1 hd) rfl hin hoff ho hp
theorem K_tswOut (C : oCx p s m meth c P Z y B ml rt) {dflt low high : Int} {offs : Array Int} {len : Nat} {i : Int32} (q : Nat) (hd : decode B pc = .ok (.tableswitch dflt low high offs, len)) (hout : i.toInt < low ∨ i.toInt > high) (ho : 0 ≤ (pc : Int) + dflt) (hp : ((pc : Int) + dflt).toNat = q) (K : oWP b p l e R s m args below meth c P Q J h k n (oF m q Ls S)) : oWP b p l e R s m args below meth c P Q J h k n (oF m pc Ls (.int i :: S)) := K.step fun _ A _ => XS.tswOut (g := oF m pc Ls (.int i :: S)) A C.1 rfl (pc0 := pc) rfl (hb C.2.1 hd) rfl hout ho hp
theorem K_iadd (C : oCx p s m meth c P Z y B ml rt) {x w : Int32} (hd : decode B pc = .ok (.iadd, 1)) (K : oWP b p l e R s m args below meth c P Q J h k n (oF m (pc + 1) Ls (.int (x + w) :: S))) : oWP b p l e R s m args below meth c P Q J h k n (oF m pc Ls (.int w :: .int x :: S)) := K.step fun _ A _ => XS.iadd A C.1 rfl (hb C.2.1 hd) rfl
theorem K_isub (C : oCx p s m meth c P Z y B ml rt) {x w : Int32} (hd : decode B pc = .ok (.isub, 1)) (K : oWP b p l e R s m args below meth c P Q J h k n (oF m (pc + 1) Ls (.int (x - w) :: S))) : oWP b p l e R s m args below meth c P Q J h k n (oF m pc Ls (.int w :: .int x :: S)) := K.step fun _ A _ => XS.isub A C.1 rfl (hb C.2.1 hd) rfl
theorem K_iand (C : oCx p s m meth c P Z y B ml rt) {x w : Int32} (hd : decode B pc = .ok (.iand, 1)) (K : oWP b p l e R s m args below meth c P Q J h k n (oF m (pc + 1) Ls (.int (x &&& w) :: S))) : oWP b p l e R s m args below meth c P Q J h k n (oF m pc Ls (.int w :: .int x :: S)) := K.step fun _ A _ => XS.iand A C.1 rfl (hb C.2.1 hd) rfl
theorem K_imul (C : oCx p s m meth c P Z y B ml rt) {x w : Int32} (hd : decode B pc = .ok (.imul, 1)) (K : oWP b p l e R s m args below meth c P Q J h k n (oF m (pc + 1) Ls (.int (x * w) :: S))) : oWP b p l e R s m args below meth c P Q J h k n (oF m pc Ls (.int w :: .int x :: S)) := K.step fun _ A _ => XS.imul A C.1 rfl (hb C.2.1 hd) rfl
theorem K_ior (C : oCx p s m meth c P Z y B ml rt) {x w : Int32} (hd : decode B pc = .ok (.ior, 1)) (K : oWP b p l e R s m args below meth c P Q J h k n (oF m (pc + 1) Ls (.int (x ||| w) :: S))) : oWP b p l e R s m args below meth c P Q J h k n (oF m pc Ls (.int w :: .int x :: S)) := K.step fun _ A _ => XT.ior A C.1 rfl (hb C.2.1 hd) rfl
theorem K_ixor (C : oCx p s m meth c P Z y B ml rt) {x w : Int32} (hd : decode B pc = .ok (.ixor, 1)) (K : oWP b p l e R s m args below meth c P Q J h k n (oF m (pc + 1) Ls (.int (x ^^^ w) :: S))) : oWP b p l e R s m args below meth c P Q J h k n (oF m pc Ls (.int w :: .int x :: S)) := K.step fun _ A _ => XT.ixor A C.1 rfl (hb C.2.1 hd) rfl
theorem K_ishl (C : oCx p s m meth c P Z y B ml rt) {x w : Int32} (hd : decode B pc = .ok (.ishl, 1)) (K : oWP b p l e R s m args below meth c P Q J h k n (oF m (pc + 1) Ls (.int (x <<< (w &&& 31)) :: S))) : oWP b p l e R s m args below meth c P Q J h k n (oF m pc Ls (.int w :: .int x :: S)) := K.step fun _ A _ => XT.ishl A C.1 rfl (hb C.2.1 hd) rfl
theorem K_ishr (C : oCx p s m meth c P Z y B ml rt) {x w : Int32} (hd : decode B pc = .ok (.ishr, 1)) (K : oWP b p l e R s m args below meth c P Q J h k n (oF m (pc + 1) Ls (.int (x >>> (w &&& 31)) :: S))) : oWP b p l e R s m args below meth c P Q J h k n (oF m pc Ls (.int w :: .int x :: S)) := K.step fun _ A _ => XT.ishr A C.1 rfl (hb C.2.1 hd) rfl
theorem K_iushr (C : oCx p s m meth c P Z y B ml rt) {x w : Int32} (hd : decode B pc = .ok (.iushr, 1)) (K : oWP b p l e R s m args below meth c P Q J h k n (oF m (pc + 1) Ls (.int (XT.ushr x w) :: S))) : oWP b p l e R s m args below meth c P Q J h k n (oF m pc Ls (.int w :: .int x :: S)) := K.step fun _ A _ => XT.iushr A C.1 rfl (hb C.2.1 hd) rfl
theorem K_idiv (C : oCx p s m meth c P Z y B ml rt) {x w : Int32} (hd : decode B pc = .ok (.idiv, 1)) (hy : w ≠ 0) (K : oWP b p l e R s m args below meth c P Q J h k n (oF m (pc + 1) Ls (.int (x / w) :: S))) : oWP b p l e R s m args below meth c P Q J h k n (oF m pc Ls (.int w :: .int x :: S)) := K.step fun _ A _ => XS.idiv A C.1 rfl (hb C.2.1 hd) rfl hy
theorem K_ladd (C : oCx p s m meth c P Z y B ml rt) {x w : Int64} (hd : decode B pc = .ok (.ladd, 1)) (K : oWP b p l e R s m args below meth c P Q J h k n (oF m (pc + 1) Ls (.long (x + w) :: S))) : oWP b p l e R s m args below meth c P Q J h k n (oF m pc Ls (.long w :: .long x :: S)) := K.step fun _ A _ => XT.ladd A C.1 rfl (hb C.2.1 hd) rfl
theorem K_lsub (C : oCx p s m meth c P Z y B ml rt) {x w : Int64} (hd : decode B pc = .ok (.lsub, 1)) (K : oWP b p l e R s m args below meth c P Q J h k n (oF m (pc + 1) Ls (.long (x - w) :: S))) : oWP b p l e R s m args below meth c P Q J h k n (oF m pc Ls (.long w :: .long x :: S)) := K.step fun _ A _ => XT.lsub A C.1 rfl (hb C.2.1 hd) rfl
theorem K_lmul (C : oCx p s m meth c P Z y B ml rt) {x w : Int64} (hd : decode B pc = .ok (.lmul, 1)) (K : oWP b p l e R s m args below meth c P Q J h k n (oF m (pc + 1) Ls (.long (x * w) :: S))) : oWP b p l e R s m args below meth c P Q J h k n (oF m pc Ls (.long w :: .long x :: S)) := K.step fun _ A _ => XT.lmul A C.1 rfl (hb C.2.1 hd) rfl
theorem K_land (C : oCx p s m meth c P Z y B ml rt) {x w : Int64} (hd : decode B pc = .ok (.land, 1)) (K : oWP b p l e R s m args below meth c P Q J h k n (oF m (pc + 1) Ls (.long (x &&& w) :: S))) : oWP b p l e R s m args below meth c P Q J h k n (oF m pc Ls (.long w :: .long x :: S)) := K.step fun _ A _ => XT.land A C.1 rfl (hb C.2.1 hd) rfl
theorem K_lor (C : oCx p s m meth c P Z y B ml rt) {x w : Int64} (hd : decode B pc = .ok (.lor, 1)) (K : oWP b p l e R s m args below meth c P Q J h k n (oF m (pc + 1) Ls (.long (x ||| w) :: S))) : oWP b p l e R s m args below meth c P Q J h k n (oF m pc Ls (.long w :: .long x :: S)) := K.step fun _ A _ => XT.lor A C.1 rfl (hb C.2.1 hd) rfl
theorem K_lxor (C : oCx p s m meth c P Z y B ml rt) {x w : Int64} (hd : decode B pc = .ok (.lxor, 1)) (K : oWP b p l e R s m args below meth c P Q J h k n (oF m (pc + 1) Ls (.long (x ^^^ w) :: S))) : oWP b p l e R s m args below meth c P Q J h k n (oF m pc Ls (.long w :: .long x :: S)) := K.step fun _ A _ => XT.lxor A C.1 rfl (hb C.2.1 hd) rfl
theorem K_ldiv (C : oCx p s m meth c P Z y B ml rt) {x w : Int64} (hd : decode B pc = .ok (.ldiv, 1)) (hy : w ≠ 0) (K : oWP b p l e R s m args below meth c P Q J h k n (oF m (pc + 1) Ls (.long (x / w) :: S))) : oWP b p l e R s m args below meth c P Q J h k n (oF m pc Ls (.long w :: .long x :: S)) := K.step fun _ A _ => XT.ldiv A C.1 rfl (hb C.2.1 hd) rfl hy
theorem K_irem (C : oCx p s m meth c P Z y B ml rt) {x w : Int32} (hd : decode B pc = .ok (.irem, 1)) (hy : w ≠ 0) (K : oWP b p l e R s m args below meth c P Q J h k n (oF m (pc + 1) Ls (.int (x % w) :: S))) : oWP b p l e R s m args below meth c P Q J h k n (oF m pc Ls (.int w :: .int x :: S)) := K.stepX fun _ T _ _ _ X _ hr => iremM X C.1 rfl (hb C.2.1 hd) rfl hy hr
theorem K_lrem (C : oCx p s m meth c P Z y B ml rt) {x w : Int64} (hd : decode B pc = .ok (.lrem, 1)) (hy : w ≠ 0) (K : oWP b p l e R s m args below meth c P Q J h k n (oF m (pc + 1) Ls (.long (x - (x / w) * w) :: S))) : oWP b p l e R s m args below meth c P Q J h k n (oF m pc Ls (.long w :: .long x :: S)) := K.step fun _ A _ => XT.lrem A C.1 rfl (hb C.2.1 hd) rfl hy
theorem K_lshl (C : oCx p s m meth c P Z y B ml rt) {x : Int64} {w : Int32} (hd : decode B pc = .ok (.lshl, 1)) (K : oWP b p l e R s m args below meth c P Q J h k n (oF m (pc + 1) Ls (.long (x <<< (w.toInt64 &&& 63)) :: S))) : oWP b p l e R s m args below meth c P Q J h k n (oF m pc Ls (.int w :: .long x :: S)) := K.step fun _ A _ => XT.lshl A C.1 rfl (hb C.2.1 hd) rfl
theorem K_lshr (C : oCx p s m meth c P Z y B ml rt) {x : Int64} {w : Int32} (hd : decode B pc = .ok (.lshr, 1)) (K : oWP b p l e R s m args below meth c P Q J h k n (oF m (pc + 1) Ls (.long (x >>> (w.toInt64 &&& 63)) :: S))) : oWP b p l e R s m args below meth c P Q J h k n (oF m pc Ls (.int w :: .long x :: S)) := K.step fun _ A _ => XT.lshr A C.1 rfl (hb C.2.1 hd) rfl
theorem K_lushr (C : oCx p s m meth c P Z y B ml rt) {x : Int64} {w : Int32} (hd : decode B pc = .ok (.lushr, 1)) (K : oWP b p l e R s m args below meth c P Q J h k n (oF m (pc + 1) Ls (.long (XT.ushrL x w) :: S))) : oWP b p l e R s m args below meth c P Q J h k n (oF m pc Ls (.int w :: .long x :: S)) := K.step fun _ A _ => XT.lushr A C.1 rfl (hb C.2.1 hd) rfl
theorem K_ineg (C : oCx p s m meth c P Z y B ml rt) {x : Int32} (hd : decode B pc = .ok (.ineg, 1)) (K : oWP b p l e R s m args below meth c P Q J h k n (oF m (pc + 1) Ls (.int (-x) :: S))) : oWP b p l e R s m args below meth c P Q J h k n (oF m pc Ls (.int x :: S)) := K.step fun _ A _ => XS.ineg A C.1 rfl (hb C.2.1 hd) rfl
theorem K_lneg (C : oCx p s m meth c P Z y B ml rt) {x : Int64} (hd : decode B pc = .ok (.lneg, 1)) (K : oWP b p l e R s m args below meth c P Q J h k n (oF m (pc + 1) Ls (.long (-x) :: S))) : oWP b p l e R s m args below meth c P Q J h k n (oF m pc Ls (.long x :: S)) := K.step fun _ A _ => XT.lneg A C.1 rfl (hb C.2.1 hd) rfl
theorem K_i2l (C : oCx p s m meth c P Z y B ml rt) {x : Int32} (hd : decode B pc = .ok (.i2l, 1)) (K : oWP b p l e R s m args below meth c P Q J h k n (oF m (pc + 1) Ls (.long (x.toInt64) :: S))) : oWP b p l e R s m args below meth c P Q J h k n (oF m pc Ls (.int x :: S)) := K.step fun _ A _ => XT.i2l A C.1 rfl (hb C.2.1 hd) rfl
theorem K_l2i (C : oCx p s m meth c P Z y B ml rt) {x : Int64} (hd : decode B pc = .ok (.l2i, 1)) (K : oWP b p l e R s m args below meth c P Q J h k n (oF m (pc + 1) Ls (.int (x.toInt32) :: S))) : oWP b p l e R s m args below meth c P Q J h k n (oF m pc Ls (.long x :: S)) := K.step fun _ A _ => XT.l2i A C.1 rfl (hb C.2.1 hd) rfl
theorem K_i2b (C : oCx p s m meth c P Z y B ml rt) {x : Int32} (hd : decode B pc = .ok (.i2b, 1)) (K : oWP b p l e R s m args below meth c P Q J h k n (oF m (pc + 1) Ls (.int (x.toInt8.toInt32) :: S))) : oWP b p l e R s m args below meth c P Q J h k n (oF m pc Ls (.int x :: S)) := K.step fun _ A _ => XT.i2b A C.1 rfl (hb C.2.1 hd) rfl
theorem K_i2c (C : oCx p s m meth c P Z y B ml rt) {x : Int32} (hd : decode B pc = .ok (.i2c, 1)) (K : oWP b p l e R s m args below meth c P Q J h k n (oF m (pc + 1) Ls (.int (x.toUInt32.toUInt16.toUInt32.toInt32) :: S))) : oWP b p l e R s m args below meth c P Q J h k n (oF m pc Ls (.int x :: S)) := K.step fun _ A _ => XT.i2c A C.1 rfl (hb C.2.1 hd) rfl
theorem K_i2s (C : oCx p s m meth c P Z y B ml rt) {x : Int32} (hd : decode B pc = .ok (.i2s, 1)) (K : oWP b p l e R s m args below meth c P Q J h k n (oF m (pc + 1) Ls (.int (x.toInt16.toInt32) :: S))) : oWP b p l e R s m args below meth c P Q J h k n (oF m pc Ls (.int x :: S)) := K.step fun _ A _ => XT.i2s A C.1 rfl (hb C.2.1 hd) rfl
theorem K_lcmp (C : oCx p s m meth c P Z y B ml rt) {x w : Int64} (hd : decode B pc = .ok (.lcmp, 1)) (K : oWP b p l e R s m args below meth c P Q J h k n (oF m (pc + 1) Ls (.int (XT.cmpL x w) :: S))) : oWP b p l e R s m args below meth c P Q J h k n (oF m pc Ls (.long w :: .long x :: S)) := K.step fun _ A _ => XT.lcmp A C.1 rfl (hb C.2.1 hd) rfl
theorem K_ret (C : oCx p s m meth c P Z y B ml rt) {v : Option Value} {g : JFrame} (hv : rt = none → v = none) (hk : k ≤ R.cells) (hn : n ≤ R.slots) (hQ : ∀ vm, J vm → Q v h vm)
    (st : ∀ s' T locs ck cn, Stand p l e R s' m args below meth c T locs ck cn → ∀ fs, (∀ (f : JFrame) (acts : List Action), f.method = m → f.locked = none → f.entered = [] → (doReturn e (T.setTop f) acts v).1 = T.setFrames fs) → Steps p.tables e below (T.setTop g) (T.setFrames fs)) : oWP b p l e R s m args below meth c P Q J h k n g := fun T hT => by
  obtain ⟨vm0, k0, locs, ck, cn, X, eT, N, q1, q2, hS, hk0, hbv, hJ⟩ := hT
  obtain ⟨fs, hr, hrun, hended, hW, hsame⟩ := X.leave (v := v) (by rw [C.hrt]; exact hv) C.locks
  obtain ⟨r1, r2, r3⟩ := hS.ended (U := T.setFrames fs) hW (by show k0 ≤ T.heap.size; rw [eT]; exact hk0) hsame
  have hs3 := r3.mono (Nat.le_trans q1 hk) (Nat.le_trans q2 hn)
  refine ⟨_, _, st _ T _ _ _ X fs hr, hrun, hended, _, _, rfl, ⟨?_, N⟩, fun hb => ⟨⟨_, rfl⟩, ?_, hs3⟩, ⟨_, rfl⟩, r1, r2, hs3⟩
  · show Q v T.heap T.vm
    rw [eT]; exact hQ _ (hJ.2 (s.setVm vm0) _ hJ.1 X.warmed)
  · have hb' := hbv hb
    subst hb'
    exact hW
theorem K_ireturn {t : FieldType} (C : oCx p s m meth c P Z y B ml (some t)) {z z' : Int32} (hd : decode B pc = .ok (.ireturn, 1)) (ht : t = .int ∨ t = .boolean ∨ t = .byte ∨ t = .char ∨ t = .short) (hz : nar t z = z') (hk : k ≤ R.cells) (hn : n ≤ R.slots) (hQ : ∀ vm, J vm → Q (some (.int z')) h vm) : oWP b p l e R s m args below meth c P Q J h k n (oF m pc Ls (.int z :: S)) := by
  subst hz
  refine K_ret C (v := some (.int (nar t z))) (fun q => nomatch q) hk hn hQ fun _ T locs ck cn X fs hr => ?_
  rcases ht with rfl | ht
  · exact retOut X C.1 C.hrt rfl (Or.inl ⟨rfl, Or.inl rfl, z, rfl⟩) (hb C.2.1 hd) hr
  · exact retN X C.1 C.hrt ht (hb C.2.1 hd) hr
theorem K_areturn {t : FieldType} (C : oCx p s m meth c P Z y B ml (some t)) {w : Value} (hd : decode B pc = .ok (.areturn, 1)) (ht : t.isReference = true) (hw : w.isRef = true) (hnw : narrow t w = w) (hk : k ≤ R.cells) (hn : n ≤ R.slots) (hQ : ∀ vm, J vm → Q (some w) h vm) : oWP b p l e R s m args below meth c P Q J h k n (oF m pc Ls (w :: S)) :=
  K_ret C (fun q => nomatch q) hk hn hQ fun _ T locs ck cn X fs hr => retOut X C.1 C.hrt hnw (Or.inr (Or.inr (Or.inr (Or.inr ⟨rfl, ht, hw⟩)))) (hb C.2.1 hd) hr
theorem K_lreturn (C : oCx p s m meth c P Z y B ml (some .long)) {w : Int64} (hd : decode B pc = .ok (.lreturn, 1)) (hk : k ≤ R.cells) (hn : n ≤ R.slots) (hQ : ∀ vm, J vm → Q (some (.long w)) h vm) : oWP b p l e R s m args below meth c P Q J h k n (oF m pc Ls (.long w :: S)) :=
  K_ret C (fun q => nomatch q) hk hn hQ fun _ T locs ck cn X fs hr => retOut X C.1 C.hrt rfl (Or.inr (Or.inl ⟨rfl, rfl, w, rfl⟩)) (hb C.2.1 hd) hr
theorem K_return (C : oCx p s m meth c P Z y B ml none) (hd : decode B pc = .ok (.return_, 1)) (hk : k ≤ R.cells) (hn : n ≤ R.slots) (hQ : ∀ vm, J vm → Q none h vm) : oWP b p l e R s m args below meth c P Q J h k n (oF m pc Ls []) :=
  K_ret C (fun _ => rfl) hk hn hQ fun _ T locs ck cn X fs hr => X.returnOut C.1 C.hrt (hb C.2.1 hd) hr
theorem K_ldcI (C : oCx p s m meth c P Z y B ml rt) {idx : Nat} {v : Int32} (w : (Jvm.Cond.constant y.cls idx v).before a0 Z = true) (hd : decode B pc = .ok (.ldc idx, 2)) (K : oWP b p l e R s m args below meth c P Q J h k n (oF m (pc + 2) Ls (.int v :: S))) : oWP b p l e R s m args below meth c P Q J h k n (oF m pc Ls S) := K.law C fun _ C T _ _ _ X eT => ⟨T, X, eT, X.ldcInt C.1 C.own (mvT C.hZ w) (g := oF m pc Ls S) rfl (hb C.2.1 hd)⟩
theorem K_ldcwI (C : oCx p s m meth c P Z y B ml rt) {idx : Nat} {v : Int32} (w : (Jvm.Cond.constant y.cls idx v).before a0 Z = true) (hd : decode B pc = .ok (.ldc_w idx, 3)) (K : oWP b p l e R s m args below meth c P Q J h k n (oF m (pc + 3) Ls (.int v :: S))) : oWP b p l e R s m args below meth c P Q J h k n (oF m pc Ls S) := K.law C fun _ C T _ _ _ X eT => ⟨T, X, eT, X.ldcwInt C.1 C.own (mvT C.hZ w) (g := oF m pc Ls S) rfl (hb C.2.1 hd)⟩
theorem K_ldc2J (C : oCx p s m meth c P Z y B ml rt) {idx : Nat} {v : Int64} (w : (Jvm.Cond.constantLong y.cls idx v).before a0 Z = true) (hd : decode B pc = .ok (.ldc2_w idx, 3)) (K : oWP b p l e R s m args below meth c P Q J h k n (oF m (pc + 3) Ls (.long v :: S))) : oWP b p l e R s m args below meth c P Q J h k n (oF m pc Ls S) := K.law C fun _ C T _ _ _ X eT => ⟨T, X, eT, X.ldc2Long C.1 C.own (mvT C.hZ w) (g := oF m pc Ls S) rfl (hb C.2.1 hd)⟩
theorem K_ldcS (C : oCx p s m meth c P Z y B ml rt) {idx nn : Nat} {text : String} (w : (Jvm.Cond.stringLink y.cls idx text).before a0 Z = true) (wS : ∀ a ∈ Bundle.stringAtoms, a.before a0 Z = true) (hd : decode B pc = .ok (.ldc idx, 2)) (hnn : 4 * text.toList.length ≤ nn) (hbig : nn ≤ 536870912) (hk : k + 2 ≤ R.cells) (hn : n + (nn + 4) ≤ R.slots) (K : ∀ a h', Ext h h' → oWP true p l e R s m args below meth c P Q oT h' (k + 2) (n + (nn + 4)) (oF m (pc + 2) Ls (.ref a :: S))) : oWP true p l e R s m args below meth c P Q oT h k n (oF m pc Ls S) := fun T hT => by
  obtain ⟨vm0, k0, locs, ck, cn, X, eT, N, q1, q2, hS, hk0, hbv, hJ⟩ := hT
  have C' := C.rebase hS
  obtain ⟨a, T', h', k1, X', e', E, hS1, hk1, -, -, st⟩ := ldcS X C.1 C'.hZ C'.own w wS eT hS hk0 (g := oF m pc Ls S) rfl (hb C.2.1 hd) hnn hbig (by omega) (by omega)
  obtain ⟨u, o, g1, g2⟩ := K a h' E T' ⟨_, k1, locs, _, _, X', e', N, by omega, by omega, hS1, hk1, (fun q => nomatch q), trivial, oTs⟩
  exact ⟨u, o, st u g1, g2⟩
theorem K_ldcwS (C : oCx p s m meth c P Z y B ml rt) {idx nn : Nat} {text : String} (w : (Jvm.Cond.stringLink y.cls idx text).before a0 Z = true) (wS : ∀ a ∈ Bundle.stringAtoms, a.before a0 Z = true) (hd : decode B pc = .ok (.ldc_w idx, 3)) (hnn : 4 * text.toList.length ≤ nn) (hbig : nn ≤ 536870912) (hk : k + 2 ≤ R.cells) (hn : n + (nn + 4) ≤ R.slots) (K : ∀ a h', Ext h h' → oWP true p l e R s m args below meth c P Q oT h' (k + 2) (n + (nn + 4)) (oF m (pc + 3) Ls (.ref a :: S))) : oWP true p l e R s m args below meth c P Q oT h k n (oF m pc Ls S) := fun T hT => by
  obtain ⟨vm0, k0, locs, ck, cn, X, eT, N, q1, q2, hS, hk0, hbv, hJ⟩ := hT
  have C' := C.rebase hS
  obtain ⟨a, T', h', k1, X', e', E, hS1, hk1, -, -, st⟩ := ldcSW X C.1 C'.hZ C'.own w wS eT hS hk0 (g := oF m pc Ls S) rfl (hb C.2.1 hd) hnn hbig (by omega) (by omega)
  obtain ⟨u, o, g1, g2⟩ := K a h' E T' ⟨_, k1, locs, _, _, X', e', N, by omega, by omega, hS1, hk1, (fun q => nomatch q), trivial, oTs⟩
  exact ⟨u, o, st u g1, g2⟩
theorem K_getF (C : oCx p s m meth c P Z y B ml rt) {R0 O f d : String} {idx : Nat} {a : Addr} {v : Value} (w : (Jvm.Cond.fieldLink y.cls idx R0 f d).before a0 Z = true) (via : Via Z R0 O f d) (F : Fld Z h a O f d v) (hd : decode B pc = .ok (.getfield idx, 3)) (K : oWP b p l e R s m args below meth c P Q J h k n (oF m (pc + 3) Ls (v :: S))) : oWP b p l e R s m args below meth c P Q J h k n (oF m pc Ls (.ref a :: S)) := K.law C fun _ C T _ _ _ X eT => getF X C.1 C.hZ C.own (host := "") (Or.inl w) via eT F (g := oF m pc Ls (.ref a :: S)) rfl rfl (hb C.2.1 hd)
theorem K_getS (C : oCx p s m meth c P Z y B ml rt) {R0 O f d : String} {idx : Nat} {v : Value} (w : (Jvm.Cond.fieldLink y.cls idx R0 f d).before a0 Z = true) (via : Via Z R0 O f d) (F : Sta Z Z.heap O f d v) (hd : decode B pc = .ok (.getstatic idx, 3)) (K : oWP b p l e R s m args below meth c P Q J h k n (oF m (pc + 3) Ls (v :: S))) : oWP b p l e R s m args below meth c P Q J h k n (oF m pc Ls S) := K_old C fun hE _ _ => K.law C fun _ C T _ _ _ X eT => getS2 X C.1 C.hZ C.own (host := "") (Or.inl w) via eT (F.ext hE) (g := oF m pc Ls S) rfl (hb C.2.1 hd)
theorem K_putF (C : oCx p s m meth c P Z y B ml rt) {R0 O f d Cn : String} {idx kk : Nat} {ty : FieldType} {a : Addr} {v old : Value} (w : (Jvm.Cond.fieldLink y.cls idx R0 f d).before a0 Z = true) (via : Via Z R0 O f d) (F : Fld Z h a O f d old) (E : Exa Z h a Cn) (L : (Jvm.Cond.lays Cn O f d).before a0 Z = true ∨ ((Jvm.Cond.laysFinal Cn O f d).before a0 Z = true ∧ y.cls = O ∧ y.name = "<init>")) (wi : (Jvm.Cond.instantiable Cn kk).before a0 Z = true)
    (hty : parseFieldDescriptor d = some ty) (hnv : narrow ty v = v) (hf : fits ty v = true) (hP : P a) (hd : decode B pc = .ok (.putfield idx, 3)) (K : ∀ h', Wr h h' a (RoadKit.slotOf Z O f d) v → oWP b p l e R s m args below meth c P Q J h' k n (oF m (pc + 3) Ls S)) : oWP b p l e R s m args below meth c P Q J h k n (oF m pc Ls (v :: .ref a :: S)) := fun T hT => by
  obtain ⟨vm0, k0, locs, ck, cn, X, eT, N, q1, q2, hS, hk0, hbv, hJ⟩ := hT
  have C' := C.rebase hS
  obtain ⟨T', h', X', e', Wr1, st⟩ := putF X C.1 C'.hZ C'.own (host := "") (Or.inl w) via eT F E (L.imp id fun q => ⟨q.1, q.2.1, C.nm.trans q.2.2⟩) wi hty hnv hf (g := oF m pc Ls (v :: .ref a :: S)) rfl rfl (hb C.2.1 hd)
  obtain ⟨u, o, g1, g2⟩ := K h' Wr1 T' ⟨vm0, k0, _, ck, cn, X', e', N.snoc hP, q1, q2, hS, by rw [Wr1.size]; exact hk0, hbv, hJ⟩
  exact ⟨u, o, st u g1, g2⟩
theorem K_getFN (C : oCx p s m meth c P Z y B ml rt) {R0 O f d : String} {host : String} {idx : Nat} {a : Addr} {v : Value} (w : (Jvm.Cond.fieldLinkNest y.cls idx R0 f d host).before a0 Z = true) (via : Via Z R0 O f d) (F : Fld Z h a O f d v) (hd : decode B pc = .ok (.getfield idx, 3)) (K : oWP b p l e R s m args below meth c P Q J h k n (oF m (pc + 3) Ls (v :: S))) : oWP b p l e R s m args below meth c P Q J h k n (oF m pc Ls (.ref a :: S)) := K.law C fun _ C T _ _ _ X eT => getF X C.1 C.hZ C.own (Or.inr w) via eT F (g := oF m pc Ls (.ref a :: S)) rfl rfl (hb C.2.1 hd)
theorem K_getSN (C : oCx p s m meth c P Z y B ml rt) {R0 O f d : String} {host : String} {idx : Nat} {v : Value} (w : (Jvm.Cond.fieldLinkNest y.cls idx R0 f d host).before a0 Z = true) (via : Via Z R0 O f d) (F : Sta Z Z.heap O f d v) (hd : decode B pc = .ok (.getstatic idx, 3)) (K : oWP b p l e R s m args below meth c P Q J h k n (oF m (pc + 3) Ls (v :: S))) : oWP b p l e R s m args below meth c P Q J h k n (oF m pc Ls S) := K_old C fun hE _ _ => K.law C fun _ C T _ _ _ X eT => getS2 X C.1 C.hZ C.own (Or.inr w) via eT (F.ext hE) (g := oF m pc Ls S) rfl (hb C.2.1 hd)
theorem K_putFN (C : oCx p s m meth c P Z y B ml rt) {R0 O f d Cn : String} {host : String} {idx kk : Nat} {ty : FieldType} {a : Addr} {v old : Value} (w : (Jvm.Cond.fieldLinkNest y.cls idx R0 f d host).before a0 Z = true) (via : Via Z R0 O f d) (F : Fld Z h a O f d old) (E : Exa Z h a Cn) (L : (Jvm.Cond.lays Cn O f d).before a0 Z = true ∨ ((Jvm.Cond.laysFinal Cn O f d).before a0 Z = true ∧ y.cls = O ∧ y.name = "<init>")) (wi : (Jvm.Cond.instantiable Cn kk).before a0 Z = true)
    (hty : parseFieldDescriptor d = some ty) (hnv : narrow ty v = v) (hf : fits ty v = true) (hP : P a) (hd : decode B pc = .ok (.putfield idx, 3)) (K : ∀ h', Wr h h' a (RoadKit.slotOf Z O f d) v → oWP b p l e R s m args below meth c P Q J h' k n (oF m (pc + 3) Ls S)) : oWP b p l e R s m args below meth c P Q J h k n (oF m pc Ls (v :: .ref a :: S)) := fun T hT => by
  obtain ⟨vm0, k0, locs, ck, cn, X, eT, N, q1, q2, hS, hk0, hbv, hJ⟩ := hT
  have C' := C.rebase hS
  obtain ⟨T', h', X', e', Wr1, st⟩ := putF X C.1 C'.hZ C'.own (Or.inr w) via eT F E (L.imp id fun q => ⟨q.1, q.2.1, C.nm.trans q.2.2⟩) wi hty hnv hf (g := oF m pc Ls (v :: .ref a :: S)) rfl rfl (hb C.2.1 hd)
  obtain ⟨u, o, g1, g2⟩ := K h' Wr1 T' ⟨vm0, k0, _, ck, cn, X', e', N.snoc hP, q1, q2, hS, by rw [Wr1.size]; exact hk0, hbv, hJ⟩
  exact ⟨u, o, st u g1, g2⟩
theorem K_new (C : oCx p s m meth c P Z y B ml rt) {Cn : String} {idx sz : Nat} (w : (Jvm.Cond.classLink y.cls idx Cn).before a0 Z = true) (wi : (Jvm.Cond.instantiable Cn sz).before a0 Z = true) (wz : (Jvm.Cond.initialized Cn).before a0 Z = true) (hd : decode B pc = .ok (.new idx, 3)) (hk : k + 1 ≤ R.cells) (hn : n + sz ≤ R.slots)
    (K : ∀ h' a, a = h.size → P a → Ext h h' → Exa Z h' a Cn → (∀ {O nm d : String} {ty : FieldType}, Laid Z a0 Cn O nm d → parseFieldDescriptor d = some ty → Fld Z h' a O nm d (defaultValue ty)) → oWP b p l e R s m args below meth c P Q J h' (k + 1) (n + sz) (oF m (pc + 3) Ls (.ref a :: S))) : oWP b p l e R s m args below meth c P Q J h k n (oF m pc Ls S) := fun T hT => by
  have hO := oSd.old C hT
  obtain ⟨vm0, k0, locs, ck, cn, X, eT, N, q1, q2, hS, hk0, hbv, hJ⟩ := hT
  have C' := C.rebase hS
  obtain ⟨T', h', X', e', E, A, D, -, st⟩ := newO X C.1 C'.hZ C'.own w wi wz eT (g := oF m pc Ls S) rfl (hb C.2.1 hd) (by omega) (by omega)
  obtain ⟨u, o, g1, g2⟩ := K h' h.size rfl (C.new _ hO.2.1) E A D T' ⟨vm0, k0, locs, _, _, X', e', N, by omega, by omega, hS, Nat.le_trans hk0 E.1, hbv, hJ⟩
  exact ⟨u, o, st u g1, g2⟩
theorem K_initO (C : oCx p s m meth c P Z y B ml rt) {idx : Nat} {a : Addr} (w1 : (Jvm.Cond.methodLink y.cls idx Lib.objectInit).before a0 Z = true) (w2 : (Jvm.Cond.instanceMethod Lib.objectInit).before a0 Z = true) (w3 : (Jvm.Cond.code Lib.objectInit ⟨#[0xb1]⟩ 1 none).before a0 Z = true) (hd : decode B pc = .ok (.invokespecial idx, 3)) (hml : Ls.length = ml) (hf : 1 ≤ R.frames) (hl : (S.map fun v => v.category).sum + 12 ≤ R.locals) (K : oWP b p l e R s m args below meth c P Q J h k n (oF m (pc + 3) Ls S)) : oWP b p l e R s m args below meth c P Q J h k n (oF m pc Ls (.ref a :: S)) :=
  K.law C fun _ C T _ _ _ X eT => initO X C.1 C.hZ C.own w1 w2 w3 eT (g := oF m pc Ls (.ref a :: S)) rfl (by rw [C.hml]; exact hml) rfl (hb C.2.1 hd) hf (W := (S.map fun v => v.category).sum) (by show 2 * 0 + _ ≤ _; exact Nat.le_of_eq (Nat.zero_add _)) hl
theorem oBackW {s' : State} {z : MethodName} {B' : ByteArray} {ml' len W : Nat} {rt' : Option FieldType} {rm : Room} {as' : Array Value} {P' : Addr → Prop} {J' : Vm → Prop} {Q' : Option Value → Heap → Vm → Prop}
    (M : oMeetsW l Z z B' ml' rt' rm as' h P' J' Q') (hE : Ext Z.heap h) (hZ : Z.Warmed39 s'.vm) (wc : (Jvm.Cond.code z B' ml' rt').before a0 Z = true) (wz : (Jvm.Cond.initialized z.cls).before a0 Z = true) (hf : rm.frames + 1 ≤ R.frames) (hl : W + (ml' + 11) + rm.locals ≤ R.locals) :
    BackS l R p e below s' args z len W (fun A a => a = as' ∧ A.U.heap = h ∧ A.cells + rm.cells ≤ R.cells ∧ A.slots + rm.slots ≤ R.slots ∧ J' A.U.vm)
      (fun A _ v B => ∃ L, (Q' v B.U.heap B.U.vm ∧ oAl P' L ∧ oKp P' h B.U.heap) ∧ B.locs = A.locs ++ L ∧ B.cells = A.cells + rm.cells ∧ B.slots = A.slots + rm.slots) :=
  BackS.of_freeW (bytes := B') (maxL := ml') (ret := rt') (E := fun _ _ o t L k n => k = rm.cells ∧ n = rm.slots ∧ ∃ v, o = .returned v ∧ (Q' v t.heap t.vm ∧ oAl P' L ∧ oKp P' h t.heap)) (M hE []) hf hl
    (fun m meth c A a Y hp => have hU : Z.Warmed39 A.U.vm := wtrans hZ Y.warmed
      ⟨by show (Jvm.Cond.and _ .tt).before a A.U = true; rw [Cond.before_and, mv hU wc]; rfl, mv hU wc, mv hU wz, hp.2.2.1, hp.2.2.2.1⟩)
    (fun m meth c A a g mk Y hp => ⟨hp.1, wtrans hZ Y.warmed, hp.2.1, hp.2.2.2.2⟩) (fun _ _ _ _ _ _ _ _ _ => trivial)
    (fun _ _ _ _ ⟨v, L, h1, h2, h3⟩ => ⟨L, _, _, h3, rfl, rfl, v, h1, h2⟩)
    (fun m meth c A a g mk v t L k n Y hp _ _ ⟨e1, e2, v', e3, e4⟩ => by cases e3; subst e1 e2; exact ⟨L, e4, rfl, rfl, rfl⟩)
theorem K_static (C : oCx p s m meth c P Z y B ml rt) {idx : Nat} {z : MethodName} {B' : ByteArray} {ml' : Nat} {rt' : Option FieldType} {rm : Room} {as' : Array Value} {P' : Addr → Prop} {Q' : Option Value → Heap → Prop} {argsL rest : List Value} {ps : List FieldType} {rr : Option FieldType} (M : oMeets l Z z B' ml' rt' rm as' h P' Q') (w1 : (Jvm.Cond.methodLink y.cls idx z).before a0 Z = true) (w2 : (Jvm.Cond.static z).before a0 Z = true) (w3 : (Jvm.Cond.initialized z.cls).before a0 Z = true) (w4 : (Jvm.Cond.code z B' ml' rt').before a0 Z = true) (hy : z.cls ≠ "java/lang/invoke/MethodHandle" ∧ z.cls ≠ "java/lang/invoke/VarHandle") (hpd : parseMethodDescriptor z.desc = some ⟨ps, rr⟩) (hd : decode B pc = .ok (.invokestatic idx, 3)) (hS : S = argsL.reverse ++ rest) (hlen : argsL.length = ps.length) (ha : argsL.toArray = as') (hml : Ls.length = ml) (hP : ∀ a, s.heap.size ≤ h.size → P' a → P a) (hf : rm.frames + 1 ≤ R.frames) (hl : (rest.map fun v => v.category).sum + (ml' + 11) + rm.locals ≤ R.locals) (hk : k + rm.cells ≤ R.cells) (hn : n + rm.slots ≤ R.slots)
    (K : ∀ v h', Q' v h' → oKp P' h h' → oWP b p l e R s m args below meth c P Q J h' (k + rm.cells) (n + rm.slots) (oF m (pc + 3) Ls (v.toList ++ rest))) : oWP b p l e R s m args below meth c P Q J h k n (oF m pc Ls S) := fun T hT => by
  obtain ⟨hE, hle, -⟩ := oSd.old C hT
  obtain ⟨vm0, k0, locs, ck, cn, X, eT, N, q1, q2, hSi, hk0, hbv, hJ⟩ := hT
  subst hS
  have C' := C.rebase hSi
  obtain ⟨v, vm₁, ⟨T', L', k', n'⟩, -, X', ⟨Lc, ⟨hQ, hN, hK⟩, e1, e2, e3⟩, st⟩ := Jvm.LawKit.callS X C.1 (y := z) C'.own (mvT C'.hZ w1) (mvT C'.hZ w2) (mvT C'.hZ w3) (mvT C'.hZ w4) hy (backOf (W := (rest.map fun v => v.category).sum) (Q := fun v h' L => Q' v h' ∧ oAl P' L ∧ oKp P' h h') (M hE []) C'.hZ w4 w3 hf hl) (g := oF m pc Ls (argsL.reverse ++ rest)) rfl (by rw [C.hml]; exact hml) (argsL := argsL) (rest := rest) (lenOf hpd hlen) rfl (by show 2 * 0 + _ ≤ _; exact Nat.le_of_eq (Nat.zero_add _)) (hb C.2.1 hd) (fun vm₁ hw₁ => ⟨ha, eT, by show ck + _ ≤ _; omega, by show cn + _ ≤ _; omega⟩)
  dsimp only [Pt.U, Pt.locs, Pt.cells, Pt.slots] at X' e1 e2 e3 st hQ hK
  subst e1 e2 e3
  obtain ⟨u, o, g1, g2⟩ := K v T'.heap hQ hK T' ⟨vm0, k0, _, _, _, X', rfl, N.app fun q hq => hP _ hle (hN q hq), by omega, by omega, hSi, Nat.le_trans hk0 hK.1, hbv, hJ⟩
  exact ⟨u, o, st u g1, g2⟩
theorem K_special (C : oCx p s m meth c P Z y B ml rt) {idx : Nat} {z : MethodName} {B' : ByteArray} {ml' : Nat} {rm : Room} {as' : Array Value} {P' : Addr → Prop} {Q' : Option Value → Heap → Prop} {argsL rest : List Value} {ps : List FieldType} {rr : Option FieldType} (M : oMeets l Z z B' ml' none rm as' h P' Q') {a : Addr} (w1 : (Jvm.Cond.methodLink y.cls idx z).before a0 Z = true) (w2 : (Jvm.Cond.instanceMethod z).before a0 Z = true) (w3 : (Jvm.Cond.initialized z.cls).before a0 Z = true) (w4 : (Jvm.Cond.code z B' ml' none).before a0 Z = true) (hi : z.name = "<init>") (hy : z.cls ≠ "java/lang/invoke/MethodHandle" ∧ z.cls ≠ "java/lang/invoke/VarHandle") (hpd : parseMethodDescriptor z.desc = some ⟨ps, rr⟩) (hd : decode B pc = .ok (.invokespecial idx, 3)) (hS : S = argsL.reverse ++ .ref a :: rest) (hlen : argsL.length = ps.length) (ha : (.ref a :: argsL).toArray = as') (hml : Ls.length = ml) (hP : ∀ a, s.heap.size ≤ h.size → P' a → P a) (hf : rm.frames + 1 ≤ R.frames) (hl : (rest.map fun v => v.category).sum + (ml' + 11) + rm.locals ≤ R.locals) (hk : k + rm.cells ≤ R.cells) (hn : n + rm.slots ≤ R.slots)
    (K : ∀ v h', Q' v h' → oKp P' h h' → oWP b p l e R s m args below meth c P Q J h' (k + rm.cells) (n + rm.slots) (oF m (pc + 3) Ls (v.toList ++ rest))) : oWP b p l e R s m args below meth c P Q J h k n (oF m pc Ls S) := fun T hT => by
  obtain ⟨hE, hle, -⟩ := oSd.old C hT
  obtain ⟨vm0, k0, locs, ck, cn, X, eT, N, q1, q2, hSi, hk0, hbv, hJ⟩ := hT
  subst hS
  have C' := C.rebase hSi
  obtain ⟨v, vm₁, ⟨T', L', k', n'⟩, -, X', ⟨Lc, ⟨hQ, hN, hK⟩, e1, e2, e3⟩, st⟩ := X.specialBack C.1 (y := z) hi C'.own (mvT C'.hZ w1) (mvT C'.hZ w2) (mvT C'.hZ w4) hy (backOf (W := (rest.map fun v => v.category).sum) (Q := fun v h' L => Q' v h' ∧ oAl P' L ∧ oKp P' h h') (M hE []) C'.hZ w4 w3 hf hl) (g := oF m pc Ls (argsL.reverse ++ .ref a :: rest)) rfl (by rw [C.hml]; exact hml) (Steps.refl _) (a := a) (argsL := argsL) (rest := rest) (lenOf hpd hlen) rfl (by show 2 * 0 + _ ≤ _; exact Nat.le_of_eq (Nat.zero_add _)) (hb C.2.1 hd) (fun vm₁ hw₁ => ⟨ha, eT, by show ck + _ ≤ _; omega, by show cn + _ ≤ _; omega⟩)
  dsimp only [Pt.U, Pt.locs, Pt.cells, Pt.slots] at X' e1 e2 e3 st hQ hK
  subst e1 e2 e3
  obtain ⟨u, o, g1, g2⟩ := K v T'.heap hQ hK T' ⟨vm0, k0, _, _, _, X', rfl, N.app fun q hq => hP _ hle (hN q hq), by omega, by omega, hSi, Nat.le_trans hk0 hK.1, hbv, hJ⟩
  exact ⟨u, o, st.trans g1, g2⟩
theorem K_virtual (C : oCx p s m meth c P Z y B ml rt) {idx : Nat} {z z0 : MethodName} {B' : ByteArray} {ml' : Nat} {rt' : Option FieldType} {rm : Room} {as' : Array Value} {P' : Addr → Prop} {Q' : Option Value → Heap → Prop} {argsL rest : List Value} {ps : List FieldType} {rr : Option FieldType} (M : oMeets l Z z B' ml' rt' rm as' h P' Q') {a : Addr} {Cn : String} (E : Exa Z h a Cn) (w1 : (Jvm.Cond.methodLink y.cls idx z0).before a0 Z = true) (wd : (Jvm.Cond.declares z0).before a0 Z = true) (nf : ∀ s', Z.Warmed39 s'.vm → NotFace s' z0) (ws : (Jvm.Cond.selects Cn z0 z).before a0 Z = true) (w2 : (Jvm.Cond.instanceMethod z).before a0 Z = true) (w3 : (Jvm.Cond.initialized z.cls).before a0 Z = true) (w4 : (Jvm.Cond.code z B' ml' rt').before a0 Z = true) (hy : z0.cls ≠ "java/lang/invoke/MethodHandle" ∧ z0.cls ≠ "java/lang/invoke/VarHandle") (hpd : parseMethodDescriptor z0.desc = some ⟨ps, rr⟩) (hd : decode B pc = .ok (.invokevirtual idx, 3)) (hS : S = argsL.reverse ++ .ref a :: rest) (hlen : argsL.length = ps.length) (ha : (.ref a :: argsL).toArray = as') (hml : Ls.length = ml) (hP : ∀ a, s.heap.size ≤ h.size → P' a → P a) (hf : rm.frames + 1 ≤ R.frames) (hl : (rest.map fun v => v.category).sum + (ml' + 11) + rm.locals ≤ R.locals) (hk : k + rm.cells ≤ R.cells) (hn : n + rm.slots ≤ R.slots)
    (K : ∀ v h', Q' v h' → oKp P' h h' → oWP b p l e R s m args below meth c P Q J h' (k + rm.cells) (n + rm.slots) (oF m (pc + 3) Ls (v.toList ++ rest))) : oWP b p l e R s m args below meth c P Q J h k n (oF m pc Ls S) := fun T hT => by
  obtain ⟨hE, hle, -⟩ := oSd.old C hT
  obtain ⟨vm0, k0, locs, ck, cn, X, eT, N, q1, q2, hSi, hk0, hbv, hJ⟩ := hT
  subst hS
  have C' := C.rebase hSi
  obtain ⟨cq, kq, qa, qb, qc⟩ := isOf C'.hZ eT E
  obtain ⟨v, vm₁, ⟨T', L', k', n'⟩, -, X', ⟨Lc, ⟨hQ, hN, hK⟩, e1, e2, e3⟩, st⟩ := X.virtualBack C.1 (y := z0) (z := z) C'.own (mvT C'.hZ w1) (mvT C'.hZ wd) (nf _ C'.hZ) (mvT C'.hZ ws) (mvT C'.hZ w2) hy (backOf (W := (rest.map fun v => v.category).sum) (Q := fun v h' L => Q' v h' ∧ oAl P' L ∧ oKp P' h h') (M hE []) C'.hZ w4 w3 hf hl) qa qc (g := oF m pc Ls (argsL.reverse ++ .ref a :: rest)) rfl (by rw [C.hml]; exact hml) (Steps.refl _) (argsL := argsL) (rest := rest) (lenOf hpd hlen) rfl (by show 2 * 0 + _ ≤ _; exact Nat.le_of_eq (Nat.zero_add _)) (hb C.2.1 hd) (fun vm₁ hw₁ => ⟨ha, eT, by show ck + _ ≤ _; omega, by show cn + _ ≤ _; omega⟩)
  dsimp only [Pt.U, Pt.locs, Pt.cells, Pt.slots] at X' e1 e2 e3 st hQ hK
  subst e1 e2 e3
  obtain ⟨u, o, g1, g2⟩ := K v T'.heap hQ hK T' ⟨vm0, k0, _, _, _, X', rfl, N.app fun q hq => hP _ hle (hN q hq), by omega, by omega, hSi, Nat.le_trans hk0 hK.1, hbv, hJ⟩
  exact ⟨u, o, st.trans g1, g2⟩
theorem K_virtualUp (C : oCx p s m meth c P Z y B ml rt) {idx : Nat} {z z0 : MethodName} {B' : ByteArray} {ml' : Nat} {rt' : Option FieldType} {rm : Room} {as' : Array Value} {P' : Addr → Prop} {Q' : Option Value → Heap → Prop} {argsL rest : List Value} {ps : List FieldType} {rr : Option FieldType} (M : oMeets l Z z B' ml' rt' rm as' h P' Q') {a : Addr} {Cn owner : String} (E : Exa Z h a Cn) (w1 : (Jvm.Cond.methodLink y.cls idx z0).before a0 Z = true) (wsm : (Jvm.Cond.sameMethod z0.cls owner z0.name z0.desc).before a0 Z = true) (wd : (Jvm.Cond.declares ⟨owner, z0.name, z0.desc⟩).before a0 Z = true) (ws : (Jvm.Cond.selects Cn z0 z).before a0 Z = true) (w2 : (Jvm.Cond.instanceMethod z).before a0 Z = true) (w3 : (Jvm.Cond.initialized z.cls).before a0 Z = true) (w4 : (Jvm.Cond.code z B' ml' rt').before a0 Z = true) (hy : owner ≠ "java/lang/invoke/MethodHandle" ∧ owner ≠ "java/lang/invoke/VarHandle") (hpd : parseMethodDescriptor z0.desc = some ⟨ps, rr⟩) (hd : decode B pc = .ok (.invokevirtual idx, 3)) (hS : S = argsL.reverse ++ .ref a :: rest) (hlen : argsL.length = ps.length) (ha : (.ref a :: argsL).toArray = as') (hml : Ls.length = ml) (hP : ∀ a, s.heap.size ≤ h.size → P' a → P a) (hf : rm.frames + 1 ≤ R.frames) (hl : (rest.map fun v => v.category).sum + (ml' + 11) + rm.locals ≤ R.locals) (hk : k + rm.cells ≤ R.cells) (hn : n + rm.slots ≤ R.slots)
    (K : ∀ v h', Q' v h' → oKp P' h h' → oWP b p l e R s m args below meth c P Q J h' (k + rm.cells) (n + rm.slots) (oF m (pc + 3) Ls (v.toList ++ rest))) : oWP b p l e R s m args below meth c P Q J h k n (oF m pc Ls S) := fun T hT => by
  obtain ⟨hE, hle, -⟩ := oSd.old C hT
  obtain ⟨vm0, k0, locs, ck, cn, X, eT, N, q1, q2, hSi, hk0, hbv, hJ⟩ := hT
  subst hS
  have C' := C.rebase hSi
  obtain ⟨cq, kq, qa, qb, qc⟩ := isOf C'.hZ eT E
  obtain ⟨v, vm₁, ⟨T', L', k', n'⟩, -, X', ⟨Lc, ⟨hQ, hN, hK⟩, e1, e2, e3⟩, st⟩ := X.virtualBackUp C.1 (x := z0) (y := z) C'.own (mvT C'.hZ w1) (mvT C'.hZ wsm) (mvT C'.hZ wd) hy (mvT C'.hZ ws) (mvT C'.hZ w2) (backOf (W := (rest.map fun v => v.category).sum) (Q := fun v h' L => Q' v h' ∧ oAl P' L ∧ oKp P' h h') (M hE []) C'.hZ w4 w3 hf hl) qa qc (g := oF m pc Ls (argsL.reverse ++ .ref a :: rest)) rfl (by rw [C.hml]; exact hml) (Steps.refl _) (argsL := argsL) (rest := rest) (lenOf hpd hlen) rfl (by show 2 * 0 + _ ≤ _; exact Nat.le_of_eq (Nat.zero_add _)) (hb C.2.1 hd) (fun vm₁ hw₁ => ⟨ha, eT, by show ck + _ ≤ _; omega, by show cn + _ ≤ _; omega⟩)
  dsimp only [Pt.U, Pt.locs, Pt.cells, Pt.slots] at X' e1 e2 e3 st hQ hK
  subst e1 e2 e3
  obtain ⟨u, o, g1, g2⟩ := K v T'.heap hQ hK T' ⟨vm0, k0, _, _, _, X', rfl, N.app fun q hq => hP _ hle (hN q hq), by omega, by omega, hSi, Nat.le_trans hk0 hK.1, hbv, hJ⟩
  exact ⟨u, o, st.trans g1, g2⟩
theorem K_staticW (C : oCx p s m meth c P Z y B ml rt) {idx : Nat} {z : MethodName} {B' : ByteArray} {ml' : Nat} {rt' : Option FieldType} {rm : Room} {as' : Array Value} {P' : Addr → Prop} {J' : Vm → Prop} {Q' : Option Value → Heap → Vm → Prop} {argsL rest : List Value} {ps : List FieldType} {rr : Option FieldType} (M : oMeetsW l Z z B' ml' rt' rm as' h P' J' Q') (hJJ : ∀ vm, J vm → J' vm) (w1 : (Jvm.Cond.methodLink y.cls idx z).before a0 Z = true) (w2 : (Jvm.Cond.static z).before a0 Z = true) (w3 : (Jvm.Cond.initialized z.cls).before a0 Z = true) (w4 : (Jvm.Cond.code z B' ml' rt').before a0 Z = true) (hy : z.cls ≠ "java/lang/invoke/MethodHandle" ∧ z.cls ≠ "java/lang/invoke/VarHandle") (hpd : parseMethodDescriptor z.desc = some ⟨ps, rr⟩) (hd : decode B pc = .ok (.invokestatic idx, 3)) (hS : S = argsL.reverse ++ rest) (hlen : argsL.length = ps.length) (ha : argsL.toArray = as') (hml : Ls.length = ml) (hP : ∀ a, s.heap.size ≤ h.size → P' a → P a) (hf : rm.frames + 1 ≤ R.frames) (hl : (rest.map fun v => v.category).sum + (ml' + 11) + rm.locals ≤ R.locals) (hk : k + rm.cells ≤ R.cells) (hn : n + rm.slots ≤ R.slots)
    (K : ∀ v h' vm', Q' v h' vm' → oKp P' h h' → ∃ J1 : Vm → Prop, J1 vm' ∧ oJs J1 ∧ oWP true p l e R s m args below meth c P Q J1 h' (k + rm.cells) (n + rm.slots) (oF m (pc + 3) Ls (v.toList ++ rest))) : oWP true p l e R s m args below meth c P Q J h k n (oF m pc Ls S) := fun T hT => by
  obtain ⟨hE, hle, -⟩ := oSd.old C hT
  obtain ⟨vm0, k0, locs, ck, cn, X, eT, N, q1, q2, hSi, hk0, hbv, hJ⟩ := hT
  subst hS
  have C' := C.rebase hSi
  obtain ⟨v, vm₁, ⟨T', L', k', n'⟩, -, X', hS2, hgr, ⟨Lc, ⟨hQ, hN, hK⟩, e1, e2, e3⟩, st⟩ := callSS X C.1 (y := z) C'.own (mvT C'.hZ w1) (mvT C'.hZ w2) (mvT C'.hZ w3) (mvT C'.hZ w4) hy (oBackW (W := (rest.map fun v => v.category).sum) M hE C'.hZ w4 w3 hf hl) (g := oF m pc Ls (argsL.reverse ++ rest)) rfl (by rw [C.hml]; exact hml) (argsL := argsL) (rest := rest) (lenOf hpd hlen) rfl (by show 2 * 0 + _ ≤ _; exact Nat.le_of_eq (Nat.zero_add _)) (hb C.2.1 hd) (fun vm₁ hw₁ => ⟨ha, eT, by show ck + _ ≤ _; omega, by show cn + _ ≤ _; omega, hJJ _ (hJ.2 (s.setVm vm0) _ hJ.1 hw₁)⟩)
  dsimp only [Pt.U, Pt.locs, Pt.cells, Pt.slots] at X' hS2 hgr e1 e2 e3 st hQ hK
  subst e1 e2 e3
  obtain ⟨J1, j1, j2, K1⟩ := K v T'.heap T'.vm hQ hK
  obtain ⟨u, o, g1, g2⟩ := K1 T' ⟨T'.vm, T'.heap.size, _, _, _, X', rfl, N.app fun q hq => hP _ hle (hN q hq), by omega, by omega, foldS hSi (by rw [eT]; exact hk0) hS2 hgr, Nat.le_refl _, (fun q => nomatch q), j1, j2⟩
  exact ⟨u, o, st.trans g1, g2⟩
theorem K_specialW (C : oCx p s m meth c P Z y B ml rt) {idx : Nat} {z : MethodName} {B' : ByteArray} {ml' : Nat} {rm : Room} {as' : Array Value} {P' : Addr → Prop} {J' : Vm → Prop} {Q' : Option Value → Heap → Vm → Prop} {argsL rest : List Value} {ps : List FieldType} {rr : Option FieldType} (M : oMeetsW l Z z B' ml' none rm as' h P' J' Q') (hJJ : ∀ vm, J vm → J' vm) {a : Addr} (w1 : (Jvm.Cond.methodLink y.cls idx z).before a0 Z = true) (w2 : (Jvm.Cond.instanceMethod z).before a0 Z = true) (w3 : (Jvm.Cond.initialized z.cls).before a0 Z = true) (w4 : (Jvm.Cond.code z B' ml' none).before a0 Z = true) (hi : z.name = "<init>") (hy : z.cls ≠ "java/lang/invoke/MethodHandle" ∧ z.cls ≠ "java/lang/invoke/VarHandle") (hpd : parseMethodDescriptor z.desc = some ⟨ps, rr⟩) (hd : decode B pc = .ok (.invokespecial idx, 3)) (hS : S = argsL.reverse ++ .ref a :: rest) (hlen : argsL.length = ps.length) (ha : (.ref a :: argsL).toArray = as') (hml : Ls.length = ml) (hP : ∀ a, s.heap.size ≤ h.size → P' a → P a) (hf : rm.frames + 1 ≤ R.frames) (hl : (rest.map fun v => v.category).sum + (ml' + 11) + rm.locals ≤ R.locals) (hk : k + rm.cells ≤ R.cells) (hn : n + rm.slots ≤ R.slots)
    (K : ∀ v h' vm', Q' v h' vm' → oKp P' h h' → ∃ J1 : Vm → Prop, J1 vm' ∧ oJs J1 ∧ oWP true p l e R s m args below meth c P Q J1 h' (k + rm.cells) (n + rm.slots) (oF m (pc + 3) Ls (v.toList ++ rest))) : oWP true p l e R s m args below meth c P Q J h k n (oF m pc Ls S) := fun T hT => by
  obtain ⟨hE, hle, -⟩ := oSd.old C hT
  obtain ⟨vm0, k0, locs, ck, cn, X, eT, N, q1, q2, hSi, hk0, hbv, hJ⟩ := hT
  subst hS
  have C' := C.rebase hSi
  obtain ⟨v, vm₁, ⟨T', L', k', n'⟩, -, X', hS2, hgr, ⟨Lc, ⟨hQ, hN, hK⟩, e1, e2, e3⟩, st⟩ := X.specialBackS C.1 (y := z) hi C'.own (mvT C'.hZ w1) (mvT C'.hZ w2) (mvT C'.hZ w4) hy (oBackW (W := (rest.map fun v => v.category).sum) M hE C'.hZ w4 w3 hf hl) (g := oF m pc Ls (argsL.reverse ++ .ref a :: rest)) rfl (by rw [C.hml]; exact hml) (Steps.refl _) (a := a) (argsL := argsL) (rest := rest) (lenOf hpd hlen) rfl (by show 2 * 0 + _ ≤ _; exact Nat.le_of_eq (Nat.zero_add _)) (hb C.2.1 hd) (fun vm₁ hw₁ => ⟨ha, eT, by show ck + _ ≤ _; omega, by show cn + _ ≤ _; omega, hJJ _ (hJ.2 (s.setVm vm0) _ hJ.1 hw₁)⟩)
  dsimp only [Pt.U, Pt.locs, Pt.cells, Pt.slots] at X' hS2 hgr e1 e2 e3 st hQ hK
  subst e1 e2 e3
  obtain ⟨J1, j1, j2, K1⟩ := K v T'.heap T'.vm hQ hK
  obtain ⟨u, o, g1, g2⟩ := K1 T' ⟨T'.vm, T'.heap.size, _, _, _, X', rfl, N.app fun q hq => hP _ hle (hN q hq), by omega, by omega, foldS hSi (by rw [eT]; exact hk0) hS2 hgr, Nat.le_refl _, (fun q => nomatch q), j1, j2⟩
  exact ⟨u, o, st.trans g1, g2⟩
theorem K_virtualW (C : oCx p s m meth c P Z y B ml rt) {idx : Nat} {z z0 : MethodName} {B' : ByteArray} {ml' : Nat} {rt' : Option FieldType} {rm : Room} {as' : Array Value} {P' : Addr → Prop} {J' : Vm → Prop} {Q' : Option Value → Heap → Vm → Prop} {argsL rest : List Value} {ps : List FieldType} {rr : Option FieldType} (M : oMeetsW l Z z B' ml' rt' rm as' h P' J' Q') (hJJ : ∀ vm, J vm → J' vm) {a : Addr} {Cn : String} (E : Exa Z h a Cn) (w1 : (Jvm.Cond.methodLink y.cls idx z0).before a0 Z = true) (wd : (Jvm.Cond.declares z0).before a0 Z = true) (nf : ∀ s', Z.Warmed39 s'.vm → NotFace s' z0) (ws : (Jvm.Cond.selects Cn z0 z).before a0 Z = true) (w2 : (Jvm.Cond.instanceMethod z).before a0 Z = true) (w3 : (Jvm.Cond.initialized z.cls).before a0 Z = true) (w4 : (Jvm.Cond.code z B' ml' rt').before a0 Z = true) (hy : z0.cls ≠ "java/lang/invoke/MethodHandle" ∧ z0.cls ≠ "java/lang/invoke/VarHandle") (hpd : parseMethodDescriptor z0.desc = some ⟨ps, rr⟩) (hd : decode B pc = .ok (.invokevirtual idx, 3)) (hS : S = argsL.reverse ++ .ref a :: rest) (hlen : argsL.length = ps.length) (ha : (.ref a :: argsL).toArray = as') (hml : Ls.length = ml) (hP : ∀ a, s.heap.size ≤ h.size → P' a → P a) (hf : rm.frames + 1 ≤ R.frames) (hl : (rest.map fun v => v.category).sum + (ml' + 11) + rm.locals ≤ R.locals) (hk : k + rm.cells ≤ R.cells) (hn : n + rm.slots ≤ R.slots)
    (K : ∀ v h' vm', Q' v h' vm' → oKp P' h h' → ∃ J1 : Vm → Prop, J1 vm' ∧ oJs J1 ∧ oWP true p l e R s m args below meth c P Q J1 h' (k + rm.cells) (n + rm.slots) (oF m (pc + 3) Ls (v.toList ++ rest))) : oWP true p l e R s m args below meth c P Q J h k n (oF m pc Ls S) := fun T hT => by
  obtain ⟨hE, hle, -⟩ := oSd.old C hT
  obtain ⟨vm0, k0, locs, ck, cn, X, eT, N, q1, q2, hSi, hk0, hbv, hJ⟩ := hT
  subst hS
  have C' := C.rebase hSi
  obtain ⟨cq, kq, qa, qb, qc⟩ := isOf C'.hZ eT E
  obtain ⟨v, vm₁, ⟨T', L', k', n'⟩, -, X', hS2, hgr, ⟨Lc, ⟨hQ, hN, hK⟩, e1, e2, e3⟩, st⟩ := X.virtualBackS C.1 (y := z0) (z := z) C'.own (mvT C'.hZ w1) (mvT C'.hZ wd) (nf _ C'.hZ) (mvT C'.hZ ws) (mvT C'.hZ w2) hy (oBackW (W := (rest.map fun v => v.category).sum) M hE C'.hZ w4 w3 hf hl) qa qc (g := oF m pc Ls (argsL.reverse ++ .ref a :: rest)) rfl (by rw [C.hml]; exact hml) (Steps.refl _) (argsL := argsL) (rest := rest) (lenOf hpd hlen) rfl (by show 2 * 0 + _ ≤ _; exact Nat.le_of_eq (Nat.zero_add _)) (hb C.2.1 hd) (fun vm₁ hw₁ => ⟨ha, eT, by show ck + _ ≤ _; omega, by show cn + _ ≤ _; omega, hJJ _ (hJ.2 (s.setVm vm0) _ hJ.1 hw₁)⟩)
  dsimp only [Pt.U, Pt.locs, Pt.cells, Pt.slots] at X' hS2 hgr e1 e2 e3 st hQ hK
  subst e1 e2 e3
  obtain ⟨J1, j1, j2, K1⟩ := K v T'.heap T'.vm hQ hK
  obtain ⟨u, o, g1, g2⟩ := K1 T' ⟨T'.vm, T'.heap.size, _, _, _, X', rfl, N.app fun q hq => hP _ hle (hN q hq), by omega, by omega, foldS hSi (by rw [eT]; exact hk0) hS2 hgr, Nat.le_refl _, (fun q => nomatch q), j1, j2⟩
  exact ⟨u, o, st.trans g1, g2⟩
theorem K_virtualUpW (C : oCx p s m meth c P Z y B ml rt) {idx : Nat} {z z0 : MethodName} {B' : ByteArray} {ml' : Nat} {rt' : Option FieldType} {rm : Room} {as' : Array Value} {P' : Addr → Prop} {J' : Vm → Prop} {Q' : Option Value → Heap → Vm → Prop} {argsL rest : List Value} {ps : List FieldType} {rr : Option FieldType} (M : oMeetsW l Z z B' ml' rt' rm as' h P' J' Q') (hJJ : ∀ vm, J vm → J' vm) {a : Addr} {Cn owner : String} (E : Exa Z h a Cn) (w1 : (Jvm.Cond.methodLink y.cls idx z0).before a0 Z = true) (wsm : (Jvm.Cond.sameMethod z0.cls owner z0.name z0.desc).before a0 Z = true) (wd : (Jvm.Cond.declares ⟨owner, z0.name, z0.desc⟩).before a0 Z = true) (ws : (Jvm.Cond.selects Cn z0 z).before a0 Z = true) (w2 : (Jvm.Cond.instanceMethod z).before a0 Z = true) (w3 : (Jvm.Cond.initialized z.cls).before a0 Z = true) (w4 : (Jvm.Cond.code z B' ml' rt').before a0 Z = true) (hy : owner ≠ "java/lang/invoke/MethodHandle" ∧ owner ≠ "java/lang/invoke/VarHandle") (hpd : parseMethodDescriptor z0.desc = some ⟨ps, rr⟩) (hd : decode B pc = .ok (.invokevirtual idx, 3)) (hS : S = argsL.reverse ++ .ref a :: rest) (hlen : argsL.length = ps.length) (ha : (.ref a :: argsL).toArray = as') (hml : Ls.length = ml) (hP : ∀ a, s.heap.size ≤ h.size → P' a → P a) (hf : rm.frames + 1 ≤ R.frames) (hl : (rest.map fun v => v.category).sum + (ml' + 11) + rm.locals ≤ R.locals) (hk : k + rm.cells ≤ R.cells) (hn : n + rm.slots ≤ R.slots)
    (K : ∀ v h' vm', Q' v h' vm' → oKp P' h h' → ∃ J1 : Vm → Prop, J1 vm' ∧ oJs J1 ∧ oWP true p l e R s m args below meth c P Q J1 h' (k + rm.cells) (n + rm.slots) (oF m (pc + 3) Ls (v.toList ++ rest))) : oWP true p l e R s m args below meth c P Q J h k n (oF m pc Ls S) := fun T hT => by
  obtain ⟨hE, hle, -⟩ := oSd.old C hT
  obtain ⟨vm0, k0, locs, ck, cn, X, eT, N, q1, q2, hSi, hk0, hbv, hJ⟩ := hT
  subst hS
  have C' := C.rebase hSi
  obtain ⟨cq, kq, qa, qb, qc⟩ := isOf C'.hZ eT E
  obtain ⟨v, vm₁, ⟨T', L', k', n'⟩, -, X', hS2, hgr, ⟨Lc, ⟨hQ, hN, hK⟩, e1, e2, e3⟩, st⟩ := X.virtualBackUpS C.1 (x := z0) (y := z) C'.own (mvT C'.hZ w1) (mvT C'.hZ wsm) (mvT C'.hZ wd) hy (mvT C'.hZ ws) (mvT C'.hZ w2) (oBackW (W := (rest.map fun v => v.category).sum) M hE C'.hZ w4 w3 hf hl) qa qc (g := oF m pc Ls (argsL.reverse ++ .ref a :: rest)) rfl (by rw [C.hml]; exact hml) (Steps.refl _) (argsL := argsL) (rest := rest) (lenOf hpd hlen) rfl (by show 2 * 0 + _ ≤ _; exact Nat.le_of_eq (Nat.zero_add _)) (hb C.2.1 hd) (fun vm₁ hw₁ => ⟨ha, eT, by show ck + _ ≤ _; omega, by show cn + _ ≤ _; omega, hJJ _ (hJ.2 (s.setVm vm0) _ hJ.1 hw₁)⟩)
  dsimp only [Pt.U, Pt.locs, Pt.cells, Pt.slots] at X' hS2 hgr e1 e2 e3 st hQ hK
  subst e1 e2 e3
  obtain ⟨J1, j1, j2, K1⟩ := K v T'.heap T'.vm hQ hK
  obtain ⟨u, o, g1, g2⟩ := K1 T' ⟨T'.vm, T'.heap.size, _, _, _, X', rfl, N.app fun q hq => hP _ hle (hN q hq), by omega, by omega, foldS hSi (by rw [eT]; exact hk0) hS2 hgr, Nat.le_refl _, (fun q => nomatch q), j1, j2⟩
  exact ⟨u, o, st.trans g1, g2⟩
theorem oNF {Cn : String} {z : MethodName} (w : (Jvm.Cond.selects Cn z z).before a0 Z = true) : ∀ s' : State, Z.Warmed39 s'.vm → NotFace s' z := fun _ hZ => notFace_of_selects (args := #[]) (mvT hZ w)
theorem oNFs {S' : String} {z : MethodName} (w : (Jvm.Cond.superclass z.cls S').before a0 Z = true) : ∀ s' : State, Z.Warmed39 s'.vm → NotFace s' z := fun _ hZ => nf_super (args := #[]) (mvT hZ w)
theorem K_putFn (C : oCx p s m meth c P Z y B ml rt) {R0 O f d Cn : String} {idx kk : Nat} {ty : FieldType} {a : Addr} {v v' old : Value} (w : (Jvm.Cond.fieldLink y.cls idx R0 f d).before a0 Z = true) (via : Via Z R0 O f d) (F : Fld Z h a O f d old) (E : Exa Z h a Cn) (L : (Jvm.Cond.lays Cn O f d).before a0 Z = true ∨ ((Jvm.Cond.laysFinal Cn O f d).before a0 Z = true ∧ y.cls = O ∧ y.name = "<init>")) (wi : (Jvm.Cond.instantiable Cn kk).before a0 Z = true)
    (hty : parseFieldDescriptor d = some ty) (hnv : narrow ty v = v') (hf : fits ty v' = true) (hP : P a) (hd : decode B pc = .ok (.putfield idx, 3)) (K : ∀ h', Wr h h' a (RoadKit.slotOf Z O f d) v' → oWP b p l e R s m args below meth c P Q J h' k n (oF m (pc + 3) Ls S)) : oWP b p l e R s m args below meth c P Q J h k n (oF m pc Ls (v :: .ref a :: S)) := fun T hT => by
  obtain ⟨vm0, k0, locs, ck, cn, X, eT, N, q1, q2, hS, hk0, hbv, hJ⟩ := hT
  have C' := C.rebase hS
  obtain ⟨T', h', X', e', Wr1, st⟩ := putFN X C.1 C'.hZ C'.own w via eT F E (L.imp id fun q => ⟨q.1, q.2.1, C.nm.trans q.2.2⟩) wi hty hnv hf (g := oF m pc Ls (v :: .ref a :: S)) rfl rfl (hb C.2.1 hd)
  obtain ⟨u, o, g1, g2⟩ := K h' Wr1 T' ⟨vm0, k0, _, ck, cn, X', e', N.snoc hP, q1, q2, hS, by rw [Wr1.size]; exact hk0, hbv, hJ⟩
  exact ⟨u, o, st u g1, g2⟩
theorem K_castY (C : oCx p s m meth c P Z y B ml rt) {idx : Nat} {a : Addr} {Cn : String} (w : (Jvm.Cond.classLink y.cls idx Cn).before a0 Z = true) (F : Ins Z h a Cn true) (hd : decode B pc = .ok (.checkcast idx, 3)) (K : oWP b p l e R s m args below meth c P Q J h k n (oF m (pc + 3) Ls (.ref a :: S))) : oWP b p l e R s m args below meth c P Q J h k n (oF m pc Ls (.ref a :: S)) := K.law C fun _ C T _ _ _ X eT => castY X C.1 C.hZ C.own w eT F (g := oF m pc Ls (.ref a :: S)) rfl rfl (hb C.2.1 hd)
theorem K_instY (C : oCx p s m meth c P Z y B ml rt) {idx : Nat} {a : Addr} {Cn : String} (w : (Jvm.Cond.classLink y.cls idx Cn).before a0 Z = true) (F : Ins Z h a Cn true) (hd : decode B pc = .ok (.instanceof idx, 3)) (K : oWP b p l e R s m args below meth c P Q J h k n (oF m (pc + 3) Ls (.int 1 :: S))) : oWP b p l e R s m args below meth c P Q J h k n (oF m pc Ls (.ref a :: S)) := K.law C fun _ C T _ _ _ X eT => instY X C.1 C.hZ C.own w eT F (g := oF m pc Ls (.ref a :: S)) rfl rfl (hb C.2.1 hd)
theorem K_astoreV (C : oCx p s m meth c P Z y B ml rt) {i : Nat} {v : Value} {Ls' : List Slot} (o : Slot) (hd : decode B pc = .ok (.astore i, 2)) (hv : v.isRef = true) (hold : (Array.mk Ls)[i]? = some o) (ho : o = .unset ∨ ∃ w, o = .val w ∧ w.category = 1) (hL : (Array.mk Ls).setIfInBounds i (.val v) = Array.mk Ls') (K : oWP b p l e R s m args below meth c P Q J h k n (oF m (pc + 2) Ls' S)) : oWP b p l e R s m args below meth c P Q J h k n (oF m pc Ls (v :: S)) :=
  K_astore C hd hv (by rw [XS.store1 hold ho (XT.cat1 hv), hL]) K
theorem K_astoreNV (C : oCx p s m meth c P Z y B ml rt) {i : Fin 4} {v : Value} {Ls' : List Slot} (o : Slot) (hd : decode B pc = .ok (.astore_n i, 1)) (hv : v.isRef = true) (hold : (Array.mk Ls)[i.val]? = some o) (ho : o = .unset ∨ ∃ w, o = .val w ∧ w.category = 1) (hL : (Array.mk Ls).setIfInBounds i.val (.val v) = Array.mk Ls') (K : oWP b p l e R s m args below meth c P Q J h k n (oF m (pc + 1) Ls' S)) : oWP b p l e R s m args below meth c P Q J h k n (oF m pc Ls (v :: S)) :=
  K_astoreN C hd hv (by rw [XS.store1 hold ho (XT.cat1 hv), hL]) K
theorem K_istoreV (C : oCx p s m meth c P Z y B ml rt) {i : Nat} {v : Int32} {Ls' : List Slot} (o : Slot) (hd : decode B pc = .ok (.istore i, 2)) (hold : (Array.mk Ls)[i]? = some o) (ho : o = .unset ∨ ∃ w, o = .val w ∧ w.category = 1) (hL : (Array.mk Ls).setIfInBounds i (.val (.int v)) = Array.mk Ls') (K : oWP b p l e R s m args below meth c P Q J h k n (oF m (pc + 2) Ls' S)) : oWP b p l e R s m args below meth c P Q J h k n (oF m pc Ls (.int v :: S)) :=
  K_istore C hd (by rw [XS.store1 hold ho rfl, hL]) K
theorem K_iaload (C : oCx p s m meth c P Z y B ml rt) {a : Addr} {cl : Cell} {j : Int32} {v : Value} (A : Arr Z h a cl .int) (hj : ¬ (j < 0 ∨ cl.slots.size ≤ j.toNatClampNeg)) (hv : cl.slots[j.toNatClampNeg]? = some v) (hd : decode B pc = .ok (.iaload, 1)) (K : oWP b p l e R s m args below meth c P Q J h k n (oF m (pc + 1) Ls (v :: S))) : oWP b p l e R s m args below meth c P Q J h k n (oF m pc Ls (.int j :: .ref a :: S)) := K.law C fun _ C T _ _ _ X eT => ⟨T, X, eT, X.iaload C.1 (by rw [eT]; exact A.1) (State.isArrayOf_alike C.hZ.alike A.2.1) A.2.2 hj hv (g := oF m pc Ls (.int j :: .ref a :: S)) rfl rfl (hb C.2.1 hd)⟩
theorem K_caload (C : oCx p s m meth c P Z y B ml rt) {a : Addr} {cl : Cell} {j : Int32} {v : Value} (A : Arr Z h a cl .char) (hj : ¬ (j < 0 ∨ cl.slots.size ≤ j.toNatClampNeg)) (hv : cl.slots[j.toNatClampNeg]? = some v) (hd : decode B pc = .ok (.caload, 1)) (K : oWP b p l e R s m args below meth c P Q J h k n (oF m (pc + 1) Ls (v :: S))) : oWP b p l e R s m args below meth c P Q J h k n (oF m pc Ls (.int j :: .ref a :: S)) := K.law C fun _ C T _ _ _ X eT => ⟨T, X, eT, X.caload C.1 (by rw [eT]; exact A.1) (State.isArrayOf_alike C.hZ.alike A.2.1) A.2.2 hj hv (g := oF m pc Ls (.int j :: .ref a :: S)) rfl rfl (hb C.2.1 hd)⟩
theorem K_laload (C : oCx p s m meth c P Z y B ml rt) {a : Addr} {cl : Cell} {j : Int32} {v : Value} (A : Arr Z h a cl .long) (hj : ¬ (j < 0 ∨ cl.slots.size ≤ j.toNatClampNeg)) (hv : cl.slots[j.toNatClampNeg]? = some v) (hd : decode B pc = .ok (.laload, 1)) (K : oWP b p l e R s m args below meth c P Q J h k n (oF m (pc + 1) Ls (v :: S))) : oWP b p l e R s m args below meth c P Q J h k n (oF m pc Ls (.int j :: .ref a :: S)) := K.law C fun _ C T _ _ _ X eT => ⟨T, X, eT, X.laload C.1 (by rw [eT]; exact A.1) (State.isArrayOf_alike C.hZ.alike A.2.1) A.2.2 hj hv (g := oF m pc Ls (.int j :: .ref a :: S)) rfl rfl (hb C.2.1 hd)⟩
theorem K_baload (C : oCx p s m meth c P Z y B ml rt) {a : Addr} {cl : Cell} {j : Int32} {v : Value} (A : Arr Z h a cl .byte) (hj : ¬ (j < 0 ∨ cl.slots.size ≤ j.toNatClampNeg)) (hv : cl.slots[j.toNatClampNeg]? = some v) (hd : decode B pc = .ok (.baload, 1)) (K : oWP b p l e R s m args below meth c P Q J h k n (oF m (pc + 1) Ls (v :: S))) : oWP b p l e R s m args below meth c P Q J h k n (oF m pc Ls (.int j :: .ref a :: S)) := K.law C fun _ C T _ _ _ X eT => ⟨T, X, eT, X.baloadBytes C.1 (by rw [eT]; exact A.1) (State.isArrayOf_alike C.hZ.alike A.2.1) A.2.2 hj hv (g := oF m pc Ls (.int j :: .ref a :: S)) rfl rfl (hb C.2.1 hd)⟩
theorem K_aaload (C : oCx p s m meth c P Z y B ml rt) {a : Addr} {cl : Cell} {ty : FieldType} {j : Int32} {v : Value} (A : Arr Z h a cl ty) (hty : ty.isReference = true) (hj : ¬ (j < 0 ∨ cl.slots.size ≤ j.toNatClampNeg)) (hv : cl.slots[j.toNatClampNeg]? = some v) (hd : decode B pc = .ok (.aaload, 1)) (K : oWP b p l e R s m args below meth c P Q J h k n (oF m (pc + 1) Ls (v :: S))) : oWP b p l e R s m args below meth c P Q J h k n (oF m pc Ls (.int j :: .ref a :: S)) := K.law C fun _ C T _ _ _ X eT => ⟨T, X, eT, X.aaload C.1 (by rw [eT]; exact A.1) (State.isArrayOf_alike C.hZ.alike A.2.1) hty A.2.2 hj hv (g := oF m pc Ls (.int j :: .ref a :: S)) rfl rfl (hb C.2.1 hd)⟩
theorem K_arraylength (C : oCx p s m meth c P Z y B ml rt) {a : Addr} {cl : Cell} {ty : FieldType} (A : Arr Z h a cl ty) (hd : decode B pc = .ok (.arraylength, 1)) (K : oWP b p l e R s m args below meth c P Q J h k n (oF m (pc + 1) Ls (.int cl.slots.size.toInt32 :: S))) : oWP b p l e R s m args below meth c P Q J h k n (oF m pc Ls (.ref a :: S)) := K.law C fun _ C T _ _ _ X eT => ⟨T, X, eT, X.arraylength C.1 (by rw [eT]; exact A.1) (State.isArrayOf_alike C.hZ.alike A.2.1) (g := oF m pc Ls (.ref a :: S)) rfl rfl (hb C.2.1 hd)⟩
theorem K_newarray (C : oCx p s m meth c P Z y B ml rt) {aty : ArrayType} {z : Int32} {cap : Nat} (w : (Jvm.Cond.arrayClass (newarray.typeOf aty)).before a0 Z = true) (hd : decode B pc = .ok (.newarray aty, 2)) (hz : ¬ z < 0) (hcap : z.toNatClampNeg ≤ cap) (hb8 : cap * 8 ≤ 536870912) (hk : k + 1 ≤ R.cells) (hn : n + cap ≤ R.slots)
    (K : ∀ h' a cA, a = h.size → P a → Ext h h' → Arr Z h' a (newA cA (newarray.typeOf aty) z) (newarray.typeOf aty) → oWP b p l e R s m args below meth c P Q J h' (k + 1) (n + cap) (oF m (pc + 2) Ls (.ref a :: S))) : oWP b p l e R s m args below meth c P Q J h k n (oF m pc Ls (.int z :: S)) := fun T hT => by
  have hO := oSd.old C hT
  obtain ⟨vm0, k0, locs, ck, cn, X, eT, N, q1, q2, hS, hk0, hbv, hJ⟩ := hT
  have C' := C.rebase hS
  obtain ⟨T', h', cA, X', e', E, A, st⟩ := newP X C.1 C'.hZ w eT (g := oF m pc Ls (.int z :: S)) rfl (hb C.2.1 hd) rfl hz hcap hb8 (by omega) (by omega)
  obtain ⟨u, o, g1, g2⟩ := K h' h.size cA rfl (C.new _ hO.2.1) E A T' ⟨vm0, k0, locs, _, _, X', e', N, by omega, by omega, hS, Nat.le_trans hk0 E.1, hbv, hJ⟩
  exact ⟨u, o, st u g1, g2⟩
theorem K_iastore (C : oCx p s m meth c P Z y B ml rt) {a : Addr} {cl : Cell} {j : Int32} {x : Int32} (A : Arr Z h a cl .int) (hj : ¬ (j < 0 ∨ cl.slots.size ≤ j.toNatClampNeg)) (hP : P a) (hd : decode B pc = .ok (.iastore, 1)) (K : ∀ h', Wr h h' a j.toNatClampNeg (.int x) → oWP b p l e R s m args below meth c P Q J h' k n (oF m (pc + 1) Ls S)) : oWP b p l e R s m args below meth c P Q J h k n (oF m pc Ls (.int x :: .int j :: .ref a :: S)) := fun T hT => by
  obtain ⟨vm0, k0, locs, ck, cn, X, eT, N, q1, q2, hS, hk0, hbv, hJ⟩ := hT
  have C' := C.rebase hS
  obtain ⟨T', h', X', e', Wr1, st⟩ := stI X C.1 C'.hZ eT A hj (g := oF m pc Ls (.int x :: .int j :: .ref a :: S)) rfl rfl (hb C.2.1 hd)
  obtain ⟨u, o, g1, g2⟩ := K h' Wr1 T' ⟨vm0, k0, _, ck, cn, X', e', N.snoc hP, q1, q2, hS, by rw [Wr1.size]; exact hk0, hbv, hJ⟩
  exact ⟨u, o, st u g1, g2⟩
theorem K_castore (C : oCx p s m meth c P Z y B ml rt) {a : Addr} {cl : Cell} {j : Int32} {x : Int32} (A : Arr Z h a cl .char) (hj : ¬ (j < 0 ∨ cl.slots.size ≤ j.toNatClampNeg)) (hP : P a) (hd : decode B pc = .ok (.castore, 1)) (K : ∀ h', Wr h h' a j.toNatClampNeg (.int (nar .char x)) → oWP b p l e R s m args below meth c P Q J h' k n (oF m (pc + 1) Ls S)) : oWP b p l e R s m args below meth c P Q J h k n (oF m pc Ls (.int x :: .int j :: .ref a :: S)) := fun T hT => by
  obtain ⟨vm0, k0, locs, ck, cn, X, eT, N, q1, q2, hS, hk0, hbv, hJ⟩ := hT
  have C' := C.rebase hS
  obtain ⟨T', h', X', e', Wr1, st⟩ := stC X C.1 C'.hZ eT A hj (g := oF m pc Ls (.int x :: .int j :: .ref a :: S)) rfl rfl (hb C.2.1 hd)
  obtain ⟨u, o, g1, g2⟩ := K h' Wr1 T' ⟨vm0, k0, _, ck, cn, X', e', N.snoc hP, q1, q2, hS, by rw [Wr1.size]; exact hk0, hbv, hJ⟩
  exact ⟨u, o, st u g1, g2⟩
theorem K_bastore (C : oCx p s m meth c P Z y B ml rt) {a : Addr} {cl : Cell} {j : Int32} {x : Int32} (A : Arr Z h a cl .byte) (hj : ¬ (j < 0 ∨ cl.slots.size ≤ j.toNatClampNeg)) (hP : P a) (hd : decode B pc = .ok (.bastore, 1)) (K : ∀ h', Wr h h' a j.toNatClampNeg (.int (nar .byte x)) → oWP b p l e R s m args below meth c P Q J h' k n (oF m (pc + 1) Ls S)) : oWP b p l e R s m args below meth c P Q J h k n (oF m pc Ls (.int x :: .int j :: .ref a :: S)) := fun T hT => by
  obtain ⟨vm0, k0, locs, ck, cn, X, eT, N, q1, q2, hS, hk0, hbv, hJ⟩ := hT
  have C' := C.rebase hS
  obtain ⟨T', h', X', e', Wr1, st⟩ := stB X C.1 C'.hZ eT A hj (g := oF m pc Ls (.int x :: .int j :: .ref a :: S)) rfl rfl (hb C.2.1 hd)
  obtain ⟨u, o, g1, g2⟩ := K h' Wr1 T' ⟨vm0, k0, _, ck, cn, X', e', N.snoc hP, q1, q2, hS, by rw [Wr1.size]; exact hk0, hbv, hJ⟩
  exact ⟨u, o, st u g1, g2⟩
theorem K_zastore (C : oCx p s m meth c P Z y B ml rt) {a : Addr} {cl : Cell} {j : Int32} {x : Int32} (A : Arr Z h a cl .boolean) (hj : ¬ (j < 0 ∨ cl.slots.size ≤ j.toNatClampNeg)) (hP : P a) (hd : decode B pc = .ok (.bastore, 1)) (K : ∀ h', Wr h h' a j.toNatClampNeg (.int (nar .boolean x)) → oWP b p l e R s m args below meth c P Q J h' k n (oF m (pc + 1) Ls S)) : oWP b p l e R s m args below meth c P Q J h k n (oF m pc Ls (.int x :: .int j :: .ref a :: S)) := fun T hT => by
  obtain ⟨vm0, k0, locs, ck, cn, X, eT, N, q1, q2, hS, hk0, hbv, hJ⟩ := hT
  have C' := C.rebase hS
  obtain ⟨T', h', X', e', Wr1, st⟩ := stZ X C.1 C'.hZ eT A hj (g := oF m pc Ls (.int x :: .int j :: .ref a :: S)) rfl rfl (hb C.2.1 hd)
  obtain ⟨u, o, g1, g2⟩ := K h' Wr1 T' ⟨vm0, k0, _, ck, cn, X', e', N.snoc hP, q1, q2, hS, by rw [Wr1.size]; exact hk0, hbv, hJ⟩
  exact ⟨u, o, st u g1, g2⟩
theorem K_lastore (C : oCx p s m meth c P Z y B ml rt) {a : Addr} {cl : Cell} {j : Int32} {x : Int64} (A : Arr Z h a cl .long) (hj : ¬ (j < 0 ∨ cl.slots.size ≤ j.toNatClampNeg)) (hP : P a) (hd : decode B pc = .ok (.lastore, 1)) (K : ∀ h', Wr h h' a j.toNatClampNeg (.long x) → oWP b p l e R s m args below meth c P Q J h' k n (oF m (pc + 1) Ls S)) : oWP b p l e R s m args below meth c P Q J h k n (oF m pc Ls (.long x :: .int j :: .ref a :: S)) := fun T hT => by
  obtain ⟨vm0, k0, locs, ck, cn, X, eT, N, q1, q2, hS, hk0, hbv, hJ⟩ := hT
  have C' := C.rebase hS
  obtain ⟨T', h', X', e', Wr1, st⟩ := stJ X C.1 C'.hZ eT A hj (g := oF m pc Ls (.long x :: .int j :: .ref a :: S)) rfl rfl (hb C.2.1 hd)
  obtain ⟨u, o, g1, g2⟩ := K h' Wr1 T' ⟨vm0, k0, _, ck, cn, X', e', N.snoc hP, q1, q2, hS, by rw [Wr1.size]; exact hk0, hbv, hJ⟩
  exact ⟨u, o, st u g1, g2⟩
end OwnKit
section OwnKit3
theorem oNarB0 : nar .boolean 0 = 0 := by decide
theorem oNarB1 : nar .boolean 1 = 1 := by decide
theorem oEqI {args : Array Value} {s : State} {t : Term} {k : Int32} (h : (Jvm.Cond.eq t (.int k)).value args s none s [] = some true) : t.eval args s none [] s = some (.int k) := by
  obtain ⟨x, y, hx, hy, hk, -⟩ := cmp_v (Or.inl h)
  cases (Term.int_eval k).symm.trans hy
  cases x with
  | int z => simp [Cond.value, hx, Term.int_eval] at h; rw [hx, h]
  | _ => simp [Kin, Value.isRef] at hk
theorem oEqR {args : Array Value} {s : State} {t u : Term} {w : Addr} (h : (Jvm.Cond.eq t u).value args s none s [] = some true) (hu : u.eval args s none [] s = some (.ref w)) : t.eval args s none [] s = some (.ref w) := by
  obtain ⟨x, y, hx, hy, hk, -⟩ := cmp_v (Or.inl h)
  cases hu.symm.trans hy
  cases x with
  | ref z => simp [Cond.value, hx, hu] at h; rw [hx, h]
  | null => simp [Cond.value, hx, hu] at h
  | _ => simp [Kin, Value.isRef] at hk
/-- a mask that is one below a power of two, then a remainder: some small natural -/
theorem oRem (x : Int32) (q : Nat) (hq : 0 < q) (hq2 : q < 2 ^ 31) : ∃ i : Nat, i < q ∧ (x &&& 2147483647) % Int32.ofNat q = Int32.ofNat i := by
  have e1 : (x &&& 2147483647).toInt = x.toInt % 2 ^ 31 := Jvm.Kit.i32_mask x 2147483647 (k := 31) (by decide) (by decide)
  have hb : 0 ≤ (x &&& 2147483647).toInt := by rw [e1]; exact Int.emod_nonneg _ (by decide)
  have e2 : (Int32.ofNat q).toInt = q := Int32.toInt_ofNat_of_lt hq2
  have e3 : ((x &&& 2147483647) % Int32.ofNat q).toInt = (x &&& 2147483647).toInt % q := by
    rw [Int32.toInt_mod, e2, Int.tmod_eq_emod_of_nonneg hb]
  refine ⟨((x &&& 2147483647).toInt % q).toNat, ?_, ?_⟩
  · have := Int.emod_lt_of_pos (x &&& 2147483647).toInt (b := (q : Int)) (by omega)
    have := Int.emod_nonneg (x &&& 2147483647).toInt (b := (q : Int)) (by omega)
    omega
  · apply Int32.toInt_inj.mp
    have h1 := Int.emod_lt_of_pos (x &&& 2147483647).toInt (b := (q : Int)) (by omega)
    have h2 := Int.emod_nonneg (x &&& 2147483647).toInt (b := (q : Int)) (by omega)
    rw [e3, Int32.toInt_ofNat_of_lt (by omega)]
    omega
theorem oAnd3 (x : Int32) : x &&& 3 = 0 ∨ x &&& 3 = 1 ∨ x &&& 3 = 2 ∨ x &&& 3 = 3 := by
  have e1 : (x &&& 3).toInt = x.toInt % 2 ^ 2 := Jvm.Kit.i32_mask x 3 (k := 2) (by decide) (by decide)
  have h1 := Int.emod_lt_of_pos x.toInt (b := 4) (by decide)
  have h2 := Int.emod_nonneg x.toInt (b := 4) (by decide)
  have : x.toInt % 2 ^ 2 = 0 ∨ x.toInt % 2 ^ 2 = 1 ∨ x.toInt % 2 ^ 2 = 2 ∨ x.toInt % 2 ^ 2 = 3 := by omega
  rcases this with q | q | q | q
  · exact Or.inl (Int32.toInt_inj.mp (by rw [e1, q]; rfl))
  · exact Or.inr (Or.inl (Int32.toInt_inj.mp (by rw [e1, q]; rfl)))
  · exact Or.inr (Or.inr (Or.inl (Int32.toInt_inj.mp (by rw [e1, q]; rfl))))
  · exact Or.inr (Or.inr (Or.inr (Int32.toInt_inj.mp (by rw [e1, q]; rfl))))
theorem oExt.tr {h1 h2 h3 : Heap} (a : Ext h1 h2) (b : Ext h2 h3) : Ext h1 h3 := ⟨Nat.le_trans a.1 b.1, fun x c q => b.2 x c (a.2 x c q)⟩
theorem oEqL {args : Array Value} {s : State} {t : Term} {k : Int64} (h : (Jvm.Cond.eq t (.long k)).value args s none s [] = some true) : t.eval args s none [] s = some (.long k) := by
  obtain ⟨x, y, hx, hy, hk, -⟩ := cmp_v (Or.inl h)
  have e : (Term.long k).eval args s none [] s = some (.long k) := rfl
  cases e.symm.trans hy
  cases x with
  | long z => simp [Cond.value, hx, e] at h; rw [hx, h]
  | _ => simp [Kin, Value.isRef] at hk
theorem oLen {args : Array Value} {s : State} {t : Term} {a : Addr} {c : Cell} {ty : FieldType} {z : Int32} (ea : t.eval args s none [] s = some (.ref a)) (A : Arr s s.heap a c ty) (h : (Jvm.Cond.eq (Term.length t) (.int z)).value args s none s [] = some true) : c.slots.size = z.toInt.toNat := by
  have h1 := oEqI h
  have h2 := Arr.fin (State.Warmed39.refl s).alike A
  simp only [Term.eval, ea, h2, Option.bind_eq_bind, Option.bind_some] at h1
  split at h1
  · rename_i hlt
    cases h1
    rw [len_toInt hlt]; simp
  · cases h1
end OwnKit3
section OwnArr
variable {b : Bool} {p : Program} {l : Launch} {e : Env} {R : Room} {s : State} {m : MethodId} {args : Array Value} {below : List Frame} {meth : Method} {c : Code} {P : Addr → Prop} {Q : Option Value → Heap → Vm → Prop} {J : Vm → Prop} {h : Heap} {k n : Nat} {Z : State} {a0 : Array Value} {y : MethodName} {B : ByteArray} {ml : Nat} {rt : Option FieldType}
variable {pc : Nat} {Ls : List Slot} {S : List Value} {h' : Heap} {a : Addr} {ty : FieldType} {vs : List Value} {i : Nat} {j : Int32}
/-- the array at a holds just vs -/
def oArr (Z : State) (h : Heap) (a : Addr) (ty : FieldType) (vs : List Value) : Prop := ∃ c : Cell, Arr Z h a c ty ∧ c.slots = Array.mk vs
theorem oArr.lt (A : oArr Z h a ty vs) : a < h.size := by obtain ⟨c, A, -⟩ := A; exact A.lt
theorem oArr.ext (A : oArr Z h a ty vs) (E : Ext h h') : oArr Z h' a ty vs := by obtain ⟨c, A, e⟩ := A; exact ⟨c, A.ext E, e⟩
theorem oArr.kp (A : oArr Z h a ty vs) (K : oKp P h h') (q : ¬ P a) : oArr Z h' a ty vs := by obtain ⟨c, A, e⟩ := A; exact ⟨c, K.arr A q, e⟩
theorem oArr.other {b : Addr} {sl : Nat} {v : Value} (A : oArr Z h a ty vs) (W : Wr h h' b sl v) (q : a ≠ b) : oArr Z h' a ty vs := by obtain ⟨c, A, e⟩ := A; exact ⟨c, A.other W q, e⟩
theorem oArr.same {v : Value} (A : oArr Z h a ty vs) (W : Wr h h' a i v) : oArr Z h' a ty (vs.set i v) := by
  obtain ⟨c, A, e⟩ := A
  refine ⟨_, A.same W, ?_⟩
  show c.slots.setIfInBounds i v = _
  rw [e]; simp
theorem oArr.new {cA : ClassId} {z : Int32} (A : Arr Z h a (newA cA ty z) ty) : oArr Z h a ty (List.replicate z.toNatClampNeg (defaultValue ty)) := ⟨_, A, by
  apply Array.ext'
  simp [newA]⟩
theorem oArr.eq {vs' : List Value} (A : oArr Z h a ty vs) (q : vs = vs') : oArr Z h a ty vs' := q ▸ A
theorem oIdx {n : Nat} (hj : j.toInt = (i : Int)) (hi : i < n) : ¬ (j < 0 ∨ n ≤ j.toNatClampNeg) ∧ j.toNatClampNeg = i := by
  have e : j.toNatClampNeg = i := by simp only [Int32.toNatClampNeg, hj]; rfl
  refine ⟨fun q => ?_, e⟩
  rcases q with q | q
  · rw [Int32.lt_iff_toInt_lt, hj] at q
    have : (0 : Int32).toInt = 0 := rfl
    omega
  · omega
theorem oAt {v : Value} (hv : vs[i]? = some v) : i < vs.length := (List.getElem?_eq_some_iff.mp hv).1
theorem K_iaload2 (C : oCx p s m meth c P Z y B ml rt) {v : Value} (i : Nat) (A : oArr Z h a .int vs) (hj : j.toInt = (i : Int)) (hv : vs[i]? = some v) (hd : decode B pc = .ok (.iaload, 1)) (K : oWP b p l e R s m args below meth c P Q J h k n (oF m (pc + 1) Ls (v :: S))) : oWP b p l e R s m args below meth c P Q J h k n (oF m pc Ls (.int j :: .ref a :: S)) := by
  obtain ⟨cl, A, e⟩ := A
  have q := oIdx (n := cl.slots.size) hj (by rw [e]; exact oAt hv)
  exact K_iaload C A q.1 (by rw [q.2, e]; simpa using hv) hd K
theorem K_caload2 (C : oCx p s m meth c P Z y B ml rt) {v : Value} (i : Nat) (A : oArr Z h a .char vs) (hj : j.toInt = (i : Int)) (hv : vs[i]? = some v) (hd : decode B pc = .ok (.caload, 1)) (K : oWP b p l e R s m args below meth c P Q J h k n (oF m (pc + 1) Ls (v :: S))) : oWP b p l e R s m args below meth c P Q J h k n (oF m pc Ls (.int j :: .ref a :: S)) := by
  obtain ⟨cl, A, e⟩ := A
  have q := oIdx (n := cl.slots.size) hj (by rw [e]; exact oAt hv)
  exact K_caload C A q.1 (by rw [q.2, e]; simpa using hv) hd K
theorem K_laload2 (C : oCx p s m meth c P Z y B ml rt) {v : Value} (i : Nat) (A : oArr Z h a .long vs) (hj : j.toInt = (i : Int)) (hv : vs[i]? = some v) (hd : decode B pc = .ok (.laload, 1)) (K : oWP b p l e R s m args below meth c P Q J h k n (oF m (pc + 1) Ls (v :: S))) : oWP b p l e R s m args below meth c P Q J h k n (oF m pc Ls (.int j :: .ref a :: S)) := by
  obtain ⟨cl, A, e⟩ := A
  have q := oIdx (n := cl.slots.size) hj (by rw [e]; exact oAt hv)
  exact K_laload C A q.1 (by rw [q.2, e]; simpa using hv) hd K
theorem K_baload2 (C : oCx p s m meth c P Z y B ml rt) {v : Value} (i : Nat) (A : oArr Z h a .byte vs) (hj : j.toInt = (i : Int)) (hv : vs[i]? = some v) (hd : decode B pc = .ok (.baload, 1)) (K : oWP b p l e R s m args below meth c P Q J h k n (oF m (pc + 1) Ls (v :: S))) : oWP b p l e R s m args below meth c P Q J h k n (oF m pc Ls (.int j :: .ref a :: S)) := by
  obtain ⟨cl, A, e⟩ := A
  have q := oIdx (n := cl.slots.size) hj (by rw [e]; exact oAt hv)
  exact K_baload C A q.1 (by rw [q.2, e]; simpa using hv) hd K
theorem K_aaload2 (C : oCx p s m meth c P Z y B ml rt) {v : Value} (i : Nat) (A : oArr Z h a ty vs) (hty : ty.isReference = true) (hj : j.toInt = (i : Int)) (hv : vs[i]? = some v) (hd : decode B pc = .ok (.aaload, 1)) (K : oWP b p l e R s m args below meth c P Q J h k n (oF m (pc + 1) Ls (v :: S))) : oWP b p l e R s m args below meth c P Q J h k n (oF m pc Ls (.int j :: .ref a :: S)) := by
  obtain ⟨cl, A, e⟩ := A
  have q := oIdx (n := cl.slots.size) hj (by rw [e]; exact oAt hv)
  exact K_aaload C A hty q.1 (by rw [q.2, e]; simpa using hv) hd K
theorem K_alen2 (C : oCx p s m meth c P Z y B ml rt) (A : oArr Z h a ty vs) (hd : decode B pc = .ok (.arraylength, 1)) (K : oWP b p l e R s m args below meth c P Q J h k n (oF m (pc + 1) Ls (.int (Int32.ofNat vs.length) :: S))) : oWP b p l e R s m args below meth c P Q J h k n (oF m pc Ls (.ref a :: S)) := by
  obtain ⟨cl, A, e⟩ := A
  refine K_arraylength C A hd ?_
  rw [e]; exact K
theorem K_iastore2 (C : oCx p s m meth c P Z y B ml rt) {x : Int32} (i : Nat) (A : oArr Z h a .int vs) (hj : j.toInt = (i : Int)) (hi : i < vs.length) (hP : P a) (hd : decode B pc = .ok (.iastore, 1)) (K : ∀ h', Wr h h' a i (.int x) → oArr Z h' a .int (vs.set i (.int x)) → oWP b p l e R s m args below meth c P Q J h' k n (oF m (pc + 1) Ls S)) : oWP b p l e R s m args below meth c P Q J h k n (oF m pc Ls (.int x :: .int j :: .ref a :: S)) := by
  obtain ⟨cl, A, e⟩ := A
  have q := oIdx (n := cl.slots.size) hj (by rw [e]; exact hi)
  refine K_iastore C A q.1 hP hd fun h' Wr1 => ?_
  rw [q.2] at Wr1
  exact K h' Wr1 (oArr.same ⟨cl, A, e⟩ Wr1)
theorem K_castore2 (C : oCx p s m meth c P Z y B ml rt) {x : Int32} (i : Nat) (A : oArr Z h a .char vs) (hj : j.toInt = (i : Int)) (hi : i < vs.length) (hP : P a) (hd : decode B pc = .ok (.castore, 1)) (K : ∀ h', Wr h h' a i (.int (nar .char x)) → oArr Z h' a .char (vs.set i (.int (nar .char x))) → oWP b p l e R s m args below meth c P Q J h' k n (oF m (pc + 1) Ls S)) : oWP b p l e R s m args below meth c P Q J h k n (oF m pc Ls (.int x :: .int j :: .ref a :: S)) := by
  obtain ⟨cl, A, e⟩ := A
  have q := oIdx (n := cl.slots.size) hj (by rw [e]; exact hi)
  refine K_castore C A q.1 hP hd fun h' Wr1 => ?_
  rw [q.2] at Wr1
  exact K h' Wr1 (oArr.same ⟨cl, A, e⟩ Wr1)
theorem K_bastore2 (C : oCx p s m meth c P Z y B ml rt) {x : Int32} (i : Nat) (A : oArr Z h a .byte vs) (hj : j.toInt = (i : Int)) (hi : i < vs.length) (hP : P a) (hd : decode B pc = .ok (.bastore, 1)) (K : ∀ h', Wr h h' a i (.int (nar .byte x)) → oArr Z h' a .byte (vs.set i (.int (nar .byte x))) → oWP b p l e R s m args below meth c P Q J h' k n (oF m (pc + 1) Ls S)) : oWP b p l e R s m args below meth c P Q J h k n (oF m pc Ls (.int x :: .int j :: .ref a :: S)) := by
  obtain ⟨cl, A, e⟩ := A
  have q := oIdx (n := cl.slots.size) hj (by rw [e]; exact hi)
  refine K_bastore C A q.1 hP hd fun h' Wr1 => ?_
  rw [q.2] at Wr1
  exact K h' Wr1 (oArr.same ⟨cl, A, e⟩ Wr1)
theorem K_zastore2 (C : oCx p s m meth c P Z y B ml rt) {x : Int32} (i : Nat) (A : oArr Z h a .boolean vs) (hj : j.toInt = (i : Int)) (hi : i < vs.length) (hP : P a) (hd : decode B pc = .ok (.bastore, 1)) (K : ∀ h', Wr h h' a i (.int (nar .boolean x)) → oArr Z h' a .boolean (vs.set i (.int (nar .boolean x))) → oWP b p l e R s m args below meth c P Q J h' k n (oF m (pc + 1) Ls S)) : oWP b p l e R s m args below meth c P Q J h k n (oF m pc Ls (.int x :: .int j :: .ref a :: S)) := by
  obtain ⟨cl, A, e⟩ := A
  have q := oIdx (n := cl.slots.size) hj (by rw [e]; exact hi)
  refine K_zastore C A q.1 hP hd fun h' Wr1 => ?_
  rw [q.2] at Wr1
  exact K h' Wr1 (oArr.same ⟨cl, A, e⟩ Wr1)
theorem K_lastore2 (C : oCx p s m meth c P Z y B ml rt) {x : Int64} (i : Nat) (A : oArr Z h a .long vs) (hj : j.toInt = (i : Int)) (hi : i < vs.length) (hP : P a) (hd : decode B pc = .ok (.lastore, 1)) (K : ∀ h', Wr h h' a i (.long x) → oArr Z h' a .long (vs.set i (.long x)) → oWP b p l e R s m args below meth c P Q J h' k n (oF m (pc + 1) Ls S)) : oWP b p l e R s m args below meth c P Q J h k n (oF m pc Ls (.long x :: .int j :: .ref a :: S)) := by
  obtain ⟨cl, A, e⟩ := A
  have q := oIdx (n := cl.slots.size) hj (by rw [e]; exact hi)
  refine K_lastore C A q.1 hP hd fun h' Wr1 => ?_
  rw [q.2] at Wr1
  exact K h' Wr1 (oArr.same ⟨cl, A, e⟩ Wr1)
theorem K_newarray2 (C : oCx p s m meth c P Z y B ml rt) {aty : ArrayType} {z : Int32} (len cap : Nat) (w : (Jvm.Cond.arrayClass (newarray.typeOf aty)).before a0 Z = true) (hd : decode B pc = .ok (.newarray aty, 2)) (hz : z.toInt = (len : Int)) (hcap : len ≤ cap) (hb8 : cap * 8 ≤ 536870912) (hk : k + 1 ≤ R.cells) (hn : n + cap ≤ R.slots)
    (K : ∀ h' a, a = h.size → P a → Ext h h' → oArr Z h' a (newarray.typeOf aty) (List.replicate len (defaultValue (newarray.typeOf aty))) → oWP b p l e R s m args below meth c P Q J h' (k + 1) (n + cap) (oF m (pc + 2) Ls (.ref a :: S))) : oWP b p l e R s m args below meth c P Q J h k n (oF m pc Ls (.int z :: S)) := by
  have e : z.toNatClampNeg = len := by simp only [Int32.toNatClampNeg, hz]; rfl
  refine K_newarray C (cap := cap) w hd (fun q => ?_) (e ▸ hcap) hb8 hk hn fun h' a cA ha hPa E A => K h' a ha hPa E ?_
  · rw [Int32.lt_iff_toInt_lt, hz] at q
    have : (0 : Int32).toInt = 0 := rfl
    omega
  · have := oArr.new A
    rwa [e] at this
end OwnArr
section OwnStr
theorem oOf (i : Nat) (h : i < 2 ^ 31) : (Int32.ofNat i).toInt = i := Int32.toInt_ofNat_of_lt h
theorem oOfLt {i n : Nat} (hi : i < 2 ^ 31) (hn : n < 2 ^ 31) : (Int32.ofNat i < Int32.ofNat n) ↔ i < n := by
  rw [Int32.lt_iff_toInt_lt, oOf i hi, oOf n hn]; omega
theorem oOfEq {i n : Nat} (hi : i < 2 ^ 31) (hn : n < 2 ^ 31) : (Int32.ofNat i = Int32.ofNat n) ↔ i = n := by
  constructor
  · intro q
    have := congrArg Int32.toInt q
    rw [oOf i hi, oOf n hn] at this; omega
  · intro q; rw [q]
theorem oOfS (i : Nat) : Int32.ofNat i + 1 = Int32.ofNat (i + 1) := (Int32.ofNat_add i 1).symm
/-- a char's number -/
def oChr (u : Int32) : Prop := 0 ≤ u.toInt ∧ u.toInt < 65536
def oSmall (u : Int32) : Prop := ¬ (255 : Int32) < u
def oLob (u : Int32) : Int32 := u.toInt8.toInt32
def oHib (u : Int32) : Int32 := (u >>> ((8 : Int32) &&& 31)).toInt8.toInt32
theorem oNarLob (u : Int32) : nar .byte (u.toInt8.toInt32) = u.toInt8.toInt32 := by simp [nar]
abbrev oLv (u : Int32) : Value := .int (oLob u)
abbrev oLH (u : Int32) : List Value := [.int (oLob u), .int (oHib u)]
theorem oSetL {α β : Type} {us : List α} {f : α → β} {d : β} {i : Nat} {u : α} (hu : us[i]? = some u) : ((us.take i).map f ++ List.replicate (us.length - i) d).set i (f u) = (us.take (i + 1)).map f ++ List.replicate (us.length - (i + 1)) d := by
  obtain ⟨hi, e⟩ := List.getElem?_eq_some_iff.mp hu
  have e1 : us.length - i = (us.length - (i + 1)) + 1 := by omega
  have e2 : ((us.take i).map f).length = i := by simp; omega
  rw [List.set_append_right _ _ (by omega), e2, Nat.sub_self, e1, List.replicate_succ, List.set_cons_zero, List.take_add_one, hu]
  simp
/-- how a String's chars lie in its bytes -/
def oEnc (us : List Int32) (cd : Int32) (bs : List Value) : Prop :=
  (cd = 0 ∧ (∀ u ∈ us, oSmall u) ∧ bs = us.map oLv) ∨ (cd = 1 ∧ (∃ u ∈ us, ¬ oSmall u) ∧ bs = us.flatMap oLH)
/-- the object at a is a String of the chars us -/
def oStr (Z : State) (h : Heap) (a : Addr) (us : List Int32) : Prop :=
  Exa Z h a "java/lang/String" ∧ (∀ u ∈ us, oChr u) ∧ ∃ (b : Addr) (cd : Int32) (bs : List Value), Fld Z h a "java/lang/String" "value" "[B" (.ref b) ∧ Fld Z h a "java/lang/String" "coder" "B" (.int cd) ∧ oArr Z h b .byte bs ∧ oEnc us cd bs
theorem oStr.ext {Z : State} {h h' : Heap} {a : Addr} {us : List Int32} (F : oStr Z h a us) (E : Ext h h') : oStr Z h' a us := by
  obtain ⟨X, c, b, cd, bs, f1, f2, A, e⟩ := F
  exact ⟨X.ext E, c, b, cd, bs, f1.ext E, f2.ext E, A.ext E, e⟩
/-- null or a String of the chars us -/
def oOStr (Z : State) (h : Heap) (v : Value) (us : List Int32) : Prop := v = .null ∨ ∃ a, v = .ref a ∧ oStr Z h a us
theorem oOStr.ext {Z : State} {h h' : Heap} {v : Value} {us : List Int32} (F : oOStr Z h v us) (E : Ext h h') : oOStr Z h' v us := F.imp id fun ⟨a, e, q⟩ => ⟨a, e, q.ext E⟩
theorem oOStr.ref {Z : State} {h : Heap} {v : Value} {us : List Int32} (F : oOStr Z h v us) : v.isRef = true := by
  rcases F with rfl | ⟨a, rfl, -⟩ <;> rfl
theorem oFitR {v : Value} {n : String} (hv : v.isRef = true) : fits (.object n) v = true := by rcases ref_cases hv with rfl | ⟨_, rfl⟩ <;> rfl
theorem oNarR {v : Value} {n : String} : narrow (.object n) v = v := by cases v <;> rfl
theorem oOne {v : Value} (hv : v.isRef = true) : Slot.val v = .unset ∨ ∃ w, Slot.val v = .val w ∧ w.category = 1 := XT.slot1 hv
/-- equal bytes: equal chars -/
theorem oLobInj {u w : Int32} (hu : oChr u) (hw : oChr w) (su : oSmall u) (sw : oSmall w) (e : oLob u = oLob w) : u = w := by
  have e1 : (oLob u).toInt = (oLob w).toInt := by rw [e]
  simp only [oLob, Int8.toInt_toInt32, Int32.toInt_toInt8] at e1
  have a1 : ¬ (255 : Int) < u.toInt := fun q => su (by rw [Int32.lt_iff_toInt_lt]; exact q)
  have a2 : ¬ (255 : Int) < w.toInt := fun q => sw (by rw [Int32.lt_iff_toInt_lt]; exact q)
  apply Int32.toInt_inj.mp
  obtain ⟨h1, h2⟩ := hu
  obtain ⟨h3, h4⟩ := hw
  rw [Int.bmod_def, Int.bmod_def] at e1
  omega
theorem oSmallI {u : Int32} (h : u.toInt ≤ 255) : oSmall u := fun q => by
  rw [Int32.lt_iff_toInt_lt] at q
  have : (255 : Int32).toInt = 255 := rfl
  omega
/-- the low byte of an int, as a char -/
theorem oMask (x : Int32) : oChr (x &&& 255) ∧ oSmall (x &&& 255) ∧ (x &&& 255).toUInt32.toUInt16.toUInt32.toInt32 = x &&& 255 := by
  have e1 : (x &&& 255).toInt = x.toInt % 2 ^ 8 := Jvm.Kit.i32_mask x 255 (k := 8) (by decide) (by decide)
  have h1 := Int.emod_lt_of_pos x.toInt (b := 256) (by decide)
  have h2 := Int.emod_nonneg x.toInt (b := 256) (by decide)
  exact ⟨⟨by omega, by omega⟩, oSmallI (by omega), i2c_mask x⟩
theorem oNarC {u : Int32} (h : u.toUInt32.toUInt16.toUInt32.toInt32 = u) : nar .char u = u := h
end OwnStr
section OwnStr2
theorem oLobMap {us ws : List Int32} (hu : ∀ u ∈ us, oChr u) (hw : ∀ u ∈ ws, oChr u) (su : ∀ u ∈ us, oSmall u) (sw : ∀ u ∈ ws, oSmall u) : us.map oLob = ws.map oLob ↔ us = ws := by
  refine ⟨fun q => ?_, fun q => by rw [q]⟩
  induction us generalizing ws with
  | nil => cases ws with
    | nil => rfl
    | cons w t => simp at q
  | cons u t ih => cases ws with
    | nil => simp at q
    | cons w t' =>
      simp only [List.map_cons, List.cons.injEq] at q
      rw [oLobInj (hu u (by simp)) (hw w (by simp)) (su u (by simp)) (sw w (by simp)) q.1, ih (fun x hx => hu x (by simp [hx])) (fun x hx => hw x (by simp [hx])) (fun x hx => su x (by simp [hx])) (fun x hx => sw x (by simp [hx])) q.2]
theorem oStr.inj {Z : State} {h : Heap} {a : Addr} {us ws : List Int32} (F : oStr Z h a us) (G : oStr Z h a ws) (su : ∀ u ∈ us, oSmall u) (sw : ∀ u ∈ ws, oSmall u) : us = ws := by
  obtain ⟨-, hu, b1, c1, l1, V1, -, A1, e1⟩ := F
  obtain ⟨-, hw, b2, c2, l2, V2, -, A2, e2⟩ := G
  obtain ⟨-, -, rfl⟩ := e1.resolve_right (fun q => by obtain ⟨u, q1, q2⟩ := q.2.1; exact q2 (su u q1))
  obtain ⟨-, -, rfl⟩ := e2.resolve_right (fun q => by obtain ⟨u, q1, q2⟩ := q.2.1; exact q2 (sw u q1))
  have e : b1 = b2 := by
    obtain ⟨k1, _, _, _, _, p1, p2, -, -, -, -, p7⟩ := V1
    obtain ⟨k2, _, _, _, _, r1, r2, -, -, -, -, r7⟩ := V2
    cases p1.symm.trans r1; cases p2.symm.trans r2
    exact Value.ref.inj (Option.some.inj (p7.symm.trans r7))
  subst e
  obtain ⟨k1, ⟨p1, -⟩, p2⟩ := A1
  obtain ⟨k2, ⟨r1, -⟩, r2⟩ := A2
  cases p1.symm.trans r1
  have e3 := congrArg Array.toList (p2.symm.trans r2)
  have e4 : us.map oLob = ws.map oLob := by
    have e5 : (us.map oLob).map Value.int = (ws.map oLob).map Value.int := by rw [List.map_map, List.map_map]; exact e3
    exact (List.map_inj_right (fun x y q => Value.int.inj q)).mp e5
  exact (oLobMap hu hw su sw).mp e4
theorem oNC (x : Int32) : nar .char ((x &&& 255).toUInt32.toUInt16.toUInt32.toInt32) = x &&& 255 := by
  rw [(oMask x).2.2]; exact (oMask x).2.2
end OwnStr2
section OwnLit
variable {p : Program} {l : Launch} {e : Env} {R : Room} {s : State} {m : MethodId} {args : Array Value} {below : List Frame} {meth : Method} {c : Code} {P : Addr → Prop} {Q : Option Value → Heap → Vm → Prop} {J : Vm → Prop} {Z : State} {y : MethodName} {B : ByteArray} {ml : Nat} {rt : Option FieldType} {b : Bool} {h h' : Heap} {k n pc : Nat} {Ls : List Slot} {S : List Value} {a0 : Array Value} {EL : List (String × Nat)} {xs : List Addr} {vm : Vm}
/-- what the tables book for the entries of EL stands in h, and none of xs is among it -/
def oH (Z : State) (EL : List (String × Nat)) (h : Heap) (xs : List Addr) : Vm → Prop := fun vm => Z.Warmed39 vm ∧ CHv Z EL vm h ∧ ∀ x ∈ xs, x < h.size ∧ Safe Z EL vm h x
theorem oH.js (w : EW Z a0 EL) : oJs (oH Z EL h xs) := fun s vm' hJ hw => by
  obtain ⟨hZ, H, hx⟩ := hJ
  have q := CHv.later (h' := h) hZ (hW := (show (Wst Z s.vm h).Warmed39 vm' from hw.wide)) w ⟨Nat.le_refl _, fun _ _ q => q⟩ (Or.inl hw.interned_eq) H
  exact ⟨State.Warmed39.trans hZ hw.wide, q.1, fun x hm => ⟨(hx x hm).1, fun Bx => (q.2 x Bx).elim (hx x hm).2 fun z => absurd (hx x hm).1 (Nat.not_lt.mpr z)⟩⟩
theorem oH.ext (E : Ext h h') (H : oH Z EL h xs vm) : oH Z EL h' xs vm := ⟨H.1, H.2.1.ext E, fun x hm => ⟨Nat.lt_of_lt_of_le (H.2.2 x hm).1 E.1, (H.2.2 x hm).2.ext E H.2.1⟩⟩
theorem oH.add {a : Addr} (E : Ext h h') (ha : a = h.size) (hl : a < h'.size) (H : oH Z EL h xs vm) : oH Z EL h' (a :: xs) vm := ⟨H.1, H.2.1.ext E, fun x hm => by
  rcases List.mem_cons.mp hm with rfl | hm
  · exact ⟨hl, (Safe.new (Nat.le_of_eq ha.symm)).ext E H.2.1⟩
  · exact (H.ext E).2.2 x hm⟩
theorem oH.sub {zs : List Addr} (q : ∀ x ∈ zs, x ∈ xs) (H : oH Z EL h xs vm) : oH Z EL h zs vm := ⟨H.1, H.2.1, fun x hm => H.2.2 x (q x hm)⟩
theorem oH.wrS {a : Addr} {sl : Nat} {v : Value} (W : Wr h h' a sl v) (S : Safe Z EL vm h a) (H : oH Z EL h xs vm) : oH Z EL h' xs vm := ⟨H.1, H.2.1.wr W S, fun x hm => ⟨by rw [W.size]; exact (H.2.2 x hm).1, Safe.wr W S H.2.1 (H.2.2 x hm).2⟩⟩
theorem oH.wr {a : Addr} {sl : Nat} {v : Value} (W : Wr h h' a sl v) (hm : a ∈ xs) (H : oH Z EL h xs vm) : oH Z EL h' xs vm := H.wrS W (H.2.2 a hm).2
theorem oH.wrA {a : Addr} {sl : Nat} {v : Value} {ty : FieldType} {vs : List Value} (W : Wr h h' a sl v) (A : oArr Z h a ty vs) (ht : ty ≠ .byte) (H : oH Z EL h xs vm) : oH Z EL h' xs vm := by
  obtain ⟨cl, A, -⟩ := A
  exact H.wrS W (Safe.arr H.1.alike A ht)
theorem oH.kp {P : Addr → Prop} (K : oKp P h h') (hP : ∀ x, P x → x ∈ xs ∨ h.size ≤ x) (H : oH Z EL h xs vm) : oH Z EL h' xs vm := by
  have q := H.2.1.step (h' := h') fun y By cell hy => by
    obtain ⟨c', e1, -, -, -, e5⟩ := K.2 y cell hy
    rw [e5 fun hPy => (hP y hPy).elim (fun z => (H.2.2 y z).2 By) (fun z => absurd (Array.getElem?_eq_some_iff.mp hy).1 (Nat.not_lt.mpr z))] at e1
    exact e1
  exact ⟨H.1, q.1, fun x hm => ⟨Nat.lt_of_lt_of_le (H.2.2 x hm).1 K.1, fun Bx => (H.2.2 x hm).2 (q.2 x Bx)⟩⟩
theorem K_J {g : JFrame} {J2 : Vm → Prop} (hJ : ∀ vm, J vm → J2 vm) (hs : oJs J2) (K : oWP b p l e R s m args below meth c P Q J2 h k n g) : oWP b p l e R s m args below meth c P Q J h k n g := fun T hT => by
  obtain ⟨vm0, k0, locs, ck, cn, X, eT, N, q1, q2, hS, hk0, hbv, hJ0, -⟩ := hT
  exact K T ⟨vm0, k0, locs, ck, cn, X, eT, N, q1, q2, hS, hk0, hbv, hJ _ hJ0, hs⟩
/-- ldc of the empty String, held -/
theorem K_ldcE (C : oCx p s m meth c P Z y B ml rt) {idx : Nat} (w : (Jvm.Cond.stringLink y.cls idx "").before a0 Z = true) (wS : ∀ a ∈ Bundle.stringAtoms, a.before a0 Z = true) (hEL : EW Z a0 EL) (hmem : (y.cls, idx) ∈ EL) (hd : decode B pc = .ok (.ldc idx, 2)) (hk : k + 2 ≤ R.cells) (hn : n + 4 ≤ R.slots)
    (K : ∀ a bb h', Ext h h' → Exa Z h' a "java/lang/String" → Fld Z h' a "java/lang/String" "coder" "B" (.int 0) → Fld Z h' a "java/lang/String" "value" "[B" (.ref bb) → oArr Z h' bb .byte [] → oWP true p l e R s m args below meth c P Q (oH Z EL h' xs) h' (k + 2) (n + 4) (oF m (pc + 2) Ls (.ref a :: S))) : oWP true p l e R s m args below meth c P Q (oH Z EL h xs) h k n (oF m pc Ls S) := fun T hT => by
  obtain ⟨vm0, k0, locs, ck, cn, X, eT, N, q1, q2, hS, hk0, hbv, hJ⟩ := hT
  have C' := C.rebase hS
  obtain ⟨a, T', h', k1, bb, kc, X', e', E, hS1, hk1, hW, -, Xa, Fc, Fv, A, -, -, hC, -, -, st⟩ := ldcCH X C.1 C'.hZ C'.own w wS eT hS hk0 hEL hmem hJ.1.2.1 (vs := []) (z := 0) ⟨by simp, rfl⟩ (by decide) rfl (g := oF m pc Ls S) rfl (hb C.2.1 hd) (n := 0) (by simp) (by decide) (by omega) (by omega)
  obtain ⟨cl, A1, -, hsz, -⟩ := A
  have A2 : oArr Z h' bb .byte [] := ⟨cl, A1, by
    have : cl.slots.size = 0 := hsz
    exact Array.eq_empty_of_size_eq_zero this⟩
  have J1 : oH Z EL h' xs T'.vm := ⟨hW, hC.1, fun x hm => ⟨Nat.lt_of_lt_of_le (hJ.1.2.2 x hm).1 E.1, hC.safe (hJ.1.2.2 x hm).1 (hJ.1.2.2 x hm).2⟩⟩
  obtain ⟨u, o, g1, g2⟩ := K a bb h' E Xa Fc Fv A2 T' ⟨_, k1, locs, _, _, X', e', N, by omega, by omega, hS1, hk1, (fun q => nomatch q), J1, oH.js hEL⟩
  exact ⟨u, o, st u g1, g2⟩
end OwnLit
section OwnLit2
variable {Z : State} {EL : List (String × Nat)} {h h' : Heap} {xs : List Addr} {vm : Vm}
theorem oH.kpX {P : Addr → Prop} (K : oKp P h h') (hP : ∀ x, P x → (∃ Cn, Exa Z h x Cn ∧ Cn ≠ "java/lang/String" ∧ Cn ≠ "[B") ∨ h.size ≤ x) (H : oH Z EL h xs vm) : oH Z EL h' xs vm := by
  have q := H.2.1.step (h' := h') fun y By cell hy => by
    obtain ⟨c', e1, -, -, -, e5⟩ := K.2 y cell hy
    rw [e5 fun hPy => (hP y hPy).elim (fun ⟨Cn, X, n1, n2⟩ => Safe.exa H.1.alike X n1 n2 By) (fun z => absurd (Array.getElem?_eq_some_iff.mp hy).1 (Nat.not_lt.mpr z))] at e1
    exact e1
  exact ⟨H.1, q.1, fun x hm => ⟨Nat.lt_of_lt_of_le (H.2.2 x hm).1 K.1, fun Bx => (H.2.2 x hm).2 (q.2 x Bx)⟩⟩
theorem oStr.kpX {a q : Addr} {us : List Int32} {Cn : String} {a0 : Array Value} {kk : Nat} (F : oStr Z h a us) (X : Exa Z h q Cn) (hn : Cn ≠ "java/lang/String") (wi : (Jvm.Cond.instantiable Cn kk).before a0 Z = true) (K : oKp (fun x => x = q ∨ h.size ≤ x) h h') : oStr Z h' a us := by
  obtain ⟨X1, c, b, cd, bs, f1, f2, A, e⟩ := F
  have ha : a < h.size := by
    obtain ⟨k, hk, -⟩ := X1.cell
    exact (Array.getElem?_eq_some_iff.mp hk).1
  have na : ¬ (a = q ∨ h.size ≤ a) := fun r => r.elim (fun z => (Exa.ne X1 X hn.symm) z) (fun z => absurd ha (Nat.not_lt.mpr z))
  have nb : ¬ (b = q ∨ h.size ≤ b) := fun r => r.elim (fun z => by obtain ⟨_, A, -⟩ := A; exact (ne_arr X wi A) z.symm) (fun z => absurd A.lt (Nat.not_lt.mpr z))
  exact ⟨K.exa X1, c, b, cd, bs, K.fld f1 na, K.fld f2 na, A.kp K nb, e⟩
end OwnLit2
theorem tw0 {Z : State} {a0 : Array Value} (hw : ∀ d ∈ tables_1, d.before a0 Z = true) : ((Jvm.Cond.classLink "com/example/wardstream/wardstream/engine/TokenIsPinLaw" (39 : Nat) "com/example/wardstream/wardstream/engine/RulesTokenizer$Token")).before a0 Z = true := hw _ (List.mem_of_getElem? (i := 0) rfl)
theorem tw1 {Z : State} {a0 : Array Value} (hw : ∀ d ∈ tables_1, d.before a0 Z = true) : ((Jvm.Cond.instantiable "com/example/wardstream/wardstream/engine/RulesTokenizer$Token" (4 : Nat))).before a0 Z = true := hw _ (List.mem_of_getElem? (i := 1) rfl)
theorem tw2 {Z : State} {a0 : Array Value} (hw : ∀ d ∈ tables_1, d.before a0 Z = true) : ((Jvm.Cond.initialized "com/example/wardstream/wardstream/engine/RulesTokenizer$Token")).before a0 Z = true := hw _ (List.mem_of_getElem? (i := 2) rfl)
theorem tw3 {Z : State} {a0 : Array Value} (hw : ∀ d ∈ tables_1, d.before a0 Z = true) : ((Jvm.Cond.methodLink "com/example/wardstream/wardstream/engine/TokenIsPinLaw" (41 : Nat) ({ cls := "com/example/wardstream/wardstream/engine/TokenIsPinLaw", name := "kindAt", desc := "(I)Lcom/example/wardstream/wardstream/engine/RulesTokenizer$Kind;" } : Jvm.MethodName))).before a0 Z = true := hw _ (List.mem_of_getElem? (i := 3) rfl)
theorem tw4 {Z : State} {a0 : Array Value} (hw : ∀ d ∈ tables_1, d.before a0 Z = true) : ((Jvm.Cond.static ({ cls := "com/example/wardstream/wardstream/engine/TokenIsPinLaw", name := "kindAt", desc := "(I)Lcom/example/wardstream/wardstream/engine/RulesTokenizer$Kind;" } : Jvm.MethodName))).before a0 Z = true := hw _ (List.mem_of_getElem? (i := 4) rfl)
theorem tw5 {Z : State} {a0 : Array Value} (hw : ∀ d ∈ tables_1, d.before a0 Z = true) : ((Jvm.Cond.initialized "com/example/wardstream/wardstream/engine/TokenIsPinLaw")).before a0 Z = true := hw _ (List.mem_of_getElem? (i := 5) rfl)
theorem tw6 {Z : State} {a0 : Array Value} (hw : ∀ d ∈ tables_1, d.before a0 Z = true) : ((Jvm.Cond.code ({ cls := "com/example/wardstream/wardstream/engine/TokenIsPinLaw", name := "kindAt", desc := "(I)Lcom/example/wardstream/wardstream/engine/RulesTokenizer$Kind;" } : Jvm.MethodName) method_2_code (1 : Nat) (Option.some (Jvm.ClassFile.FieldType.object "com/example/wardstream/wardstream/engine/RulesTokenizer$Kind")))).before a0 Z = true := hw _ (List.mem_of_getElem? (i := 6) rfl)
theorem tw7 {Z : State} {a0 : Array Value} (hw : ∀ d ∈ tables_1, d.before a0 Z = true) : ((Jvm.Cond.fieldLink "com/example/wardstream/wardstream/engine/TokenIsPinLaw" (7 : Nat) "com/example/wardstream/wardstream/engine/RulesTokenizer$Kind" "WORD" "Lcom/example/wardstream/wardstream/engine/RulesTokenizer$Kind;")).before a0 Z = true := hw _ (List.mem_of_getElem? (i := 7) rfl)
theorem tw8 {Z : State} {a0 : Array Value} (hw : ∀ d ∈ tables_1, d.before a0 Z = true) : ((Jvm.Cond.initialized "com/example/wardstream/wardstream/engine/RulesTokenizer$Kind")).before a0 Z = true := hw _ (List.mem_of_getElem? (i := 8) rfl)
theorem tw9 {Z : State} {a0 : Array Value} (hw : ∀ d ∈ tables_1, d.before a0 Z = true) : ((Jvm.Cond.laysStatic "com/example/wardstream/wardstream/engine/RulesTokenizer$Kind" "WORD" "Lcom/example/wardstream/wardstream/engine/RulesTokenizer$Kind;")).before a0 Z = true := hw _ (List.mem_of_getElem? (i := 9) rfl)
theorem tw10 {Z : State} {a0 : Array Value} (hw : ∀ d ∈ tables_1, d.before a0 Z = true) : ((Jvm.Cond.methodLink "com/example/wardstream/wardstream/engine/TokenIsPinLaw" (45 : Nat) ({ cls := "com/example/wardstream/wardstream/engine/TokenIsPinLaw", name := "build", desc := "(I)Ljava/lang/String;" } : Jvm.MethodName))).before a0 Z = true := hw _ (List.mem_of_getElem? (i := 10) rfl)
theorem tw11 {Z : State} {a0 : Array Value} (hw : ∀ d ∈ tables_1, d.before a0 Z = true) : ((Jvm.Cond.static ({ cls := "com/example/wardstream/wardstream/engine/TokenIsPinLaw", name := "build", desc := "(I)Ljava/lang/String;" } : Jvm.MethodName))).before a0 Z = true := hw _ (List.mem_of_getElem? (i := 11) rfl)
theorem tw12 {Z : State} {a0 : Array Value} (hw : ∀ d ∈ tables_1, d.before a0 Z = true) : ((Jvm.Cond.code ({ cls := "com/example/wardstream/wardstream/engine/TokenIsPinLaw", name := "build", desc := "(I)Ljava/lang/String;" } : Jvm.MethodName) method_4_code (2 : Nat) (Option.some (Jvm.ClassFile.FieldType.object "java/lang/String")))).before a0 Z = true := hw _ (List.mem_of_getElem? (i := 12) rfl)
theorem tw13 {Z : State} {a0 : Array Value} (hw : ∀ d ∈ tables_1, d.before a0 Z = true) : ((Jvm.Cond.classLink "com/example/wardstream/wardstream/engine/TokenIsPinLaw" (28 : Nat) "java/lang/String")).before a0 Z = true := hw _ (List.mem_of_getElem? (i := 13) rfl)
theorem tw14 {Z : State} {a0 : Array Value} (hw : ∀ d ∈ tables_1, d.before a0 Z = true) : ((Jvm.Cond.instantiable "java/lang/String" (4 : Nat))).before a0 Z = true := hw _ (List.mem_of_getElem? (i := 14) rfl)
theorem tw15 {Z : State} {a0 : Array Value} (hw : ∀ d ∈ tables_1, d.before a0 Z = true) : ((Jvm.Cond.initialized "java/lang/String")).before a0 Z = true := hw _ (List.mem_of_getElem? (i := 15) rfl)
theorem tw16 {Z : State} {a0 : Array Value} (hw : ∀ d ∈ tables_1, d.before a0 Z = true) : ((Jvm.Cond.arrayClass Jvm.ClassFile.FieldType.char)).before a0 Z = true := hw _ (List.mem_of_getElem? (i := 16) rfl)
theorem tw17 {Z : State} {a0 : Array Value} (hw : ∀ d ∈ tables_1, d.before a0 Z = true) : ((Jvm.Cond.methodLink "com/example/wardstream/wardstream/engine/TokenIsPinLaw" (33 : Nat) ({ cls := "com/example/wardstream/wardstream/engine/TokenIsPinLaw", name := "ch", desc := "(II)C" } : Jvm.MethodName))).before a0 Z = true := hw _ (List.mem_of_getElem? (i := 17) rfl)
theorem tw18 {Z : State} {a0 : Array Value} (hw : ∀ d ∈ tables_1, d.before a0 Z = true) : ((Jvm.Cond.static ({ cls := "com/example/wardstream/wardstream/engine/TokenIsPinLaw", name := "ch", desc := "(II)C" } : Jvm.MethodName))).before a0 Z = true := hw _ (List.mem_of_getElem? (i := 18) rfl)
theorem tw19 {Z : State} {a0 : Array Value} (hw : ∀ d ∈ tables_1, d.before a0 Z = true) : ((Jvm.Cond.code ({ cls := "com/example/wardstream/wardstream/engine/TokenIsPinLaw", name := "ch", desc := "(II)C" } : Jvm.MethodName) method_3_code (2 : Nat) (Option.some Jvm.ClassFile.FieldType.char))).before a0 Z = true := hw _ (List.mem_of_getElem? (i := 19) rfl)
theorem tw20 {Z : State} {a0 : Array Value} (hw : ∀ d ∈ tables_1, d.before a0 Z = true) : ((Jvm.Cond.methodLink "com/example/wardstream/wardstream/engine/TokenIsPinLaw" (30 : Nat) ({ cls := "java/lang/String", name := "<init>", desc := "([C)V" } : Jvm.MethodName))).before a0 Z = true := hw _ (List.mem_of_getElem? (i := 20) rfl)
theorem tw21 {Z : State} {a0 : Array Value} (hw : ∀ d ∈ tables_1, d.before a0 Z = true) : ((Jvm.Cond.instanceMethod ({ cls := "java/lang/String", name := "<init>", desc := "([C)V" } : Jvm.MethodName))).before a0 Z = true := hw _ (List.mem_of_getElem? (i := 21) rfl)
theorem tw22 {Z : State} {a0 : Array Value} (hw : ∀ d ∈ tables_1, d.before a0 Z = true) : ((Jvm.Cond.code ({ cls := "java/lang/String", name := "<init>", desc := "([C)V" } : Jvm.MethodName) jdk_42_method_3_code (2 : Nat) (Option.none : Option Jvm.ClassFile.FieldType))).before a0 Z = true := hw _ (List.mem_of_getElem? (i := 22) rfl)
theorem tw23 {Z : State} {a0 : Array Value} (hw : ∀ d ∈ tables_1, d.before a0 Z = true) : ((Jvm.Cond.methodLink "java/lang/String" (27 : Nat) ({ cls := "java/lang/String", name := "<init>", desc := "([CIILjava/lang/Void;)V" } : Jvm.MethodName))).before a0 Z = true := hw _ (List.mem_of_getElem? (i := 23) rfl)
theorem tw24 {Z : State} {a0 : Array Value} (hw : ∀ d ∈ tables_1, d.before a0 Z = true) : ((Jvm.Cond.instanceMethod ({ cls := "java/lang/String", name := "<init>", desc := "([CIILjava/lang/Void;)V" } : Jvm.MethodName))).before a0 Z = true := hw _ (List.mem_of_getElem? (i := 24) rfl)
theorem tw26 {Z : State} {a0 : Array Value} (hw : ∀ d ∈ tables_1, d.before a0 Z = true) : ((Jvm.Cond.code ({ cls := "java/lang/String", name := "<init>", desc := "([CIILjava/lang/Void;)V" } : Jvm.MethodName) jdk_42_method_149_code (6 : Nat) (Option.none : Option Jvm.ClassFile.FieldType))).before a0 Z = true := hw _ (List.mem_of_getElem? (i := 26) rfl)
theorem tw27 {Z : State} {a0 : Array Value} (hw : ∀ d ∈ tables_1, d.before a0 Z = true) : ((Jvm.Cond.methodLink "java/lang/String" (1 : Nat) ({ cls := "java/lang/Object", name := "<init>", desc := "()V" } : Jvm.MethodName))).before a0 Z = true := hw _ (List.mem_of_getElem? (i := 27) rfl)
theorem tw28 {Z : State} {a0 : Array Value} (hw : ∀ d ∈ tables_1, d.before a0 Z = true) : ((Jvm.Cond.instanceMethod ({ cls := "java/lang/Object", name := "<init>", desc := "()V" } : Jvm.MethodName))).before a0 Z = true := hw _ (List.mem_of_getElem? (i := 28) rfl)
theorem tw29 {Z : State} {a0 : Array Value} (hw : ∀ d ∈ tables_1, d.before a0 Z = true) : ((Jvm.Cond.code ({ cls := "java/lang/Object", name := "<init>", desc := "()V" } : Jvm.MethodName) object_method_1_code (1 : Nat) (Option.none : Option Jvm.ClassFile.FieldType))).before a0 Z = true := hw _ (List.mem_of_getElem? (i := 29) rfl)
theorem tw30 {Z : State} {a0 : Array Value} (hw : ∀ d ∈ tables_1, d.before a0 Z = true) : ((Jvm.Cond.fieldLink "java/lang/String" (38 : Nat) "java/lang/String" "COMPACT_STRINGS" "Z")).before a0 Z = true := hw _ (List.mem_of_getElem? (i := 30) rfl)
theorem tw31 {Z : State} {a0 : Array Value} (hw : ∀ d ∈ tables_1, d.before a0 Z = true) : ((Jvm.Cond.methodLink "java/lang/String" (177 : Nat) ({ cls := "java/lang/StringUTF16", name := "compress", desc := "([CII)[B" } : Jvm.MethodName))).before a0 Z = true := hw _ (List.mem_of_getElem? (i := 31) rfl)
theorem tw32 {Z : State} {a0 : Array Value} (hw : ∀ d ∈ tables_1, d.before a0 Z = true) : ((Jvm.Cond.static ({ cls := "java/lang/StringUTF16", name := "compress", desc := "([CII)[B" } : Jvm.MethodName))).before a0 Z = true := hw _ (List.mem_of_getElem? (i := 32) rfl)
theorem tw33 {Z : State} {a0 : Array Value} (hw : ∀ d ∈ tables_1, d.before a0 Z = true) : ((Jvm.Cond.initialized "java/lang/StringUTF16")).before a0 Z = true := hw _ (List.mem_of_getElem? (i := 33) rfl)
theorem tw34 {Z : State} {a0 : Array Value} (hw : ∀ d ∈ tables_1, d.before a0 Z = true) : ((Jvm.Cond.code ({ cls := "java/lang/StringUTF16", name := "compress", desc := "([CII)[B" } : Jvm.MethodName) jdk_52_method_16_code (6 : Nat) (Option.some (Jvm.ClassFile.FieldType.array Jvm.ClassFile.FieldType.byte)))).before a0 Z = true := hw _ (List.mem_of_getElem? (i := 34) rfl)
theorem tw35 {Z : State} {a0 : Array Value} (hw : ∀ d ∈ tables_1, d.before a0 Z = true) : ((Jvm.Cond.arrayClass Jvm.ClassFile.FieldType.byte)).before a0 Z = true := hw _ (List.mem_of_getElem? (i := 35) rfl)
theorem tw36 {Z : State} {a0 : Array Value} (hw : ∀ d ∈ tables_1, d.before a0 Z = true) : ((Jvm.Cond.methodLink "java/lang/StringUTF16" (115 : Nat) ({ cls := "java/lang/StringUTF16", name := "compress", desc := "([CI[BII)I" } : Jvm.MethodName))).before a0 Z = true := hw _ (List.mem_of_getElem? (i := 36) rfl)
theorem tw37 {Z : State} {a0 : Array Value} (hw : ∀ d ∈ tables_1, d.before a0 Z = true) : ((Jvm.Cond.static ({ cls := "java/lang/StringUTF16", name := "compress", desc := "([CI[BII)I" } : Jvm.MethodName))).before a0 Z = true := hw _ (List.mem_of_getElem? (i := 37) rfl)
theorem tw38 {Z : State} {a0 : Array Value} (hw : ∀ d ∈ tables_1, d.before a0 Z = true) : ((Jvm.Cond.code ({ cls := "java/lang/StringUTF16", name := "compress", desc := "([CI[BII)I" } : Jvm.MethodName) jdk_52_method_21_code (7 : Nat) (Option.some Jvm.ClassFile.FieldType.int))).before a0 Z = true := hw _ (List.mem_of_getElem? (i := 38) rfl)
theorem tw39 {Z : State} {a0 : Array Value} (hw : ∀ d ∈ tables_1, d.before a0 Z = true) : ((Jvm.Cond.methodLink "java/lang/String" (47 : Nat) ({ cls := "java/lang/StringUTF16", name := "coderFromArrayLen", desc := "([BI)B" } : Jvm.MethodName))).before a0 Z = true := hw _ (List.mem_of_getElem? (i := 39) rfl)
theorem tw40 {Z : State} {a0 : Array Value} (hw : ∀ d ∈ tables_1, d.before a0 Z = true) : ((Jvm.Cond.static ({ cls := "java/lang/StringUTF16", name := "coderFromArrayLen", desc := "([BI)B" } : Jvm.MethodName))).before a0 Z = true := hw _ (List.mem_of_getElem? (i := 40) rfl)
theorem tw41 {Z : State} {a0 : Array Value} (hw : ∀ d ∈ tables_1, d.before a0 Z = true) : ((Jvm.Cond.code ({ cls := "java/lang/StringUTF16", name := "coderFromArrayLen", desc := "([BI)B" } : Jvm.MethodName) jdk_52_method_15_code (2 : Nat) (Option.some Jvm.ClassFile.FieldType.byte))).before a0 Z = true := hw _ (List.mem_of_getElem? (i := 41) rfl)
theorem tw42 {Z : State} {a0 : Array Value} (hw : ∀ d ∈ tables_1, d.before a0 Z = true) : ((Jvm.Cond.fieldLink "java/lang/String" (15 : Nat) "java/lang/String" "coder" "B")).before a0 Z = true := hw _ (List.mem_of_getElem? (i := 42) rfl)
theorem tw43 {Z : State} {a0 : Array Value} (hw : ∀ d ∈ tables_1, d.before a0 Z = true) : ((Jvm.Cond.laysFinal "java/lang/String" "java/lang/String" "coder" "B")).before a0 Z = true := hw _ (List.mem_of_getElem? (i := 43) rfl)
theorem tw44 {Z : State} {a0 : Array Value} (hw : ∀ d ∈ tables_1, d.before a0 Z = true) : ((Jvm.Cond.fieldLink "java/lang/String" (9 : Nat) "java/lang/String" "value" "[B")).before a0 Z = true := hw _ (List.mem_of_getElem? (i := 44) rfl)
theorem tw45 {Z : State} {a0 : Array Value} (hw : ∀ d ∈ tables_1, d.before a0 Z = true) : ((Jvm.Cond.laysFinal "java/lang/String" "java/lang/String" "value" "[B")).before a0 Z = true := hw _ (List.mem_of_getElem? (i := 45) rfl)
theorem tw46 {Z : State} {a0 : Array Value} (hw : ∀ d ∈ tables_1, d.before a0 Z = true) : ((Jvm.Cond.methodLink "com/example/wardstream/wardstream/engine/TokenIsPinLaw" (49 : Nat) ({ cls := "com/example/wardstream/wardstream/engine/RulesTokenizer$Token", name := "<init>", desc := "(Lcom/example/wardstream/wardstream/engine/RulesTokenizer$Kind;Ljava/lang/String;II)V" } : Jvm.MethodName))).before a0 Z = true := hw _ (List.mem_of_getElem? (i := 46) rfl)
theorem tw47 {Z : State} {a0 : Array Value} (hw : ∀ d ∈ tables_1, d.before a0 Z = true) : ((Jvm.Cond.instanceMethod ({ cls := "com/example/wardstream/wardstream/engine/RulesTokenizer$Token", name := "<init>", desc := "(Lcom/example/wardstream/wardstream/engine/RulesTokenizer$Kind;Ljava/lang/String;II)V" } : Jvm.MethodName))).before a0 Z = true := hw _ (List.mem_of_getElem? (i := 47) rfl)
theorem tw48 {Z : State} {a0 : Array Value} (hw : ∀ d ∈ tables_1, d.before a0 Z = true) : ((Jvm.Cond.code ({ cls := "com/example/wardstream/wardstream/engine/RulesTokenizer$Token", name := "<init>", desc := "(Lcom/example/wardstream/wardstream/engine/RulesTokenizer$Kind;Ljava/lang/String;II)V" } : Jvm.MethodName) prog_18_method_1_code (5 : Nat) (Option.none : Option Jvm.ClassFile.FieldType))).before a0 Z = true := hw _ (List.mem_of_getElem? (i := 48) rfl)
theorem tw49 {Z : State} {a0 : Array Value} (hw : ∀ d ∈ tables_1, d.before a0 Z = true) : ((Jvm.Cond.methodLink "com/example/wardstream/wardstream/engine/RulesTokenizer$Token" (1 : Nat) ({ cls := "java/lang/Record", name := "<init>", desc := "()V" } : Jvm.MethodName))).before a0 Z = true := hw _ (List.mem_of_getElem? (i := 49) rfl)
theorem tw50 {Z : State} {a0 : Array Value} (hw : ∀ d ∈ tables_1, d.before a0 Z = true) : ((Jvm.Cond.instanceMethod ({ cls := "java/lang/Record", name := "<init>", desc := "()V" } : Jvm.MethodName))).before a0 Z = true := hw _ (List.mem_of_getElem? (i := 50) rfl)
theorem tw52 {Z : State} {a0 : Array Value} (hw : ∀ d ∈ tables_1, d.before a0 Z = true) : ((Jvm.Cond.initialized "java/lang/Record")).before a0 Z = true := hw _ (List.mem_of_getElem? (i := 52) rfl)
theorem tw53 {Z : State} {a0 : Array Value} (hw : ∀ d ∈ tables_1, d.before a0 Z = true) : ((Jvm.Cond.code ({ cls := "java/lang/Record", name := "<init>", desc := "()V" } : Jvm.MethodName) jdk_30_method_1_code (1 : Nat) (Option.none : Option Jvm.ClassFile.FieldType))).before a0 Z = true := hw _ (List.mem_of_getElem? (i := 53) rfl)
theorem tw54 {Z : State} {a0 : Array Value} (hw : ∀ d ∈ tables_1, d.before a0 Z = true) : ((Jvm.Cond.methodLink "java/lang/Record" (1 : Nat) ({ cls := "java/lang/Object", name := "<init>", desc := "()V" } : Jvm.MethodName))).before a0 Z = true := hw _ (List.mem_of_getElem? (i := 54) rfl)
theorem tw55 {Z : State} {a0 : Array Value} (hw : ∀ d ∈ tables_1, d.before a0 Z = true) : ((Jvm.Cond.fieldLink "com/example/wardstream/wardstream/engine/RulesTokenizer$Token" (7 : Nat) "com/example/wardstream/wardstream/engine/RulesTokenizer$Token" "kind" "Lcom/example/wardstream/wardstream/engine/RulesTokenizer$Kind;")).before a0 Z = true := hw _ (List.mem_of_getElem? (i := 55) rfl)
theorem tw56 {Z : State} {a0 : Array Value} (hw : ∀ d ∈ tables_1, d.before a0 Z = true) : ((Jvm.Cond.laysFinal "com/example/wardstream/wardstream/engine/RulesTokenizer$Token" "com/example/wardstream/wardstream/engine/RulesTokenizer$Token" "kind" "Lcom/example/wardstream/wardstream/engine/RulesTokenizer$Kind;")).before a0 Z = true := hw _ (List.mem_of_getElem? (i := 56) rfl)
theorem tw57 {Z : State} {a0 : Array Value} (hw : ∀ d ∈ tables_1, d.before a0 Z = true) : ((Jvm.Cond.fieldLink "com/example/wardstream/wardstream/engine/RulesTokenizer$Token" (13 : Nat) "com/example/wardstream/wardstream/engine/RulesTokenizer$Token" "text" "Ljava/lang/String;")).before a0 Z = true := hw _ (List.mem_of_getElem? (i := 57) rfl)
theorem tw58 {Z : State} {a0 : Array Value} (hw : ∀ d ∈ tables_1, d.before a0 Z = true) : ((Jvm.Cond.laysFinal "com/example/wardstream/wardstream/engine/RulesTokenizer$Token" "com/example/wardstream/wardstream/engine/RulesTokenizer$Token" "text" "Ljava/lang/String;")).before a0 Z = true := hw _ (List.mem_of_getElem? (i := 58) rfl)
theorem tw59 {Z : State} {a0 : Array Value} (hw : ∀ d ∈ tables_1, d.before a0 Z = true) : ((Jvm.Cond.fieldLink "com/example/wardstream/wardstream/engine/RulesTokenizer$Token" (17 : Nat) "com/example/wardstream/wardstream/engine/RulesTokenizer$Token" "line" "I")).before a0 Z = true := hw _ (List.mem_of_getElem? (i := 59) rfl)
theorem tw60 {Z : State} {a0 : Array Value} (hw : ∀ d ∈ tables_1, d.before a0 Z = true) : ((Jvm.Cond.laysFinal "com/example/wardstream/wardstream/engine/RulesTokenizer$Token" "com/example/wardstream/wardstream/engine/RulesTokenizer$Token" "line" "I")).before a0 Z = true := hw _ (List.mem_of_getElem? (i := 60) rfl)
theorem tw61 {Z : State} {a0 : Array Value} (hw : ∀ d ∈ tables_1, d.before a0 Z = true) : ((Jvm.Cond.fieldLink "com/example/wardstream/wardstream/engine/RulesTokenizer$Token" (21 : Nat) "com/example/wardstream/wardstream/engine/RulesTokenizer$Token" "column" "I")).before a0 Z = true := hw _ (List.mem_of_getElem? (i := 61) rfl)
theorem tw62 {Z : State} {a0 : Array Value} (hw : ∀ d ∈ tables_1, d.before a0 Z = true) : ((Jvm.Cond.laysFinal "com/example/wardstream/wardstream/engine/RulesTokenizer$Token" "com/example/wardstream/wardstream/engine/RulesTokenizer$Token" "column" "I")).before a0 Z = true := hw _ (List.mem_of_getElem? (i := 62) rfl)
theorem tw63 {Z : State} {a0 : Array Value} (hw : ∀ d ∈ tables_1, d.before a0 Z = true) : ((Jvm.Cond.fieldLink "com/example/wardstream/wardstream/engine/TokenIsPinLaw" (19 : Nat) "com/example/wardstream/wardstream/engine/RulesTokenizer$Kind" "STRING" "Lcom/example/wardstream/wardstream/engine/RulesTokenizer$Kind;")).before a0 Z = true := hw _ (List.mem_of_getElem? (i := 63) rfl)
theorem tw64 {Z : State} {a0 : Array Value} (hw : ∀ d ∈ tables_1, d.before a0 Z = true) : ((Jvm.Cond.laysStatic "com/example/wardstream/wardstream/engine/RulesTokenizer$Kind" "STRING" "Lcom/example/wardstream/wardstream/engine/RulesTokenizer$Kind;")).before a0 Z = true := hw _ (List.mem_of_getElem? (i := 64) rfl)
theorem tw65 {Z : State} {a0 : Array Value} (hw : ∀ d ∈ tables_1, d.before a0 Z = true) : ((Jvm.Cond.methodLink "com/example/wardstream/wardstream/engine/TokenIsPinLaw" (52 : Nat) ({ cls := "com/example/wardstream/wardstream/engine/RulesTokenizer$Token", name := "is", desc := "(Lcom/example/wardstream/wardstream/engine/RulesTokenizer$Kind;Ljava/lang/String;)Z" } : Jvm.MethodName))).before a0 Z = true := hw _ (List.mem_of_getElem? (i := 65) rfl)
theorem tw66 {Z : State} {a0 : Array Value} (hw : ∀ d ∈ tables_1, d.before a0 Z = true) : ((Jvm.Cond.declares ({ cls := "com/example/wardstream/wardstream/engine/RulesTokenizer$Token", name := "is", desc := "(Lcom/example/wardstream/wardstream/engine/RulesTokenizer$Kind;Ljava/lang/String;)Z" } : Jvm.MethodName))).before a0 Z = true := hw _ (List.mem_of_getElem? (i := 66) rfl)
theorem tw67 {Z : State} {a0 : Array Value} (hw : ∀ d ∈ tables_1, d.before a0 Z = true) : ((Jvm.Cond.instanceMethod ({ cls := "com/example/wardstream/wardstream/engine/RulesTokenizer$Token", name := "is", desc := "(Lcom/example/wardstream/wardstream/engine/RulesTokenizer$Kind;Ljava/lang/String;)Z" } : Jvm.MethodName))).before a0 Z = true := hw _ (List.mem_of_getElem? (i := 67) rfl)
theorem tw68 {Z : State} {a0 : Array Value} (hw : ∀ d ∈ tables_1, d.before a0 Z = true) : ((Jvm.Cond.selects "com/example/wardstream/wardstream/engine/RulesTokenizer$Token" ({ cls := "com/example/wardstream/wardstream/engine/RulesTokenizer$Token", name := "is", desc := "(Lcom/example/wardstream/wardstream/engine/RulesTokenizer$Kind;Ljava/lang/String;)Z" } : Jvm.MethodName) ({ cls := "com/example/wardstream/wardstream/engine/RulesTokenizer$Token", name := "is", desc := "(Lcom/example/wardstream/wardstream/engine/RulesTokenizer$Kind;Ljava/lang/String;)Z" } : Jvm.MethodName))).before a0 Z = true := hw _ (List.mem_of_getElem? (i := 68) rfl)
theorem tw69 {Z : State} {a0 : Array Value} (hw : ∀ d ∈ tables_1, d.before a0 Z = true) : ((Jvm.Cond.code ({ cls := "com/example/wardstream/wardstream/engine/RulesTokenizer$Token", name := "is", desc := "(Lcom/example/wardstream/wardstream/engine/RulesTokenizer$Kind;Ljava/lang/String;)Z" } : Jvm.MethodName) prog_18_method_2_code (3 : Nat) (Option.some Jvm.ClassFile.FieldType.boolean))).before a0 Z = true := hw _ (List.mem_of_getElem? (i := 69) rfl)
theorem tw70 {Z : State} {a0 : Array Value} (hw : ∀ d ∈ tables_1, d.before a0 Z = true) : ((Jvm.Cond.fieldLink "com/example/wardstream/wardstream/engine/TokenIsPinLaw" (22 : Nat) "com/example/wardstream/wardstream/engine/RulesTokenizer$Kind" "SYMBOL" "Lcom/example/wardstream/wardstream/engine/RulesTokenizer$Kind;")).before a0 Z = true := hw _ (List.mem_of_getElem? (i := 70) rfl)
theorem tw71 {Z : State} {a0 : Array Value} (hw : ∀ d ∈ tables_1, d.before a0 Z = true) : ((Jvm.Cond.laysStatic "com/example/wardstream/wardstream/engine/RulesTokenizer$Kind" "SYMBOL" "Lcom/example/wardstream/wardstream/engine/RulesTokenizer$Kind;")).before a0 Z = true := hw _ (List.mem_of_getElem? (i := 71) rfl)
theorem tw72 {Z : State} {a0 : Array Value} (hw : ∀ d ∈ tables_1, d.before a0 Z = true) : ((Jvm.Cond.methodLink "com/example/wardstream/wardstream/engine/RulesTokenizer$Token" (24 : Nat) ({ cls := "java/lang/String", name := "equals", desc := "(Ljava/lang/Object;)Z" } : Jvm.MethodName))).before a0 Z = true := hw _ (List.mem_of_getElem? (i := 72) rfl)
theorem tw73 {Z : State} {a0 : Array Value} (hw : ∀ d ∈ tables_1, d.before a0 Z = true) : ((Jvm.Cond.declares ({ cls := "java/lang/String", name := "equals", desc := "(Ljava/lang/Object;)Z" } : Jvm.MethodName))).before a0 Z = true := hw _ (List.mem_of_getElem? (i := 73) rfl)
theorem tw74 {Z : State} {a0 : Array Value} (hw : ∀ d ∈ tables_1, d.before a0 Z = true) : ((Jvm.Cond.instanceMethod ({ cls := "java/lang/String", name := "equals", desc := "(Ljava/lang/Object;)Z" } : Jvm.MethodName))).before a0 Z = true := hw _ (List.mem_of_getElem? (i := 74) rfl)
theorem tw75 {Z : State} {a0 : Array Value} (hw : ∀ d ∈ tables_1, d.before a0 Z = true) : ((Jvm.Cond.selects "java/lang/String" ({ cls := "java/lang/String", name := "equals", desc := "(Ljava/lang/Object;)Z" } : Jvm.MethodName) ({ cls := "java/lang/String", name := "equals", desc := "(Ljava/lang/Object;)Z" } : Jvm.MethodName))).before a0 Z = true := hw _ (List.mem_of_getElem? (i := 75) rfl)
theorem tw76 {Z : State} {a0 : Array Value} (hw : ∀ d ∈ tables_1, d.before a0 Z = true) : ((Jvm.Cond.code ({ cls := "java/lang/String", name := "equals", desc := "(Ljava/lang/Object;)Z" } : Jvm.MethodName) jdk_42_method_66_code (3 : Nat) (Option.some Jvm.ClassFile.FieldType.boolean))).before a0 Z = true := hw _ (List.mem_of_getElem? (i := 76) rfl)
theorem tw77 {Z : State} {a0 : Array Value} (hw : ∀ d ∈ tables_1, d.before a0 Z = true) : ((Jvm.Cond.classLink "java/lang/String" (10 : Nat) "java/lang/String")).before a0 Z = true := hw _ (List.mem_of_getElem? (i := 77) rfl)
theorem tw78 {Z : State} {a0 : Array Value} (hw : ∀ d ∈ tables_1, d.before a0 Z = true) : ((Jvm.Cond.methodLink "java/lang/String" (541 : Nat) ({ cls := "java/lang/StringLatin1", name := "equals", desc := "([B[B)Z" } : Jvm.MethodName))).before a0 Z = true := hw _ (List.mem_of_getElem? (i := 78) rfl)
theorem tw79 {Z : State} {a0 : Array Value} (hw : ∀ d ∈ tables_1, d.before a0 Z = true) : ((Jvm.Cond.static ({ cls := "java/lang/StringLatin1", name := "equals", desc := "([B[B)Z" } : Jvm.MethodName))).before a0 Z = true := hw _ (List.mem_of_getElem? (i := 79) rfl)
theorem tw80 {Z : State} {a0 : Array Value} (hw : ∀ d ∈ tables_1, d.before a0 Z = true) : ((Jvm.Cond.initialized "java/lang/StringLatin1")).before a0 Z = true := hw _ (List.mem_of_getElem? (i := 80) rfl)
theorem tw81 {Z : State} {a0 : Array Value} (hw : ∀ d ∈ tables_1, d.before a0 Z = true) : ((Jvm.Cond.code ({ cls := "java/lang/StringLatin1", name := "equals", desc := "([B[B)Z" } : Jvm.MethodName) jdk_43_method_13_code (3 : Nat) (Option.some Jvm.ClassFile.FieldType.boolean))).before a0 Z = true := hw _ (List.mem_of_getElem? (i := 81) rfl)
theorem tw82 {Z : State} {a0 : Array Value} (hw : ∀ d ∈ tables_1, d.before a0 Z = true) : ((Jvm.Cond.fieldLink "com/example/wardstream/wardstream/engine/TokenIsPinLaw" (25 : Nat) "com/example/wardstream/wardstream/engine/RulesTokenizer$Kind" "END" "Lcom/example/wardstream/wardstream/engine/RulesTokenizer$Kind;")).before a0 Z = true := hw _ (List.mem_of_getElem? (i := 82) rfl)
theorem tw83 {Z : State} {a0 : Array Value} (hw : ∀ d ∈ tables_1, d.before a0 Z = true) : ((Jvm.Cond.laysStatic "com/example/wardstream/wardstream/engine/RulesTokenizer$Kind" "END" "Lcom/example/wardstream/wardstream/engine/RulesTokenizer$Kind;")).before a0 Z = true := hw _ (List.mem_of_getElem? (i := 83) rfl)
theorem tw84 {Z : State} {a0 : Array Value} (hw : ∀ d ∈ tables_1, d.before a0 Z = true) : ((Jvm.Cond.fieldLink "com/example/wardstream/wardstream/engine/TokenIsPinLaw" (13 : Nat) "com/example/wardstream/wardstream/engine/RulesTokenizer$Kind" "NUMBER" "Lcom/example/wardstream/wardstream/engine/RulesTokenizer$Kind;")).before a0 Z = true := hw _ (List.mem_of_getElem? (i := 84) rfl)
theorem tw85 {Z : State} {a0 : Array Value} (hw : ∀ d ∈ tables_1, d.before a0 Z = true) : ((Jvm.Cond.laysStatic "com/example/wardstream/wardstream/engine/RulesTokenizer$Kind" "NUMBER" "Lcom/example/wardstream/wardstream/engine/RulesTokenizer$Kind;")).before a0 Z = true := hw _ (List.mem_of_getElem? (i := 85) rfl)
theorem tw86 {Z : State} {a0 : Array Value} (hw : ∀ d ∈ tables_1, d.before a0 Z = true) : ((Jvm.Cond.stringLink "java/lang/String" (7 : Nat) "")).before a0 Z = true := hw _ (List.mem_of_getElem? (i := 86) rfl)
theorem tw87 {Z : State} {a0 : Array Value} (hw : ∀ d ∈ tables_1, d.before a0 Z = true) : ((Jvm.Cond.soleField "java/lang/String" "value")).before a0 Z = true := hw _ (List.mem_of_getElem? (i := 87) rfl)
theorem tw88 {Z : State} {a0 : Array Value} (hw : ∀ d ∈ tables_1, d.before a0 Z = true) : ((Jvm.Cond.soleField "java/lang/String" "coder")).before a0 Z = true := hw _ (List.mem_of_getElem? (i := 88) rfl)
theorem tw89 {Z : State} {a0 : Array Value} (hw : ∀ d ∈ tables_1, d.before a0 Z = true) : ((Jvm.Cond.fieldLink "com/example/wardstream/wardstream/engine/TokenIsPinLaw" (16 : Nat) "com/example/wardstream/wardstream/engine/RulesTokenizer$Kind" "DURATION" "Lcom/example/wardstream/wardstream/engine/RulesTokenizer$Kind;")).before a0 Z = true := hw _ (List.mem_of_getElem? (i := 89) rfl)
theorem tw90 {Z : State} {a0 : Array Value} (hw : ∀ d ∈ tables_1, d.before a0 Z = true) : ((Jvm.Cond.laysStatic "com/example/wardstream/wardstream/engine/RulesTokenizer$Kind" "DURATION" "Lcom/example/wardstream/wardstream/engine/RulesTokenizer$Kind;")).before a0 Z = true := hw _ (List.mem_of_getElem? (i := 90) rfl)
theorem d1_0 : decode method_2_code 0 = .ok (.iload_n 0, 1) := by decide +kernel
theorem d1_1 : decode method_2_code 1 = .ok (.ifCond .ne 7, 3) := by decide +kernel
theorem d1_4 : decode method_2_code 4 = .ok (.getstatic 7, 3) := by decide +kernel
theorem d1_7 : decode method_2_code 7 = .ok (.areturn, 1) := by decide +kernel
theorem d1_8 : decode method_2_code 8 = .ok (.iload_n 0, 1) := by decide +kernel
theorem d1_9 : decode method_2_code 9 = .ok (.iconst 1, 1) := by decide +kernel
theorem d1_10 : decode method_2_code 10 = .ok (.if_icmp .ne 7, 3) := by decide +kernel
theorem d1_13 : decode method_2_code 13 = .ok (.getstatic 13, 3) := by decide +kernel
theorem d1_16 : decode method_2_code 16 = .ok (.areturn, 1) := by decide +kernel
theorem d1_17 : decode method_2_code 17 = .ok (.iload_n 0, 1) := by decide +kernel
theorem d1_18 : decode method_2_code 18 = .ok (.iconst 2, 1) := by decide +kernel
theorem d1_19 : decode method_2_code 19 = .ok (.if_icmp .ne 7, 3) := by decide +kernel
theorem d1_22 : decode method_2_code 22 = .ok (.getstatic 16, 3) := by decide +kernel
theorem d1_25 : decode method_2_code 25 = .ok (.areturn, 1) := by decide +kernel
theorem d1_26 : decode method_2_code 26 = .ok (.iload_n 0, 1) := by decide +kernel
theorem d1_27 : decode method_2_code 27 = .ok (.iconst 3, 1) := by decide +kernel
theorem d1_28 : decode method_2_code 28 = .ok (.if_icmp .ne 7, 3) := by decide +kernel
theorem d1_31 : decode method_2_code 31 = .ok (.getstatic 19, 3) := by decide +kernel
theorem d1_34 : decode method_2_code 34 = .ok (.areturn, 1) := by decide +kernel
theorem d1_35 : decode method_2_code 35 = .ok (.iload_n 0, 1) := by decide +kernel
theorem d1_36 : decode method_2_code 36 = .ok (.iconst 4, 1) := by decide +kernel
theorem d1_37 : decode method_2_code 37 = .ok (.if_icmp .ne 7, 3) := by decide +kernel
theorem d1_40 : decode method_2_code 40 = .ok (.getstatic 22, 3) := by decide +kernel
theorem d1_43 : decode method_2_code 43 = .ok (.areturn, 1) := by decide +kernel
theorem d1_44 : decode method_2_code 44 = .ok (.getstatic 25, 3) := by decide +kernel
theorem d1_47 : decode method_2_code 47 = .ok (.areturn, 1) := by decide +kernel
theorem d2_0 : decode method_4_code 0 = .ok (.iload_n 0, 1) := by decide +kernel
theorem d2_1 : decode method_4_code 1 = .ok (.iconst 3, 1) := by decide +kernel
theorem d2_2 : decode method_4_code 2 = .ok (.iand, 1) := by decide +kernel
theorem d2_3 : decode method_4_code 3 = .ok (.istore_n 1, 1) := by decide +kernel
theorem d2_4 : decode method_4_code 4 = .ok (.iload_n 1, 1) := by decide +kernel
theorem d2_5 : decode method_4_code 5 = .ok (.ifCond .ne 14, 3) := by decide +kernel
theorem d2_8 : decode method_4_code 8 = .ok (.new 28, 3) := by decide +kernel
theorem d2_11 : decode method_4_code 11 = .ok (.dup, 1) := by decide +kernel
theorem d2_12 : decode method_4_code 12 = .ok (.iconst 0, 1) := by decide +kernel
theorem d2_13 : decode method_4_code 13 = .ok (.newarray .char, 2) := by decide +kernel
theorem d2_15 : decode method_4_code 15 = .ok (.invokespecial 30, 3) := by decide +kernel
theorem d2_18 : decode method_4_code 18 = .ok (.areturn, 1) := by decide +kernel
theorem d2_19 : decode method_4_code 19 = .ok (.iload_n 1, 1) := by decide +kernel
theorem d2_20 : decode method_4_code 20 = .ok (.iconst 1, 1) := by decide +kernel
theorem d2_21 : decode method_4_code 21 = .ok (.if_icmp .ne 22, 3) := by decide +kernel
theorem d2_24 : decode method_4_code 24 = .ok (.new 28, 3) := by decide +kernel
theorem d2_27 : decode method_4_code 27 = .ok (.dup, 1) := by decide +kernel
theorem d2_28 : decode method_4_code 28 = .ok (.iconst 1, 1) := by decide +kernel
theorem d2_29 : decode method_4_code 29 = .ok (.newarray .char, 2) := by decide +kernel
theorem d2_31 : decode method_4_code 31 = .ok (.dup, 1) := by decide +kernel
theorem d2_32 : decode method_4_code 32 = .ok (.iconst 0, 1) := by decide +kernel
theorem d2_33 : decode method_4_code 33 = .ok (.iload_n 0, 1) := by decide +kernel
theorem d2_34 : decode method_4_code 34 = .ok (.iconst 0, 1) := by decide +kernel
theorem d2_35 : decode method_4_code 35 = .ok (.invokestatic 33, 3) := by decide +kernel
theorem d2_38 : decode method_4_code 38 = .ok (.castore, 1) := by decide +kernel
theorem d2_39 : decode method_4_code 39 = .ok (.invokespecial 30, 3) := by decide +kernel
theorem d2_42 : decode method_4_code 42 = .ok (.areturn, 1) := by decide +kernel
theorem d2_43 : decode method_4_code 43 = .ok (.iload_n 1, 1) := by decide +kernel
theorem d2_44 : decode method_4_code 44 = .ok (.iconst 2, 1) := by decide +kernel
theorem d2_45 : decode method_4_code 45 = .ok (.if_icmp .ne 30, 3) := by decide +kernel
theorem d2_48 : decode method_4_code 48 = .ok (.new 28, 3) := by decide +kernel
theorem d2_51 : decode method_4_code 51 = .ok (.dup, 1) := by decide +kernel
theorem d2_52 : decode method_4_code 52 = .ok (.iconst 2, 1) := by decide +kernel
theorem d2_53 : decode method_4_code 53 = .ok (.newarray .char, 2) := by decide +kernel
theorem d2_55 : decode method_4_code 55 = .ok (.dup, 1) := by decide +kernel
theorem d2_56 : decode method_4_code 56 = .ok (.iconst 0, 1) := by decide +kernel
theorem d2_57 : decode method_4_code 57 = .ok (.iload_n 0, 1) := by decide +kernel
theorem d2_58 : decode method_4_code 58 = .ok (.iconst 0, 1) := by decide +kernel
theorem d2_59 : decode method_4_code 59 = .ok (.invokestatic 33, 3) := by decide +kernel
theorem d2_62 : decode method_4_code 62 = .ok (.castore, 1) := by decide +kernel
theorem d2_63 : decode method_4_code 63 = .ok (.dup, 1) := by decide +kernel
theorem d2_64 : decode method_4_code 64 = .ok (.iconst 1, 1) := by decide +kernel
theorem d2_65 : decode method_4_code 65 = .ok (.iload_n 0, 1) := by decide +kernel
theorem d2_66 : decode method_4_code 66 = .ok (.iconst 1, 1) := by decide +kernel
theorem d2_67 : decode method_4_code 67 = .ok (.invokestatic 33, 3) := by decide +kernel
theorem d2_70 : decode method_4_code 70 = .ok (.castore, 1) := by decide +kernel
theorem d2_71 : decode method_4_code 71 = .ok (.invokespecial 30, 3) := by decide +kernel
theorem d2_74 : decode method_4_code 74 = .ok (.areturn, 1) := by decide +kernel
theorem d2_75 : decode method_4_code 75 = .ok (.new 28, 3) := by decide +kernel
theorem d2_78 : decode method_4_code 78 = .ok (.dup, 1) := by decide +kernel
theorem d2_79 : decode method_4_code 79 = .ok (.iconst 3, 1) := by decide +kernel
theorem d2_80 : decode method_4_code 80 = .ok (.newarray .char, 2) := by decide +kernel
theorem d2_82 : decode method_4_code 82 = .ok (.dup, 1) := by decide +kernel
theorem d2_83 : decode method_4_code 83 = .ok (.iconst 0, 1) := by decide +kernel
theorem d2_84 : decode method_4_code 84 = .ok (.iload_n 0, 1) := by decide +kernel
theorem d2_85 : decode method_4_code 85 = .ok (.iconst 0, 1) := by decide +kernel
theorem d2_86 : decode method_4_code 86 = .ok (.invokestatic 33, 3) := by decide +kernel
theorem d2_89 : decode method_4_code 89 = .ok (.castore, 1) := by decide +kernel
theorem d2_90 : decode method_4_code 90 = .ok (.dup, 1) := by decide +kernel
theorem d2_91 : decode method_4_code 91 = .ok (.iconst 1, 1) := by decide +kernel
theorem d2_92 : decode method_4_code 92 = .ok (.iload_n 0, 1) := by decide +kernel
theorem d2_93 : decode method_4_code 93 = .ok (.iconst 1, 1) := by decide +kernel
theorem d2_94 : decode method_4_code 94 = .ok (.invokestatic 33, 3) := by decide +kernel
theorem d2_97 : decode method_4_code 97 = .ok (.castore, 1) := by decide +kernel
theorem d2_98 : decode method_4_code 98 = .ok (.dup, 1) := by decide +kernel
theorem d2_99 : decode method_4_code 99 = .ok (.iconst 2, 1) := by decide +kernel
theorem d2_100 : decode method_4_code 100 = .ok (.iload_n 0, 1) := by decide +kernel
theorem d2_101 : decode method_4_code 101 = .ok (.iconst 2, 1) := by decide +kernel
theorem d2_102 : decode method_4_code 102 = .ok (.invokestatic 33, 3) := by decide +kernel
theorem d2_105 : decode method_4_code 105 = .ok (.castore, 1) := by decide +kernel
theorem d2_106 : decode method_4_code 106 = .ok (.invokespecial 30, 3) := by decide +kernel
theorem d2_109 : decode method_4_code 109 = .ok (.areturn, 1) := by decide +kernel
theorem d3_0 : decode method_3_code 0 = .ok (.iload_n 0, 1) := by decide +kernel
theorem d3_1 : decode method_3_code 1 = .ok (.iconst 2, 1) := by decide +kernel
theorem d3_2 : decode method_3_code 2 = .ok (.bipush 8, 2) := by decide +kernel
theorem d3_4 : decode method_3_code 4 = .ok (.iload_n 1, 1) := by decide +kernel
theorem d3_5 : decode method_3_code 5 = .ok (.imul, 1) := by decide +kernel
theorem d3_6 : decode method_3_code 6 = .ok (.iadd, 1) := by decide +kernel
theorem d3_7 : decode method_3_code 7 = .ok (.iushr, 1) := by decide +kernel
theorem d3_8 : decode method_3_code 8 = .ok (.sipush 255, 3) := by decide +kernel
theorem d3_11 : decode method_3_code 11 = .ok (.iand, 1) := by decide +kernel
theorem d3_12 : decode method_3_code 12 = .ok (.i2c, 1) := by decide +kernel
theorem d3_13 : decode method_3_code 13 = .ok (.ireturn, 1) := by decide +kernel
theorem d4_0 : decode jdk_42_method_3_code 0 = .ok (.aload_n 0, 1) := by decide +kernel
theorem d4_1 : decode jdk_42_method_3_code 1 = .ok (.aload_n 1, 1) := by decide +kernel
theorem d4_2 : decode jdk_42_method_3_code 2 = .ok (.iconst 0, 1) := by decide +kernel
theorem d4_3 : decode jdk_42_method_3_code 3 = .ok (.aload_n 1, 1) := by decide +kernel
theorem d4_4 : decode jdk_42_method_3_code 4 = .ok (.arraylength, 1) := by decide +kernel
theorem d4_5 : decode jdk_42_method_3_code 5 = .ok (.aconst_null, 1) := by decide +kernel
theorem d4_6 : decode jdk_42_method_3_code 6 = .ok (.invokespecial 27, 3) := by decide +kernel
theorem d4_9 : decode jdk_42_method_3_code 9 = .ok (.return_, 1) := by decide +kernel
theorem d5_0 : decode jdk_42_method_149_code 0 = .ok (.aload_n 0, 1) := by decide +kernel
theorem d5_1 : decode jdk_42_method_149_code 1 = .ok (.invokespecial 1, 3) := by decide +kernel
theorem d5_4 : decode jdk_42_method_149_code 4 = .ok (.iload_n 3, 1) := by decide +kernel
theorem d5_5 : decode jdk_42_method_149_code 5 = .ok (.ifCond .ne 22, 3) := by decide +kernel
theorem d5_8 : decode jdk_42_method_149_code 8 = .ok (.aload_n 0, 1) := by decide +kernel
theorem d5_9 : decode jdk_42_method_149_code 9 = .ok (.ldc 7, 2) := by decide +kernel
theorem d5_11 : decode jdk_42_method_149_code 11 = .ok (.getfield 9, 3) := by decide +kernel
theorem d5_14 : decode jdk_42_method_149_code 14 = .ok (.putfield 9, 3) := by decide +kernel
theorem d5_17 : decode jdk_42_method_149_code 17 = .ok (.aload_n 0, 1) := by decide +kernel
theorem d5_18 : decode jdk_42_method_149_code 18 = .ok (.ldc 7, 2) := by decide +kernel
theorem d5_20 : decode jdk_42_method_149_code 20 = .ok (.getfield 15, 3) := by decide +kernel
theorem d5_23 : decode jdk_42_method_149_code 23 = .ok (.putfield 15, 3) := by decide +kernel
theorem d5_26 : decode jdk_42_method_149_code 26 = .ok (.return_, 1) := by decide +kernel
theorem d5_27 : decode jdk_42_method_149_code 27 = .ok (.getstatic 38, 3) := by decide +kernel
theorem d5_30 : decode jdk_42_method_149_code 30 = .ok (.ifCond .eq 28, 3) := by decide +kernel
theorem d5_33 : decode jdk_42_method_149_code 33 = .ok (.aload_n 1, 1) := by decide +kernel
theorem d5_34 : decode jdk_42_method_149_code 34 = .ok (.iload_n 2, 1) := by decide +kernel
theorem d5_35 : decode jdk_42_method_149_code 35 = .ok (.iload_n 3, 1) := by decide +kernel
theorem d5_36 : decode jdk_42_method_149_code 36 = .ok (.invokestatic 177, 3) := by decide +kernel
theorem d5_39 : decode jdk_42_method_149_code 39 = .ok (.astore 5, 2) := by decide +kernel
theorem d5_41 : decode jdk_42_method_149_code 41 = .ok (.aload_n 0, 1) := by decide +kernel
theorem d5_42 : decode jdk_42_method_149_code 42 = .ok (.aload 5, 2) := by decide +kernel
theorem d5_44 : decode jdk_42_method_149_code 44 = .ok (.iload_n 3, 1) := by decide +kernel
theorem d5_45 : decode jdk_42_method_149_code 45 = .ok (.invokestatic 47, 3) := by decide +kernel
theorem d5_48 : decode jdk_42_method_149_code 48 = .ok (.putfield 15, 3) := by decide +kernel
theorem d5_51 : decode jdk_42_method_149_code 51 = .ok (.aload_n 0, 1) := by decide +kernel
theorem d5_52 : decode jdk_42_method_149_code 52 = .ok (.aload 5, 2) := by decide +kernel
theorem d5_54 : decode jdk_42_method_149_code 54 = .ok (.putfield 9, 3) := by decide +kernel
theorem d5_57 : decode jdk_42_method_149_code 57 = .ok (.return_, 1) := by decide +kernel
theorem d7_0 : decode jdk_52_method_16_code 0 = .ok (.iload_n 2, 1) := by decide +kernel
theorem d7_1 : decode jdk_52_method_16_code 1 = .ok (.newarray .byte, 2) := by decide +kernel
theorem d7_3 : decode jdk_52_method_16_code 3 = .ok (.astore_n 3, 1) := by decide +kernel
theorem d7_4 : decode jdk_52_method_16_code 4 = .ok (.aload_n 0, 1) := by decide +kernel
theorem d7_5 : decode jdk_52_method_16_code 5 = .ok (.iload_n 1, 1) := by decide +kernel
theorem d7_6 : decode jdk_52_method_16_code 6 = .ok (.aload_n 3, 1) := by decide +kernel
theorem d7_7 : decode jdk_52_method_16_code 7 = .ok (.iconst 0, 1) := by decide +kernel
theorem d7_8 : decode jdk_52_method_16_code 8 = .ok (.iload_n 2, 1) := by decide +kernel
theorem d7_9 : decode jdk_52_method_16_code 9 = .ok (.invokestatic 115, 3) := by decide +kernel
theorem d7_12 : decode jdk_52_method_16_code 12 = .ok (.istore 4, 2) := by decide +kernel
theorem d7_14 : decode jdk_52_method_16_code 14 = .ok (.iload 4, 2) := by decide +kernel
theorem d7_16 : decode jdk_52_method_16_code 16 = .ok (.iload_n 2, 1) := by decide +kernel
theorem d7_17 : decode jdk_52_method_16_code 17 = .ok (.if_icmp .eq 40, 3) := by decide +kernel
theorem d7_57 : decode jdk_52_method_16_code 57 = .ok (.aload_n 3, 1) := by decide +kernel
theorem d7_58 : decode jdk_52_method_16_code 58 = .ok (.areturn, 1) := by decide +kernel
theorem d8_0 : decode jdk_52_method_21_code 0 = .ok (.iconst 0, 1) := by decide +kernel
theorem d8_1 : decode jdk_52_method_21_code 1 = .ok (.istore 5, 2) := by decide +kernel
theorem d8_3 : decode jdk_52_method_21_code 3 = .ok (.iload 5, 2) := by decide +kernel
theorem d8_5 : decode jdk_52_method_21_code 5 = .ok (.iload 4, 2) := by decide +kernel
theorem d8_7 : decode jdk_52_method_21_code 7 = .ok (.if_icmp .ge 37, 3) := by decide +kernel
theorem d8_10 : decode jdk_52_method_21_code 10 = .ok (.aload_n 0, 1) := by decide +kernel
theorem d8_11 : decode jdk_52_method_21_code 11 = .ok (.iload_n 1, 1) := by decide +kernel
theorem d8_12 : decode jdk_52_method_21_code 12 = .ok (.caload, 1) := by decide +kernel
theorem d8_13 : decode jdk_52_method_21_code 13 = .ok (.istore 6, 2) := by decide +kernel
theorem d8_15 : decode jdk_52_method_21_code 15 = .ok (.iload 6, 2) := by decide +kernel
theorem d8_17 : decode jdk_52_method_21_code 17 = .ok (.sipush 255, 3) := by decide +kernel
theorem d8_20 : decode jdk_52_method_21_code 20 = .ok (.if_icmp .le 6, 3) := by decide +kernel
theorem d8_23 : decode jdk_52_method_21_code 23 = .ok (.iload 5, 2) := by decide +kernel
theorem d8_25 : decode jdk_52_method_21_code 25 = .ok (.ireturn, 1) := by decide +kernel
theorem d8_26 : decode jdk_52_method_21_code 26 = .ok (.aload_n 2, 1) := by decide +kernel
theorem d8_27 : decode jdk_52_method_21_code 27 = .ok (.iload_n 3, 1) := by decide +kernel
theorem d8_28 : decode jdk_52_method_21_code 28 = .ok (.iload 6, 2) := by decide +kernel
theorem d8_30 : decode jdk_52_method_21_code 30 = .ok (.i2b, 1) := by decide +kernel
theorem d8_31 : decode jdk_52_method_21_code 31 = .ok (.bastore, 1) := by decide +kernel
theorem d8_32 : decode jdk_52_method_21_code 32 = .ok (.iinc 1 1, 3) := by decide +kernel
theorem d8_35 : decode jdk_52_method_21_code 35 = .ok (.iinc 3 1, 3) := by decide +kernel
theorem d8_38 : decode jdk_52_method_21_code 38 = .ok (.iinc 5 1, 3) := by decide +kernel
theorem d8_41 : decode jdk_52_method_21_code 41 = .ok (.goto (-38), 3) := by decide +kernel
theorem d8_44 : decode jdk_52_method_21_code 44 = .ok (.iload 4, 2) := by decide +kernel
theorem d8_46 : decode jdk_52_method_21_code 46 = .ok (.ireturn, 1) := by decide +kernel
theorem d9_0 : decode jdk_52_method_15_code 0 = .ok (.iload_n 1, 1) := by decide +kernel
theorem d9_1 : decode jdk_52_method_15_code 1 = .ok (.aload_n 0, 1) := by decide +kernel
theorem d9_2 : decode jdk_52_method_15_code 2 = .ok (.arraylength, 1) := by decide +kernel
theorem d9_3 : decode jdk_52_method_15_code 3 = .ok (.isub, 1) := by decide +kernel
theorem d9_4 : decode jdk_52_method_15_code 4 = .ok (.bipush 31, 2) := by decide +kernel
theorem d9_6 : decode jdk_52_method_15_code 6 = .ok (.iushr, 1) := by decide +kernel
theorem d9_7 : decode jdk_52_method_15_code 7 = .ok (.i2b, 1) := by decide +kernel
theorem d9_8 : decode jdk_52_method_15_code 8 = .ok (.ireturn, 1) := by decide +kernel
theorem d10_0 : decode prog_18_method_1_code 0 = .ok (.aload_n 0, 1) := by decide +kernel
theorem d10_1 : decode prog_18_method_1_code 1 = .ok (.invokespecial 1, 3) := by decide +kernel
theorem d10_4 : decode prog_18_method_1_code 4 = .ok (.aload_n 0, 1) := by decide +kernel
theorem d10_5 : decode prog_18_method_1_code 5 = .ok (.aload_n 1, 1) := by decide +kernel
theorem d10_6 : decode prog_18_method_1_code 6 = .ok (.putfield 7, 3) := by decide +kernel
theorem d10_9 : decode prog_18_method_1_code 9 = .ok (.aload_n 0, 1) := by decide +kernel
theorem d10_10 : decode prog_18_method_1_code 10 = .ok (.aload_n 2, 1) := by decide +kernel
theorem d10_11 : decode prog_18_method_1_code 11 = .ok (.putfield 13, 3) := by decide +kernel
theorem d10_14 : decode prog_18_method_1_code 14 = .ok (.aload_n 0, 1) := by decide +kernel
theorem d10_15 : decode prog_18_method_1_code 15 = .ok (.iload_n 3, 1) := by decide +kernel
theorem d10_16 : decode prog_18_method_1_code 16 = .ok (.putfield 17, 3) := by decide +kernel
theorem d10_19 : decode prog_18_method_1_code 19 = .ok (.aload_n 0, 1) := by decide +kernel
theorem d10_20 : decode prog_18_method_1_code 20 = .ok (.iload 4, 2) := by decide +kernel
theorem d10_22 : decode prog_18_method_1_code 22 = .ok (.putfield 21, 3) := by decide +kernel
theorem d10_25 : decode prog_18_method_1_code 25 = .ok (.return_, 1) := by decide +kernel
theorem d11_0 : decode jdk_30_method_1_code 0 = .ok (.aload_n 0, 1) := by decide +kernel
theorem d11_1 : decode jdk_30_method_1_code 1 = .ok (.invokespecial 1, 3) := by decide +kernel
theorem d11_4 : decode jdk_30_method_1_code 4 = .ok (.return_, 1) := by decide +kernel
theorem d12_0 : decode prog_18_method_2_code 0 = .ok (.aload_n 0, 1) := by decide +kernel
theorem d12_1 : decode prog_18_method_2_code 1 = .ok (.getfield 7, 3) := by decide +kernel
theorem d12_4 : decode prog_18_method_2_code 4 = .ok (.aload_n 1, 1) := by decide +kernel
theorem d12_5 : decode prog_18_method_2_code 5 = .ok (.if_acmp .ne 18, 3) := by decide +kernel
theorem d12_8 : decode prog_18_method_2_code 8 = .ok (.aload_n 0, 1) := by decide +kernel
theorem d12_9 : decode prog_18_method_2_code 9 = .ok (.getfield 13, 3) := by decide +kernel
theorem d12_12 : decode prog_18_method_2_code 12 = .ok (.aload_n 2, 1) := by decide +kernel
theorem d12_13 : decode prog_18_method_2_code 13 = .ok (.invokevirtual 24, 3) := by decide +kernel
theorem d12_16 : decode prog_18_method_2_code 16 = .ok (.ifCond .eq 7, 3) := by decide +kernel
theorem d12_19 : decode prog_18_method_2_code 19 = .ok (.iconst 1, 1) := by decide +kernel
theorem d12_20 : decode prog_18_method_2_code 20 = .ok (.goto 4, 3) := by decide +kernel
theorem d12_23 : decode prog_18_method_2_code 23 = .ok (.iconst 0, 1) := by decide +kernel
theorem d12_24 : decode prog_18_method_2_code 24 = .ok (.ireturn, 1) := by decide +kernel
theorem d13_0 : decode jdk_42_method_66_code 0 = .ok (.aload_n 0, 1) := by decide +kernel
theorem d13_1 : decode jdk_42_method_66_code 1 = .ok (.aload_n 1, 1) := by decide +kernel
theorem d13_2 : decode jdk_42_method_66_code 2 = .ok (.if_acmp .ne 5, 3) := by decide +kernel
theorem d13_5 : decode jdk_42_method_66_code 5 = .ok (.iconst 1, 1) := by decide +kernel
theorem d13_6 : decode jdk_42_method_66_code 6 = .ok (.ireturn, 1) := by decide +kernel
theorem d13_7 : decode jdk_42_method_66_code 7 = .ok (.aload_n 1, 1) := by decide +kernel
theorem d13_8 : decode jdk_42_method_66_code 8 = .ok (.instanceof 10, 3) := by decide +kernel
theorem d13_11 : decode jdk_42_method_66_code 11 = .ok (.ifCond .eq 43, 3) := by decide +kernel
theorem d13_14 : decode jdk_42_method_66_code 14 = .ok (.aload_n 1, 1) := by decide +kernel
theorem d13_15 : decode jdk_42_method_66_code 15 = .ok (.checkcast 10, 3) := by decide +kernel
theorem d13_18 : decode jdk_42_method_66_code 18 = .ok (.astore_n 2, 1) := by decide +kernel
theorem d13_19 : decode jdk_42_method_66_code 19 = .ok (.getstatic 38, 3) := by decide +kernel
theorem d13_22 : decode jdk_42_method_66_code 22 = .ok (.ifCond .eq 14, 3) := by decide +kernel
theorem d13_25 : decode jdk_42_method_66_code 25 = .ok (.aload_n 0, 1) := by decide +kernel
theorem d13_26 : decode jdk_42_method_66_code 26 = .ok (.getfield 15, 3) := by decide +kernel
theorem d13_29 : decode jdk_42_method_66_code 29 = .ok (.aload_n 2, 1) := by decide +kernel
theorem d13_30 : decode jdk_42_method_66_code 30 = .ok (.getfield 15, 3) := by decide +kernel
theorem d13_33 : decode jdk_42_method_66_code 33 = .ok (.if_icmp .ne 21, 3) := by decide +kernel
theorem d13_36 : decode jdk_42_method_66_code 36 = .ok (.aload_n 0, 1) := by decide +kernel
theorem d13_37 : decode jdk_42_method_66_code 37 = .ok (.getfield 9, 3) := by decide +kernel
theorem d13_40 : decode jdk_42_method_66_code 40 = .ok (.aload_n 2, 1) := by decide +kernel
theorem d13_41 : decode jdk_42_method_66_code 41 = .ok (.getfield 9, 3) := by decide +kernel
theorem d13_44 : decode jdk_42_method_66_code 44 = .ok (.invokestatic 541, 3) := by decide +kernel
theorem d13_47 : decode jdk_42_method_66_code 47 = .ok (.ifCond .eq 7, 3) := by decide +kernel
theorem d13_50 : decode jdk_42_method_66_code 50 = .ok (.iconst 1, 1) := by decide +kernel
theorem d13_51 : decode jdk_42_method_66_code 51 = .ok (.goto 4, 3) := by decide +kernel
theorem d13_54 : decode jdk_42_method_66_code 54 = .ok (.iconst 0, 1) := by decide +kernel
theorem d13_55 : decode jdk_42_method_66_code 55 = .ok (.ireturn, 1) := by decide +kernel
theorem d14_0 : decode jdk_43_method_13_code 0 = .ok (.aload_n 0, 1) := by decide +kernel
theorem d14_1 : decode jdk_43_method_13_code 1 = .ok (.arraylength, 1) := by decide +kernel
theorem d14_2 : decode jdk_43_method_13_code 2 = .ok (.aload_n 1, 1) := by decide +kernel
theorem d14_3 : decode jdk_43_method_13_code 3 = .ok (.arraylength, 1) := by decide +kernel
theorem d14_4 : decode jdk_43_method_13_code 4 = .ok (.if_icmp .ne 30, 3) := by decide +kernel
theorem d14_7 : decode jdk_43_method_13_code 7 = .ok (.iconst 0, 1) := by decide +kernel
theorem d14_8 : decode jdk_43_method_13_code 8 = .ok (.istore_n 2, 1) := by decide +kernel
theorem d14_9 : decode jdk_43_method_13_code 9 = .ok (.iload_n 2, 1) := by decide +kernel
theorem d14_10 : decode jdk_43_method_13_code 10 = .ok (.aload_n 0, 1) := by decide +kernel
theorem d14_11 : decode jdk_43_method_13_code 11 = .ok (.arraylength, 1) := by decide +kernel
theorem d14_12 : decode jdk_43_method_13_code 12 = .ok (.if_icmp .ge 20, 3) := by decide +kernel
theorem d14_15 : decode jdk_43_method_13_code 15 = .ok (.aload_n 0, 1) := by decide +kernel
theorem d14_16 : decode jdk_43_method_13_code 16 = .ok (.iload_n 2, 1) := by decide +kernel
theorem d14_17 : decode jdk_43_method_13_code 17 = .ok (.baload, 1) := by decide +kernel
theorem d14_18 : decode jdk_43_method_13_code 18 = .ok (.aload_n 1, 1) := by decide +kernel
theorem d14_19 : decode jdk_43_method_13_code 19 = .ok (.iload_n 2, 1) := by decide +kernel
theorem d14_20 : decode jdk_43_method_13_code 20 = .ok (.baload, 1) := by decide +kernel
theorem d14_21 : decode jdk_43_method_13_code 21 = .ok (.if_icmp .eq 5, 3) := by decide +kernel
theorem d14_24 : decode jdk_43_method_13_code 24 = .ok (.iconst 0, 1) := by decide +kernel
theorem d14_25 : decode jdk_43_method_13_code 25 = .ok (.ireturn, 1) := by decide +kernel
theorem d14_26 : decode jdk_43_method_13_code 26 = .ok (.iinc 2 1, 3) := by decide +kernel
theorem d14_29 : decode jdk_43_method_13_code 29 = .ok (.goto (-20), 3) := by decide +kernel
theorem d14_32 : decode jdk_43_method_13_code 32 = .ok (.iconst 1, 1) := by decide +kernel
theorem d14_33 : decode jdk_43_method_13_code 33 = .ok (.ireturn, 1) := by decide +kernel
theorem d14_34 : decode jdk_43_method_13_code 34 = .ok (.iconst 0, 1) := by decide +kernel
theorem d14_35 : decode jdk_43_method_13_code 35 = .ok (.ireturn, 1) := by decide +kernel
theorem pdo_0 : parseMethodDescriptor "([CI[BII)I" = some ⟨[(.array .char), .int, (.array .byte), .int, .int], some .int⟩ := by decide +kernel
theorem pdo_1 : parseMethodDescriptor "([CII)[B" = some ⟨[(.array .char), .int, .int], some (.array .byte)⟩ := by decide +kernel
theorem pdo_2 : parseMethodDescriptor "([BI)B" = some ⟨[(.array .byte), .int], some .byte⟩ := by decide +kernel
theorem pdo_3 : parseMethodDescriptor "([CIILjava/lang/Void;)V" = some ⟨[(.array .char), .int, .int, (.object "java/lang/Void")], none⟩ := by decide +kernel
theorem pdo_4 : parseMethodDescriptor "([B[B)Z" = some ⟨[(.array .byte), (.array .byte)], some .boolean⟩ := by decide +kernel
theorem pdo_5 : parseMethodDescriptor "(II)C" = some ⟨[.int, .int], some .char⟩ := by decide +kernel
theorem pdo_6 : parseMethodDescriptor "([C)V" = some ⟨[(.array .char)], none⟩ := by decide +kernel
theorem pdo_7 : parseMethodDescriptor "()V" = some ⟨[], none⟩ := by decide +kernel
theorem pdo_8 : parseMethodDescriptor "(Ljava/lang/Object;)Z" = some ⟨[(.object "java/lang/Object")], some .boolean⟩ := by decide +kernel
theorem pdo_9 : parseMethodDescriptor "(I)Lcom/example/wardstream/wardstream/engine/RulesTokenizer$Kind;" = some ⟨[.int], some (.object "com/example/wardstream/wardstream/engine/RulesTokenizer$Kind")⟩ := by decide +kernel
theorem pdo_10 : parseMethodDescriptor "(I)Ljava/lang/String;" = some ⟨[.int], some (.object "java/lang/String")⟩ := by decide +kernel
theorem pdo_11 : parseMethodDescriptor "(Lcom/example/wardstream/wardstream/engine/RulesTokenizer$Kind;Ljava/lang/String;II)V" = some ⟨[(.object "com/example/wardstream/wardstream/engine/RulesTokenizer$Kind"), (.object "java/lang/String"), .int, .int], none⟩ := by decide +kernel
theorem pdo_12 : parseMethodDescriptor "(Lcom/example/wardstream/wardstream/engine/RulesTokenizer$Kind;Ljava/lang/String;)Z" = some ⟨[(.object "com/example/wardstream/wardstream/engine/RulesTokenizer$Kind"), (.object "java/lang/String")], some .boolean⟩ := by decide +kernel
theorem pno_8 : plainFor (⟨"java/lang/StringUTF16", "compress", "([CI[BII)I"⟩ : MethodName) = true := by first | exact plainFor_of_name (by first | (simp [plainName, overriddenIn]; done) | decide +kernel) | decide +kernel
theorem efo_8 (m : MethodId) (x0 : Addr) (x1 : Int32) (x2 : Addr) (x3 : Int32) (x4 : Int32) : entryFrame m #[.ref x0, .int x1, .ref x2, .int x3, .int x4] 7 = oF m 0 [.val (.ref x0), .val (.int x1), .val (.ref x2), .val (.int x3), .val (.int x4), .unset, .unset] [] := by (first | (simp [entryFrame, oF, mkF, argsToLocals, Value.category]; done) | rfl)
set_option maxRecDepth 65536 in
set_option maxHeartbeats 40000000 in
theorem mC5 (l : Launch) (Z : State) (a0 : Array Value) (hw : ∀ d ∈ tables_1, d.before a0 Z = true) (va da : Addr) (us : List Int32) (h0 : Heap) (hlen : us.length < 2 ^ 31) (hya : Z.heap.size ≤ da) (hne : va ≠ da) (A : oArr Z h0 va .char (us.map Value.int)) (D : oArr Z h0 da .byte (List.replicate us.length (.int 0))) :
    oMeets l Z (⟨"java/lang/StringUTF16", "compress", "([CI[BII)I"⟩ : MethodName) jdk_52_method_21_code 7 (some .int) ({ frames := 0, cells := 0, slots := 0, locals := 0 } : Room) #[.ref va, .int 0, .ref da, .int 0, .int (Int32.ofNat us.length)] h0 (fun x => x = da ∨ h0.size ≤ x) (fun v h => ∃ j : Nat, v = some (.int (Int32.ofNat j)) ∧ ((j = us.length ∧ (∀ u ∈ us, oSmall u) ∧ oArr Z h da .byte (us.map oLv)) ∨ (j < us.length ∧ ∃ u, us[j]? = some u ∧ ¬ oSmall u))) := by
  refine oMeets.of pno_8 (fun _ q => Or.inr q) (fun E x q => q.elim (fun r => r ▸ hya) (fun r => Nat.le_trans E.1 r)) (Ls := [.val (.ref va), .val (.int 0), .val (.ref da), .val (.int 0), .val (.int (Int32.ofNat us.length)), .unset, .unset]) (fun m => efo_8 m va 0 da 0 (Int32.ofNat us.length)) ?_
  intro p e s m below meth c C hs
  have loop : ∀ (k i : Nat) (h : Heap) (s6 : Slot), i + k = us.length → (∀ u ∈ us.take i, oSmall u) → oArr Z h va .char (us.map Value.int) → oArr Z h da .byte ((us.take i).map oLv ++ List.replicate (us.length - i) (.int 0)) → (s6 = .unset ∨ ∃ w, s6 = .val w ∧ w.category = 1) →
      oWP false p l e ({ frames := 0, cells := 0, slots := 0, locals := 0 } : Room) s m #[.ref va, .int 0, .ref da, .int 0, .int (Int32.ofNat us.length)] below meth c (fun x => x = da ∨ h0.size ≤ x) (fun v h _ => ((fun v h => ∃ j : Nat, v = some (.int (Int32.ofNat j)) ∧ ((j = us.length ∧ (∀ u ∈ us, oSmall u) ∧ oArr Z h da .byte (us.map oLv)) ∨ (j < us.length ∧ ∃ u, us[j]? = some u ∧ ¬ oSmall u)))) v h) oT h 0 0 (oF m 3 [.val (.ref va), .val (.int (Int32.ofNat i)), .val (.ref da), .val (.int (Int32.ofNat i)), .val (.int (Int32.ofNat us.length)), .val (.int (Int32.ofNat i)), s6] []) := by
    intro k
    induction k with
    | zero =>
      intro i h s6 hik hsm A1 D1 h6
      obtain rfl : i = us.length := by omega
      refine K_iload C (pc := 3) d8_3 rfl ?_
      refine K_iload C (pc := 5) d8_5 rfl ?_
      refine K_icmp C (pc := 7) 44 d8_7 (by decide) (by decide) (fun hc7 => ?_) (fun hc7 => ?_)
      · simp only [oC, Classical.not_not] at hc7
        refine K_iload C (pc := 44) d8_44 rfl ?_
        refine K_ireturn C (pc := 46) d8_46 (by simp) rfl (by decide) (by decide) (fun _ _ => ⟨us.length, rfl, Or.inl ⟨rfl, by simpa using hsm, by simpa using D1⟩⟩)
      · simp only [oC, Classical.not_not] at hc7
        exact absurd hc7 (by rw [oOfLt hlen hlen]; omega)
    | succ k ih =>
      intro i h s6 hik hsm A1 D1 h6
      have hi : i < us.length := by omega
      obtain ⟨u, hu⟩ : ∃ u, us[i]? = some u := ⟨us[i], by simp [hi]⟩
      refine K_iload C (pc := 3) d8_3 rfl ?_
      refine K_iload C (pc := 5) d8_5 rfl ?_
      refine K_icmp C (pc := 7) 44 d8_7 (by decide) (by decide) (fun hc7 => ?_) (fun hc7 => ?_)
      · simp only [oC, Classical.not_not] at hc7
        exact absurd ((oOfLt (by omega) hlen).mpr hi) hc7
      · simp only [oC, Classical.not_not] at hc7
        refine K_aloadN C (pc := 10) d8_10 rfl (by first | rfl | assumption) ?_
        refine K_iloadN C (pc := 11) d8_11 rfl ?_
        refine K_caload2 C (pc := 12) (v := .int u) i A1 (oOf i (by omega)) (by simp [hu]) d8_12 ?_
        refine K_istoreV C (pc := 13) (Ls' := [_, _, _, _, _, _, _]) _ d8_13 rfl h6 rfl ?_
        refine K_iload C (pc := 15) d8_15 rfl ?_
        refine K_sipush C (pc := 17) 255 d8_17 (by decide) ?_
        refine K_icmp C (pc := 20) 26 d8_20 (by decide) (by decide) (fun hc20 => ?_) (fun hc20 => ?_)
        · simp only [oC, Classical.not_not] at hc20
          refine K_aloadN C (pc := 26) d8_26 rfl (by first | rfl | assumption) ?_
          refine K_iloadN C (pc := 27) d8_27 rfl ?_
          refine K_iload C (pc := 28) d8_28 rfl ?_
          refine K_i2b C (pc := 30) d8_30 ?_
          refine K_bastore2 C (pc := 31) i D1 (oOf i (by omega)) (by simp; omega) (Or.inl rfl) d8_31 ?_
          intro h' Wr1 D2
          refine K_iinc C (pc := 32) (w := 1) (Ls' := [_, _, _, _, _, _, _]) d8_32 (by decide) rfl rfl ?_
          refine K_iinc C (pc := 35) (w := 1) (Ls' := [_, _, _, _, _, _, _]) d8_35 (by decide) rfl rfl ?_
          refine K_iinc C (pc := 38) (w := 1) (Ls' := [_, _, _, _, _, _, _]) d8_38 (by decide) rfl rfl ?_
          refine K_goto C (pc := 41) 3 d8_41 (by decide) (by decide) ?_
          rw [oOfS]
          refine ih (i + 1) h' _ (by omega) ?_ (A1.other Wr1 hne) (D2.eq (by rw [oNarLob]; exact oSetL (f := oLv) hu)) (Or.inr ⟨_, rfl, rfl⟩)
          intro w hw1
          rw [List.take_add_one, hu] at hw1
          rcases List.mem_append.mp hw1 with q | q
          · exact hsm w q
          · simp at q; rw [q]; exact hc20
        · simp only [oC, Classical.not_not] at hc20
          refine K_iload C (pc := 23) d8_23 rfl ?_
          refine K_ireturn C (pc := 25) d8_25 (by simp) rfl (by decide) (by decide) (fun _ _ => ⟨i, rfl, Or.inr ⟨hi, u, hu, fun q => q hc20⟩⟩)
  refine K_iconst C (pc := 0) 0 d8_0 (by decide) ?_
  refine K_istore C (pc := 1) (Ls' := [_, _, _, _, _, _, _]) d8_1 rfl ?_
  exact loop us.length 0 h0 .unset (by omega) (by simp) A (D.eq (by simp)) (Or.inl rfl)
theorem pno_7 : plainFor (⟨"java/lang/StringUTF16", "compress", "([CII)[B"⟩ : MethodName) = true := by first | exact plainFor_of_name (by first | (simp [plainName, overriddenIn]; done) | decide +kernel) | decide +kernel
theorem efo_7 (m : MethodId) (x0 : Addr) (x1 : Int32) (x2 : Int32) : entryFrame m #[.ref x0, .int x1, .int x2] 6 = oF m 0 [.val (.ref x0), .val (.int x1), .val (.int x2), .unset, .unset, .unset] [] := by (first | (simp [entryFrame, oF, mkF, argsToLocals, Value.category]; done) | rfl)
set_option maxRecDepth 65536 in
set_option maxHeartbeats 40000000 in
theorem mC3 (l : Launch) (Z : State) (a0 : Array Value) (hw : ∀ d ∈ tables_1, d.before a0 Z = true) (va : Addr) (us : List Int32) (h0 : Heap) (hN : us.length ≤ 3) (hsm : ∀ u ∈ us, oSmall u) (A : oArr Z h0 va .char (us.map Value.int)) :
    oMeets l Z (⟨"java/lang/StringUTF16", "compress", "([CII)[B"⟩ : MethodName) jdk_52_method_16_code 6 (some (.array .byte)) ({ frames := 1, cells := 1, slots := 3, locals := 20 } : Room) #[.ref va, .int 0, .int (Int32.ofNat us.length)] h0 (fun a => h0.size ≤ a) (fun v h => ∃ b, v = some (.ref b) ∧ oArr Z h b .byte (us.map oLv)) := by
  refine oMeets.of pno_7 (fun _ q => q) (fun E _ q => Nat.le_trans E.1 q) (Ls := [.val (.ref va), .val (.int 0), .val (.int (Int32.ofNat us.length)), .unset, .unset, .unset]) (fun m => efo_7 m va 0 (Int32.ofNat us.length)) ?_
  intro p e s m below meth c C hs
  refine K_iloadN C (pc := 0) d7_0 rfl ?_
  refine K_newarray2 C (aty := .byte) (pc := 1) us.length 3 (tw35 hw) d7_1 (oOf _ (by omega)) hN (by decide) (by decide) (by decide) ?_
  intro h1 da hda hPa E1 D1
  refine K_astoreN C (pc := 3) (Ls' := [_, _, _, _, _, _]) d7_3 rfl rfl ?_
  refine K_aloadN C (pc := 4) d7_4 rfl (by first | rfl | assumption) ?_
  refine K_iloadN C (pc := 5) d7_5 rfl ?_
  refine K_aloadN C (pc := 6) d7_6 rfl (by first | rfl | assumption) ?_
  refine K_iconst C (pc := 7) 0 d7_7 (by decide) ?_
  refine K_iloadN C (pc := 8) d7_8 rfl ?_
  refine K_old C (fun hE hle _ => ?_)
  refine K_static C (pc := 9) (mC5 l Z a0 hw va da us h1 (by omega) (C.young da hPa) (fun q => Nat.lt_irrefl _ (Nat.lt_of_lt_of_eq A.lt (by rw [← hda, ← q]))) (A.ext E1) D1) (tw36 hw) (tw37 hw) (tw33 hw) (tw38 hw) (by decide) pdo_0 d7_9 (argsL := [_, _, _, _, _]) (rest := _) rfl rfl rfl rfl (fun x q r => r.elim (fun z => z ▸ hPa) (fun z => C.new x (Nat.le_trans q z))) (by decide) (Nat.le_of_ble_eq_true rfl) (by decide) (by decide) ?_
  rintro _ h2 ⟨j, rfl, hj⟩ hK
  dsimp only [Option.toList, List.cons_append, List.nil_append]
  rcases hj with ⟨rfl, hs, D2⟩ | ⟨hj, u, hu, hb⟩
  rotate_left
  · exact absurd (hsm u (List.mem_of_getElem? hu)) hb
  refine K_istore C (pc := 12) (Ls' := [_, _, _, _, _, _]) d7_12 rfl ?_
  refine K_iload C (pc := 14) d7_14 rfl ?_
  refine K_iloadN C (pc := 16) d7_16 rfl ?_
  refine K_icmp C (pc := 17) 57 d7_17 (by decide) (by decide) (fun hc17 => ?_) (fun hc17 => ?_)
  · simp only [oC, Classical.not_not] at hc17
    refine K_aloadN C (pc := 57) d7_57 rfl (by first | rfl | assumption) ?_
    refine K_areturn C (pc := 58) d7_58 rfl rfl rfl (by decide) (by decide) (fun _ _ => ⟨da, rfl, D2⟩)
  · simp only [oC, Classical.not_not] at hc17
    exact absurd hc17 (by simp)
theorem pno_9 : plainFor (⟨"java/lang/StringUTF16", "coderFromArrayLen", "([BI)B"⟩ : MethodName) = true := by first | exact plainFor_of_name (by first | (simp [plainName, overriddenIn]; done) | decide +kernel) | decide +kernel
theorem efo_9 (m : MethodId) (x0 : Addr) (x1 : Int32) : entryFrame m #[.ref x0, .int x1] 2 = oF m 0 [.val (.ref x0), .val (.int x1)] [] := by (first | (simp [entryFrame, oF, mkF, argsToLocals, Value.category]; done) | rfl)
set_option maxRecDepth 65536 in
set_option maxHeartbeats 40000000 in
theorem mCF (l : Launch) (Z : State) (a0 : Array Value) (hw : ∀ d ∈ tables_1, d.before a0 Z = true) (b : Addr) (bs : List Value) (k : Nat) (h0 : Heap) (hl : bs.length = k) (D : oArr Z h0 b .byte bs) :
    oMeets l Z (⟨"java/lang/StringUTF16", "coderFromArrayLen", "([BI)B"⟩ : MethodName) jdk_52_method_15_code 2 (some .byte) ({ frames := 0, cells := 0, slots := 0, locals := 0 } : Room) #[.ref b, .int (Int32.ofNat k)] h0 (fun a => h0.size ≤ a) (fun v h => v = some (.int 0) ∧ h = h0) := by
  refine oMeets.of pno_9 (fun _ q => q) (fun E _ q => Nat.le_trans E.1 q) (Ls := [.val (.ref b), .val (.int (Int32.ofNat k))]) (fun m => efo_9 m b (Int32.ofNat k)) ?_
  intro p e s m below meth c C hs
  refine K_iloadN C (pc := 0) d9_0 rfl ?_
  refine K_aloadN C (pc := 1) d9_1 rfl (by first | rfl | assumption) ?_
  refine K_alen2 C (pc := 2) D d9_2 ?_
  rw [hl]
  refine K_isub C (pc := 3) d9_3 ?_
  refine K_bipush C (pc := 4) 31 d9_4 (by decide) ?_
  refine K_iushr C (pc := 6) d9_6 ?_
  refine K_i2b C (pc := 7) d9_7 ?_
  refine K_ireturn C (pc := 8) d9_8 (by simp) (z' := 0) (by rw [Int32.sub_self]; decide) (by decide) (by decide) (fun _ _ => ⟨rfl, rfl⟩)
theorem pno_5 : plainFor (⟨"java/lang/String", "<init>", "([CIILjava/lang/Void;)V"⟩ : MethodName) = true := by first | exact plainFor_of_name (by first | (simp [plainName, overriddenIn]; done) | decide +kernel) | decide +kernel
theorem efo_5n (m : MethodId) (x0 : Addr) (x1 : Addr) (x2 : Int32) (x3 : Int32) : entryFrame m #[.ref x0, .ref x1, .int x2, .int x3, .null] 6 = oF m 0 [.val (.ref x0), .val (.ref x1), .val (.int x2), .val (.int x3), .val .null, .unset] [] := by (first | (simp [entryFrame, oF, mkF, argsToLocals, Value.category]; done) | rfl)
set_option maxRecDepth 65536 in
set_option maxHeartbeats 40000000 in
theorem mSI4 (l : Launch) (Z : State) (a0 : Array Value) (hw : ∀ d ∈ tables_1, d.before a0 Z = true) (a va : Addr) (us : List Int32) (h0 : Heap) (hN : us.length ≤ 3) (hpos : 0 < us.length) (hch : ∀ u ∈ us, oChr u) (hsm : ∀ u ∈ us, oSmall u) (hya : Z.heap.size ≤ a) (X : Exa Z h0 a "java/lang/String") (FV : Fld Z h0 a "java/lang/String" "value" "[B" .null) (FC : Fld Z h0 a "java/lang/String" "coder" "B" (.int 0)) (A : oArr Z h0 va .char (us.map Value.int)) (cs : Int32) (hcs : cs ≠ 0) (S_COMPACT_STRINGS : Sta Z Z.heap "java/lang/String" "COMPACT_STRINGS" "Z" (.int cs)) :
    oMeets l Z (⟨"java/lang/String", "<init>", "([CIILjava/lang/Void;)V"⟩ : MethodName) jdk_42_method_149_code 6 none ({ frames := 2, cells := 1, slots := 3, locals := 60 } : Room) #[.ref a, .ref va, .int 0, .int (Int32.ofNat us.length), .null] h0 (fun x => x = a ∨ h0.size ≤ x) (fun v h => v = none ∧ oStr Z h a us) := by
  refine oMeets.of pno_5 (fun _ q => Or.inr q) (fun E x q => q.elim (fun r => r ▸ hya) (fun r => Nat.le_trans E.1 r)) (Ls := [.val (.ref a), .val (.ref va), .val (.int 0), .val (.int (Int32.ofNat us.length)), .val .null, .unset]) (fun m => efo_5n m a va 0 (Int32.ofNat us.length)) ?_
  intro p e s m below meth c C hs
  refine K_aloadN C (pc := 0) d5_0 rfl (by first | rfl | assumption) ?_
  refine K_initO C (pc := 1) (tw27 hw) (tw28 hw) (tw29 hw) d5_1 rfl (by decide) (Nat.le_of_ble_eq_true rfl) ?_
  refine K_iloadN C (pc := 4) d5_4 rfl ?_
  refine K_if C (pc := 5) 27 d5_5 (by decide) (by decide) (fun hc5 => ?_) (fun hc5 => ?_)
  · simp only [oC, Classical.not_not] at hc5
    refine K_getS C (pc := 27) (tw30 hw) Via.refl S_COMPACT_STRINGS d5_27 ?_
    refine K_if C (pc := 30) 58 d5_30 (by decide) (by decide) (fun hc30 => ?_) (fun hc30 => ?_)
    · simp only [oC, Classical.not_not] at hc30
      exact absurd hc30 hcs
    · simp only [oC, Classical.not_not] at hc30
      refine K_aloadN C (pc := 33) d5_33 rfl (by first | rfl | assumption) ?_
      refine K_iloadN C (pc := 34) d5_34 rfl ?_
      refine K_iloadN C (pc := 35) d5_35 rfl ?_
      refine K_static C (pc := 36) (mC3 l Z a0 hw va us _ hN hsm A) (tw31 hw) (tw32 hw) (tw33 hw) (tw34 hw) (by decide) pdo_1 d5_36 (argsL := [_, _, _]) (rest := _) rfl rfl rfl rfl (fun a q r => C.new a (Nat.le_trans q r)) (by decide) (Nat.le_of_ble_eq_true rfl) (by decide) (by decide) ?_
      rintro _ h1 ⟨b, rfl, D1⟩ hK1
      have E1 := hK1.ext
      dsimp only [Option.toList, List.cons_append, List.nil_append]
      refine K_astore C (pc := 39) (Ls' := [_, _, _, _, _, _]) d5_39 rfl rfl ?_
      refine K_aloadN C (pc := 41) d5_41 rfl (by first | rfl | assumption) ?_
      refine K_aload C (pc := 42) d5_42 rfl (by first | rfl | assumption) ?_
      refine K_iloadN C (pc := 44) d5_44 rfl ?_
      refine K_static C (pc := 45) (mCF l Z a0 hw b _ us.length h1 (by simp) D1) (tw39 hw) (tw40 hw) (tw33 hw) (tw41 hw) (by decide) pdo_2 d5_45 (argsL := [_, _]) (rest := _) rfl rfl rfl rfl (fun a q r => C.new a (Nat.le_trans q r)) (by decide) (Nat.le_of_ble_eq_true rfl) (by decide) (by decide) ?_
      rintro _ h2 ⟨rfl, rfl⟩ -
      dsimp only [Option.toList, List.cons_append, List.nil_append]
      refine K_putFn C (pc := 48) (tw42 hw) Via.refl (FC.ext E1) (X.ext E1) (Or.inr ⟨(tw43 hw), rfl, rfl⟩) (tw14 hw) (ty := .byte) (by decide) rfl (fits_nar_byte _) (Or.inl rfl) d5_48 ?_
      intro h3 Wr1
      have FC3 := Fld.same Wr1 (FC.ext E1)
      have FV3 := (Fld.other Wr1 (FV.ext E1) (Or.inr (slot_ne (Or.inr (tw45 hw)) (Or.inr (tw43 hw)) (by decide) (t := (.array .byte)) (t' := .byte) (by decide) (by decide))))
      have X3 := (X.ext E1).wr Wr1
      have hab : b ≠ a := fun q => by obtain ⟨cl, A1, -⟩ := D1; exact (ne_arr (X.ext E1) (tw14 hw) A1) q.symm
      have D3 := D1.other Wr1 hab
      refine K_aloadN C (pc := 51) d5_51 rfl (by first | rfl | assumption) ?_
      refine K_aload C (pc := 52) d5_52 rfl (by first | rfl | assumption) ?_
      refine K_putF C (pc := 54) (tw44 hw) Via.refl FV3 X3 (Or.inr ⟨(tw45 hw), rfl, rfl⟩) (tw14 hw) (ty := (.array .byte)) (by decide) rfl rfl (Or.inl rfl) d5_54 ?_
      intro h4 Wr2
      have FV4 := Fld.same Wr2 FV3
      have FC4 := (Fld.other Wr2 FC3 (Or.inr (slot_ne (Or.inr (tw43 hw)) (Or.inr (tw45 hw)) (by decide) (t := .byte) (t' := (.array .byte)) (by decide) (by decide))))
      have X4 := X3.wr Wr2
      have D4 := D3.other Wr2 hab
      refine K_return C (pc := 57) d5_57 (by decide) (by decide) (fun _ _ => ⟨rfl, X4, hch, b, 0, _, FV4, FC4, D4, Or.inl ⟨rfl, hsm, rfl⟩⟩)
  · simp only [oC, Classical.not_not] at hc5
    exact absurd hc5 (by rw [show (0 : Int32) = Int32.ofNat 0 from rfl, oOfEq (by omega) (by decide)]; omega)
theorem pno_4 : plainFor (⟨"java/lang/String", "<init>", "([C)V"⟩ : MethodName) = true := by first | exact plainFor_of_name (by first | (simp [plainName, overriddenIn]; done) | decide +kernel) | decide +kernel
theorem efo_4 (m : MethodId) (x0 : Addr) (x1 : Addr) : entryFrame m #[.ref x0, .ref x1] 2 = oF m 0 [.val (.ref x0), .val (.ref x1)] [] := by (first | (simp [entryFrame, oF, mkF, argsToLocals, Value.category]; done) | rfl)
set_option maxRecDepth 65536 in
set_option maxHeartbeats 40000000 in
theorem mSI1 (l : Launch) (Z : State) (a0 : Array Value) (hw : ∀ d ∈ tables_1, d.before a0 Z = true) (a va : Addr) (us : List Int32) (h0 : Heap) (hN : us.length ≤ 3) (hpos : 0 < us.length) (hch : ∀ u ∈ us, oChr u) (hsm : ∀ u ∈ us, oSmall u) (hya : Z.heap.size ≤ a) (X : Exa Z h0 a "java/lang/String") (FV : Fld Z h0 a "java/lang/String" "value" "[B" .null) (FC : Fld Z h0 a "java/lang/String" "coder" "B" (.int 0)) (A : oArr Z h0 va .char (us.map Value.int)) (cs : Int32) (hcs : cs ≠ 0) (S_COMPACT_STRINGS : Sta Z Z.heap "java/lang/String" "COMPACT_STRINGS" "Z" (.int cs)) :
    oMeets l Z (⟨"java/lang/String", "<init>", "([C)V"⟩ : MethodName) jdk_42_method_3_code 2 none ({ frames := 3, cells := 1, slots := 3, locals := 80 } : Room) #[.ref a, .ref va] h0 (fun x => x = a ∨ h0.size ≤ x) (fun v h => v = none ∧ oStr Z h a us) := by
  refine oMeets.of pno_4 (fun _ q => Or.inr q) (fun E x q => q.elim (fun r => r ▸ hya) (fun r => Nat.le_trans E.1 r)) (Ls := [.val (.ref a), .val (.ref va)]) (fun m => efo_4 m a va) ?_
  intro p e s m below meth c C hs
  refine K_aloadN C (pc := 0) d4_0 rfl (by first | rfl | assumption) ?_
  refine K_aloadN C (pc := 1) d4_1 rfl (by first | rfl | assumption) ?_
  refine K_iconst C (pc := 2) 0 d4_2 (by decide) ?_
  refine K_aloadN C (pc := 3) d4_3 rfl (by first | rfl | assumption) ?_
  refine K_alen2 C (pc := 4) A d4_4 ?_
  rw [List.length_map]
  refine K_aconst_null C (pc := 5) d4_5 ?_
  refine K_special C (pc := 6) (mSI4 l Z a0 hw a va us _ hN hpos hch hsm hya X FV FC A cs hcs S_COMPACT_STRINGS) (tw23 hw) (tw24 hw) (tw15 hw) (tw26 hw) rfl (by decide) pdo_3 d4_6 (argsL := [_, _, _, _]) (rest := _) rfl rfl rfl rfl (fun x q r => r.elim (fun z => Or.inl z) (fun z => C.new x (Nat.le_trans q z))) (by decide) (Nat.le_of_ble_eq_true rfl) (by decide) (by decide) ?_
  rintro _ h1 ⟨rfl, R1⟩ -
  dsimp only [Option.toList, List.cons_append, List.nil_append]
  refine K_return C (pc := 9) d4_9 (by decide) (by decide) (fun _ _ => ⟨rfl, R1⟩)
def own_EL : List (String × Nat) := [("java/lang/String", 7)]
theorem own_EW {Z : State} {a0 : Array Value} (hw : ∀ d ∈ tables_1, d.before a0 Z = true) : EW Z a0 own_EL := EW.cons (tw86 hw) (by simp) EW.nil
theorem oXlt {Z : State} {h : Heap} {a : Addr} {Cn : String} (X : Exa Z h a Cn) : a < h.size := by
  obtain ⟨k, hk, -⟩ := X.cell
  exact (Array.getElem?_eq_some_iff.mp hk).1
theorem wSo {Z : State} {a0 : Array Value} (hw : ∀ d ∈ tables_1, d.before a0 Z = true) : ∀ a ∈ Bundle.stringAtoms, a.before a0 Z = true := by
  intro a ha
  simp only [Bundle.stringAtoms, List.mem_cons, List.not_mem_nil, or_false] at ha
  rcases ha with rfl | rfl | rfl | rfl | rfl | rfl | rfl
  · exact (tw15 hw)
  · exact (tw14 hw)
  · exact (tw35 hw)
  · exact (tw45 hw)
  · exact (tw43 hw)
  · exact (tw87 hw)
  · exact (tw88 hw)
set_option maxRecDepth 65536 in
set_option maxHeartbeats 40000000 in
theorem mSI4e (l : Launch) (Z : State) (a0 : Array Value) (hw : ∀ d ∈ tables_1, d.before a0 Z = true) (a va : Addr) (h0 : Heap) (hya : Z.heap.size ≤ a) (X : Exa Z h0 a "java/lang/String") (FV : Fld Z h0 a "java/lang/String" "value" "[B" .null) (FC : Fld Z h0 a "java/lang/String" "coder" "B" (.int 0)) :
    oMeetsW l Z (⟨"java/lang/String", "<init>", "([CIILjava/lang/Void;)V"⟩ : MethodName) jdk_42_method_149_code 6 none ({ frames := 2, cells := 4, slots := 8, locals := 60 } : Room) #[.ref a, .ref va, .int 0, .int 0, .null] h0 (fun x => x = a ∨ h0.size ≤ x) (oH Z own_EL h0 [a]) (fun v h vm => v = none ∧ oStr Z h a [] ∧ oH Z own_EL h [a] vm) := by
  refine oMeetsW.of pno_5 (fun _ q => Or.inr q) (fun E x q => q.elim (fun r => r ▸ hya) (fun r => Nat.le_trans E.1 r)) (Ls := [.val (.ref a), .val (.ref va), .val (.int 0), .val (.int 0), .val .null, .unset]) (fun m => efo_5n m a va 0 0) (oH.js (own_EW hw)) ?_
  intro p e s m below meth c C hs
  refine K_aloadN C (pc := 0) d5_0 rfl (by first | rfl | assumption) ?_
  refine K_initO C (pc := 1) (tw27 hw) (tw28 hw) (tw29 hw) d5_1 rfl (by decide) (Nat.le_of_ble_eq_true rfl) ?_
  refine K_iloadN C (pc := 4) d5_4 rfl ?_
  refine K_if C (pc := 5) 27 d5_5 (by decide) (by decide) (fun hc5 => ?_) (fun hc5 => ?_)
  · simp only [oC, Classical.not_not] at hc5
    exact absurd hc5 (by simp)
  · simp only [oC, Classical.not_not] at hc5
    refine K_aloadN C (pc := 8) d5_8 rfl (by first | rfl | assumption) ?_
    refine K_ldcE C (pc := 9) (tw86 hw) (wSo hw) (own_EW hw) (by simp [own_EL]) d5_9 (by decide) (by decide) ?_
    intro s1 b1 h1 E1 X1 C1 V1 A1
    refine K_getF C (pc := 11) (tw44 hw) Via.refl V1 d5_11 ?_
    refine K_putF C (pc := 14) (tw44 hw) Via.refl (FV.ext E1) (X.ext E1) (Or.inr ⟨(tw45 hw), rfl, rfl⟩) (tw14 hw) (ty := (.array .byte)) (by decide) rfl rfl (Or.inl rfl) d5_14 ?_
    intro h2 Wr1
    have FV2 := Fld.same Wr1 (FV.ext E1)
    have FC2 := (Fld.other Wr1 (FC.ext E1) (Or.inr (slot_ne (Or.inr (tw43 hw)) (Or.inr (tw45 hw)) (by decide) (t := .byte) (t' := (.array .byte)) (by decide) (by decide))))
    have X2 := (X.ext E1).wr Wr1
    have hab : b1 ≠ a := fun q => by obtain ⟨cl, A1, -⟩ := A1; exact (ne_arr (X.ext E1) (tw14 hw) A1) q.symm
    have D2 := A1.other Wr1 hab
    refine K_J (fun _ H => H.wr Wr1 (by simp)) (oH.js (own_EW hw)) ?_
    refine K_aloadN C (pc := 17) d5_17 rfl (by first | rfl | assumption) ?_
    refine K_ldcE C (pc := 18) (tw86 hw) (wSo hw) (own_EW hw) (by simp [own_EL]) d5_18 (by decide) (by decide) ?_
    intro s2 b2 h3 E3 Y3 C3 V3 A3
    refine K_getF C (pc := 20) (tw42 hw) Via.refl C3 d5_20 ?_
    refine K_putFn C (pc := 23) (tw42 hw) Via.refl (FC2.ext E3) (X2.ext E3) (Or.inr ⟨(tw43 hw), rfl, rfl⟩) (tw14 hw) (ty := .byte) (by decide) rfl (fits_nar_byte _) (Or.inl rfl) d5_23 ?_
    intro h4 Wr2
    have FC4 := Fld.same Wr2 (FC2.ext E3)
    have FV4 := (Fld.other Wr2 (FV2.ext E3) (Or.inr (slot_ne (Or.inr (tw45 hw)) (Or.inr (tw43 hw)) (by decide) (t := (.array .byte)) (t' := .byte) (by decide) (by decide))))
    have X4 := (X2.ext E3).wr Wr2
    have D4 := (D2.ext E3).other Wr2 hab
    refine K_J (fun _ H => H.wr Wr2 (by simp)) (oH.js (own_EW hw)) ?_
    refine K_return C (pc := 26) d5_26 (by decide) (by decide) (fun _ H => ⟨rfl, ⟨X4, by simp, b1, 0, [], FV4, FC4, D4, Or.inl ⟨rfl, by simp, rfl⟩⟩, H⟩)
set_option maxRecDepth 65536 in
set_option maxHeartbeats 40000000 in
theorem mSI1e (l : Launch) (Z : State) (a0 : Array Value) (hw : ∀ d ∈ tables_1, d.before a0 Z = true) (a va : Addr) (h0 : Heap) (hya : Z.heap.size ≤ a) (X : Exa Z h0 a "java/lang/String") (FV : Fld Z h0 a "java/lang/String" "value" "[B" .null) (FC : Fld Z h0 a "java/lang/String" "coder" "B" (.int 0)) (A : oArr Z h0 va .char []) :
    oMeetsW l Z (⟨"java/lang/String", "<init>", "([C)V"⟩ : MethodName) jdk_42_method_3_code 2 none ({ frames := 3, cells := 4, slots := 8, locals := 80 } : Room) #[.ref a, .ref va] h0 (fun x => x = a ∨ h0.size ≤ x) (oH Z own_EL h0 [a]) (fun v h vm => v = none ∧ oStr Z h a [] ∧ oH Z own_EL h [a] vm) := by
  refine oMeetsW.of pno_4 (fun _ q => Or.inr q) (fun E x q => q.elim (fun r => r ▸ hya) (fun r => Nat.le_trans E.1 r)) (Ls := [.val (.ref a), .val (.ref va)]) (fun m => efo_4 m a va) (oH.js (own_EW hw)) ?_
  intro p e s m below meth c C hs
  refine K_aloadN C (pc := 0) d4_0 rfl (by first | rfl | assumption) ?_
  refine K_aloadN C (pc := 1) d4_1 rfl (by first | rfl | assumption) ?_
  refine K_iconst C (pc := 2) 0 d4_2 (by decide) ?_
  refine K_aloadN C (pc := 3) d4_3 rfl (by first | rfl | assumption) ?_
  refine K_alen2 C (pc := 4) A d4_4 ?_
  refine K_aconst_null C (pc := 5) d4_5 ?_
  refine K_specialW C (pc := 6) (mSI4e l Z a0 hw a va _ hya X FV FC) (fun _ H => H) (tw23 hw) (tw24 hw) (tw15 hw) (tw26 hw) rfl (by decide) pdo_3 d4_6 (argsL := [_, _, _, _]) (rest := _) rfl rfl rfl rfl (fun x q r => r.elim (fun z => Or.inl z) (fun z => C.new x (Nat.le_trans q z))) (by decide) (Nat.le_of_ble_eq_true rfl) (by decide) (by decide) ?_
  rintro _ h1 _ ⟨rfl, R1, H1⟩ -
  refine ⟨_, H1, oH.js (own_EW hw), ?_⟩
  dsimp only [Option.toList, List.cons_append, List.nil_append]
  refine K_return C (pc := 9) d4_9 (by decide) (by decide) (fun _ H => ⟨rfl, R1, H⟩)
theorem pno_14 : plainFor (⟨"java/lang/StringLatin1", "equals", "([B[B)Z"⟩ : MethodName) = true := by first | exact plainFor_of_name (by first | (simp [plainName, overriddenIn]; done) | decide +kernel) | decide +kernel
theorem efo_14 (m : MethodId) (x0 : Addr) (x1 : Addr) : entryFrame m #[.ref x0, .ref x1] 3 = oF m 0 [.val (.ref x0), .val (.ref x1), .unset] [] := by (first | (simp [entryFrame, oF, mkF, argsToLocals, Value.category]; done) | rfl)
set_option maxRecDepth 65536 in
set_option maxHeartbeats 40000000 in
theorem mLEQ (l : Launch) (Z : State) (a0 : Array Value) (hw : ∀ d ∈ tables_1, d.before a0 Z = true) (x z : Addr) (bs cs : List Int32) (h0 : Heap) (hb : bs.length < 2 ^ 31) (hc : cs.length < 2 ^ 31) (A : oArr Z h0 x .byte (bs.map Value.int)) (D : oArr Z h0 z .byte (cs.map Value.int)) :
    oMeets l Z (⟨"java/lang/StringLatin1", "equals", "([B[B)Z"⟩ : MethodName) jdk_43_method_13_code 3 (some .boolean) ({ frames := 0, cells := 0, slots := 0, locals := 0 } : Room) #[.ref x, .ref z] h0 (fun a => h0.size ≤ a) (fun v h => v = some (.int (if bs = cs then 1 else 0)) ∧ h = h0) := by
  refine oMeets.of pno_14 (fun _ q => q) (fun E _ q => Nat.le_trans E.1 q) (Ls := [.val (.ref x), .val (.ref z), .unset]) (fun m => efo_14 m x z) ?_
  intro p e s m below meth c C hs
  refine K_aloadN C (pc := 0) d14_0 rfl (by first | rfl | assumption) ?_
  refine K_alen2 C (pc := 1) A d14_1 ?_
  rw [List.length_map]
  refine K_aloadN C (pc := 2) d14_2 rfl (by first | rfl | assumption) ?_
  refine K_alen2 C (pc := 3) D d14_3 ?_
  rw [List.length_map]
  refine K_icmp C (pc := 4) 34 d14_4 (by decide) (by decide) (fun hc4 => ?_) (fun hc4 => ?_)
  · simp only [oC, Classical.not_not] at hc4
    refine K_iconst C (pc := 34) 0 d14_34 (by decide) ?_
    refine K_ireturn C (pc := 35) d14_35 (by simp) (z' := 0) (by decide) (by decide) (by decide) (fun _ _ => ⟨?_, rfl⟩)
    rw [if_neg]; intro q; exact hc4 (by rw [q])
  · simp only [oC, Classical.not_not] at hc4
    rw [oOfEq hb hc] at hc4
    have loop : ∀ (k i : Nat), i + k = bs.length → bs.take i = cs.take i → oWP false p l e ({ frames := 0, cells := 0, slots := 0, locals := 0 } : Room) s m #[.ref x, .ref z] below meth c (fun a => h0.size ≤ a) (fun v h _ => ((fun v h => v = some (.int (if bs = cs then 1 else 0)) ∧ h = h0)) v h) oT h0 0 0 (oF m 9 [.val (.ref x), .val (.ref z), .val (.int (Int32.ofNat i))] []) := by
      intro k
      induction k with
      | zero =>
        intro i hik ht
        obtain rfl : i = bs.length := by omega
        refine K_iloadN C (pc := 9) d14_9 rfl ?_
        refine K_aloadN C (pc := 10) d14_10 rfl (by first | rfl | assumption) ?_
        refine K_alen2 C (pc := 11) A d14_11 ?_
        rw [List.length_map]
        refine K_icmp C (pc := 12) 32 d14_12 (by decide) (by decide) (fun hc12 => ?_) (fun hc12 => ?_)
        · simp only [oC, Classical.not_not] at hc12
          refine K_iconst C (pc := 32) 1 d14_32 (by decide) ?_
          refine K_ireturn C (pc := 33) d14_33 (by simp) (z' := 1) (by decide) (by decide) (by decide) (fun _ _ => ⟨?_, rfl⟩)
          rw [if_pos]
          rw [List.take_length, hc4, List.take_length] at ht; exact ht
        · simp only [oC, Classical.not_not] at hc12
          exact absurd hc12 (by rw [oOfLt hb hb]; omega)
      | succ k ih =>
        intro i hik ht
        have hi : i < bs.length := by omega
        have hi' : i < cs.length := by omega
        refine K_iloadN C (pc := 9) d14_9 rfl ?_
        refine K_aloadN C (pc := 10) d14_10 rfl (by first | rfl | assumption) ?_
        refine K_alen2 C (pc := 11) A d14_11 ?_
        rw [List.length_map]
        refine K_icmp C (pc := 12) 32 d14_12 (by decide) (by decide) (fun hc12 => ?_) (fun hc12 => ?_)
        · simp only [oC, Classical.not_not] at hc12
          exact absurd ((oOfLt (by omega) hb).mpr hi) hc12
        · simp only [oC, Classical.not_not] at hc12
          refine K_aloadN C (pc := 15) d14_15 rfl (by first | rfl | assumption) ?_
          refine K_iloadN C (pc := 16) d14_16 rfl ?_
          refine K_baload2 C (pc := 17) (v := .int bs[i]) i A (oOf i (by omega)) (by simp [hi]) d14_17 ?_
          refine K_aloadN C (pc := 18) d14_18 rfl (by first | rfl | assumption) ?_
          refine K_iloadN C (pc := 19) d14_19 rfl ?_
          refine K_baload2 C (pc := 20) (v := .int cs[i]) i D (oOf i (by omega)) (by simp [hi']) d14_20 ?_
          refine K_icmp C (pc := 21) 26 d14_21 (by decide) (by decide) (fun hc21 => ?_) (fun hc21 => ?_)
          · simp only [oC, Classical.not_not] at hc21
            refine K_iinc C (pc := 26) (w := 1) (Ls' := [_, _, _]) d14_26 (by decide) rfl rfl ?_
            refine K_goto C (pc := 29) 9 d14_29 (by decide) (by decide) ?_
            rw [oOfS]
            refine ih (i + 1) (by omega) ?_
            rw [List.take_add_one, List.take_add_one, ht, List.getElem?_eq_getElem hi, List.getElem?_eq_getElem hi', hc21]
          · simp only [oC, Classical.not_not] at hc21
            refine K_iconst C (pc := 24) 0 d14_24 (by decide) ?_
            refine K_ireturn C (pc := 25) d14_25 (by simp) (z' := 0) (by decide) (by decide) (by decide) (fun _ _ => ⟨?_, rfl⟩)
            rw [if_neg]; intro q; subst q; exact hc21 rfl
    refine K_iconst C (pc := 7) 0 d14_7 (by decide) ?_
    refine K_istoreN C (pc := 8) (Ls' := [_, _, _]) d14_8 rfl ?_
    exact loop bs.length 0 (by omega) rfl
theorem pno_13 : plainFor (⟨"java/lang/String", "equals", "(Ljava/lang/Object;)Z"⟩ : MethodName) = true := by first | exact plainFor_of_name (by first | (simp [plainName, overriddenIn]; done) | decide +kernel) | decide +kernel
theorem efo_13 (m : MethodId) (x0 : Addr) (x1 : Addr) : entryFrame m #[.ref x0, .ref x1] 3 = oF m 0 [.val (.ref x0), .val (.ref x1), .unset] [] := by (first | (simp [entryFrame, oF, mkF, argsToLocals, Value.category]; done) | rfl)
set_option maxRecDepth 65536 in
set_option maxHeartbeats 40000000 in
theorem mEQ (l : Launch) (Z : State) (a0 : Array Value) (hw : ∀ d ∈ tables_1, d.before a0 Z = true) (x z : Addr) (us ws : List Int32) (h0 : Heap) (hlu : us.length < 2 ^ 31) (hlw : ws.length < 2 ^ 31) (su : ∀ u ∈ us, oSmall u) (sw : ∀ u ∈ ws, oSmall u) (F : oStr Z h0 x us) (G : oStr Z h0 z ws) (cs : Int32) (hcs : cs ≠ 0) (S_COMPACT_STRINGS : Sta Z Z.heap "java/lang/String" "COMPACT_STRINGS" "Z" (.int cs)) :
    oMeets l Z (⟨"java/lang/String", "equals", "(Ljava/lang/Object;)Z"⟩ : MethodName) jdk_42_method_66_code 3 (some .boolean) ({ frames := 1, cells := 0, slots := 0, locals := 20 } : Room) #[.ref x, .ref z] h0 (fun a => h0.size ≤ a) (fun v h => v = some (.int (if us = ws then 1 else 0)) ∧ h = h0) := by
  refine oMeets.of pno_13 (fun _ q => q) (fun E _ q => Nat.le_trans E.1 q) (Ls := [.val (.ref x), .val (.ref z), .unset]) (fun m => efo_13 m x z) ?_
  intro p e s m below meth c C hs
  refine K_aloadN C (pc := 0) d13_0 rfl (by first | rfl | assumption) ?_
  refine K_aloadN C (pc := 1) d13_1 rfl (by first | rfl | assumption) ?_
  refine K_acmp C (pc := 2) 7 d13_2 (by first | rfl | assumption) (by first | rfl | assumption) (by decide) (by decide) (fun hc2 => ?_) (fun hc2 => ?_)
  · simp only [oA, Classical.not_not, Value.ref.injEq] at hc2
    refine K_aloadN C (pc := 7) d13_7 rfl (by first | rfl | assumption) ?_
    refine K_instY C (pc := 8) (tw77 hw) (Ins.self G.1) d13_8 ?_
    refine K_if C (pc := 11) 54 d13_11 (by decide) (by decide) (fun hc11 => ?_) (fun hc11 => ?_)
    · simp only [oC, Classical.not_not] at hc11
      exact absurd hc11 (by decide)
    · simp only [oC, Classical.not_not] at hc11
      refine K_aloadN C (pc := 14) d13_14 rfl (by first | rfl | assumption) ?_
      refine K_castY C (pc := 15) (tw77 hw) (Ins.self G.1) d13_15 ?_
      refine K_astoreN C (pc := 18) (Ls' := [_, _, _]) d13_18 rfl rfl ?_
      refine K_getS C (pc := 19) (tw30 hw) Via.refl S_COMPACT_STRINGS d13_19 ?_
      refine K_if C (pc := 22) 36 d13_22 (by decide) (by decide) (fun hc22 => ?_) (fun hc22 => ?_)
      · simp only [oC, Classical.not_not] at hc22
        exact absurd hc22 hcs
      · simp only [oC, Classical.not_not] at hc22
        obtain ⟨X1, hu, b1, c1, l1, V1, K1, A1, e1⟩ := F
        obtain ⟨X2, hw', b2, c2, l2, V2, K2, A2, e2⟩ := G
        obtain ⟨rfl, -, rfl⟩ := e1.resolve_right (fun q => by obtain ⟨u, q1, q2⟩ := q.2.1; exact q2 (su u q1))
        obtain ⟨rfl, -, rfl⟩ := e2.resolve_right (fun q => by obtain ⟨u, q1, q2⟩ := q.2.1; exact q2 (sw u q1))
        refine K_aloadN C (pc := 25) d13_25 rfl (by first | rfl | assumption) ?_
        refine K_getF C (pc := 26) (tw42 hw) Via.refl K1 d13_26 ?_
        refine K_aloadN C (pc := 29) d13_29 rfl (by first | rfl | assumption) ?_
        refine K_getF C (pc := 30) (tw42 hw) Via.refl K2 d13_30 ?_
        refine K_icmp C (pc := 33) 54 d13_33 (by decide) (by decide) (fun hc33 => ?_) (fun hc33 => ?_)
        · simp only [oC, Classical.not_not] at hc33
          exact absurd hc33 (by simp)
        · simp only [oC, Classical.not_not] at hc33
          refine K_aloadN C (pc := 36) d13_36 rfl (by first | rfl | assumption) ?_
          refine K_getF C (pc := 37) (tw44 hw) Via.refl V1 d13_37 ?_
          refine K_aloadN C (pc := 40) d13_40 rfl (by first | rfl | assumption) ?_
          refine K_getF C (pc := 41) (tw44 hw) Via.refl V2 d13_41 ?_
          refine K_static C (pc := 44) (mLEQ l Z a0 hw b1 b2 (us.map oLob) (ws.map oLob) _ (by simpa using hlu) (by simpa using hlw) (A1.eq (by simp [oLv])) (A2.eq (by simp [oLv]))) (tw78 hw) (tw79 hw) (tw80 hw) (tw81 hw) (by decide) pdo_4 d13_44 (argsL := [_, _]) (rest := _) rfl rfl rfl rfl (fun a q r => C.new a (Nat.le_trans q r)) (by decide) (Nat.le_of_ble_eq_true rfl) (by decide) (by decide) ?_
          rintro _ h1 ⟨rfl, rfl⟩ -
          dsimp only [Option.toList, List.cons_append, List.nil_append]
          have hiff : us.map oLob = ws.map oLob ↔ us = ws := oLobMap hu hw' su sw
          refine K_if C (pc := 47) 54 d13_47 (by decide) (by decide) (fun hc47 => ?_) (fun hc47 => ?_)
          · simp only [oC, Classical.not_not] at hc47
            refine K_iconst C (pc := 54) 0 d13_54 (by decide) ?_
            refine K_ireturn C (pc := 55) d13_55 (by simp) (z' := 0) (by decide) (by decide) (by decide) (fun _ _ => ⟨?_, rfl⟩)
            simp only [hiff] at hc47
            split at hc47
            · exact absurd hc47 (by decide)
            · rename_i q; rw [if_neg q]
          · simp only [oC, Classical.not_not] at hc47
            refine K_iconst C (pc := 50) 1 d13_50 (by decide) ?_
            refine K_goto C (pc := 51) 55 d13_51 (by decide) (by decide) ?_
            refine K_ireturn C (pc := 55) d13_55 (by simp) (z' := 1) (by decide) (by decide) (by decide) (fun _ _ => ⟨?_, rfl⟩)
            simp only [hiff] at hc47
            split at hc47
            · rename_i q; rw [if_pos q]
            · exact absurd hc47 (by simp)
  · simp only [oA, Classical.not_not, Value.ref.injEq] at hc2
    refine K_iconst C (pc := 5) 1 d13_5 (by decide) ?_
    refine K_ireturn C (pc := 6) d13_6 (by simp) (z' := 1) (by decide) (by decide) (by decide) (fun _ _ => ⟨?_, rfl⟩)
    subst hc2; rw [if_pos (oStr.inj F G su sw)]
def own_kw (w_WORD w_NUMBER w_DURATION w_STRING w_SYMBOL w_END : Addr) (i : Int32) : Addr := if i = 0 then w_WORD else if i = 1 then w_NUMBER else if i = 2 then w_DURATION else if i = 3 then w_STRING else if i = 4 then w_SYMBOL else w_END
def own_k (i : Int32) : Prop := i = 0 ∨ i = 1 ∨ i = 2 ∨ i = 3 ∨ i = 4 ∨ i = 5
theorem own_kinj {w_WORD w_NUMBER w_DURATION w_STRING w_SYMBOL w_END : Addr} (n10 : w_NUMBER ≠ w_WORD) (n20 : w_DURATION ≠ w_WORD) (n21 : w_DURATION ≠ w_NUMBER) (n30 : w_STRING ≠ w_WORD) (n31 : w_STRING ≠ w_NUMBER) (n32 : w_STRING ≠ w_DURATION) (n40 : w_SYMBOL ≠ w_WORD) (n41 : w_SYMBOL ≠ w_NUMBER) (n42 : w_SYMBOL ≠ w_DURATION) (n43 : w_SYMBOL ≠ w_STRING) (n50 : w_END ≠ w_WORD) (n51 : w_END ≠ w_NUMBER) (n52 : w_END ≠ w_DURATION) (n53 : w_END ≠ w_STRING) (n54 : w_END ≠ w_SYMBOL) {i j : Int32} (hi : own_k i) (hj : own_k j) : own_kw w_WORD w_NUMBER w_DURATION w_STRING w_SYMBOL w_END i = own_kw w_WORD w_NUMBER w_DURATION w_STRING w_SYMBOL w_END j ↔ i = j := by
  rcases hi with rfl | rfl | rfl | rfl | rfl | rfl <;> rcases hj with rfl | rfl | rfl | rfl | rfl | rfl <;> simp [own_kw, n10, n20, n21, n30, n31, n32, n40, n41, n42, n43, n50, n51, n52, n53, n54, n10.symm, n20.symm, n21.symm, n30.symm, n31.symm, n32.symm, n40.symm, n41.symm, n42.symm, n43.symm, n50.symm, n51.symm, n52.symm, n53.symm, n54.symm]
theorem own_mod (x : Int32) : own_k ((x &&& 7) % 6) := by
  have e1 : (x &&& 7).toInt = x.toInt % 2 ^ 3 := Jvm.Kit.i32_mask x 7 (k := 3) (by decide) (by decide)
  have hb : 0 ≤ (x &&& 7).toInt := by rw [e1]; exact Int.emod_nonneg _ (by decide)
  have e3 : ((x &&& 7) % 6).toInt = (x &&& 7).toInt % 6 := by rw [Int32.toInt_mod, show (6 : Int32).toInt = 6 from rfl, Int.tmod_eq_emod_of_nonneg hb]
  have : ((x &&& 7) % 6).toInt = 0 ∨ ((x &&& 7) % 6).toInt = 1 ∨ ((x &&& 7) % 6).toInt = 2 ∨ ((x &&& 7) % 6).toInt = 3 ∨ ((x &&& 7) % 6).toInt = 4 ∨ ((x &&& 7) % 6).toInt = 5 := by omega
  rcases this with q | q | q | q | q | q
  · exact Or.inl (Int32.toInt_inj.mp (by rw [q]; rfl))
  · exact Or.inr (Or.inl (Int32.toInt_inj.mp (by rw [q]; rfl)))
  · exact Or.inr (Or.inr (Or.inl (Int32.toInt_inj.mp (by rw [q]; rfl))))
  · exact Or.inr (Or.inr (Or.inr (Or.inl (Int32.toInt_inj.mp (by rw [q]; rfl)))))
  · exact Or.inr (Or.inr (Or.inr (Or.inr (Or.inl (Int32.toInt_inj.mp (by rw [q]; rfl))))))
  · exact Or.inr (Or.inr (Or.inr (Or.inr (Or.inr (Int32.toInt_inj.mp (by rw [q]; rfl))))))
def own_ch (x k : Int32) : Int32 := XT.ushr x (2 + 8 * k) &&& 255
theorem own_nch (x k : Int32) : nar .char (own_ch x k) = own_ch x k := (oMask _).2.2
theorem own_chc (x k : Int32) : oChr (own_ch x k) := (oMask _).1
theorem own_chs (x k : Int32) : oSmall (own_ch x k) := (oMask _).2.1
def own_us (x : Int32) : List Int32 := if x &&& 3 = 0 then [] else if x &&& 3 = 1 then [own_ch x 0] else if x &&& 3 = 2 then [own_ch x 0, own_ch x 1] else [own_ch x 0, own_ch x 1, own_ch x 2]
theorem own_len (x : Int32) : (own_us x).length < 2 ^ 31 := by
  unfold own_us; split
  · decide
  · split
    · simp
    · split <;> simp
theorem own_small (x : Int32) : ∀ u ∈ own_us x, oSmall u := by
  unfold own_us; split
  · simp
  · split
    · simp [own_chs]
    · split <;> simp [own_chs]
theorem own_iff (x z : Int32) : own_us x = own_us z ↔ x &&& 3 = z &&& 3 ∧ (x &&& 3 < 1 ∨ own_ch x 0 = own_ch z 0) ∧ (x &&& 3 < 2 ∨ own_ch x 1 = own_ch z 1) ∧ (x &&& 3 < 3 ∨ own_ch x 2 = own_ch z 2) := by
  rcases oAnd3 x with q | q | q | q <;> rcases oAnd3 z with r | r | r | r <;> simp only [own_us, q, r] <;> simp
  all_goals (first | done | decide | skip)
theorem pno_1 : plainFor (⟨"com/example/wardstream/wardstream/engine/TokenIsPinLaw", "kindAt", "(I)Lcom/example/wardstream/wardstream/engine/RulesTokenizer$Kind;"⟩ : MethodName) = true := by first | exact plainFor_of_name (by first | (simp [plainName, overriddenIn]; done) | decide +kernel) | decide +kernel
theorem efo_1 (m : MethodId) (x0 : Int32) : entryFrame m #[.int x0] 1 = oF m 0 [.val (.int x0)] [] := by (first | (simp [entryFrame, oF, mkF, argsToLocals, Value.category]; done) | rfl)
set_option maxRecDepth 65536 in
set_option maxHeartbeats 40000000 in
theorem m1 (l : Launch) (Z : State) (a0 : Array Value) (hw : ∀ d ∈ tables_1, d.before a0 Z = true) (p1 : Int32) (h0 : Heap) (w_WORD : Addr) (S_WORD : Sta Z Z.heap "com/example/wardstream/wardstream/engine/RulesTokenizer$Kind" "WORD" "Lcom/example/wardstream/wardstream/engine/RulesTokenizer$Kind;" (.ref w_WORD)) (w_NUMBER : Addr) (S_NUMBER : Sta Z Z.heap "com/example/wardstream/wardstream/engine/RulesTokenizer$Kind" "NUMBER" "Lcom/example/wardstream/wardstream/engine/RulesTokenizer$Kind;" (.ref w_NUMBER)) (w_DURATION : Addr) (S_DURATION : Sta Z Z.heap "com/example/wardstream/wardstream/engine/RulesTokenizer$Kind" "DURATION" "Lcom/example/wardstream/wardstream/engine/RulesTokenizer$Kind;" (.ref w_DURATION)) (w_STRING : Addr) (S_STRING : Sta Z Z.heap "com/example/wardstream/wardstream/engine/RulesTokenizer$Kind" "STRING" "Lcom/example/wardstream/wardstream/engine/RulesTokenizer$Kind;" (.ref w_STRING)) (w_SYMBOL : Addr) (S_SYMBOL : Sta Z Z.heap "com/example/wardstream/wardstream/engine/RulesTokenizer$Kind" "SYMBOL" "Lcom/example/wardstream/wardstream/engine/RulesTokenizer$Kind;" (.ref w_SYMBOL)) (w_END : Addr) (S_END : Sta Z Z.heap "com/example/wardstream/wardstream/engine/RulesTokenizer$Kind" "END" "Lcom/example/wardstream/wardstream/engine/RulesTokenizer$Kind;" (.ref w_END)) :
    oMeets l Z (⟨"com/example/wardstream/wardstream/engine/TokenIsPinLaw", "kindAt", "(I)Lcom/example/wardstream/wardstream/engine/RulesTokenizer$Kind;"⟩ : MethodName) method_2_code 1 (some (.object "com/example/wardstream/wardstream/engine/RulesTokenizer$Kind")) ({ frames := 0, cells := 0, slots := 0, locals := 0 } : Room) #[.int p1] h0 (fun a => h0.size ≤ a) (fun v h => v = some (.ref (own_kw w_WORD w_NUMBER w_DURATION w_STRING w_SYMBOL w_END p1)) ∧ h = h0) := by
  refine oMeets.of pno_1 (fun _ q => q) (fun E _ q => Nat.le_trans E.1 q) (Ls := [.val (.int p1)]) (fun m => efo_1 m p1) ?_
  intro p e s m below meth c C hs
  refine K_iloadN C (pc := 0) d1_0 rfl ?_
  refine K_if C (pc := 1) 8 d1_1 (by decide) (by decide) (fun hc1 => ?_) (fun hc1 => ?_)
  · simp only [oC, Classical.not_not] at hc1
    refine K_iloadN C (pc := 8) d1_8 rfl ?_
    refine K_iconst C (pc := 9) 1 d1_9 (by decide) ?_
    refine K_icmp C (pc := 10) 17 d1_10 (by decide) (by decide) (fun hc10 => ?_) (fun hc10 => ?_)
    · simp only [oC, Classical.not_not] at hc10
      refine K_iloadN C (pc := 17) d1_17 rfl ?_
      refine K_iconst C (pc := 18) 2 d1_18 (by decide) ?_
      refine K_icmp C (pc := 19) 26 d1_19 (by decide) (by decide) (fun hc19 => ?_) (fun hc19 => ?_)
      · simp only [oC, Classical.not_not] at hc19
        refine K_iloadN C (pc := 26) d1_26 rfl ?_
        refine K_iconst C (pc := 27) 3 d1_27 (by decide) ?_
        refine K_icmp C (pc := 28) 35 d1_28 (by decide) (by decide) (fun hc28 => ?_) (fun hc28 => ?_)
        · simp only [oC, Classical.not_not] at hc28
          refine K_iloadN C (pc := 35) d1_35 rfl ?_
          refine K_iconst C (pc := 36) 4 d1_36 (by decide) ?_
          refine K_icmp C (pc := 37) 44 d1_37 (by decide) (by decide) (fun hc37 => ?_) (fun hc37 => ?_)
          · simp only [oC, Classical.not_not] at hc37
            refine K_getS C (pc := 44) (tw82 hw) Via.refl S_END d1_44 ?_
            refine K_areturn C (pc := 47) d1_47 rfl rfl rfl (by decide) (by decide) (fun _ _ => ⟨?_, rfl⟩)
            simp [own_kw, hc1, hc10, hc19, hc28, hc37]
          · simp only [oC, Classical.not_not] at hc37
            refine K_getS C (pc := 40) (tw70 hw) Via.refl S_SYMBOL d1_40 ?_
            refine K_areturn C (pc := 43) d1_43 rfl rfl rfl (by decide) (by decide) (fun _ _ => ⟨?_, rfl⟩)
            simp [own_kw, hc1, hc10, hc19, hc28, hc37]
        · simp only [oC, Classical.not_not] at hc28
          refine K_getS C (pc := 31) (tw63 hw) Via.refl S_STRING d1_31 ?_
          refine K_areturn C (pc := 34) d1_34 rfl rfl rfl (by decide) (by decide) (fun _ _ => ⟨?_, rfl⟩)
          simp [own_kw, hc1, hc10, hc19, hc28]
      · simp only [oC, Classical.not_not] at hc19
        refine K_getS C (pc := 22) (tw89 hw) Via.refl S_DURATION d1_22 ?_
        refine K_areturn C (pc := 25) d1_25 rfl rfl rfl (by decide) (by decide) (fun _ _ => ⟨?_, rfl⟩)
        simp [own_kw, hc1, hc10, hc19]
    · simp only [oC, Classical.not_not] at hc10
      refine K_getS C (pc := 13) (tw84 hw) Via.refl S_NUMBER d1_13 ?_
      refine K_areturn C (pc := 16) d1_16 rfl rfl rfl (by decide) (by decide) (fun _ _ => ⟨?_, rfl⟩)
      simp [own_kw, hc1, hc10]
  · simp only [oC, Classical.not_not] at hc1
    refine K_getS C (pc := 4) (tw7 hw) Via.refl S_WORD d1_4 ?_
    refine K_areturn C (pc := 7) d1_7 rfl rfl rfl (by decide) (by decide) (fun _ _ => ⟨?_, rfl⟩)
    simp [own_kw, hc1]
theorem pno_3 : plainFor (⟨"com/example/wardstream/wardstream/engine/TokenIsPinLaw", "ch", "(II)C"⟩ : MethodName) = true := by first | exact plainFor_of_name (by first | (simp [plainName, overriddenIn]; done) | decide +kernel) | decide +kernel
theorem efo_3 (m : MethodId) (x0 : Int32) (x1 : Int32) : entryFrame m #[.int x0, .int x1] 2 = oF m 0 [.val (.int x0), .val (.int x1)] [] := by (first | (simp [entryFrame, oF, mkF, argsToLocals, Value.category]; done) | rfl)
set_option maxRecDepth 65536 in
set_option maxHeartbeats 40000000 in
theorem m3 (l : Launch) (Z : State) (a0 : Array Value) (hw : ∀ d ∈ tables_1, d.before a0 Z = true) (p1 k : Int32) (h0 : Heap) :
    oMeets l Z (⟨"com/example/wardstream/wardstream/engine/TokenIsPinLaw", "ch", "(II)C"⟩ : MethodName) method_3_code 2 (some .char) ({ frames := 0, cells := 0, slots := 0, locals := 0 } : Room) #[.int p1, .int k] h0 (fun a => h0.size ≤ a) (fun v h => v = some (.int (own_ch p1 k)) ∧ h = h0) := by
  refine oMeets.of pno_3 (fun _ q => q) (fun E _ q => Nat.le_trans E.1 q) (Ls := [.val (.int p1), .val (.int k)]) (fun m => efo_3 m p1 k) ?_
  intro p e s m below meth c C hs
  refine K_iloadN C (pc := 0) d3_0 rfl ?_
  refine K_iconst C (pc := 1) 2 d3_1 (by decide) ?_
  refine K_bipush C (pc := 2) 8 d3_2 (by decide) ?_
  refine K_iloadN C (pc := 4) d3_4 rfl ?_
  refine K_imul C (pc := 5) d3_5 ?_
  refine K_iadd C (pc := 6) d3_6 ?_
  refine K_iushr C (pc := 7) d3_7 ?_
  refine K_sipush C (pc := 8) 255 d3_8 (by decide) ?_
  refine K_iand C (pc := 11) d3_11 ?_
  refine K_i2c C (pc := 12) d3_12 ?_
  refine K_ireturn C (pc := 13) d3_13 (by simp) (z' := own_ch p1 k) (oNC _) (by decide) (by decide) (fun _ _ => ⟨rfl, rfl⟩)
theorem pno_2 : plainFor (⟨"com/example/wardstream/wardstream/engine/TokenIsPinLaw", "build", "(I)Ljava/lang/String;"⟩ : MethodName) = true := by first | exact plainFor_of_name (by first | (simp [plainName, overriddenIn]; done) | decide +kernel) | decide +kernel
theorem efo_2 (m : MethodId) (x0 : Int32) : entryFrame m #[.int x0] 2 = oF m 0 [.val (.int x0), .unset] [] := by (first | (simp [entryFrame, oF, mkF, argsToLocals, Value.category]; done) | rfl)
set_option maxRecDepth 65536 in
set_option maxHeartbeats 40000000 in
theorem m2 (l : Launch) (Z : State) (a0 : Array Value) (hw : ∀ d ∈ tables_1, d.before a0 Z = true) (p1 : Int32) (h0 : Heap) (cs : Int32) (hcs : cs ≠ 0) (S_COMPACT_STRINGS : Sta Z Z.heap "java/lang/String" "COMPACT_STRINGS" "Z" (.int cs)) :
    oMeetsW l Z (⟨"com/example/wardstream/wardstream/engine/TokenIsPinLaw", "build", "(I)Ljava/lang/String;"⟩ : MethodName) method_4_code 2 (some (.object "java/lang/String")) ({ frames := 4, cells := 6, slots := 12, locals := 96 } : Room) #[.int p1] h0 (fun a => h0.size ≤ a) (oH Z own_EL h0 []) (fun v h vm => ∃ a, v = some (.ref a) ∧ oStr Z h a (own_us p1) ∧ oH Z own_EL h [] vm) := by
  refine oMeetsW.of pno_2 (fun _ q => q) (fun E _ q => Nat.le_trans E.1 q) (Ls := [.val (.int p1), .unset]) (fun m => efo_2 m p1) (oH.js (own_EW hw)) ?_
  intro p e s m below meth c C hs
  refine K_iloadN C (pc := 0) d2_0 rfl ?_
  refine K_iconst C (pc := 1) 3 d2_1 (by decide) ?_
  refine K_iand C (pc := 2) d2_2 ?_
  refine K_istoreN C (pc := 3) (Ls' := [_, _]) d2_3 rfl ?_
  refine K_iloadN C (pc := 4) d2_4 rfl ?_
  refine K_if C (pc := 5) 19 d2_5 (by decide) (by decide) (fun hc5 => ?_) (fun hc5 => ?_)
  · simp only [oC, Classical.not_not] at hc5
    refine K_iloadN C (pc := 19) d2_19 rfl ?_
    refine K_iconst C (pc := 20) 1 d2_20 (by decide) ?_
    refine K_icmp C (pc := 21) 43 d2_21 (by decide) (by decide) (fun hc21 => ?_) (fun hc21 => ?_)
    · simp only [oC, Classical.not_not] at hc21
      refine K_iloadN C (pc := 43) d2_43 rfl ?_
      refine K_iconst C (pc := 44) 2 d2_44 (by decide) ?_
      refine K_icmp C (pc := 45) 75 d2_45 (by decide) (by decide) (fun hc45 => ?_) (fun hc45 => ?_)
      · simp only [oC, Classical.not_not] at hc45
        refine K_new C (pc := 75) (tw13 hw) (tw14 hw) (tw15 hw) d2_75 (by decide) (by decide) ?_
        intro h1 a ha hPa E1 X1 D1
        have FV := D1 (Or.inr (tw45 hw)) (ty := .array .byte) (by decide)
        have FC := D1 (Or.inr (tw43 hw)) (ty := .byte) (by decide)
        refine K_J (fun _ H => H.add E1 ha (oXlt X1)) (oH.js (own_EW hw)) ?_
        refine K_dup C (pc := 78) d2_78 rfl ?_
        refine K_iconst C (pc := 79) 3 d2_79 (by decide) ?_
        refine K_newarray2 C (aty := .char) (pc := 80) 3 3 (tw16 hw) d2_80 rfl (by decide) (by decide) (by decide) (by decide) ?_
        intro h2 ca hca hPc E2 A
        refine K_J (fun _ H => H.ext E2) (oH.js (own_EW hw)) ?_
        replace FV := FV.ext E2
        replace FC := FC.ext E2
        replace X1 := X1.ext E2
        have hne : a ≠ ca := by obtain ⟨_, A, -⟩ := A; exact ne_arr X1 (tw14 hw) A
        refine K_dup C (pc := 82) d2_82 rfl ?_
        refine K_iconst C (pc := 83) 0 d2_83 (by decide) ?_
        refine K_iloadN C (pc := 84) d2_84 rfl ?_
        refine K_iconst C (pc := 85) 0 d2_85 (by decide) ?_
        refine K_static C (pc := 86) (m3 l Z a0 hw p1 0 _) (tw17 hw) (tw18 hw) (tw5 hw) (tw19 hw) (by decide) pdo_5 d2_86 (argsL := [_, _]) (rest := _) rfl rfl rfl rfl (fun a q r => C.new a (Nat.le_trans q r)) (by decide) (Nat.le_of_ble_eq_true rfl) (by decide) (by decide) ?_
        rintro _ h8 ⟨rfl, rfl⟩ -
        dsimp only [Option.toList, List.cons_append, List.nil_append]
        refine K_castore2 C (pc := 89) 0 A rfl (by simp) hPc d2_89 ?_
        intro h3 Wr A3
        refine K_J (fun _ H => H.wrA Wr A (by decide)) (oH.js (own_EW hw)) ?_
        replace FV := Fld.other Wr FV (Or.inl hne)
        replace FC := Fld.other Wr FC (Or.inl hne)
        replace X1 := X1.wr Wr
        replace A := A3
        clear A3 Wr
        refine K_dup C (pc := 90) d2_90 rfl ?_
        refine K_iconst C (pc := 91) 1 d2_91 (by decide) ?_
        refine K_iloadN C (pc := 92) d2_92 rfl ?_
        refine K_iconst C (pc := 93) 1 d2_93 (by decide) ?_
        refine K_static C (pc := 94) (m3 l Z a0 hw p1 1 _) (tw17 hw) (tw18 hw) (tw5 hw) (tw19 hw) (by decide) pdo_5 d2_94 (argsL := [_, _]) (rest := _) rfl rfl rfl rfl (fun a q r => C.new a (Nat.le_trans q r)) (by decide) (Nat.le_of_ble_eq_true rfl) (by decide) (by decide) ?_
        rintro _ h8 ⟨rfl, rfl⟩ -
        dsimp only [Option.toList, List.cons_append, List.nil_append]
        refine K_castore2 C (pc := 97) 1 A rfl (by simp) hPc d2_97 ?_
        intro h3 Wr A3
        refine K_J (fun _ H => H.wrA Wr A (by decide)) (oH.js (own_EW hw)) ?_
        replace FV := Fld.other Wr FV (Or.inl hne)
        replace FC := Fld.other Wr FC (Or.inl hne)
        replace X1 := X1.wr Wr
        replace A := A3
        clear A3 Wr
        refine K_dup C (pc := 98) d2_98 rfl ?_
        refine K_iconst C (pc := 99) 2 d2_99 (by decide) ?_
        refine K_iloadN C (pc := 100) d2_100 rfl ?_
        refine K_iconst C (pc := 101) 2 d2_101 (by decide) ?_
        refine K_static C (pc := 102) (m3 l Z a0 hw p1 2 _) (tw17 hw) (tw18 hw) (tw5 hw) (tw19 hw) (by decide) pdo_5 d2_102 (argsL := [_, _]) (rest := _) rfl rfl rfl rfl (fun a q r => C.new a (Nat.le_trans q r)) (by decide) (Nat.le_of_ble_eq_true rfl) (by decide) (by decide) ?_
        rintro _ h8 ⟨rfl, rfl⟩ -
        dsimp only [Option.toList, List.cons_append, List.nil_append]
        refine K_castore2 C (pc := 105) 2 A rfl (by simp) hPc d2_105 ?_
        intro h3 Wr A3
        refine K_J (fun _ H => H.wrA Wr A (by decide)) (oH.js (own_EW hw)) ?_
        replace FV := Fld.other Wr FV (Or.inl hne)
        replace FC := Fld.other Wr FC (Or.inl hne)
        replace X1 := X1.wr Wr
        replace A := A3
        clear A3 Wr
        replace A : oArr Z _ ca .char (([own_ch p1 0, own_ch p1 1, own_ch p1 2]).map Value.int) := A.eq (by simp only [own_nch]; rfl)
        refine K_special C (pc := 106) (mSI1 l Z a0 hw a ca [own_ch p1 0, own_ch p1 1, own_ch p1 2] _ (by simp) (by simp) (by simp [own_chc]) (by simp [own_chs]) (C.young a hPa) X1 FV FC A cs hcs S_COMPACT_STRINGS) (tw20 hw) (tw21 hw) (tw15 hw) (tw22 hw) rfl (by decide) pdo_6 d2_106 (argsL := [_]) (rest := _) rfl rfl rfl rfl (fun x q r => r.elim (fun z => z ▸ hPa) (fun z => C.new x (Nat.le_trans q z))) (by decide) (Nat.le_of_ble_eq_true rfl) (by decide) (by decide) ?_
        rintro _ h9 ⟨rfl, R⟩ hK
        refine K_J (fun _ H => (H.kp hK (fun x r => r.imp (fun z => by simp [z]) id)).sub (zs := []) (by simp)) (oH.js (own_EW hw)) ?_
        dsimp only [Option.toList, List.cons_append, List.nil_append]
        have eu : own_us p1 = [own_ch p1 0, own_ch p1 1, own_ch p1 2] := by simp [own_us, hc5, hc21, hc45]
        refine K_areturn C (pc := 109) d2_109 rfl rfl rfl (by decide) (by decide) (fun _ H => ⟨a, rfl, by rw [eu]; exact R, H⟩)
      · simp only [oC, Classical.not_not] at hc45
        refine K_new C (pc := 48) (tw13 hw) (tw14 hw) (tw15 hw) d2_48 (by decide) (by decide) ?_
        intro h1 a ha hPa E1 X1 D1
        have FV := D1 (Or.inr (tw45 hw)) (ty := .array .byte) (by decide)
        have FC := D1 (Or.inr (tw43 hw)) (ty := .byte) (by decide)
        refine K_J (fun _ H => H.add E1 ha (oXlt X1)) (oH.js (own_EW hw)) ?_
        refine K_dup C (pc := 51) d2_51 rfl ?_
        refine K_iconst C (pc := 52) 2 d2_52 (by decide) ?_
        refine K_newarray2 C (aty := .char) (pc := 53) 2 2 (tw16 hw) d2_53 rfl (by decide) (by decide) (by decide) (by decide) ?_
        intro h2 ca hca hPc E2 A
        refine K_J (fun _ H => H.ext E2) (oH.js (own_EW hw)) ?_
        replace FV := FV.ext E2
        replace FC := FC.ext E2
        replace X1 := X1.ext E2
        have hne : a ≠ ca := by obtain ⟨_, A, -⟩ := A; exact ne_arr X1 (tw14 hw) A
        refine K_dup C (pc := 55) d2_55 rfl ?_
        refine K_iconst C (pc := 56) 0 d2_56 (by decide) ?_
        refine K_iloadN C (pc := 57) d2_57 rfl ?_
        refine K_iconst C (pc := 58) 0 d2_58 (by decide) ?_
        refine K_static C (pc := 59) (m3 l Z a0 hw p1 0 _) (tw17 hw) (tw18 hw) (tw5 hw) (tw19 hw) (by decide) pdo_5 d2_59 (argsL := [_, _]) (rest := _) rfl rfl rfl rfl (fun a q r => C.new a (Nat.le_trans q r)) (by decide) (Nat.le_of_ble_eq_true rfl) (by decide) (by decide) ?_
        rintro _ h8 ⟨rfl, rfl⟩ -
        dsimp only [Option.toList, List.cons_append, List.nil_append]
        refine K_castore2 C (pc := 62) 0 A rfl (by simp) hPc d2_62 ?_
        intro h3 Wr A3
        refine K_J (fun _ H => H.wrA Wr A (by decide)) (oH.js (own_EW hw)) ?_
        replace FV := Fld.other Wr FV (Or.inl hne)
        replace FC := Fld.other Wr FC (Or.inl hne)
        replace X1 := X1.wr Wr
        replace A := A3
        clear A3 Wr
        refine K_dup C (pc := 63) d2_63 rfl ?_
        refine K_iconst C (pc := 64) 1 d2_64 (by decide) ?_
        refine K_iloadN C (pc := 65) d2_65 rfl ?_
        refine K_iconst C (pc := 66) 1 d2_66 (by decide) ?_
        refine K_static C (pc := 67) (m3 l Z a0 hw p1 1 _) (tw17 hw) (tw18 hw) (tw5 hw) (tw19 hw) (by decide) pdo_5 d2_67 (argsL := [_, _]) (rest := _) rfl rfl rfl rfl (fun a q r => C.new a (Nat.le_trans q r)) (by decide) (Nat.le_of_ble_eq_true rfl) (by decide) (by decide) ?_
        rintro _ h8 ⟨rfl, rfl⟩ -
        dsimp only [Option.toList, List.cons_append, List.nil_append]
        refine K_castore2 C (pc := 70) 1 A rfl (by simp) hPc d2_70 ?_
        intro h3 Wr A3
        refine K_J (fun _ H => H.wrA Wr A (by decide)) (oH.js (own_EW hw)) ?_
        replace FV := Fld.other Wr FV (Or.inl hne)
        replace FC := Fld.other Wr FC (Or.inl hne)
        replace X1 := X1.wr Wr
        replace A := A3
        clear A3 Wr
        replace A : oArr Z _ ca .char (([own_ch p1 0, own_ch p1 1]).map Value.int) := A.eq (by simp only [own_nch]; rfl)
        refine K_special C (pc := 71) (mSI1 l Z a0 hw a ca [own_ch p1 0, own_ch p1 1] _ (by simp) (by simp) (by simp [own_chc]) (by simp [own_chs]) (C.young a hPa) X1 FV FC A cs hcs S_COMPACT_STRINGS) (tw20 hw) (tw21 hw) (tw15 hw) (tw22 hw) rfl (by decide) pdo_6 d2_71 (argsL := [_]) (rest := _) rfl rfl rfl rfl (fun x q r => r.elim (fun z => z ▸ hPa) (fun z => C.new x (Nat.le_trans q z))) (by decide) (Nat.le_of_ble_eq_true rfl) (by decide) (by decide) ?_
        rintro _ h9 ⟨rfl, R⟩ hK
        refine K_J (fun _ H => (H.kp hK (fun x r => r.imp (fun z => by simp [z]) id)).sub (zs := []) (by simp)) (oH.js (own_EW hw)) ?_
        dsimp only [Option.toList, List.cons_append, List.nil_append]
        have eu : own_us p1 = [own_ch p1 0, own_ch p1 1] := by simp [own_us, hc5, hc21, hc45]
        refine K_areturn C (pc := 74) d2_74 rfl rfl rfl (by decide) (by decide) (fun _ H => ⟨a, rfl, by rw [eu]; exact R, H⟩)
    · simp only [oC, Classical.not_not] at hc21
      refine K_new C (pc := 24) (tw13 hw) (tw14 hw) (tw15 hw) d2_24 (by decide) (by decide) ?_
      intro h1 a ha hPa E1 X1 D1
      have FV := D1 (Or.inr (tw45 hw)) (ty := .array .byte) (by decide)
      have FC := D1 (Or.inr (tw43 hw)) (ty := .byte) (by decide)
      refine K_J (fun _ H => H.add E1 ha (oXlt X1)) (oH.js (own_EW hw)) ?_
      refine K_dup C (pc := 27) d2_27 rfl ?_
      refine K_iconst C (pc := 28) 1 d2_28 (by decide) ?_
      refine K_newarray2 C (aty := .char) (pc := 29) 1 1 (tw16 hw) d2_29 rfl (by decide) (by decide) (by decide) (by decide) ?_
      intro h2 ca hca hPc E2 A
      refine K_J (fun _ H => H.ext E2) (oH.js (own_EW hw)) ?_
      replace FV := FV.ext E2
      replace FC := FC.ext E2
      replace X1 := X1.ext E2
      have hne : a ≠ ca := by obtain ⟨_, A, -⟩ := A; exact ne_arr X1 (tw14 hw) A
      refine K_dup C (pc := 31) d2_31 rfl ?_
      refine K_iconst C (pc := 32) 0 d2_32 (by decide) ?_
      refine K_iloadN C (pc := 33) d2_33 rfl ?_
      refine K_iconst C (pc := 34) 0 d2_34 (by decide) ?_
      refine K_static C (pc := 35) (m3 l Z a0 hw p1 0 _) (tw17 hw) (tw18 hw) (tw5 hw) (tw19 hw) (by decide) pdo_5 d2_35 (argsL := [_, _]) (rest := _) rfl rfl rfl rfl (fun a q r => C.new a (Nat.le_trans q r)) (by decide) (Nat.le_of_ble_eq_true rfl) (by decide) (by decide) ?_
      rintro _ h8 ⟨rfl, rfl⟩ -
      dsimp only [Option.toList, List.cons_append, List.nil_append]
      refine K_castore2 C (pc := 38) 0 A rfl (by simp) hPc d2_38 ?_
      intro h3 Wr A3
      refine K_J (fun _ H => H.wrA Wr A (by decide)) (oH.js (own_EW hw)) ?_
      replace FV := Fld.other Wr FV (Or.inl hne)
      replace FC := Fld.other Wr FC (Or.inl hne)
      replace X1 := X1.wr Wr
      replace A := A3
      clear A3 Wr
      replace A : oArr Z _ ca .char (([own_ch p1 0]).map Value.int) := A.eq (by simp only [own_nch]; rfl)
      refine K_special C (pc := 39) (mSI1 l Z a0 hw a ca [own_ch p1 0] _ (by simp) (by simp) (by simp [own_chc]) (by simp [own_chs]) (C.young a hPa) X1 FV FC A cs hcs S_COMPACT_STRINGS) (tw20 hw) (tw21 hw) (tw15 hw) (tw22 hw) rfl (by decide) pdo_6 d2_39 (argsL := [_]) (rest := _) rfl rfl rfl rfl (fun x q r => r.elim (fun z => z ▸ hPa) (fun z => C.new x (Nat.le_trans q z))) (by decide) (Nat.le_of_ble_eq_true rfl) (by decide) (by decide) ?_
      rintro _ h9 ⟨rfl, R⟩ hK
      refine K_J (fun _ H => (H.kp hK (fun x r => r.imp (fun z => by simp [z]) id)).sub (zs := []) (by simp)) (oH.js (own_EW hw)) ?_
      dsimp only [Option.toList, List.cons_append, List.nil_append]
      have eu : own_us p1 = [own_ch p1 0] := by simp [own_us, hc5, hc21]
      refine K_areturn C (pc := 42) d2_42 rfl rfl rfl (by decide) (by decide) (fun _ H => ⟨a, rfl, by rw [eu]; exact R, H⟩)
  · simp only [oC, Classical.not_not] at hc5
    refine K_new C (pc := 8) (tw13 hw) (tw14 hw) (tw15 hw) d2_8 (by decide) (by decide) ?_
    intro h1 a ha hPa E1 X1 D1
    have FV := D1 (Or.inr (tw45 hw)) (ty := .array .byte) (by decide)
    have FC := D1 (Or.inr (tw43 hw)) (ty := .byte) (by decide)
    refine K_J (fun _ H => H.add E1 ha (oXlt X1)) (oH.js (own_EW hw)) ?_
    refine K_dup C (pc := 11) d2_11 rfl ?_
    refine K_iconst C (pc := 12) 0 d2_12 (by decide) ?_
    refine K_newarray2 C (aty := .char) (pc := 13) 0 0 (tw16 hw) d2_13 rfl (by decide) (by decide) (by decide) (by decide) ?_
    intro h2 ca hca hPc E2 A
    refine K_J (fun _ H => H.ext E2) (oH.js (own_EW hw)) ?_
    replace FV := FV.ext E2
    replace FC := FC.ext E2
    replace X1 := X1.ext E2
    have hne : a ≠ ca := by obtain ⟨_, A, -⟩ := A; exact ne_arr X1 (tw14 hw) A
    refine K_specialW C (pc := 15) (mSI1e l Z a0 hw a ca _ (C.young a hPa) X1 FV FC (A.eq rfl)) (fun _ H => H) (tw20 hw) (tw21 hw) (tw15 hw) (tw22 hw) rfl (by decide) pdo_6 d2_15 (argsL := [_]) (rest := _) rfl rfl rfl rfl (fun x q r => r.elim (fun z => z ▸ hPa) (fun z => C.new x (Nat.le_trans q z))) (by decide) (Nat.le_of_ble_eq_true rfl) (by decide) (by decide) ?_
    rintro _ h9 _ ⟨rfl, R, H9⟩ -
    refine ⟨oH Z own_EL h9 [], H9.sub (by simp), oH.js (own_EW hw), ?_⟩
    dsimp only [Option.toList, List.cons_append, List.nil_append]
    have eu : own_us p1 = [] := by simp [own_us, hc5]
    refine K_areturn C (pc := 18) d2_18 rfl rfl rfl (by decide) (by decide) (fun _ H => ⟨a, rfl, by rw [eu]; exact R, H⟩)
theorem pno_11 : plainFor (⟨"java/lang/Record", "<init>", "()V"⟩ : MethodName) = true := by first | exact plainFor_of_name (by first | (simp [plainName, overriddenIn]; done) | decide +kernel) | decide +kernel
theorem efo_11 (m : MethodId) (x0 : Addr) : entryFrame m #[.ref x0] 1 = oF m 0 [.val (.ref x0)] [] := by (first | (simp [entryFrame, oF, mkF, argsToLocals, Value.category]; done) | rfl)
set_option maxRecDepth 65536 in
set_option maxHeartbeats 40000000 in
theorem mRec (l : Launch) (Z : State) (a0 : Array Value) (hw : ∀ d ∈ tables_1, d.before a0 Z = true) (a : Addr) (h0 : Heap) :
    oMeets l Z (⟨"java/lang/Record", "<init>", "()V"⟩ : MethodName) jdk_30_method_1_code 1 none ({ frames := 1, cells := 0, slots := 0, locals := 12 } : Room) #[.ref a] h0 (fun a => h0.size ≤ a) (fun v h => v = none ∧ h = h0) := by
  refine oMeets.of pno_11 (fun _ q => q) (fun E _ q => Nat.le_trans E.1 q) (Ls := [.val (.ref a)]) (fun m => efo_11 m a) ?_
  intro p e s m below meth c C hs
  refine K_aloadN C (pc := 0) d11_0 rfl (by first | rfl | assumption) ?_
  refine K_initO C (pc := 1) (tw54 hw) (tw28 hw) (tw29 hw) d11_1 rfl (by decide) (Nat.le_of_ble_eq_true rfl) ?_
  refine K_return C (pc := 4) d11_4 (by decide) (by decide) (fun _ _ => ⟨rfl, rfl⟩)
theorem pno_10 : plainFor (⟨"com/example/wardstream/wardstream/engine/RulesTokenizer$Token", "<init>", "(Lcom/example/wardstream/wardstream/engine/RulesTokenizer$Kind;Ljava/lang/String;II)V"⟩ : MethodName) = true := by first | exact plainFor_of_name (by first | (simp [plainName, overriddenIn]; done) | decide +kernel) | decide +kernel
theorem efo_10 (m : MethodId) (x0 : Addr) (x1 : Addr) (x2 : Addr) (x3 : Int32) (x4 : Int32) : entryFrame m #[.ref x0, .ref x1, .ref x2, .int x3, .int x4] 5 = oF m 0 [.val (.ref x0), .val (.ref x1), .val (.ref x2), .val (.int x3), .val (.int x4)] [] := by (first | (simp [entryFrame, oF, mkF, argsToLocals, Value.category]; done) | rfl)
set_option maxRecDepth 65536 in
set_option maxHeartbeats 40000000 in
theorem m10 (l : Launch) (Z : State) (a0 : Array Value) (hw : ∀ d ∈ tables_1, d.before a0 Z = true) (a : Addr) (w : Addr) (t : Addr) (i1 : Int32) (i2 : Int32) (h0 : Heap) (hya : Z.heap.size ≤ a) (X : Exa Z h0 a "com/example/wardstream/wardstream/engine/RulesTokenizer$Token") (F_kind : Fld Z h0 a "com/example/wardstream/wardstream/engine/RulesTokenizer$Token" "kind" "Lcom/example/wardstream/wardstream/engine/RulesTokenizer$Kind;" .null) (F_text : Fld Z h0 a "com/example/wardstream/wardstream/engine/RulesTokenizer$Token" "text" "Ljava/lang/String;" .null) (F_line : Fld Z h0 a "com/example/wardstream/wardstream/engine/RulesTokenizer$Token" "line" "I" (.int 0)) (F_column : Fld Z h0 a "com/example/wardstream/wardstream/engine/RulesTokenizer$Token" "column" "I" (.int 0)) :
    oMeets l Z (⟨"com/example/wardstream/wardstream/engine/RulesTokenizer$Token", "<init>", "(Lcom/example/wardstream/wardstream/engine/RulesTokenizer$Kind;Ljava/lang/String;II)V"⟩ : MethodName) prog_18_method_1_code 5 none ({ frames := 2, cells := 0, slots := 0, locals := 40 } : Room) #[.ref a, .ref w, .ref t, .int i1, .int i2] h0 (fun x => x = a ∨ h0.size ≤ x) (fun v h => v = none ∧ Exa Z h a "com/example/wardstream/wardstream/engine/RulesTokenizer$Token" ∧ Fld Z h a "com/example/wardstream/wardstream/engine/RulesTokenizer$Token" "kind" "Lcom/example/wardstream/wardstream/engine/RulesTokenizer$Kind;" (.ref w) ∧ Fld Z h a "com/example/wardstream/wardstream/engine/RulesTokenizer$Token" "text" "Ljava/lang/String;" (.ref t) ∧ Fld Z h a "com/example/wardstream/wardstream/engine/RulesTokenizer$Token" "line" "I" (.int i1) ∧ Fld Z h a "com/example/wardstream/wardstream/engine/RulesTokenizer$Token" "column" "I" (.int i2)) := by
  refine oMeets.of pno_10 (fun _ q => Or.inr q) (fun E x q => q.elim (fun r => r ▸ hya) (fun r => Nat.le_trans E.1 r)) (Ls := [.val (.ref a), .val (.ref w), .val (.ref t), .val (.int i1), .val (.int i2)]) (fun m => efo_10 m a w t i1 i2) ?_
  intro p e s m below meth c C hs
  refine K_aloadN C (pc := 0) d10_0 rfl (by first | rfl | assumption) ?_
  refine K_special C (pc := 1) (mRec l Z a0 hw a _) (tw49 hw) (tw50 hw) (tw52 hw) (tw53 hw) rfl (by decide) pdo_7 d10_1 (argsL := []) (rest := _) rfl rfl rfl rfl (fun a q r => C.new a (Nat.le_trans q r)) (by decide) (Nat.le_of_ble_eq_true rfl) (by decide) (by decide) ?_
  rintro _ h1 ⟨rfl, rfl⟩ -
  dsimp only [Option.toList, List.cons_append, List.nil_append]
  refine K_aloadN C (pc := 4) d10_4 rfl (by first | rfl | assumption) ?_
  refine K_aloadN C (pc := 5) d10_5 rfl (by first | rfl | assumption) ?_
  refine K_putF C (pc := 6) (tw55 hw) Via.refl F_kind X (Or.inr ⟨(tw56 hw), rfl, rfl⟩) (tw1 hw) (ty := (.object "com/example/wardstream/wardstream/engine/RulesTokenizer$Kind")) (by decide) rfl rfl (Or.inl rfl) d10_6 ?_
  intro k0 W0
  have Gkind_0 := Fld.same W0 F_kind
  have Gtext_0 := (Fld.other W0 F_text (Or.inr (slot_ne (Or.inr (tw58 hw)) (Or.inr (tw56 hw)) (by decide) (t := (.object "java/lang/String")) (t' := (.object "com/example/wardstream/wardstream/engine/RulesTokenizer$Kind")) (by decide) (by decide))))
  have Gline_0 := (Fld.other W0 F_line (Or.inr (slot_ne (Or.inr (tw60 hw)) (Or.inr (tw56 hw)) (by decide) (t := .int) (t' := (.object "com/example/wardstream/wardstream/engine/RulesTokenizer$Kind")) (by decide) (by decide))))
  have Gcolumn_0 := (Fld.other W0 F_column (Or.inr (slot_ne (Or.inr (tw62 hw)) (Or.inr (tw56 hw)) (by decide) (t := .int) (t' := (.object "com/example/wardstream/wardstream/engine/RulesTokenizer$Kind")) (by decide) (by decide))))
  have X_0 := X.wr W0
  refine K_aloadN C (pc := 9) d10_9 rfl (by first | rfl | assumption) ?_
  refine K_aloadN C (pc := 10) d10_10 rfl (by first | rfl | assumption) ?_
  refine K_putF C (pc := 11) (tw57 hw) Via.refl Gtext_0 X_0 (Or.inr ⟨(tw58 hw), rfl, rfl⟩) (tw1 hw) (ty := (.object "java/lang/String")) (by decide) rfl rfl (Or.inl rfl) d10_11 ?_
  intro k1 W1
  have Gkind_1 := (Fld.other W1 Gkind_0 (Or.inr (slot_ne (Or.inr (tw56 hw)) (Or.inr (tw58 hw)) (by decide) (t := (.object "com/example/wardstream/wardstream/engine/RulesTokenizer$Kind")) (t' := (.object "java/lang/String")) (by decide) (by decide))))
  have Gtext_1 := Fld.same W1 Gtext_0
  have Gline_1 := (Fld.other W1 Gline_0 (Or.inr (slot_ne (Or.inr (tw60 hw)) (Or.inr (tw58 hw)) (by decide) (t := .int) (t' := (.object "java/lang/String")) (by decide) (by decide))))
  have Gcolumn_1 := (Fld.other W1 Gcolumn_0 (Or.inr (slot_ne (Or.inr (tw62 hw)) (Or.inr (tw58 hw)) (by decide) (t := .int) (t' := (.object "java/lang/String")) (by decide) (by decide))))
  have X_1 := X_0.wr W1
  refine K_aloadN C (pc := 14) d10_14 rfl (by first | rfl | assumption) ?_
  refine K_iloadN C (pc := 15) d10_15 rfl ?_
  refine K_putF C (pc := 16) (tw59 hw) Via.refl Gline_1 X_1 (Or.inr ⟨(tw60 hw), rfl, rfl⟩) (tw1 hw) (ty := .int) (by decide) rfl rfl (Or.inl rfl) d10_16 ?_
  intro k2 W2
  have Gkind_2 := (Fld.other W2 Gkind_1 (Or.inr (slot_ne (Or.inr (tw56 hw)) (Or.inr (tw60 hw)) (by decide) (t := (.object "com/example/wardstream/wardstream/engine/RulesTokenizer$Kind")) (t' := .int) (by decide) (by decide))))
  have Gtext_2 := (Fld.other W2 Gtext_1 (Or.inr (slot_ne (Or.inr (tw58 hw)) (Or.inr (tw60 hw)) (by decide) (t := (.object "java/lang/String")) (t' := .int) (by decide) (by decide))))
  have Gline_2 := Fld.same W2 Gline_1
  have Gcolumn_2 := (Fld.other W2 Gcolumn_1 (Or.inr (slot_ne (Or.inr (tw62 hw)) (Or.inr (tw60 hw)) (by decide) (t := .int) (t' := .int) (by decide) (by decide))))
  have X_2 := X_1.wr W2
  refine K_aloadN C (pc := 19) d10_19 rfl (by first | rfl | assumption) ?_
  refine K_iload C (pc := 20) d10_20 rfl ?_
  refine K_putF C (pc := 22) (tw61 hw) Via.refl Gcolumn_2 X_2 (Or.inr ⟨(tw62 hw), rfl, rfl⟩) (tw1 hw) (ty := .int) (by decide) rfl rfl (Or.inl rfl) d10_22 ?_
  intro k3 W3
  have Gkind_3 := (Fld.other W3 Gkind_2 (Or.inr (slot_ne (Or.inr (tw56 hw)) (Or.inr (tw62 hw)) (by decide) (t := (.object "com/example/wardstream/wardstream/engine/RulesTokenizer$Kind")) (t' := .int) (by decide) (by decide))))
  have Gtext_3 := (Fld.other W3 Gtext_2 (Or.inr (slot_ne (Or.inr (tw58 hw)) (Or.inr (tw62 hw)) (by decide) (t := (.object "java/lang/String")) (t' := .int) (by decide) (by decide))))
  have Gline_3 := (Fld.other W3 Gline_2 (Or.inr (slot_ne (Or.inr (tw60 hw)) (Or.inr (tw62 hw)) (by decide) (t := .int) (t' := .int) (by decide) (by decide))))
  have Gcolumn_3 := Fld.same W3 Gcolumn_2
  have X_3 := X_2.wr W3
  refine K_return C (pc := 25) d10_25 (by decide) (by decide) (fun _ _ => ⟨rfl, X_3, Gkind_3, Gtext_3, Gline_3, Gcolumn_3⟩)
theorem pno_12 : plainFor (⟨"com/example/wardstream/wardstream/engine/RulesTokenizer$Token", "is", "(Lcom/example/wardstream/wardstream/engine/RulesTokenizer$Kind;Ljava/lang/String;)Z"⟩ : MethodName) = true := by first | exact plainFor_of_name (by first | (simp [plainName, overriddenIn]; done) | decide +kernel) | decide +kernel
theorem efo_12 (m : MethodId) (x0 : Addr) (x1 : Addr) (x2 : Addr) : entryFrame m #[.ref x0, .ref x1, .ref x2] 3 = oF m 0 [.val (.ref x0), .val (.ref x1), .val (.ref x2)] [] := by (first | (simp [entryFrame, oF, mkF, argsToLocals, Value.category]; done) | rfl)
set_option maxRecDepth 65536 in
set_option maxHeartbeats 40000000 in
theorem m12 (l : Launch) (Z : State) (a0 : Array Value) (hw : ∀ d ∈ tables_1, d.before a0 Z = true) (a w t w2 t2 : Addr) (us ws : List Int32) (h0 : Heap) (hlu : us.length < 2 ^ 31) (hlw : ws.length < 2 ^ 31) (su : ∀ u ∈ us, oSmall u) (sw : ∀ u ∈ ws, oSmall u) (F_kind : Fld Z h0 a "com/example/wardstream/wardstream/engine/RulesTokenizer$Token" "kind" "Lcom/example/wardstream/wardstream/engine/RulesTokenizer$Kind;" (.ref w)) (F_text : Fld Z h0 a "com/example/wardstream/wardstream/engine/RulesTokenizer$Token" "text" "Ljava/lang/String;" (.ref t)) (R1 : oStr Z h0 t us) (R2 : oStr Z h0 t2 ws) (cs : Int32) (hcs : cs ≠ 0) (S_COMPACT_STRINGS : Sta Z Z.heap "java/lang/String" "COMPACT_STRINGS" "Z" (.int cs)) :
    oMeets l Z (⟨"com/example/wardstream/wardstream/engine/RulesTokenizer$Token", "is", "(Lcom/example/wardstream/wardstream/engine/RulesTokenizer$Kind;Ljava/lang/String;)Z"⟩ : MethodName) prog_18_method_2_code 3 (some .boolean) ({ frames := 2, cells := 0, slots := 0, locals := 40 } : Room) #[.ref a, .ref w2, .ref t2] h0 (fun a => h0.size ≤ a) (fun v h => v = some (.int (if w = w2 ∧ us = ws then 1 else 0)) ∧ h = h0) := by
  refine oMeets.of pno_12 (fun _ q => q) (fun E _ q => Nat.le_trans E.1 q) (Ls := [.val (.ref a), .val (.ref w2), .val (.ref t2)]) (fun m => efo_12 m a w2 t2) ?_
  intro p e s m below meth c C hs
  refine K_aloadN C (pc := 0) d12_0 rfl (by first | rfl | assumption) ?_
  refine K_getF C (pc := 1) (tw55 hw) Via.refl F_kind d12_1 ?_
  refine K_aloadN C (pc := 4) d12_4 rfl (by first | rfl | assumption) ?_
  refine K_acmp C (pc := 5) 23 d12_5 (by first | rfl | assumption) (by first | rfl | assumption) (by decide) (by decide) (fun hc5 => ?_) (fun hc5 => ?_)
  · simp only [oA, Classical.not_not, Value.ref.injEq] at hc5
    refine K_iconst C (pc := 23) 0 d12_23 (by decide) ?_
    refine K_ireturn C (pc := 24) d12_24 (by simp) (z' := 0) (by decide) (by decide) (by decide) (fun _ _ => ⟨?_, rfl⟩)
    rw [if_neg]; exact fun q => hc5 q.1
  · simp only [oA, Classical.not_not, Value.ref.injEq] at hc5
    refine K_aloadN C (pc := 8) d12_8 rfl (by first | rfl | assumption) ?_
    refine K_getF C (pc := 9) (tw57 hw) Via.refl F_text d12_9 ?_
    refine K_aloadN C (pc := 12) d12_12 rfl (by first | rfl | assumption) ?_
    refine K_virtual C (pc := 13) (mEQ l Z a0 hw t t2 us ws _ hlu hlw su sw R1 R2 cs hcs S_COMPACT_STRINGS) (R1.1) (tw72 hw) (tw73 hw) (oNF (tw75 hw)) (tw75 hw) (tw74 hw) (tw15 hw) (tw76 hw) (by decide) pdo_8 d12_13 (argsL := [_]) (rest := _) rfl rfl rfl rfl (fun a q r => C.new a (Nat.le_trans q r)) (by decide) (Nat.le_of_ble_eq_true rfl) (by decide) (by decide) ?_
    rintro _ h8 ⟨rfl, rfl⟩ -
    dsimp only [Option.toList, List.cons_append, List.nil_append]
    refine K_if C (pc := 16) 23 d12_16 (by decide) (by decide) (fun hc16 => ?_) (fun hc16 => ?_)
    · simp only [oC, Classical.not_not] at hc16
      refine K_iconst C (pc := 23) 0 d12_23 (by decide) ?_
      by_cases qu : us = ws
      · exact absurd hc16 (by simp [qu])
      · refine K_ireturn C (pc := 24) d12_24 (by simp) (z' := 0) (by decide) (by decide) (by decide) (fun _ _ => ⟨?_, rfl⟩)
        rw [if_neg]; exact fun q => qu q.2
    · simp only [oC, Classical.not_not] at hc16
      refine K_iconst C (pc := 19) 1 d12_19 (by decide) ?_
      refine K_goto C (pc := 20) 24 d12_20 (by decide) (by decide) ?_
      by_cases qu : us = ws
      · refine K_ireturn C (pc := 24) d12_24 (by simp) (z' := 1) (by decide) (by decide) (by decide) (fun _ _ => ⟨?_, rfl⟩)
        rw [if_pos ⟨hc5, qu⟩]
      · exact absurd (by simp [qu]) hc16
theorem pno_0 : plainFor x = true := by first | exact plainFor_of_name (by first | (simp [plainName, overriddenIn]; done) | decide +kernel) | decide +kernel
theorem efo_0 (m : MethodId) (x0 : Int32) (x1 : Int32) (x2 : Int32) (x3 : Int32) (x4 : Int32) (x5 : Int32) : entryFrame m #[.int x0, .int x1, .int x2, .int x3, .int x4, .int x5] maxLocals = oF m 0 [.val (.int x0), .val (.int x1), .val (.int x2), .val (.int x3), .val (.int x4), .val (.int x5), .unset, .unset, .unset, .unset, .unset, .unset, .unset, .unset] [] := by (first | (simp [entryFrame, oF, mkF, argsToLocals, Value.category, maxLocals]; done) | rfl)
set_option maxRecDepth 65536 in
set_option maxHeartbeats 40000000 in
theorem m0 (l : Launch) (Z : State) (a0 : Array Value) (hw : ∀ d ∈ tables_1, d.before a0 Z = true) (p1 p2 p3 p4 p5 p6 : Int32) (h0 : Heap) (cs : Int32) (hcs : cs ≠ 0) (S_COMPACT_STRINGS : Sta Z Z.heap "java/lang/String" "COMPACT_STRINGS" "Z" (.int cs)) (w_WORD : Addr) (S_WORD : Sta Z Z.heap "com/example/wardstream/wardstream/engine/RulesTokenizer$Kind" "WORD" "Lcom/example/wardstream/wardstream/engine/RulesTokenizer$Kind;" (.ref w_WORD)) (w_NUMBER : Addr) (S_NUMBER : Sta Z Z.heap "com/example/wardstream/wardstream/engine/RulesTokenizer$Kind" "NUMBER" "Lcom/example/wardstream/wardstream/engine/RulesTokenizer$Kind;" (.ref w_NUMBER)) (w_DURATION : Addr) (S_DURATION : Sta Z Z.heap "com/example/wardstream/wardstream/engine/RulesTokenizer$Kind" "DURATION" "Lcom/example/wardstream/wardstream/engine/RulesTokenizer$Kind;" (.ref w_DURATION)) (w_STRING : Addr) (S_STRING : Sta Z Z.heap "com/example/wardstream/wardstream/engine/RulesTokenizer$Kind" "STRING" "Lcom/example/wardstream/wardstream/engine/RulesTokenizer$Kind;" (.ref w_STRING)) (w_SYMBOL : Addr) (S_SYMBOL : Sta Z Z.heap "com/example/wardstream/wardstream/engine/RulesTokenizer$Kind" "SYMBOL" "Lcom/example/wardstream/wardstream/engine/RulesTokenizer$Kind;" (.ref w_SYMBOL)) (w_END : Addr) (S_END : Sta Z Z.heap "com/example/wardstream/wardstream/engine/RulesTokenizer$Kind" "END" "Lcom/example/wardstream/wardstream/engine/RulesTokenizer$Kind;" (.ref w_END)) (n10 : w_NUMBER ≠ w_WORD) (n20 : w_DURATION ≠ w_WORD) (n21 : w_DURATION ≠ w_NUMBER) (n30 : w_STRING ≠ w_WORD) (n31 : w_STRING ≠ w_NUMBER) (n32 : w_STRING ≠ w_DURATION) (n40 : w_SYMBOL ≠ w_WORD) (n41 : w_SYMBOL ≠ w_NUMBER) (n42 : w_SYMBOL ≠ w_DURATION) (n43 : w_SYMBOL ≠ w_STRING) (n50 : w_END ≠ w_WORD) (n51 : w_END ≠ w_NUMBER) (n52 : w_END ≠ w_DURATION) (n53 : w_END ≠ w_STRING) (n54 : w_END ≠ w_SYMBOL) :
    oMeetsW l Z x code maxLocals ret room_1 #[.int p1, .int p2, .int p3, .int p4, .int p5, .int p6] h0 (fun a => h0.size ≤ a) (oH Z own_EL h0 []) (fun v _ _ => v = some (.int 1)) := by
  refine oMeetsW.of pno_0 (fun _ q => q) (fun E _ q => Nat.le_trans E.1 q) (Ls := [.val (.int p1), .val (.int p2), .val (.int p3), .val (.int p4), .val (.int p5), .val (.int p6), .unset, .unset, .unset, .unset, .unset, .unset, .unset, .unset]) (fun m => efo_0 m p1 p2 p3 p4 p5 p6) (oH.js (own_EW hw)) ?_
  intro p e s m below meth c C hs
  have J44 : ∀ ei et : Int32, own_k ei → oWP true p l e room_1 s m #[.int p1, .int p2, .int p3, .int p4, .int p5, .int p6] below meth c (fun a => h0.size ≤ a) (fun v _ _ => v = some (.int 1)) (oH Z own_EL h0 []) h0 0 0 (oF m 44 [.val (.int p1), .val (.int p2), .val (.int p3), .val (.int p4), .val (.int p5), .val (.int p6), .val (.int ((p1 &&& 7) % 6)), .val (.int ei), .unset, .unset, .unset, .unset, .unset, .unset] [.int et]) := by
    intro ei et he
    refine K_istore C (pc := 44) (Ls' := [_, _, _, _, _, _, _, _, _, _, _, _, _, _]) at_44 rfl ?_
    refine K_new C (pc := 46) (tw0 hw) (tw1 hw) (tw2 hw) at_46 (by decide) (by decide) ?_
    intro h1 q hq hPq E1 X1 D1
    have F_kind := D1 (Or.inr (tw56 hw)) (ty := (.object "com/example/wardstream/wardstream/engine/RulesTokenizer$Kind")) (by decide)
    have F_text := D1 (Or.inr (tw58 hw)) (ty := (.object "java/lang/String")) (by decide)
    have F_line := D1 (Or.inr (tw60 hw)) (ty := .int) (by decide)
    have F_column := D1 (Or.inr (tw62 hw)) (ty := .int) (by decide)
    refine K_J (fun _ H => H.ext E1) (oH.js (own_EW hw)) ?_
    refine K_dup C (pc := 49) at_49 rfl ?_
    refine K_iload C (pc := 50) at_50 rfl ?_
    refine K_static C (pc := 52) (m1 l Z a0 hw ((p1 &&& 7) % 6) _ w_WORD S_WORD w_NUMBER S_NUMBER w_DURATION S_DURATION w_STRING S_STRING w_SYMBOL S_SYMBOL w_END S_END) (tw3 hw) (tw4 hw) (tw5 hw) (tw6 hw) (by decide) pdo_9 at_52 (argsL := [_]) (rest := _) rfl rfl rfl rfl (fun a q r => C.new a (Nat.le_trans q r)) (by decide) (Nat.le_of_ble_eq_true rfl) (by decide) (by decide) ?_
    rintro _ h2 ⟨rfl, rfl⟩ -
    dsimp only [Option.toList, List.cons_append, List.nil_append]
    refine K_iloadN C (pc := 55) at_55 rfl ?_
    refine K_staticW C (pc := 56) (m2 l Z a0 hw p3 _ cs hcs S_COMPACT_STRINGS) (fun _ H => H) (tw10 hw) (tw11 hw) (tw5 hw) (tw12 hw) (by decide) pdo_10 at_56 (argsL := [_]) (rest := _) rfl rfl rfl rfl (fun a q r => C.new a (Nat.le_trans q r)) (by decide) (Nat.le_of_ble_eq_true rfl) (by decide) (by decide) ?_
    rintro _ h3 _ ⟨t1, rfl, Rt1, H56⟩ hK56
    have E56 := hK56.ext
    refine ⟨_, H56, oH.js (own_EW hw), ?_⟩
    dsimp only [Option.toList, List.cons_append, List.nil_append]
    replace X1 := X1.ext E56
    replace F_kind := F_kind.ext E56
    replace F_text := F_text.ext E56
    replace F_line := F_line.ext E56
    replace F_column := F_column.ext E56
    refine K_iload C (pc := 59) at_59 rfl ?_
    refine K_iload C (pc := 61) at_61 rfl ?_
    refine K_special C (pc := 63) (m10 l Z a0 hw q (own_kw w_WORD w_NUMBER w_DURATION w_STRING w_SYMBOL w_END ((p1 &&& 7) % 6)) t1 p5 p6 h3 (C.young q hPq) X1 F_kind F_text F_line F_column) (tw46 hw) (tw47 hw) (tw2 hw) (tw48 hw) rfl (by decide) pdo_11 at_63 (argsL := [_, _, _, _]) (rest := _) rfl rfl rfl rfl (fun x q r => r.elim (fun z => z ▸ hPq) (fun z => C.new x (Nat.le_trans q z))) (by decide) (Nat.le_of_ble_eq_true rfl) (by decide) (by decide) ?_
    rintro _ h4 ⟨rfl, X4, Gk, Gt, -⟩ hK4
    refine K_J (fun _ H => H.kpX hK4 (fun x r => r.imp (fun z => ⟨_, z ▸ X1, by decide, by decide⟩) id)) (oH.js (own_EW hw)) ?_
    replace Rt1 := Rt1.kpX X1 (by decide) (tw1 hw) hK4
    dsimp only [Option.toList, List.cons_append, List.nil_append]
    refine K_astore C (pc := 66) (Ls' := [_, _, _, _, _, _, _, _, _, _, _, _, _, _]) at_66 rfl rfl ?_
    refine K_aload C (pc := 68) at_68 rfl (by first | rfl | assumption) ?_
    refine K_iload C (pc := 70) at_70 rfl ?_
    refine K_static C (pc := 72) (m1 l Z a0 hw ei _ w_WORD S_WORD w_NUMBER S_NUMBER w_DURATION S_DURATION w_STRING S_STRING w_SYMBOL S_SYMBOL w_END S_END) (tw3 hw) (tw4 hw) (tw5 hw) (tw6 hw) (by decide) pdo_9 at_72 (argsL := [_]) (rest := _) rfl rfl rfl rfl (fun a q r => C.new a (Nat.le_trans q r)) (by decide) (Nat.le_of_ble_eq_true rfl) (by decide) (by decide) ?_
    rintro _ h5 ⟨rfl, rfl⟩ -
    dsimp only [Option.toList, List.cons_append, List.nil_append]
    refine K_iload C (pc := 75) at_75 rfl ?_
    refine K_staticW C (pc := 77) (m2 l Z a0 hw et _ cs hcs S_COMPACT_STRINGS) (fun _ H => H) (tw10 hw) (tw11 hw) (tw5 hw) (tw12 hw) (by decide) pdo_10 at_77 (argsL := [_]) (rest := _) rfl rfl rfl rfl (fun a q r => C.new a (Nat.le_trans q r)) (by decide) (Nat.le_of_ble_eq_true rfl) (by decide) (by decide) ?_
    rintro _ h6 _ ⟨t2, rfl, Rt2, H77⟩ hK77
    have E77 := hK77.ext
    refine ⟨_, H77, oH.js (own_EW hw), ?_⟩
    dsimp only [Option.toList, List.cons_append, List.nil_append]
    replace X4 := X4.ext E77
    replace Gk := Gk.ext E77
    replace Gt := Gt.ext E77
    replace Rt1 := Rt1.ext E77
    refine K_virtual C (pc := 80) (m12 l Z a0 hw q _ t1 _ t2 (own_us p3) (own_us et) _ (own_len _) (own_len _) (own_small _) (own_small _) Gk Gt Rt1 Rt2 cs hcs S_COMPACT_STRINGS) (X4) (tw65 hw) (tw66 hw) (oNF (tw68 hw)) (tw68 hw) (tw67 hw) (tw2 hw) (tw69 hw) (by decide) pdo_12 at_80 (argsL := [_, _]) (rest := _) rfl rfl rfl rfl (fun a q r => C.new a (Nat.le_trans q r)) (by decide) (Nat.le_of_ble_eq_true rfl) (by decide) (by decide) ?_
    rintro _ h7 ⟨rfl, rfl⟩ -
    dsimp only [Option.toList, List.cons_append, List.nil_append]
    obtain ⟨gt, egt, hgt1, hgt0⟩ : ∃ gt : Int32, (if own_kw w_WORD w_NUMBER w_DURATION w_STRING w_SYMBOL w_END ((p1 &&& 7) % 6) = own_kw w_WORD w_NUMBER w_DURATION w_STRING w_SYMBOL w_END ei ∧ own_us p3 = own_us et then (1 : Int32) else 0) = gt ∧ (((p1 &&& 7) % 6) = ei ∧ own_us p3 = own_us et → gt = 1) ∧ (¬ (((p1 &&& 7) % 6) = ei ∧ own_us p3 = own_us et) → gt = 0) := ⟨_, rfl, fun q => if_pos ⟨(own_kinj n10 n20 n21 n30 n31 n32 n40 n41 n42 n43 n50 n51 n52 n53 n54 (own_mod p1) he).mpr q.1, q.2⟩, fun q => if_neg fun r => q ⟨(own_kinj n10 n20 n21 n30 n31 n32 n40 n41 n42 n43 n50 n51 n52 n53 n54 (own_mod p1) he).mp r.1, r.2⟩⟩
    rw [egt]
    refine K_istore C (pc := 83) (Ls' := [_, _, _, _, _, _, _, _, _, _, _, _, _, _]) at_83 rfl ?_
    refine K_iloadN C (pc := 85) at_85 rfl ?_
    refine K_iconst C (pc := 86) 3 at_86 (by decide) ?_
    refine K_iand C (pc := 87) at_87 ?_
    refine K_istore C (pc := 88) (Ls' := [_, _, _, _, _, _, _, _, _, _, _, _, _, _]) at_88 rfl ?_
    refine K_iload C (pc := 90) at_90 rfl ?_
    refine K_iconst C (pc := 92) 3 at_92 (by decide) ?_
    refine K_iand C (pc := 93) at_93 ?_
    refine K_istore C (pc := 94) (Ls' := [_, _, _, _, _, _, _, _, _, _, _, _, _, _]) at_94 rfl ?_
    refine K_iload C (pc := 96) at_96 rfl ?_
    refine K_iload C (pc := 98) at_98 rfl ?_
    have J163 : own_us p3 = own_us et → oWP true p l e room_1 s m #[.int p1, .int p2, .int p3, .int p4, .int p5, .int p6] below meth c (fun a => h0.size ≤ a) (fun v _ _ => v = some (.int 1)) (oH Z own_EL h7 []) h7 13 28 (oF m 163 [.val (.int p1), .val (.int p2), .val (.int p3), .val (.int p4), .val (.int p5), .val (.int p6), .val (.int ((p1 &&& 7) % 6)), .val (.int ei), .val (.int et), .val (.ref q), .val (.int gt), .val (.int (p3 &&& 3)), .val (.int (et &&& 3)), .unset] []) := by
      intro hU
      refine K_iconst C (pc := 163) 1 at_163 (by decide) ?_
      refine K_goto C (pc := 164) 168 at_164 (by decide) (by decide) ?_
      refine K_istore C (pc := 168) (Ls' := [_, _, _, _, _, _, _, _, _, _, _, _, _, _]) at_168 rfl ?_
      refine K_iload C (pc := 170) at_170 rfl ?_
      refine K_iload C (pc := 172) at_172 rfl ?_
      refine K_iload C (pc := 174) at_174 rfl ?_
      refine K_icmp C (pc := 176) 188 at_176 (by decide) (by decide) (fun hc176 => ?_) (fun hc176 => ?_)
      · simp only [oC, Classical.not_not] at hc176
        refine K_iconst C (pc := 188) 0 at_188 (by decide) ?_
        refine K_icmp C (pc := 189) 196 at_189 (by decide) (by decide) (fun hc189 => ?_) (fun hc189 => ?_)
        · simp only [oC, Classical.not_not] at hc189
          exact absurd (hgt0 (fun z => hc176 z.1)) hc189
        · simp only [oC, Classical.not_not] at hc189
          refine K_iconst C (pc := 192) 1 at_192 (by decide) ?_
          refine K_goto C (pc := 193) 197 at_193 (by decide) (by decide) ?_
          refine K_ireturn C (pc := 197) at_197 (by simp) (by first | rfl | decide) (by decide) (by decide) (fun _ _ => rfl)
      · simp only [oC, Classical.not_not] at hc176
        refine K_iload C (pc := 179) at_179 rfl ?_
        refine K_if C (pc := 181) 188 at_181 (by decide) (by decide) (fun hc181 => ?_) (fun hc181 => ?_)
        · simp only [oC, Classical.not_not] at hc181
          exact absurd hc181 (by decide)
        · simp only [oC, Classical.not_not] at hc181
          refine K_iconst C (pc := 184) 1 at_184 (by decide) ?_
          refine K_goto C (pc := 185) 189 at_185 (by decide) (by decide) ?_
          refine K_icmp C (pc := 189) 196 at_189 (by decide) (by decide) (fun hc189 => ?_) (fun hc189 => ?_)
          · simp only [oC, Classical.not_not] at hc189
            exact absurd (hgt1 ⟨hc176, hU⟩) hc189
          · simp only [oC, Classical.not_not] at hc189
            refine K_iconst C (pc := 192) 1 at_192 (by decide) ?_
            refine K_goto C (pc := 193) 197 at_193 (by decide) (by decide) ?_
            refine K_ireturn C (pc := 197) at_197 (by simp) (by first | rfl | decide) (by decide) (by decide) (fun _ _ => rfl)
    have J167 : ¬ own_us p3 = own_us et → oWP true p l e room_1 s m #[.int p1, .int p2, .int p3, .int p4, .int p5, .int p6] below meth c (fun a => h0.size ≤ a) (fun v _ _ => v = some (.int 1)) (oH Z own_EL h7 []) h7 13 28 (oF m 167 [.val (.int p1), .val (.int p2), .val (.int p3), .val (.int p4), .val (.int p5), .val (.int p6), .val (.int ((p1 &&& 7) % 6)), .val (.int ei), .val (.int et), .val (.ref q), .val (.int gt), .val (.int (p3 &&& 3)), .val (.int (et &&& 3)), .unset] []) := by
      intro hU
      refine K_iconst C (pc := 167) 0 at_167 (by decide) ?_
      refine K_istore C (pc := 168) (Ls' := [_, _, _, _, _, _, _, _, _, _, _, _, _, _]) at_168 rfl ?_
      refine K_iload C (pc := 170) at_170 rfl ?_
      refine K_iload C (pc := 172) at_172 rfl ?_
      refine K_iload C (pc := 174) at_174 rfl ?_
      refine K_icmp C (pc := 176) 188 at_176 (by decide) (by decide) (fun hc176 => ?_) (fun hc176 => ?_)
      · simp only [oC, Classical.not_not] at hc176
        refine K_iconst C (pc := 188) 0 at_188 (by decide) ?_
        refine K_icmp C (pc := 189) 196 at_189 (by decide) (by decide) (fun hc189 => ?_) (fun hc189 => ?_)
        · simp only [oC, Classical.not_not] at hc189
          exact absurd (hgt0 (fun z => hc176 z.1)) hc189
        · simp only [oC, Classical.not_not] at hc189
          refine K_iconst C (pc := 192) 1 at_192 (by decide) ?_
          refine K_goto C (pc := 193) 197 at_193 (by decide) (by decide) ?_
          refine K_ireturn C (pc := 197) at_197 (by simp) (by first | rfl | decide) (by decide) (by decide) (fun _ _ => rfl)
      · simp only [oC, Classical.not_not] at hc176
        refine K_iload C (pc := 179) at_179 rfl ?_
        refine K_if C (pc := 181) 188 at_181 (by decide) (by decide) (fun hc181 => ?_) (fun hc181 => ?_)
        · simp only [oC, Classical.not_not] at hc181
          refine K_iconst C (pc := 188) 0 at_188 (by decide) ?_
          refine K_icmp C (pc := 189) 196 at_189 (by decide) (by decide) (fun hc189 => ?_) (fun hc189 => ?_)
          · simp only [oC, Classical.not_not] at hc189
            exact absurd (hgt0 (fun z => hU z.2)) hc189
          · simp only [oC, Classical.not_not] at hc189
            refine K_iconst C (pc := 192) 1 at_192 (by decide) ?_
            refine K_goto C (pc := 193) 197 at_193 (by decide) (by decide) ?_
            refine K_ireturn C (pc := 197) at_197 (by simp) (by first | rfl | decide) (by decide) (by decide) (fun _ _ => rfl)
        · simp only [oC, Classical.not_not] at hc181
          exact absurd hc181 (by simp)
    refine K_icmp C (pc := 100) 167 at_100 (by decide) (by decide) (fun hc100 => ?_) (fun hc100 => ?_)
    · simp only [oC, Classical.not_not] at hc100
      exact J167 (fun z => hc100 ((own_iff p3 et).mp z).1)
    · simp only [oC, Classical.not_not] at hc100
      refine K_iload C (pc := 103) at_103 rfl ?_
      refine K_iconst C (pc := 105) 1 at_105 (by decide) ?_
      refine K_icmp C (pc := 106) 123 at_106 (by decide) (by decide) (fun hc106 => ?_) (fun hc106 => ?_)
      · simp only [oC, Classical.not_not] at hc106
        refine K_iload C (pc := 123) at_123 rfl ?_
        refine K_iconst C (pc := 125) 2 at_125 (by decide) ?_
        refine K_icmp C (pc := 126) 143 at_126 (by decide) (by decide) (fun hc126 => ?_) (fun hc126 => ?_)
        · simp only [oC, Classical.not_not] at hc126
          refine K_iload C (pc := 143) at_143 rfl ?_
          refine K_iconst C (pc := 145) 3 at_145 (by decide) ?_
          refine K_icmp C (pc := 146) 163 at_146 (by decide) (by decide) (fun hc146 => ?_) (fun hc146 => ?_)
          · simp only [oC, Classical.not_not] at hc146
            exact J163 ((own_iff p3 et).mpr ⟨hc100, Or.inl hc106, Or.inl hc126, Or.inl hc146⟩)
          · simp only [oC, Classical.not_not] at hc146
            refine K_iloadN C (pc := 149) at_149 rfl ?_
            refine K_iconst C (pc := 150) 2 at_150 (by decide) ?_
            refine K_static C (pc := 151) (m3 l Z a0 hw p3 2 _) (tw17 hw) (tw18 hw) (tw5 hw) (tw19 hw) (by decide) pdo_5 at_151 (argsL := [_, _]) (rest := _) rfl rfl rfl rfl (fun a q r => C.new a (Nat.le_trans q r)) (by decide) (Nat.le_of_ble_eq_true rfl) (by decide) (by decide) ?_
            rintro _ h8 ⟨rfl, rfl⟩ -
            dsimp only [Option.toList, List.cons_append, List.nil_append]
            refine K_iload C (pc := 154) at_154 rfl ?_
            refine K_iconst C (pc := 156) 2 at_156 (by decide) ?_
            refine K_static C (pc := 157) (m3 l Z a0 hw et 2 _) (tw17 hw) (tw18 hw) (tw5 hw) (tw19 hw) (by decide) pdo_5 at_157 (argsL := [_, _]) (rest := _) rfl rfl rfl rfl (fun a q r => C.new a (Nat.le_trans q r)) (by decide) (Nat.le_of_ble_eq_true rfl) (by decide) (by decide) ?_
            rintro _ h8 ⟨rfl, rfl⟩ -
            dsimp only [Option.toList, List.cons_append, List.nil_append]
            refine K_icmp C (pc := 160) 167 at_160 (by decide) (by decide) (fun hc160 => ?_) (fun hc160 => ?_)
            · simp only [oC, Classical.not_not] at hc160
              exact J167 (fun z => ((own_iff p3 et).mp z).2.2.2.elim hc146 hc160)
            · simp only [oC, Classical.not_not] at hc160
              exact J163 ((own_iff p3 et).mpr ⟨hc100, Or.inl hc106, Or.inl hc126, Or.inr hc160⟩)
        · simp only [oC, Classical.not_not] at hc126
          refine K_iloadN C (pc := 129) at_129 rfl ?_
          refine K_iconst C (pc := 130) 1 at_130 (by decide) ?_
          refine K_static C (pc := 131) (m3 l Z a0 hw p3 1 _) (tw17 hw) (tw18 hw) (tw5 hw) (tw19 hw) (by decide) pdo_5 at_131 (argsL := [_, _]) (rest := _) rfl rfl rfl rfl (fun a q r => C.new a (Nat.le_trans q r)) (by decide) (Nat.le_of_ble_eq_true rfl) (by decide) (by decide) ?_
          rintro _ h8 ⟨rfl, rfl⟩ -
          dsimp only [Option.toList, List.cons_append, List.nil_append]
          refine K_iload C (pc := 134) at_134 rfl ?_
          refine K_iconst C (pc := 136) 1 at_136 (by decide) ?_
          refine K_static C (pc := 137) (m3 l Z a0 hw et 1 _) (tw17 hw) (tw18 hw) (tw5 hw) (tw19 hw) (by decide) pdo_5 at_137 (argsL := [_, _]) (rest := _) rfl rfl rfl rfl (fun a q r => C.new a (Nat.le_trans q r)) (by decide) (Nat.le_of_ble_eq_true rfl) (by decide) (by decide) ?_
          rintro _ h8 ⟨rfl, rfl⟩ -
          dsimp only [Option.toList, List.cons_append, List.nil_append]
          refine K_icmp C (pc := 140) 167 at_140 (by decide) (by decide) (fun hc140 => ?_) (fun hc140 => ?_)
          · simp only [oC, Classical.not_not] at hc140
            exact J167 (fun z => ((own_iff p3 et).mp z).2.2.1.elim hc126 hc140)
          · simp only [oC, Classical.not_not] at hc140
            refine K_iload C (pc := 143) at_143 rfl ?_
            refine K_iconst C (pc := 145) 3 at_145 (by decide) ?_
            refine K_icmp C (pc := 146) 163 at_146 (by decide) (by decide) (fun hc146 => ?_) (fun hc146 => ?_)
            · simp only [oC, Classical.not_not] at hc146
              exact J163 ((own_iff p3 et).mpr ⟨hc100, Or.inl hc106, Or.inr hc140, Or.inl hc146⟩)
            · simp only [oC, Classical.not_not] at hc146
              refine K_iloadN C (pc := 149) at_149 rfl ?_
              refine K_iconst C (pc := 150) 2 at_150 (by decide) ?_
              refine K_static C (pc := 151) (m3 l Z a0 hw p3 2 _) (tw17 hw) (tw18 hw) (tw5 hw) (tw19 hw) (by decide) pdo_5 at_151 (argsL := [_, _]) (rest := _) rfl rfl rfl rfl (fun a q r => C.new a (Nat.le_trans q r)) (by decide) (Nat.le_of_ble_eq_true rfl) (by decide) (by decide) ?_
              rintro _ h8 ⟨rfl, rfl⟩ -
              dsimp only [Option.toList, List.cons_append, List.nil_append]
              refine K_iload C (pc := 154) at_154 rfl ?_
              refine K_iconst C (pc := 156) 2 at_156 (by decide) ?_
              refine K_static C (pc := 157) (m3 l Z a0 hw et 2 _) (tw17 hw) (tw18 hw) (tw5 hw) (tw19 hw) (by decide) pdo_5 at_157 (argsL := [_, _]) (rest := _) rfl rfl rfl rfl (fun a q r => C.new a (Nat.le_trans q r)) (by decide) (Nat.le_of_ble_eq_true rfl) (by decide) (by decide) ?_
              rintro _ h8 ⟨rfl, rfl⟩ -
              dsimp only [Option.toList, List.cons_append, List.nil_append]
              refine K_icmp C (pc := 160) 167 at_160 (by decide) (by decide) (fun hc160 => ?_) (fun hc160 => ?_)
              · simp only [oC, Classical.not_not] at hc160
                exact J167 (fun z => ((own_iff p3 et).mp z).2.2.2.elim hc146 hc160)
              · simp only [oC, Classical.not_not] at hc160
                exact J163 ((own_iff p3 et).mpr ⟨hc100, Or.inl hc106, Or.inr hc140, Or.inr hc160⟩)
      · simp only [oC, Classical.not_not] at hc106
        refine K_iloadN C (pc := 109) at_109 rfl ?_
        refine K_iconst C (pc := 110) 0 at_110 (by decide) ?_
        refine K_static C (pc := 111) (m3 l Z a0 hw p3 0 _) (tw17 hw) (tw18 hw) (tw5 hw) (tw19 hw) (by decide) pdo_5 at_111 (argsL := [_, _]) (rest := _) rfl rfl rfl rfl (fun a q r => C.new a (Nat.le_trans q r)) (by decide) (Nat.le_of_ble_eq_true rfl) (by decide) (by decide) ?_
        rintro _ h8 ⟨rfl, rfl⟩ -
        dsimp only [Option.toList, List.cons_append, List.nil_append]
        refine K_iload C (pc := 114) at_114 rfl ?_
        refine K_iconst C (pc := 116) 0 at_116 (by decide) ?_
        refine K_static C (pc := 117) (m3 l Z a0 hw et 0 _) (tw17 hw) (tw18 hw) (tw5 hw) (tw19 hw) (by decide) pdo_5 at_117 (argsL := [_, _]) (rest := _) rfl rfl rfl rfl (fun a q r => C.new a (Nat.le_trans q r)) (by decide) (Nat.le_of_ble_eq_true rfl) (by decide) (by decide) ?_
        rintro _ h8 ⟨rfl, rfl⟩ -
        dsimp only [Option.toList, List.cons_append, List.nil_append]
        refine K_icmp C (pc := 120) 167 at_120 (by decide) (by decide) (fun hc120 => ?_) (fun hc120 => ?_)
        · simp only [oC, Classical.not_not] at hc120
          exact J167 (fun z => ((own_iff p3 et).mp z).2.1.elim hc106 hc120)
        · simp only [oC, Classical.not_not] at hc120
          refine K_iload C (pc := 123) at_123 rfl ?_
          refine K_iconst C (pc := 125) 2 at_125 (by decide) ?_
          refine K_icmp C (pc := 126) 143 at_126 (by decide) (by decide) (fun hc126 => ?_) (fun hc126 => ?_)
          · simp only [oC, Classical.not_not] at hc126
            refine K_iload C (pc := 143) at_143 rfl ?_
            refine K_iconst C (pc := 145) 3 at_145 (by decide) ?_
            refine K_icmp C (pc := 146) 163 at_146 (by decide) (by decide) (fun hc146 => ?_) (fun hc146 => ?_)
            · simp only [oC, Classical.not_not] at hc146
              exact J163 ((own_iff p3 et).mpr ⟨hc100, Or.inr hc120, Or.inl hc126, Or.inl hc146⟩)
            · simp only [oC, Classical.not_not] at hc146
              refine K_iloadN C (pc := 149) at_149 rfl ?_
              refine K_iconst C (pc := 150) 2 at_150 (by decide) ?_
              refine K_static C (pc := 151) (m3 l Z a0 hw p3 2 _) (tw17 hw) (tw18 hw) (tw5 hw) (tw19 hw) (by decide) pdo_5 at_151 (argsL := [_, _]) (rest := _) rfl rfl rfl rfl (fun a q r => C.new a (Nat.le_trans q r)) (by decide) (Nat.le_of_ble_eq_true rfl) (by decide) (by decide) ?_
              rintro _ h8 ⟨rfl, rfl⟩ -
              dsimp only [Option.toList, List.cons_append, List.nil_append]
              refine K_iload C (pc := 154) at_154 rfl ?_
              refine K_iconst C (pc := 156) 2 at_156 (by decide) ?_
              refine K_static C (pc := 157) (m3 l Z a0 hw et 2 _) (tw17 hw) (tw18 hw) (tw5 hw) (tw19 hw) (by decide) pdo_5 at_157 (argsL := [_, _]) (rest := _) rfl rfl rfl rfl (fun a q r => C.new a (Nat.le_trans q r)) (by decide) (Nat.le_of_ble_eq_true rfl) (by decide) (by decide) ?_
              rintro _ h8 ⟨rfl, rfl⟩ -
              dsimp only [Option.toList, List.cons_append, List.nil_append]
              refine K_icmp C (pc := 160) 167 at_160 (by decide) (by decide) (fun hc160 => ?_) (fun hc160 => ?_)
              · simp only [oC, Classical.not_not] at hc160
                exact J167 (fun z => ((own_iff p3 et).mp z).2.2.2.elim hc146 hc160)
              · simp only [oC, Classical.not_not] at hc160
                exact J163 ((own_iff p3 et).mpr ⟨hc100, Or.inr hc120, Or.inl hc126, Or.inr hc160⟩)
          · simp only [oC, Classical.not_not] at hc126
            refine K_iloadN C (pc := 129) at_129 rfl ?_
            refine K_iconst C (pc := 130) 1 at_130 (by decide) ?_
            refine K_static C (pc := 131) (m3 l Z a0 hw p3 1 _) (tw17 hw) (tw18 hw) (tw5 hw) (tw19 hw) (by decide) pdo_5 at_131 (argsL := [_, _]) (rest := _) rfl rfl rfl rfl (fun a q r => C.new a (Nat.le_trans q r)) (by decide) (Nat.le_of_ble_eq_true rfl) (by decide) (by decide) ?_
            rintro _ h8 ⟨rfl, rfl⟩ -
            dsimp only [Option.toList, List.cons_append, List.nil_append]
            refine K_iload C (pc := 134) at_134 rfl ?_
            refine K_iconst C (pc := 136) 1 at_136 (by decide) ?_
            refine K_static C (pc := 137) (m3 l Z a0 hw et 1 _) (tw17 hw) (tw18 hw) (tw5 hw) (tw19 hw) (by decide) pdo_5 at_137 (argsL := [_, _]) (rest := _) rfl rfl rfl rfl (fun a q r => C.new a (Nat.le_trans q r)) (by decide) (Nat.le_of_ble_eq_true rfl) (by decide) (by decide) ?_
            rintro _ h8 ⟨rfl, rfl⟩ -
            dsimp only [Option.toList, List.cons_append, List.nil_append]
            refine K_icmp C (pc := 140) 167 at_140 (by decide) (by decide) (fun hc140 => ?_) (fun hc140 => ?_)
            · simp only [oC, Classical.not_not] at hc140
              exact J167 (fun z => ((own_iff p3 et).mp z).2.2.1.elim hc126 hc140)
            · simp only [oC, Classical.not_not] at hc140
              refine K_iload C (pc := 143) at_143 rfl ?_
              refine K_iconst C (pc := 145) 3 at_145 (by decide) ?_
              refine K_icmp C (pc := 146) 163 at_146 (by decide) (by decide) (fun hc146 => ?_) (fun hc146 => ?_)
              · simp only [oC, Classical.not_not] at hc146
                exact J163 ((own_iff p3 et).mpr ⟨hc100, Or.inr hc120, Or.inr hc140, Or.inl hc146⟩)
              · simp only [oC, Classical.not_not] at hc146
                refine K_iloadN C (pc := 149) at_149 rfl ?_
                refine K_iconst C (pc := 150) 2 at_150 (by decide) ?_
                refine K_static C (pc := 151) (m3 l Z a0 hw p3 2 _) (tw17 hw) (tw18 hw) (tw5 hw) (tw19 hw) (by decide) pdo_5 at_151 (argsL := [_, _]) (rest := _) rfl rfl rfl rfl (fun a q r => C.new a (Nat.le_trans q r)) (by decide) (Nat.le_of_ble_eq_true rfl) (by decide) (by decide) ?_
                rintro _ h8 ⟨rfl, rfl⟩ -
                dsimp only [Option.toList, List.cons_append, List.nil_append]
                refine K_iload C (pc := 154) at_154 rfl ?_
                refine K_iconst C (pc := 156) 2 at_156 (by decide) ?_
                refine K_static C (pc := 157) (m3 l Z a0 hw et 2 _) (tw17 hw) (tw18 hw) (tw5 hw) (tw19 hw) (by decide) pdo_5 at_157 (argsL := [_, _]) (rest := _) rfl rfl rfl rfl (fun a q r => C.new a (Nat.le_trans q r)) (by decide) (Nat.le_of_ble_eq_true rfl) (by decide) (by decide) ?_
                rintro _ h8 ⟨rfl, rfl⟩ -
                dsimp only [Option.toList, List.cons_append, List.nil_append]
                refine K_icmp C (pc := 160) 167 at_160 (by decide) (by decide) (fun hc160 => ?_) (fun hc160 => ?_)
                · simp only [oC, Classical.not_not] at hc160
                  exact J167 (fun z => ((own_iff p3 et).mp z).2.2.2.elim hc146 hc160)
                · simp only [oC, Classical.not_not] at hc160
                  exact J163 ((own_iff p3 et).mpr ⟨hc100, Or.inr hc120, Or.inr hc140, Or.inr hc160⟩)
  refine K_iloadN C (pc := 0) at_0 rfl ?_
  refine K_bipush C (pc := 1) 7 at_1 (by decide) ?_
  refine K_iand C (pc := 3) at_3 ?_
  refine K_bipush C (pc := 4) 6 at_4 (by decide) ?_
  refine K_irem C (pc := 6) at_6 (by decide) ?_
  refine K_istore C (pc := 7) (Ls' := [_, _, _, _, _, _, _, _, _, _, _, _, _, _]) at_7 rfl ?_
  refine K_iloadN C (pc := 9) at_9 rfl ?_
  refine K_iconst C (pc := 10) 3 at_10 (by decide) ?_
  refine K_iushr C (pc := 11) at_11 ?_
  refine K_iconst C (pc := 12) 1 at_12 (by decide) ?_
  refine K_iand C (pc := 13) at_13 ?_
  refine K_if C (pc := 14) 22 at_14 (by decide) (by decide) (fun hc14 => ?_) (fun hc14 => ?_)
  · refine K_iloadN C (pc := 22) at_22 rfl ?_
    refine K_bipush C (pc := 23) 7 at_23 (by decide) ?_
    refine K_iand C (pc := 25) at_25 ?_
    refine K_bipush C (pc := 26) 6 at_26 (by decide) ?_
    refine K_irem C (pc := 28) at_28 (by decide) ?_
    refine K_istore C (pc := 29) (Ls' := [_, _, _, _, _, _, _, _, _, _, _, _, _, _]) at_29 rfl ?_
    refine K_iloadN C (pc := 31) at_31 rfl ?_
    refine K_iconst C (pc := 32) 4 at_32 (by decide) ?_
    refine K_iushr C (pc := 33) at_33 ?_
    refine K_iconst C (pc := 34) 1 at_34 (by decide) ?_
    refine K_iand C (pc := 35) at_35 ?_
    refine K_if C (pc := 36) 43 at_36 (by decide) (by decide) (fun hc36 => ?_) (fun hc36 => ?_)
    · refine K_iloadN C (pc := 43) at_43 rfl ?_
      exact J44 _ _ (own_mod p2)
    · refine K_iloadN C (pc := 39) at_39 rfl ?_
      refine K_goto C (pc := 40) 44 at_40 (by decide) (by decide) ?_
      exact J44 _ _ (own_mod p2)
  · refine K_iload C (pc := 17) at_17 rfl ?_
    refine K_goto C (pc := 19) 29 at_19 (by decide) (by decide) ?_
    refine K_istore C (pc := 29) (Ls' := [_, _, _, _, _, _, _, _, _, _, _, _, _, _]) at_29 rfl ?_
    refine K_iloadN C (pc := 31) at_31 rfl ?_
    refine K_iconst C (pc := 32) 4 at_32 (by decide) ?_
    refine K_iushr C (pc := 33) at_33 ?_
    refine K_iconst C (pc := 34) 1 at_34 (by decide) ?_
    refine K_iand C (pc := 35) at_35 ?_
    refine K_if C (pc := 36) 43 at_36 (by decide) (by decide) (fun hc36 => ?_) (fun hc36 => ?_)
    · refine K_iloadN C (pc := 43) at_43 rfl ?_
      exact J44 _ _ (own_mod p1)
    · refine K_iloadN C (pc := 39) at_39 rfl ?_
      refine K_goto C (pc := 40) 44 at_40 (by decide) (by decide) ?_
      exact J44 _ _ (own_mod p1)
theorem oNe0 {args : Array Value} {s : State} {t : Term} {i k : Int32} (h : (Jvm.Cond.not (Jvm.Cond.eq t (.int k))).value args s none s [] = some true) (ht : t.eval args s none [] s = some (.int i)) : i ≠ k := by
  rintro rfl
  simp [Cond.value, ht, Term.eval] at h
set_option maxRecDepth 65536 in
set_option maxHeartbeats 40000000 in
theorem comes_1 {Post : Tables → Env → Array Value → State → Outcome → State → Prop} (hpost : ∀ tb e args s v u, (limb_1_1.after args s (.returned v) u = true ∧ limb_1_2.after args s (.returned v) u = true ∧ True) → ReturnedEndW s (.returned v) u (Jvm.fieldLocs frame_1_writes args s ++ Jvm.arrayLocs frame_1_arrays args s ++ Jvm.staticLocs frame_1_statics s) 24 1152 → Post tb e args s (.returned v) u) :
    ArmFor flags0 classFile x code maxLocals ret World_1 tables_1 room_1 Calls_1 rest_1 Pre_1 Post := by
  intro l hfl _ _ p e ha hc hk s m args below hf hA hF happ hP
  obtain ⟨hcalls, hrest, hpre⟩ := hP
  obtain ⟨-, -, -, hnamed, -, -, -, hat⟩ := (Spec.applies_iff hf).mp happ
  obtain ⟨hg, hn⟩ := and_e (Cond.before_iff.mp (show (Jvm.Cond.and given_1 narrow_1).before args s = true from hpre))
  obtain ⟨gc, r0⟩ := and_e hg
  obtain ⟨g0, r1⟩ := and_e r0
  obtain ⟨g1, r2⟩ := and_e r1
  obtain ⟨g2, r3⟩ := and_e r2
  obtain ⟨g3, r4⟩ := and_e r3
  obtain ⟨g4, g5⟩ := and_e r4
  obtain ⟨w0, w1, w2, w3, w4, w5, rfl⟩ : ∃ w0 w1 w2 w3 w4 w5 : Value, args = #[w0, w1, w2, w3, w4, w5] := by
    have hs : args.size = 6 := by simpa [Cond.value, given_1] using gc
    obtain ⟨L⟩ := args
    match L, hs with
    | [w0, w1, w2, w3, w4, w5], _ => exact ⟨w0, w1, w2, w3, w4, w5, rfl⟩
  have hw := fun d (hd : d ∈ tables_1) => atoms_spec (ws := Jvm.Cond.code x code maxLocals ret :: tables_1) hat d (List.mem_cons_of_mem _ hd)
  obtain ⟨i0, ei0⟩ := is_v g0
  obtain rfl : w0 = (.int i0) := Option.some.inj ei0
  obtain ⟨i1, ei1⟩ := is_v g1
  obtain rfl : w1 = (.int i1) := Option.some.inj ei1
  obtain ⟨i2, ei2⟩ := is_v g2
  obtain rfl : w2 = (.int i2) := Option.some.inj ei2
  obtain ⟨i3, ei3⟩ := is_v g3
  obtain rfl : w3 = (.int i3) := Option.some.inj ei3
  obtain ⟨i4, ei4⟩ := is_v g4
  obtain rfl : w4 = (.int i4) := Option.some.inj ei4
  obtain ⟨i5, ei5⟩ := is_v g5
  obtain rfl : w5 = (.int i5) := Option.some.inj ei5
  obtain ⟨nc0, nr0⟩ := and_e hn
  obtain ⟨nc1, nr1⟩ := and_e nr0
  obtain ⟨nc2, nr2⟩ := and_e nr1
  obtain ⟨nc3, nr3⟩ := and_e nr2
  obtain ⟨nc4, nr4⟩ := and_e nr3
  obtain ⟨nc5, nr5⟩ := and_e nr4
  obtain ⟨nc6, nr6⟩ := and_e nr5
  obtain ⟨nc7, nr7⟩ := and_e nr6
  obtain ⟨nc8, nr8⟩ := and_e nr7
  obtain ⟨nc9, nr9⟩ := and_e nr8
  obtain ⟨nc10, nc11⟩ := and_e nr9
  obtain ⟨w_WORD, e_WORD⟩ := exa_v nc0
  have X_WORD := Exa.start e_WORD nc0
  have S_WORD := Sta.start e_WORD (Or.inr ⟨(tw8 hw), (tw9 hw)⟩)
  obtain ⟨w_STRING, e_STRING⟩ := exa_v nc1
  have X_STRING := Exa.start e_STRING nc1
  have S_STRING := Sta.start e_STRING (Or.inr ⟨(tw8 hw), (tw64 hw)⟩)
  obtain ⟨w_SYMBOL, e_SYMBOL⟩ := exa_v nc4
  have X_SYMBOL := Exa.start e_SYMBOL nc4
  have S_SYMBOL := Sta.start e_SYMBOL (Or.inr ⟨(tw8 hw), (tw71 hw)⟩)
  obtain ⟨w_END, e_END⟩ := exa_v nc5
  have X_END := Exa.start e_END nc5
  have S_END := Sta.start e_END (Or.inr ⟨(tw8 hw), (tw83 hw)⟩)
  obtain ⟨w_NUMBER, e_NUMBER⟩ := exa_v nc6
  have X_NUMBER := Exa.start e_NUMBER nc6
  have S_NUMBER := Sta.start e_NUMBER (Or.inr ⟨(tw8 hw), (tw85 hw)⟩)
  obtain ⟨w_DURATION, e_DURATION⟩ := exa_v nc7
  have X_DURATION := Exa.start e_DURATION nc7
  have S_DURATION := Sta.start e_DURATION (Or.inr ⟨(tw8 hw), (tw90 hw)⟩)
  have Fordinal_WORD := Fld.start ((fld_at e_WORD).symm.trans (oEqI nc2))
  have Fordinal_STRING := Fld.start ((fld_at e_STRING).symm.trans (oEqI nc3))
  have Fordinal_NUMBER := Fld.start ((fld_at e_NUMBER).symm.trans (oEqI nc8))
  have Fordinal_DURATION := Fld.start ((fld_at e_DURATION).symm.trans (oEqI nc9))
  have Fordinal_SYMBOL := Fld.start ((fld_at e_SYMBOL).symm.trans (oEqI nc10))
  have Fordinal_END := Fld.start ((fld_at e_END).symm.trans (oEqI nc11))
  obtain ⟨hsets, hown0⟩ := atoms_of _ (rest_1_c_eq ▸ (show rest_1_c.before _ s = true from hrest))
  obtain ⟨cs, ecs⟩ := is_v (Cond.before_iff.mp (hsets _ (List.mem_of_getElem? (i := 1) rfl)))
  have S_COMPACT_STRINGS := Sta.start ecs (Or.inl (hsets _ (List.mem_of_getElem? (i := 0) rfl)))
  have hcs := oNe0 (Cond.before_iff.mp (hsets _ (List.mem_of_getElem? (i := 2) rfl))) ecs
  have hJ0 : oH s own_EL s.heap [] s.vm := ⟨State.Warmed39.refl s, CHv.start (own_EW hw) hcalls.1 (hsets _ (List.mem_of_getElem? (i := 2) rfl)) (tw35 hw) (tw14 hw), by simp⟩
  have n10 : w_NUMBER ≠ w_WORD := Fld.ne Fordinal_NUMBER Fordinal_WORD (by simp)
  have n20 : w_DURATION ≠ w_WORD := Fld.ne Fordinal_DURATION Fordinal_WORD (by simp)
  have n21 : w_DURATION ≠ w_NUMBER := Fld.ne Fordinal_DURATION Fordinal_NUMBER (by simp)
  have n30 : w_STRING ≠ w_WORD := Fld.ne Fordinal_STRING Fordinal_WORD (by simp)
  have n31 : w_STRING ≠ w_NUMBER := Fld.ne Fordinal_STRING Fordinal_NUMBER (by simp)
  have n32 : w_STRING ≠ w_DURATION := Fld.ne Fordinal_STRING Fordinal_DURATION (by simp)
  have n40 : w_SYMBOL ≠ w_WORD := Fld.ne Fordinal_SYMBOL Fordinal_WORD (by simp)
  have n41 : w_SYMBOL ≠ w_NUMBER := Fld.ne Fordinal_SYMBOL Fordinal_NUMBER (by simp)
  have n42 : w_SYMBOL ≠ w_DURATION := Fld.ne Fordinal_SYMBOL Fordinal_DURATION (by simp)
  have n43 : w_SYMBOL ≠ w_STRING := Fld.ne Fordinal_SYMBOL Fordinal_STRING (by simp)
  have n50 : w_END ≠ w_WORD := Fld.ne Fordinal_END Fordinal_WORD (by simp)
  have n51 : w_END ≠ w_NUMBER := Fld.ne Fordinal_END Fordinal_NUMBER (by simp)
  have n52 : w_END ≠ w_DURATION := Fld.ne Fordinal_END Fordinal_DURATION (by simp)
  have n53 : w_END ≠ w_STRING := Fld.ne Fordinal_END Fordinal_STRING (by simp)
  have n54 : w_END ≠ w_SYMBOL := Fld.ne Fordinal_END Fordinal_SYMBOL (by simp)
  obtain ⟨nn, oo, h1, h2, h3, _, L, rfl, ⟨rfl, N, -⟩, hq⟩ := (m0 l s _ hw i0 i1 i2 i3 i4 i5 s.heap cs hcs S_COMPACT_STRINGS w_WORD S_WORD w_NUMBER S_NUMBER w_DURATION S_DURATION w_STRING S_STRING w_SYMBOL S_SYMBOL w_END S_END n10 n20 n21 n30 n31 n32 n40 n41 n42 n43 n50 n51 n52 n53 n54) ⟨Nat.le_refl _, fun _ _ q => q⟩ tables_1 p e ha hc hk s m _ below hf ((Spec.applies_iff_loose hf).mp happ).1 ⟨rfl, State.Warmed39.refl s, rfl, hJ0⟩ trivial
  refine ⟨nn, _, h1, h2, h3, hpost _ _ _ _ _ _ ⟨Cond.after_iff.mpr rfl, Cond.after_iff.mpr (eq_i res_at (Term.int_eval (1)) rfl), trivial⟩ ⟨hq.1, hq.2.1, hq.2.2.1, (hq.2.2.2.sift fun y hy => Or.inr (N y hy)).mono (by decide) (by decide)⟩⟩
theorem main_1_1 : Claimed_1_1 := comes_1 fun _ _ _ _ _ _ h hF => ⟨h.1, hF⟩
theorem main_1_2 : Claimed_1_2 := comes_1 fun _ _ _ _ _ _ h hF => ⟨h.2.1, hF⟩
end Jvm.Pilot.@@N@@
namespace Jvm.Pilot.@@N@@
open Jvm Jvm.ClassFile Sem Op Lib Jvm.Free Jvm.Stand Jvm.Pilot.@@N@@.Jvm.D
/-! MADE BY PROGRAM (witnessworld.py) out of the Statement's table words and the real class files: 23 classes; the members and pool entries that the words name. The judged class is class 1, her method 4. -/
namespace start1
open Jvm.ClassFile
def u (s : String) : CpInfo := .utf8 (stringToUtf16 s)
/-- a pool by its gaps: so many unusable entries, then the entry; so many at the end -/
def gap : Nat → List CpInfo → List CpInfo
  | 0, r => r
  | n + 1, r => .unusable :: gap n r
def poolList (es : List (Nat × CpInfo)) (last : Nat) : List CpInfo := es.foldr (fun e r => gap e.1 (e.2 :: r)) (gap last [])
def pool (es : List (Nat × CpInfo)) (last : Nat) : Array CpInfo := ⟨poolList es last⟩
def fileOf (pool : Array CpInfo) (this : Nat) (attrs : Array Attribute := #[]) (ms : Array MethodInfo := #[]) (fl : Nat := 33) (sup : Nat := 0) (ifs : Array Nat := #[]) (fds : Array FieldInfo := #[]) : ClassFile where
  minorVersion := 0
  majorVersion := 65
  constantPool := pool
  accessFlags := fl
  thisClass := this
  superClass := sup
  interfaces := ifs
  fields := fds
  methods := ms
  attributes := attrs
def plain (name : String) (sup : Option ClassId) : Class where
  name := name
  kind := .ordinary
  loader := none
  accessFlags := 33
  super := sup
  interfaces := #[]
  cf := none
  fields := #[]
  methods := #[]
  instanceTypes := #[]
  staticTypes := #[]
  resolved := #[]
  callSites := []
  init := .initialized
  statics := none
  mirror := none

def pool0 : Array CpInfo := pool [(5, u "<init>"), (0, u "()V"), (1, .class_ 10), (1, u "java/lang/Object")] 113

def k0c0 : Code := { maxStack := 0, maxLocals := 1, code := object_method_1_code, exceptionTable := #[], attributes := #[] }
def k0m0 : Method := { name := "<init>", desc := "()V", sig := { parameters := [], returnType := none }, accessFlags := 1, code := some k0c0 }
/-- java/lang/Object -/
def k0 : Class := { plain "java/lang/Object" none with
  accessFlags := 33
  interfaces := #[]
  cf := some (fileOf pool0 8 #[] #[{ accessFlags := 1, nameIndex := 5, descriptorIndex := 6, attributes := #[] }] 33 0 #[] #[])
  fields := #[]
  methods := #[k0m0]
  instanceTypes := #[]
  staticTypes := #[]
  resolved := Array.replicate 124 none
  statics := none }

def pool1 : Array CpInfo := pool [(2, .class_ 4), (1, u "java/lang/Object"), (0, u "<init>"), (0, u "()V"), (0, .fieldref 8 9), (0, .class_ 10), (0, .nameAndType 11 12), (0, u "com/example/wardstream/wardstream/engine/RulesTokenizer$Kind"), (0, u "WORD"), (0, u "Lcom/example/wardstream/wardstream/engine/RulesTokenizer$Kind;"), (0, .fieldref 8 14), (0, .nameAndType 15 12), (0, u "NUMBER"), (0, .fieldref 8 17), (0, .nameAndType 18 12), (0, u "DURATION"), (0, .fieldref 8 20), (0, .nameAndType 21 12), (0, u "STRING"), (0, .fieldref 8 23), (0, .nameAndType 24 12), (0, u "SYMBOL"), (0, .fieldref 8 26), (0, .nameAndType 27 12), (0, u "END"), (0, .class_ 29), (0, u "java/lang/String"), (0, .methodref 28 31), (0, .nameAndType 5 32), (0, u "([C)V"), (0, .methodref 34 35), (0, .class_ 36), (0, .nameAndType 37 38), (0, u "com/example/wardstream/wardstream/engine/TokenIsPinLaw"), (0, u "ch"), (0, u "(II)C"), (0, .class_ 40), (0, u "com/example/wardstream/wardstream/engine/RulesTokenizer$Token"), (0, .methodref 34 42), (0, .nameAndType 43 44), (0, u "kindAt"), (0, u "(I)Lcom/example/wardstream/wardstream/engine/RulesTokenizer$Kind;"), (0, .methodref 34 46), (0, .nameAndType 47 48), (0, u "build"), (0, u "(I)Ljava/lang/String;"), (0, .methodref 39 50), (0, .nameAndType 5 51), (0, u "(Lcom/example/wardstream/wardstream/engine/RulesTokenizer$Kind;Ljava/lang/String;II)V"), (0, .methodref 39 53), (0, .nameAndType 54 55), (0, u "is"), (0, u "(Lcom/example/wardstream/wardstream/engine/RulesTokenizer$Kind;Ljava/lang/String;)Z"), (3, u "law"), (0, u "(IIIIII)Z")] 7

def k1m0 : Method := { name := "<init>", desc := "()V", sig := { parameters := [], returnType := none }, accessFlags := 1, code := none }
def k1c1 : Code := { maxStack := 2, maxLocals := 1, code := method_2_code, exceptionTable := #[], attributes := #[] }
def k1m1 : Method := { name := "kindAt", desc := "(I)Lcom/example/wardstream/wardstream/engine/RulesTokenizer$Kind;", sig := { parameters := [.int], returnType := some (.object "com/example/wardstream/wardstream/engine/RulesTokenizer$Kind") }, accessFlags := 10, code := some k1c1 }
def k1c2 : Code := { maxStack := 4, maxLocals := 2, code := method_3_code, exceptionTable := #[], attributes := #[] }
def k1m2 : Method := { name := "ch", desc := "(II)C", sig := { parameters := [.int, .int], returnType := some .char }, accessFlags := 10, code := some k1c2 }
def k1c3 : Code := { maxStack := 7, maxLocals := 2, code := method_4_code, exceptionTable := #[], attributes := #[] }
def k1m3 : Method := { name := "build", desc := "(I)Ljava/lang/String;", sig := { parameters := [.int], returnType := some (.object "java/lang/String") }, accessFlags := 10, code := some k1c3 }
def k1c4 : Code := { maxStack := 6, maxLocals := 14, code := code, exceptionTable := #[], attributes := #[] }
def k1m4 : Method := { name := "law", desc := "(IIIIII)Z", sig := { parameters := [.int, .int, .int, .int, .int, .int], returnType := some .boolean }, accessFlags := 9, code := some k1c4 }
/-- com/example/wardstream/wardstream/engine/TokenIsPinLaw -/
def k1 : Class := { plain "com/example/wardstream/wardstream/engine/TokenIsPinLaw" (some 0) with
  accessFlags := 49
  interfaces := #[]
  cf := some (fileOf pool1 34 #[] #[{ accessFlags := 1, nameIndex := 5, descriptorIndex := 6, attributes := #[] }, { accessFlags := 10, nameIndex := 43, descriptorIndex := 44, attributes := #[] }, { accessFlags := 10, nameIndex := 37, descriptorIndex := 38, attributes := #[] }, { accessFlags := 10, nameIndex := 47, descriptorIndex := 48, attributes := #[] }, { accessFlags := 9, nameIndex := 59, descriptorIndex := 60, attributes := #[] }] 49 2 #[] #[])
  fields := #[]
  methods := #[k1m0, k1m1, k1m2, k1m3, k1m4]
  instanceTypes := #[]
  staticTypes := #[]
  resolved := Array.replicate 68 none
  statics := none }

def pool2 : Array CpInfo := pool [(1, .methodref 2 3), (0, .class_ 4), (0, .nameAndType 5 6), (0, u "java/lang/Object"), (0, u "<init>"), (0, u "()V"), (0, .class_ 8), (0, u "java/lang/Record")] 13

def k2c0 : Code := { maxStack := 1, maxLocals := 1, code := jdk_30_method_1_code, exceptionTable := #[], attributes := #[] }
def k2m0 : Method := { name := "<init>", desc := "()V", sig := { parameters := [], returnType := none }, accessFlags := 4, code := some k2c0 }
/-- java/lang/Record -/
def k2 : Class := { plain "java/lang/Record" (some 0) with
  accessFlags := 1057
  interfaces := #[]
  cf := some (fileOf pool2 7 #[] #[{ accessFlags := 4, nameIndex := 5, descriptorIndex := 6, attributes := #[] }] 1057 2 #[] #[])
  fields := #[]
  methods := #[k2m0]
  instanceTypes := #[]
  staticTypes := #[]
  resolved := Array.replicate 22 none
  statics := none }

def pool3 : Array CpInfo := pool [(1, .methodref 2 3), (0, .class_ 4), (0, .nameAndType 5 6), (0, u "java/lang/Record"), (0, u "<init>"), (0, u "()V"), (0, .fieldref 8 9), (0, .class_ 10), (0, .nameAndType 11 12), (0, u "com/example/wardstream/wardstream/engine/RulesTokenizer$Token"), (0, u "kind"), (0, u "Lcom/example/wardstream/wardstream/engine/RulesTokenizer$Kind;"), (0, .fieldref 8 14), (0, .nameAndType 15 16), (0, u "text"), (0, u "Ljava/lang/String;"), (0, .fieldref 8 18), (0, .nameAndType 19 20), (0, u "line"), (0, u "I"), (0, .fieldref 8 22), (0, .nameAndType 23 20), (0, u "column"), (0, .methodref 25 26), (0, .class_ 27), (0, .nameAndType 28 29), (0, u "java/lang/String"), (0, u "equals"), (0, u "(Ljava/lang/Object;)Z"), (31, u "(Lcom/example/wardstream/wardstream/engine/RulesTokenizer$Kind;Ljava/lang/String;II)V"), (3, u "is"), (0, u "(Lcom/example/wardstream/wardstream/engine/RulesTokenizer$Kind;Ljava/lang/String;)Z"), (7, .class_ 75), (0, u "com/example/wardstream/wardstream/engine/RulesTokenizer")] 33

def k3c0 : Code := { maxStack := 2, maxLocals := 5, code := prog_18_method_1_code, exceptionTable := #[], attributes := #[] }
def k3m0 : Method := { name := "<init>", desc := "(Lcom/example/wardstream/wardstream/engine/RulesTokenizer$Kind;Ljava/lang/String;II)V", sig := { parameters := [(.object "com/example/wardstream/wardstream/engine/RulesTokenizer$Kind"), (.object "java/lang/String"), .int, .int], returnType := none }, accessFlags := 0, code := some k3c0 }
def k3c1 : Code := { maxStack := 2, maxLocals := 3, code := prog_18_method_2_code, exceptionTable := #[], attributes := #[] }
def k3m1 : Method := { name := "is", desc := "(Lcom/example/wardstream/wardstream/engine/RulesTokenizer$Kind;Ljava/lang/String;)Z", sig := { parameters := [(.object "com/example/wardstream/wardstream/engine/RulesTokenizer$Kind"), (.object "java/lang/String")], returnType := some .boolean }, accessFlags := 0, code := some k3c1 }
/-- com/example/wardstream/wardstream/engine/RulesTokenizer$Token -/
def k3 : Class := { plain "com/example/wardstream/wardstream/engine/RulesTokenizer$Token" (some 2) with
  accessFlags := 48
  interfaces := #[]
  cf := some (fileOf pool3 8 #[.nestHost 74] #[{ accessFlags := 0, nameIndex := 5, descriptorIndex := 61, attributes := #[] }, { accessFlags := 0, nameIndex := 65, descriptorIndex := 66, attributes := #[] }] 48 2 #[] #[{ accessFlags := 18, nameIndex := 11, descriptorIndex := 12, attributes := #[] }, { accessFlags := 18, nameIndex := 15, descriptorIndex := 16, attributes := #[] }, { accessFlags := 18, nameIndex := 19, descriptorIndex := 20, attributes := #[] }, { accessFlags := 18, nameIndex := 23, descriptorIndex := 20, attributes := #[] }])
  fields := #[{ name := "kind", type := (.object "com/example/wardstream/wardstream/engine/RulesTokenizer$Kind"), accessFlags := 18, slot := 0, constantValue := 0 }, { name := "text", type := (.object "java/lang/String"), accessFlags := 18, slot := 1, constantValue := 0 }, { name := "line", type := .int, accessFlags := 18, slot := 2, constantValue := 0 }, { name := "column", type := .int, accessFlags := 18, slot := 3, constantValue := 0 }]
  methods := #[k3m0, k3m1]
  instanceTypes := #[(.object "com/example/wardstream/wardstream/engine/RulesTokenizer$Kind"), (.object "java/lang/String"), .int, .int]
  staticTypes := #[]
  resolved := Array.replicate 109 none
  statics := none }

def pool4 : Array CpInfo := pool [(1, .class_ 2), (0, u "java/lang/constant/Constable"), (0, .class_ 4), (0, u "java/lang/Object")] 6

/-- java/lang/constant/Constable -/
def k4 : Class := { plain "java/lang/constant/Constable" (some 0) with
  accessFlags := 1537
  interfaces := #[]
  cf := some (fileOf pool4 1 #[] #[] 1537 3 #[] #[])
  fields := #[]
  methods := #[]
  instanceTypes := #[]
  staticTypes := #[]
  resolved := Array.replicate 11 none
  statics := none }

def pool5 : Array CpInfo := pool [(1, .class_ 2), (0, u "java/lang/Comparable"), (0, .class_ 4), (0, u "java/lang/Object")] 7

/-- java/lang/Comparable -/
def k5 : Class := { plain "java/lang/Comparable" (some 0) with
  accessFlags := 1537
  interfaces := #[]
  cf := some (fileOf pool5 1 #[] #[] 1537 3 #[] #[])
  fields := #[]
  methods := #[]
  instanceTypes := #[]
  staticTypes := #[]
  resolved := Array.replicate 12 none
  statics := none }

def pool6 : Array CpInfo := pool [(1, .class_ 2), (0, u "java/io/Serializable"), (0, .class_ 4), (0, u "java/lang/Object")] 2

/-- java/io/Serializable -/
def k6 : Class := { plain "java/io/Serializable" (some 0) with
  accessFlags := 1537
  interfaces := #[]
  cf := some (fileOf pool6 1 #[] #[] 1537 3 #[] #[])
  fields := #[]
  methods := #[]
  instanceTypes := #[]
  staticTypes := #[]
  resolved := Array.replicate 7 none
  statics := none }

def pool7 : Array CpInfo := pool [(2, .class_ 4), (1, u "java/lang/Enum"), (0, u "name"), (0, u "Ljava/lang/String;"), (2, u "ordinal"), (0, u "I"), (1, .class_ 14), (1, u "java/lang/Object"), (4, u "hash"), (86, .class_ 108), (1, u "java/lang/Enum$EnumDesc"), (2, .class_ 112), (0, u "java/lang/constant/Constable"), (0, .class_ 114), (0, u "java/lang/Comparable"), (0, .class_ 116), (0, u "java/io/Serializable")] 87

/-- java/lang/Enum -/
def k7 : Class := { plain "java/lang/Enum" (some 0) with
  accessFlags := 1057
  interfaces := #[4, 5, 6]
  cf := some (fileOf pool7 2 #[.nestMembers #[106]] #[] 1057 12 #[111, 113, 115] #[{ accessFlags := 18, nameIndex := 5, descriptorIndex := 6, attributes := #[] }, { accessFlags := 18, nameIndex := 9, descriptorIndex := 10, attributes := #[] }, { accessFlags := 2, nameIndex := 19, descriptorIndex := 10, attributes := #[] }])
  fields := #[{ name := "name", type := (.object "java/lang/String"), accessFlags := 18, slot := 0, constantValue := 0 }, { name := "ordinal", type := .int, accessFlags := 18, slot := 1, constantValue := 0 }, { name := "hash", type := .int, accessFlags := 2, slot := 2, constantValue := 0 }]
  methods := #[]
  instanceTypes := #[(.object "java/lang/String"), .int, .int]
  staticTypes := #[]
  resolved := Array.replicate 204 none
  statics := none }

def pool8 : Array CpInfo := pool [(1, .class_ 2), (0, u "com/example/wardstream/wardstream/engine/RulesTokenizer$Kind"), (2, u "WORD"), (0, u "Lcom/example/wardstream/wardstream/engine/RulesTokenizer$Kind;"), (2, u "NUMBER"), (2, u "DURATION"), (2, u "STRING"), (2, u "SYMBOL"), (2, u "END"), (2, u "$VALUES"), (0, u "[Lcom/example/wardstream/wardstream/engine/RulesTokenizer$Kind;"), (6, .class_ 34), (1, u "java/lang/Enum"), (29, .class_ 65), (0, u "com/example/wardstream/wardstream/engine/RulesTokenizer")] 2

/-- com/example/wardstream/wardstream/engine/RulesTokenizer$Kind -/
def k8 : Class := { plain "com/example/wardstream/wardstream/engine/RulesTokenizer$Kind" (some 7) with
  accessFlags := 16432
  interfaces := #[]
  cf := some (fileOf pool8 1 #[.nestHost 64] #[] 16432 32 #[] #[{ accessFlags := 16409, nameIndex := 5, descriptorIndex := 6, attributes := #[] }, { accessFlags := 16409, nameIndex := 9, descriptorIndex := 6, attributes := #[] }, { accessFlags := 16409, nameIndex := 12, descriptorIndex := 6, attributes := #[] }, { accessFlags := 16409, nameIndex := 15, descriptorIndex := 6, attributes := #[] }, { accessFlags := 16409, nameIndex := 18, descriptorIndex := 6, attributes := #[] }, { accessFlags := 16409, nameIndex := 21, descriptorIndex := 6, attributes := #[] }, { accessFlags := 4122, nameIndex := 24, descriptorIndex := 25, attributes := #[] }])
  fields := #[{ name := "WORD", type := (.object "com/example/wardstream/wardstream/engine/RulesTokenizer$Kind"), accessFlags := 16409, slot := 0, constantValue := 0 }, { name := "NUMBER", type := (.object "com/example/wardstream/wardstream/engine/RulesTokenizer$Kind"), accessFlags := 16409, slot := 1, constantValue := 0 }, { name := "DURATION", type := (.object "com/example/wardstream/wardstream/engine/RulesTokenizer$Kind"), accessFlags := 16409, slot := 2, constantValue := 0 }, { name := "STRING", type := (.object "com/example/wardstream/wardstream/engine/RulesTokenizer$Kind"), accessFlags := 16409, slot := 3, constantValue := 0 }, { name := "SYMBOL", type := (.object "com/example/wardstream/wardstream/engine/RulesTokenizer$Kind"), accessFlags := 16409, slot := 4, constantValue := 0 }, { name := "END", type := (.object "com/example/wardstream/wardstream/engine/RulesTokenizer$Kind"), accessFlags := 16409, slot := 5, constantValue := 0 }, { name := "$VALUES", type := (.array (.object "com/example/wardstream/wardstream/engine/RulesTokenizer$Kind")), accessFlags := 4122, slot := 6, constantValue := 0 }]
  methods := #[]
  instanceTypes := #[(.object "java/lang/String"), .int, .int]
  staticTypes := #[(.object "com/example/wardstream/wardstream/engine/RulesTokenizer$Kind"), (.object "com/example/wardstream/wardstream/engine/RulesTokenizer$Kind"), (.object "com/example/wardstream/wardstream/engine/RulesTokenizer$Kind"), (.object "com/example/wardstream/wardstream/engine/RulesTokenizer$Kind"), (.object "com/example/wardstream/wardstream/engine/RulesTokenizer$Kind"), (.object "com/example/wardstream/wardstream/engine/RulesTokenizer$Kind"), (.array (.object "com/example/wardstream/wardstream/engine/RulesTokenizer$Kind"))]
  resolved := Array.replicate 68 none
  statics := some 0 }

def pool9 : Array CpInfo := pool [(2, .class_ 4), (1, u "java/lang/CharSequence"), (42, .class_ 48), (0, u "java/lang/CharSequence$1CodePointIterator"), (10, .class_ 60), (0, u "java/lang/CharSequence$1CharIterator"), (5, .class_ 67), (0, u "java/lang/Object")] 63

/-- java/lang/CharSequence -/
def k9 : Class := { plain "java/lang/CharSequence" (some 0) with
  accessFlags := 1537
  interfaces := #[]
  cf := some (fileOf pool9 2 #[.nestMembers #[47, 59]] #[] 1537 66 #[] #[])
  fields := #[]
  methods := #[]
  instanceTypes := #[]
  staticTypes := #[]
  resolved := Array.replicate 131 none
  statics := none }

def pool10 : Array CpInfo := pool [(1, .class_ 2), (0, u "java/lang/constant/ConstantDesc"), (0, .class_ 4), (0, u "java/lang/Object")] 32

/-- java/lang/constant/ConstantDesc -/
def k10 : Class := { plain "java/lang/constant/ConstantDesc" (some 0) with
  accessFlags := 1537
  interfaces := #[]
  cf := some (fileOf pool10 1 #[] #[] 1537 3 #[] #[])
  fields := #[]
  methods := #[]
  instanceTypes := #[]
  staticTypes := #[]
  resolved := Array.replicate 37 none
  statics := none }

def pool11 : Array CpInfo := pool [(1, .methodref 2 3), (0, .class_ 4), (0, .nameAndType 5 6), (0, u "java/lang/Object"), (0, u "<init>"), (0, u "()V"), (0, .string 8), (0, u ""), (0, .fieldref 10 11), (0, .class_ 12), (0, .nameAndType 13 14), (0, u "java/lang/String"), (0, u "value"), (0, u "[B"), (0, .fieldref 10 16), (0, .nameAndType 17 18), (0, u "coder"), (0, u "B"), (2, u "hash"), (0, u "I"), (2, u "hashIsZero"), (0, u "Z"), (0, .methodref 10 28), (0, .nameAndType 5 29), (0, u "([CIILjava/lang/Void;)V"), (8, .fieldref 10 39), (0, .nameAndType 40 26), (0, u "COMPACT_STRINGS"), (1, .class_ 44), (1, u "java/lang/StringUTF16"), (0, u "compress"), (1, .methodref 42 48), (0, .nameAndType 49 50), (0, u "coderFromArrayLen"), (0, u "([BI)B"), (56, .class_ 109), (1, u "java/lang/StringLatin1"), (67, .methodref 42 178), (0, .nameAndType 45 179), (0, u "([CII)[B"), (361, .methodref 107 542), (0, .nameAndType 543 544), (0, u "equals"), (0, u "([B[B)Z"), (28, u "(Ljava/lang/Object;)Z"), (1, .class_ 576), (0, u "java/lang/CharSequence"), (22, u "CASE_INSENSITIVE_ORDER"), (0, u "Ljava/util/Comparator;"), (409, u "([C)V"), (90, u "serialPersistentFields"), (0, u "[Ljava/io/ObjectStreamField;"), (0, .class_ 1104), (0, u "java/lang/String$CaseInsensitiveComparator"), (1, .class_ 1107), (0, u "java/io/Serializable"), (0, .class_ 1109), (0, u "java/lang/Comparable"), (0, .class_ 1111), (0, u "java/lang/constant/Constable"), (0, .class_ 1113), (0, u "java/lang/constant/ConstantDesc"), (2, u "serialVersionUID"), (0, u "J"), (3, u "REPL"), (0, u "C"), (2, u "LATIN1"), (1, u "UTF16")] 323

def k11m0 : Method := { name := "<init>", desc := "()V", sig := { parameters := [], returnType := none }, accessFlags := 1, code := none }
def k11c1 : Code := { maxStack := 5, maxLocals := 2, code := jdk_42_method_3_code, exceptionTable := #[], attributes := #[] }
def k11m1 : Method := { name := "<init>", desc := "([C)V", sig := { parameters := [(.array .char)], returnType := none }, accessFlags := 1, code := some k11c1 }
def k11c2 : Code := { maxStack := 2, maxLocals := 3, code := jdk_42_method_66_code, exceptionTable := #[], attributes := #[] }
def k11m2 : Method := { name := "equals", desc := "(Ljava/lang/Object;)Z", sig := { parameters := [(.object "java/lang/Object")], returnType := some .boolean }, accessFlags := 1, code := some k11c2 }
def k11c3 : Code := { maxStack := 4, maxLocals := 6, code := jdk_42_method_149_code, exceptionTable := #[], attributes := #[] }
def k11m3 : Method := { name := "<init>", desc := "([CIILjava/lang/Void;)V", sig := { parameters := [(.array .char), .int, .int, (.object "java/lang/Void")], returnType := none }, accessFlags := 2, code := some k11c3 }
/-- java/lang/String -/
def k11 : Class := { plain "java/lang/String" (some 0) with
  accessFlags := 49
  interfaces := #[6, 5, 9, 4, 10]
  cf := some (fileOf pool11 10 #[.nestMembers #[1103]] #[{ accessFlags := 1, nameIndex := 5, descriptorIndex := 6, attributes := #[] }, { accessFlags := 1, nameIndex := 5, descriptorIndex := 1010, attributes := #[] }, { accessFlags := 1, nameIndex := 543, descriptorIndex := 573, attributes := #[] }, { accessFlags := 2, nameIndex := 5, descriptorIndex := 29, attributes := #[] }] 49 2 #[1106, 1108, 575, 1110, 1112] #[{ accessFlags := 18, nameIndex := 13, descriptorIndex := 14, attributes := #[] }, { accessFlags := 18, nameIndex := 17, descriptorIndex := 18, attributes := #[] }, { accessFlags := 2, nameIndex := 21, descriptorIndex := 22, attributes := #[] }, { accessFlags := 2, nameIndex := 25, descriptorIndex := 26, attributes := #[] }, { accessFlags := 26, nameIndex := 1116, descriptorIndex := 1117, attributes := #[] }, { accessFlags := 24, nameIndex := 40, descriptorIndex := 26, attributes := #[] }, { accessFlags := 26, nameIndex := 1101, descriptorIndex := 1102, attributes := #[] }, { accessFlags := 26, nameIndex := 1121, descriptorIndex := 1122, attributes := #[] }, { accessFlags := 25, nameIndex := 599, descriptorIndex := 600, attributes := #[] }, { accessFlags := 24, nameIndex := 1125, descriptorIndex := 18, attributes := #[] }, { accessFlags := 24, nameIndex := 1127, descriptorIndex := 18, attributes := #[] }])
  fields := #[{ name := "value", type := (.array .byte), accessFlags := 18, slot := 0, constantValue := 0 }, { name := "coder", type := .byte, accessFlags := 18, slot := 1, constantValue := 0 }, { name := "hash", type := .int, accessFlags := 2, slot := 2, constantValue := 0 }, { name := "hashIsZero", type := .boolean, accessFlags := 2, slot := 3, constantValue := 0 }, { name := "serialVersionUID", type := .long, accessFlags := 26, slot := 0, constantValue := 0 }, { name := "COMPACT_STRINGS", type := .boolean, accessFlags := 24, slot := 1, constantValue := 0 }, { name := "serialPersistentFields", type := (.array (.object "java/io/ObjectStreamField")), accessFlags := 26, slot := 2, constantValue := 0 }, { name := "REPL", type := .char, accessFlags := 26, slot := 3, constantValue := 0 }, { name := "CASE_INSENSITIVE_ORDER", type := (.object "java/util/Comparator"), accessFlags := 25, slot := 4, constantValue := 0 }, { name := "LATIN1", type := .byte, accessFlags := 24, slot := 5, constantValue := 0 }, { name := "UTF16", type := .byte, accessFlags := 24, slot := 6, constantValue := 0 }]
  methods := #[k11m0, k11m1, k11m2, k11m3]
  instanceTypes := #[(.array .byte), .byte, .int, .boolean]
  staticTypes := #[.long, .boolean, (.array (.object "java/io/ObjectStreamField")), .char, (.object "java/util/Comparator"), .byte, .byte]
  resolved := Array.replicate 1451 none
  statics := some 1 }

def pool12 : Array CpInfo := pool [(6, .class_ 8), (1, u "java/lang/Object"), (0, u "<init>"), (0, u "()V"), (1, .class_ 14), (1, u "java/lang/StringUTF16"), (31, u "$assertionsDisabled"), (0, u "Z"), (13, u "HI_BYTE_SHIFT"), (0, u "I"), (2, u "LO_BYTE_SHIFT"), (49, .methodref 12 116), (0, .nameAndType 117 118), (0, u "compress"), (0, u "([CI[BII)I"), (3, u "([CII)[B"), (138, u "coderFromArrayLen"), (0, u "([BI)B"), (106, .class_ 371), (1, u "java/lang/StringUTF16$LinesSpliterator"), (58, u "MAX_LENGTH"), (196, .class_ 628), (0, u "java/lang/StringUTF16$CodePointsSpliterator"), (0, .class_ 630), (0, u "java/lang/StringUTF16$CharsSpliterator")] 4

def k12m0 : Method := { name := "<init>", desc := "()V", sig := { parameters := [], returnType := none }, accessFlags := 0, code := none }
def k12c1 : Code := { maxStack := 2, maxLocals := 2, code := jdk_52_method_15_code, exceptionTable := #[], attributes := #[] }
def k12m1 : Method := { name := "coderFromArrayLen", desc := "([BI)B", sig := { parameters := [(.array .byte), .int], returnType := some .byte }, accessFlags := 8, code := some k12c1 }
def k12c2 : Code := { maxStack := 5, maxLocals := 6, code := jdk_52_method_16_code, exceptionTable := #[], attributes := #[] }
def k12m2 : Method := { name := "compress", desc := "([CII)[B", sig := { parameters := [(.array .char), .int, .int], returnType := some (.array .byte) }, accessFlags := 9, code := some k12c2 }
def k12c3 : Code := { maxStack := 3, maxLocals := 7, code := jdk_52_method_21_code, exceptionTable := #[], attributes := #[] }
def k12m3 : Method := { name := "compress", desc := "([CI[BII)I", sig := { parameters := [(.array .char), .int, (.array .byte), .int, .int], returnType := some .int }, accessFlags := 9, code := some k12c3 }
/-- java/lang/StringUTF16 -/
def k12 : Class := { plain "java/lang/StringUTF16" (some 0) with
  accessFlags := 48
  interfaces := #[]
  cf := some (fileOf pool12 12 #[.nestMembers #[627, 629, 369]] #[{ accessFlags := 0, nameIndex := 9, descriptorIndex := 10, attributes := #[] }, { accessFlags := 8, nameIndex := 261, descriptorIndex := 262, attributes := #[] }, { accessFlags := 9, nameIndex := 117, descriptorIndex := 122, attributes := #[] }, { accessFlags := 9, nameIndex := 117, descriptorIndex := 118, attributes := #[] }] 48 6 #[] #[{ accessFlags := 26, nameIndex := 61, descriptorIndex := 62, attributes := #[] }, { accessFlags := 26, nameIndex := 65, descriptorIndex := 62, attributes := #[] }, { accessFlags := 24, nameIndex := 430, descriptorIndex := 62, attributes := #[] }, { accessFlags := 4120, nameIndex := 46, descriptorIndex := 47, attributes := #[] }])
  fields := #[{ name := "HI_BYTE_SHIFT", type := .int, accessFlags := 26, slot := 0, constantValue := 0 }, { name := "LO_BYTE_SHIFT", type := .int, accessFlags := 26, slot := 1, constantValue := 0 }, { name := "MAX_LENGTH", type := .int, accessFlags := 24, slot := 2, constantValue := 0 }, { name := "$assertionsDisabled", type := .boolean, accessFlags := 4120, slot := 3, constantValue := 0 }]
  methods := #[k12m0, k12m1, k12m2, k12m3]
  instanceTypes := #[]
  staticTypes := #[.int, .int, .int, .boolean]
  resolved := Array.replicate 635 none
  statics := none }

def pool13 : Array CpInfo := pool [(4, .class_ 6), (1, u "java/lang/Object"), (0, u "<init>"), (0, u "()V"), (5, .class_ 16), (1, u "java/lang/StringLatin1"), (104, u "$assertionsDisabled"), (0, u "Z"), (98, .class_ 223), (1, u "java/lang/StringLatin1$LinesSpliterator"), (57, u "equals"), (0, u "([B[B)Z"), (107, .class_ 391), (0, u "java/lang/StringLatin1$CharsSpliterator")] 3

def k13m0 : Method := { name := "<init>", desc := "()V", sig := { parameters := [], returnType := none }, accessFlags := 0, code := none }
def k13c1 : Code := { maxStack := 3, maxLocals := 3, code := jdk_43_method_13_code, exceptionTable := #[], attributes := #[] }
def k13m1 : Method := { name := "equals", desc := "([B[B)Z", sig := { parameters := [(.array .byte), (.array .byte)], returnType := some .boolean }, accessFlags := 9, code := some k13c1 }
/-- java/lang/StringLatin1 -/
def k13 : Class := { plain "java/lang/StringLatin1" (some 0) with
  accessFlags := 48
  interfaces := #[]
  cf := some (fileOf pool13 14 #[.nestMembers #[390, 221]] #[{ accessFlags := 0, nameIndex := 7, descriptorIndex := 8, attributes := #[] }, { accessFlags := 9, nameIndex := 281, descriptorIndex := 282, attributes := #[] }] 48 4 #[] #[{ accessFlags := 4120, nameIndex := 121, descriptorIndex := 122, attributes := #[] }])
  fields := #[{ name := "$assertionsDisabled", type := .boolean, accessFlags := 4120, slot := 0, constantValue := 0 }]
  methods := #[k13m0, k13m1]
  instanceTypes := #[]
  staticTypes := #[.boolean]
  resolved := Array.replicate 395 none
  statics := none }

def pool14 : Array CpInfo := pool [(2, .class_ 4), (1, u "java/lang/Object"), (0, u "<init>"), (0, u "()V"), (17, .class_ 26), (1, u "jdk/internal/util/Preconditions"), (28, .class_ 56), (0, u "jdk/internal/util/Preconditions$4"), (57, .class_ 115), (0, u "jdk/internal/util/Preconditions$1"), (7, u "SIOOBE_FORMATTER"), (0, u "Ljava/util/function/BiFunction;"), (0, .class_ 126), (0, u "jdk/internal/util/Preconditions$2"), (3, u "AIOOBE_FORMATTER"), (0, .class_ 132), (0, u "jdk/internal/util/Preconditions$3"), (3, u "IOOBE_FORMATTER")] 57

def k14m0 : Method := { name := "<init>", desc := "()V", sig := { parameters := [], returnType := none }, accessFlags := 1, code := none }
/-- jdk/internal/util/Preconditions -/
def k14 : Class := { plain "jdk/internal/util/Preconditions" (some 0) with
  accessFlags := 33
  interfaces := #[]
  cf := some (fileOf pool14 24 #[.nestMembers #[55, 131, 125, 114]] #[{ accessFlags := 1, nameIndex := 5, descriptorIndex := 6, attributes := #[] }] 33 2 #[] #[{ accessFlags := 25, nameIndex := 123, descriptorIndex := 124, attributes := #[] }, { accessFlags := 25, nameIndex := 130, descriptorIndex := 124, attributes := #[] }, { accessFlags := 25, nameIndex := 136, descriptorIndex := 124, attributes := #[] }])
  fields := #[{ name := "SIOOBE_FORMATTER", type := (.object "java/util/function/BiFunction"), accessFlags := 25, slot := 0, constantValue := 0 }, { name := "AIOOBE_FORMATTER", type := (.object "java/util/function/BiFunction"), accessFlags := 25, slot := 1, constantValue := 0 }, { name := "IOOBE_FORMATTER", type := (.object "java/util/function/BiFunction"), accessFlags := 25, slot := 2, constantValue := 0 }]
  methods := #[k14m0]
  instanceTypes := #[]
  staticTypes := #[(.object "java/util/function/BiFunction"), (.object "java/util/function/BiFunction"), (.object "java/util/function/BiFunction")]
  resolved := Array.replicate 194 none
  statics := some 2 }

def pool15 : Array CpInfo := pool [(9, u "<init>"), (6, .class_ 18), (1, u "java/lang/Object"), (0, u "()V"), (1, .class_ 23), (1, u "jdk/internal/util/ArraysSupport"), (0, u "LOG2_ARRAY_LONG_INDEX_SCALE"), (0, u "I"), (2, u "U"), (0, u "Ljdk/internal/misc/Unsafe;"), (8, u "BIG_ENDIAN"), (0, u "Z"), (8, u "LOG2_BYTE_BIT_SIZE"), (4, u "LOG2_ARRAY_INT_INDEX_SCALE"), (54, u "JLA"), (0, u "Ljdk/internal/access/JavaLangAccess;"), (11, u "LOG2_ARRAY_BOOLEAN_INDEX_SCALE"), (9, u "LOG2_ARRAY_BYTE_INDEX_SCALE"), (5, u "LOG2_ARRAY_CHAR_INDEX_SCALE"), (5, u "LOG2_ARRAY_SHORT_INDEX_SCALE"), (18, u "LOG2_ARRAY_FLOAT_INDEX_SCALE"), (24, u "LOG2_ARRAY_DOUBLE_INDEX_SCALE"), (89, u "T_BOOLEAN"), (2, u "T_CHAR"), (1, u "T_FLOAT"), (1, u "T_DOUBLE"), (1, u "T_BYTE"), (1, u "T_SHORT"), (1, u "T_INT"), (1, u "T_LONG"), (1, u "SOFT_MAX_ARRAY_LENGTH")] 83

def k15m0 : Method := { name := "<init>", desc := "()V", sig := { parameters := [], returnType := none }, accessFlags := 2, code := none }
/-- jdk/internal/util/ArraysSupport -/
def k15 : Class := { plain "jdk/internal/util/ArraysSupport" (some 0) with
  accessFlags := 33
  interfaces := #[]
  cf := some (fileOf pool15 21 #[] #[{ accessFlags := 2, nameIndex := 9, descriptorIndex := 19, attributes := #[] }] 33 16 #[] #[{ accessFlags := 24, nameIndex := 28, descriptorIndex := 29, attributes := #[] }, { accessFlags := 26, nameIndex := 38, descriptorIndex := 39, attributes := #[] }, { accessFlags := 25, nameIndex := 121, descriptorIndex := 25, attributes := #[] }, { accessFlags := 25, nameIndex := 131, descriptorIndex := 25, attributes := #[] }, { accessFlags := 25, nameIndex := 137, descriptorIndex := 25, attributes := #[] }, { accessFlags := 25, nameIndex := 143, descriptorIndex := 25, attributes := #[] }, { accessFlags := 25, nameIndex := 53, descriptorIndex := 25, attributes := #[] }, { accessFlags := 25, nameIndex := 24, descriptorIndex := 25, attributes := #[] }, { accessFlags := 25, nameIndex := 162, descriptorIndex := 25, attributes := #[] }, { accessFlags := 25, nameIndex := 187, descriptorIndex := 25, attributes := #[] }, { accessFlags := 26, nameIndex := 48, descriptorIndex := 25, attributes := #[] }, { accessFlags := 25, nameIndex := 277, descriptorIndex := 25, attributes := #[] }, { accessFlags := 25, nameIndex := 280, descriptorIndex := 25, attributes := #[] }, { accessFlags := 25, nameIndex := 282, descriptorIndex := 25, attributes := #[] }, { accessFlags := 25, nameIndex := 284, descriptorIndex := 25, attributes := #[] }, { accessFlags := 25, nameIndex := 286, descriptorIndex := 25, attributes := #[] }, { accessFlags := 25, nameIndex := 288, descriptorIndex := 25, attributes := #[] }, { accessFlags := 25, nameIndex := 290, descriptorIndex := 25, attributes := #[] }, { accessFlags := 25, nameIndex := 292, descriptorIndex := 25, attributes := #[] }, { accessFlags := 26, nameIndex := 108, descriptorIndex := 109, attributes := #[] }, { accessFlags := 25, nameIndex := 294, descriptorIndex := 25, attributes := #[] }])
  fields := #[{ name := "U", type := (.object "jdk/internal/misc/Unsafe"), accessFlags := 24, slot := 0, constantValue := 0 }, { name := "BIG_ENDIAN", type := .boolean, accessFlags := 26, slot := 1, constantValue := 0 }, { name := "LOG2_ARRAY_BOOLEAN_INDEX_SCALE", type := .int, accessFlags := 25, slot := 2, constantValue := 0 }, { name := "LOG2_ARRAY_BYTE_INDEX_SCALE", type := .int, accessFlags := 25, slot := 3, constantValue := 0 }, { name := "LOG2_ARRAY_CHAR_INDEX_SCALE", type := .int, accessFlags := 25, slot := 4, constantValue := 0 }, { name := "LOG2_ARRAY_SHORT_INDEX_SCALE", type := .int, accessFlags := 25, slot := 5, constantValue := 0 }, { name := "LOG2_ARRAY_INT_INDEX_SCALE", type := .int, accessFlags := 25, slot := 6, constantValue := 0 }, { name := "LOG2_ARRAY_LONG_INDEX_SCALE", type := .int, accessFlags := 25, slot := 7, constantValue := 0 }, { name := "LOG2_ARRAY_FLOAT_INDEX_SCALE", type := .int, accessFlags := 25, slot := 8, constantValue := 0 }, { name := "LOG2_ARRAY_DOUBLE_INDEX_SCALE", type := .int, accessFlags := 25, slot := 9, constantValue := 0 }, { name := "LOG2_BYTE_BIT_SIZE", type := .int, accessFlags := 26, slot := 10, constantValue := 0 }, { name := "T_BOOLEAN", type := .int, accessFlags := 25, slot := 11, constantValue := 0 }, { name := "T_CHAR", type := .int, accessFlags := 25, slot := 12, constantValue := 0 }, { name := "T_FLOAT", type := .int, accessFlags := 25, slot := 13, constantValue := 0 }, { name := "T_DOUBLE", type := .int, accessFlags := 25, slot := 14, constantValue := 0 }, { name := "T_BYTE", type := .int, accessFlags := 25, slot := 15, constantValue := 0 }, { name := "T_SHORT", type := .int, accessFlags := 25, slot := 16, constantValue := 0 }, { name := "T_INT", type := .int, accessFlags := 25, slot := 17, constantValue := 0 }, { name := "T_LONG", type := .int, accessFlags := 25, slot := 18, constantValue := 0 }, { name := "JLA", type := (.object "jdk/internal/access/JavaLangAccess"), accessFlags := 26, slot := 19, constantValue := 0 }, { name := "SOFT_MAX_ARRAY_LENGTH", type := .int, accessFlags := 25, slot := 20, constantValue := 0 }]
  methods := #[k15m0]
  instanceTypes := #[]
  staticTypes := #[(.object "jdk/internal/misc/Unsafe"), .boolean, .int, .int, .int, .int, .int, .int, .int, .int, .int, .int, .int, .int, .int, .int, .int, .int, .int, (.object "jdk/internal/access/JavaLangAccess"), .int]
  resolved := Array.replicate 378 none
  statics := none }

def pool16 : Array CpInfo := pool [(1, u "java/lang/Cloneable"), (0, .class_ 1), (0, u "java/lang/Object"), (0, .class_ 3)] 3

/-- java/lang/Cloneable -/
def k16 : Class := { plain "java/lang/Cloneable" (some 0) with
  accessFlags := 1537
  interfaces := #[]
  cf := some (fileOf pool16 2 #[] #[] 1537 4 #[] #[])
  fields := #[]
  methods := #[]
  instanceTypes := #[]
  staticTypes := #[]
  resolved := Array.replicate 8 none
  statics := none }

/-- the primitive byte -/
def k17 : Class := { plain "byte" none with kind := .primitive 'B', accessFlags := 0x411 }
/-- [B -/
def k18 : Class := { plain "[B" (some 0) with kind := .array 17 .byte, interfaces := #[16, 6], accessFlags := 1041 }

/-- the primitive char -/
def k19 : Class := { plain "char" none with kind := .primitive 'C', accessFlags := 0x411 }
/-- [C -/
def k20 : Class := { plain "[C" (some 0) with kind := .array 19 .char, interfaces := #[16, 6], accessFlags := 1041 }

/-- the primitive int -/
def k21 : Class := { plain "int" none with kind := .primitive 'I', accessFlags := 0x411 }
/-- [I -/
def k22 : Class := { plain "[I" (some 0) with kind := .array 21 .int, interfaces := #[16, 6], accessFlags := 1041 }

def heap : Heap := #[{ cls := 8, slots := #[.ref 3, .ref 4, .ref 5, .ref 6, .ref 7, .ref 8, .null], vm := .statics 8 },
  { cls := 11, slots := #[.long 0, .int 1, .null, .int 0, .null, .int 0, .int 0], vm := .statics 11 },
  { cls := 14, slots := #[.null, .null, .null], vm := .statics 14 },
  { cls := 8, slots := #[.null, .int 0, .int 0], vm := .none },
  { cls := 8, slots := #[.null, .int 1, .int 0], vm := .none },
  { cls := 8, slots := #[.null, .int 2, .int 0], vm := .none },
  { cls := 8, slots := #[.null, .int 3, .int 0], vm := .none },
  { cls := 8, slots := #[.null, .int 4, .int 0], vm := .none },
  { cls := 8, slots := #[.null, .int 5, .int 0], vm := .none }]
def classes : Array Class := #[k0, k1, k2, k3, k4, k5, k6, k7, k8, k9, k10, k11, k12, k13, k14, k15, k16, k17, k18, k19, k20, k21, k22]
def interned : List (Array UInt16 × Addr) := []
def slotsUsed : Nat := 35
def theMethod : MethodId := ⟨1, 4⟩
def args0 : Array Value := #[.int 5, .int 6, .int 7, .int 8, .int 9, .int 10]
def aboutOver (below : List Frame) : State where
  vm := { classes := classes, interned := interned.toArray }
  heap := heap
  slotsUsed := slotsUsed
  threads := #[{ frames := .invoking theMethod args0 :: below }]
def below0 : List Frame := [.native { method := ⟨0, 0⟩, args := #[] }]
def about1 : State := aboutOver below0
def p0 : Program := .bare "" "" ""
def e0 : Env := launch0.env 0 0 0
theorem w_frames : about1.frames = Frame.invoking theMethod args0 :: below0 := rfl
set_option maxRecDepth 65536 in
theorem w_args : argsFit about1.vm theMethod args0 = true := by decide +kernel
set_option maxRecDepth 65536 in
theorem w_heap : heapFits about1 = true := by decide +kernel
set_option maxRecDepth 65536 in
theorem w_runnable : about1.curStatus? = some .runnable := by decide +kernel
set_option maxRecDepth 65536 in
theorem w_alone : about1.alone = true := by decide +kernel
set_option maxRecDepth 65536 in
theorem w_named : about1.methodNamed? x = some theMethod := by decide +kernel
set_option maxRecDepth 65536 in
theorem w_hears : about1.hears theMethod below0 = true := by decide +kernel
set_option maxRecDepth 65536 in
theorem w_ripe : about1.ripe theMethod args0 below0 = true := by decide +kernel
theorem w_running : about1.status = .running := rfl
set_option maxRecDepth 65536 in
theorem w_room : about1.hasRoom e0.platform room_1 = true :=
  launch0.hasRoom_least _ room_1 (by decide +kernel) (by decide +kernel) (by decide +kernel) (by decide +kernel) (by decide +kernel) (by decide +kernel)
theorem allAtoms_all (ts : List Jvm.Cond) (a : Array Jvm.Value) (st : Jvm.State) : (allAtoms ts).before a st = ts.all (fun c => c.before a st) := by
  induction ts with
  | nil => rfl
  | cons c t ih =>
    show (Jvm.Cond.and c (allAtoms t)).before a st = _
    rw [Jvm.Cond.before_and, ih, List.all_cons]
def words1 : List Jvm.Cond := Jvm.Cond.code x code maxLocals ret :: tables_1
/-- a 'code' word, met by the world's own term for the bytes: nothing is compared byte by byte -/
theorem code_word {y : MethodName} {bytes : ByteArray} {mx : Nat} {rt : Option FieldType} {a : Array Value} {s : State} {m : MethodId} {meth : Method} {c : Code} (h1 : s.methodNamed? y = some m) (h2 : s.vm.method? m = some meth) (h3 : meth.code = some c) (h4 : c.code = bytes)
    (h5 : (c.maxLocals == mx && c.exceptionTable.isEmpty && decide (c.maxStack ≤ mostOperands) && decide (meth.sig.returnType = rt) && !meth.locks && decide (parseMethodDescriptor y.desc = some meth.sig)) = true) : (Jvm.Cond.code y bytes mx rt).before a s = true := by
  simp only [Bool.and_eq_true, beq_iff_eq, Bool.not_eq_true', decide_eq_true_eq] at h5
  obtain ⟨⟨⟨⟨⟨g1, g2⟩, g3⟩, g4⟩, g5⟩, g6⟩ := h5
  simp [Cond.before, Cond.holds, Cond.value, h1, h2, h3, h4, g1, g2, g3, g4, g5, g6]
def isCode : Jvm.Cond → Bool
  | .code _ _ _ _ => true
  | _ => false
theorem all_split {L : List Jvm.Cond} {P : Jvm.Cond → Bool} (h1 : L.all (fun c => isCode c || P c) = true) (h2 : ∀ c ∈ L.filter isCode, P c = true) : L.all P = true := by
  refine List.all_eq_true.mpr fun c hc => ?_
  have h := List.all_eq_true.mp h1 c hc
  rcases Bool.eq_false_or_eq_true (isCode c) with hi | hi
  · exact h2 c (List.mem_filter.mpr ⟨hc, hi⟩)
  · simpa [hi] using h
set_option maxRecDepth 65536 in
theorem w_c0 : (Jvm.Cond.code x code maxLocals ret).before args0 about1 = true := code_word (m := ⟨1, 4⟩) (meth := k1m4) (c := k1c4) (by decide +kernel) rfl rfl rfl (by decide +kernel)
set_option maxRecDepth 65536 in
theorem w_c1 : (Jvm.Cond.code ({ cls := "com/example/wardstream/wardstream/engine/TokenIsPinLaw", name := "kindAt", desc := "(I)Lcom/example/wardstream/wardstream/engine/RulesTokenizer$Kind;" } : Jvm.MethodName) method_2_code (1 : Nat) (Option.some (Jvm.ClassFile.FieldType.object "com/example/wardstream/wardstream/engine/RulesTokenizer$Kind"))).before args0 about1 = true := code_word (m := ⟨1, 1⟩) (meth := k1m1) (c := k1c1) (by decide +kernel) rfl rfl rfl (by decide +kernel)
set_option maxRecDepth 65536 in
theorem w_c2 : (Jvm.Cond.code ({ cls := "com/example/wardstream/wardstream/engine/TokenIsPinLaw", name := "build", desc := "(I)Ljava/lang/String;" } : Jvm.MethodName) method_4_code (2 : Nat) (Option.some (Jvm.ClassFile.FieldType.object "java/lang/String"))).before args0 about1 = true := code_word (m := ⟨1, 3⟩) (meth := k1m3) (c := k1c3) (by decide +kernel) rfl rfl rfl (by decide +kernel)
set_option maxRecDepth 65536 in
theorem w_c3 : (Jvm.Cond.code ({ cls := "com/example/wardstream/wardstream/engine/TokenIsPinLaw", name := "ch", desc := "(II)C" } : Jvm.MethodName) method_3_code (2 : Nat) (Option.some Jvm.ClassFile.FieldType.char)).before args0 about1 = true := code_word (m := ⟨1, 2⟩) (meth := k1m2) (c := k1c2) (by decide +kernel) rfl rfl rfl (by decide +kernel)
set_option maxRecDepth 65536 in
theorem w_c4 : (Jvm.Cond.code ({ cls := "java/lang/String", name := "<init>", desc := "([C)V" } : Jvm.MethodName) jdk_42_method_3_code (2 : Nat) (Option.none : Option Jvm.ClassFile.FieldType)).before args0 about1 = true := code_word (m := ⟨11, 1⟩) (meth := k11m1) (c := k11c1) (by decide +kernel) rfl rfl rfl (by decide +kernel)
set_option maxRecDepth 65536 in
theorem w_c5 : (Jvm.Cond.code ({ cls := "java/lang/String", name := "<init>", desc := "([CIILjava/lang/Void;)V" } : Jvm.MethodName) jdk_42_method_149_code (6 : Nat) (Option.none : Option Jvm.ClassFile.FieldType)).before args0 about1 = true := code_word (m := ⟨11, 3⟩) (meth := k11m3) (c := k11c3) (by decide +kernel) rfl rfl rfl (by decide +kernel)
set_option maxRecDepth 65536 in
theorem w_c6 : (Jvm.Cond.code ({ cls := "java/lang/Object", name := "<init>", desc := "()V" } : Jvm.MethodName) object_method_1_code (1 : Nat) (Option.none : Option Jvm.ClassFile.FieldType)).before args0 about1 = true := code_word (m := ⟨0, 0⟩) (meth := k0m0) (c := k0c0) (by decide +kernel) rfl rfl rfl (by decide +kernel)
set_option maxRecDepth 65536 in
theorem w_c7 : (Jvm.Cond.code ({ cls := "java/lang/StringUTF16", name := "compress", desc := "([CII)[B" } : Jvm.MethodName) jdk_52_method_16_code (6 : Nat) (Option.some (Jvm.ClassFile.FieldType.array Jvm.ClassFile.FieldType.byte))).before args0 about1 = true := code_word (m := ⟨12, 2⟩) (meth := k12m2) (c := k12c2) (by decide +kernel) rfl rfl rfl (by decide +kernel)
set_option maxRecDepth 65536 in
theorem w_c8 : (Jvm.Cond.code ({ cls := "java/lang/StringUTF16", name := "compress", desc := "([CI[BII)I" } : Jvm.MethodName) jdk_52_method_21_code (7 : Nat) (Option.some Jvm.ClassFile.FieldType.int)).before args0 about1 = true := code_word (m := ⟨12, 3⟩) (meth := k12m3) (c := k12c3) (by decide +kernel) rfl rfl rfl (by decide +kernel)
set_option maxRecDepth 65536 in
theorem w_c9 : (Jvm.Cond.code ({ cls := "java/lang/StringUTF16", name := "coderFromArrayLen", desc := "([BI)B" } : Jvm.MethodName) jdk_52_method_15_code (2 : Nat) (Option.some Jvm.ClassFile.FieldType.byte)).before args0 about1 = true := code_word (m := ⟨12, 1⟩) (meth := k12m1) (c := k12c1) (by decide +kernel) rfl rfl rfl (by decide +kernel)
set_option maxRecDepth 65536 in
theorem w_c10 : (Jvm.Cond.code ({ cls := "com/example/wardstream/wardstream/engine/RulesTokenizer$Token", name := "<init>", desc := "(Lcom/example/wardstream/wardstream/engine/RulesTokenizer$Kind;Ljava/lang/String;II)V" } : Jvm.MethodName) prog_18_method_1_code (5 : Nat) (Option.none : Option Jvm.ClassFile.FieldType)).before args0 about1 = true := code_word (m := ⟨3, 0⟩) (meth := k3m0) (c := k3c0) (by decide +kernel) rfl rfl rfl (by decide +kernel)
set_option maxRecDepth 65536 in
theorem w_c11 : (Jvm.Cond.code ({ cls := "java/lang/Record", name := "<init>", desc := "()V" } : Jvm.MethodName) jdk_30_method_1_code (1 : Nat) (Option.none : Option Jvm.ClassFile.FieldType)).before args0 about1 = true := code_word (m := ⟨2, 0⟩) (meth := k2m0) (c := k2c0) (by decide +kernel) rfl rfl rfl (by decide +kernel)
set_option maxRecDepth 65536 in
theorem w_c12 : (Jvm.Cond.code ({ cls := "com/example/wardstream/wardstream/engine/RulesTokenizer$Token", name := "is", desc := "(Lcom/example/wardstream/wardstream/engine/RulesTokenizer$Kind;Ljava/lang/String;)Z" } : Jvm.MethodName) prog_18_method_2_code (3 : Nat) (Option.some Jvm.ClassFile.FieldType.boolean)).before args0 about1 = true := code_word (m := ⟨3, 1⟩) (meth := k3m1) (c := k3c1) (by decide +kernel) rfl rfl rfl (by decide +kernel)
set_option maxRecDepth 65536 in
theorem w_c13 : (Jvm.Cond.code ({ cls := "java/lang/String", name := "equals", desc := "(Ljava/lang/Object;)Z" } : Jvm.MethodName) jdk_42_method_66_code (3 : Nat) (Option.some Jvm.ClassFile.FieldType.boolean)).before args0 about1 = true := code_word (m := ⟨11, 2⟩) (meth := k11m2) (c := k11c2) (by decide +kernel) rfl rfl rfl (by decide +kernel)
set_option maxRecDepth 65536 in
theorem w_c14 : (Jvm.Cond.code ({ cls := "java/lang/StringLatin1", name := "equals", desc := "([B[B)Z" } : Jvm.MethodName) jdk_43_method_13_code (3 : Nat) (Option.some Jvm.ClassFile.FieldType.boolean)).before args0 about1 = true := code_word (m := ⟨13, 1⟩) (meth := k13m1) (c := k13c1) (by decide +kernel) rfl rfl rfl (by decide +kernel)
def codes1 : List Jvm.Cond := [Jvm.Cond.code x code maxLocals ret, Jvm.Cond.code ({ cls := "com/example/wardstream/wardstream/engine/TokenIsPinLaw", name := "kindAt", desc := "(I)Lcom/example/wardstream/wardstream/engine/RulesTokenizer$Kind;" } : Jvm.MethodName) method_2_code (1 : Nat) (Option.some (Jvm.ClassFile.FieldType.object "com/example/wardstream/wardstream/engine/RulesTokenizer$Kind")), Jvm.Cond.code ({ cls := "com/example/wardstream/wardstream/engine/TokenIsPinLaw", name := "build", desc := "(I)Ljava/lang/String;" } : Jvm.MethodName) method_4_code (2 : Nat) (Option.some (Jvm.ClassFile.FieldType.object "java/lang/String")), Jvm.Cond.code ({ cls := "com/example/wardstream/wardstream/engine/TokenIsPinLaw", name := "ch", desc := "(II)C" } : Jvm.MethodName) method_3_code (2 : Nat) (Option.some Jvm.ClassFile.FieldType.char), Jvm.Cond.code ({ cls := "java/lang/String", name := "<init>", desc := "([C)V" } : Jvm.MethodName) jdk_42_method_3_code (2 : Nat) (Option.none : Option Jvm.ClassFile.FieldType), Jvm.Cond.code ({ cls := "java/lang/String", name := "<init>", desc := "([CIILjava/lang/Void;)V" } : Jvm.MethodName) jdk_42_method_149_code (6 : Nat) (Option.none : Option Jvm.ClassFile.FieldType), Jvm.Cond.code ({ cls := "java/lang/Object", name := "<init>", desc := "()V" } : Jvm.MethodName) object_method_1_code (1 : Nat) (Option.none : Option Jvm.ClassFile.FieldType), Jvm.Cond.code ({ cls := "java/lang/StringUTF16", name := "compress", desc := "([CII)[B" } : Jvm.MethodName) jdk_52_method_16_code (6 : Nat) (Option.some (Jvm.ClassFile.FieldType.array Jvm.ClassFile.FieldType.byte)), Jvm.Cond.code ({ cls := "java/lang/StringUTF16", name := "compress", desc := "([CI[BII)I" } : Jvm.MethodName) jdk_52_method_21_code (7 : Nat) (Option.some Jvm.ClassFile.FieldType.int), Jvm.Cond.code ({ cls := "java/lang/StringUTF16", name := "coderFromArrayLen", desc := "([BI)B" } : Jvm.MethodName) jdk_52_method_15_code (2 : Nat) (Option.some Jvm.ClassFile.FieldType.byte), Jvm.Cond.code ({ cls := "com/example/wardstream/wardstream/engine/RulesTokenizer$Token", name := "<init>", desc := "(Lcom/example/wardstream/wardstream/engine/RulesTokenizer$Kind;Ljava/lang/String;II)V" } : Jvm.MethodName) prog_18_method_1_code (5 : Nat) (Option.none : Option Jvm.ClassFile.FieldType), Jvm.Cond.code ({ cls := "java/lang/Record", name := "<init>", desc := "()V" } : Jvm.MethodName) jdk_30_method_1_code (1 : Nat) (Option.none : Option Jvm.ClassFile.FieldType), Jvm.Cond.code ({ cls := "com/example/wardstream/wardstream/engine/RulesTokenizer$Token", name := "is", desc := "(Lcom/example/wardstream/wardstream/engine/RulesTokenizer$Kind;Ljava/lang/String;)Z" } : Jvm.MethodName) prog_18_method_2_code (3 : Nat) (Option.some Jvm.ClassFile.FieldType.boolean), Jvm.Cond.code ({ cls := "java/lang/String", name := "equals", desc := "(Ljava/lang/Object;)Z" } : Jvm.MethodName) jdk_42_method_66_code (3 : Nat) (Option.some Jvm.ClassFile.FieldType.boolean), Jvm.Cond.code ({ cls := "java/lang/StringLatin1", name := "equals", desc := "([B[B)Z" } : Jvm.MethodName) jdk_43_method_13_code (3 : Nat) (Option.some Jvm.ClassFile.FieldType.boolean)]
set_option maxRecDepth 65536 in
theorem codes_eq : words1.filter isCode = codes1 := rfl
theorem w_codes : ∀ c ∈ words1.filter isCode, c.before args0 about1 = true := by
  rw [codes_eq]
  intro c hc
  simp only [codes1, List.mem_cons, List.not_mem_nil, or_false] at hc
  rcases hc with rfl | rfl | rfl | rfl | rfl | rfl | rfl | rfl | rfl | rfl | rfl | rfl | rfl | rfl | rfl
  · exact w_c0
  · exact w_c1
  · exact w_c2
  · exact w_c3
  · exact w_c4
  · exact w_c5
  · exact w_c6
  · exact w_c7
  · exact w_c8
  · exact w_c9
  · exact w_c10
  · exact w_c11
  · exact w_c12
  · exact w_c13
  · exact w_c14
set_option maxRecDepth 65536 in
theorem w_t1 : (words1.take 24).all (fun c => isCode c || c.before args0 about1) = true := by decide +kernel
set_option maxRecDepth 65536 in
theorem w_t2 : ((words1.drop 24).take 24).all (fun c => isCode c || c.before args0 about1) = true := by decide +kernel
set_option maxRecDepth 65536 in
theorem w_t3 : (((words1.drop 24).drop 24).take 24).all (fun c => isCode c || c.before args0 about1) = true := by decide +kernel
set_option maxRecDepth 65536 in
theorem w_t4 : (((words1.drop 24).drop 24).drop 24).all (fun c => isCode c || c.before args0 about1) = true := by decide +kernel
theorem w_tables : (allAtoms (Jvm.Cond.code x code maxLocals ret :: tables_1)).before args0 about1 = true := by
  rw [allAtoms_all]
  show words1.all (fun c => c.before args0 about1) = true
  refine all_split ?_ w_codes
  rw [← List.take_append_drop 24 words1, List.all_append, w_t1, ← List.take_append_drop 24 (words1.drop 24), List.all_append, w_t2, ← List.take_append_drop 24 ((words1.drop 24).drop 24), List.all_append, w_t3, w_t4]
  rfl
set_option maxRecDepth 65536 in
theorem w_rest : rest_1_c.before args0 about1 = true := by decide +kernel
set_option maxRecDepth 65536 in
theorem w_case : (Jvm.Cond.and given_1 narrow_1).before args0 about1 = true := by decide +kernel
set_option maxRecDepth 65536 in
theorem w_consts : constsHeld consts_1 about1 := Jvm.Lit.constsHeldB_iff.mp (by decide +kernel)
theorem w_applies : (headSpec (Jvm.Cond.code x code maxLocals ret :: tables_1) room_1).applies x e0.platform about1 = true :=
  (Spec.applies_iff w_frames).mpr ⟨w_running, w_runnable, w_alone, w_named, w_hears, w_ripe, w_room, w_tables⟩
theorem atStart : AtStart classFile x code maxLocals ret World_1 tables_1 room_1 Calls_1 rest_1 Pre_1 launch0 p0 e0 about1 theMethod args0 below0 :=
  ⟨lists_1, trivial, launch0.admits_env _ _ _, launch0.least_env, fairChoices_fair.cas, fairChoices_fair.clock, w_frames, w_args, w_heap, w_applies, ⟨w_consts, trivial⟩, w_rest, w_case⟩
end start1
theorem witness_1 : WitnessClaimed_1 := ⟨start1.p0, start1.e0, start1.about1, start1.theMethod, start1.args0, start1.below0, start1.atStart⟩
end Jvm.Pilot.@@N@@
