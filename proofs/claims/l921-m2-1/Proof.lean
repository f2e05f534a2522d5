import JvmDerived
import JvmDerived.Pilot.@@N@@Statement
import JvmDerived.Pilot.@@N@@Code
set_option linter.unusedVariables false
set_option linter.unusedSimpArgs false
@@BLOCK:NumsL.lean.txt@@
namespace Jvm.Pilot.@@N@@
open Jvm Jvm.ClassFile Sem Op Lib Jvm.Free Jvm.Stand Jvm.LawKit Jvm.RoadKit Bundle Jvm.Pilot.@@N@@.Jvm.D
/-! THE OWN KIT: walks by continuation. oWP says: from this frame over this heap the body runs to its end, and Q holds there. -/
/-- what a conditional branch asks, in plain words -/
def oC : ClassFile.Cond → Int32 → Int32 → Prop
  | .eq, x, w => x = w
  | .ne, x, w => ¬ x = w
  | .lt, x, w => x < w
  | .ge, x, w => ¬ x < w
  | .gt, x, w => w < x
  | .le, x, w => ¬ w < x
theorem oC_cases (cd : ClassFile.Cond) (x w : Int32) : (if_icmp.holds cd x w = true ∧ oC cd x w) ∨ (if_icmp.holds cd x w = false ∧ ¬ oC cd x w) := by
  cases cd with
  | eq =>
    by_cases q : x = w
    · exact Or.inl ⟨(teq q).1, q⟩
    · exact Or.inr ⟨(feq q).1, q⟩
  | ne =>
    by_cases q : x = w
    · exact Or.inr ⟨(teq q).2, fun r => r q⟩
    · exact Or.inl ⟨(feq q).2, q⟩
  | lt =>
    by_cases q : x < w
    · exact Or.inl ⟨(tlt q).1, q⟩
    · exact Or.inr ⟨(flt q).1, q⟩
  | ge =>
    by_cases q : x < w
    · exact Or.inr ⟨(tlt q).2.1, fun r => r q⟩
    · exact Or.inl ⟨(flt q).2.1, q⟩
  | gt =>
    by_cases q : w < x
    · exact Or.inl ⟨(tlt q).2.2.1, q⟩
    · exact Or.inr ⟨(flt q).2.2.1, q⟩
  | le =>
    by_cases q : w < x
    · exact Or.inr ⟨(tlt q).2.2.2, fun r => r q⟩
    · exact Or.inl ⟨(flt q).2.2.2, q⟩
def oA : ACond → Value → Value → Prop
  | .eq, x, w => x = w
  | .ne, x, w => ¬ x = w
theorem oA_cases (cd : ACond) (x w : Value) : (acV cd (decide (x = w)) = true ∧ oA cd x w) ∨ (acV cd (decide (x = w)) = false ∧ ¬ oA cd x w) := by
  cases cd with
  | eq =>
    by_cases q : x = w
    · exact Or.inl ⟨decide_eq_true q, q⟩
    · exact Or.inr ⟨decide_eq_false q, q⟩
  | ne =>
    by_cases q : x = w
    · exact Or.inr ⟨by rw [decide_eq_true q]; rfl, fun r => r q⟩
    · exact Or.inl ⟨by rw [decide_eq_false q]; rfl, q⟩
section OwnKit
variable {b : Bool} {p : Program} {l : Launch} {e : Env} {R : Room} {s : State} {m : MethodId} {args : Array Value} {below : List Frame} {meth : Method} {c : Code} {P : Addr → Prop} {Q : Option Value → Heap → Vm → Prop} {J : Vm → Prop} {h : Heap} {k n : Nat} {Z : State} {a0 : Array Value} {y : MethodName} {B : ByteArray} {ml : Nat} {rt : Option FieldType}
/-- every place written lies in a cell that may be written -/
def oAl (P : Addr → Prop) (L : List Loc) : Prop := ∀ q ∈ L, P q.base
theorem oAl.snoc {L : List Loc} {a : Addr} {sl : Nat} (N : oAl P L) (q : P a) : oAl P (L ++ [⟨a, sl⟩]) := fun z hz => (List.mem_append.mp hz).elim (N z) fun hz => by cases List.mem_singleton.mp hz; exact q
theorem oAl.app {L L' : List Loc} (N : oAl P L) (N' : oAl P L') : oAl P (L ++ L') := fun z hz => (List.mem_append.mp hz).elim (N z) (N' z)
/-- from h to h': no cell went, classes and sizes stay, a cell that P does not name stays as it is -/
def oKp (P : Addr → Prop) (h h' : Heap) : Prop := h.size ≤ h'.size ∧ ∀ (x : Addr) (c : Cell), h[x]? = some c → ∃ c' : Cell, h'[x]? = some c' ∧ c'.cls = c.cls ∧ c'.vm = c.vm ∧ c'.slots.size = c.slots.size ∧ (¬ P x → c' = c)
theorem oKp.of_same {t : State} {L : List Loc} {ck cn : Nat} (hS : s.sameButNew t L ck cn) (N : oAl P L) : oKp P s.heap t.heap := by
  obtain ⟨-, h1, -, -, -, hh⟩ := hS
  refine ⟨h1, fun x c hx => ?_⟩
  obtain ⟨c', e1, e2, e3, e4⟩ := hh x c hx
  refine ⟨c', e1, by rw [e2], by rw [e2], e3, fun q => ?_⟩
  have e5 : c'.slots = c.slots := Array.ext_getElem? fun i => e4 i fun z => q (N _ z)
  rw [e2, e5]
theorem oKp.ext {h' : Heap} (K : oKp (fun a => h.size ≤ a) h h') : Ext h h' := ⟨K.1, fun a c hc => by
  obtain ⟨c', e1, -, -, -, e5⟩ := K.2 a c hc
  rw [e5 (Nat.not_le.mpr (Array.getElem?_eq_some_iff.mp hc).1)] at e1; exact e1⟩
theorem oKp.fld {h' : Heap} {a : Addr} {C f d : String} {v : Value} (K : oKp P h h') (F : Fld Z h a C f d v) (q : ¬ P a) : Fld Z h' a C f d v := by
  obtain ⟨cell, cf, k, i, f, h1, r⟩ := F
  obtain ⟨c', e1, -, -, -, e5⟩ := K.2 a cell h1
  rw [e5 q] at e1; exact ⟨cell, cf, k, i, f, e1, r⟩
theorem oKp.exa {h' : Heap} {a : Addr} {C : String} (K : oKp P h h') (F : Exa Z h a C) : Exa Z h' a C := by
  obtain ⟨cell, k, h1, h2, h3, h4, h5⟩ := F
  obtain ⟨c', e1, e2, e3, e4, -⟩ := K.2 a cell h1
  exact ⟨c', k, e1, by rw [e2]; exact h2, by rw [e2]; exact h3, by rw [e3]; exact h4, by rw [e4]; exact h5⟩
theorem oKp.arr {h' : Heap} {a : Addr} {cl : Cell} {ty : FieldType} (K : oKp P h h') (F : Arr Z h a cl ty) (q : ¬ P a) : Arr Z h' a cl ty := by
  obtain ⟨c', e1, -, -, -, e5⟩ := K.2 a cl F.1
  rw [e5 q] at e1; exact ⟨e1, F.2⟩
theorem oKp.trans {h' h'' : Heap} {P' : Addr → Prop} (K : oKp P h h') (K' : oKp P' h' h'') (q : ∀ a, P' a → P a) : oKp P h h'' := by
  refine ⟨Nat.le_trans K.1 K'.1, fun x c hx => ?_⟩
  obtain ⟨c1, a1, a2, a3, a4, a5⟩ := K.2 x c hx
  obtain ⟨c2, b1, b2, b3, b4, b5⟩ := K'.2 x c1 a1
  exact ⟨c2, b1, b2.trans a2, b3.trans a3, b4.trans a4, fun r => (b5 fun z => r (q x z)).trans (a5 r)⟩
/-- what is fixed along one body's walk -/
def oCx (p : Program) (s : State) (m : MethodId) (meth : Method) (c : Code) (P : Addr → Prop) (Z : State) (y : MethodName) (B : ByteArray) (ml : Nat) (rt : Option FieldType) : Prop :=
  p.tables.exec = Jvm.exec ∧ c.code = B ∧ c.maxLocals = ml ∧ meth.sig.returnType = rt ∧ meth.locks = false ∧ Z.Warmed39 s.vm ∧ s.vm.findClass y.cls = some m.cls ∧ meth.name = y.name ∧ Ext Z.heap s.heap ∧ (∀ a, s.heap.size ≤ a → P a) ∧ (∀ a, P a → Z.heap.size ≤ a)
theorem oCx.hml (C : oCx p s m meth c P Z y B ml rt) : c.maxLocals = ml := C.2.2.1
theorem oCx.hrt (C : oCx p s m meth c P Z y B ml rt) : meth.sig.returnType = rt := C.2.2.2.1
theorem oCx.locks (C : oCx p s m meth c P Z y B ml rt) : meth.locks = false := C.2.2.2.2.1
theorem oCx.hZ (C : oCx p s m meth c P Z y B ml rt) : Z.Warmed39 s.vm := C.2.2.2.2.2.1
theorem oCx.own (C : oCx p s m meth c P Z y B ml rt) : s.vm.findClass y.cls = some m.cls := C.2.2.2.2.2.2.1
theorem oCx.nm (C : oCx p s m meth c P Z y B ml rt) : meth.name = y.name := C.2.2.2.2.2.2.2.1
theorem oCx.old (C : oCx p s m meth c P Z y B ml rt) : Ext Z.heap s.heap := C.2.2.2.2.2.2.2.2.1
theorem oCx.new (C : oCx p s m meth c P Z y B ml rt) : ∀ a, s.heap.size ≤ a → P a := C.2.2.2.2.2.2.2.2.2.1
theorem oCx.young (C : oCx p s m meth c P Z y B ml rt) : ∀ a, P a → Z.heap.size ≤ a := C.2.2.2.2.2.2.2.2.2.2
theorem oCx.rebase {vm0 : Vm} {k0 : Nat} (C : oCx p s m meth c P Z y B ml rt) (hS : s.Since vm0 k0) : oCx p (s.setVm vm0) m meth c P Z y B ml rt :=
  ⟨C.1, C.2.1, C.2.2.1, C.2.2.2.1, C.2.2.2.2.1, State.Warmed39.trans C.hZ hS.1, by show vm0.findClass y.cls = _; rw [hS.1.alike.findClass]; exact C.own, C.2.2.2.2.2.2.2⟩
/-- J holds on, whatever classes, fields and methods come to be resolved -/
def oJs (J : Vm → Prop) : Prop := ∀ (s : State) (vm' : Vm), J s.vm → s.WarmedH vm' → J vm'
def oT : Vm → Prop := fun _ => True
theorem oTs : oJs oT := fun _ _ _ _ => trivial
/-- the end of a body: wide, and narrow where b says so -/
def oEnd (b : Bool) (s : State) (o : Outcome) (u : State) (L : List Loc) (k n : Nat) : Prop := (b = false → FrameEnd s o u L k n) ∧ ReturnedEndW s o u L k n
def oSd (b : Bool) (p : Program) (l : Launch) (e : Env) (R : Room) (s : State) (m : MethodId) (args : Array Value) (below : List Frame) (meth : Method) (c : Code) (P : Addr → Prop) (J : Vm → Prop) (h : Heap) (k n : Nat) (T : State) : Prop :=
  ∃ (vm0 : Vm) (k0 : Nat) (locs : List Loc) (ck cn : Nat), Stand p l e R (s.setVm vm0) m args below meth c T locs ck cn ∧ T.heap = h ∧ oAl P locs ∧ ck ≤ k ∧ cn ≤ n ∧ s.Since vm0 k0 ∧ k0 ≤ h.size ∧ (b = false → vm0 = s.vm) ∧ J vm0 ∧ oJs J
/-- from the frame g over the heap h the body runs to its end and Q holds there -/
def oWP (b : Bool) (p : Program) (l : Launch) (e : Env) (R : Room) (s : State) (m : MethodId) (args : Array Value) (below : List Frame) (meth : Method) (c : Code) (P : Addr → Prop) (Q : Option Value → Heap → Vm → Prop) (J : Vm → Prop) (h : Heap) (k n : Nat) (g : JFrame) : Prop :=
  ∀ T, oSd b p l e R s m args below meth c P J h k n T → ∃ u o, Steps p.tables e below (T.setTop g) u ∧ u.status = .running ∧ Ended u below o ∧ ∃ v L, o = .returned v ∧ (Q v u.heap u.vm ∧ oAl P L) ∧ oEnd b s o u L R.cells R.slots
abbrev oF (m : MethodId) (pc : Nat) (Ls : List Slot) (S : List Value) : JFrame := mkF m pc (Array.mk Ls) S
/-- a body's contract, where it resolves no string -/
def oMeets (l : Launch) (Z : State) (y : MethodName) (B : ByteArray) (ml : Nat) (rt : Option FieldType) (rm : Room) (as' : Array Value) (h0 : Heap) (P : Addr → Prop) (Q : Option Value → Heap → Prop) : Prop :=
  Ext Z.heap h0 → ∀ ws, MetFree l y (head1 (Jvm.Cond.code y B ml rt :: ws) rm) (fun a U => a = as' ∧ Z.Warmed39 U.vm ∧ U.heap = h0) (fun _ _ _ _ _ => True) (fun _ U o U' => ∃ v L, o = .returned v ∧ (Q v U'.heap ∧ oAl P L ∧ oKp P h0 U'.heap) ∧ FrameEnd U o U' L rm.cells rm.slots)
/-- a body's contract, where it may; J: what it asks of the tables -/
def oMeetsW (l : Launch) (Z : State) (y : MethodName) (B : ByteArray) (ml : Nat) (rt : Option FieldType) (rm : Room) (as' : Array Value) (h0 : Heap) (P : Addr → Prop) (J : Vm → Prop) (Q : Option Value → Heap → Vm → Prop) : Prop :=
  Ext Z.heap h0 → ∀ ws, MetFree l y (head1 (Jvm.Cond.code y B ml rt :: ws) rm) (fun a U => a = as' ∧ Z.Warmed39 U.vm ∧ U.heap = h0 ∧ J U.vm) (fun _ _ _ _ _ => True) (fun _ U o U' => ∃ v L, o = .returned v ∧ (Q v U'.heap U'.vm ∧ oAl P L ∧ oKp P h0 U'.heap) ∧ ReturnedEndW U o U' L rm.cells rm.slots)
theorem oMeets.of {rm : Room} {as' : Array Value} {h0 : Heap} {Ls : List Slot} {Q : Option Value → Heap → Prop} (hpl : plainFor y = true) (hP0 : ∀ a, h0.size ≤ a → P a) (hPn : Ext Z.heap h0 → ∀ a, P a → Z.heap.size ≤ a) (hef : ∀ m, entryFrame m as' ml = oF m 0 Ls [])
    (body : ∀ (p : Program) (e : Env) (s : State) (m : MethodId) (below : List Frame) (meth : Method) (c : Code), oCx p s m meth c P Z y B ml rt → s.heap = h0 → oWP false p l e rm s m as' below meth c P (fun v h _ => Q v h) oT h0 0 0 (oF m 0 Ls [])) : oMeets l Z y B ml rt rm as' h0 P Q := by
  intro hE ws
  refine MetFree.of_bodySF hpl hisR ?_
  intro p e s m args below meth c s₁ Bd hml0 hP hK
  obtain ⟨rfl, hZ, hh⟩ := hP
  have C : oCx p s m meth c P Z y B ml rt := ⟨Bd.exec, Bd.bytes, hml0, Bd.returns, Bd.notSynchronized, hZ, findClass_of_methodNamed Bd.named, (name_of_methodNamed Bd.named Bd.method).1, by rw [hh]; exact hE, by rw [hh]; exact hP0, hPn hE⟩
  have X0 : Stand p l e rm s m args below meth c s₁ [] 0 0 := Stand.of_body Bd
  have e0 : s₁.heap = h0 := by rw [← hh, Bd.state]; rfl
  obtain ⟨u, o, h1, h2, h3, v, L, rfl, ⟨hQ, hN⟩, hF⟩ := body p e s m below meth c C hh s₁ ⟨s.vm, 0, [], 0, 0, X0, e0, fun _ q => (nomatch q), Nat.le_refl _, Nat.le_refl _, (State.WarmedH.refl s).since 0, Nat.zero_le _, fun _ => rfl, trivial, oTs⟩
  refine ⟨u, _, castTop (hef m) h1, h2, h3, v, L, rfl, ⟨hQ, hN, ?_⟩, hF.1 rfl⟩
  rw [← hh]
  exact oKp.of_same (t := { u with vm := s.vm }) hF.2.2.2.2 hN
theorem oMeetsW.of {rm : Room} {as' : Array Value} {h0 : Heap} {Ls : List Slot} (hpl : plainFor y = true) (hP0 : ∀ a, h0.size ≤ a → P a) (hPn : Ext Z.heap h0 → ∀ a, P a → Z.heap.size ≤ a) (hef : ∀ m, entryFrame m as' ml = oF m 0 Ls []) (hJs : oJs J)
    (body : ∀ (p : Program) (e : Env) (s : State) (m : MethodId) (below : List Frame) (meth : Method) (c : Code), oCx p s m meth c P Z y B ml rt → s.heap = h0 → oWP true p l e rm s m as' below meth c P Q J h0 0 0 (oF m 0 Ls [])) : oMeetsW l Z y B ml rt rm as' h0 P J Q := by
  intro hE ws
  refine MetFree.of_bodySF hpl hisR ?_
  intro p e s m args below meth c s₁ Bd hml0 hP hK
  obtain ⟨rfl, hZ, hh, hJ⟩ := hP
  have C : oCx p s m meth c P Z y B ml rt := ⟨Bd.exec, Bd.bytes, hml0, Bd.returns, Bd.notSynchronized, hZ, findClass_of_methodNamed Bd.named, (name_of_methodNamed Bd.named Bd.method).1, by rw [hh]; exact hE, by rw [hh]; exact hP0, hPn hE⟩
  have X0 : Stand p l e rm s m args below meth c s₁ [] 0 0 := Stand.of_body Bd
  have e0 : s₁.heap = h0 := by rw [← hh, Bd.state]; rfl
  obtain ⟨u, o, h1, h2, h3, v, L, rfl, ⟨hQ, hN⟩, hF⟩ := body p e s m below meth c C hh s₁ ⟨s.vm, 0, [], 0, 0, X0, e0, fun _ q => (nomatch q), Nat.le_refl _, Nat.le_refl _, (State.WarmedH.refl s).since 0, Nat.zero_le _, fun _ => rfl, hJ, hJs⟩
  refine ⟨u, _, castTop (hef m) h1, h2, h3, v, L, rfl, ⟨hQ, hN, ?_⟩, hF.2⟩
  rw [← hh]
  exact oKp.of_same (t := { u with vm := s.vm }) hF.2.2.2.2 hN
theorem oMeets.mono {rm : Room} {as' : Array Value} {h0 : Heap} {Q Q' : Option Value → Heap → Prop} (M : oMeets l Z y B ml rt rm as' h0 P Q) (i : ∀ v h, Q v h → Q' v h) : oMeets l Z y B ml rt rm as' h0 P Q' := fun hE ws p e h1 h2 h3 s m a d h4 h5 h6 h7 => by
  obtain ⟨n, o, g1, g2, g3, v, L, rfl, ⟨hQ, r⟩, hF⟩ := M hE ws p e h1 h2 h3 s m a d h4 h5 h6 h7
  exact ⟨n, _, g1, g2, g3, v, L, rfl, ⟨i _ _ hQ, r⟩, hF⟩
theorem oWP.step {g g' : JFrame} (st : ∀ T, At T m c below → ∀ target, Steps p.tables e below (T.setTop g') target → Steps p.tables e below (T.setTop g) target) (K : oWP b p l e R s m args below meth c P Q J h k n g') : oWP b p l e R s m args below meth c P Q J h k n g := fun T hT => by
  obtain ⟨u, o, h1, h2⟩ := K T hT
  obtain ⟨_, _, _, _, _, X, -⟩ := hT
  exact ⟨u, o, st T X.here u h1, h2⟩
theorem oWP.stepX {g g' : JFrame} (st : ∀ s' T locs ck cn, Stand p l e R s' m args below meth c T locs ck cn → ∀ target, Steps p.tables e below (T.setTop g') target → Steps p.tables e below (T.setTop g) target) (K : oWP b p l e R s m args below meth c P Q J h k n g') : oWP b p l e R s m args below meth c P Q J h k n g := fun T hT => by
  obtain ⟨u, o, h1, h2⟩ := K T hT
  obtain ⟨_, _, _, _, _, X, -⟩ := hT
  exact ⟨u, o, st _ T _ _ _ X u h1, h2⟩
/-- a step by a law that hands back a new state over the same heap -/
theorem oWP.law {g g' : JFrame} (K : oWP b p l e R s m args below meth c P Q J h k n g') (C : oCx p s m meth c P Z y B ml rt) (st : ∀ s', oCx p s' m meth c P Z y B ml rt → ∀ T locs ck cn, Stand p l e R s' m args below meth c T locs ck cn → T.heap = h → ∃ T', Stand p l e R s' m args below meth c T' locs ck cn ∧ T'.heap = h ∧ ∀ target, Steps p.tables e below (T'.setTop g') target → Steps p.tables e below (T.setTop g) target) : oWP b p l e R s m args below meth c P Q J h k n g := fun T hT => by
  obtain ⟨vm0, k0, locs, ck, cn, X, eT, N, q1, q2, hS, hk0, hbv, hJ⟩ := hT
  obtain ⟨T', X', e', st'⟩ := st _ (C.rebase hS) T locs ck cn X eT
  obtain ⟨u, o, h1, h2⟩ := K T' ⟨vm0, k0, locs, ck, cn, X', e', N, q1, q2, hS, hk0, hbv, hJ⟩
  exact ⟨u, o, st' u h1, h2⟩
theorem oWP.more {g : JFrame} {k' n' : Nat} (K : oWP b p l e R s m args below meth c P Q J h k' n' g) (hk : k ≤ k') (hn : n ≤ n') : oWP b p l e R s m args below meth c P Q J h k n g := fun T hT => by
  obtain ⟨vm0, k0, locs, ck, cn, X, eT, N, q1, q2, r⟩ := hT
  exact K T ⟨vm0, k0, locs, ck, cn, X, eT, N, Nat.le_trans q1 hk, Nat.le_trans q2 hn, r⟩
theorem oSd.old {T : State} (C : oCx p s m meth c P Z y B ml rt) (hT : oSd b p l e R s m args below meth c P J h k n T) : Ext Z.heap h ∧ s.heap.size ≤ h.size ∧ oKp P s.heap h := by
  obtain ⟨vm0, k0, locs, ck, cn, X, rfl, N, -⟩ := hT
  have K : oKp P s.heap T.heap := oKp.of_same (s := s.setVm vm0) (t := T.setVm (s.setVm vm0).vm) X.same N
  refine ⟨⟨Nat.le_trans C.old.1 K.1, fun a cl ha => ?_⟩, K.1, K⟩
  obtain ⟨c', e1, -, -, -, e5⟩ := K.2 a cl (C.old.2 a cl ha)
  rw [e5 fun q => absurd (C.young a q) (Nat.not_le.mpr (Array.getElem?_eq_some_iff.mp ha).1)] at e1
  exact e1
/-- what stood at the start stands here; the heap only grew; and what the body kept so far -/
theorem K_old {g : JFrame} (C : oCx p s m meth c P Z y B ml rt) (K : Ext Z.heap h → s.heap.size ≤ h.size → oKp P s.heap h → oWP b p l e R s m args below meth c P Q J h k n g) : oWP b p l e R s m args below meth c P Q J h k n g := fun T hT => by
  obtain ⟨h1, h2, h3⟩ := oSd.old C hT
  exact K h1 h2 h3 T hT
variable {pc : Nat} {Ls : List Slot} {S : List Value}
theorem K_iloadN (C : oCx p s m meth c P Z y B ml rt) {i : Fin 4} {v : Int32} (hd : decode B pc = .ok (.iload_n i, 1)) (hl : (Array.mk Ls)[i.val]? = some (.val (.int v))) (K : oWP b p l e R s m args below meth c P Q J h k n (oF m (pc + 1) Ls ((.int v) :: S))) : oWP b p l e R s m args below meth c P Q J h k n (oF m pc Ls S) := K.step fun _ A _ => XS.iloadN A C.1 rfl (hb C.2.1 hd) hl
theorem K_iload (C : oCx p s m meth c P Z y B ml rt) {i : Nat} {v : Int32} (hd : decode B pc = .ok (.iload i, 2)) (hl : (Array.mk Ls)[i]? = some (.val (.int v))) (K : oWP b p l e R s m args below meth c P Q J h k n (oF m (pc + 2) Ls ((.int v) :: S))) : oWP b p l e R s m args below meth c P Q J h k n (oF m pc Ls S) := K.step fun _ A _ => XS.iload A C.1 rfl (hb C.2.1 hd) hl
theorem K_lloadN (C : oCx p s m meth c P Z y B ml rt) {i : Fin 4} {v : Int64} (hd : decode B pc = .ok (.lload_n i, 1)) (hl : (Array.mk Ls)[i.val]? = some (.val (.long v))) (K : oWP b p l e R s m args below meth c P Q J h k n (oF m (pc + 1) Ls ((.long v) :: S))) : oWP b p l e R s m args below meth c P Q J h k n (oF m pc Ls S) := K.step fun _ A _ => XT.lloadN A C.1 rfl (hb C.2.1 hd) hl
theorem K_lload (C : oCx p s m meth c P Z y B ml rt) {i : Nat} {v : Int64} (hd : decode B pc = .ok (.lload i, 2)) (hl : (Array.mk Ls)[i]? = some (.val (.long v))) (K : oWP b p l e R s m args below meth c P Q J h k n (oF m (pc + 2) Ls ((.long v) :: S))) : oWP b p l e R s m args below meth c P Q J h k n (oF m pc Ls S) := K.step fun _ A _ => XT.lload A C.1 rfl (hb C.2.1 hd) hl
theorem K_aloadN (C : oCx p s m meth c P Z y B ml rt) {i : Fin 4} {v : Value} (hd : decode B pc = .ok (.aload_n i, 1)) (hl : (Array.mk Ls)[i.val]? = some (.val v)) (hv : v.isRef = true) (K : oWP b p l e R s m args below meth c P Q J h k n (oF m (pc + 1) Ls (v :: S))) : oWP b p l e R s m args below meth c P Q J h k n (oF m pc Ls S) := K.step fun _ A _ => XS.aloadN A C.1 rfl (hb C.2.1 hd) hl hv
theorem K_aload (C : oCx p s m meth c P Z y B ml rt) {i : Nat} {v : Value} (hd : decode B pc = .ok (.aload i, 2)) (hl : (Array.mk Ls)[i]? = some (.val v)) (hv : v.isRef = true) (K : oWP b p l e R s m args below meth c P Q J h k n (oF m (pc + 2) Ls (v :: S))) : oWP b p l e R s m args below meth c P Q J h k n (oF m pc Ls S) := K.step fun _ A _ => XS.aload A C.1 rfl (hb C.2.1 hd) hl hv
theorem K_istoreN (C : oCx p s m meth c P Z y B ml rt) {i : Fin 4} {v : Int32} {Ls' : List Slot} (hd : decode B pc = .ok (.istore_n i, 1)) (hl : storeLocals (Array.mk Ls) i.val (.int v) = some (Array.mk Ls')) (K : oWP b p l e R s m args below meth c P Q J h k n (oF m (pc + 1) Ls' S)) : oWP b p l e R s m args below meth c P Q J h k n (oF m pc Ls ((.int v) :: S)) := K.step fun _ A _ => XS.istoreN A C.1 rfl (hb C.2.1 hd) rfl hl
theorem K_istore (C : oCx p s m meth c P Z y B ml rt) {i : Nat} {v : Int32} {Ls' : List Slot} (hd : decode B pc = .ok (.istore i, 2)) (hl : storeLocals (Array.mk Ls) i (.int v) = some (Array.mk Ls')) (K : oWP b p l e R s m args below meth c P Q J h k n (oF m (pc + 2) Ls' S)) : oWP b p l e R s m args below meth c P Q J h k n (oF m pc Ls ((.int v) :: S)) := K.step fun _ A _ => XS.istore A C.1 rfl (hb C.2.1 hd) rfl hl
theorem K_lstoreN (C : oCx p s m meth c P Z y B ml rt) {i : Fin 4} {v : Int64} {Ls' : List Slot} (hd : decode B pc = .ok (.lstore_n i, 1)) (hl : storeLocals (Array.mk Ls) i.val (.long v) = some (Array.mk Ls')) (K : oWP b p l e R s m args below meth c P Q J h k n (oF m (pc + 1) Ls' S)) : oWP b p l e R s m args below meth c P Q J h k n (oF m pc Ls ((.long v) :: S)) := K.step fun _ A _ => XT.lstoreN A C.1 rfl (hb C.2.1 hd) rfl hl
theorem K_lstore (C : oCx p s m meth c P Z y B ml rt) {i : Nat} {v : Int64} {Ls' : List Slot} (hd : decode B pc = .ok (.lstore i, 2)) (hl : storeLocals (Array.mk Ls) i (.long v) = some (Array.mk Ls')) (K : oWP b p l e R s m args below meth c P Q J h k n (oF m (pc + 2) Ls' S)) : oWP b p l e R s m args below meth c P Q J h k n (oF m pc Ls ((.long v) :: S)) := K.step fun _ A _ => XT.lstore A C.1 rfl (hb C.2.1 hd) rfl hl
theorem K_astoreN (C : oCx p s m meth c P Z y B ml rt) {i : Fin 4} {v : Value} {Ls' : List Slot} (hd : decode B pc = .ok (.astore_n i, 1)) (hv : v.isRef = true) (hl : storeLocals (Array.mk Ls) i.val v = some (Array.mk Ls')) (K : oWP b p l e R s m args below meth c P Q J h k n (oF m (pc + 1) Ls' S)) : oWP b p l e R s m args below meth c P Q J h k n (oF m pc Ls (v :: S)) := K.step fun _ A _ => XS.astoreN A C.1 rfl (hb C.2.1 hd) rfl hv hl
theorem K_astore (C : oCx p s m meth c P Z y B ml rt) {i : Nat} {v : Value} {Ls' : List Slot} (hd : decode B pc = .ok (.astore i, 2)) (hv : v.isRef = true) (hl : storeLocals (Array.mk Ls) i v = some (Array.mk Ls')) (K : oWP b p l e R s m args below meth c P Q J h k n (oF m (pc + 2) Ls' S)) : oWP b p l e R s m args below meth c P Q J h k n (oF m pc Ls (v :: S)) := K.step fun _ A _ => XS.astore A C.1 rfl (hb C.2.1 hd) rfl hv hl
theorem K_iinc (C : oCx p s m meth c P Z y B ml rt) {i : Nat} {cst : Int} {v w : Int32} {Ls' : List Slot} (hd : decode B pc = .ok (.iinc i cst, 3)) (hc : Int32.ofInt cst = w) (hl : (Array.mk Ls)[i]? = some (.val (.int v))) (hl' : storeLocals (Array.mk Ls) i (.int (v + w)) = some (Array.mk Ls')) (K : oWP b p l e R s m args below meth c P Q J h k n (oF m (pc + 3) Ls' S)) : oWP b p l e R s m args below meth c P Q J h k n (oF m pc Ls S) := K.step fun _ A _ => XS.iinc A C.1 rfl (hb C.2.1 hd) hl (hc ▸ hl')
theorem K_iconst (C : oCx p s m meth c P Z y B ml rt) {i : Int} (v : Int32) (hd : decode B pc = .ok (.iconst i, 1)) (hv : Int32.ofInt i = v) (K : oWP b p l e R s m args below meth c P Q J h k n (oF m (pc + 1) Ls (.int v :: S))) : oWP b p l e R s m args below meth c P Q J h k n (oF m pc Ls S) := K.step fun _ A _ => XT.iconstV A C.1 rfl v (hb C.2.1 hd) hv
theorem K_bipush (C : oCx p s m meth c P Z y B ml rt) {i : Int} (v : Int32) (hd : decode B pc = .ok (.bipush i, 2)) (hv : (Int8.ofInt i).toInt32 = v) (K : oWP b p l e R s m args below meth c P Q J h k n (oF m (pc + 2) Ls (.int v :: S))) : oWP b p l e R s m args below meth c P Q J h k n (oF m pc Ls S) := K.step fun _ A _ => XT.bipushV A C.1 rfl v (hb C.2.1 hd) hv
theorem K_sipush (C : oCx p s m meth c P Z y B ml rt) {i : Int} (v : Int32) (hd : decode B pc = .ok (.sipush i, 3)) (hv : (Int16.ofInt i).toInt32 = v) (K : oWP b p l e R s m args below meth c P Q J h k n (oF m (pc + 3) Ls (.int v :: S))) : oWP b p l e R s m args below meth c P Q J h k n (oF m pc Ls S) := K.step fun _ A _ => XT.sipushV A C.1 rfl v (hb C.2.1 hd) hv
theorem K_lconst (C : oCx p s m meth c P Z y B ml rt) {i : Fin 2} (v : Int64) (hd : decode B pc = .ok (.lconst i, 1)) (hv : Int64.ofNat i = v) (K : oWP b p l e R s m args below meth c P Q J h k n (oF m (pc + 1) Ls (.long v :: S))) : oWP b p l e R s m args below meth c P Q J h k n (oF m pc Ls S) := K.step fun _ A _ => XT.lconstV A C.1 rfl v (hb C.2.1 hd) hv
theorem K_aconst_null (C : oCx p s m meth c P Z y B ml rt)  (hd : decode B pc = .ok (.aconst_null, 1)) (K : oWP b p l e R s m args below meth c P Q J h k n (oF m (pc + 1) Ls (.null :: S))) : oWP b p l e R s m args below meth c P Q J h k n (oF m pc Ls (S)) := K.step fun _ A _ => XS.aconstNull A C.1 rfl (hb C.2.1 hd)
theorem K_dup (C : oCx p s m meth c P Z y B ml rt) {v : Value} (hd : decode B pc = .ok (.dup, 1)) (hc : v.category = 1) (K : oWP b p l e R s m args below meth c P Q J h k n (oF m (pc + 1) Ls (v :: v :: S))) : oWP b p l e R s m args below meth c P Q J h k n (oF m pc Ls (v :: S)) := K.step fun _ A _ => XS.dup A C.1 rfl (hb C.2.1 hd) rfl hc
theorem K_dup_x1 (C : oCx p s m meth c P Z y B ml rt) {v w : Value} (hd : decode B pc = .ok (.dup_x1, 1)) (hc : v.category = 1) (hc' : w.category = 1) (K : oWP b p l e R s m args below meth c P Q J h k n (oF m (pc + 1) Ls (v :: w :: v :: S))) : oWP b p l e R s m args below meth c P Q J h k n (oF m pc Ls (v :: w :: S)) := K.step fun _ A _ => XT.dupX1 A C.1 rfl (hb C.2.1 hd) rfl hc hc'
theorem K_dup2 (C : oCx p s m meth c P Z y B ml rt) {v w : Value} (hd : decode B pc = .ok (.dup2, 1)) (hc : v.category = 1) (hc' : w.category = 1) (K : oWP b p l e R s m args below meth c P Q J h k n (oF m (pc + 1) Ls (v :: w :: v :: w :: S))) : oWP b p l e R s m args below meth c P Q J h k n (oF m pc Ls (v :: w :: S)) := K.step fun _ A _ => XT.dup2 A C.1 rfl (hb C.2.1 hd) rfl hc hc'
theorem K_pop (C : oCx p s m meth c P Z y B ml rt) {v : Value} (hd : decode B pc = .ok (.pop, 1)) (hc : v.category = 1) (K : oWP b p l e R s m args below meth c P Q J h k n (oF m (pc + 1) Ls (S))) : oWP b p l e R s m args below meth c P Q J h k n (oF m pc Ls (v :: S)) := K.step fun _ A _ => XT.pop A C.1 rfl (hb C.2.1 hd) rfl hc
theorem K_goto (C : oCx p s m meth c P Z y B ml rt) {o : Int} (q : Nat) (hd : decode B pc = .ok (.goto o, 3)) (ho : 0 ≤ (pc : Int) + o) (hp : ((pc : Int) + o).toNat = q) (K : oWP b p l e R s m args below meth c P Q J h k n (oF m q Ls S)) : oWP b p l e R s m args below meth c P Q J h k n (oF m pc Ls S) := K.step fun _ A _ => XS.goto A C.1 rfl rfl (hb C.2.1 hd) ho hp
theorem K_if (C : oCx p s m meth c P Z y B ml rt) {cd : ClassFile.Cond} {x : Int32} {o : Int} (q : Nat) (hd : decode B pc = .ok (.ifCond cd o, 3)) (ho : 0 ≤ (pc : Int) + o) (hp : ((pc : Int) + o).toNat = q) (K1 : oC cd x 0 → oWP b p l e R s m args below meth c P Q J h k n (oF m q Ls S)) (K2 : ¬ oC cd x 0 → oWP b p l e R s m args below meth c P Q J h k n (oF m (pc + 3) Ls S)) : oWP b p l e R s m args below meth c P Q J h k n (oF m pc Ls (.int x :: S)) := by
  rcases oC_cases cd x 0 with ⟨h1, h2⟩ | ⟨h1, h2⟩
  · exact (K1 h2).step fun _ A _ => XS.ifYes A C.1 rfl rfl (hb C.2.1 hd) rfl ((if0 _ _).trans h1) ho hp
  · exact (K2 h2).step fun _ A _ => XS.ifNo A C.1 rfl (hb C.2.1 hd) rfl ((if0 _ _).trans h1)
theorem K_icmp (C : oCx p s m meth c P Z y B ml rt) {cd : ClassFile.Cond} {x w : Int32} {o : Int} (q : Nat) (hd : decode B pc = .ok (.if_icmp cd o, 3)) (ho : 0 ≤ (pc : Int) + o) (hp : ((pc : Int) + o).toNat = q) (K1 : oC cd x w → oWP b p l e R s m args below meth c P Q J h k n (oF m q Ls S)) (K2 : ¬ oC cd x w → oWP b p l e R s m args below meth c P Q J h k n (oF m (pc + 3) Ls S)) : oWP b p l e R s m args below meth c P Q J h k n (oF m pc Ls (.int w :: .int x :: S)) := by
  rcases oC_cases cd x w with ⟨h1, h2⟩ | ⟨h1, h2⟩
  · exact (K1 h2).step fun _ A _ => XS.icmpYes A C.1 rfl rfl (hb C.2.1 hd) rfl h1 ho hp
  · exact (K2 h2).step fun _ A _ => XS.icmpNo A C.1 rfl (hb C.2.1 hd) rfl h1
theorem K_acmp (C : oCx p s m meth c P Z y B ml rt) {cd : ACond} {x w : Value} {o : Int} (q : Nat) (hd : decode B pc = .ok (.if_acmp cd o, 3)) (h1 : x.isRef = true) (h2 : w.isRef = true) (ho : 0 ≤ (pc : Int) + o) (hp : ((pc : Int) + o).toNat = q)
    (K1 : oA cd x w → oWP b p l e R s m args below meth c P Q J h k n (oF m q Ls S)) (K2 : ¬ oA cd x w → oWP b p l e R s m args below meth c P Q J h k n (oF m (pc + 3) Ls S)) : oWP b p l e R s m args below meth c P Q J h k n (oF m pc Ls (w :: x :: S)) := by
  rcases oA_cases cd x w with ⟨g1, g2⟩ | ⟨g1, g2⟩
  · exact (K1 g2).stepX fun _ T locs ck cn X target hr => RoadKit.acmp (g := oF m pc Ls (w :: x :: S)) X C.1 rfl h1 h2 (pc0 := pc) (pc' := q) rfl (hb C.2.1 hd) rfl rfl ho (by rw [g1, ← hp]; rfl) hr
  · exact (K2 g2).stepX fun _ T locs ck cn X target hr => RoadKit.acmp (g := oF m pc Ls (w :: x :: S)) X C.1 rfl h1 h2 (pc0 := pc) (pc' := pc + 3) rfl (hb C.2.1 hd) rfl rfl ho (by rw [g1]; rfl) hr
theorem K_ifnull_ref (C : oCx p s m meth c P Z y B ml rt) {a : Addr} {o : Int} (hd : decode B pc = .ok (.ifnull o, 3)) (K : oWP b p l e R s m args below meth c P Q J h k n (oF m (pc + 3) Ls S)) : oWP b p l e R s m args below meth c P Q J h k n (oF m pc Ls (.ref a :: S)) := K.step fun _ A _ => XS.ifnullNo A C.1 rfl (hb C.2.1 hd) rfl
theorem K_ifnull_null (C : oCx p s m meth c P Z y B ml rt) {o : Int} (q : Nat) (hd : decode B pc = .ok (.ifnull o, 3)) (ho : 0 ≤ (pc : Int) + o) (hp : ((pc : Int) + o).toNat = q) (K : oWP b p l e R s m args below meth c P Q J h k n (oF m q Ls S)) : oWP b p l e R s m args below meth c P Q J h k n (oF m pc Ls (.null :: S)) := K.step fun _ A _ => XS.ifnullYes A C.1 rfl rfl (hb C.2.1 hd) rfl ho hp
theorem K_ifnonnull_ref (C : oCx p s m meth c P Z y B ml rt) {a : Addr} {o : Int} (q : Nat) (hd : decode B pc = .ok (.ifnonnull o, 3)) (ho : 0 ≤ (pc : Int) + o) (hp : ((pc : Int) + o).toNat = q) (K : oWP b p l e R s m args below meth c P Q J h k n (oF m q Ls S)) : oWP b p l e R s m args below meth c P Q J h k n (oF m pc Ls (.ref a :: S)) := K.step fun _ A _ => XT.ifnonnullYes A C.1 rfl rfl (hb C.2.1 hd) rfl ho hp
theorem K_ifnonnull_null (C : oCx p s m meth c P Z y B ml rt) {o : Int} (hd : decode B pc = .ok (.ifnonnull o, 3)) (K : oWP b p l e R s m args below meth c P Q J h k n (oF m (pc + 3) Ls S)) : oWP b p l e R s m args below meth c P Q J h k n (oF m pc Ls (.null :: S)) := K.step fun _ A _ => XT.ifnonnullNo A C.1 rfl (hb C.2.1 hd) rfl
theorem K_tsw (C : oCx p s m meth c P Z y B ml rt) {dflt low high o : Int} {offs : Array Int} {len : Nat} {i : Int32} (q : Nat) (hd : decode B pc = .ok (.tableswitch dflt low high offs, len)) (hin : ¬ (i.toInt < low ∨ i.toInt > high)) (hoff : offs[(i.toInt - low).toNat]? = some o) (ho : 0 ≤ (pc : Int) + o) (hp : ((pc : Int) + o).toNat = q) (K : oWP b p l e R s m args below meth c P Q J h k n (oF m q Ls S)) : oWP b p l e R s m args below meth c P Q J h k n (oF m pc Ls (.int i :: S)) := K.step fun _ A _ => XS.tswIn (g := oF m pc Ls (.int i :: S)) A C.1 rfl (pc0 := pc) rfl (hb C.2.1 hd) rfl hin hoff ho hp
theorem K_tswOut (C : oCx p s m meth c P Z y B ml rt) {dflt low high : Int} {offs : Array Int} {len : Nat} {i : Int32} (q : Nat) (hd : decode B pc = .ok (.tableswitch dflt low high offs, len)) (hout : i.toInt < low ∨ i.toInt > high) (ho : 0 ≤ (pc : Int) + dflt) (hp : ((pc : Int) + dflt).toNat = q) (K : oWP b p l e R s m args below meth c P Q J h k n (oF m q Ls S)) : oWP b p l e R s m args below meth c P Q J h k n (oF m pc Ls (.int i :: S)) := K.step fun _ A _ => XS.tswOut (g := oF m pc Ls (.int i :: S)) A C.1 rfl (pc0 := pc) rfl (hb C.2.1 hd) rfl hout ho hp
theorem K_iadd (C : oCx p s m meth c P Z y B ml rt) {x w : Int32} (hd : decode B pc = .ok (.iadd, 1)) (K : oWP b p l e R s m args below meth c P Q J h k n (oF m (pc + 1) Ls (.int (x + w) :: S))) : oWP b p l e R s m args below meth c P Q J h k n (oF m pc Ls (.int w :: .int x :: S)) := K.step fun _ A _ => XS.iadd A C.1 rfl (hb C.2.1 hd) rfl
theorem K_isub (C : oCx p s m meth c P Z y B ml rt) {x w : Int32} (hd : decode B pc = .ok (.isub, 1)) (K : oWP b p l e R s m args below meth c P Q J h k n (oF m (pc + 1) Ls (.int (x - w) :: S))) : oWP b p l e R s m args below meth c P Q J h k n (oF m pc Ls (.int w :: .int x :: S)) := K.step fun _ A _ => XS.isub A C.1 rfl (hb C.2.1 hd) rfl
theorem K_iand (C : oCx p s m meth c P Z y B ml rt) {x w : Int32} (hd : decode B pc = .ok (.iand, 1)) (K : oWP b p l e R s m args below meth c P Q J h k n (oF m (pc + 1) Ls (.int (x &&& w) :: S))) : oWP b p l e R s m args below meth c P Q J h k n (oF m pc Ls (.int w :: .int x :: S)) := K.step fun _ A _ => XS.iand A C.1 rfl (hb C.2.1 hd) rfl
theorem K_imul (C : oCx p s m meth c P Z y B ml rt) {x w : Int32} (hd : decode B pc = .ok (.imul, 1)) (K : oWP b p l e R s m args below meth c P Q J h k n (oF m (pc + 1) Ls (.int (x * w) :: S))) : oWP b p l e R s m args below meth c P Q J h k n (oF m pc Ls (.int w :: .int x :: S)) := K.step fun _ A _ => XS.imul A C.1 rfl (hb C.2.1 hd) rfl
theorem K_ior (C : oCx p s m meth c P Z y B ml rt) {x w : Int32} (hd : decode B pc = .ok (.ior, 1)) (K : oWP b p l e R s m args below meth c P Q J h k n (oF m (pc + 1) Ls (.int (x ||| w) :: S))) : oWP b p l e R s m args below meth c P Q J h k n (oF m pc Ls (.int w :: .int x :: S)) := K.step fun _ A _ => XT.ior A C.1 rfl (hb C.2.1 hd) rfl
theorem K_ixor (C : oCx p s m meth c P Z y B ml rt) {x w : Int32} (hd : decode B pc = .ok (.ixor, 1)) (K : oWP b p l e R s m args below meth c P Q J h k n (oF m (pc + 1) Ls (.int (x ^^^ w) :: S))) : oWP b p l e R s m args below meth c P Q J h k n (oF m pc Ls (.int w :: .int x :: S)) := K.step fun _ A _ => XT.ixor A C.1 rfl (hb C.2.1 hd) rfl
theorem K_ishl (C : oCx p s m meth c P Z y B ml rt) {x w : Int32} (hd : decode B pc = .ok (.ishl, 1)) (K : oWP b p l e R s m args below meth c P Q J h k n (oF m (pc + 1) Ls (.int (x <<< (w &&& 31)) :: S))) : oWP b p l e R s m args below meth c P Q J h k n (oF m pc Ls (.int w :: .int x :: S)) := K.step fun _ A _ => XT.ishl A C.1 rfl (hb C.2.1 hd) rfl
theorem K_ishr (C : oCx p s m meth c P Z y B ml rt) {x w : Int32} (hd : decode B pc = .ok (.ishr, 1)) (K : oWP b p l e R s m args below meth c P Q J h k n (oF m (pc + 1) Ls (.int (x >>> (w &&& 31)) :: S))) : oWP b p l e R s m args below meth c P Q J h k n (oF m pc Ls (.int w :: .int x :: S)) := K.step fun _ A _ => XT.ishr A C.1 rfl (hb C.2.1 hd) rfl
theorem K_iushr (C : oCx p s m meth c P Z y B ml rt) {x w : Int32} (hd : decode B pc = .ok (.iushr, 1)) (K : oWP b p l e R s m args below meth c P Q J h k n (oF m (pc + 1) Ls (.int (XT.ushr x w) :: S))) : oWP b p l e R s m args below meth c P Q J h k n (oF m pc Ls (.int w :: .int x :: S)) := K.step fun _ A _ => XT.iushr A C.1 rfl (hb C.2.1 hd) rfl
theorem K_idiv (C : oCx p s m meth c P Z y B ml rt) {x w : Int32} (hd : decode B pc = .ok (.idiv, 1)) (hy : w ≠ 0) (K : oWP b p l e R s m args below meth c P Q J h k n (oF m (pc + 1) Ls (.int (x / w) :: S))) : oWP b p l e R s m args below meth c P Q J h k n (oF m pc Ls (.int w :: .int x :: S)) := K.step fun _ A _ => XS.idiv A C.1 rfl (hb C.2.1 hd) rfl hy
theorem K_ladd (C : oCx p s m meth c P Z y B ml rt) {x w : Int64} (hd : decode B pc = .ok (.ladd, 1)) (K : oWP b p l e R s m args below meth c P Q J h k n (oF m (pc + 1) Ls (.long (x + w) :: S))) : oWP b p l e R s m args below meth c P Q J h k n (oF m pc Ls (.long w :: .long x :: S)) := K.step fun _ A _ => XT.ladd A C.1 rfl (hb C.2.1 hd) rfl
theorem K_lsub (C : oCx p s m meth c P Z y B ml rt) {x w : Int64} (hd : decode B pc = .ok (.lsub, 1)) (K : oWP b p l e R s m args below meth c P Q J h k n (oF m (pc + 1) Ls (.long (x - w) :: S))) : oWP b p l e R s m args below meth c P Q J h k n (oF m pc Ls (.long w :: .long x :: S)) := K.step fun _ A _ => XT.lsub A C.1 rfl (hb C.2.1 hd) rfl
theorem K_lmul (C : oCx p s m meth c P Z y B ml rt) {x w : Int64} (hd : decode B pc = .ok (.lmul, 1)) (K : oWP b p l e R s m args below meth c P Q J h k n (oF m (pc + 1) Ls (.long (x * w) :: S))) : oWP b p l e R s m args below meth c P Q J h k n (oF m pc Ls (.long w :: .long x :: S)) := K.step fun _ A _ => XT.lmul A C.1 rfl (hb C.2.1 hd) rfl
theorem K_land (C : oCx p s m meth c P Z y B ml rt) {x w : Int64} (hd : decode B pc = .ok (.land, 1)) (K : oWP b p l e R s m args below meth c P Q J h k n (oF m (pc + 1) Ls (.long (x &&& w) :: S))) : oWP b p l e R s m args below meth c P Q J h k n (oF m pc Ls (.long w :: .long x :: S)) := K.step fun _ A _ => XT.land A C.1 rfl (hb C.2.1 hd) rfl
theorem K_lor (C : oCx p s m meth c P Z y B ml rt) {x w : Int64} (hd : decode B pc = .ok (.lor, 1)) (K : oWP b p l e R s m args below meth c P Q J h k n (oF m (pc + 1) Ls (.long (x ||| w) :: S))) : oWP b p l e R s m args below meth c P Q J h k n (oF m pc Ls (.long w :: .long x :: S)) := K.step fun _ A _ => XT.lor A C.1 rfl (hb C.2.1 hd) rfl
theorem K_lxor (C : oCx p s m meth c P Z y B ml rt) {x w : Int64} (hd : decode B pc = .ok (.lxor, 1)) (K : oWP b p l e R s m args below meth c P Q J h k n (oF m (pc + 1) Ls (.long (x ^^^ w) :: S))) : oWP b p l e R s m args below meth c P Q J h k n (oF m pc Ls (.long w :: .long x :: S)) := K.step fun _ A _ => XT.lxor A C.1 rfl (hb C.2.1 hd) rfl
theorem K_ldiv (C : oCx p s m meth c P Z y B ml rt) {x w : Int64} (hd : decode B pc = .ok (.ldiv, 1)) (hy : w ≠ 0) (K : oWP b p l e R s m args below meth c P Q J h k n (oF m (pc + 1) Ls (.long (x / w) :: S))) : oWP b p l e R s m args below meth c P Q J h k n (oF m pc Ls (.long w :: .long x :: S)) := K.step fun _ A _ => XT.ldiv A C.1 rfl (hb C.2.1 hd) rfl hy
theorem K_irem (C : oCx p s m meth c P Z y B ml rt) {x w : Int32} (hd : decode B pc = .ok (.irem, 1)) (hy : w ≠ 0) (K : oWP b p l e R s m args below meth c P Q J h k n (oF m (pc + 1) Ls (.int (x % w) :: S))) : oWP b p l e R s m args below meth c P Q J h k n (oF m pc Ls (.int w :: .int x :: S)) := K.stepX fun _ T _ _ _ X _ hr => iremM X C.1 rfl (hb C.2.1 hd) rfl hy hr
theorem K_lrem (C : oCx p s m meth c P Z y B ml rt) {x w : Int64} (hd : decode B pc = .ok (.lrem, 1)) (hy : w ≠ 0) (K : oWP b p l e R s m args below meth c P Q J h k n (oF m (pc + 1) Ls (.long (x - (x / w) * w) :: S))) : oWP b p l e R s m args below meth c P Q J h k n (oF m pc Ls (.long w :: .long x :: S)) := K.step fun _ A _ => XT.lrem A C.1 rfl (hb C.2.1 hd) rfl hy
theorem K_lshl (C : oCx p s m meth c P Z y B ml rt) {x : Int64} {w : Int32} (hd : decode B pc = .ok (.lshl, 1)) (K : oWP b p l e R s m args below meth c P Q J h k n (oF m (pc + 1) Ls (.long (x <<< (w.toInt64 &&& 63)) :: S))) : oWP b p l e R s m args below meth c P Q J h k n (oF m pc Ls (.int w :: .long x :: S)) := K.step fun _ A _ => XT.lshl A C.1 rfl (hb C.2.1 hd) rfl
theorem K_lshr (C : oCx p s m meth c P Z y B ml rt) {x : Int64} {w : Int32} (hd : decode B pc = .ok (.lshr, 1)) (K : oWP b p l e R s m args below meth c P Q J h k n (oF m (pc + 1) Ls (.long (x >>> (w.toInt64 &&& 63)) :: S))) : oWP b p l e R s m args below meth c P Q J h k n (oF m pc Ls (.int w :: .long x :: S)) := K.step fun _ A _ => XT.lshr A C.1 rfl (hb C.2.1 hd) rfl
theorem K_lushr (C : oCx p s m meth c P Z y B ml rt) {x : Int64} {w : Int32} (hd : decode B pc = .ok (.lushr, 1)) (K : oWP b p l e R s m args below meth c P Q J h k n (oF m (pc + 1) Ls (.long (XT.ushrL x w) :: S))) : oWP b p l e R s m args below meth c P Q J h k n (oF m pc Ls (.int w :: .long x :: S)) := K.step fun _ A _ => XT.lushr A C.1 rfl (hb C.2.1 hd) rfl
theorem K_ineg (C : oCx p s m meth c P Z y B ml rt) {x : Int32} (hd : decode B pc = .ok (.ineg, 1)) (K : oWP b p l e R s m args below meth c P Q J h k n (oF m (pc + 1) Ls (.int (-x) :: S))) : oWP b p l e R s m args below meth c P Q J h k n (oF m pc Ls (.int x :: S)) := K.step fun _ A _ => XS.ineg A C.1 rfl (hb C.2.1 hd) rfl
theorem K_lneg (C : oCx p s m meth c P Z y B ml rt) {x : Int64} (hd : decode B pc = .ok (.lneg, 1)) (K : oWP b p l e R s m args below meth c P Q J h k n (oF m (pc + 1) Ls (.long (-x) :: S))) : oWP b p l e R s m args below meth c P Q J h k n (oF m pc Ls (.long x :: S)) := K.step fun _ A _ => XT.lneg A C.1 rfl (hb C.2.1 hd) rfl
theorem K_i2l (C : oCx p s m meth c P Z y B ml rt) {x : Int32} (hd : decode B pc = .ok (.i2l, 1)) (K : oWP b p l e R s m args below meth c P Q J h k n (oF m (pc + 1) Ls (.long (x.toInt64) :: S))) : oWP b p l e R s m args below meth c P Q J h k n (oF m pc Ls (.int x :: S)) := K.step fun _ A _ => XT.i2l A C.1 rfl (hb C.2.1 hd) rfl
theorem K_l2i (C : oCx p s m meth c P Z y B ml rt) {x : Int64} (hd : decode B pc = .ok (.l2i, 1)) (K : oWP b p l e R s m args below meth c P Q J h k n (oF m (pc + 1) Ls (.int (x.toInt32) :: S))) : oWP b p l e R s m args below meth c P Q J h k n (oF m pc Ls (.long x :: S)) := K.step fun _ A _ => XT.l2i A C.1 rfl (hb C.2.1 hd) rfl
theorem K_i2b (C : oCx p s m meth c P Z y B ml rt) {x : Int32} (hd : decode B pc = .ok (.i2b, 1)) (K : oWP b p l e R s m args below meth c P Q J h k n (oF m (pc + 1) Ls (.int (x.toInt8.toInt32) :: S))) : oWP b p l e R s m args below meth c P Q J h k n (oF m pc Ls (.int x :: S)) := K.step fun _ A _ => XT.i2b A C.1 rfl (hb C.2.1 hd) rfl
theorem K_i2c (C : oCx p s m meth c P Z y B ml rt) {x : Int32} (hd : decode B pc = .ok (.i2c, 1)) (K : oWP b p l e R s m args below meth c P Q J h k n (oF m (pc + 1) Ls (.int (x.toUInt32.toUInt16.toUInt32.toInt32) :: S))) : oWP b p l e R s m args below meth c P Q J h k n (oF m pc Ls (.int x :: S)) := K.step fun _ A _ => XT.i2c A C.1 rfl (hb C.2.1 hd) rfl
theorem K_i2s (C : oCx p s m meth c P Z y B ml rt) {x : Int32} (hd : decode B pc = .ok (.i2s, 1)) (K : oWP b p l e R s m args below meth c P Q J h k n (oF m (pc + 1) Ls (.int (x.toInt16.toInt32) :: S))) : oWP b p l e R s m args below meth c P Q J h k n (oF m pc Ls (.int x :: S)) := K.step fun _ A _ => XT.i2s A C.1 rfl (hb C.2.1 hd) rfl
theorem K_lcmp (C : oCx p s m meth c P Z y B ml rt) {x w : Int64} (hd : decode B pc = .ok (.lcmp, 1)) (K : oWP b p l e R s m args below meth c P Q J h k n (oF m (pc + 1) Ls (.int (XT.cmpL x w) :: S))) : oWP b p l e R s m args below meth c P Q J h k n (oF m pc Ls (.long w :: .long x :: S)) := K.step fun _ A _ => XT.lcmp A C.1 rfl (hb C.2.1 hd) rfl
theorem K_ret (C : oCx p s m meth c P Z y B ml rt) {v : Option Value} {g : JFrame} (hv : rt = none → v = none) (hk : k ≤ R.cells) (hn : n ≤ R.slots) (hQ : ∀ vm, J vm → Q v h vm)
    (st : ∀ s' T locs ck cn, Stand p l e R s' m args below meth c T locs ck cn → ∀ fs, (∀ (f : JFrame) (acts : List Action), f.method = m → f.locked = none → f.entered = [] → (doReturn e (T.setTop f) acts v).1 = T.setFrames fs) → Steps p.tables e below (T.setTop g) (T.setFrames fs)) : oWP b p l e R s m args below meth c P Q J h k n g := fun T hT => by
  obtain ⟨vm0, k0, locs, ck, cn, X, eT, N, q1, q2, hS, hk0, hbv, hJ⟩ := hT
  obtain ⟨fs, hr, hrun, hended, hW, hsame⟩ := X.leave (v := v) (by rw [C.hrt]; exact hv) C.locks
  obtain ⟨r1, r2, r3⟩ := hS.ended (U := T.setFrames fs) hW (by show k0 ≤ T.heap.size; rw [eT]; exact hk0) hsame
  have hs3 := r3.mono (Nat.le_trans q1 hk) (Nat.le_trans q2 hn)
  refine ⟨_, _, st _ T _ _ _ X fs hr, hrun, hended, _, _, rfl, ⟨?_, N⟩, fun hb => ⟨⟨_, rfl⟩, ?_, hs3⟩, ⟨_, rfl⟩, r1, r2, hs3⟩
  · show Q v T.heap T.vm
    rw [eT]; exact hQ _ (hJ.2 (s.setVm vm0) _ hJ.1 X.warmed)
  · have hb' := hbv hb
    subst hb'
    exact hW
theorem K_ireturn {t : FieldType} (C : oCx p s m meth c P Z y B ml (some t)) {z z' : Int32} (hd : decode B pc = .ok (.ireturn, 1)) (ht : t = .int ∨ t = .boolean ∨ t = .byte ∨ t = .char ∨ t = .short) (hz : nar t z = z') (hk : k ≤ R.cells) (hn : n ≤ R.slots) (hQ : ∀ vm, J vm → Q (some (.int z')) h vm) : oWP b p l e R s m args below meth c P Q J h k n (oF m pc Ls (.int z :: S)) := by
  subst hz
  refine K_ret C (v := some (.int (nar t z))) (fun q => nomatch q) hk hn hQ fun _ T locs ck cn X fs hr => ?_
  rcases ht with rfl | ht
  · exact retOut X C.1 C.hrt rfl (Or.inl ⟨rfl, Or.inl rfl, z, rfl⟩) (hb C.2.1 hd) hr
  · exact retN X C.1 C.hrt ht (hb C.2.1 hd) hr
theorem K_areturn {t : FieldType} (C : oCx p s m meth c P Z y B ml (some t)) {w : Value} (hd : decode B pc = .ok (.areturn, 1)) (ht : t.isReference = true) (hw : w.isRef = true) (hnw : narrow t w = w) (hk : k ≤ R.cells) (hn : n ≤ R.slots) (hQ : ∀ vm, J vm → Q (some w) h vm) : oWP b p l e R s m args below meth c P Q J h k n (oF m pc Ls (w :: S)) :=
  K_ret C (fun q => nomatch q) hk hn hQ fun _ T locs ck cn X fs hr => retOut X C.1 C.hrt hnw (Or.inr (Or.inr (Or.inr (Or.inr ⟨rfl, ht, hw⟩)))) (hb C.2.1 hd) hr
theorem K_lreturn (C : oCx p s m meth c P Z y B ml (some .long)) {w : Int64} (hd : decode B pc = .ok (.lreturn, 1)) (hk : k ≤ R.cells) (hn : n ≤ R.slots) (hQ : ∀ vm, J vm → Q (some (.long w)) h vm) : oWP b p l e R s m args below meth c P Q J h k n (oF m pc Ls (.long w :: S)) :=
  K_ret C (fun q => nomatch q) hk hn hQ fun _ T locs ck cn X fs hr => retOut X C.1 C.hrt rfl (Or.inr (Or.inl ⟨rfl, rfl, w, rfl⟩)) (hb C.2.1 hd) hr
theorem K_return (C : oCx p s m meth c P Z y B ml none) (hd : decode B pc = .ok (.return_, 1)) (hk : k ≤ R.cells) (hn : n ≤ R.slots) (hQ : ∀ vm, J vm → Q none h vm) : oWP b p l e R s m args below meth c P Q J h k n (oF m pc Ls []) :=
  K_ret C (fun _ => rfl) hk hn hQ fun _ T locs ck cn X fs hr => X.returnOut C.1 C.hrt (hb C.2.1 hd) hr
theorem K_ldcI (C : oCx p s m meth c P Z y B ml rt) {idx : Nat} {v : Int32} (w : (Jvm.Cond.constant y.cls idx v).before a0 Z = true) (hd : decode B pc = .ok (.ldc idx, 2)) (K : oWP b p l e R s m args below meth c P Q J h k n (oF m (pc + 2) Ls (.int v :: S))) : oWP b p l e R s m args below meth c P Q J h k n (oF m pc Ls S) := K.law C fun _ C T _ _ _ X eT => ⟨T, X, eT, X.ldcInt C.1 C.own (mvT C.hZ w) (g := oF m pc Ls S) rfl (hb C.2.1 hd)⟩
theorem K_ldcwI (C : oCx p s m meth c P Z y B ml rt) {idx : Nat} {v : Int32} (w : (Jvm.Cond.constant y.cls idx v).before a0 Z = true) (hd : decode B pc = .ok (.ldc_w idx, 3)) (K : oWP b p l e R s m args below meth c P Q J h k n (oF m (pc + 3) Ls (.int v :: S))) : oWP b p l e R s m args below meth c P Q J h k n (oF m pc Ls S) := K.law C fun _ C T _ _ _ X eT => ⟨T, X, eT, X.ldcwInt C.1 C.own (mvT C.hZ w) (g := oF m pc Ls S) rfl (hb C.2.1 hd)⟩
theorem K_ldc2J (C : oCx p s m meth c P Z y B ml rt) {idx : Nat} {v : Int64} (w : (Jvm.Cond.constantLong y.cls idx v).before a0 Z = true) (hd : decode B pc = .ok (.ldc2_w idx, 3)) (K : oWP b p l e R s m args below meth c P Q J h k n (oF m (pc + 3) Ls (.long v :: S))) : oWP b p l e R s m args below meth c P Q J h k n (oF m pc Ls S) := K.law C fun _ C T _ _ _ X eT => ⟨T, X, eT, X.ldc2Long C.1 C.own (mvT C.hZ w) (g := oF m pc Ls S) rfl (hb C.2.1 hd)⟩
theorem K_ldcS (C : oCx p s m meth c P Z y B ml rt) {idx nn : Nat} {text : String} (w : (Jvm.Cond.stringLink y.cls idx text).before a0 Z = true) (wS : ∀ a ∈ Bundle.stringAtoms, a.before a0 Z = true) (hd : decode B pc = .ok (.ldc idx, 2)) (hnn : 4 * text.toList.length ≤ nn) (hbig : nn ≤ 536870912) (hk : k + 2 ≤ R.cells) (hn : n + (nn + 4) ≤ R.slots) (K : ∀ a h', Ext h h' → oWP true p l e R s m args below meth c P Q oT h' (k + 2) (n + (nn + 4)) (oF m (pc + 2) Ls (.ref a :: S))) : oWP true p l e R s m args below meth c P Q oT h k n (oF m pc Ls S) := fun T hT => by
  obtain ⟨vm0, k0, locs, ck, cn, X, eT, N, q1, q2, hS, hk0, hbv, hJ⟩ := hT
  have C' := C.rebase hS
  obtain ⟨a, T', h', k1, X', e', E, hS1, hk1, -, -, st⟩ := ldcS X C.1 C'.hZ C'.own w wS eT hS hk0 (g := oF m pc Ls S) rfl (hb C.2.1 hd) hnn hbig (by omega) (by omega)
  obtain ⟨u, o, g1, g2⟩ := K a h' E T' ⟨_, k1, locs, _, _, X', e', N, by omega, by omega, hS1, hk1, (fun q => nomatch q), trivial, oTs⟩
  exact ⟨u, o, st u g1, g2⟩
theorem K_ldcwS (C : oCx p s m meth c P Z y B ml rt) {idx nn : Nat} {text : String} (w : (Jvm.Cond.stringLink y.cls idx text).before a0 Z = true) (wS : ∀ a ∈ Bundle.stringAtoms, a.before a0 Z = true) (hd : decode B pc = .ok (.ldc_w idx, 3)) (hnn : 4 * text.toList.length ≤ nn) (hbig : nn ≤ 536870912) (hk : k + 2 ≤ R.cells) (hn : n + (nn + 4) ≤ R.slots) (K : ∀ a h', Ext h h' → oWP true p l e R s m args below meth c P Q oT h' (k + 2) (n + (nn + 4)) (oF m (pc + 3) Ls (.ref a :: S))) : oWP true p l e R s m args below meth c P Q oT h k n (oF m pc Ls S) := fun T hT => by
  obtain ⟨vm0, k0, locs, ck, cn, X, eT, N, q1, q2, hS, hk0, hbv, hJ⟩ := hT
  have C' := C.rebase hS
  obtain ⟨a, T', h', k1, X', e', E, hS1, hk1, -, -, st⟩ := ldcSW X C.1 C'.hZ C'.own w wS eT hS hk0 (g := oF m pc Ls S) rfl (hb C.2.1 hd) hnn hbig (by omega) (by omega)
  obtain ⟨u, o, g1, g2⟩ := K a h' E T' ⟨_, k1, locs, _, _, X', e', N, by omega, by omega, hS1, hk1, (fun q => nomatch q), trivial, oTs⟩
  exact ⟨u, o, st u g1, g2⟩
theorem K_getF (C : oCx p s m meth c P Z y B ml rt) {R0 O f d : String} {idx : Nat} {a : Addr} {v : Value} (w : (Jvm.Cond.fieldLink y.cls idx R0 f d).before a0 Z = true) (via : Via Z R0 O f d) (F : Fld Z h a O f d v) (hd : decode B pc = .ok (.getfield idx, 3)) (K : oWP b p l e R s m args below meth c P Q J h k n (oF m (pc + 3) Ls (v :: S))) : oWP b p l e R s m args below meth c P Q J h k n (oF m pc Ls (.ref a :: S)) := K.law C fun _ C T _ _ _ X eT => getF X C.1 C.hZ C.own (host := "") (Or.inl w) via eT F (g := oF m pc Ls (.ref a :: S)) rfl rfl (hb C.2.1 hd)
theorem K_getS (C : oCx p s m meth c P Z y B ml rt) {R0 O f d : String} {idx : Nat} {v : Value} (w : (Jvm.Cond.fieldLink y.cls idx R0 f d).before a0 Z = true) (via : Via Z R0 O f d) (F : Sta Z Z.heap O f d v) (hd : decode B pc = .ok (.getstatic idx, 3)) (K : oWP b p l e R s m args below meth c P Q J h k n (oF m (pc + 3) Ls (v :: S))) : oWP b p l e R s m args below meth c P Q J h k n (oF m pc Ls S) := K_old C fun hE _ _ => K.law C fun _ C T _ _ _ X eT => getS2 X C.1 C.hZ C.own (host := "") (Or.inl w) via eT (F.ext hE) (g := oF m pc Ls S) rfl (hb C.2.1 hd)
theorem K_putF (C : oCx p s m meth c P Z y B ml rt) {R0 O f d Cn : String} {idx kk : Nat} {ty : FieldType} {a : Addr} {v old : Value} (w : (Jvm.Cond.fieldLink y.cls idx R0 f d).before a0 Z = true) (via : Via Z R0 O f d) (F : Fld Z h a O f d old) (E : Exa Z h a Cn) (L : (Jvm.Cond.lays Cn O f d).before a0 Z = true ∨ ((Jvm.Cond.laysFinal Cn O f d).before a0 Z = true ∧ y.cls = O ∧ y.name = "<init>")) (wi : (Jvm.Cond.instantiable Cn kk).before a0 Z = true)
    (hty : parseFieldDescriptor d = some ty) (hnv : narrow ty v = v) (hf : fits ty v = true) (hP : P a) (hd : decode B pc = .ok (.putfield idx, 3)) (K : ∀ h', Wr h h' a (RoadKit.slotOf Z O f d) v → oWP b p l e R s m args below meth c P Q J h' k n (oF m (pc + 3) Ls S)) : oWP b p l e R s m args below meth c P Q J h k n (oF m pc Ls (v :: .ref a :: S)) := fun T hT => by
  obtain ⟨vm0, k0, locs, ck, cn, X, eT, N, q1, q2, hS, hk0, hbv, hJ⟩ := hT
  have C' := C.rebase hS
  obtain ⟨T', h', X', e', Wr1, st⟩ := putF X C.1 C'.hZ C'.own (host := "") (Or.inl w) via eT F E (L.imp id fun q => ⟨q.1, q.2.1, C.nm.trans q.2.2⟩) wi hty hnv hf (g := oF m pc Ls (v :: .ref a :: S)) rfl rfl (hb C.2.1 hd)
  obtain ⟨u, o, g1, g2⟩ := K h' Wr1 T' ⟨vm0, k0, _, ck, cn, X', e', N.snoc hP, q1, q2, hS, by rw [Wr1.size]; exact hk0, hbv, hJ⟩
  exact ⟨u, o, st u g1, g2⟩
theorem K_getFN (C : oCx p s m meth c P Z y B ml rt) {R0 O f d : String} {host : String} {idx : Nat} {a : Addr} {v : Value} (w : (Jvm.Cond.fieldLinkNest y.cls idx R0 f d host).before a0 Z = true) (via : Via Z R0 O f d) (F : Fld Z h a O f d v) (hd : decode B pc = .ok (.getfield idx, 3)) (K : oWP b p l e R s m args below meth c P Q J h k n (oF m (pc + 3) Ls (v :: S))) : oWP b p l e R s m args below meth c P Q J h k n (oF m pc Ls (.ref a :: S)) := K.law C fun _ C T _ _ _ X eT => getF X C.1 C.hZ C.own (Or.inr w) via eT F (g := oF m pc Ls (.ref a :: S)) rfl rfl (hb C.2.1 hd)
theorem K_getSN (C : oCx p s m meth c P Z y B ml rt) {R0 O f d : String} {host : String} {idx : Nat} {v : Value} (w : (Jvm.Cond.fieldLinkNest y.cls idx R0 f d host).before a0 Z = true) (via : Via Z R0 O f d) (F : Sta Z Z.heap O f d v) (hd : decode B pc = .ok (.getstatic idx, 3)) (K : oWP b p l e R s m args below meth c P Q J h k n (oF m (pc + 3) Ls (v :: S))) : oWP b p l e R s m args below meth c P Q J h k n (oF m pc Ls S) := K_old C fun hE _ _ => K.law C fun _ C T _ _ _ X eT => getS2 X C.1 C.hZ C.own (Or.inr w) via eT (F.ext hE) (g := oF m pc Ls S) rfl (hb C.2.1 hd)
theorem K_putFN (C : oCx p s m meth c P Z y B ml rt) {R0 O f d Cn : String} {host : String} {idx kk : Nat} {ty : FieldType} {a : Addr} {v old : Value} (w : (Jvm.Cond.fieldLinkNest y.cls idx R0 f d host).before a0 Z = true) (via : Via Z R0 O f d) (F : Fld Z h a O f d old) (E : Exa Z h a Cn) (L : (Jvm.Cond.lays Cn O f d).before a0 Z = true ∨ ((Jvm.Cond.laysFinal Cn O f d).before a0 Z = true ∧ y.cls = O ∧ y.name = "<init>")) (wi : (Jvm.Cond.instantiable Cn kk).before a0 Z = true)
    (hty : parseFieldDescriptor d = some ty) (hnv : narrow ty v = v) (hf : fits ty v = true) (hP : P a) (hd : decode B pc = .ok (.putfield idx, 3)) (K : ∀ h', Wr h h' a (RoadKit.slotOf Z O f d) v → oWP b p l e R s m args below meth c P Q J h' k n (oF m (pc + 3) Ls S)) : oWP b p l e R s m args below meth c P Q J h k n (oF m pc Ls (v :: .ref a :: S)) := fun T hT => by
  obtain ⟨vm0, k0, locs, ck, cn, X, eT, N, q1, q2, hS, hk0, hbv, hJ⟩ := hT
  have C' := C.rebase hS
  obtain ⟨T', h', X', e', Wr1, st⟩ := putF X C.1 C'.hZ C'.own (Or.inr w) via eT F E (L.imp id fun q => ⟨q.1, q.2.1, C.nm.trans q.2.2⟩) wi hty hnv hf (g := oF m pc Ls (v :: .ref a :: S)) rfl rfl (hb C.2.1 hd)
  obtain ⟨u, o, g1, g2⟩ := K h' Wr1 T' ⟨vm0, k0, _, ck, cn, X', e', N.snoc hP, q1, q2, hS, by rw [Wr1.size]; exact hk0, hbv, hJ⟩
  exact ⟨u, o, st u g1, g2⟩
theorem K_new (C : oCx p s m meth c P Z y B ml rt) {Cn : String} {idx sz : Nat} (w : (Jvm.Cond.classLink y.cls idx Cn).before a0 Z = true) (wi : (Jvm.Cond.instantiable Cn sz).before a0 Z = true) (wz : (Jvm.Cond.initialized Cn).before a0 Z = true) (hd : decode B pc = .ok (.new idx, 3)) (hk : k + 1 ≤ R.cells) (hn : n + sz ≤ R.slots)
    (K : ∀ h' a, a = h.size → P a → Ext h h' → Exa Z h' a Cn → (∀ {O nm d : String} {ty : FieldType}, Laid Z a0 Cn O nm d → parseFieldDescriptor d = some ty → Fld Z h' a O nm d (defaultValue ty)) → oWP b p l e R s m args below meth c P Q J h' (k + 1) (n + sz) (oF m (pc + 3) Ls (.ref a :: S))) : oWP b p l e R s m args below meth c P Q J h k n (oF m pc Ls S) := fun T hT => by
  have hO := oSd.old C hT
  obtain ⟨vm0, k0, locs, ck, cn, X, eT, N, q1, q2, hS, hk0, hbv, hJ⟩ := hT
  have C' := C.rebase hS
  obtain ⟨T', h', X', e', E, A, D, -, st⟩ := newO X C.1 C'.hZ C'.own w wi wz eT (g := oF m pc Ls S) rfl (hb C.2.1 hd) (by omega) (by omega)
  obtain ⟨u, o, g1, g2⟩ := K h' h.size rfl (C.new _ hO.2.1) E A D T' ⟨vm0, k0, locs, _, _, X', e', N, by omega, by omega, hS, Nat.le_trans hk0 E.1, hbv, hJ⟩
  exact ⟨u, o, st u g1, g2⟩
theorem K_initO (C : oCx p s m meth c P Z y B ml rt) {idx : Nat} {a : Addr} (w1 : (Jvm.Cond.methodLink y.cls idx Lib.objectInit).before a0 Z = true) (w2 : (Jvm.Cond.instanceMethod Lib.objectInit).before a0 Z = true) (w3 : (Jvm.Cond.code Lib.objectInit ⟨#[0xb1]⟩ 1 none).before a0 Z = true) (hd : decode B pc = .ok (.invokespecial idx, 3)) (hml : Ls.length = ml) (hf : 1 ≤ R.frames) (hl : (S.map fun v => v.category).sum + 12 ≤ R.locals) (K : oWP b p l e R s m args below meth c P Q J h k n (oF m (pc + 3) Ls S)) : oWP b p l e R s m args below meth c P Q J h k n (oF m pc Ls (.ref a :: S)) :=
  K.law C fun _ C T _ _ _ X eT => initO X C.1 C.hZ C.own w1 w2 w3 eT (g := oF m pc Ls (.ref a :: S)) rfl (by rw [C.hml]; exact hml) rfl (hb C.2.1 hd) hf (W := (S.map fun v => v.category).sum) (by show 2 * 0 + _ ≤ _; exact Nat.le_of_eq (Nat.zero_add _)) hl
theorem oBackW {s' : State} {z : MethodName} {B' : ByteArray} {ml' len W : Nat} {rt' : Option FieldType} {rm : Room} {as' : Array Value} {P' : Addr → Prop} {J' : Vm → Prop} {Q' : Option Value → Heap → Vm → Prop}
    (M : oMeetsW l Z z B' ml' rt' rm as' h P' J' Q') (hE : Ext Z.heap h) (hZ : Z.Warmed39 s'.vm) (wc : (Jvm.Cond.code z B' ml' rt').before a0 Z = true) (wz : (Jvm.Cond.initialized z.cls).before a0 Z = true) (hf : rm.frames + 1 ≤ R.frames) (hl : W + (ml' + 11) + rm.locals ≤ R.locals) :
    BackS l R p e below s' args z len W (fun A a => a = as' ∧ A.U.heap = h ∧ A.cells + rm.cells ≤ R.cells ∧ A.slots + rm.slots ≤ R.slots ∧ J' A.U.vm)
      (fun A _ v B => ∃ L, (Q' v B.U.heap B.U.vm ∧ oAl P' L ∧ oKp P' h B.U.heap) ∧ B.locs = A.locs ++ L ∧ B.cells = A.cells + rm.cells ∧ B.slots = A.slots + rm.slots) :=
  BackS.of_freeW (bytes := B') (maxL := ml') (ret := rt') (E := fun _ _ o t L k n => k = rm.cells ∧ n = rm.slots ∧ ∃ v, o = .returned v ∧ (Q' v t.heap t.vm ∧ oAl P' L ∧ oKp P' h t.heap)) (M hE []) hf hl
    (fun m meth c A a Y hp => have hU : Z.Warmed39 A.U.vm := wtrans hZ Y.warmed
      ⟨by show (Jvm.Cond.and _ .tt).before a A.U = true; rw [Cond.before_and, mv hU wc]; rfl, mv hU wc, mv hU wz, hp.2.2.1, hp.2.2.2.1⟩)
    (fun m meth c A a g mk Y hp => ⟨hp.1, wtrans hZ Y.warmed, hp.2.1, hp.2.2.2.2⟩) (fun _ _ _ _ _ _ _ _ _ => trivial)
    (fun _ _ _ _ ⟨v, L, h1, h2, h3⟩ => ⟨L, _, _, h3, rfl, rfl, v, h1, h2⟩)
    (fun m meth c A a g mk v t L k n Y hp _ _ ⟨e1, e2, v', e3, e4⟩ => by cases e3; subst e1 e2; exact ⟨L, e4, rfl, rfl, rfl⟩)
theorem K_static (C : oCx p s m meth c P Z y B ml rt) {idx : Nat} {z : MethodName} {B' : ByteArray} {ml' : Nat} {rt' : Option FieldType} {rm : Room} {as' : Array Value} {P' : Addr → Prop} {Q' : Option Value → Heap → Prop} {argsL rest : List Value} {ps : List FieldType} {rr : Option FieldType} (M : oMeets l Z z B' ml' rt' rm as' h P' Q') (w1 : (Jvm.Cond.methodLink y.cls idx z).before a0 Z = true) (w2 : (Jvm.Cond.static z).before a0 Z = true) (w3 : (Jvm.Cond.initialized z.cls).before a0 Z = true) (w4 : (Jvm.Cond.code z B' ml' rt').before a0 Z = true) (hy : z.cls ≠ "java/lang/invoke/MethodHandle" ∧ z.cls ≠ "java/lang/invoke/VarHandle") (hpd : parseMethodDescriptor z.desc = some ⟨ps, rr⟩) (hd : decode B pc = .ok (.invokestatic idx, 3)) (hS : S = argsL.reverse ++ rest) (hlen : argsL.length = ps.length) (ha : argsL.toArray = as') (hml : Ls.length = ml) (hP : ∀ a, s.heap.size ≤ h.size → P' a → P a) (hf : rm.frames + 1 ≤ R.frames) (hl : (rest.map fun v => v.category).sum + (ml' + 11) + rm.locals ≤ R.locals) (hk : k + rm.cells ≤ R.cells) (hn : n + rm.slots ≤ R.slots)
    (K : ∀ v h', Q' v h' → oKp P' h h' → oWP b p l e R s m args below meth c P Q J h' (k + rm.cells) (n + rm.slots) (oF m (pc + 3) Ls (v.toList ++ rest))) : oWP b p l e R s m args below meth c P Q J h k n (oF m pc Ls S) := fun T hT => by
  obtain ⟨hE, hle, -⟩ := oSd.old C hT
  obtain ⟨vm0, k0, locs, ck, cn, X, eT, N, q1, q2, hSi, hk0, hbv, hJ⟩ := hT
  subst hS
  have C' := C.rebase hSi
  obtain ⟨v, vm₁, ⟨T', L', k', n'⟩, -, X', ⟨Lc, ⟨hQ, hN, hK⟩, e1, e2, e3⟩, st⟩ := Jvm.LawKit.callS X C.1 (y := z) C'.own (mvT C'.hZ w1) (mvT C'.hZ w2) (mvT C'.hZ w3) (mvT C'.hZ w4) hy (backOf (W := (rest.map fun v => v.category).sum) (Q := fun v h' L => Q' v h' ∧ oAl P' L ∧ oKp P' h h') (M hE []) C'.hZ w4 w3 hf hl) (g := oF m pc Ls (argsL.reverse ++ rest)) rfl (by rw [C.hml]; exact hml) (argsL := argsL) (rest := rest) (lenOf hpd hlen) rfl (by show 2 * 0 + _ ≤ _; exact Nat.le_of_eq (Nat.zero_add _)) (hb C.2.1 hd) (fun vm₁ hw₁ => ⟨ha, eT, by show ck + _ ≤ _; omega, by show cn + _ ≤ _; omega⟩)
  dsimp only [Pt.U, Pt.locs, Pt.cells, Pt.slots] at X' e1 e2 e3 st hQ hK
  subst e1 e2 e3
  obtain ⟨u, o, g1, g2⟩ := K v T'.heap hQ hK T' ⟨vm0, k0, _, _, _, X', rfl, N.app fun q hq => hP _ hle (hN q hq), by omega, by omega, hSi, Nat.le_trans hk0 hK.1, hbv, hJ⟩
  exact ⟨u, o, st u g1, g2⟩
theorem K_special (C : oCx p s m meth c P Z y B ml rt) {idx : Nat} {z : MethodName} {B' : ByteArray} {ml' : Nat} {rm : Room} {as' : Array Value} {P' : Addr → Prop} {Q' : Option Value → Heap → Prop} {argsL rest : List Value} {ps : List FieldType} {rr : Option FieldType} (M : oMeets l Z z B' ml' none rm as' h P' Q') {a : Addr} (w1 : (Jvm.Cond.methodLink y.cls idx z).before a0 Z = true) (w2 : (Jvm.Cond.instanceMethod z).before a0 Z = true) (w3 : (Jvm.Cond.initialized z.cls).before a0 Z = true) (w4 : (Jvm.Cond.code z B' ml' none).before a0 Z = true) (hi : z.name = "<init>") (hy : z.cls ≠ "java/lang/invoke/MethodHandle" ∧ z.cls ≠ "java/lang/invoke/VarHandle") (hpd : parseMethodDescriptor z.desc = some ⟨ps, rr⟩) (hd : decode B pc = .ok (.invokespecial idx, 3)) (hS : S = argsL.reverse ++ .ref a :: rest) (hlen : argsL.length = ps.length) (ha : (.ref a :: argsL).toArray = as') (hml : Ls.length = ml) (hP : ∀ a, s.heap.size ≤ h.size → P' a → P a) (hf : rm.frames + 1 ≤ R.frames) (hl : (rest.map fun v => v.category).sum + (ml' + 11) + rm.locals ≤ R.locals) (hk : k + rm.cells ≤ R.cells) (hn : n + rm.slots ≤ R.slots)
    (K : ∀ v h', Q' v h' → oKp P' h h' → oWP b p l e R s m args below meth c P Q J h' (k + rm.cells) (n + rm.slots) (oF m (pc + 3) Ls (v.toList ++ rest))) : oWP b p l e R s m args below meth c P Q J h k n (oF m pc Ls S) := fun T hT => by
  obtain ⟨hE, hle, -⟩ := oSd.old C hT
  obtain ⟨vm0, k0, locs, ck, cn, X, eT, N, q1, q2, hSi, hk0, hbv, hJ⟩ := hT
  subst hS
  have C' := C.rebase hSi
  obtain ⟨v, vm₁, ⟨T', L', k', n'⟩, -, X', ⟨Lc, ⟨hQ, hN, hK⟩, e1, e2, e3⟩, st⟩ := X.specialBack C.1 (y := z) hi C'.own (mvT C'.hZ w1) (mvT C'.hZ w2) (mvT C'.hZ w4) hy (backOf (W := (rest.map fun v => v.category).sum) (Q := fun v h' L => Q' v h' ∧ oAl P' L ∧ oKp P' h h') (M hE []) C'.hZ w4 w3 hf hl) (g := oF m pc Ls (argsL.reverse ++ .ref a :: rest)) rfl (by rw [C.hml]; exact hml) (Steps.refl _) (a := a) (argsL := argsL) (rest := rest) (lenOf hpd hlen) rfl (by show 2 * 0 + _ ≤ _; exact Nat.le_of_eq (Nat.zero_add _)) (hb C.2.1 hd) (fun vm₁ hw₁ => ⟨ha, eT, by show ck + _ ≤ _; omega, by show cn + _ ≤ _; omega⟩)
  dsimp only [Pt.U, Pt.locs, Pt.cells, Pt.slots] at X' e1 e2 e3 st hQ hK
  subst e1 e2 e3
  obtain ⟨u, o, g1, g2⟩ := K v T'.heap hQ hK T' ⟨vm0, k0, _, _, _, X', rfl, N.app fun q hq => hP _ hle (hN q hq), by omega, by omega, hSi, Nat.le_trans hk0 hK.1, hbv, hJ⟩
  exact ⟨u, o, st.trans g1, g2⟩
theorem K_virtual (C : oCx p s m meth c P Z y B ml rt) {idx : Nat} {z z0 : MethodName} {B' : ByteArray} {ml' : Nat} {rt' : Option FieldType} {rm : Room} {as' : Array Value} {P' : Addr → Prop} {Q' : Option Value → Heap → Prop} {argsL rest : List Value} {ps : List FieldType} {rr : Option FieldType} (M : oMeets l Z z B' ml' rt' rm as' h P' Q') {a : Addr} {Cn : String} (E : Exa Z h a Cn) (w1 : (Jvm.Cond.methodLink y.cls idx z0).before a0 Z = true) (wd : (Jvm.Cond.declares z0).before a0 Z = true) (nf : ∀ s', Z.Warmed39 s'.vm → NotFace s' z0) (ws : (Jvm.Cond.selects Cn z0 z).before a0 Z = true) (w2 : (Jvm.Cond.instanceMethod z).before a0 Z = true) (w3 : (Jvm.Cond.initialized z.cls).before a0 Z = true) (w4 : (Jvm.Cond.code z B' ml' rt').before a0 Z = true) (hy : z0.cls ≠ "java/lang/invoke/MethodHandle" ∧ z0.cls ≠ "java/lang/invoke/VarHandle") (hpd : parseMethodDescriptor z0.desc = some ⟨ps, rr⟩) (hd : decode B pc = .ok (.invokevirtual idx, 3)) (hS : S = argsL.reverse ++ .ref a :: rest) (hlen : argsL.length = ps.length) (ha : (.ref a :: argsL).toArray = as') (hml : Ls.length = ml) (hP : ∀ a, s.heap.size ≤ h.size → P' a → P a) (hf : rm.frames + 1 ≤ R.frames) (hl : (rest.map fun v => v.category).sum + (ml' + 11) + rm.locals ≤ R.locals) (hk : k + rm.cells ≤ R.cells) (hn : n + rm.slots ≤ R.slots)
    (K : ∀ v h', Q' v h' → oKp P' h h' → oWP b p l e R s m args below meth c P Q J h' (k + rm.cells) (n + rm.slots) (oF m (pc + 3) Ls (v.toList ++ rest))) : oWP b p l e R s m args below meth c P Q J h k n (oF m pc Ls S) := fun T hT => by
  obtain ⟨hE, hle, -⟩ := oSd.old C hT
  obtain ⟨vm0, k0, locs, ck, cn, X, eT, N, q1, q2, hSi, hk0, hbv, hJ⟩ := hT
  subst hS
  have C' := C.rebase hSi
  obtain ⟨cq, kq, qa, qb, qc⟩ := isOf C'.hZ eT E
  obtain ⟨v, vm₁, ⟨T', L', k', n'⟩, -, X', ⟨Lc, ⟨hQ, hN, hK⟩, e1, e2, e3⟩, st⟩ := X.virtualBack C.1 (y := z0) (z := z) C'.own (mvT C'.hZ w1) (mvT C'.hZ wd) (nf _ C'.hZ) (mvT C'.hZ ws) (mvT C'.hZ w2) hy (backOf (W := (rest.map fun v => v.category).sum) (Q := fun v h' L => Q' v h' ∧ oAl P' L ∧ oKp P' h h') (M hE []) C'.hZ w4 w3 hf hl) qa qc (g := oF m pc Ls (argsL.reverse ++ .ref a :: rest)) rfl (by rw [C.hml]; exact hml) (Steps.refl _) (argsL := argsL) (rest := rest) (lenOf hpd hlen) rfl (by show 2 * 0 + _ ≤ _; exact Nat.le_of_eq (Nat.zero_add _)) (hb C.2.1 hd) (fun vm₁ hw₁ => ⟨ha, eT, by show ck + _ ≤ _; omega, by show cn + _ ≤ _; omega⟩)
  dsimp only [Pt.U, Pt.locs, Pt.cells, Pt.slots] at X' e1 e2 e3 st hQ hK
  subst e1 e2 e3
  obtain ⟨u, o, g1, g2⟩ := K v T'.heap hQ hK T' ⟨vm0, k0, _, _, _, X', rfl, N.app fun q hq => hP _ hle (hN q hq), by omega, by omega, hSi, Nat.le_trans hk0 hK.1, hbv, hJ⟩
  exact ⟨u, o, st.trans g1, g2⟩
theorem K_virtualUp (C : oCx p s m meth c P Z y B ml rt) {idx : Nat} {z z0 : MethodName} {B' : ByteArray} {ml' : Nat} {rt' : Option FieldType} {rm : Room} {as' : Array Value} {P' : Addr → Prop} {Q' : Option Value → Heap → Prop} {argsL rest : List Value} {ps : List FieldType} {rr : Option FieldType} (M : oMeets l Z z B' ml' rt' rm as' h P' Q') {a : Addr} {Cn owner : String} (E : Exa Z h a Cn) (w1 : (Jvm.Cond.methodLink y.cls idx z0).before a0 Z = true) (wsm : (Jvm.Cond.sameMethod z0.cls owner z0.name z0.desc).before a0 Z = true) (wd : (Jvm.Cond.declares ⟨owner, z0.name, z0.desc⟩).before a0 Z = true) (ws : (Jvm.Cond.selects Cn z0 z).before a0 Z = true) (w2 : (Jvm.Cond.instanceMethod z).before a0 Z = true) (w3 : (Jvm.Cond.initialized z.cls).before a0 Z = true) (w4 : (Jvm.Cond.code z B' ml' rt').before a0 Z = true) (hy : owner ≠ "java/lang/invoke/MethodHandle" ∧ owner ≠ "java/lang/invoke/VarHandle") (hpd : parseMethodDescriptor z0.desc = some ⟨ps, rr⟩) (hd : decode B pc = .ok (.invokevirtual idx, 3)) (hS : S = argsL.reverse ++ .ref a :: rest) (hlen : argsL.length = ps.length) (ha : (.ref a :: argsL).toArray = as') (hml : Ls.length = ml) (hP : ∀ a, s.heap.size ≤ h.size → P' a → P a) (hf : rm.frames + 1 ≤ R.frames) (hl : (rest.map fun v => v.category).sum + (ml' + 11) + rm.locals ≤ R.locals) (hk : k + rm.cells ≤ R.cells) (hn : n + rm.slots ≤ R.slots)
    (K : ∀ v h', Q' v h' → oKp P' h h' → oWP b p l e R s m args below meth c P Q J h' (k + rm.cells) (n + rm.slots) (oF m (pc + 3) Ls (v.toList ++ rest))) : oWP b p l e R s m args below meth c P Q J h k n (oF m pc Ls S) := fun T hT => by
  obtain ⟨hE, hle, -⟩ := oSd.old C hT
  obtain ⟨vm0, k0, locs, ck, cn, X, eT, N, q1, q2, hSi, hk0, hbv, hJ⟩ := hT
  subst hS
  have C' := C.rebase hSi
  obtain ⟨cq, kq, qa, qb, qc⟩ := isOf C'.hZ eT E
  obtain ⟨v, vm₁, ⟨T', L', k', n'⟩, -, X', ⟨Lc, ⟨hQ, hN, hK⟩, e1, e2, e3⟩, st⟩ := X.virtualBackUp C.1 (x := z0) (y := z) C'.own (mvT C'.hZ w1) (mvT C'.hZ wsm) (mvT C'.hZ wd) hy (mvT C'.hZ ws) (mvT C'.hZ w2) (backOf (W := (rest.map fun v => v.category).sum) (Q := fun v h' L => Q' v h' ∧ oAl P' L ∧ oKp P' h h') (M hE []) C'.hZ w4 w3 hf hl) qa qc (g := oF m pc Ls (argsL.reverse ++ .ref a :: rest)) rfl (by rw [C.hml]; exact hml) (Steps.refl _) (argsL := argsL) (rest := rest) (lenOf hpd hlen) rfl (by show 2 * 0 + _ ≤ _; exact Nat.le_of_eq (Nat.zero_add _)) (hb C.2.1 hd) (fun vm₁ hw₁ => ⟨ha, eT, by show ck + _ ≤ _; omega, by show cn + _ ≤ _; omega⟩)
  dsimp only [Pt.U, Pt.locs, Pt.cells, Pt.slots] at X' e1 e2 e3 st hQ hK
  subst e1 e2 e3
  obtain ⟨u, o, g1, g2⟩ := K v T'.heap hQ hK T' ⟨vm0, k0, _, _, _, X', rfl, N.app fun q hq => hP _ hle (hN q hq), by omega, by omega, hSi, Nat.le_trans hk0 hK.1, hbv, hJ⟩
  exact ⟨u, o, st.trans g1, g2⟩
theorem K_staticW (C : oCx p s m meth c P Z y B ml rt) {idx : Nat} {z : MethodName} {B' : ByteArray} {ml' : Nat} {rt' : Option FieldType} {rm : Room} {as' : Array Value} {P' : Addr → Prop} {J' : Vm → Prop} {Q' : Option Value → Heap → Vm → Prop} {argsL rest : List Value} {ps : List FieldType} {rr : Option FieldType} (M : oMeetsW l Z z B' ml' rt' rm as' h P' J' Q') (hJJ : ∀ vm, J vm → J' vm) (w1 : (Jvm.Cond.methodLink y.cls idx z).before a0 Z = true) (w2 : (Jvm.Cond.static z).before a0 Z = true) (w3 : (Jvm.Cond.initialized z.cls).before a0 Z = true) (w4 : (Jvm.Cond.code z B' ml' rt').before a0 Z = true) (hy : z.cls ≠ "java/lang/invoke/MethodHandle" ∧ z.cls ≠ "java/lang/invoke/VarHandle") (hpd : parseMethodDescriptor z.desc = some ⟨ps, rr⟩) (hd : decode B pc = .ok (.invokestatic idx, 3)) (hS : S = argsL.reverse ++ rest) (hlen : argsL.length = ps.length) (ha : argsL.toArray = as') (hml : Ls.length = ml) (hP : ∀ a, s.heap.size ≤ h.size → P' a → P a) (hf : rm.frames + 1 ≤ R.frames) (hl : (rest.map fun v => v.category).sum + (ml' + 11) + rm.locals ≤ R.locals) (hk : k + rm.cells ≤ R.cells) (hn : n + rm.slots ≤ R.slots)
    (K : ∀ v h' vm', Q' v h' vm' → oKp P' h h' → ∃ J1 : Vm → Prop, J1 vm' ∧ oJs J1 ∧ oWP true p l e R s m args below meth c P Q J1 h' (k + rm.cells) (n + rm.slots) (oF m (pc + 3) Ls (v.toList ++ rest))) : oWP true p l e R s m args below meth c P Q J h k n (oF m pc Ls S) := fun T hT => by
  obtain ⟨hE, hle, -⟩ := oSd.old C hT
  obtain ⟨vm0, k0, locs, ck, cn, X, eT, N, q1, q2, hSi, hk0, hbv, hJ⟩ := hT
  subst hS
  have C' := C.rebase hSi
  obtain ⟨v, vm₁, ⟨T', L', k', n'⟩, -, X', hS2, hgr, ⟨Lc, ⟨hQ, hN, hK⟩, e1, e2, e3⟩, st⟩ := callSS X C.1 (y := z) C'.own (mvT C'.hZ w1) (mvT C'.hZ w2) (mvT C'.hZ w3) (mvT C'.hZ w4) hy (oBackW (W := (rest.map fun v => v.category).sum) M hE C'.hZ w4 w3 hf hl) (g := oF m pc Ls (argsL.reverse ++ rest)) rfl (by rw [C.hml]; exact hml) (argsL := argsL) (rest := rest) (lenOf hpd hlen) rfl (by show 2 * 0 + _ ≤ _; exact Nat.le_of_eq (Nat.zero_add _)) (hb C.2.1 hd) (fun vm₁ hw₁ => ⟨ha, eT, by show ck + _ ≤ _; omega, by show cn + _ ≤ _; omega, hJJ _ (hJ.2 (s.setVm vm0) _ hJ.1 hw₁)⟩)
  dsimp only [Pt.U, Pt.locs, Pt.cells, Pt.slots] at X' hS2 hgr e1 e2 e3 st hQ hK
  subst e1 e2 e3
  obtain ⟨J1, j1, j2, K1⟩ := K v T'.heap T'.vm hQ hK
  obtain ⟨u, o, g1, g2⟩ := K1 T' ⟨T'.vm, T'.heap.size, _, _, _, X', rfl, N.app fun q hq => hP _ hle (hN q hq), by omega, by omega, foldS hSi (by rw [eT]; exact hk0) hS2 hgr, Nat.le_refl _, (fun q => nomatch q), j1, j2⟩
  exact ⟨u, o, st.trans g1, g2⟩
theorem K_specialW (C : oCx p s m meth c P Z y B ml rt) {idx : Nat} {z : MethodName} {B' : ByteArray} {ml' : Nat} {rm : Room} {as' : Array Value} {P' : Addr → Prop} {J' : Vm → Prop} {Q' : Option Value → Heap → Vm → Prop} {argsL rest : List Value} {ps : List FieldType} {rr : Option FieldType} (M : oMeetsW l Z z B' ml' none rm as' h P' J' Q') (hJJ : ∀ vm, J vm → J' vm) {a : Addr} (w1 : (Jvm.Cond.methodLink y.cls idx z).before a0 Z = true) (w2 : (Jvm.Cond.instanceMethod z).before a0 Z = true) (w3 : (Jvm.Cond.initialized z.cls).before a0 Z = true) (w4 : (Jvm.Cond.code z B' ml' none).before a0 Z = true) (hi : z.name = "<init>") (hy : z.cls ≠ "java/lang/invoke/MethodHandle" ∧ z.cls ≠ "java/lang/invoke/VarHandle") (hpd : parseMethodDescriptor z.desc = some ⟨ps, rr⟩) (hd : decode B pc = .ok (.invokespecial idx, 3)) (hS : S = argsL.reverse ++ .ref a :: rest) (hlen : argsL.length = ps.length) (ha : (.ref a :: argsL).toArray = as') (hml : Ls.length = ml) (hP : ∀ a, s.heap.size ≤ h.size → P' a → P a) (hf : rm.frames + 1 ≤ R.frames) (hl : (rest.map fun v => v.category).sum + (ml' + 11) + rm.locals ≤ R.locals) (hk : k + rm.cells ≤ R.cells) (hn : n + rm.slots ≤ R.slots)
    (K : ∀ v h' vm', Q' v h' vm' → oKp P' h h' → ∃ J1 : Vm → Prop, J1 vm' ∧ oJs J1 ∧ oWP true p l e R s m args below meth c P Q J1 h' (k + rm.cells) (n + rm.slots) (oF m (pc + 3) Ls (v.toList ++ rest))) : oWP true p l e R s m args below meth c P Q J h k n (oF m pc Ls S) := fun T hT => by
  obtain ⟨hE, hle, -⟩ := oSd.old C hT
  obtain ⟨vm0, k0, locs, ck, cn, X, eT, N, q1, q2, hSi, hk0, hbv, hJ⟩ := hT
  subst hS
  have C' := C.rebase hSi
  obtain ⟨v, vm₁, ⟨T', L', k', n'⟩, -, X', hS2, hgr, ⟨Lc, ⟨hQ, hN, hK⟩, e1, e2, e3⟩, st⟩ := X.specialBackS C.1 (y := z) hi C'.own (mvT C'.hZ w1) (mvT C'.hZ w2) (mvT C'.hZ w4) hy (oBackW (W := (rest.map fun v => v.category).sum) M hE C'.hZ w4 w3 hf hl) (g := oF m pc Ls (argsL.reverse ++ .ref a :: rest)) rfl (by rw [C.hml]; exact hml) (Steps.refl _) (a := a) (argsL := argsL) (rest := rest) (lenOf hpd hlen) rfl (by show 2 * 0 + _ ≤ _; exact Nat.le_of_eq (Nat.zero_add _)) (hb C.2.1 hd) (fun vm₁ hw₁ => ⟨ha, eT, by show ck + _ ≤ _; omega, by show cn + _ ≤ _; omega, hJJ _ (hJ.2 (s.setVm vm0) _ hJ.1 hw₁)⟩)
  dsimp only [Pt.U, Pt.locs, Pt.cells, Pt.slots] at X' hS2 hgr e1 e2 e3 st hQ hK
  subst e1 e2 e3
  obtain ⟨J1, j1, j2, K1⟩ := K v T'.heap T'.vm hQ hK
  obtain ⟨u, o, g1, g2⟩ := K1 T' ⟨T'.vm, T'.heap.size, _, _, _, X', rfl, N.app fun q hq => hP _ hle (hN q hq), by omega, by omega, foldS hSi (by rw [eT]; exact hk0) hS2 hgr, Nat.le_refl _, (fun q => nomatch q), j1, j2⟩
  exact ⟨u, o, st.trans g1, g2⟩
theorem K_virtualW (C : oCx p s m meth c P Z y B ml rt) {idx : Nat} {z z0 : MethodName} {B' : ByteArray} {ml' : Nat} {rt' : Option FieldType} {rm : Room} {as' : Array Value} {P' : Addr → Prop} {J' : Vm → Prop} {Q' : Option Value → Heap → Vm → Prop} {argsL rest : List Value} {ps : List FieldType} {rr : Option FieldType} (M : oMeetsW l Z z B' ml' rt' rm as' h P' J' Q') (hJJ : ∀ vm, J vm → J' vm) {a : Addr} {Cn : String} (E : Exa Z h a Cn) (w1 : (Jvm.Cond.methodLink y.cls idx z0).before a0 Z = true) (wd : (Jvm.Cond.declares z0).before a0 Z = true) (nf : ∀ s', Z.Warmed39 s'.vm → NotFace s' z0) (ws : (Jvm.Cond.selects Cn z0 z).before a0 Z = true) (w2 : (Jvm.Cond.instanceMethod z).before a0 Z = true) (w3 : (Jvm.Cond.initialized z.cls).before a0 Z = true) (w4 : (Jvm.Cond.code z B' ml' rt').before a0 Z = true) (hy : z0.cls ≠ "java/lang/invoke/MethodHandle" ∧ z0.cls ≠ "java/lang/invoke/VarHandle") (hpd : parseMethodDescriptor z0.desc = some ⟨ps, rr⟩) (hd : decode B pc = .ok (.invokevirtual idx, 3)) (hS : S = argsL.reverse ++ .ref a :: rest) (hlen : argsL.length = ps.length) (ha : (.ref a :: argsL).toArray = as') (hml : Ls.length = ml) (hP : ∀ a, s.heap.size ≤ h.size → P' a → P a) (hf : rm.frames + 1 ≤ R.frames) (hl : (rest.map fun v => v.category).sum + (ml' + 11) + rm.locals ≤ R.locals) (hk : k + rm.cells ≤ R.cells) (hn : n + rm.slots ≤ R.slots)
    (K : ∀ v h' vm', Q' v h' vm' → oKp P' h h' → ∃ J1 : Vm → Prop, J1 vm' ∧ oJs J1 ∧ oWP true p l e R s m args below meth c P Q J1 h' (k + rm.cells) (n + rm.slots) (oF m (pc + 3) Ls (v.toList ++ rest))) : oWP true p l e R s m args below meth c P Q J h k n (oF m pc Ls S) := fun T hT => by
  obtain ⟨hE, hle, -⟩ := oSd.old C hT
  obtain ⟨vm0, k0, locs, ck, cn, X, eT, N, q1, q2, hSi, hk0, hbv, hJ⟩ := hT
  subst hS
  have C' := C.rebase hSi
  obtain ⟨cq, kq, qa, qb, qc⟩ := isOf C'.hZ eT E
  obtain ⟨v, vm₁, ⟨T', L', k', n'⟩, -, X', hS2, hgr, ⟨Lc, ⟨hQ, hN, hK⟩, e1, e2, e3⟩, st⟩ := X.virtualBackS C.1 (y := z0) (z := z) C'.own (mvT C'.hZ w1) (mvT C'.hZ wd) (nf _ C'.hZ) (mvT C'.hZ ws) (mvT C'.hZ w2) hy (oBackW (W := (rest.map fun v => v.category).sum) M hE C'.hZ w4 w3 hf hl) qa qc (g := oF m pc Ls (argsL.reverse ++ .ref a :: rest)) rfl (by rw [C.hml]; exact hml) (Steps.refl _) (argsL := argsL) (rest := rest) (lenOf hpd hlen) rfl (by show 2 * 0 + _ ≤ _; exact Nat.le_of_eq (Nat.zero_add _)) (hb C.2.1 hd) (fun vm₁ hw₁ => ⟨ha, eT, by show ck + _ ≤ _; omega, by show cn + _ ≤ _; omega, hJJ _ (hJ.2 (s.setVm vm0) _ hJ.1 hw₁)⟩)
  dsimp only [Pt.U, Pt.locs, Pt.cells, Pt.slots] at X' hS2 hgr e1 e2 e3 st hQ hK
  subst e1 e2 e3
  obtain ⟨J1, j1, j2, K1⟩ := K v T'.heap T'.vm hQ hK
  obtain ⟨u, o, g1, g2⟩ := K1 T' ⟨T'.vm, T'.heap.size, _, _, _, X', rfl, N.app fun q hq => hP _ hle (hN q hq), by omega, by omega, foldS hSi (by rw [eT]; exact hk0) hS2 hgr, Nat.le_refl _, (fun q => nomatch q), j1, j2⟩
  exact ⟨u, o, st.trans g1, g2⟩
theorem K_virtualUpW (C : oCx p s m meth c P Z y B ml rt) {idx : Nat} {z z0 : MethodName} {B' : ByteArray} {ml' : Nat} {rt' : Option FieldType} {rm : Room} {as' : Array Value} {P' : Addr → Prop} {J' : Vm → Prop} {Q' : Option Value → Heap → Vm → Prop} {argsL rest : List Value} {ps : List FieldType} {rr : Option FieldType} (M : oMeetsW l Z z B' ml' rt' rm as' h P' J' Q') (hJJ : ∀ vm, J vm → J' vm) {a : Addr} {Cn owner : String} (E : Exa Z h a Cn) (w1 : (Jvm.Cond.methodLink y.cls idx z0).before a0 Z = true) (wsm : (Jvm.Cond.sameMethod z0.cls owner z0.name z0.desc).before a0 Z = true) (wd : (Jvm.Cond.declares ⟨owner, z0.name, z0.desc⟩).before a0 Z = true) (ws : (Jvm.Cond.selects Cn z0 z).before a0 Z = true) (w2 : (Jvm.Cond.instanceMethod z).before a0 Z = true) (w3 : (Jvm.Cond.initialized z.cls).before a0 Z = true) (w4 : (Jvm.Cond.code z B' ml' rt').before a0 Z = true) (hy : owner ≠ "java/lang/invoke/MethodHandle" ∧ owner ≠ "java/lang/invoke/VarHandle") (hpd : parseMethodDescriptor z0.desc = some ⟨ps, rr⟩) (hd : decode B pc = .ok (.invokevirtual idx, 3)) (hS : S = argsL.reverse ++ .ref a :: rest) (hlen : argsL.length = ps.length) (ha : (.ref a :: argsL).toArray = as') (hml : Ls.length = ml) (hP : ∀ a, s.heap.size ≤ h.size → P' a → P a) (hf : rm.frames + 1 ≤ R.frames) (hl : (rest.map fun v => v.category).sum + (ml' + 11) + rm.locals ≤ R.locals) (hk : k + rm.cells ≤ R.cells) (hn : n + rm.slots ≤ R.slots)
    (K : ∀ v h' vm', Q' v h' vm' → oKp P' h h' → ∃ J1 : Vm → Prop, J1 vm' ∧ oJs J1 ∧ oWP true p l e R s m args below meth c P Q J1 h' (k + rm.cells) (n + rm.slots) (oF m (pc + 3) Ls (v.toList ++ rest))) : oWP true p l e R s m args below meth c P Q J h k n (oF m pc Ls S) := fun T hT => by
  obtain ⟨hE, hle, -⟩ := oSd.old C hT
  obtain ⟨vm0, k0, locs, ck, cn, X, eT, N, q1, q2, hSi, hk0, hbv, hJ⟩ := hT
  subst hS
  have C' := C.rebase hSi
  obtain ⟨cq, kq, qa, qb, qc⟩ := isOf C'.hZ eT E
  obtain ⟨v, vm₁, ⟨T', L', k', n'⟩, -, X', hS2, hgr, ⟨Lc, ⟨hQ, hN, hK⟩, e1, e2, e3⟩, st⟩ := X.virtualBackUpS C.1 (x := z0) (y := z) C'.own (mvT C'.hZ w1) (mvT C'.hZ wsm) (mvT C'.hZ wd) hy (mvT C'.hZ ws) (mvT C'.hZ w2) (oBackW (W := (rest.map fun v => v.category).sum) M hE C'.hZ w4 w3 hf hl) qa qc (g := oF m pc Ls (argsL.reverse ++ .ref a :: rest)) rfl (by rw [C.hml]; exact hml) (Steps.refl _) (argsL := argsL) (rest := rest) (lenOf hpd hlen) rfl (by show 2 * 0 + _ ≤ _; exact Nat.le_of_eq (Nat.zero_add _)) (hb C.2.1 hd) (fun vm₁ hw₁ => ⟨ha, eT, by show ck + _ ≤ _; omega, by show cn + _ ≤ _; omega, hJJ _ (hJ.2 (s.setVm vm0) _ hJ.1 hw₁)⟩)
  dsimp only [Pt.U, Pt.locs, Pt.cells, Pt.slots] at X' hS2 hgr e1 e2 e3 st hQ hK
  subst e1 e2 e3
  obtain ⟨J1, j1, j2, K1⟩ := K v T'.heap T'.vm hQ hK
  obtain ⟨u, o, g1, g2⟩ := K1 T' ⟨T'.vm, T'.heap.size, _, _, _, X', rfl, N.app fun q hq => hP _ hle (hN q hq), by omega, by omega, foldS hSi (by rw [eT]; exact hk0) hS2 hgr, Nat.le_refl _, (fun q => nomatch q), j1, j2⟩
  exact ⟨u, o, st.trans g1, g2⟩
theorem oNF {Cn : String} {z : MethodName} (w : (Jvm.Cond.selects Cn z z).before a0 Z = true) : ∀ s' : State, Z.Warmed39 s'.vm → NotFace s' z := fun _ hZ => notFace_of_selects (args := #[]) (mvT hZ w)
theorem oNFs {S' : String} {z : MethodName} (w : (Jvm.Cond.superclass z.cls S').before a0 Z = true) : ∀ s' : State, Z.Warmed39 s'.vm → NotFace s' z := fun _ hZ => nf_super (args := #[]) (mvT hZ w)
theorem K_putFn (C : oCx p s m meth c P Z y B ml rt) {R0 O f d Cn : String} {idx kk : Nat} {ty : FieldType} {a : Addr} {v v' old : Value} (w : (Jvm.Cond.fieldLink y.cls idx R0 f d).before a0 Z = true) (via : Via Z R0 O f d) (F : Fld Z h a O f d old) (E : Exa Z h a Cn) (L : (Jvm.Cond.lays Cn O f d).before a0 Z = true ∨ ((Jvm.Cond.laysFinal Cn O f d).before a0 Z = true ∧ y.cls = O ∧ y.name = "<init>")) (wi : (Jvm.Cond.instantiable Cn kk).before a0 Z = true)
    (hty : parseFieldDescriptor d = some ty) (hnv : narrow ty v = v') (hf : fits ty v' = true) (hP : P a) (hd : decode B pc = .ok (.putfield idx, 3)) (K : ∀ h', Wr h h' a (RoadKit.slotOf Z O f d) v' → oWP b p l e R s m args below meth c P Q J h' k n (oF m (pc + 3) Ls S)) : oWP b p l e R s m args below meth c P Q J h k n (oF m pc Ls (v :: .ref a :: S)) := fun T hT => by
  obtain ⟨vm0, k0, locs, ck, cn, X, eT, N, q1, q2, hS, hk0, hbv, hJ⟩ := hT
  have C' := C.rebase hS
  obtain ⟨T', h', X', e', Wr1, st⟩ := putFN X C.1 C'.hZ C'.own w via eT F E (L.imp id fun q => ⟨q.1, q.2.1, C.nm.trans q.2.2⟩) wi hty hnv hf (g := oF m pc Ls (v :: .ref a :: S)) rfl rfl (hb C.2.1 hd)
  obtain ⟨u, o, g1, g2⟩ := K h' Wr1 T' ⟨vm0, k0, _, ck, cn, X', e', N.snoc hP, q1, q2, hS, by rw [Wr1.size]; exact hk0, hbv, hJ⟩
  exact ⟨u, o, st u g1, g2⟩
theorem K_castY (C : oCx p s m meth c P Z y B ml rt) {idx : Nat} {a : Addr} {Cn : String} (w : (Jvm.Cond.classLink y.cls idx Cn).before a0 Z = true) (F : Ins Z h a Cn true) (hd : decode B pc = .ok (.checkcast idx, 3)) (K : oWP b p l e R s m args below meth c P Q J h k n (oF m (pc + 3) Ls (.ref a :: S))) : oWP b p l e R s m args below meth c P Q J h k n (oF m pc Ls (.ref a :: S)) := K.law C fun _ C T _ _ _ X eT => castY X C.1 C.hZ C.own w eT F (g := oF m pc Ls (.ref a :: S)) rfl rfl (hb C.2.1 hd)
theorem K_instY (C : oCx p s m meth c P Z y B ml rt) {idx : Nat} {a : Addr} {Cn : String} (w : (Jvm.Cond.classLink y.cls idx Cn).before a0 Z = true) (F : Ins Z h a Cn true) (hd : decode B pc = .ok (.instanceof idx, 3)) (K : oWP b p l e R s m args below meth c P Q J h k n (oF m (pc + 3) Ls (.int 1 :: S))) : oWP b p l e R s m args below meth c P Q J h k n (oF m pc Ls (.ref a :: S)) := K.law C fun _ C T _ _ _ X eT => instY X C.1 C.hZ C.own w eT F (g := oF m pc Ls (.ref a :: S)) rfl rfl (hb C.2.1 hd)
theorem K_iaload (C : oCx p s m meth c P Z y B ml rt) {a : Addr} {cl : Cell} {j : Int32} {v : Value} (A : Arr Z h a cl .int) (hj : ¬ (j < 0 ∨ cl.slots.size ≤ j.toNatClampNeg)) (hv : cl.slots[j.toNatClampNeg]? = some v) (hd : decode B pc = .ok (.iaload, 1)) (K : oWP b p l e R s m args below meth c P Q J h k n (oF m (pc + 1) Ls (v :: S))) : oWP b p l e R s m args below meth c P Q J h k n (oF m pc Ls (.int j :: .ref a :: S)) := K.law C fun _ C T _ _ _ X eT => ⟨T, X, eT, X.iaload C.1 (by rw [eT]; exact A.1) (State.isArrayOf_alike C.hZ.alike A.2.1) A.2.2 hj hv (g := oF m pc Ls (.int j :: .ref a :: S)) rfl rfl (hb C.2.1 hd)⟩
theorem K_caload (C : oCx p s m meth c P Z y B ml rt) {a : Addr} {cl : Cell} {j : Int32} {v : Value} (A : Arr Z h a cl .char) (hj : ¬ (j < 0 ∨ cl.slots.size ≤ j.toNatClampNeg)) (hv : cl.slots[j.toNatClampNeg]? = some v) (hd : decode B pc = .ok (.caload, 1)) (K : oWP b p l e R s m args below meth c P Q J h k n (oF m (pc + 1) Ls (v :: S))) : oWP b p l e R s m args below meth c P Q J h k n (oF m pc Ls (.int j :: .ref a :: S)) := K.law C fun _ C T _ _ _ X eT => ⟨T, X, eT, X.caload C.1 (by rw [eT]; exact A.1) (State.isArrayOf_alike C.hZ.alike A.2.1) A.2.2 hj hv (g := oF m pc Ls (.int j :: .ref a :: S)) rfl rfl (hb C.2.1 hd)⟩
theorem K_laload (C : oCx p s m meth c P Z y B ml rt) {a : Addr} {cl : Cell} {j : Int32} {v : Value} (A : Arr Z h a cl .long) (hj : ¬ (j < 0 ∨ cl.slots.size ≤ j.toNatClampNeg)) (hv : cl.slots[j.toNatClampNeg]? = some v) (hd : decode B pc = .ok (.laload, 1)) (K : oWP b p l e R s m args below meth c P Q J h k n (oF m (pc + 1) Ls (v :: S))) : oWP b p l e R s m args below meth c P Q J h k n (oF m pc Ls (.int j :: .ref a :: S)) := K.law C fun _ C T _ _ _ X eT => ⟨T, X, eT, X.laload C.1 (by rw [eT]; exact A.1) (State.isArrayOf_alike C.hZ.alike A.2.1) A.2.2 hj hv (g := oF m pc Ls (.int j :: .ref a :: S)) rfl rfl (hb C.2.1 hd)⟩
theorem K_baload (C : oCx p s m meth c P Z y B ml rt) {a : Addr} {cl : Cell} {j : Int32} {v : Value} (A : Arr Z h a cl .byte) (hj : ¬ (j < 0 ∨ cl.slots.size ≤ j.toNatClampNeg)) (hv : cl.slots[j.toNatClampNeg]? = some v) (hd : decode B pc = .ok (.baload, 1)) (K : oWP b p l e R s m args below meth c P Q J h k n (oF m (pc + 1) Ls (v :: S))) : oWP b p l e R s m args below meth c P Q J h k n (oF m pc Ls (.int j :: .ref a :: S)) := K.law C fun _ C T _ _ _ X eT => ⟨T, X, eT, X.baloadBytes C.1 (by rw [eT]; exact A.1) (State.isArrayOf_alike C.hZ.alike A.2.1) A.2.2 hj hv (g := oF m pc Ls (.int j :: .ref a :: S)) rfl rfl (hb C.2.1 hd)⟩
theorem K_aaload (C : oCx p s m meth c P Z y B ml rt) {a : Addr} {cl : Cell} {ty : FieldType} {j : Int32} {v : Value} (A : Arr Z h a cl ty) (hty : ty.isReference = true) (hj : ¬ (j < 0 ∨ cl.slots.size ≤ j.toNatClampNeg)) (hv : cl.slots[j.toNatClampNeg]? = some v) (hd : decode B pc = .ok (.aaload, 1)) (K : oWP b p l e R s m args below meth c P Q J h k n (oF m (pc + 1) Ls (v :: S))) : oWP b p l e R s m args below meth c P Q J h k n (oF m pc Ls (.int j :: .ref a :: S)) := K.law C fun _ C T _ _ _ X eT => ⟨T, X, eT, X.aaload C.1 (by rw [eT]; exact A.1) (State.isArrayOf_alike C.hZ.alike A.2.1) hty A.2.2 hj hv (g := oF m pc Ls (.int j :: .ref a :: S)) rfl rfl (hb C.2.1 hd)⟩
theorem K_arraylength (C : oCx p s m meth c P Z y B ml rt) {a : Addr} {cl : Cell} {ty : FieldType} (A : Arr Z h a cl ty) (hd : decode B pc = .ok (.arraylength, 1)) (K : oWP b p l e R s m args below meth c P Q J h k n (oF m (pc + 1) Ls (.int cl.slots.size.toInt32 :: S))) : oWP b p l e R s m args below meth c P Q J h k n (oF m pc Ls (.ref a :: S)) := K.law C fun _ C T _ _ _ X eT => ⟨T, X, eT, X.arraylength C.1 (by rw [eT]; exact A.1) (State.isArrayOf_alike C.hZ.alike A.2.1) (g := oF m pc Ls (.ref a :: S)) rfl rfl (hb C.2.1 hd)⟩
theorem K_newarray (C : oCx p s m meth c P Z y B ml rt) {aty : ArrayType} {z : Int32} {cap : Nat} (w : (Jvm.Cond.arrayClass (newarray.typeOf aty)).before a0 Z = true) (hd : decode B pc = .ok (.newarray aty, 2)) (hz : ¬ z < 0) (hcap : z.toNatClampNeg ≤ cap) (hb8 : cap * 8 ≤ 536870912) (hk : k + 1 ≤ R.cells) (hn : n + cap ≤ R.slots)
    (K : ∀ h' a cA, a = h.size → P a → Ext h h' → Arr Z h' a (newA cA (newarray.typeOf aty) z) (newarray.typeOf aty) → oWP b p l e R s m args below meth c P Q J h' (k + 1) (n + cap) (oF m (pc + 2) Ls (.ref a :: S))) : oWP b p l e R s m args below meth c P Q J h k n (oF m pc Ls (.int z :: S)) := fun T hT => by
  have hO := oSd.old C hT
  obtain ⟨vm0, k0, locs, ck, cn, X, eT, N, q1, q2, hS, hk0, hbv, hJ⟩ := hT
  have C' := C.rebase hS
  obtain ⟨T', h', cA, X', e', E, A, st⟩ := newP X C.1 C'.hZ w eT (g := oF m pc Ls (.int z :: S)) rfl (hb C.2.1 hd) rfl hz hcap hb8 (by omega) (by omega)
  obtain ⟨u, o, g1, g2⟩ := K h' h.size cA rfl (C.new _ hO.2.1) E A T' ⟨vm0, k0, locs, _, _, X', e', N, by omega, by omega, hS, Nat.le_trans hk0 E.1, hbv, hJ⟩
  exact ⟨u, o, st u g1, g2⟩
theorem K_iastore (C : oCx p s m meth c P Z y B ml rt) {a : Addr} {cl : Cell} {j : Int32} {x : Int32} (A : Arr Z h a cl .int) (hj : ¬ (j < 0 ∨ cl.slots.size ≤ j.toNatClampNeg)) (hP : P a) (hd : decode B pc = .ok (.iastore, 1)) (K : ∀ h', Wr h h' a j.toNatClampNeg (.int x) → oWP b p l e R s m args below meth c P Q J h' k n (oF m (pc + 1) Ls S)) : oWP b p l e R s m args below meth c P Q J h k n (oF m pc Ls (.int x :: .int j :: .ref a :: S)) := fun T hT => by
  obtain ⟨vm0, k0, locs, ck, cn, X, eT, N, q1, q2, hS, hk0, hbv, hJ⟩ := hT
  have C' := C.rebase hS
  obtain ⟨T', h', X', e', Wr1, st⟩ := stI X C.1 C'.hZ eT A hj (g := oF m pc Ls (.int x :: .int j :: .ref a :: S)) rfl rfl (hb C.2.1 hd)
  obtain ⟨u, o, g1, g2⟩ := K h' Wr1 T' ⟨vm0, k0, _, ck, cn, X', e', N.snoc hP, q1, q2, hS, by rw [Wr1.size]; exact hk0, hbv, hJ⟩
  exact ⟨u, o, st u g1, g2⟩
theorem K_castore (C : oCx p s m meth c P Z y B ml rt) {a : Addr} {cl : Cell} {j : Int32} {x : Int32} (A : Arr Z h a cl .char) (hj : ¬ (j < 0 ∨ cl.slots.size ≤ j.toNatClampNeg)) (hP : P a) (hd : decode B pc = .ok (.castore, 1)) (K : ∀ h', Wr h h' a j.toNatClampNeg (.int (nar .char x)) → oWP b p l e R s m args below meth c P Q J h' k n (oF m (pc + 1) Ls S)) : oWP b p l e R s m args below meth c P Q J h k n (oF m pc Ls (.int x :: .int j :: .ref a :: S)) := fun T hT => by
  obtain ⟨vm0, k0, locs, ck, cn, X, eT, N, q1, q2, hS, hk0, hbv, hJ⟩ := hT
  have C' := C.rebase hS
  obtain ⟨T', h', X', e', Wr1, st⟩ := stC X C.1 C'.hZ eT A hj (g := oF m pc Ls (.int x :: .int j :: .ref a :: S)) rfl rfl (hb C.2.1 hd)
  obtain ⟨u, o, g1, g2⟩ := K h' Wr1 T' ⟨vm0, k0, _, ck, cn, X', e', N.snoc hP, q1, q2, hS, by rw [Wr1.size]; exact hk0, hbv, hJ⟩
  exact ⟨u, o, st u g1, g2⟩
theorem K_bastore (C : oCx p s m meth c P Z y B ml rt) {a : Addr} {cl : Cell} {j : Int32} {x : Int32} (A : Arr Z h a cl .byte) (hj : ¬ (j < 0 ∨ cl.slots.size ≤ j.toNatClampNeg)) (hP : P a) (hd : decode B pc = .ok (.bastore, 1)) (K : ∀ h', Wr h h' a j.toNatClampNeg (.int (nar .byte x)) → oWP b p l e R s m args below meth c P Q J h' k n (oF m (pc + 1) Ls S)) : oWP b p l e R s m args below meth c P Q J h k n (oF m pc Ls (.int x :: .int j :: .ref a :: S)) := fun T hT => by
  obtain ⟨vm0, k0, locs, ck, cn, X, eT, N, q1, q2, hS, hk0, hbv, hJ⟩ := hT
  have C' := C.rebase hS
  obtain ⟨T', h', X', e', Wr1, st⟩ := stB X C.1 C'.hZ eT A hj (g := oF m pc Ls (.int x :: .int j :: .ref a :: S)) rfl rfl (hb C.2.1 hd)
  obtain ⟨u, o, g1, g2⟩ := K h' Wr1 T' ⟨vm0, k0, _, ck, cn, X', e', N.snoc hP, q1, q2, hS, by rw [Wr1.size]; exact hk0, hbv, hJ⟩
  exact ⟨u, o, st u g1, g2⟩
theorem K_zastore (C : oCx p s m meth c P Z y B ml rt) {a : Addr} {cl : Cell} {j : Int32} {x : Int32} (A : Arr Z h a cl .boolean) (hj : ¬ (j < 0 ∨ cl.slots.size ≤ j.toNatClampNeg)) (hP : P a) (hd : decode B pc = .ok (.bastore, 1)) (K : ∀ h', Wr h h' a j.toNatClampNeg (.int (nar .boolean x)) → oWP b p l e R s m args below meth c P Q J h' k n (oF m (pc + 1) Ls S)) : oWP b p l e R s m args below meth c P Q J h k n (oF m pc Ls (.int x :: .int j :: .ref a :: S)) := fun T hT => by
  obtain ⟨vm0, k0, locs, ck, cn, X, eT, N, q1, q2, hS, hk0, hbv, hJ⟩ := hT
  have C' := C.rebase hS
  obtain ⟨T', h', X', e', Wr1, st⟩ := stZ X C.1 C'.hZ eT A hj (g := oF m pc Ls (.int x :: .int j :: .ref a :: S)) rfl rfl (hb C.2.1 hd)
  obtain ⟨u, o, g1, g2⟩ := K h' Wr1 T' ⟨vm0, k0, _, ck, cn, X', e', N.snoc hP, q1, q2, hS, by rw [Wr1.size]; exact hk0, hbv, hJ⟩
  exact ⟨u, o, st u g1, g2⟩
theorem K_lastore (C : oCx p s m meth c P Z y B ml rt) {a : Addr} {cl : Cell} {j : Int32} {x : Int64} (A : Arr Z h a cl .long) (hj : ¬ (j < 0 ∨ cl.slots.size ≤ j.toNatClampNeg)) (hP : P a) (hd : decode B pc = .ok (.lastore, 1)) (K : ∀ h', Wr h h' a j.toNatClampNeg (.long x) → oWP b p l e R s m args below meth c P Q J h' k n (oF m (pc + 1) Ls S)) : oWP b p l e R s m args below meth c P Q J h k n (oF m pc Ls (.long x :: .int j :: .ref a :: S)) := fun T hT => by
  obtain ⟨vm0, k0, locs, ck, cn, X, eT, N, q1, q2, hS, hk0, hbv, hJ⟩ := hT
  have C' := C.rebase hS
  obtain ⟨T', h', X', e', Wr1, st⟩ := stJ X C.1 C'.hZ eT A hj (g := oF m pc Ls (.long x :: .int j :: .ref a :: S)) rfl rfl (hb C.2.1 hd)
  obtain ⟨u, o, g1, g2⟩ := K h' Wr1 T' ⟨vm0, k0, _, ck, cn, X', e', N.snoc hP, q1, q2, hS, by rw [Wr1.size]; exact hk0, hbv, hJ⟩
  exact ⟨u, o, st u g1, g2⟩
end OwnKit
section OwnKit3
theorem oNarB0 : nar .boolean 0 = 0 := by decide
theorem oNarB1 : nar .boolean 1 = 1 := by decide
theorem oEqI {args : Array Value} {s : State} {t : Term} {k : Int32} (h : (Jvm.Cond.eq t (.int k)).value args s none s [] = some true) : t.eval args s none [] s = some (.int k) := by
  obtain ⟨x, y, hx, hy, hk, -⟩ := cmp_v (Or.inl h)
  cases (Term.int_eval k).symm.trans hy
  cases x with
  | int z => simp [Cond.value, hx, Term.int_eval] at h; rw [hx, h]
  | _ => simp [Kin, Value.isRef] at hk
theorem oEqR {args : Array Value} {s : State} {t u : Term} {w : Addr} (h : (Jvm.Cond.eq t u).value args s none s [] = some true) (hu : u.eval args s none [] s = some (.ref w)) : t.eval args s none [] s = some (.ref w) := by
  obtain ⟨x, y, hx, hy, hk, -⟩ := cmp_v (Or.inl h)
  cases hu.symm.trans hy
  cases x with
  | ref z => simp [Cond.value, hx, hu] at h; rw [hx, h]
  | null => simp [Cond.value, hx, hu] at h
  | _ => simp [Kin, Value.isRef] at hk
/-- a mask that is one below a power of two, then a remainder: some small natural -/
theorem oRem (x : Int32) (q : Nat) (hq : 0 < q) (hq2 : q < 2 ^ 31) : ∃ i : Nat, i < q ∧ (x &&& 2147483647) % Int32.ofNat q = Int32.ofNat i := by
  have e1 : (x &&& 2147483647).toInt = x.toInt % 2 ^ 31 := Jvm.Kit.i32_mask x 2147483647 (k := 31) (by decide) (by decide)
  have hb : 0 ≤ (x &&& 2147483647).toInt := by rw [e1]; exact Int.emod_nonneg _ (by decide)
  have e2 : (Int32.ofNat q).toInt = q := Int32.toInt_ofNat_of_lt hq2
  have e3 : ((x &&& 2147483647) % Int32.ofNat q).toInt = (x &&& 2147483647).toInt % q := by
    rw [Int32.toInt_mod, e2, Int.tmod_eq_emod_of_nonneg hb]
  refine ⟨((x &&& 2147483647).toInt % q).toNat, ?_, ?_⟩
  · have := Int.emod_lt_of_pos (x &&& 2147483647).toInt (b := (q : Int)) (by omega)
    have := Int.emod_nonneg (x &&& 2147483647).toInt (b := (q : Int)) (by omega)
    omega
  · apply Int32.toInt_inj.mp
    have h1 := Int.emod_lt_of_pos (x &&& 2147483647).toInt (b := (q : Int)) (by omega)
    have h2 := Int.emod_nonneg (x &&& 2147483647).toInt (b := (q : Int)) (by omega)
    rw [e3, Int32.toInt_ofNat_of_lt (by omega)]
    omega
theorem oAnd3 (x : Int32) : x &&& 3 = 0 ∨ x &&& 3 = 1 ∨ x &&& 3 = 2 ∨ x &&& 3 = 3 := by
  have e1 : (x &&& 3).toInt = x.toInt % 2 ^ 2 := Jvm.Kit.i32_mask x 3 (k := 2) (by decide) (by decide)
  have h1 := Int.emod_lt_of_pos x.toInt (b := 4) (by decide)
  have h2 := Int.emod_nonneg x.toInt (b := 4) (by decide)
  have : x.toInt % 2 ^ 2 = 0 ∨ x.toInt % 2 ^ 2 = 1 ∨ x.toInt % 2 ^ 2 = 2 ∨ x.toInt % 2 ^ 2 = 3 := by omega
  rcases this with q | q | q | q
  · exact Or.inl (Int32.toInt_inj.mp (by rw [e1, q]; rfl))
  · exact Or.inr (Or.inl (Int32.toInt_inj.mp (by rw [e1, q]; rfl)))
  · exact Or.inr (Or.inr (Or.inl (Int32.toInt_inj.mp (by rw [e1, q]; rfl))))
  · exact Or.inr (Or.inr (Or.inr (Int32.toInt_inj.mp (by rw [e1, q]; rfl))))
theorem oExt.tr {h1 h2 h3 : Heap} (a : Ext h1 h2) (b : Ext h2 h3) : Ext h1 h3 := ⟨Nat.le_trans a.1 b.1, fun x c q => b.2 x c (a.2 x c q)⟩
theorem oEqL {args : Array Value} {s : State} {t : Term} {k : Int64} (h : (Jvm.Cond.eq t (.long k)).value args s none s [] = some true) : t.eval args s none [] s = some (.long k) := by
  obtain ⟨x, y, hx, hy, hk, -⟩ := cmp_v (Or.inl h)
  have e : (Term.long k).eval args s none [] s = some (.long k) := rfl
  cases e.symm.trans hy
  cases x with
  | long z => simp [Cond.value, hx, e] at h; rw [hx, h]
  | _ => simp [Kin, Value.isRef] at hk
theorem oLen {args : Array Value} {s : State} {t : Term} {a : Addr} {c : Cell} {ty : FieldType} {z : Int32} (ea : t.eval args s none [] s = some (.ref a)) (A : Arr s s.heap a c ty) (h : (Jvm.Cond.eq (Term.length t) (.int z)).value args s none s [] = some true) : c.slots.size = z.toInt.toNat := by
  have h1 := oEqI h
  have h2 := Arr.fin (State.Warmed39.refl s).alike A
  simp only [Term.eval, ea, h2, Option.bind_eq_bind, Option.bind_some] at h1
  split at h1
  · rename_i hlt
    cases h1
    rw [len_toInt hlt]; simp
  · cases h1
end OwnKit3
theorem tw0 {Z : State} {a0 : Array Value} (hw : ∀ d ∈ tables_1, d.before a0 Z = true) : ((Jvm.Cond.methodLink "com/example/kaskade/kaskade/policy/robust/RobustnessFitsPinLaw" (22 : Nat) ({ cls := "com/example/kaskade/kaskade/policy/robust/RobustnessFitsPinLaw", name := "pick", desc := "(I)Lcom/example/kaskade/kaskade/policy/robust/Robustness;" } : Jvm.MethodName))).before a0 Z = true := hw _ (List.mem_of_getElem? (i := 0) rfl)
theorem tw1 {Z : State} {a0 : Array Value} (hw : ∀ d ∈ tables_1, d.before a0 Z = true) : ((Jvm.Cond.static ({ cls := "com/example/kaskade/kaskade/policy/robust/RobustnessFitsPinLaw", name := "pick", desc := "(I)Lcom/example/kaskade/kaskade/policy/robust/Robustness;" } : Jvm.MethodName))).before a0 Z = true := hw _ (List.mem_of_getElem? (i := 1) rfl)
theorem tw2 {Z : State} {a0 : Array Value} (hw : ∀ d ∈ tables_1, d.before a0 Z = true) : ((Jvm.Cond.initialized "com/example/kaskade/kaskade/policy/robust/RobustnessFitsPinLaw")).before a0 Z = true := hw _ (List.mem_of_getElem? (i := 2) rfl)
theorem tw3 {Z : State} {a0 : Array Value} (hw : ∀ d ∈ tables_1, d.before a0 Z = true) : ((Jvm.Cond.code ({ cls := "com/example/kaskade/kaskade/policy/robust/RobustnessFitsPinLaw", name := "pick", desc := "(I)Lcom/example/kaskade/kaskade/policy/robust/Robustness;" } : Jvm.MethodName) method_2_code (1 : Nat) (Option.some (Jvm.ClassFile.FieldType.object "com/example/kaskade/kaskade/policy/robust/Robustness")))).before a0 Z = true := hw _ (List.mem_of_getElem? (i := 3) rfl)
theorem tw4 {Z : State} {a0 : Array Value} (hw : ∀ d ∈ tables_1, d.before a0 Z = true) : ((Jvm.Cond.fieldLink "com/example/kaskade/kaskade/policy/robust/RobustnessFitsPinLaw" (7 : Nat) "com/example/kaskade/kaskade/policy/robust/Robustness" "NONE" "Lcom/example/kaskade/kaskade/policy/robust/Robustness;")).before a0 Z = true := hw _ (List.mem_of_getElem? (i := 4) rfl)
theorem tw5 {Z : State} {a0 : Array Value} (hw : ∀ d ∈ tables_1, d.before a0 Z = true) : ((Jvm.Cond.initialized "com/example/kaskade/kaskade/policy/robust/Robustness")).before a0 Z = true := hw _ (List.mem_of_getElem? (i := 5) rfl)
theorem tw6 {Z : State} {a0 : Array Value} (hw : ∀ d ∈ tables_1, d.before a0 Z = true) : ((Jvm.Cond.laysStatic "com/example/kaskade/kaskade/policy/robust/Robustness" "NONE" "Lcom/example/kaskade/kaskade/policy/robust/Robustness;")).before a0 Z = true := hw _ (List.mem_of_getElem? (i := 6) rfl)
theorem tw7 {Z : State} {a0 : Array Value} (hw : ∀ d ∈ tables_1, d.before a0 Z = true) : ((Jvm.Cond.methodLink "com/example/kaskade/kaskade/policy/robust/RobustnessFitsPinLaw" (28 : Nat) ({ cls := "com/example/kaskade/kaskade/policy/robust/Robustness", name := "fits", desc := "(I)Z" } : Jvm.MethodName))).before a0 Z = true := hw _ (List.mem_of_getElem? (i := 7) rfl)
theorem tw8 {Z : State} {a0 : Array Value} (hw : ∀ d ∈ tables_1, d.before a0 Z = true) : ((Jvm.Cond.declares ({ cls := "com/example/kaskade/kaskade/policy/robust/Robustness", name := "fits", desc := "(I)Z" } : Jvm.MethodName))).before a0 Z = true := hw _ (List.mem_of_getElem? (i := 8) rfl)
theorem tw9 {Z : State} {a0 : Array Value} (hw : ∀ d ∈ tables_1, d.before a0 Z = true) : ((Jvm.Cond.instanceMethod ({ cls := "com/example/kaskade/kaskade/policy/robust/Robustness", name := "fits", desc := "(I)Z" } : Jvm.MethodName))).before a0 Z = true := hw _ (List.mem_of_getElem? (i := 9) rfl)
theorem tw10 {Z : State} {a0 : Array Value} (hw : ∀ d ∈ tables_1, d.before a0 Z = true) : ((Jvm.Cond.selects "com/example/kaskade/kaskade/policy/robust/Robustness" ({ cls := "com/example/kaskade/kaskade/policy/robust/Robustness", name := "fits", desc := "(I)Z" } : Jvm.MethodName) ({ cls := "com/example/kaskade/kaskade/policy/robust/Robustness", name := "fits", desc := "(I)Z" } : Jvm.MethodName))).before a0 Z = true := hw _ (List.mem_of_getElem? (i := 10) rfl)
theorem tw11 {Z : State} {a0 : Array Value} (hw : ∀ d ∈ tables_1, d.before a0 Z = true) : ((Jvm.Cond.code ({ cls := "com/example/kaskade/kaskade/policy/robust/Robustness", name := "fits", desc := "(I)Z" } : Jvm.MethodName) prog_12_method_5_code (2 : Nat) (Option.some Jvm.ClassFile.FieldType.boolean))).before a0 Z = true := hw _ (List.mem_of_getElem? (i := 11) rfl)
theorem tw12 {Z : State} {a0 : Array Value} (hw : ∀ d ∈ tables_1, d.before a0 Z = true) : ((Jvm.Cond.fieldLink "com/example/kaskade/kaskade/policy/robust/Robustness" (13 : Nat) "com/example/kaskade/kaskade/policy/robust/Robustness" "TWO_NODE" "Lcom/example/kaskade/kaskade/policy/robust/Robustness;")).before a0 Z = true := hw _ (List.mem_of_getElem? (i := 12) rfl)
theorem tw13 {Z : State} {a0 : Array Value} (hw : ∀ d ∈ tables_1, d.before a0 Z = true) : ((Jvm.Cond.laysStatic "com/example/kaskade/kaskade/policy/robust/Robustness" "TWO_NODE" "Lcom/example/kaskade/kaskade/policy/robust/Robustness;")).before a0 Z = true := hw _ (List.mem_of_getElem? (i := 13) rfl)
theorem tw14 {Z : State} {a0 : Array Value} (hw : ∀ d ∈ tables_1, d.before a0 Z = true) : ((Jvm.Cond.fieldLink "com/example/kaskade/kaskade/policy/robust/RobustnessFitsPinLaw" (16 : Nat) "com/example/kaskade/kaskade/policy/robust/Robustness" "ONE_NODE" "Lcom/example/kaskade/kaskade/policy/robust/Robustness;")).before a0 Z = true := hw _ (List.mem_of_getElem? (i := 14) rfl)
theorem tw15 {Z : State} {a0 : Array Value} (hw : ∀ d ∈ tables_1, d.before a0 Z = true) : ((Jvm.Cond.laysStatic "com/example/kaskade/kaskade/policy/robust/Robustness" "ONE_NODE" "Lcom/example/kaskade/kaskade/policy/robust/Robustness;")).before a0 Z = true := hw _ (List.mem_of_getElem? (i := 15) rfl)
theorem tw16 {Z : State} {a0 : Array Value} (hw : ∀ d ∈ tables_1, d.before a0 Z = true) : ((Jvm.Cond.fieldLink "com/example/kaskade/kaskade/policy/robust/RobustnessFitsPinLaw" (13 : Nat) "com/example/kaskade/kaskade/policy/robust/Robustness" "SLACK" "Lcom/example/kaskade/kaskade/policy/robust/Robustness;")).before a0 Z = true := hw _ (List.mem_of_getElem? (i := 16) rfl)
theorem tw17 {Z : State} {a0 : Array Value} (hw : ∀ d ∈ tables_1, d.before a0 Z = true) : ((Jvm.Cond.laysStatic "com/example/kaskade/kaskade/policy/robust/Robustness" "SLACK" "Lcom/example/kaskade/kaskade/policy/robust/Robustness;")).before a0 Z = true := hw _ (List.mem_of_getElem? (i := 17) rfl)
theorem tw18 {Z : State} {a0 : Array Value} (hw : ∀ d ∈ tables_1, d.before a0 Z = true) : ((Jvm.Cond.fieldLink "com/example/kaskade/kaskade/policy/robust/RobustnessFitsPinLaw" (19 : Nat) "com/example/kaskade/kaskade/policy/robust/Robustness" "TWO_NODE" "Lcom/example/kaskade/kaskade/policy/robust/Robustness;")).before a0 Z = true := hw _ (List.mem_of_getElem? (i := 18) rfl)
theorem d1_0 : decode method_2_code 0 = .ok (.iload_n 0, 1) := by decide +kernel
theorem d1_1 : decode method_2_code 1 = .ok (.ifCond .ne 7, 3) := by decide +kernel
theorem d1_4 : decode method_2_code 4 = .ok (.getstatic 7, 3) := by decide +kernel
theorem d1_7 : decode method_2_code 7 = .ok (.areturn, 1) := by decide +kernel
theorem d1_8 : decode method_2_code 8 = .ok (.iload_n 0, 1) := by decide +kernel
theorem d1_9 : decode method_2_code 9 = .ok (.iconst 1, 1) := by decide +kernel
theorem d1_10 : decode method_2_code 10 = .ok (.if_icmp .ne 7, 3) := by decide +kernel
theorem d1_13 : decode method_2_code 13 = .ok (.getstatic 13, 3) := by decide +kernel
theorem d1_16 : decode method_2_code 16 = .ok (.areturn, 1) := by decide +kernel
theorem d1_17 : decode method_2_code 17 = .ok (.iload_n 0, 1) := by decide +kernel
theorem d1_18 : decode method_2_code 18 = .ok (.iconst 2, 1) := by decide +kernel
theorem d1_19 : decode method_2_code 19 = .ok (.if_icmp .ne 7, 3) := by decide +kernel
theorem d1_22 : decode method_2_code 22 = .ok (.getstatic 16, 3) := by decide +kernel
theorem d1_25 : decode method_2_code 25 = .ok (.areturn, 1) := by decide +kernel
theorem d1_26 : decode method_2_code 26 = .ok (.getstatic 19, 3) := by decide +kernel
theorem d1_29 : decode method_2_code 29 = .ok (.areturn, 1) := by decide +kernel
theorem d2_0 : decode prog_12_method_5_code 0 = .ok (.aload_n 0, 1) := by decide +kernel
theorem d2_1 : decode prog_12_method_5_code 1 = .ok (.getstatic 13, 3) := by decide +kernel
theorem d2_4 : decode prog_12_method_5_code 4 = .ok (.if_acmp .ne 8, 3) := by decide +kernel
theorem d2_7 : decode prog_12_method_5_code 7 = .ok (.iload_n 1, 1) := by decide +kernel
theorem d2_8 : decode prog_12_method_5_code 8 = .ok (.iconst 3, 1) := by decide +kernel
theorem d2_9 : decode prog_12_method_5_code 9 = .ok (.if_icmp .lt 7, 3) := by decide +kernel
theorem d2_12 : decode prog_12_method_5_code 12 = .ok (.iconst 1, 1) := by decide +kernel
theorem d2_13 : decode prog_12_method_5_code 13 = .ok (.goto 4, 3) := by decide +kernel
theorem d2_16 : decode prog_12_method_5_code 16 = .ok (.iconst 0, 1) := by decide +kernel
theorem d2_17 : decode prog_12_method_5_code 17 = .ok (.ireturn, 1) := by decide +kernel
theorem pdo_0 : parseMethodDescriptor "(I)Lcom/example/kaskade/kaskade/policy/robust/Robustness;" = some ⟨[.int], some (.object "com/example/kaskade/kaskade/policy/robust/Robustness")⟩ := by decide +kernel
theorem pdo_1 : parseMethodDescriptor "(I)Z" = some ⟨[.int], some .boolean⟩ := by decide +kernel
theorem pno_1 : plainFor (⟨"com/example/kaskade/kaskade/policy/robust/RobustnessFitsPinLaw", "pick", "(I)Lcom/example/kaskade/kaskade/policy/robust/Robustness;"⟩ : MethodName) = true := by first | exact plainFor_of_name (by first | (simp [plainName, overriddenIn]; done) | decide +kernel) | decide +kernel
theorem efo_1 (m : MethodId) (x0 : Int32) : entryFrame m #[.int x0] 1 = oF m 0 [.val (.int x0)] [] := by first | (simp [entryFrame, oF, mkF, argsToLocals, Value.category]; done) | rfl
theorem pno_2 : plainFor (⟨"com/example/kaskade/kaskade/policy/robust/Robustness", "fits", "(I)Z"⟩ : MethodName) = true := by first | exact plainFor_of_name (by first | (simp [plainName, overriddenIn]; done) | decide +kernel) | decide +kernel
theorem efo_2 (m : MethodId) (x0 : Addr) (x1 : Int32) : entryFrame m #[.ref x0, .int x1] 2 = oF m 0 [.val (.ref x0), .val (.int x1)] [] := by first | (simp [entryFrame, oF, mkF, argsToLocals, Value.category]; done) | rfl
theorem pno_0 : plainFor x = true := by first | exact plainFor_of_name (by first | (simp [plainName, overriddenIn]; done) | decide +kernel) | decide +kernel
theorem efo_0 (m : MethodId) (x0 : Int32) (x1 : Int32) : entryFrame m #[.int x0, .int x1] maxLocals = oF m 0 [.val (.int x0), .val (.int x1), .unset, .unset, .unset] [] := by first | (simp [entryFrame, oF, mkF, argsToLocals, Value.category, maxLocals]; done) | rfl
set_option maxRecDepth 65536 in
set_option maxHeartbeats 40000000 in
theorem m1 (l : Launch) (Z : State) (a0 : Array Value) (hw : ∀ d ∈ tables_1, d.before a0 Z = true) (p1 : Int32) (h0 : Heap) (w_NONE : Addr) (S_NONE : Sta Z Z.heap "com/example/kaskade/kaskade/policy/robust/Robustness" "NONE" "Lcom/example/kaskade/kaskade/policy/robust/Robustness;" (.ref w_NONE)) (w_SLACK : Addr) (S_SLACK : Sta Z Z.heap "com/example/kaskade/kaskade/policy/robust/Robustness" "SLACK" "Lcom/example/kaskade/kaskade/policy/robust/Robustness;" (.ref w_SLACK)) (w_ONE_NODE : Addr) (S_ONE_NODE : Sta Z Z.heap "com/example/kaskade/kaskade/policy/robust/Robustness" "ONE_NODE" "Lcom/example/kaskade/kaskade/policy/robust/Robustness;" (.ref w_ONE_NODE)) (w_TWO_NODE : Addr) (S_TWO_NODE : Sta Z Z.heap "com/example/kaskade/kaskade/policy/robust/Robustness" "TWO_NODE" "Lcom/example/kaskade/kaskade/policy/robust/Robustness;" (.ref w_TWO_NODE)) :
    oMeets l Z (⟨"com/example/kaskade/kaskade/policy/robust/RobustnessFitsPinLaw", "pick", "(I)Lcom/example/kaskade/kaskade/policy/robust/Robustness;"⟩ : MethodName) method_2_code 1 (some (.object "com/example/kaskade/kaskade/policy/robust/Robustness")) ({ frames := 0, cells := 0, slots := 0, locals := 0 } : Room) #[.int p1] h0 (fun a => h0.size ≤ a) (fun v h => v = some (.ref (if p1 = 0 then w_NONE else if p1 = 1 then w_SLACK else if p1 = 2 then w_ONE_NODE else w_TWO_NODE)) ∧ h = h0) := by
  refine oMeets.of pno_1 (fun _ q => q) (fun E _ q => Nat.le_trans E.1 q) (Ls := [.val (.int p1)]) (fun m => efo_1 m p1) ?_
  intro p e s m below meth c C hs
  refine K_iloadN C (pc := 0) d1_0 rfl ?_
  refine K_if C (pc := 1) 8 d1_1 (by decide) (by decide) (fun hc1 => ?_) (fun hc1 => ?_)
  · simp only [oC, Classical.not_not] at hc1
    refine K_iloadN C (pc := 8) d1_8 rfl ?_
    refine K_iconst C (pc := 9) 1 d1_9 (by decide) ?_
    refine K_icmp C (pc := 10) 17 d1_10 (by decide) (by decide) (fun hc10 => ?_) (fun hc10 => ?_)
    · simp only [oC, Classical.not_not] at hc10
      refine K_iloadN C (pc := 17) d1_17 rfl ?_
      refine K_iconst C (pc := 18) 2 d1_18 (by decide) ?_
      refine K_icmp C (pc := 19) 26 d1_19 (by decide) (by decide) (fun hc19 => ?_) (fun hc19 => ?_)
      · simp only [oC, Classical.not_not] at hc19
        refine K_getS C (pc := 26) (tw18 hw) Via.refl S_TWO_NODE d1_26 ?_
        refine K_areturn C (pc := 29) d1_29 rfl rfl rfl (by decide) (by decide) (fun _ _ => ⟨?_, rfl⟩)
        simp [hc1, hc10, hc19]
      · simp only [oC, Classical.not_not] at hc19
        refine K_getS C (pc := 22) (tw14 hw) Via.refl S_ONE_NODE d1_22 ?_
        refine K_areturn C (pc := 25) d1_25 rfl rfl rfl (by decide) (by decide) (fun _ _ => ⟨?_, rfl⟩)
        simp [hc1, hc10, hc19]
    · simp only [oC, Classical.not_not] at hc10
      refine K_getS C (pc := 13) (tw16 hw) Via.refl S_SLACK d1_13 ?_
      refine K_areturn C (pc := 16) d1_16 rfl rfl rfl (by decide) (by decide) (fun _ _ => ⟨?_, rfl⟩)
      simp [hc1, hc10]
  · simp only [oC, Classical.not_not] at hc1
    refine K_getS C (pc := 4) (tw4 hw) Via.refl S_NONE d1_4 ?_
    refine K_areturn C (pc := 7) d1_7 rfl rfl rfl (by decide) (by decide) (fun _ _ => ⟨?_, rfl⟩)
    simp [hc1]
set_option maxRecDepth 65536 in
set_option maxHeartbeats 40000000 in
theorem m2 (l : Launch) (Z : State) (a0 : Array Value) (hw : ∀ d ∈ tables_1, d.before a0 Z = true) (a : Addr) (p1 : Int32) (h0 : Heap) (w_TWO_NODE : Addr) (S_TWO_NODE : Sta Z Z.heap "com/example/kaskade/kaskade/policy/robust/Robustness" "TWO_NODE" "Lcom/example/kaskade/kaskade/policy/robust/Robustness;" (.ref w_TWO_NODE)) :
    oMeets l Z (⟨"com/example/kaskade/kaskade/policy/robust/Robustness", "fits", "(I)Z"⟩ : MethodName) prog_12_method_5_code 2 (some .boolean) ({ frames := 0, cells := 0, slots := 0, locals := 0 } : Room) #[.ref a, .int p1] h0 (fun a => h0.size ≤ a) (fun v h => v = some (.int (if a = w_TWO_NODE ∧ p1 < 3 then 0 else 1)) ∧ h = h0) := by
  refine oMeets.of pno_2 (fun _ q => q) (fun E _ q => Nat.le_trans E.1 q) (Ls := [.val (.ref a), .val (.int p1)]) (fun m => efo_2 m a p1) ?_
  intro p e s m below meth c C hs
  have h23 : p1 < 3 ↔ ¬ 2 < p1 := by rw [Int32.lt_iff_toInt_lt, Int32.lt_iff_toInt_lt]; show p1.toInt < 3 ↔ ¬ 2 < p1.toInt; omega
  refine K_aloadN C (pc := 0) d2_0 rfl rfl ?_
  refine K_getS C (pc := 1) (tw12 hw) Via.refl S_TWO_NODE d2_1 ?_
  refine K_acmp C (pc := 4) 12 d2_4 rfl rfl (by decide) (by decide) (fun hc4 => ?_) (fun hc4 => ?_)
  · simp only [oA, Classical.not_not, Value.ref.injEq] at hc4
    refine K_iconst C (pc := 12) 1 d2_12 (by decide) ?_
    refine K_goto C (pc := 13) 17 d2_13 (by decide) (by decide) ?_
    refine K_ireturn C (pc := 17) d2_17 (by simp) (by first | rfl | decide) (by decide) (by decide) (fun _ _ => ⟨?_, rfl⟩)
    simp [oNarB0, oNarB1, hc4]
  · simp only [oA, Classical.not_not, Value.ref.injEq] at hc4
    refine K_iloadN C (pc := 7) d2_7 rfl ?_
    refine K_iconst C (pc := 8) 3 d2_8 (by decide) ?_
    refine K_icmp C (pc := 9) 16 d2_9 (by decide) (by decide) (fun hc9 => ?_) (fun hc9 => ?_)
    · simp only [oC, Classical.not_not] at hc9
      refine K_iconst C (pc := 16) 0 d2_16 (by decide) ?_
      refine K_ireturn C (pc := 17) d2_17 (by simp) (by first | rfl | decide) (by decide) (by decide) (fun _ _ => ⟨?_, rfl⟩)
      simp [oNarB0, oNarB1, hc4, hc9]
    · simp only [oC, Classical.not_not] at hc9
      refine K_iconst C (pc := 12) 1 d2_12 (by decide) ?_
      refine K_goto C (pc := 13) 17 d2_13 (by decide) (by decide) ?_
      refine K_ireturn C (pc := 17) d2_17 (by simp) (by first | rfl | decide) (by decide) (by decide) (fun _ _ => ⟨?_, rfl⟩)
      simp [oNarB0, oNarB1, hc4, hc9]
set_option maxRecDepth 65536 in
set_option maxHeartbeats 40000000 in
theorem m0 (l : Launch) (Z : State) (a0 : Array Value) (hw : ∀ d ∈ tables_1, d.before a0 Z = true) (p1 p2 : Int32) (h0 : Heap) (w_NONE : Addr) (S_NONE : Sta Z Z.heap "com/example/kaskade/kaskade/policy/robust/Robustness" "NONE" "Lcom/example/kaskade/kaskade/policy/robust/Robustness;" (.ref w_NONE)) (w_SLACK : Addr) (S_SLACK : Sta Z Z.heap "com/example/kaskade/kaskade/policy/robust/Robustness" "SLACK" "Lcom/example/kaskade/kaskade/policy/robust/Robustness;" (.ref w_SLACK)) (w_ONE_NODE : Addr) (S_ONE_NODE : Sta Z Z.heap "com/example/kaskade/kaskade/policy/robust/Robustness" "ONE_NODE" "Lcom/example/kaskade/kaskade/policy/robust/Robustness;" (.ref w_ONE_NODE)) (w_TWO_NODE : Addr) (S_TWO_NODE : Sta Z Z.heap "com/example/kaskade/kaskade/policy/robust/Robustness" "TWO_NODE" "Lcom/example/kaskade/kaskade/policy/robust/Robustness;" (.ref w_TWO_NODE)) (X_NONE : Exa Z Z.heap w_NONE "com/example/kaskade/kaskade/policy/robust/Robustness") (X_SLACK : Exa Z Z.heap w_SLACK "com/example/kaskade/kaskade/policy/robust/Robustness") (X_ONE_NODE : Exa Z Z.heap w_ONE_NODE "com/example/kaskade/kaskade/policy/robust/Robustness") (X_TWO_NODE : Exa Z Z.heap w_TWO_NODE "com/example/kaskade/kaskade/policy/robust/Robustness") (hn0 : w_NONE ≠ w_TWO_NODE) (hn1 : w_SLACK ≠ w_TWO_NODE) (hn2 : w_ONE_NODE ≠ w_TWO_NODE) :
    oMeets l Z x code maxLocals ret room_1 #[.int p1, .int p2] h0 (fun a => h0.size ≤ a) (fun v _ => v = some (.int 1)) := by
  refine oMeets.of pno_0 (fun _ q => q) (fun E _ q => Nat.le_trans E.1 q) (Ls := [.val (.int p1), .val (.int p2), .unset, .unset, .unset]) (fun m => efo_0 m p1 p2) ?_
  intro p e s m below meth c C hs
  refine K_iloadN C (pc := 0) at_0 rfl ?_
  refine K_iconst C (pc := 1) 3 at_1 (by decide) ?_
  refine K_iand C (pc := 2) at_2 ?_
  refine K_istoreN C (pc := 3) (Ls' := [_, _, _, _, _]) at_3 rfl ?_
  have h23 : p2 < 3 ↔ ¬ 2 < p2 := by rw [Int32.lt_iff_toInt_lt, Int32.lt_iff_toInt_lt]; show p2.toInt < 3 ↔ ¬ 2 < p2.toInt; omega
  obtain ⟨r, hr, hX, hT⟩ : ∃ r : Addr, r = (if p1 &&& 3 = 0 then w_NONE else if p1 &&& 3 = 1 then w_SLACK else if p1 &&& 3 = 2 then w_ONE_NODE else w_TWO_NODE) ∧ Exa Z Z.heap r "com/example/kaskade/kaskade/policy/robust/Robustness" ∧ (r = w_TWO_NODE ↔ p1 &&& 3 = 3) := ⟨_, rfl, by split; exact X_NONE; split; exact X_SLACK; split; exact X_ONE_NODE; exact X_TWO_NODE, by rcases oAnd3 p1 with q | q | q | q <;> simp [q, hn0, hn1, hn2]⟩
  refine K_iloadN C (pc := 4) at_4 rfl ?_
  refine K_static C (pc := 5) (m1 l Z a0 hw _ h0 w_NONE S_NONE w_SLACK S_SLACK w_ONE_NODE S_ONE_NODE w_TWO_NODE S_TWO_NODE) (tw0 hw) (tw1 hw) (tw2 hw) (tw3 hw) (by decide) pdo_0 at_5 (argsL := [_]) (rest := _) rfl rfl rfl rfl (fun a q r => C.new a (Nat.le_trans q r)) (by decide) (Nat.le_of_ble_eq_true rfl) (by decide) (by decide) ?_
  rintro _ h1 ⟨rfl, rfl⟩ -
  rw [← hr]
  dsimp only [Option.toList, List.cons_append, List.nil_append]
  refine K_astoreN C (pc := 8) (Ls' := [_, _, _, _, _]) at_8 rfl rfl ?_
  refine K_iloadN C (pc := 9) at_9 rfl ?_
  refine K_iconst C (pc := 10) 3 at_10 (by decide) ?_
  refine K_icmp C (pc := 11) 29 at_11 (by decide) (by decide) (fun hc11 => ?_) (fun hc11 => ?_)
  · simp only [oC, Classical.not_not] at hc11
    refine K_iconst C (pc := 29) 1 at_29 (by decide) ?_
    refine K_istore C (pc := 30) (Ls' := [_, _, _, _, _]) at_30 rfl ?_
    refine K_aloadN C (pc := 32) at_32 rfl rfl ?_
    refine K_iloadN C (pc := 33) at_33 rfl ?_
    refine K_old C (fun hE _ _ => ?_)
    refine K_virtual C (pc := 34) (m2 l Z a0 hw r p2 _ w_TWO_NODE S_TWO_NODE) (hX.ext hE) (tw7 hw) (tw8 hw) (oNF (tw10 hw)) (tw10 hw) (tw9 hw) (tw5 hw) (tw11 hw) (by decide) pdo_1 at_34 (argsL := [_]) (rest := _) rfl rfl rfl rfl (fun a q r => C.new a (Nat.le_trans q r)) (by decide) (Nat.le_of_ble_eq_true rfl) (by decide) (by decide) ?_
    rintro _ h2 ⟨rfl, rfl⟩ -
    dsimp only [Option.toList, List.cons_append, List.nil_append]
    refine K_iload C (pc := 37) at_37 rfl ?_
    refine K_icmp C (pc := 39) 46 at_39 (by decide) (by decide) (fun hc39 => ?_) (fun hc39 => ?_)
    · simp only [oC, Classical.not_not] at hc39
      exact absurd hc39 (by simp [hT, hc11, h23])
    · simp only [oC, Classical.not_not] at hc39
      refine K_iconst C (pc := 42) 1 at_42 (by decide) ?_
      refine K_goto C (pc := 43) 47 at_43 (by decide) (by decide) ?_
      refine K_ireturn C (pc := 47) at_47 (by simp) (by first | rfl | decide) (by decide) (by decide) (fun _ _ => rfl)
  · simp only [oC, Classical.not_not] at hc11
    refine K_iloadN C (pc := 14) at_14 rfl ?_
    refine K_iconst C (pc := 15) 2 at_15 (by decide) ?_
    refine K_icmp C (pc := 16) 23 at_16 (by decide) (by decide) (fun hc16 => ?_) (fun hc16 => ?_)
    · simp only [oC, Classical.not_not] at hc16
      refine K_iconst C (pc := 23) 0 at_23 (by decide) ?_
      refine K_istore C (pc := 24) (Ls' := [_, _, _, _, _]) at_24 rfl ?_
      refine K_goto C (pc := 26) 32 at_26 (by decide) (by decide) ?_
      refine K_aloadN C (pc := 32) at_32 rfl rfl ?_
      refine K_iloadN C (pc := 33) at_33 rfl ?_
      refine K_old C (fun hE _ _ => ?_)
      refine K_virtual C (pc := 34) (m2 l Z a0 hw r p2 _ w_TWO_NODE S_TWO_NODE) (hX.ext hE) (tw7 hw) (tw8 hw) (oNF (tw10 hw)) (tw10 hw) (tw9 hw) (tw5 hw) (tw11 hw) (by decide) pdo_1 at_34 (argsL := [_]) (rest := _) rfl rfl rfl rfl (fun a q r => C.new a (Nat.le_trans q r)) (by decide) (Nat.le_of_ble_eq_true rfl) (by decide) (by decide) ?_
      rintro _ h2 ⟨rfl, rfl⟩ -
      dsimp only [Option.toList, List.cons_append, List.nil_append]
      refine K_iload C (pc := 37) at_37 rfl ?_
      refine K_icmp C (pc := 39) 46 at_39 (by decide) (by decide) (fun hc39 => ?_) (fun hc39 => ?_)
      · simp only [oC, Classical.not_not] at hc39
        exact absurd hc39 (by simp [hT, hc11, hc16, h23])
      · simp only [oC, Classical.not_not] at hc39
        refine K_iconst C (pc := 42) 1 at_42 (by decide) ?_
        refine K_goto C (pc := 43) 47 at_43 (by decide) (by decide) ?_
        refine K_ireturn C (pc := 47) at_47 (by simp) (by first | rfl | decide) (by decide) (by decide) (fun _ _ => rfl)
    · simp only [oC, Classical.not_not] at hc16
      refine K_iconst C (pc := 19) 1 at_19 (by decide) ?_
      refine K_goto C (pc := 20) 24 at_20 (by decide) (by decide) ?_
      refine K_istore C (pc := 24) (Ls' := [_, _, _, _, _]) at_24 rfl ?_
      refine K_goto C (pc := 26) 32 at_26 (by decide) (by decide) ?_
      refine K_aloadN C (pc := 32) at_32 rfl rfl ?_
      refine K_iloadN C (pc := 33) at_33 rfl ?_
      refine K_old C (fun hE _ _ => ?_)
      refine K_virtual C (pc := 34) (m2 l Z a0 hw r p2 _ w_TWO_NODE S_TWO_NODE) (hX.ext hE) (tw7 hw) (tw8 hw) (oNF (tw10 hw)) (tw10 hw) (tw9 hw) (tw5 hw) (tw11 hw) (by decide) pdo_1 at_34 (argsL := [_]) (rest := _) rfl rfl rfl rfl (fun a q r => C.new a (Nat.le_trans q r)) (by decide) (Nat.le_of_ble_eq_true rfl) (by decide) (by decide) ?_
      rintro _ h2 ⟨rfl, rfl⟩ -
      dsimp only [Option.toList, List.cons_append, List.nil_append]
      refine K_iload C (pc := 37) at_37 rfl ?_
      refine K_icmp C (pc := 39) 46 at_39 (by decide) (by decide) (fun hc39 => ?_) (fun hc39 => ?_)
      · simp only [oC, Classical.not_not] at hc39
        exact absurd hc39 (by simp [hT, hc11, hc16, h23])
      · simp only [oC, Classical.not_not] at hc39
        refine K_iconst C (pc := 42) 1 at_42 (by decide) ?_
        refine K_goto C (pc := 43) 47 at_43 (by decide) (by decide) ?_
        refine K_ireturn C (pc := 47) at_47 (by simp) (by first | rfl | decide) (by decide) (by decide) (fun _ _ => rfl)
set_option maxRecDepth 65536 in
set_option maxHeartbeats 40000000 in
theorem comes_1 {Post : Tables → Env → Array Value → State → Outcome → State → Prop} (hpost : ∀ tb e args s v u, (limb_1_1.after args s (.returned v) u = true ∧ limb_1_2.after args s (.returned v) u = true ∧ True) → FrameEnd s (.returned v) u (Jvm.fieldLocs frame_1_writes args s ++ Jvm.arrayLocs frame_1_arrays args s ++ Jvm.staticLocs frame_1_statics s) 0 0 → Post tb e args s (.returned v) u) :
    ArmFor flags0 classFile x code maxLocals ret World_1 tables_1 room_1 Calls_1 rest_1 Pre_1 Post := by
  intro l hfl _ _ p e ha hc hk s m args below hf hA hF happ hP
  obtain ⟨hcalls, hrest, hpre⟩ := hP
  obtain ⟨-, -, -, hnamed, -, -, -, hat⟩ := (Spec.applies_iff hf).mp happ
  obtain ⟨hg, hn⟩ := and_e (Cond.before_iff.mp (show (Jvm.Cond.and given_1 narrow_1).before args s = true from hpre))
  obtain ⟨gc, r0⟩ := and_e hg
  obtain ⟨g0, g1⟩ := and_e r0
  obtain ⟨w0, w1, rfl⟩ : ∃ w0 w1 : Value, args = #[w0, w1] := by
    have hs : args.size = 2 := by simpa [Cond.value, given_1] using gc
    obtain ⟨L⟩ := args
    match L, hs with
    | [w0, w1], _ => exact ⟨w0, w1, rfl⟩
  have hw := fun d (hd : d ∈ tables_1) => atoms_spec (ws := Jvm.Cond.code x code maxLocals ret :: tables_1) hat d (List.mem_cons_of_mem _ hd)
  obtain ⟨i0, ei0⟩ := is_v g0
  obtain rfl : w0 = (.int i0) := Option.some.inj ei0
  obtain ⟨i1, ei1⟩ := is_v g1
  obtain rfl : w1 = (.int i1) := Option.some.inj ei1
  obtain ⟨nc0, nr0⟩ := and_e hn
  obtain ⟨nc1, nr1⟩ := and_e nr0
  obtain ⟨nc2, nr2⟩ := and_e nr1
  obtain ⟨nc3, nr3⟩ := and_e nr2
  obtain ⟨nc4, nr4⟩ := and_e nr3
  obtain ⟨nc5, nr5⟩ := and_e nr4
  obtain ⟨nc6, nc7⟩ := and_e nr5
  obtain ⟨w_NONE, e_NONE⟩ := exa_v nc0
  have X_NONE := Exa.start e_NONE nc0
  have S_NONE := Sta.start e_NONE (Or.inr ⟨(tw5 hw), (tw6 hw)⟩)
  obtain ⟨w_TWO_NODE, e_TWO_NODE⟩ := exa_v nc1
  have X_TWO_NODE := Exa.start e_TWO_NODE nc1
  have S_TWO_NODE := Sta.start e_TWO_NODE (Or.inr ⟨(tw5 hw), (tw13 hw)⟩)
  obtain ⟨w_ONE_NODE, e_ONE_NODE⟩ := exa_v nc4
  have X_ONE_NODE := Exa.start e_ONE_NODE nc4
  have S_ONE_NODE := Sta.start e_ONE_NODE (Or.inr ⟨(tw5 hw), (tw15 hw)⟩)
  obtain ⟨w_SLACK, e_SLACK⟩ := exa_v nc6
  have X_SLACK := Exa.start e_SLACK nc6
  have S_SLACK := Sta.start e_SLACK (Or.inr ⟨(tw5 hw), (tw17 hw)⟩)
  have Fordinal_NONE := Fld.start ((fld_at e_NONE).symm.trans (oEqI nc2))
  have Fordinal_TWO_NODE := Fld.start ((fld_at e_TWO_NODE).symm.trans (oEqI nc3))
  have Fordinal_ONE_NODE := Fld.start ((fld_at e_ONE_NODE).symm.trans (oEqI nc5))
  have Fordinal_SLACK := Fld.start ((fld_at e_SLACK).symm.trans (oEqI nc7))
  have hn0 : w_NONE ≠ w_TWO_NODE := Fld.ne Fordinal_NONE Fordinal_TWO_NODE (by simp)
  have hn1 : w_SLACK ≠ w_TWO_NODE := Fld.ne Fordinal_SLACK Fordinal_TWO_NODE (by simp)
  have hn2 : w_ONE_NODE ≠ w_TWO_NODE := Fld.ne Fordinal_ONE_NODE Fordinal_TWO_NODE (by simp)
  obtain ⟨nn, oo, h1, h2, h3, _, L, rfl, ⟨rfl, N, -⟩, hq⟩ := (m0 l s _ hw i0 i1 s.heap w_NONE S_NONE w_SLACK S_SLACK w_ONE_NODE S_ONE_NODE w_TWO_NODE S_TWO_NODE X_NONE X_SLACK X_ONE_NODE X_TWO_NODE hn0 hn1 hn2) ⟨Nat.le_refl _, fun _ _ q => q⟩ tables_1 p e ha hc hk s m _ below hf ((Spec.applies_iff_loose hf).mp happ).1 ⟨rfl, State.Warmed39.refl s, rfl⟩ trivial
  refine ⟨nn, _, h1, h2, h3, hpost _ _ _ _ _ _ ⟨Cond.after_iff.mpr rfl, Cond.after_iff.mpr (eq_i res_at (Term.int_eval (1)) rfl), trivial⟩ ⟨hq.1, hq.2.1, (hq.2.2.sift fun y hy => Or.inr (N y hy)).mono (by decide) (by decide)⟩⟩
theorem main_1_1 : Claimed_1_1 := comes_1 fun _ _ _ _ _ _ h hF => ⟨h.1, hF⟩
theorem main_1_2 : Claimed_1_2 := comes_1 fun _ _ _ _ _ _ h hF => ⟨h.2.1, hF⟩
end Jvm.Pilot.@@N@@
namespace Jvm.Pilot.@@N@@
open Jvm Jvm.ClassFile Sem Op Lib Jvm.Free Jvm.Stand Jvm.Pilot.@@N@@.Jvm.D
/-! MADE BY PROGRAM (witnessworld.py) out of the Statement's table words and the real class files: 12 classes; the members and pool entries that the words name. The judged class is class 1, her method 2. -/
namespace start1
open Jvm.ClassFile
def u (s : String) : CpInfo := .utf8 (stringToUtf16 s)
/-- a pool by its gaps: so many unusable entries, then the entry; so many at the end -/
def gap : Nat → List CpInfo → List CpInfo
  | 0, r => r
  | n + 1, r => .unusable :: gap n r
def poolList (es : List (Nat × CpInfo)) (last : Nat) : List CpInfo := es.foldr (fun e r => gap e.1 (e.2 :: r)) (gap last [])
def pool (es : List (Nat × CpInfo)) (last : Nat) : Array CpInfo := ⟨poolList es last⟩
def fileOf (pool : Array CpInfo) (this : Nat) (attrs : Array Attribute := #[]) (ms : Array MethodInfo := #[]) (fl : Nat := 33) (sup : Nat := 0) (ifs : Array Nat := #[]) (fds : Array FieldInfo := #[]) : ClassFile where
  minorVersion := 0
  majorVersion := 65
  constantPool := pool
  accessFlags := fl
  thisClass := this
  superClass := sup
  interfaces := ifs
  fields := fds
  methods := ms
  attributes := attrs
def plain (name : String) (sup : Option ClassId) : Class where
  name := name
  kind := .ordinary
  loader := none
  accessFlags := 33
  super := sup
  interfaces := #[]
  cf := none
  fields := #[]
  methods := #[]
  instanceTypes := #[]
  staticTypes := #[]
  resolved := #[]
  callSites := []
  init := .initialized
  statics := none
  mirror := none

def pool0 : Array CpInfo := pool [(5, u "<init>"), (0, u "()V"), (1, .class_ 10), (1, u "java/lang/Object")] 113

def k0m0 : Method := { name := "<init>", desc := "()V", sig := { parameters := [], returnType := none }, accessFlags := 1, code := none }
/-- java/lang/Object -/
def k0 : Class := { plain "java/lang/Object" none with
  accessFlags := 33
  interfaces := #[]
  cf := some (fileOf pool0 8 #[] #[{ accessFlags := 1, nameIndex := 5, descriptorIndex := 6, attributes := #[] }] 33 0 #[] #[])
  fields := #[]
  methods := #[k0m0]
  instanceTypes := #[]
  staticTypes := #[]
  resolved := Array.replicate 124 none
  statics := none }

def pool1 : Array CpInfo := pool [(2, .class_ 4), (1, u "java/lang/Object"), (0, u "<init>"), (0, u "()V"), (0, .fieldref 8 9), (0, .class_ 10), (0, .nameAndType 11 12), (0, u "com/example/kaskade/kaskade/policy/robust/Robustness"), (0, u "NONE"), (0, u "Lcom/example/kaskade/kaskade/policy/robust/Robustness;"), (0, .fieldref 8 14), (0, .nameAndType 15 12), (0, u "SLACK"), (0, .fieldref 8 17), (0, .nameAndType 18 12), (0, u "ONE_NODE"), (0, .fieldref 8 20), (0, .nameAndType 21 12), (0, u "TWO_NODE"), (0, .methodref 23 24), (0, .class_ 25), (0, .nameAndType 26 27), (0, u "com/example/kaskade/kaskade/policy/robust/RobustnessFitsPinLaw"), (0, u "pick"), (0, u "(I)Lcom/example/kaskade/kaskade/policy/robust/Robustness;"), (0, .methodref 8 29), (0, .nameAndType 30 31), (0, u "fits"), (0, u "(I)Z"), (3, u "law"), (0, u "(II)Z")] 2

def k1m0 : Method := { name := "<init>", desc := "()V", sig := { parameters := [], returnType := none }, accessFlags := 2, code := none }
def k1c1 : Code := { maxStack := 2, maxLocals := 1, code := method_2_code, exceptionTable := #[], attributes := #[] }
def k1m1 : Method := { name := "pick", desc := "(I)Lcom/example/kaskade/kaskade/policy/robust/Robustness;", sig := { parameters := [.int], returnType := some (.object "com/example/kaskade/kaskade/policy/robust/Robustness") }, accessFlags := 10, code := some k1c1 }
def k1c2 : Code := { maxStack := 2, maxLocals := 5, code := code, exceptionTable := #[], attributes := #[] }
def k1m2 : Method := { name := "law", desc := "(II)Z", sig := { parameters := [.int, .int], returnType := some .boolean }, accessFlags := 9, code := some k1c2 }
/-- com/example/kaskade/kaskade/policy/robust/RobustnessFitsPinLaw -/
def k1 : Class := { plain "com/example/kaskade/kaskade/policy/robust/RobustnessFitsPinLaw" (some 0) with
  accessFlags := 49
  interfaces := #[]
  cf := some (fileOf pool1 23 #[] #[{ accessFlags := 2, nameIndex := 5, descriptorIndex := 6, attributes := #[] }, { accessFlags := 10, nameIndex := 26, descriptorIndex := 27, attributes := #[] }, { accessFlags := 9, nameIndex := 35, descriptorIndex := 36, attributes := #[] }] 49 2 #[] #[])
  fields := #[]
  methods := #[k1m0, k1m1, k1m2]
  instanceTypes := #[]
  staticTypes := #[]
  resolved := Array.replicate 39 none
  statics := none }

def pool2 : Array CpInfo := pool [(1, .class_ 2), (0, u "java/lang/constant/Constable"), (0, .class_ 4), (0, u "java/lang/Object")] 6

/-- java/lang/constant/Constable -/
def k2 : Class := { plain "java/lang/constant/Constable" (some 0) with
  accessFlags := 1537
  interfaces := #[]
  cf := some (fileOf pool2 1 #[] #[] 1537 3 #[] #[])
  fields := #[]
  methods := #[]
  instanceTypes := #[]
  staticTypes := #[]
  resolved := Array.replicate 11 none
  statics := none }

def pool3 : Array CpInfo := pool [(1, .class_ 2), (0, u "java/lang/Comparable"), (0, .class_ 4), (0, u "java/lang/Object")] 7

/-- java/lang/Comparable -/
def k3 : Class := { plain "java/lang/Comparable" (some 0) with
  accessFlags := 1537
  interfaces := #[]
  cf := some (fileOf pool3 1 #[] #[] 1537 3 #[] #[])
  fields := #[]
  methods := #[]
  instanceTypes := #[]
  staticTypes := #[]
  resolved := Array.replicate 12 none
  statics := none }

def pool4 : Array CpInfo := pool [(1, .class_ 2), (0, u "java/io/Serializable"), (0, .class_ 4), (0, u "java/lang/Object")] 2

/-- java/io/Serializable -/
def k4 : Class := { plain "java/io/Serializable" (some 0) with
  accessFlags := 1537
  interfaces := #[]
  cf := some (fileOf pool4 1 #[] #[] 1537 3 #[] #[])
  fields := #[]
  methods := #[]
  instanceTypes := #[]
  staticTypes := #[]
  resolved := Array.replicate 7 none
  statics := none }

def pool5 : Array CpInfo := pool [(2, .class_ 4), (1, u "java/lang/Enum"), (0, u "name"), (0, u "Ljava/lang/String;"), (2, u "ordinal"), (0, u "I"), (1, .class_ 14), (1, u "java/lang/Object"), (4, u "hash"), (86, .class_ 108), (1, u "java/lang/Enum$EnumDesc"), (2, .class_ 112), (0, u "java/lang/constant/Constable"), (0, .class_ 114), (0, u "java/lang/Comparable"), (0, .class_ 116), (0, u "java/io/Serializable")] 87

/-- java/lang/Enum -/
def k5 : Class := { plain "java/lang/Enum" (some 0) with
  accessFlags := 1057
  interfaces := #[2, 3, 4]
  cf := some (fileOf pool5 2 #[.nestMembers #[106]] #[] 1057 12 #[111, 113, 115] #[{ accessFlags := 18, nameIndex := 5, descriptorIndex := 6, attributes := #[] }, { accessFlags := 18, nameIndex := 9, descriptorIndex := 10, attributes := #[] }, { accessFlags := 2, nameIndex := 19, descriptorIndex := 10, attributes := #[] }])
  fields := #[{ name := "name", type := (.object "java/lang/String"), accessFlags := 18, slot := 0, constantValue := 0 }, { name := "ordinal", type := .int, accessFlags := 18, slot := 1, constantValue := 0 }, { name := "hash", type := .int, accessFlags := 2, slot := 2, constantValue := 0 }]
  methods := #[]
  instanceTypes := #[(.object "java/lang/String"), .int, .int]
  staticTypes := #[]
  resolved := Array.replicate 204 none
  statics := none }

def pool6 : Array CpInfo := pool [(1, .class_ 2), (0, u "com/example/kaskade/kaskade/policy/robust/Robustness"), (2, u "NONE"), (0, u "Lcom/example/kaskade/kaskade/policy/robust/Robustness;"), (2, u "SLACK"), (2, u "ONE_NODE"), (0, .fieldref 1 14), (0, .nameAndType 15 6), (0, u "TWO_NODE"), (2, u "$VALUES"), (0, u "[Lcom/example/kaskade/kaskade/policy/robust/Robustness;"), (6, .class_ 28), (1, u "java/lang/Enum"), (8, u "label"), (0, u "Ljava/lang/String;"), (49, u "fits"), (0, u "(I)Z")] 8

def k6c0 : Code := { maxStack := 2, maxLocals := 2, code := prog_12_method_5_code, exceptionTable := #[], attributes := #[] }
def k6m0 : Method := { name := "fits", desc := "(I)Z", sig := { parameters := [.int], returnType := some .boolean }, accessFlags := 0, code := some k6c0 }
/-- com/example/kaskade/kaskade/policy/robust/Robustness -/
def k6 : Class := { plain "com/example/kaskade/kaskade/policy/robust/Robustness" (some 5) with
  accessFlags := 16433
  interfaces := #[]
  cf := some (fileOf pool6 1 #[] #[{ accessFlags := 0, nameIndex := 88, descriptorIndex := 89, attributes := #[] }] 16433 26 #[] #[{ accessFlags := 16409, nameIndex := 5, descriptorIndex := 6, attributes := #[] }, { accessFlags := 16409, nameIndex := 9, descriptorIndex := 6, attributes := #[] }, { accessFlags := 16409, nameIndex := 12, descriptorIndex := 6, attributes := #[] }, { accessFlags := 16409, nameIndex := 15, descriptorIndex := 6, attributes := #[] }, { accessFlags := 18, nameIndex := 37, descriptorIndex := 38, attributes := #[] }, { accessFlags := 4122, nameIndex := 18, descriptorIndex := 19, attributes := #[] }])
  fields := #[{ name := "NONE", type := (.object "com/example/kaskade/kaskade/policy/robust/Robustness"), accessFlags := 16409, slot := 0, constantValue := 0 }, { name := "SLACK", type := (.object "com/example/kaskade/kaskade/policy/robust/Robustness"), accessFlags := 16409, slot := 1, constantValue := 0 }, { name := "ONE_NODE", type := (.object "com/example/kaskade/kaskade/policy/robust/Robustness"), accessFlags := 16409, slot := 2, constantValue := 0 }, { name := "TWO_NODE", type := (.object "com/example/kaskade/kaskade/policy/robust/Robustness"), accessFlags := 16409, slot := 3, constantValue := 0 }, { name := "label", type := (.object "java/lang/String"), accessFlags := 18, slot := 3, constantValue := 0 }, { name := "$VALUES", type := (.array (.object "com/example/kaskade/kaskade/policy/robust/Robustness")), accessFlags := 4122, slot := 4, constantValue := 0 }]
  methods := #[k6m0]
  instanceTypes := #[(.object "java/lang/String"), .int, .int, (.object "java/lang/String")]
  staticTypes := #[(.object "com/example/kaskade/kaskade/policy/robust/Robustness"), (.object "com/example/kaskade/kaskade/policy/robust/Robustness"), (.object "com/example/kaskade/kaskade/policy/robust/Robustness"), (.object "com/example/kaskade/kaskade/policy/robust/Robustness"), (.array (.object "com/example/kaskade/kaskade/policy/robust/Robustness"))]
  resolved := Array.replicate 98 none
  statics := some 0 }

def pool7 : Array CpInfo := pool [(1, u "java/lang/Cloneable"), (0, .class_ 1), (0, u "java/lang/Object"), (0, .class_ 3)] 3

/-- java/lang/Cloneable -/
def k7 : Class := { plain "java/lang/Cloneable" (some 0) with
  accessFlags := 1537
  interfaces := #[]
  cf := some (fileOf pool7 2 #[] #[] 1537 4 #[] #[])
  fields := #[]
  methods := #[]
  instanceTypes := #[]
  staticTypes := #[]
  resolved := Array.replicate 8 none
  statics := none }

/-- the primitive byte -/
def k8 : Class := { plain "byte" none with kind := .primitive 'B', accessFlags := 0x411 }
/-- [B -/
def k9 : Class := { plain "[B" (some 0) with kind := .array 8 .byte, interfaces := #[7, 4], accessFlags := 1041 }

/-- the primitive int -/
def k10 : Class := { plain "int" none with kind := .primitive 'I', accessFlags := 0x411 }
/-- [I -/
def k11 : Class := { plain "[I" (some 0) with kind := .array 10 .int, interfaces := #[7, 4], accessFlags := 1041 }

def heap : Heap := #[{ cls := 6, slots := #[.ref 1, .ref 2, .ref 3, .ref 4, .null], vm := .statics 6 },
  { cls := 6, slots := #[.null, .int 0, .int 0, .null], vm := .none },
  { cls := 6, slots := #[.null, .int 1, .int 0, .null], vm := .none },
  { cls := 6, slots := #[.null, .int 2, .int 0, .null], vm := .none },
  { cls := 6, slots := #[.null, .int 3, .int 0, .null], vm := .none }]
def classes : Array Class := #[k0, k1, k2, k3, k4, k5, k6, k7, k8, k9, k10, k11]
def interned : List (Array UInt16 × Addr) := []
def slotsUsed : Nat := 21
def theMethod : MethodId := ⟨1, 2⟩
def args0 : Array Value := #[.int 5, .int 3]
def aboutOver (below : List Frame) : State where
  vm := { classes := classes, interned := interned.toArray }
  heap := heap
  slotsUsed := slotsUsed
  threads := #[{ frames := .invoking theMethod args0 :: below }]
def below0 : List Frame := [.native { method := ⟨0, 0⟩, args := #[] }]
def about1 : State := aboutOver below0
def p0 : Program := .bare "" "" ""
def e0 : Env := launch0.env 0 0 0
theorem w_frames : about1.frames = Frame.invoking theMethod args0 :: below0 := rfl
set_option maxRecDepth 65536 in
theorem w_args : argsFit about1.vm theMethod args0 = true := by decide +kernel
set_option maxRecDepth 65536 in
theorem w_heap : heapFits about1 = true := by decide +kernel
set_option maxRecDepth 65536 in
theorem w_runnable : about1.curStatus? = some .runnable := by decide +kernel
set_option maxRecDepth 65536 in
theorem w_alone : about1.alone = true := by decide +kernel
set_option maxRecDepth 65536 in
theorem w_named : about1.methodNamed? x = some theMethod := by decide +kernel
set_option maxRecDepth 65536 in
theorem w_hears : about1.hears theMethod below0 = true := by decide +kernel
set_option maxRecDepth 65536 in
theorem w_ripe : about1.ripe theMethod args0 below0 = true := by decide +kernel
theorem w_running : about1.status = .running := rfl
set_option maxRecDepth 65536 in
theorem w_room : about1.hasRoom e0.platform room_1 = true :=
  launch0.hasRoom_least _ room_1 (by decide +kernel) (by decide +kernel) (by decide +kernel) (by decide +kernel) (by decide +kernel) (by decide +kernel)
theorem allAtoms_all (ts : List Jvm.Cond) (a : Array Jvm.Value) (st : Jvm.State) : (allAtoms ts).before a st = ts.all (fun c => c.before a st) := by
  induction ts with
  | nil => rfl
  | cons c t ih =>
    show (Jvm.Cond.and c (allAtoms t)).before a st = _
    rw [Jvm.Cond.before_and, ih, List.all_cons]
def words1 : List Jvm.Cond := Jvm.Cond.code x code maxLocals ret :: tables_1
/-- a 'code' word, met by the world's own term for the bytes: nothing is compared byte by byte -/
theorem code_word {y : MethodName} {bytes : ByteArray} {mx : Nat} {rt : Option FieldType} {a : Array Value} {s : State} {m : MethodId} {meth : Method} {c : Code} (h1 : s.methodNamed? y = some m) (h2 : s.vm.method? m = some meth) (h3 : meth.code = some c) (h4 : c.code = bytes)
    (h5 : (c.maxLocals == mx && c.exceptionTable.isEmpty && decide (c.maxStack ≤ mostOperands) && decide (meth.sig.returnType = rt) && !meth.locks && decide (parseMethodDescriptor y.desc = some meth.sig)) = true) : (Jvm.Cond.code y bytes mx rt).before a s = true := by
  simp only [Bool.and_eq_true, beq_iff_eq, Bool.not_eq_true', decide_eq_true_eq] at h5
  obtain ⟨⟨⟨⟨⟨g1, g2⟩, g3⟩, g4⟩, g5⟩, g6⟩ := h5
  simp [Cond.before, Cond.holds, Cond.value, h1, h2, h3, h4, g1, g2, g3, g4, g5, g6]
def isCode : Jvm.Cond → Bool
  | .code _ _ _ _ => true
  | _ => false
theorem all_split {L : List Jvm.Cond} {P : Jvm.Cond → Bool} (h1 : L.all (fun c => isCode c || P c) = true) (h2 : ∀ c ∈ L.filter isCode, P c = true) : L.all P = true := by
  refine List.all_eq_true.mpr fun c hc => ?_
  have h := List.all_eq_true.mp h1 c hc
  rcases Bool.eq_false_or_eq_true (isCode c) with hi | hi
  · exact h2 c (List.mem_filter.mpr ⟨hc, hi⟩)
  · simpa [hi] using h
set_option maxRecDepth 65536 in
theorem w_c0 : (Jvm.Cond.code x code maxLocals ret).before args0 about1 = true := code_word (m := ⟨1, 2⟩) (meth := k1m2) (c := k1c2) (by decide +kernel) rfl rfl rfl (by decide +kernel)
set_option maxRecDepth 65536 in
theorem w_c1 : (Jvm.Cond.code ({ cls := "com/example/kaskade/kaskade/policy/robust/RobustnessFitsPinLaw", name := "pick", desc := "(I)Lcom/example/kaskade/kaskade/policy/robust/Robustness;" } : Jvm.MethodName) method_2_code (1 : Nat) (Option.some (Jvm.ClassFile.FieldType.object "com/example/kaskade/kaskade/policy/robust/Robustness"))).before args0 about1 = true := code_word (m := ⟨1, 1⟩) (meth := k1m1) (c := k1c1) (by decide +kernel) rfl rfl rfl (by decide +kernel)
set_option maxRecDepth 65536 in
theorem w_c2 : (Jvm.Cond.code ({ cls := "com/example/kaskade/kaskade/policy/robust/Robustness", name := "fits", desc := "(I)Z" } : Jvm.MethodName) prog_12_method_5_code (2 : Nat) (Option.some Jvm.ClassFile.FieldType.boolean)).before args0 about1 = true := code_word (m := ⟨6, 0⟩) (meth := k6m0) (c := k6c0) (by decide +kernel) rfl rfl rfl (by decide +kernel)
def codes1 : List Jvm.Cond := [Jvm.Cond.code x code maxLocals ret, Jvm.Cond.code ({ cls := "com/example/kaskade/kaskade/policy/robust/RobustnessFitsPinLaw", name := "pick", desc := "(I)Lcom/example/kaskade/kaskade/policy/robust/Robustness;" } : Jvm.MethodName) method_2_code (1 : Nat) (Option.some (Jvm.ClassFile.FieldType.object "com/example/kaskade/kaskade/policy/robust/Robustness")), Jvm.Cond.code ({ cls := "com/example/kaskade/kaskade/policy/robust/Robustness", name := "fits", desc := "(I)Z" } : Jvm.MethodName) prog_12_method_5_code (2 : Nat) (Option.some Jvm.ClassFile.FieldType.boolean)]
set_option maxRecDepth 65536 in
theorem codes_eq : words1.filter isCode = codes1 := rfl
theorem w_codes : ∀ c ∈ words1.filter isCode, c.before args0 about1 = true := by
  rw [codes_eq]
  intro c hc
  simp only [codes1, List.mem_cons, List.not_mem_nil, or_false] at hc
  rcases hc with rfl | rfl | rfl
  · exact w_c0
  · exact w_c1
  · exact w_c2
set_option maxRecDepth 65536 in
theorem w_t1 : words1.all (fun c => isCode c || c.before args0 about1) = true := by decide +kernel
theorem w_tables : (allAtoms (Jvm.Cond.code x code maxLocals ret :: tables_1)).before args0 about1 = true := by
  rw [allAtoms_all]
  show words1.all (fun c => c.before args0 about1) = true
  refine all_split ?_ w_codes
  rw [w_t1]
set_option maxRecDepth 65536 in
theorem w_case : (Jvm.Cond.and given_1 narrow_1).before args0 about1 = true := by decide +kernel
theorem w_applies : (headSpec (Jvm.Cond.code x code maxLocals ret :: tables_1) room_1).applies x e0.platform about1 = true :=
  (Spec.applies_iff w_frames).mpr ⟨w_running, w_runnable, w_alone, w_named, w_hears, w_ripe, w_room, w_tables⟩
theorem atStart : AtStart classFile x code maxLocals ret World_1 tables_1 room_1 Calls_1 rest_1 Pre_1 launch0 p0 e0 about1 theMethod args0 below0 :=
  ⟨lists_1, trivial, launch0.admits_env _ _ _, launch0.least_env, fairChoices_fair.cas, fairChoices_fair.clock, w_frames, w_args, w_heap, w_applies, trivial, trivial, w_case⟩
end start1
theorem witness_1 : WitnessClaimed_1 := ⟨start1.p0, start1.e0, start1.about1, start1.theMethod, start1.args0, start1.below0, start1.atStart⟩
end Jvm.Pilot.@@N@@
