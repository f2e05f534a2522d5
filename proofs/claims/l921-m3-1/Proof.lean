import JvmDerived
import JvmDerived.Pilot.@@N@@Statement
import JvmDerived.Pilot.@@N@@Code
set_option linter.unusedVariables false
set_option linter.unusedSimpArgs false
@@BLOCK:NumsL.lean.txt@@
namespace Jvm.Pilot.@@N@@
open Jvm Jvm.ClassFile Sem Op Lib Jvm.Free Jvm.Stand Jvm.LawKit Jvm.RoadKit Bundle Jvm.Pilot.@@N@@.Jvm.D
/-! THE OWN KIT: walks by continuation. oWP says: from this frame over this heap the body runs to its end, and Q holds there. -/
/-- what a conditional branch asks, in plain words -/
def oC : ClassFile.Cond → Int32 → Int32 → Prop
  | .eq, x, w => x = w
  | .ne, x, w => ¬ x = w
  | .lt, x, w => x < w
  | .ge, x, w => ¬ x < w
  | .gt, x, w => w < x
  | .le, x, w => ¬ w < x
theorem oC_cases (cd : ClassFile.Cond) (x w : Int32) : (if_icmp.holds cd x w = true ∧ oC cd x w) ∨ (if_icmp.holds cd x w = false ∧ ¬ oC cd x w) := by
  cases cd with
  | eq =>
    by_cases q : x = w
    · exact Or.inl ⟨(teq q).1, q⟩
    · exact Or.inr ⟨(feq q).1, q⟩
  | ne =>
    by_cases q : x = w
    · exact Or.inr ⟨(teq q).2, fun r => r q⟩
    · exact Or.inl ⟨(feq q).2, q⟩
  | lt =>
    by_cases q : x < w
    · exact Or.inl ⟨(tlt q).1, q⟩
    · exact Or.inr ⟨(flt q).1, q⟩
  | ge =>
    by_cases q : x < w
    · exact Or.inr ⟨(tlt q).2.1, fun r => r q⟩
    · exact Or.inl ⟨(flt q).2.1, q⟩
  | gt =>
    by_cases q : w < x
    · exact Or.inl ⟨(tlt q).2.2.1, q⟩
    · exact Or.inr ⟨(flt q).2.2.1, q⟩
  | le =>
    by_cases q : w < x
    · exact Or.inr ⟨(tlt q).2.2.2, fun r => r q⟩
    · exact Or.inl ⟨(flt q).2.2.2, q⟩
def oA : ACond → Value → Value → Prop
  | .eq, x, w => x = w
  | .ne, x, w => ¬ x = w
theorem oA_cases (cd : ACond) (x w : Value) : (acV cd (decide (x = w)) = true ∧ oA cd x w) ∨ (acV cd (decide (x = w)) = false ∧ ¬ oA cd x w) := by
  cases cd with
  | eq =>
    by_cases q : x = w
    · exact Or.inl ⟨decide_eq_true q, q⟩
    · exact Or.inr ⟨decide_eq_false q, q⟩
  | ne =>
    by_cases q : x = w
    · exact Or.inr ⟨by rw [decide_eq_true q]; rfl, fun r => r q⟩
    · exact Or.inl ⟨by rw [decide_eq_false q]; rfl, q⟩
section OwnKit
variable {b : Bool} {p : Program} {l : Launch} {e : Env} {R : Room} {s : State} {m : MethodId} {args : Array Value} {below : List Frame} {meth : Method} {c : Code} {P : Addr → Prop} {Q : Option Value → Heap → Vm → Prop} {J : Vm → Prop} {h : Heap} {k n : Nat} {Z : State} {a0 : Array Value} {y : MethodName} {B : ByteArray} {ml : Nat} {rt : Option FieldType}
/-- every place written lies in a cell that may be written -/
def oAl (P : Addr → Prop) (L : List Loc) : Prop := ∀ q ∈ L, P q.base
theorem oAl.snoc {L : List Loc} {a : Addr} {sl : Nat} (N : oAl P L) (q : P a) : oAl P (L ++ [⟨a, sl⟩]) := fun z hz => (List.mem_append.mp hz).elim (N z) fun hz => by cases List.mem_singleton.mp hz; exact q
theorem oAl.app {L L' : List Loc} (N : oAl P L) (N' : oAl P L') : oAl P (L ++ L') := fun z hz => (List.mem_append.mp hz).elim (N z) (N' z)
/-- from h to h': no cell went, classes and sizes stay, a cell that P does not name stays as it is -/
def oKp (P : Addr → Prop) (h h' : Heap) : Prop := h.size ≤ h'.size ∧ ∀ (x : Addr) (c : Cell), h[x]? = some c → ∃ c' : Cell, h'[x]? = some c' ∧ c'.cls = c.cls ∧ c'.vm = c.vm ∧ c'.slots.size = c.slots.size ∧ (¬ P x → c' = c)
theorem oKp.of_same {t : State} {L : List Loc} {ck cn : Nat} (hS : s.sameButNew t L ck cn) (N : oAl P L) : oKp P s.heap t.heap := by
  obtain ⟨-, h1, -, -, -, hh⟩ := hS
  refine ⟨h1, fun x c hx => ?_⟩
  obtain ⟨c', e1, e2, e3, e4⟩ := hh x c hx
  refine ⟨c', e1, by rw [e2], by rw [e2], e3, fun q => ?_⟩
  have e5 : c'.slots = c.slots := Array.ext_getElem? fun i => e4 i fun z => q (N _ z)
  rw [e2, e5]
theorem oKp.ext {h' : Heap} (K : oKp (fun a => h.size ≤ a) h h') : Ext h h' := ⟨K.1, fun a c hc => by
  obtain ⟨c', e1, -, -, -, e5⟩ := K.2 a c hc
  rw [e5 (Nat.not_le.mpr (Array.getElem?_eq_some_iff.mp hc).1)] at e1; exact e1⟩
theorem oKp.fld {h' : Heap} {a : Addr} {C f d : String} {v : Value} (K : oKp P h h') (F : Fld Z h a C f d v) (q : ¬ P a) : Fld Z h' a C f d v := by
  obtain ⟨cell, cf, k, i, f, h1, r⟩ := F
  obtain ⟨c', e1, -, -, -, e5⟩ := K.2 a cell h1
  rw [e5 q] at e1; exact ⟨cell, cf, k, i, f, e1, r⟩
theorem oKp.exa {h' : Heap} {a : Addr} {C : String} (K : oKp P h h') (F : Exa Z h a C) : Exa Z h' a C := by
  obtain ⟨cell, k, h1, h2, h3, h4, h5⟩ := F
  obtain ⟨c', e1, e2, e3, e4, -⟩ := K.2 a cell h1
  exact ⟨c', k, e1, by rw [e2]; exact h2, by rw [e2]; exact h3, by rw [e3]; exact h4, by rw [e4]; exact h5⟩
theorem oKp.arr {h' : Heap} {a : Addr} {cl : Cell} {ty : FieldType} (K : oKp P h h') (F : Arr Z h a cl ty) (q : ¬ P a) : Arr Z h' a cl ty := by
  obtain ⟨c', e1, -, -, -, e5⟩ := K.2 a cl F.1
  rw [e5 q] at e1; exact ⟨e1, F.2⟩
theorem oKp.trans {h' h'' : Heap} {P' : Addr → Prop} (K : oKp P h h') (K' : oKp P' h' h'') (q : ∀ a, P' a → P a) : oKp P h h'' := by
  refine ⟨Nat.le_trans K.1 K'.1, fun x c hx => ?_⟩
  obtain ⟨c1, a1, a2, a3, a4, a5⟩ := K.2 x c hx
  obtain ⟨c2, b1, b2, b3, b4, b5⟩ := K'.2 x c1 a1
  exact ⟨c2, b1, b2.trans a2, b3.trans a3, b4.trans a4, fun r => (b5 fun z => r (q x z)).trans (a5 r)⟩
/-- what is fixed along one body's walk -/
def oCx (p : Program) (s : State) (m : MethodId) (meth : Method) (c : Code) (P : Addr → Prop) (Z : State) (y : MethodName) (B : ByteArray) (ml : Nat) (rt : Option FieldType) : Prop :=
  p.tables.exec = Jvm.exec ∧ c.code = B ∧ c.maxLocals = ml ∧ meth.sig.returnType = rt ∧ meth.locks = false ∧ Z.Warmed39 s.vm ∧ s.vm.findClass y.cls = some m.cls ∧ meth.name = y.name ∧ Ext Z.heap s.heap ∧ (∀ a, s.heap.size ≤ a → P a) ∧ (∀ a, P a → Z.heap.size ≤ a)
theorem oCx.hml (C : oCx p s m meth c P Z y B ml rt) : c.maxLocals = ml := C.2.2.1
theorem oCx.hrt (C : oCx p s m meth c P Z y B ml rt) : meth.sig.returnType = rt := C.2.2.2.1
theorem oCx.locks (C : oCx p s m meth c P Z y B ml rt) : meth.locks = false := C.2.2.2.2.1
theorem oCx.hZ (C : oCx p s m meth c P Z y B ml rt) : Z.Warmed39 s.vm := C.2.2.2.2.2.1
theorem oCx.own (C : oCx p s m meth c P Z y B ml rt) : s.vm.findClass y.cls = some m.cls := C.2.2.2.2.2.2.1
theorem oCx.nm (C : oCx p s m meth c P Z y B ml rt) : meth.name = y.name := C.2.2.2.2.2.2.2.1
theorem oCx.old (C : oCx p s m meth c P Z y B ml rt) : Ext Z.heap s.heap := C.2.2.2.2.2.2.2.2.1
theorem oCx.new (C : oCx p s m meth c P Z y B ml rt) : ∀ a, s.heap.size ≤ a → P a := C.2.2.2.2.2.2.2.2.2.1
theorem oCx.young (C : oCx p s m meth c P Z y B ml rt) : ∀ a, P a → Z.heap.size ≤ a := C.2.2.2.2.2.2.2.2.2.2
theorem oCx.rebase {vm0 : Vm} {k0 : Nat} (C : oCx p s m meth c P Z y B ml rt) (hS : s.Since vm0 k0) : oCx p (s.setVm vm0) m meth c P Z y B ml rt :=
  ⟨C.1, C.2.1, C.2.2.1, C.2.2.2.1, C.2.2.2.2.1, State.Warmed39.trans C.hZ hS.1, by show vm0.findClass y.cls = _; rw [hS.1.alike.findClass]; exact C.own, C.2.2.2.2.2.2.2⟩
/-- J holds on, whatever classes, fields and methods come to be resolved -/
def oJs (J : Vm → Prop) : Prop := ∀ (s : State) (vm' : Vm), J s.vm → s.WarmedH vm' → J vm'
def oT : Vm → Prop := fun _ => True
theorem oTs : oJs oT := fun _ _ _ _ => trivial
/-- the end of a body: wide, and narrow where b says so -/
def oEnd (b : Bool) (s : State) (o : Outcome) (u : State) (L : List Loc) (k n : Nat) : Prop := (b = false → FrameEnd s o u L k n) ∧ ReturnedEndW s o u L k n
def oSd (b : Bool) (p : Program) (l : Launch) (e : Env) (R : Room) (s : State) (m : MethodId) (args : Array Value) (below : List Frame) (meth : Method) (c : Code) (P : Addr → Prop) (J : Vm → Prop) (h : Heap) (k n : Nat) (T : State) : Prop :=
  ∃ (vm0 : Vm) (k0 : Nat) (locs : List Loc) (ck cn : Nat), Stand p l e R (s.setVm vm0) m args below meth c T locs ck cn ∧ T.heap = h ∧ oAl P locs ∧ ck ≤ k ∧ cn ≤ n ∧ s.Since vm0 k0 ∧ k0 ≤ h.size ∧ (b = false → vm0 = s.vm) ∧ J vm0 ∧ oJs J
/-- from the frame g over the heap h the body runs to its end and Q holds there -/
def oWP (b : Bool) (p : Program) (l : Launch) (e : Env) (R : Room) (s : State) (m : MethodId) (args : Array Value) (below : List Frame) (meth : Method) (c : Code) (P : Addr → Prop) (Q : Option Value → Heap → Vm → Prop) (J : Vm → Prop) (h : Heap) (k n : Nat) (g : JFrame) : Prop :=
  ∀ T, oSd b p l e R s m args below meth c P J h k n T → ∃ u o, Steps p.tables e below (T.setTop g) u ∧ u.status = .running ∧ Ended u below o ∧ ∃ v L, o = .returned v ∧ (Q v u.heap u.vm ∧ oAl P L) ∧ oEnd b s o u L R.cells R.slots
abbrev oF (m : MethodId) (pc : Nat) (Ls : List Slot) (S : List Value) : JFrame := mkF m pc (Array.mk Ls) S
/-- a body's contract, where it resolves no string -/
def oMeets (l : Launch) (Z : State) (y : MethodName) (B : ByteArray) (ml : Nat) (rt : Option FieldType) (rm : Room) (as' : Array Value) (h0 : Heap) (P : Addr → Prop) (Q : Option Value → Heap → Prop) : Prop :=
  Ext Z.heap h0 → ∀ ws, MetFree l y (head1 (Jvm.Cond.code y B ml rt :: ws) rm) (fun a U => a = as' ∧ Z.Warmed39 U.vm ∧ U.heap = h0) (fun _ _ _ _ _ => True) (fun _ U o U' => ∃ v L, o = .returned v ∧ (Q v U'.heap ∧ oAl P L ∧ oKp P h0 U'.heap) ∧ FrameEnd U o U' L rm.cells rm.slots)
/-- a body's contract, where it may; J: what it asks of the tables -/
def oMeetsW (l : Launch) (Z : State) (y : MethodName) (B : ByteArray) (ml : Nat) (rt : Option FieldType) (rm : Room) (as' : Array Value) (h0 : Heap) (P : Addr → Prop) (J : Vm → Prop) (Q : Option Value → Heap → Vm → Prop) : Prop :=
  Ext Z.heap h0 → ∀ ws, MetFree l y (head1 (Jvm.Cond.code y B ml rt :: ws) rm) (fun a U => a = as' ∧ Z.Warmed39 U.vm ∧ U.heap = h0 ∧ J U.vm) (fun _ _ _ _ _ => True) (fun _ U o U' => ∃ v L, o = .returned v ∧ (Q v U'.heap U'.vm ∧ oAl P L ∧ oKp P h0 U'.heap) ∧ ReturnedEndW U o U' L rm.cells rm.slots)
theorem oMeets.of {rm : Room} {as' : Array Value} {h0 : Heap} {Ls : List Slot} {Q : Option Value → Heap → Prop} (hpl : plainFor y = true) (hP0 : ∀ a, h0.size ≤ a → P a) (hPn : Ext Z.heap h0 → ∀ a, P a → Z.heap.size ≤ a) (hef : ∀ m, entryFrame m as' ml = oF m 0 Ls [])
    (body : ∀ (p : Program) (e : Env) (s : State) (m : MethodId) (below : List Frame) (meth : Method) (c : Code), oCx p s m meth c P Z y B ml rt → s.heap = h0 → oWP false p l e rm s m as' below meth c P (fun v h _ => Q v h) oT h0 0 0 (oF m 0 Ls [])) : oMeets l Z y B ml rt rm as' h0 P Q := by
  intro hE ws
  refine MetFree.of_bodySF hpl hisR ?_
  intro p e s m args below meth c s₁ Bd hml0 hP hK
  obtain ⟨rfl, hZ, hh⟩ := hP
  have C : oCx p s m meth c P Z y B ml rt := ⟨Bd.exec, Bd.bytes, hml0, Bd.returns, Bd.notSynchronized, hZ, findClass_of_methodNamed Bd.named, (name_of_methodNamed Bd.named Bd.method).1, by rw [hh]; exact hE, by rw [hh]; exact hP0, hPn hE⟩
  have X0 : Stand p l e rm s m args below meth c s₁ [] 0 0 := Stand.of_body Bd
  have e0 : s₁.heap = h0 := by rw [← hh, Bd.state]; rfl
  obtain ⟨u, o, h1, h2, h3, v, L, rfl, ⟨hQ, hN⟩, hF⟩ := body p e s m below meth c C hh s₁ ⟨s.vm, 0, [], 0, 0, X0, e0, fun _ q => (nomatch q), Nat.le_refl _, Nat.le_refl _, (State.WarmedH.refl s).since 0, Nat.zero_le _, fun _ => rfl, trivial, oTs⟩
  refine ⟨u, _, castTop (hef m) h1, h2, h3, v, L, rfl, ⟨hQ, hN, ?_⟩, hF.1 rfl⟩
  rw [← hh]
  exact oKp.of_same (t := { u with vm := s.vm }) hF.2.2.2.2 hN
theorem oMeetsW.of {rm : Room} {as' : Array Value} {h0 : Heap} {Ls : List Slot} (hpl : plainFor y = true) (hP0 : ∀ a, h0.size ≤ a → P a) (hPn : Ext Z.heap h0 → ∀ a, P a → Z.heap.size ≤ a) (hef : ∀ m, entryFrame m as' ml = oF m 0 Ls []) (hJs : oJs J)
    (body : ∀ (p : Program) (e : Env) (s : State) (m : MethodId) (below : List Frame) (meth : Method) (c : Code), oCx p s m meth c P Z y B ml rt → s.heap = h0 → oWP true p l e rm s m as' below meth c P Q J h0 0 0 (oF m 0 Ls [])) : oMeetsW l Z y B ml rt rm as' h0 P J Q := by
  intro hE ws
  refine MetFree.of_bodySF hpl hisR ?_
  intro p e s m args below meth c s₁ Bd hml0 hP hK
  obtain ⟨rfl, hZ, hh, hJ⟩ := hP
  have C : oCx p s m meth c P Z y B ml rt := ⟨Bd.exec, Bd.bytes, hml0, Bd.returns, Bd.notSynchronized, hZ, findClass_of_methodNamed Bd.named, (name_of_methodNamed Bd.named Bd.method).1, by rw [hh]; exact hE, by rw [hh]; exact hP0, hPn hE⟩
  have X0 : Stand p l e rm s m args below meth c s₁ [] 0 0 := Stand.of_body Bd
  have e0 : s₁.heap = h0 := by rw [← hh, Bd.state]; rfl
  obtain ⟨u, o, h1, h2, h3, v, L, rfl, ⟨hQ, hN⟩, hF⟩ := body p e s m below meth c C hh s₁ ⟨s.vm, 0, [], 0, 0, X0, e0, fun _ q => (nomatch q), Nat.le_refl _, Nat.le_refl _, (State.WarmedH.refl s).since 0, Nat.zero_le _, fun _ => rfl, hJ, hJs⟩
  refine ⟨u, _, castTop (hef m) h1, h2, h3, v, L, rfl, ⟨hQ, hN, ?_⟩, hF.2⟩
  rw [← hh]
  exact oKp.of_same (t := { u with vm := s.vm }) hF.2.2.2.2 hN
theorem oMeets.mono {rm : Room} {as' : Array Value} {h0 : Heap} {Q Q' : Option Value → Heap → Prop} (M : oMeets l Z y B ml rt rm as' h0 P Q) (i : ∀ v h, Q v h → Q' v h) : oMeets l Z y B ml rt rm as' h0 P Q' := fun hE ws p e h1 h2 h3 s m a d h4 h5 h6 h7 => by
  obtain ⟨n, o, g1, g2, g3, v, L, rfl, ⟨hQ, r⟩, hF⟩ := M hE ws p e h1 h2 h3 s m a d h4 h5 h6 h7
  exact ⟨n, _, g1, g2, g3, v, L, rfl, ⟨i _ _ hQ, r⟩, hF⟩
theorem oWP.step {g g' : JFrame} (st : ∀ T, At T m c below → ∀ target, Steps p.tables e below (T.setTop g') target → Steps p.tables e below (T.setTop g) target) (K : oWP b p l e R s m args below meth c P Q J h k n g') : oWP b p l e R s m args below meth c P Q J h k n g := fun T hT => by
  obtain ⟨u, o, h1, h2⟩ := K T hT
  obtain ⟨_, _, _, _, _, X, -⟩ := hT
  exact ⟨u, o, st T X.here u h1, h2⟩
theorem oWP.stepX {g g' : JFrame} (st : ∀ s' T locs ck cn, Stand p l e R s' m args below meth c T locs ck cn → ∀ target, Steps p.tables e below (T.setTop g') target → Steps p.tables e below (T.setTop g) target) (K : oWP b p l e R s m args below meth c P Q J h k n g') : oWP b p l e R s m args below meth c P Q J h k n g := fun T hT => by
  obtain ⟨u, o, h1, h2⟩ := K T hT
  obtain ⟨_, _, _, _, _, X, -⟩ := hT
  exact ⟨u, o, st _ T _ _ _ X u h1, h2⟩
/-- a step by a law that hands back a new state over the same heap -/
theorem oWP.law {g g' : JFrame} (K : oWP b p l e R s m args below meth c P Q J h k n g') (C : oCx p s m meth c P Z y B ml rt) (st : ∀ s', oCx p s' m meth c P Z y B ml rt → ∀ T locs ck cn, Stand p l e R s' m args below meth c T locs ck cn → T.heap = h → ∃ T', Stand p l e R s' m args below meth c T' locs ck cn ∧ T'.heap = h ∧ ∀ target, Steps p.tables e below (T'.setTop g') target → Steps p.tables e below (T.setTop g) target) : oWP b p l e R s m args below meth c P Q J h k n g := fun T hT => by
  obtain ⟨vm0, k0, locs, ck, cn, X, eT, N, q1, q2, hS, hk0, hbv, hJ⟩ := hT
  obtain ⟨T', X', e', st'⟩ := st _ (C.rebase hS) T locs ck cn X eT
  obtain ⟨u, o, h1, h2⟩ := K T' ⟨vm0, k0, locs, ck, cn, X', e', N, q1, q2, hS, hk0, hbv, hJ⟩
  exact ⟨u, o, st' u h1, h2⟩
theorem oWP.more {g : JFrame} {k' n' : Nat} (K : oWP b p l e R s m args below meth c P Q J h k' n' g) (hk : k ≤ k') (hn : n ≤ n') : oWP b p l e R s m args below meth c P Q J h k n g := fun T hT => by
  obtain ⟨vm0, k0, locs, ck, cn, X, eT, N, q1, q2, r⟩ := hT
  exact K T ⟨vm0, k0, locs, ck, cn, X, eT, N, Nat.le_trans q1 hk, Nat.le_trans q2 hn, r⟩
theorem oSd.old {T : State} (C : oCx p s m meth c P Z y B ml rt) (hT : oSd b p l e R s m args below meth c P J h k n T) : Ext Z.heap h ∧ s.heap.size ≤ h.size ∧ oKp P s.heap h := by
  obtain ⟨vm0, k0, locs, ck, cn, X, rfl, N, -⟩ := hT
  have K : oKp P s.heap T.heap := oKp.of_same (s := s.setVm vm0) (t := T.setVm (s.setVm vm0).vm) X.same N
  refine ⟨⟨Nat.le_trans C.old.1 K.1, fun a cl ha => ?_⟩, K.1, K⟩
  obtain ⟨c', e1, -, -, -, e5⟩ := K.2 a cl (C.old.2 a cl ha)
  rw [e5 fun q => absurd (C.young a q) (Nat.not_le.mpr (Array.getElem?_eq_some_iff.mp ha).1)] at e1
  exact e1
/-- what stood at the start stands here; the heap only grew; and what the body kept so far -/
theorem K_old {g : JFrame} (C : oCx p s m meth c P Z y B ml rt) (K : Ext Z.heap h → s.heap.size ≤ h.size → oKp P s.heap h → oWP b p l e R s m args below meth c P Q J h k n g) : oWP b p l e R s m args below meth c P Q J h k n g := fun T hT => by
  obtain ⟨h1, h2, h3⟩ := oSd.old C hT
  exact K h1 h2 h3 T hT
variable {pc : Nat} {Ls : List Slot} {S : List Value}
theorem K_iloadN (C : oCx p s m meth c P Z y B ml rt) {i : Fin 4} {v : Int32} (hd : decode B pc = .ok (.iload_n i, 1)) (hl : (Array.mk Ls)[i.val]? = some (.val (.int v))) (K : oWP b p l e R s m args below meth c P Q J h k n (oF m (pc + 1) Ls ((.int v) :: S))) : oWP b p l e R s m args below meth c P Q J h k n (oF m pc Ls S) := K.step fun _ A _ => XS.iloadN A C.1 rfl (hb C.2.1 hd) hl
theorem K_iload (C : oCx p s m meth c P Z y B ml rt) {i : Nat} {v : Int32} (hd : decode B pc = .ok (.iload i, 2)) (hl : (Array.mk Ls)[i]? = some (.val (.int v))) (K : oWP b p l e R s m args below meth c P Q J h k n (oF m (pc + 2) Ls ((.int v) :: S))) : oWP b p l e R s m args below meth c P Q J h k n (oF m pc Ls S) := K.step fun _ A _ => XS.iload A C.1 rfl (hb C.2.1 hd) hl
theorem K_lloadN (C : oCx p s m meth c P Z y B ml rt) {i : Fin 4} {v : Int64} (hd : decode B pc = .ok (.lload_n i, 1)) (hl : (Array.mk Ls)[i.val]? = some (.val (.long v))) (K : oWP b p l e R s m args below meth c P Q J h k n (oF m (pc + 1) Ls ((.long v) :: S))) : oWP b p l e R s m args below meth c P Q J h k n (oF m pc Ls S) := K.step fun _ A _ => XT.lloadN A C.1 rfl (hb C.2.1 hd) hl
theorem K_lload (C : oCx p s m meth c P Z y B ml rt) {i : Nat} {v : Int64} (hd : decode B pc = .ok (.lload i, 2)) (hl : (Array.mk Ls)[i]? = some (.val (.long v))) (K : oWP b p l e R s m args below meth c P Q J h k n (oF m (pc + 2) Ls ((.long v) :: S))) : oWP b p l e R s m args below meth c P Q J h k n (oF m pc Ls S) := K.step fun _ A _ => XT.lload A C.1 rfl (hb C.2.1 hd) hl
theorem K_aloadN (C : oCx p s m meth c P Z y B ml rt) {i : Fin 4} {v : Value} (hd : decode B pc = .ok (.aload_n i, 1)) (hl : (Array.mk Ls)[i.val]? = some (.val v)) (hv : v.isRef = true) (K : oWP b p l e R s m args below meth c P Q J h k n (oF m (pc + 1) Ls (v :: S))) : oWP b p l e R s m args below meth c P Q J h k n (oF m pc Ls S) := K.step fun _ A _ => XS.aloadN A C.1 rfl (hb C.2.1 hd) hl hv
theorem K_aload (C : oCx p s m meth c P Z y B ml rt) {i : Nat} {v : Value} (hd : decode B pc = .ok (.aload i, 2)) (hl : (Array.mk Ls)[i]? = some (.val v)) (hv : v.isRef = true) (K : oWP b p l e R s m args below meth c P Q J h k n (oF m (pc + 2) Ls (v :: S))) : oWP b p l e R s m args below meth c P Q J h k n (oF m pc Ls S) := K.step fun _ A _ => XS.aload A C.1 rfl (hb C.2.1 hd) hl hv
theorem K_istoreN (C : oCx p s m meth c P Z y B ml rt) {i : Fin 4} {v : Int32} {Ls' : List Slot} (hd : decode B pc = .ok (.istore_n i, 1)) (hl : storeLocals (Array.mk Ls) i.val (.int v) = some (Array.mk Ls')) (K : oWP b p l e R s m args below meth c P Q J h k n (oF m (pc + 1) Ls' S)) : oWP b p l e R s m args below meth c P Q J h k n (oF m pc Ls ((.int v) :: S)) := K.step fun _ A _ => XS.istoreN A C.1 rfl (hb C.2.1 hd) rfl hl
theorem K_istore (C : oCx p s m meth c P Z y B ml rt) {i : Nat} {v : Int32} {Ls' : List Slot} (hd : decode B pc = .ok (.istore i, 2)) (hl : storeLocals (Array.mk Ls) i (.int v) = some (Array.mk Ls')) (K : oWP b p l e R s m args below meth c P Q J h k n (oF m (pc + 2) Ls' S)) : oWP b p l e R s m args below meth c P Q J h k n (oF m pc Ls ((.int v) :: S)) := K.step fun _ A _ => XS.istore A C.1 rfl (hb C.2.1 hd) rfl hl
theorem K_lstoreN (C : oCx p s m meth c P Z y B ml rt) {i : Fin 4} {v : Int64} {Ls' : List Slot} (hd : decode B pc = .ok (.lstore_n i, 1)) (hl : storeLocals (Array.mk Ls) i.val (.long v) = some (Array.mk Ls')) (K : oWP b p l e R s m args below meth c P Q J h k n (oF m (pc + 1) Ls' S)) : oWP b p l e R s m args below meth c P Q J h k n (oF m pc Ls ((.long v) :: S)) := K.step fun _ A _ => XT.lstoreN A C.1 rfl (hb C.2.1 hd) rfl hl
theorem K_lstore (C : oCx p s m meth c P Z y B ml rt) {i : Nat} {v : Int64} {Ls' : List Slot} (hd : decode B pc = .ok (.lstore i, 2)) (hl : storeLocals (Array.mk Ls) i (.long v) = some (Array.mk Ls')) (K : oWP b p l e R s m args below meth c P Q J h k n (oF m (pc + 2) Ls' S)) : oWP b p l e R s m args below meth c P Q J h k n (oF m pc Ls ((.long v) :: S)) := K.step fun _ A _ => XT.lstore A C.1 rfl (hb C.2.1 hd) rfl hl
theorem K_astoreN (C : oCx p s m meth c P Z y B ml rt) {i : Fin 4} {v : Value} {Ls' : List Slot} (hd : decode B pc = .ok (.astore_n i, 1)) (hv : v.isRef = true) (hl : storeLocals (Array.mk Ls) i.val v = some (Array.mk Ls')) (K : oWP b p l e R s m args below meth c P Q J h k n (oF m (pc + 1) Ls' S)) : oWP b p l e R s m args below meth c P Q J h k n (oF m pc Ls (v :: S)) := K.step fun _ A _ => XS.astoreN A C.1 rfl (hb C.2.1 hd) rfl hv hl
theorem K_astore (C : oCx p s m meth c P Z y B ml rt) {i : Nat} {v : Value} {Ls' : List Slot} (hd : decode B pc = .ok (.astore i, 2)) (hv : v.isRef = true) (hl : storeLocals (Array.mk Ls) i v = some (Array.mk Ls')) (K : oWP b p l e R s m args below meth c P Q J h k n (oF m (pc + 2) Ls' S)) : oWP b p l e R s m args below meth c P Q J h k n (oF m pc Ls (v :: S)) := K.step fun _ A _ => XS.astore A C.1 rfl (hb C.2.1 hd) rfl hv hl
theorem K_iinc (C : oCx p s m meth c P Z y B ml rt) {i : Nat} {cst : Int} {v w : Int32} {Ls' : List Slot} (hd : decode B pc = .ok (.iinc i cst, 3)) (hc : Int32.ofInt cst = w) (hl : (Array.mk Ls)[i]? = some (.val (.int v))) (hl' : storeLocals (Array.mk Ls) i (.int (v + w)) = some (Array.mk Ls')) (K : oWP b p l e R s m args below meth c P Q J h k n (oF m (pc + 3) Ls' S)) : oWP b p l e R s m args below meth c P Q J h k n (oF m pc Ls S) := K.step fun _ A _ => XS.iinc A C.1 rfl (hb C.2.1 hd) hl (hc ▸ hl')
theorem K_iconst (C : oCx p s m meth c P Z y B ml rt) {i : Int} (v : Int32) (hd : decode B pc = .ok (.iconst i, 1)) (hv : Int32.ofInt i = v) (K : oWP b p l e R s m args below meth c P Q J h k n (oF m (pc + 1) Ls (.int v :: S))) : oWP b p l e R s m args below meth c P Q J h k n (oF m pc Ls S) := K.step fun _ A _ => XT.iconstV A C.1 rfl v (hb C.2.1 hd) hv
theorem K_bipush (C : oCx p s m meth c P Z y B ml rt) {i : Int} (v : Int32) (hd : decode B pc = .ok (.bipush i, 2)) (hv : (Int8.ofInt i).toInt32 = v) (K : oWP b p l e R s m args below meth c P Q J h k n (oF m (pc + 2) Ls (.int v :: S))) : oWP b p l e R s m args below meth c P Q J h k n (oF m pc Ls S) := K.step fun _ A _ => XT.bipushV A C.1 rfl v (hb C.2.1 hd) hv
theorem K_sipush (C : oCx p s m meth c P Z y B ml rt) {i : Int} (v : Int32) (hd : decode B pc = .ok (.sipush i, 3)) (hv : (Int16.ofInt i).toInt32 = v) (K : oWP b p l e R s m args below meth c P Q J h k n (oF m (pc + 3) Ls (.int v :: S))) : oWP b p l e R s m args below meth c P Q J h k n (oF m pc Ls S) := K.step fun _ A _ => XT.sipushV A C.1 rfl v (hb C.2.1 hd) hv
theorem K_lconst (C : oCx p s m meth c P Z y B ml rt) {i : Fin 2} (v : Int64) (hd : decode B pc = .ok (.lconst i, 1)) (hv : Int64.ofNat i = v) (K : oWP b p l e R s m args below meth c P Q J h k n (oF m (pc + 1) Ls (.long v :: S))) : oWP b p l e R s m args below meth c P Q J h k n (oF m pc Ls S) := K.step fun _ A _ => XT.lconstV A C.1 rfl v (hb C.2.1 hd) hv
theorem K_aconst_null (C : oCx p s m meth c P Z y B ml rt)  (hd : decode B pc = .ok (.aconst_null, 1)) (K : oWP b p l e R s m args below meth c P Q J h k n (oF m (pc + 1) Ls (.null :: S))) : oWP b p l e R s m args below meth c P Q J h k n (oF m pc Ls (S)) := K.step fun _ A _ => XS.aconstNull A C.1 rfl (hb C.2.1 hd)
theorem K_dup (C : oCx p s m meth c P Z y B ml rt) {v : Value} (hd : decode B pc = .ok (.dup, 1)) (hc : v.category = 1) (K : oWP b p l e R s m args below meth c P Q J h k n (oF m (pc + 1) Ls (v :: v :: S))) : oWP b p l e R s m args below meth c P Q J h k n (oF m pc Ls (v :: S)) := K.step fun _ A _ => XS.dup A C.1 rfl (hb C.2.1 hd) rfl hc
theorem K_dup_x1 (C : oCx p s m meth c P Z y B ml rt) {v w : Value} (hd : decode B pc = .ok (.dup_x1, 1)) (hc : v.category = 1) (hc' : w.category = 1) (K : oWP b p l e R s m args below meth c P Q J h k n (oF m (pc + 1) Ls (v :: w :: v :: S))) : oWP b p l e R s m args below meth c P Q J h k n (oF m pc Ls (v :: w :: S)) := K.step fun _ A _ => XT.dupX1 A C.1 rfl (hb C.2.1 hd) rfl hc hc'
theorem K_dup2 (C : oCx p s m meth c P Z y B ml rt) {v w : Value} (hd : decode B pc = .ok (.dup2, 1)) (hc : v.category = 1) (hc' : w.category = 1) (K : oWP b p l e R s m args below meth c P Q J h k n (oF m (pc + 1) Ls (v :: w :: v :: w :: S))) : oWP b p l e R s m args below meth c P Q J h k n (oF m pc Ls (v :: w :: S)) := K.step fun _ A _ => XT.dup2 A C.1 rfl (hb C.2.1 hd) rfl hc hc'
theorem K_pop (C : oCx p s m meth c P Z y B ml rt) {v : Value} (hd : decode B pc = .ok (.pop, 1)) (hc : v.category = 1) (K : oWP b p l e R s m args below meth c P Q J h k n (oF m (pc + 1) Ls (S))) : oWP b p l e R s m args below meth c P Q J h k n (oF m pc Ls (v :: S)) := K.step fun _ A _ => XT.pop A C.1 rfl (hb C.2.1 hd) rfl hc
theorem K_goto (C : oCx p s m meth c P Z y B ml rt) {o : Int} (q : Nat) (hd : decode B pc = .ok (.goto o, 3)) (ho : 0 ≤ (pc : Int) + o) (hp : ((pc : Int) + o).toNat = q) (K : oWP b p l e R s m args below meth c P Q J h k n (oF m q Ls S)) : oWP b p l e R s m args below meth c P Q J h k n (oF m pc Ls S) := K.step fun _ A _ => XS.goto A C.1 rfl rfl (hb C.2.1 hd) ho hp
theorem K_if (C : oCx p s m meth c P Z y B ml rt) {cd : ClassFile.Cond} {x : Int32} {o : Int} (q : Nat) (hd : decode B pc = .ok (.ifCond cd o, 3)) (ho : 0 ≤ (pc : Int) + o) (hp : ((pc : Int) + o).toNat = q) (K1 : oC cd x 0 → oWP b p l e R s m args below meth c P Q J h k n (oF m q Ls S)) (K2 : ¬ oC cd x 0 → oWP b p l e R s m args below meth c P Q J h k n (oF m (pc + 3) Ls S)) : oWP b p l e R s m args below meth c P Q J h k n (oF m pc Ls (.int x :: S)) := by
  rcases oC_cases cd x 0 with ⟨h1, h2⟩ | ⟨h1, h2⟩
  · exact (K1 h2).step fun _ A _ => XS.ifYes A C.1 rfl rfl (hb C.2.1 hd) rfl ((if0 _ _).trans h1) ho hp
  · exact (K2 h2).step fun _ A _ => XS.ifNo A C.1 rfl (hb C.2.1 hd) rfl ((if0 _ _).trans h1)
theorem K_icmp (C : oCx p s m meth c P Z y B ml rt) {cd : ClassFile.Cond} {x w : Int32} {o : Int} (q : Nat) (hd : decode B pc = .ok (.if_icmp cd o, 3)) (ho : 0 ≤ (pc : Int) + o) (hp : ((pc : Int) + o).toNat = q) (K1 : oC cd x w → oWP b p l e R s m args below meth c P Q J h k n (oF m q Ls S)) (K2 : ¬ oC cd x w → oWP b p l e R s m args below meth c P Q J h k n (oF m (pc + 3) Ls S)) : oWP b p l e R s m args below meth c P Q J h k n (oF m pc Ls (.int w :: .int x :: S)) := by
  rcases oC_cases cd x w with ⟨h1, h2⟩ | ⟨h1, h2⟩
  · exact (K1 h2).step fun _ A _ => XS.icmpYes A C.1 rfl rfl (hb C.2.1 hd) rfl h1 ho hp
  · exact (K2 h2).step fun _ A _ => XS.icmpNo A C.1 rfl (hb C.2.1 hd) rfl h1
theorem K_acmp (C : oCx p s m meth c P Z y B ml rt) {cd : ACond} {x w : Value} {o : Int} (q : Nat) (hd : decode B pc = .ok (.if_acmp cd o, 3)) (h1 : x.isRef = true) (h2 : w.isRef = true) (ho : 0 ≤ (pc : Int) + o) (hp : ((pc : Int) + o).toNat = q)
    (K1 : oA cd x w → oWP b p l e R s m args below meth c P Q J h k n (oF m q Ls S)) (K2 : ¬ oA cd x w → oWP b p l e R s m args below meth c P Q J h k n (oF m (pc + 3) Ls S)) : oWP b p l e R s m args below meth c P Q J h k n (oF m pc Ls (w :: x :: S)) := by
  rcases oA_cases cd x w with ⟨g1, g2⟩ | ⟨g1, g2⟩
  · exact (K1 g2).stepX fun _ T locs ck cn X target hr => RoadKit.acmp (g := oF m pc Ls (w :: x :: S)) X C.1 rfl h1 h2 (pc0 := pc) (pc' := q) rfl (hb C.2.1 hd) rfl rfl ho (by rw [g1, ← hp]; rfl) hr
  · exact (K2 g2).stepX fun _ T locs ck cn X target hr => RoadKit.acmp (g := oF m pc Ls (w :: x :: S)) X C.1 rfl h1 h2 (pc0 := pc) (pc' := pc + 3) rfl (hb C.2.1 hd) rfl rfl ho (by rw [g1]; rfl) hr
theorem K_ifnull_ref (C : oCx p s m meth c P Z y B ml rt) {a : Addr} {o : Int} (hd : decode B pc = .ok (.ifnull o, 3)) (K : oWP b p l e R s m args below meth c P Q J h k n (oF m (pc + 3) Ls S)) : oWP b p l e R s m args below meth c P Q J h k n (oF m pc Ls (.ref a :: S)) := K.step fun _ A _ => XS.ifnullNo A C.1 rfl (hb C.2.1 hd) rfl
theorem K_ifnull_null (C : oCx p s m meth c P Z y B ml rt) {o : Int} (q : Nat) (hd : decode B pc = .ok (.ifnull o, 3)) (ho : 0 ≤ (pc : Int) + o) (hp : ((pc : Int) + o).toNat = q) (K : oWP b p l e R s m args below meth c P Q J h k n (oF m q Ls S)) : oWP b p l e R s m args below meth c P Q J h k n (oF m pc Ls (.null :: S)) := K.step fun _ A _ => XS.ifnullYes A C.1 rfl rfl (hb C.2.1 hd) rfl ho hp
theorem K_ifnonnull_ref (C : oCx p s m meth c P Z y B ml rt) {a : Addr} {o : Int} (q : Nat) (hd : decode B pc = .ok (.ifnonnull o, 3)) (ho : 0 ≤ (pc : Int) + o) (hp : ((pc : Int) + o).toNat = q) (K : oWP b p l e R s m args below meth c P Q J h k n (oF m q Ls S)) : oWP b p l e R s m args below meth c P Q J h k n (oF m pc Ls (.ref a :: S)) := K.step fun _ A _ => XT.ifnonnullYes A C.1 rfl rfl (hb C.2.1 hd) rfl ho hp
theorem K_ifnonnull_null (C : oCx p s m meth c P Z y B ml rt) {o : Int} (hd : decode B pc = .ok (.ifnonnull o, 3)) (K : oWP b p l e R s m args below meth c P Q J h k n (oF m (pc + 3) Ls S)) : oWP b p l e R s m args below meth c P Q J h k n (oF m pc Ls (.null :: S)) := K.step fun _ A _ => XT.ifnonnullNo A C.1 rfl (hb C.2.1 hd) rfl
theorem K_tsw (C : oCx p s m meth c P Z y B ml rt) {dflt low high o : Int} {offs : Array Int} {len : Nat} {i : Int32} (q : Nat) (hd : decode B pc = .ok (.tableswitch dflt low high offs, len)) (hin : ¬ (i.toInt < low ∨ i.toInt > high)) (hoff : offs[(i.toInt - low).toNat]? = some o) (ho : 0 ≤ (pc : Int) + o) (hp : ((pc : Int) + o).toNat = q) (K : oWP b p l e R s m args below meth c P Q J h k n (oF m q Ls S)) : oWP b p l e R s m args below meth c P Q J h k n (oF m pc Ls (.int i :: S)) := K.step fun _ A _ => XS.tswIn (g := oF m pc Ls (.int i :: S)) A C.1 rfl (pc0 := pc) rfl (hb C.2.1 hd) rfl hin hoff ho hp
theorem K_tswOut (C : oCx p s m meth c P Z y B ml rt) {dflt low high : Int} {offs : Array Int} {len : Nat} {i : Int32} (q : Nat) (hd : decode B pc = .ok (.tableswitch dflt low high offs, len)) (hout : i.toInt < low ∨ i.toInt > high) (ho : 0 ≤ (pc : Int) + dflt) (hp : ((pc : Int) + dflt).toNat = q) (K : oWP b p l e R s m args below meth c P Q J h k n (oF m q Ls S)) : oWP b p l e R s m args below meth c P Q J h k n (oF m pc Ls (.int i :: S)) := K.step fun _ A _ => XS.tswOut (g := oF m pc Ls (.int i :: S)) A C.1 rfl (pc0 := pc) rfl (hb C.2.1 hd) rfl hout ho hp
theorem K_iadd (C : oCx p s m meth c P Z y B ml rt) {x w : Int32} (hd : decode B pc = .ok (.iadd, 1)) (K : oWP b p l e R s m args below meth c P Q J h k n (oF m (pc + 1) Ls (.int (x + w) :: S))) : oWP b p l e R s m args below meth c P Q J h k n (oF m pc Ls (.int w :: .int x :: S)) := K.step fun _ A _ => XS.iadd A C.1 rfl (hb C.2.1 hd) rfl
theorem K_isub (C : oCx p s m meth c P Z y B ml rt) {x w : Int32} (hd : decode B pc = .ok (.isub, 1)) (K : oWP b p l e R s m args below meth c P Q J h k n (oF m (pc + 1) Ls (.int (x - w) :: S))) : oWP b p l e R s m args below meth c P Q J h k n (oF m pc Ls (.int w :: .int x :: S)) := K.step fun _ A _ => XS.isub A C.1 rfl (hb C.2.1 hd) rfl
theorem K_iand (C : oCx p s m meth c P Z y B ml rt) {x w : Int32} (hd : decode B pc = .ok (.iand, 1)) (K : oWP b p l e R s m args below meth c P Q J h k n (oF m (pc + 1) Ls (.int (x &&& w) :: S))) : oWP b p l e R s m args below meth c P Q J h k n (oF m pc Ls (.int w :: .int x :: S)) := K.step fun _ A _ => XS.iand A C.1 rfl (hb C.2.1 hd) rfl
theorem K_imul (C : oCx p s m meth c P Z y B ml rt) {x w : Int32} (hd : decode B pc = .ok (.imul, 1)) (K : oWP b p l e R s m args below meth c P Q J h k n (oF m (pc + 1) Ls (.int (x * w) :: S))) : oWP b p l e R s m args below meth c P Q J h k n (oF m pc Ls (.int w :: .int x :: S)) := K.step fun _ A _ => XS.imul A C.1 rfl (hb C.2.1 hd) rfl
theorem K_ior (C : oCx p s m meth c P Z y B ml rt) {x w : Int32} (hd : decode B pc = .ok (.ior, 1)) (K : oWP b p l e R s m args below meth c P Q J h k n (oF m (pc + 1) Ls (.int (x ||| w) :: S))) : oWP b p l e R s m args below meth c P Q J h k n (oF m pc Ls (.int w :: .int x :: S)) := K.step fun _ A _ => XT.ior A C.1 rfl (hb C.2.1 hd) rfl
theorem K_ixor (C : oCx p s m meth c P Z y B ml rt) {x w : Int32} (hd : decode B pc = .ok (.ixor, 1)) (K : oWP b p l e R s m args below meth c P Q J h k n (oF m (pc + 1) Ls (.int (x ^^^ w) :: S))) : oWP b p l e R s m args below meth c P Q J h k n (oF m pc Ls (.int w :: .int x :: S)) := K.step fun _ A _ => XT.ixor A C.1 rfl (hb C.2.1 hd) rfl
theorem K_ishl (C : oCx p s m meth c P Z y B ml rt) {x w : Int32} (hd : decode B pc = .ok (.ishl, 1)) (K : oWP b p l e R s m args below meth c P Q J h k n (oF m (pc + 1) Ls (.int (x <<< (w &&& 31)) :: S))) : oWP b p l e R s m args below meth c P Q J h k n (oF m pc Ls (.int w :: .int x :: S)) := K.step fun _ A _ => XT.ishl A C.1 rfl (hb C.2.1 hd) rfl
theorem K_ishr (C : oCx p s m meth c P Z y B ml rt) {x w : Int32} (hd : decode B pc = .ok (.ishr, 1)) (K : oWP b p l e R s m args below meth c P Q J h k n (oF m (pc + 1) Ls (.int (x >>> (w &&& 31)) :: S))) : oWP b p l e R s m args below meth c P Q J h k n (oF m pc Ls (.int w :: .int x :: S)) := K.step fun _ A _ => XT.ishr A C.1 rfl (hb C.2.1 hd) rfl
theorem K_iushr (C : oCx p s m meth c P Z y B ml rt) {x w : Int32} (hd : decode B pc = .ok (.iushr, 1)) (K : oWP b p l e R s m args below meth c P Q J h k n (oF m (pc + 1) Ls (.int (XT.ushr x w) :: S))) : oWP b p l e R s m args below meth c P Q J h k n (oF m pc Ls (.int w :: .int x :: S)) := K.step fun _ A _ => XT.iushr A C.1 rfl (hb C.2.1 hd) rfl
theorem K_idiv (C : oCx p s m meth c P Z y B ml rt) {x w : Int32} (hd : decode B pc = .ok (.idiv, 1)) (hy : w ≠ 0) (K : oWP b p l e R s m args below meth c P Q J h k n (oF m (pc + 1) Ls (.int (x / w) :: S))) : oWP b p l e R s m args below meth c P Q J h k n (oF m pc Ls (.int w :: .int x :: S)) := K.step fun _ A _ => XS.idiv A C.1 rfl (hb C.2.1 hd) rfl hy
theorem K_ladd (C : oCx p s m meth c P Z y B ml rt) {x w : Int64} (hd : decode B pc = .ok (.ladd, 1)) (K : oWP b p l e R s m args below meth c P Q J h k n (oF m (pc + 1) Ls (.long (x + w) :: S))) : oWP b p l e R s m args below meth c P Q J h k n (oF m pc Ls (.long w :: .long x :: S)) := K.step fun _ A _ => XT.ladd A C.1 rfl (hb C.2.1 hd) rfl
theorem K_lsub (C : oCx p s m meth c P Z y B ml rt) {x w : Int64} (hd : decode B pc = .ok (.lsub, 1)) (K : oWP b p l e R s m args below meth c P Q J h k n (oF m (pc + 1) Ls (.long (x - w) :: S))) : oWP b p l e R s m args below meth c P Q J h k n (oF m pc Ls (.long w :: .long x :: S)) := K.step fun _ A _ => XT.lsub A C.1 rfl (hb C.2.1 hd) rfl
theorem K_lmul (C : oCx p s m meth c P Z y B ml rt) {x w : Int64} (hd : decode B pc = .ok (.lmul, 1)) (K : oWP b p l e R s m args below meth c P Q J h k n (oF m (pc + 1) Ls (.long (x * w) :: S))) : oWP b p l e R s m args below meth c P Q J h k n (oF m pc Ls (.long w :: .long x :: S)) := K.step fun _ A _ => XT.lmul A C.1 rfl (hb C.2.1 hd) rfl
theorem K_land (C : oCx p s m meth c P Z y B ml rt) {x w : Int64} (hd : decode B pc = .ok (.land, 1)) (K : oWP b p l e R s m args below meth c P Q J h k n (oF m (pc + 1) Ls (.long (x &&& w) :: S))) : oWP b p l e R s m args below meth c P Q J h k n (oF m pc Ls (.long w :: .long x :: S)) := K.step fun _ A _ => XT.land A C.1 rfl (hb C.2.1 hd) rfl
theorem K_lor (C : oCx p s m meth c P Z y B ml rt) {x w : Int64} (hd : decode B pc = .ok (.lor, 1)) (K : oWP b p l e R s m args below meth c P Q J h k n (oF m (pc + 1) Ls (.long (x ||| w) :: S))) : oWP b p l e R s m args below meth c P Q J h k n (oF m pc Ls (.long w :: .long x :: S)) := K.step fun _ A _ => XT.lor A C.1 rfl (hb C.2.1 hd) rfl
theorem K_lxor (C : oCx p s m meth c P Z y B ml rt) {x w : Int64} (hd : decode B pc = .ok (.lxor, 1)) (K : oWP b p l e R s m args below meth c P Q J h k n (oF m (pc + 1) Ls (.long (x ^^^ w) :: S))) : oWP b p l e R s m args below meth c P Q J h k n (oF m pc Ls (.long w :: .long x :: S)) := K.step fun _ A _ => XT.lxor A C.1 rfl (hb C.2.1 hd) rfl
theorem K_ldiv (C : oCx p s m meth c P Z y B ml rt) {x w : Int64} (hd : decode B pc = .ok (.ldiv, 1)) (hy : w ≠ 0) (K : oWP b p l e R s m args below meth c P Q J h k n (oF m (pc + 1) Ls (.long (x / w) :: S))) : oWP b p l e R s m args below meth c P Q J h k n (oF m pc Ls (.long w :: .long x :: S)) := K.step fun _ A _ => XT.ldiv A C.1 rfl (hb C.2.1 hd) rfl hy
theorem K_irem (C : oCx p s m meth c P Z y B ml rt) {x w : Int32} (hd : decode B pc = .ok (.irem, 1)) (hy : w ≠ 0) (K : oWP b p l e R s m args below meth c P Q J h k n (oF m (pc + 1) Ls (.int (x % w) :: S))) : oWP b p l e R s m args below meth c P Q J h k n (oF m pc Ls (.int w :: .int x :: S)) := K.stepX fun _ T _ _ _ X _ hr => iremM X C.1 rfl (hb C.2.1 hd) rfl hy hr
theorem K_lrem (C : oCx p s m meth c P Z y B ml rt) {x w : Int64} (hd : decode B pc = .ok (.lrem, 1)) (hy : w ≠ 0) (K : oWP b p l e R s m args below meth c P Q J h k n (oF m (pc + 1) Ls (.long (x - (x / w) * w) :: S))) : oWP b p l e R s m args below meth c P Q J h k n (oF m pc Ls (.long w :: .long x :: S)) := K.step fun _ A _ => XT.lrem A C.1 rfl (hb C.2.1 hd) rfl hy
theorem K_lshl (C : oCx p s m meth c P Z y B ml rt) {x : Int64} {w : Int32} (hd : decode B pc = .ok (.lshl, 1)) (K : oWP b p l e R s m args below meth c P Q J h k n (oF m (pc + 1) Ls (.long (x <<< (w.toInt64 &&& 63)) :: S))) : oWP b p l e R s m args below meth c P Q J h k n (oF m pc Ls (.int w :: .long x :: S)) := K.step fun _ A _ => XT.lshl A C.1 rfl (hb C.2.1 hd) rfl
theorem K_lshr (C : oCx p s m meth c P Z y B ml rt) {x : Int64} {w : Int32} (hd : decode B pc = .ok (.lshr, 1)) (K : oWP b p l e R s m args below meth c P Q J h k n (oF m (pc + 1) Ls (.long (x >>> (w.toInt64 &&& 63)) :: S))) : oWP b p l e R s m args below meth c P Q J h k n (oF m pc Ls (.int w :: .long x :: S)) := K.step fun _ A _ => XT.lshr A C.1 rfl (hb C.2.1 hd) rfl
theorem K_lushr (C : oCx p s m meth c P Z y B ml rt) {x : Int64} {w : Int32} (hd : decode B pc = .ok (.lushr, 1)) (K : oWP b p l e R s m args below meth c P Q J h k n (oF m (pc + 1) Ls (.long (XT.ushrL x w) :: S))) : oWP b p l e R s m args below meth c P Q J h k n (oF m pc Ls (.int w :: .long x :: S)) := K.step fun _ A _ => XT.lushr A C.1 rfl (hb C.2.1 hd) rfl
theorem K_ineg (C : oCx p s m meth c P Z y B ml rt) {x : Int32} (hd : decode B pc = .ok (.ineg, 1)) (K : oWP b p l e R s m args below meth c P Q J h k n (oF m (pc + 1) Ls (.int (-x) :: S))) : oWP b p l e R s m args below meth c P Q J h k n (oF m pc Ls (.int x :: S)) := K.step fun _ A _ => XS.ineg A C.1 rfl (hb C.2.1 hd) rfl
theorem K_lneg (C : oCx p s m meth c P Z y B ml rt) {x : Int64} (hd : decode B pc = .ok (.lneg, 1)) (K : oWP b p l e R s m args below meth c P Q J h k n (oF m (pc + 1) Ls (.long (-x) :: S))) : oWP b p l e R s m args below meth c P Q J h k n (oF m pc Ls (.long x :: S)) := K.step fun _ A _ => XT.lneg A C.1 rfl (hb C.2.1 hd) rfl
theorem K_i2l (C : oCx p s m meth c P Z y B ml rt) {x : Int32} (hd : decode B pc = .ok (.i2l, 1)) (K : oWP b p l e R s m args below meth c P Q J h k n (oF m (pc + 1) Ls (.long (x.toInt64) :: S))) : oWP b p l e R s m args below meth c P Q J h k n (oF m pc Ls (.int x :: S)) := K.step fun _ A _ => XT.i2l A C.1 rfl (hb C.2.1 hd) rfl
theorem K_l2i (C : oCx p s m meth c P Z y B ml rt) {x : Int64} (hd : decode B pc = .ok (.l2i, 1)) (K : oWP b p l e R s m args below meth c P Q J h k n (oF m (pc + 1) Ls (.int (x.toInt32) :: S))) : oWP b p l e R s m args below meth c P Q J h k n (oF m pc Ls (.long x :: S)) := K.step fun _ A _ => XT.l2i A C.1 rfl (hb C.2.1 hd) rfl
theorem K_i2b (C : oCx p s m meth c P Z y B ml rt) {x : Int32} (hd : decode B pc = .ok (.i2b, 1)) (K : oWP b p l e R s m args below meth c P Q J h k n (oF m (pc + 1) Ls (.int (x.toInt8.toInt32) :: S))) : oWP b p l e R s m args below meth c P Q J h k n (oF m pc Ls (.int x :: S)) := K.step fun _ A _ => XT.i2b A C.1 rfl (hb C.2.1 hd) rfl
theorem K_i2c (C : oCx p s m meth c P Z y B ml rt) {x : Int32} (hd : decode B pc = .ok (.i2c, 1)) (K : oWP b p l e R s m args below meth c P Q J h k n (oF m (pc + 1) Ls (.int (x.toUInt32.toUInt16.toUInt32.toInt32) :: S))) : oWP b p l e R s m args below meth c P Q J h k n (oF m pc Ls (.int x :: S)) := K.step fun _ A _ => XT.i2c A C.1 rfl (hb C.2.1 hd) rfl
theorem K_i2s (C : oCx p s m meth c P Z y B ml rt) {x : Int32} (hd : decode B pc = .ok (.i2s, 1)) (K : oWP b p l e R s m args below meth c P Q J h k n (oF m (pc + 1) Ls (.int (x.toInt16.toInt32) :: S))) : oWP b p l e R s m args below meth c P Q J h k n (oF m pc Ls (.int x :: S)) := K.step fun _ A _ => XT.i2s A C.1 rfl (hb C.2.1 hd) rfl
theorem K_lcmp (C : oCx p s m meth c P Z y B ml rt) {x w : Int64} (hd : decode B pc = .ok (.lcmp, 1)) (K : oWP b p l e R s m args below meth c P Q J h k n (oF m (pc + 1) Ls (.int (XT.cmpL x w) :: S))) : oWP b p l e R s m args below meth c P Q J h k n (oF m pc Ls (.long w :: .long x :: S)) := K.step fun _ A _ => XT.lcmp A C.1 rfl (hb C.2.1 hd) rfl
theorem K_ret (C : oCx p s m meth c P Z y B ml rt) {v : Option Value} {g : JFrame} (hv : rt = none → v = none) (hk : k ≤ R.cells) (hn : n ≤ R.slots) (hQ : ∀ vm, J vm → Q v h vm)
    (st : ∀ s' T locs ck cn, Stand p l e R s' m args below meth c T locs ck cn → ∀ fs, (∀ (f : JFrame) (acts : List Action), f.method = m → f.locked = none → f.entered = [] → (doReturn e (T.setTop f) acts v).1 = T.setFrames fs) → Steps p.tables e below (T.setTop g) (T.setFrames fs)) : oWP b p l e R s m args below meth c P Q J h k n g := fun T hT => by
  obtain ⟨vm0, k0, locs, ck, cn, X, eT, N, q1, q2, hS, hk0, hbv, hJ⟩ := hT
  obtain ⟨fs, hr, hrun, hended, hW, hsame⟩ := X.leave (v := v) (by rw [C.hrt]; exact hv) C.locks
  obtain ⟨r1, r2, r3⟩ := hS.ended (U := T.setFrames fs) hW (by show k0 ≤ T.heap.size; rw [eT]; exact hk0) hsame
  have hs3 := r3.mono (Nat.le_trans q1 hk) (Nat.le_trans q2 hn)
  refine ⟨_, _, st _ T _ _ _ X fs hr, hrun, hended, _, _, rfl, ⟨?_, N⟩, fun hb => ⟨⟨_, rfl⟩, ?_, hs3⟩, ⟨_, rfl⟩, r1, r2, hs3⟩
  · show Q v T.heap T.vm
    rw [eT]; exact hQ _ (hJ.2 (s.setVm vm0) _ hJ.1 X.warmed)
  · have hb' := hbv hb
    subst hb'
    exact hW
theorem K_ireturn {t : FieldType} (C : oCx p s m meth c P Z y B ml (some t)) {z z' : Int32} (hd : decode B pc = .ok (.ireturn, 1)) (ht : t = .int ∨ t = .boolean ∨ t = .byte ∨ t = .char ∨ t = .short) (hz : nar t z = z') (hk : k ≤ R.cells) (hn : n ≤ R.slots) (hQ : ∀ vm, J vm → Q (some (.int z')) h vm) : oWP b p l e R s m args below meth c P Q J h k n (oF m pc Ls (.int z :: S)) := by
  subst hz
  refine K_ret C (v := some (.int (nar t z))) (fun q => nomatch q) hk hn hQ fun _ T locs ck cn X fs hr => ?_
  rcases ht with rfl | ht
  · exact retOut X C.1 C.hrt rfl (Or.inl ⟨rfl, Or.inl rfl, z, rfl⟩) (hb C.2.1 hd) hr
  · exact retN X C.1 C.hrt ht (hb C.2.1 hd) hr
theorem K_areturn {t : FieldType} (C : oCx p s m meth c P Z y B ml (some t)) {w : Value} (hd : decode B pc = .ok (.areturn, 1)) (ht : t.isReference = true) (hw : w.isRef = true) (hnw : narrow t w = w) (hk : k ≤ R.cells) (hn : n ≤ R.slots) (hQ : ∀ vm, J vm → Q (some w) h vm) : oWP b p l e R s m args below meth c P Q J h k n (oF m pc Ls (w :: S)) :=
  K_ret C (fun q => nomatch q) hk hn hQ fun _ T locs ck cn X fs hr => retOut X C.1 C.hrt hnw (Or.inr (Or.inr (Or.inr (Or.inr ⟨rfl, ht, hw⟩)))) (hb C.2.1 hd) hr
theorem K_lreturn (C : oCx p s m meth c P Z y B ml (some .long)) {w : Int64} (hd : decode B pc = .ok (.lreturn, 1)) (hk : k ≤ R.cells) (hn : n ≤ R.slots) (hQ : ∀ vm, J vm → Q (some (.long w)) h vm) : oWP b p l e R s m args below meth c P Q J h k n (oF m pc Ls (.long w :: S)) :=
  K_ret C (fun q => nomatch q) hk hn hQ fun _ T locs ck cn X fs hr => retOut X C.1 C.hrt rfl (Or.inr (Or.inl ⟨rfl, rfl, w, rfl⟩)) (hb C.2.1 hd) hr
theorem K_return (C : oCx p s m meth c P Z y B ml none) (hd : decode B pc = .ok (.return_, 1)) (hk : k ≤ R.cells) (hn : n ≤ R.slots) (hQ : ∀ vm, J vm → Q none h vm) : oWP b p l e R s m args below meth c P Q J h k n (oF m pc Ls []) :=
  K_ret C (fun _ => rfl) hk hn hQ fun _ T locs ck cn X fs hr => X.returnOut C.1 C.hrt (hb C.2.1 hd) hr
theorem K_ldcI (C : oCx p s m meth c P Z y B ml rt) {idx : Nat} {v : Int32} (w : (Jvm.Cond.constant y.cls idx v).before a0 Z = true) (hd : decode B pc = .ok (.ldc idx, 2)) (K : oWP b p l e R s m args below meth c P Q J h k n (oF m (pc + 2) Ls (.int v :: S))) : oWP b p l e R s m args below meth c P Q J h k n (oF m pc Ls S) := K.law C fun _ C T _ _ _ X eT => ⟨T, X, eT, X.ldcInt C.1 C.own (mvT C.hZ w) (g := oF m pc Ls S) rfl (hb C.2.1 hd)⟩
theorem K_ldcwI (C : oCx p s m meth c P Z y B ml rt) {idx : Nat} {v : Int32} (w : (Jvm.Cond.constant y.cls idx v).before a0 Z = true) (hd : decode B pc = .ok (.ldc_w idx, 3)) (K : oWP b p l e R s m args below meth c P Q J h k n (oF m (pc + 3) Ls (.int v :: S))) : oWP b p l e R s m args below meth c P Q J h k n (oF m pc Ls S) := K.law C fun _ C T _ _ _ X eT => ⟨T, X, eT, X.ldcwInt C.1 C.own (mvT C.hZ w) (g := oF m pc Ls S) rfl (hb C.2.1 hd)⟩
theorem K_ldc2J (C : oCx p s m meth c P Z y B ml rt) {idx : Nat} {v : Int64} (w : (Jvm.Cond.constantLong y.cls idx v).before a0 Z = true) (hd : decode B pc = .ok (.ldc2_w idx, 3)) (K : oWP b p l e R s m args below meth c P Q J h k n (oF m (pc + 3) Ls (.long v :: S))) : oWP b p l e R s m args below meth c P Q J h k n (oF m pc Ls S) := K.law C fun _ C T _ _ _ X eT => ⟨T, X, eT, X.ldc2Long C.1 C.own (mvT C.hZ w) (g := oF m pc Ls S) rfl (hb C.2.1 hd)⟩
theorem K_ldcS (C : oCx p s m meth c P Z y B ml rt) {idx nn : Nat} {text : String} (w : (Jvm.Cond.stringLink y.cls idx text).before a0 Z = true) (wS : ∀ a ∈ Bundle.stringAtoms, a.before a0 Z = true) (hd : decode B pc = .ok (.ldc idx, 2)) (hnn : 4 * text.toList.length ≤ nn) (hbig : nn ≤ 536870912) (hk : k + 2 ≤ R.cells) (hn : n + (nn + 4) ≤ R.slots) (K : ∀ a h', Ext h h' → oWP true p l e R s m args below meth c P Q oT h' (k + 2) (n + (nn + 4)) (oF m (pc + 2) Ls (.ref a :: S))) : oWP true p l e R s m args below meth c P Q oT h k n (oF m pc Ls S) := fun T hT => by
  obtain ⟨vm0, k0, locs, ck, cn, X, eT, N, q1, q2, hS, hk0, hbv, hJ⟩ := hT
  have C' := C.rebase hS
  obtain ⟨a, T', h', k1, X', e', E, hS1, hk1, -, -, st⟩ := ldcS X C.1 C'.hZ C'.own w wS eT hS hk0 (g := oF m pc Ls S) rfl (hb C.2.1 hd) hnn hbig (by omega) (by omega)
  obtain ⟨u, o, g1, g2⟩ := K a h' E T' ⟨_, k1, locs, _, _, X', e', N, by omega, by omega, hS1, hk1, (fun q => nomatch q), trivial, oTs⟩
  exact ⟨u, o, st u g1, g2⟩
theorem K_ldcwS (C : oCx p s m meth c P Z y B ml rt) {idx nn : Nat} {text : String} (w : (Jvm.Cond.stringLink y.cls idx text).before a0 Z = true) (wS : ∀ a ∈ Bundle.stringAtoms, a.before a0 Z = true) (hd : decode B pc = .ok (.ldc_w idx, 3)) (hnn : 4 * text.toList.length ≤ nn) (hbig : nn ≤ 536870912) (hk : k + 2 ≤ R.cells) (hn : n + (nn + 4) ≤ R.slots) (K : ∀ a h', Ext h h' → oWP true p l e R s m args below meth c P Q oT h' (k + 2) (n + (nn + 4)) (oF m (pc + 3) Ls (.ref a :: S))) : oWP true p l e R s m args below meth c P Q oT h k n (oF m pc Ls S) := fun T hT => by
  obtain ⟨vm0, k0, locs, ck, cn, X, eT, N, q1, q2, hS, hk0, hbv, hJ⟩ := hT
  have C' := C.rebase hS
  obtain ⟨a, T', h', k1, X', e', E, hS1, hk1, -, -, st⟩ := ldcSW X C.1 C'.hZ C'.own w wS eT hS hk0 (g := oF m pc Ls S) rfl (hb C.2.1 hd) hnn hbig (by omega) (by omega)
  obtain ⟨u, o, g1, g2⟩ := K a h' E T' ⟨_, k1, locs, _, _, X', e', N, by omega, by omega, hS1, hk1, (fun q => nomatch q), trivial, oTs⟩
  exact ⟨u, o, st u g1, g2⟩
theorem K_getF (C : oCx p s m meth c P Z y B ml rt) {R0 O f d : String} {idx : Nat} {a : Addr} {v : Value} (w : (Jvm.Cond.fieldLink y.cls idx R0 f d).before a0 Z = true) (via : Via Z R0 O f d) (F : Fld Z h a O f d v) (hd : decode B pc = .ok (.getfield idx, 3)) (K : oWP b p l e R s m args below meth c P Q J h k n (oF m (pc + 3) Ls (v :: S))) : oWP b p l e R s m args below meth c P Q J h k n (oF m pc Ls (.ref a :: S)) := K.law C fun _ C T _ _ _ X eT => getF X C.1 C.hZ C.own (host := "") (Or.inl w) via eT F (g := oF m pc Ls (.ref a :: S)) rfl rfl (hb C.2.1 hd)
theorem K_getS (C : oCx p s m meth c P Z y B ml rt) {R0 O f d : String} {idx : Nat} {v : Value} (w : (Jvm.Cond.fieldLink y.cls idx R0 f d).before a0 Z = true) (via : Via Z R0 O f d) (F : Sta Z Z.heap O f d v) (hd : decode B pc = .ok (.getstatic idx, 3)) (K : oWP b p l e R s m args below meth c P Q J h k n (oF m (pc + 3) Ls (v :: S))) : oWP b p l e R s m args below meth c P Q J h k n (oF m pc Ls S) := K_old C fun hE _ _ => K.law C fun _ C T _ _ _ X eT => getS2 X C.1 C.hZ C.own (host := "") (Or.inl w) via eT (F.ext hE) (g := oF m pc Ls S) rfl (hb C.2.1 hd)
theorem K_putF (C : oCx p s m meth c P Z y B ml rt) {R0 O f d Cn : String} {idx kk : Nat} {ty : FieldType} {a : Addr} {v old : Value} (w : (Jvm.Cond.fieldLink y.cls idx R0 f d).before a0 Z = true) (via : Via Z R0 O f d) (F : Fld Z h a O f d old) (E : Exa Z h a Cn) (L : (Jvm.Cond.lays Cn O f d).before a0 Z = true ∨ ((Jvm.Cond.laysFinal Cn O f d).before a0 Z = true ∧ y.cls = O ∧ y.name = "<init>")) (wi : (Jvm.Cond.instantiable Cn kk).before a0 Z = true)
    (hty : parseFieldDescriptor d = some ty) (hnv : narrow ty v = v) (hf : fits ty v = true) (hP : P a) (hd : decode B pc = .ok (.putfield idx, 3)) (K : ∀ h', Wr h h' a (RoadKit.slotOf Z O f d) v → oWP b p l e R s m args below meth c P Q J h' k n (oF m (pc + 3) Ls S)) : oWP b p l e R s m args below meth c P Q J h k n (oF m pc Ls (v :: .ref a :: S)) := fun T hT => by
  obtain ⟨vm0, k0, locs, ck, cn, X, eT, N, q1, q2, hS, hk0, hbv, hJ⟩ := hT
  have C' := C.rebase hS
  obtain ⟨T', h', X', e', Wr1, st⟩ := putF X C.1 C'.hZ C'.own (host := "") (Or.inl w) via eT F E (L.imp id fun q => ⟨q.1, q.2.1, C.nm.trans q.2.2⟩) wi hty hnv hf (g := oF m pc Ls (v :: .ref a :: S)) rfl rfl (hb C.2.1 hd)
  obtain ⟨u, o, g1, g2⟩ := K h' Wr1 T' ⟨vm0, k0, _, ck, cn, X', e', N.snoc hP, q1, q2, hS, by rw [Wr1.size]; exact hk0, hbv, hJ⟩
  exact ⟨u, o, st u g1, g2⟩
theorem K_getFN (C : oCx p s m meth c P Z y B ml rt) {R0 O f d : String} {host : String} {idx : Nat} {a : Addr} {v : Value} (w : (Jvm.Cond.fieldLinkNest y.cls idx R0 f d host).before a0 Z = true) (via : Via Z R0 O f d) (F : Fld Z h a O f d v) (hd : decode B pc = .ok (.getfield idx, 3)) (K : oWP b p l e R s m args below meth c P Q J h k n (oF m (pc + 3) Ls (v :: S))) : oWP b p l e R s m args below meth c P Q J h k n (oF m pc Ls (.ref a :: S)) := K.law C fun _ C T _ _ _ X eT => getF X C.1 C.hZ C.own (Or.inr w) via eT F (g := oF m pc Ls (.ref a :: S)) rfl rfl (hb C.2.1 hd)
theorem K_getSN (C : oCx p s m meth c P Z y B ml rt) {R0 O f d : String} {host : String} {idx : Nat} {v : Value} (w : (Jvm.Cond.fieldLinkNest y.cls idx R0 f d host).before a0 Z = true) (via : Via Z R0 O f d) (F : Sta Z Z.heap O f d v) (hd : decode B pc = .ok (.getstatic idx, 3)) (K : oWP b p l e R s m args below meth c P Q J h k n (oF m (pc + 3) Ls (v :: S))) : oWP b p l e R s m args below meth c P Q J h k n (oF m pc Ls S) := K_old C fun hE _ _ => K.law C fun _ C T _ _ _ X eT => getS2 X C.1 C.hZ C.own (Or.inr w) via eT (F.ext hE) (g := oF m pc Ls S) rfl (hb C.2.1 hd)
theorem K_putFN (C : oCx p s m meth c P Z y B ml rt) {R0 O f d Cn : String} {host : String} {idx kk : Nat} {ty : FieldType} {a : Addr} {v old : Value} (w : (Jvm.Cond.fieldLinkNest y.cls idx R0 f d host).before a0 Z = true) (via : Via Z R0 O f d) (F : Fld Z h a O f d old) (E : Exa Z h a Cn) (L : (Jvm.Cond.lays Cn O f d).before a0 Z = true ∨ ((Jvm.Cond.laysFinal Cn O f d).before a0 Z = true ∧ y.cls = O ∧ y.name = "<init>")) (wi : (Jvm.Cond.instantiable Cn kk).before a0 Z = true)
    (hty : parseFieldDescriptor d = some ty) (hnv : narrow ty v = v) (hf : fits ty v = true) (hP : P a) (hd : decode B pc = .ok (.putfield idx, 3)) (K : ∀ h', Wr h h' a (RoadKit.slotOf Z O f d) v → oWP b p l e R s m args below meth c P Q J h' k n (oF m (pc + 3) Ls S)) : oWP b p l e R s m args below meth c P Q J h k n (oF m pc Ls (v :: .ref a :: S)) := fun T hT => by
  obtain ⟨vm0, k0, locs, ck, cn, X, eT, N, q1, q2, hS, hk0, hbv, hJ⟩ := hT
  have C' := C.rebase hS
  obtain ⟨T', h', X', e', Wr1, st⟩ := putF X C.1 C'.hZ C'.own (Or.inr w) via eT F E (L.imp id fun q => ⟨q.1, q.2.1, C.nm.trans q.2.2⟩) wi hty hnv hf (g := oF m pc Ls (v :: .ref a :: S)) rfl rfl (hb C.2.1 hd)
  obtain ⟨u, o, g1, g2⟩ := K h' Wr1 T' ⟨vm0, k0, _, ck, cn, X', e', N.snoc hP, q1, q2, hS, by rw [Wr1.size]; exact hk0, hbv, hJ⟩
  exact ⟨u, o, st u g1, g2⟩
theorem K_new (C : oCx p s m meth c P Z y B ml rt) {Cn : String} {idx sz : Nat} (w : (Jvm.Cond.classLink y.cls idx Cn).before a0 Z = true) (wi : (Jvm.Cond.instantiable Cn sz).before a0 Z = true) (wz : (Jvm.Cond.initialized Cn).before a0 Z = true) (hd : decode B pc = .ok (.new idx, 3)) (hk : k + 1 ≤ R.cells) (hn : n + sz ≤ R.slots)
    (K : ∀ h' a, a = h.size → P a → Ext h h' → Exa Z h' a Cn → (∀ {O nm d : String} {ty : FieldType}, Laid Z a0 Cn O nm d → parseFieldDescriptor d = some ty → Fld Z h' a O nm d (defaultValue ty)) → oWP b p l e R s m args below meth c P Q J h' (k + 1) (n + sz) (oF m (pc + 3) Ls (.ref a :: S))) : oWP b p l e R s m args below meth c P Q J h k n (oF m pc Ls S) := fun T hT => by
  have hO := oSd.old C hT
  obtain ⟨vm0, k0, locs, ck, cn, X, eT, N, q1, q2, hS, hk0, hbv, hJ⟩ := hT
  have C' := C.rebase hS
  obtain ⟨T', h', X', e', E, A, D, -, st⟩ := newO X C.1 C'.hZ C'.own w wi wz eT (g := oF m pc Ls S) rfl (hb C.2.1 hd) (by omega) (by omega)
  obtain ⟨u, o, g1, g2⟩ := K h' h.size rfl (C.new _ hO.2.1) E A D T' ⟨vm0, k0, locs, _, _, X', e', N, by omega, by omega, hS, Nat.le_trans hk0 E.1, hbv, hJ⟩
  exact ⟨u, o, st u g1, g2⟩
theorem K_initO (C : oCx p s m meth c P Z y B ml rt) {idx : Nat} {a : Addr} (w1 : (Jvm.Cond.methodLink y.cls idx Lib.objectInit).before a0 Z = true) (w2 : (Jvm.Cond.instanceMethod Lib.objectInit).before a0 Z = true) (w3 : (Jvm.Cond.code Lib.objectInit ⟨#[0xb1]⟩ 1 none).before a0 Z = true) (hd : decode B pc = .ok (.invokespecial idx, 3)) (hml : Ls.length = ml) (hf : 1 ≤ R.frames) (hl : (S.map fun v => v.category).sum + 12 ≤ R.locals) (K : oWP b p l e R s m args below meth c P Q J h k n (oF m (pc + 3) Ls S)) : oWP b p l e R s m args below meth c P Q J h k n (oF m pc Ls (.ref a :: S)) :=
  K.law C fun _ C T _ _ _ X eT => initO X C.1 C.hZ C.own w1 w2 w3 eT (g := oF m pc Ls (.ref a :: S)) rfl (by rw [C.hml]; exact hml) rfl (hb C.2.1 hd) hf (W := (S.map fun v => v.category).sum) (by show 2 * 0 + _ ≤ _; exact Nat.le_of_eq (Nat.zero_add _)) hl
theorem oBackW {s' : State} {z : MethodName} {B' : ByteArray} {ml' len W : Nat} {rt' : Option FieldType} {rm : Room} {as' : Array Value} {P' : Addr → Prop} {J' : Vm → Prop} {Q' : Option Value → Heap → Vm → Prop}
    (M : oMeetsW l Z z B' ml' rt' rm as' h P' J' Q') (hE : Ext Z.heap h) (hZ : Z.Warmed39 s'.vm) (wc : (Jvm.Cond.code z B' ml' rt').before a0 Z = true) (wz : (Jvm.Cond.initialized z.cls).before a0 Z = true) (hf : rm.frames + 1 ≤ R.frames) (hl : W + (ml' + 11) + rm.locals ≤ R.locals) :
    BackS l R p e below s' args z len W (fun A a => a = as' ∧ A.U.heap = h ∧ A.cells + rm.cells ≤ R.cells ∧ A.slots + rm.slots ≤ R.slots ∧ J' A.U.vm)
      (fun A _ v B => ∃ L, (Q' v B.U.heap B.U.vm ∧ oAl P' L ∧ oKp P' h B.U.heap) ∧ B.locs = A.locs ++ L ∧ B.cells = A.cells + rm.cells ∧ B.slots = A.slots + rm.slots) :=
  BackS.of_freeW (bytes := B') (maxL := ml') (ret := rt') (E := fun _ _ o t L k n => k = rm.cells ∧ n = rm.slots ∧ ∃ v, o = .returned v ∧ (Q' v t.heap t.vm ∧ oAl P' L ∧ oKp P' h t.heap)) (M hE []) hf hl
    (fun m meth c A a Y hp => have hU : Z.Warmed39 A.U.vm := wtrans hZ Y.warmed
      ⟨by show (Jvm.Cond.and _ .tt).before a A.U = true; rw [Cond.before_and, mv hU wc]; rfl, mv hU wc, mv hU wz, hp.2.2.1, hp.2.2.2.1⟩)
    (fun m meth c A a g mk Y hp => ⟨hp.1, wtrans hZ Y.warmed, hp.2.1, hp.2.2.2.2⟩) (fun _ _ _ _ _ _ _ _ _ => trivial)
    (fun _ _ _ _ ⟨v, L, h1, h2, h3⟩ => ⟨L, _, _, h3, rfl, rfl, v, h1, h2⟩)
    (fun m meth c A a g mk v t L k n Y hp _ _ ⟨e1, e2, v', e3, e4⟩ => by cases e3; subst e1 e2; exact ⟨L, e4, rfl, rfl, rfl⟩)
theorem K_static (C : oCx p s m meth c P Z y B ml rt) {idx : Nat} {z : MethodName} {B' : ByteArray} {ml' : Nat} {rt' : Option FieldType} {rm : Room} {as' : Array Value} {P' : Addr → Prop} {Q' : Option Value → Heap → Prop} {argsL rest : List Value} {ps : List FieldType} {rr : Option FieldType} (M : oMeets l Z z B' ml' rt' rm as' h P' Q') (w1 : (Jvm.Cond.methodLink y.cls idx z).before a0 Z = true) (w2 : (Jvm.Cond.static z).before a0 Z = true) (w3 : (Jvm.Cond.initialized z.cls).before a0 Z = true) (w4 : (Jvm.Cond.code z B' ml' rt').before a0 Z = true) (hy : z.cls ≠ "java/lang/invoke/MethodHandle" ∧ z.cls ≠ "java/lang/invoke/VarHandle") (hpd : parseMethodDescriptor z.desc = some ⟨ps, rr⟩) (hd : decode B pc = .ok (.invokestatic idx, 3)) (hS : S = argsL.reverse ++ rest) (hlen : argsL.length = ps.length) (ha : argsL.toArray = as') (hml : Ls.length = ml) (hP : ∀ a, s.heap.size ≤ h.size → P' a → P a) (hf : rm.frames + 1 ≤ R.frames) (hl : (rest.map fun v => v.category).sum + (ml' + 11) + rm.locals ≤ R.locals) (hk : k + rm.cells ≤ R.cells) (hn : n + rm.slots ≤ R.slots)
    (K : ∀ v h', Q' v h' → oKp P' h h' → oWP b p l e R s m args below meth c P Q J h' (k + rm.cells) (n + rm.slots) (oF m (pc + 3) Ls (v.toList ++ rest))) : oWP b p l e R s m args below meth c P Q J h k n (oF m pc Ls S) := fun T hT => by
  obtain ⟨hE, hle, -⟩ := oSd.old C hT
  obtain ⟨vm0, k0, locs, ck, cn, X, eT, N, q1, q2, hSi, hk0, hbv, hJ⟩ := hT
  subst hS
  have C' := C.rebase hSi
  obtain ⟨v, vm₁, ⟨T', L', k', n'⟩, -, X', ⟨Lc, ⟨hQ, hN, hK⟩, e1, e2, e3⟩, st⟩ := Jvm.LawKit.callS X C.1 (y := z) C'.own (mvT C'.hZ w1) (mvT C'.hZ w2) (mvT C'.hZ w3) (mvT C'.hZ w4) hy (backOf (W := (rest.map fun v => v.category).sum) (Q := fun v h' L => Q' v h' ∧ oAl P' L ∧ oKp P' h h') (M hE []) C'.hZ w4 w3 hf hl) (g := oF m pc Ls (argsL.reverse ++ rest)) rfl (by rw [C.hml]; exact hml) (argsL := argsL) (rest := rest) (lenOf hpd hlen) rfl (by show 2 * 0 + _ ≤ _; exact Nat.le_of_eq (Nat.zero_add _)) (hb C.2.1 hd) (fun vm₁ hw₁ => ⟨ha, eT, by show ck + _ ≤ _; omega, by show cn + _ ≤ _; omega⟩)
  dsimp only [Pt.U, Pt.locs, Pt.cells, Pt.slots] at X' e1 e2 e3 st hQ hK
  subst e1 e2 e3
  obtain ⟨u, o, g1, g2⟩ := K v T'.heap hQ hK T' ⟨vm0, k0, _, _, _, X', rfl, N.app fun q hq => hP _ hle (hN q hq), by omega, by omega, hSi, Nat.le_trans hk0 hK.1, hbv, hJ⟩
  exact ⟨u, o, st u g1, g2⟩
theorem K_special (C : oCx p s m meth c P Z y B ml rt) {idx : Nat} {z : MethodName} {B' : ByteArray} {ml' : Nat} {rm : Room} {as' : Array Value} {P' : Addr → Prop} {Q' : Option Value → Heap → Prop} {argsL rest : List Value} {ps : List FieldType} {rr : Option FieldType} (M : oMeets l Z z B' ml' none rm as' h P' Q') {a : Addr} (w1 : (Jvm.Cond.methodLink y.cls idx z).before a0 Z = true) (w2 : (Jvm.Cond.instanceMethod z).before a0 Z = true) (w3 : (Jvm.Cond.initialized z.cls).before a0 Z = true) (w4 : (Jvm.Cond.code z B' ml' none).before a0 Z = true) (hi : z.name = "<init>") (hy : z.cls ≠ "java/lang/invoke/MethodHandle" ∧ z.cls ≠ "java/lang/invoke/VarHandle") (hpd : parseMethodDescriptor z.desc = some ⟨ps, rr⟩) (hd : decode B pc = .ok (.invokespecial idx, 3)) (hS : S = argsL.reverse ++ .ref a :: rest) (hlen : argsL.length = ps.length) (ha : (.ref a :: argsL).toArray = as') (hml : Ls.length = ml) (hP : ∀ a, s.heap.size ≤ h.size → P' a → P a) (hf : rm.frames + 1 ≤ R.frames) (hl : (rest.map fun v => v.category).sum + (ml' + 11) + rm.locals ≤ R.locals) (hk : k + rm.cells ≤ R.cells) (hn : n + rm.slots ≤ R.slots)
    (K : ∀ v h', Q' v h' → oKp P' h h' → oWP b p l e R s m args below meth c P Q J h' (k + rm.cells) (n + rm.slots) (oF m (pc + 3) Ls (v.toList ++ rest))) : oWP b p l e R s m args below meth c P Q J h k n (oF m pc Ls S) := fun T hT => by
  obtain ⟨hE, hle, -⟩ := oSd.old C hT
  obtain ⟨vm0, k0, locs, ck, cn, X, eT, N, q1, q2, hSi, hk0, hbv, hJ⟩ := hT
  subst hS
  have C' := C.rebase hSi
  obtain ⟨v, vm₁, ⟨T', L', k', n'⟩, -, X', ⟨Lc, ⟨hQ, hN, hK⟩, e1, e2, e3⟩, st⟩ := X.specialBack C.1 (y := z) hi C'.own (mvT C'.hZ w1) (mvT C'.hZ w2) (mvT C'.hZ w4) hy (backOf (W := (rest.map fun v => v.category).sum) (Q := fun v h' L => Q' v h' ∧ oAl P' L ∧ oKp P' h h') (M hE []) C'.hZ w4 w3 hf hl) (g := oF m pc Ls (argsL.reverse ++ .ref a :: rest)) rfl (by rw [C.hml]; exact hml) (Steps.refl _) (a := a) (argsL := argsL) (rest := rest) (lenOf hpd hlen) rfl (by show 2 * 0 + _ ≤ _; exact Nat.le_of_eq (Nat.zero_add _)) (hb C.2.1 hd) (fun vm₁ hw₁ => ⟨ha, eT, by show ck + _ ≤ _; omega, by show cn + _ ≤ _; omega⟩)
  dsimp only [Pt.U, Pt.locs, Pt.cells, Pt.slots] at X' e1 e2 e3 st hQ hK
  subst e1 e2 e3
  obtain ⟨u, o, g1, g2⟩ := K v T'.heap hQ hK T' ⟨vm0, k0, _, _, _, X', rfl, N.app fun q hq => hP _ hle (hN q hq), by omega, by omega, hSi, Nat.le_trans hk0 hK.1, hbv, hJ⟩
  exact ⟨u, o, st.trans g1, g2⟩
theorem K_virtual (C : oCx p s m meth c P Z y B ml rt) {idx : Nat} {z z0 : MethodName} {B' : ByteArray} {ml' : Nat} {rt' : Option FieldType} {rm : Room} {as' : Array Value} {P' : Addr → Prop} {Q' : Option Value → Heap → Prop} {argsL rest : List Value} {ps : List FieldType} {rr : Option FieldType} (M : oMeets l Z z B' ml' rt' rm as' h P' Q') {a : Addr} {Cn : String} (E : Exa Z h a Cn) (w1 : (Jvm.Cond.methodLink y.cls idx z0).before a0 Z = true) (wd : (Jvm.Cond.declares z0).before a0 Z = true) (nf : ∀ s', Z.Warmed39 s'.vm → NotFace s' z0) (ws : (Jvm.Cond.selects Cn z0 z).before a0 Z = true) (w2 : (Jvm.Cond.instanceMethod z).before a0 Z = true) (w3 : (Jvm.Cond.initialized z.cls).before a0 Z = true) (w4 : (Jvm.Cond.code z B' ml' rt').before a0 Z = true) (hy : z0.cls ≠ "java/lang/invoke/MethodHandle" ∧ z0.cls ≠ "java/lang/invoke/VarHandle") (hpd : parseMethodDescriptor z0.desc = some ⟨ps, rr⟩) (hd : decode B pc = .ok (.invokevirtual idx, 3)) (hS : S = argsL.reverse ++ .ref a :: rest) (hlen : argsL.length = ps.length) (ha : (.ref a :: argsL).toArray = as') (hml : Ls.length = ml) (hP : ∀ a, s.heap.size ≤ h.size → P' a → P a) (hf : rm.frames + 1 ≤ R.frames) (hl : (rest.map fun v => v.category).sum + (ml' + 11) + rm.locals ≤ R.locals) (hk : k + rm.cells ≤ R.cells) (hn : n + rm.slots ≤ R.slots)
    (K : ∀ v h', Q' v h' → oKp P' h h' → oWP b p l e R s m args below meth c P Q J h' (k + rm.cells) (n + rm.slots) (oF m (pc + 3) Ls (v.toList ++ rest))) : oWP b p l e R s m args below meth c P Q J h k n (oF m pc Ls S) := fun T hT => by
  obtain ⟨hE, hle, -⟩ := oSd.old C hT
  obtain ⟨vm0, k0, locs, ck, cn, X, eT, N, q1, q2, hSi, hk0, hbv, hJ⟩ := hT
  subst hS
  have C' := C.rebase hSi
  obtain ⟨cq, kq, qa, qb, qc⟩ := isOf C'.hZ eT E
  obtain ⟨v, vm₁, ⟨T', L', k', n'⟩, -, X', ⟨Lc, ⟨hQ, hN, hK⟩, e1, e2, e3⟩, st⟩ := X.virtualBack C.1 (y := z0) (z := z) C'.own (mvT C'.hZ w1) (mvT C'.hZ wd) (nf _ C'.hZ) (mvT C'.hZ ws) (mvT C'.hZ w2) hy (backOf (W := (rest.map fun v => v.category).sum) (Q := fun v h' L => Q' v h' ∧ oAl P' L ∧ oKp P' h h') (M hE []) C'.hZ w4 w3 hf hl) qa qc (g := oF m pc Ls (argsL.reverse ++ .ref a :: rest)) rfl (by rw [C.hml]; exact hml) (Steps.refl _) (argsL := argsL) (rest := rest) (lenOf hpd hlen) rfl (by show 2 * 0 + _ ≤ _; exact Nat.le_of_eq (Nat.zero_add _)) (hb C.2.1 hd) (fun vm₁ hw₁ => ⟨ha, eT, by show ck + _ ≤ _; omega, by show cn + _ ≤ _; omega⟩)
  dsimp only [Pt.U, Pt.locs, Pt.cells, Pt.slots] at X' e1 e2 e3 st hQ hK
  subst e1 e2 e3
  obtain ⟨u, o, g1, g2⟩ := K v T'.heap hQ hK T' ⟨vm0, k0, _, _, _, X', rfl, N.app fun q hq => hP _ hle (hN q hq), by omega, by omega, hSi, Nat.le_trans hk0 hK.1, hbv, hJ⟩
  exact ⟨u, o, st.trans g1, g2⟩
theorem K_virtualUp (C : oCx p s m meth c P Z y B ml rt) {idx : Nat} {z z0 : MethodName} {B' : ByteArray} {ml' : Nat} {rt' : Option FieldType} {rm : Room} {as' : Array Value} {P' : Addr → Prop} {Q' : Option Value → Heap → Prop} {argsL rest : List Value} {ps : List FieldType} {rr : Option FieldType} (M : oMeets l Z z B' ml' rt' rm as' h P' Q') {a : Addr} {Cn owner : String} (E : Exa Z h a Cn) (w1 : (Jvm.Cond.methodLink y.cls idx z0).before a0 Z = true) (wsm : (Jvm.Cond.sameMethod z0.cls owner z0.name z0.desc).before a0 Z = true) (wd : (Jvm.Cond.declares ⟨owner, z0.name, z0.desc⟩).before a0 Z = true) (ws : (Jvm.Cond.selects Cn z0 z).before a0 Z = true) (w2 : (Jvm.Cond.instanceMethod z).before a0 Z = true) (w3 : (Jvm.Cond.initialized z.cls).before a0 Z = true) (w4 : (Jvm.Cond.code z B' ml' rt').before a0 Z = true) (hy : owner ≠ "java/lang/invoke/MethodHandle" ∧ owner ≠ "java/lang/invoke/VarHandle") (hpd : parseMethodDescriptor z0.desc = some ⟨ps, rr⟩) (hd : decode B pc = .ok (.invokevirtual idx, 3)) (hS : S = argsL.reverse ++ .ref a :: rest) (hlen : argsL.length = ps.length) (ha : (.ref a :: argsL).toArray = as') (hml : Ls.length = ml) (hP : ∀ a, s.heap.size ≤ h.size → P' a → P a) (hf : rm.frames + 1 ≤ R.frames) (hl : (rest.map fun v => v.category).sum + (ml' + 11) + rm.locals ≤ R.locals) (hk : k + rm.cells ≤ R.cells) (hn : n + rm.slots ≤ R.slots)
    (K : ∀ v h', Q' v h' → oKp P' h h' → oWP b p l e R s m args below meth c P Q J h' (k + rm.cells) (n + rm.slots) (oF m (pc + 3) Ls (v.toList ++ rest))) : oWP b p l e R s m args below meth c P Q J h k n (oF m pc Ls S) := fun T hT => by
  obtain ⟨hE, hle, -⟩ := oSd.old C hT
  obtain ⟨vm0, k0, locs, ck, cn, X, eT, N, q1, q2, hSi, hk0, hbv, hJ⟩ := hT
  subst hS
  have C' := C.rebase hSi
  obtain ⟨cq, kq, qa, qb, qc⟩ := isOf C'.hZ eT E
  obtain ⟨v, vm₁, ⟨T', L', k', n'⟩, -, X', ⟨Lc, ⟨hQ, hN, hK⟩, e1, e2, e3⟩, st⟩ := X.virtualBackUp C.1 (x := z0) (y := z) C'.own (mvT C'.hZ w1) (mvT C'.hZ wsm) (mvT C'.hZ wd) hy (mvT C'.hZ ws) (mvT C'.hZ w2) (backOf (W := (rest.map fun v => v.category).sum) (Q := fun v h' L => Q' v h' ∧ oAl P' L ∧ oKp P' h h') (M hE []) C'.hZ w4 w3 hf hl) qa qc (g := oF m pc Ls (argsL.reverse ++ .ref a :: rest)) rfl (by rw [C.hml]; exact hml) (Steps.refl _) (argsL := argsL) (rest := rest) (lenOf hpd hlen) rfl (by show 2 * 0 + _ ≤ _; exact Nat.le_of_eq (Nat.zero_add _)) (hb C.2.1 hd) (fun vm₁ hw₁ => ⟨ha, eT, by show ck + _ ≤ _; omega, by show cn + _ ≤ _; omega⟩)
  dsimp only [Pt.U, Pt.locs, Pt.cells, Pt.slots] at X' e1 e2 e3 st hQ hK
  subst e1 e2 e3
  obtain ⟨u, o, g1, g2⟩ := K v T'.heap hQ hK T' ⟨vm0, k0, _, _, _, X', rfl, N.app fun q hq => hP _ hle (hN q hq), by omega, by omega, hSi, Nat.le_trans hk0 hK.1, hbv, hJ⟩
  exact ⟨u, o, st.trans g1, g2⟩
theorem K_staticW (C : oCx p s m meth c P Z y B ml rt) {idx : Nat} {z : MethodName} {B' : ByteArray} {ml' : Nat} {rt' : Option FieldType} {rm : Room} {as' : Array Value} {P' : Addr → Prop} {J' : Vm → Prop} {Q' : Option Value → Heap → Vm → Prop} {argsL rest : List Value} {ps : List FieldType} {rr : Option FieldType} (M : oMeetsW l Z z B' ml' rt' rm as' h P' J' Q') (hJJ : ∀ vm, J vm → J' vm) (w1 : (Jvm.Cond.methodLink y.cls idx z).before a0 Z = true) (w2 : (Jvm.Cond.static z).before a0 Z = true) (w3 : (Jvm.Cond.initialized z.cls).before a0 Z = true) (w4 : (Jvm.Cond.code z B' ml' rt').before a0 Z = true) (hy : z.cls ≠ "java/lang/invoke/MethodHandle" ∧ z.cls ≠ "java/lang/invoke/VarHandle") (hpd : parseMethodDescriptor z.desc = some ⟨ps, rr⟩) (hd : decode B pc = .ok (.invokestatic idx, 3)) (hS : S = argsL.reverse ++ rest) (hlen : argsL.length = ps.length) (ha : argsL.toArray = as') (hml : Ls.length = ml) (hP : ∀ a, s.heap.size ≤ h.size → P' a → P a) (hf : rm.frames + 1 ≤ R.frames) (hl : (rest.map fun v => v.category).sum + (ml' + 11) + rm.locals ≤ R.locals) (hk : k + rm.cells ≤ R.cells) (hn : n + rm.slots ≤ R.slots)
    (K : ∀ v h' vm', Q' v h' vm' → oKp P' h h' → ∃ J1 : Vm → Prop, J1 vm' ∧ oJs J1 ∧ oWP true p l e R s m args below meth c P Q J1 h' (k + rm.cells) (n + rm.slots) (oF m (pc + 3) Ls (v.toList ++ rest))) : oWP true p l e R s m args below meth c P Q J h k n (oF m pc Ls S) := fun T hT => by
  obtain ⟨hE, hle, -⟩ := oSd.old C hT
  obtain ⟨vm0, k0, locs, ck, cn, X, eT, N, q1, q2, hSi, hk0, hbv, hJ⟩ := hT
  subst hS
  have C' := C.rebase hSi
  obtain ⟨v, vm₁, ⟨T', L', k', n'⟩, -, X', hS2, hgr, ⟨Lc, ⟨hQ, hN, hK⟩, e1, e2, e3⟩, st⟩ := callSS X C.1 (y := z) C'.own (mvT C'.hZ w1) (mvT C'.hZ w2) (mvT C'.hZ w3) (mvT C'.hZ w4) hy (oBackW (W := (rest.map fun v => v.category).sum) M hE C'.hZ w4 w3 hf hl) (g := oF m pc Ls (argsL.reverse ++ rest)) rfl (by rw [C.hml]; exact hml) (argsL := argsL) (rest := rest) (lenOf hpd hlen) rfl (by show 2 * 0 + _ ≤ _; exact Nat.le_of_eq (Nat.zero_add _)) (hb C.2.1 hd) (fun vm₁ hw₁ => ⟨ha, eT, by show ck + _ ≤ _; omega, by show cn + _ ≤ _; omega, hJJ _ (hJ.2 (s.setVm vm0) _ hJ.1 hw₁)⟩)
  dsimp only [Pt.U, Pt.locs, Pt.cells, Pt.slots] at X' hS2 hgr e1 e2 e3 st hQ hK
  subst e1 e2 e3
  obtain ⟨J1, j1, j2, K1⟩ := K v T'.heap T'.vm hQ hK
  obtain ⟨u, o, g1, g2⟩ := K1 T' ⟨T'.vm, T'.heap.size, _, _, _, X', rfl, N.app fun q hq => hP _ hle (hN q hq), by omega, by omega, foldS hSi (by rw [eT]; exact hk0) hS2 hgr, Nat.le_refl _, (fun q => nomatch q), j1, j2⟩
  exact ⟨u, o, st.trans g1, g2⟩
theorem K_specialW (C : oCx p s m meth c P Z y B ml rt) {idx : Nat} {z : MethodName} {B' : ByteArray} {ml' : Nat} {rm : Room} {as' : Array Value} {P' : Addr → Prop} {J' : Vm → Prop} {Q' : Option Value → Heap → Vm → Prop} {argsL rest : List Value} {ps : List FieldType} {rr : Option FieldType} (M : oMeetsW l Z z B' ml' none rm as' h P' J' Q') (hJJ : ∀ vm, J vm → J' vm) {a : Addr} (w1 : (Jvm.Cond.methodLink y.cls idx z).before a0 Z = true) (w2 : (Jvm.Cond.instanceMethod z).before a0 Z = true) (w3 : (Jvm.Cond.initialized z.cls).before a0 Z = true) (w4 : (Jvm.Cond.code z B' ml' none).before a0 Z = true) (hi : z.name = "<init>") (hy : z.cls ≠ "java/lang/invoke/MethodHandle" ∧ z.cls ≠ "java/lang/invoke/VarHandle") (hpd : parseMethodDescriptor z.desc = some ⟨ps, rr⟩) (hd : decode B pc = .ok (.invokespecial idx, 3)) (hS : S = argsL.reverse ++ .ref a :: rest) (hlen : argsL.length = ps.length) (ha : (.ref a :: argsL).toArray = as') (hml : Ls.length = ml) (hP : ∀ a, s.heap.size ≤ h.size → P' a → P a) (hf : rm.frames + 1 ≤ R.frames) (hl : (rest.map fun v => v.category).sum + (ml' + 11) + rm.locals ≤ R.locals) (hk : k + rm.cells ≤ R.cells) (hn : n + rm.slots ≤ R.slots)
    (K : ∀ v h' vm', Q' v h' vm' → oKp P' h h' → ∃ J1 : Vm → Prop, J1 vm' ∧ oJs J1 ∧ oWP true p l e R s m args below meth c P Q J1 h' (k + rm.cells) (n + rm.slots) (oF m (pc + 3) Ls (v.toList ++ rest))) : oWP true p l e R s m args below meth c P Q J h k n (oF m pc Ls S) := fun T hT => by
  obtain ⟨hE, hle, -⟩ := oSd.old C hT
  obtain ⟨vm0, k0, locs, ck, cn, X, eT, N, q1, q2, hSi, hk0, hbv, hJ⟩ := hT
  subst hS
  have C' := C.rebase hSi
  obtain ⟨v, vm₁, ⟨T', L', k', n'⟩, -, X', hS2, hgr, ⟨Lc, ⟨hQ, hN, hK⟩, e1, e2, e3⟩, st⟩ := X.specialBackS C.1 (y := z) hi C'.own (mvT C'.hZ w1) (mvT C'.hZ w2) (mvT C'.hZ w4) hy (oBackW (W := (rest.map fun v => v.category).sum) M hE C'.hZ w4 w3 hf hl) (g := oF m pc Ls (argsL.reverse ++ .ref a :: rest)) rfl (by rw [C.hml]; exact hml) (Steps.refl _) (a := a) (argsL := argsL) (rest := rest) (lenOf hpd hlen) rfl (by show 2 * 0 + _ ≤ _; exact Nat.le_of_eq (Nat.zero_add _)) (hb C.2.1 hd) (fun vm₁ hw₁ => ⟨ha, eT, by show ck + _ ≤ _; omega, by show cn + _ ≤ _; omega, hJJ _ (hJ.2 (s.setVm vm0) _ hJ.1 hw₁)⟩)
  dsimp only [Pt.U, Pt.locs, Pt.cells, Pt.slots] at X' hS2 hgr e1 e2 e3 st hQ hK
  subst e1 e2 e3
  obtain ⟨J1, j1, j2, K1⟩ := K v T'.heap T'.vm hQ hK
  obtain ⟨u, o, g1, g2⟩ := K1 T' ⟨T'.vm, T'.heap.size, _, _, _, X', rfl, N.app fun q hq => hP _ hle (hN q hq), by omega, by omega, foldS hSi (by rw [eT]; exact hk0) hS2 hgr, Nat.le_refl _, (fun q => nomatch q), j1, j2⟩
  exact ⟨u, o, st.trans g1, g2⟩
theorem K_virtualW (C : oCx p s m meth c P Z y B ml rt) {idx : Nat} {z z0 : MethodName} {B' : ByteArray} {ml' : Nat} {rt' : Option FieldType} {rm : Room} {as' : Array Value} {P' : Addr → Prop} {J' : Vm → Prop} {Q' : Option Value → Heap → Vm → Prop} {argsL rest : List Value} {ps : List FieldType} {rr : Option FieldType} (M : oMeetsW l Z z B' ml' rt' rm as' h P' J' Q') (hJJ : ∀ vm, J vm → J' vm) {a : Addr} {Cn : String} (E : Exa Z h a Cn) (w1 : (Jvm.Cond.methodLink y.cls idx z0).before a0 Z = true) (wd : (Jvm.Cond.declares z0).before a0 Z = true) (nf : ∀ s', Z.Warmed39 s'.vm → NotFace s' z0) (ws : (Jvm.Cond.selects Cn z0 z).before a0 Z = true) (w2 : (Jvm.Cond.instanceMethod z).before a0 Z = true) (w3 : (Jvm.Cond.initialized z.cls).before a0 Z = true) (w4 : (Jvm.Cond.code z B' ml' rt').before a0 Z = true) (hy : z0.cls ≠ "java/lang/invoke/MethodHandle" ∧ z0.cls ≠ "java/lang/invoke/VarHandle") (hpd : parseMethodDescriptor z0.desc = some ⟨ps, rr⟩) (hd : decode B pc = .ok (.invokevirtual idx, 3)) (hS : S = argsL.reverse ++ .ref a :: rest) (hlen : argsL.length = ps.length) (ha : (.ref a :: argsL).toArray = as') (hml : Ls.length = ml) (hP : ∀ a, s.heap.size ≤ h.size → P' a → P a) (hf : rm.frames + 1 ≤ R.frames) (hl : (rest.map fun v => v.category).sum + (ml' + 11) + rm.locals ≤ R.locals) (hk : k + rm.cells ≤ R.cells) (hn : n + rm.slots ≤ R.slots)
    (K : ∀ v h' vm', Q' v h' vm' → oKp P' h h' → ∃ J1 : Vm → Prop, J1 vm' ∧ oJs J1 ∧ oWP true p l e R s m args below meth c P Q J1 h' (k + rm.cells) (n + rm.slots) (oF m (pc + 3) Ls (v.toList ++ rest))) : oWP true p l e R s m args below meth c P Q J h k n (oF m pc Ls S) := fun T hT => by
  obtain ⟨hE, hle, -⟩ := oSd.old C hT
  obtain ⟨vm0, k0, locs, ck, cn, X, eT, N, q1, q2, hSi, hk0, hbv, hJ⟩ := hT
  subst hS
  have C' := C.rebase hSi
  obtain ⟨cq, kq, qa, qb, qc⟩ := isOf C'.hZ eT E
  obtain ⟨v, vm₁, ⟨T', L', k', n'⟩, -, X', hS2, hgr, ⟨Lc, ⟨hQ, hN, hK⟩, e1, e2, e3⟩, st⟩ := X.virtualBackS C.1 (y := z0) (z := z) C'.own (mvT C'.hZ w1) (mvT C'.hZ wd) (nf _ C'.hZ) (mvT C'.hZ ws) (mvT C'.hZ w2) hy (oBackW (W := (rest.map fun v => v.category).sum) M hE C'.hZ w4 w3 hf hl) qa qc (g := oF m pc Ls (argsL.reverse ++ .ref a :: rest)) rfl (by rw [C.hml]; exact hml) (Steps.refl _) (argsL := argsL) (rest := rest) (lenOf hpd hlen) rfl (by show 2 * 0 + _ ≤ _; exact Nat.le_of_eq (Nat.zero_add _)) (hb C.2.1 hd) (fun vm₁ hw₁ => ⟨ha, eT, by show ck + _ ≤ _; omega, by show cn + _ ≤ _; omega, hJJ _ (hJ.2 (s.setVm vm0) _ hJ.1 hw₁)⟩)
  dsimp only [Pt.U, Pt.locs, Pt.cells, Pt.slots] at X' hS2 hgr e1 e2 e3 st hQ hK
  subst e1 e2 e3
  obtain ⟨J1, j1, j2, K1⟩ := K v T'.heap T'.vm hQ hK
  obtain ⟨u, o, g1, g2⟩ := K1 T' ⟨T'.vm, T'.heap.size, _, _, _, X', rfl, N.app fun q hq => hP _ hle (hN q hq), by omega, by omega, foldS hSi (by rw [eT]; exact hk0) hS2 hgr, Nat.le_refl _, (fun q => nomatch q), j1, j2⟩
  exact ⟨u, o, st.trans g1, g2⟩
theorem K_virtualUpW (C : oCx p s m meth c P Z y B ml rt) {idx : Nat} {z z0 : MethodName} {B' : ByteArray} {ml' : Nat} {rt' : Option FieldType} {rm : Room} {as' : Array Value} {P' : Addr → Prop} {J' : Vm → Prop} {Q' : Option Value → Heap → Vm → Prop} {argsL rest : List Value} {ps : List FieldType} {rr : Option FieldType} (M : oMeetsW l Z z B' ml' rt' rm as' h P' J' Q') (hJJ : ∀ vm, J vm → J' vm) {a : Addr} {Cn owner : String} (E : Exa Z h a Cn) (w1 : (Jvm.Cond.methodLink y.cls idx z0).before a0 Z = true) (wsm : (Jvm.Cond.sameMethod z0.cls owner z0.name z0.desc).before a0 Z = true) (wd : (Jvm.Cond.declares ⟨owner, z0.name, z0.desc⟩).before a0 Z = true) (ws : (Jvm.Cond.selects Cn z0 z).before a0 Z = true) (w2 : (Jvm.Cond.instanceMethod z).before a0 Z = true) (w3 : (Jvm.Cond.initialized z.cls).before a0 Z = true) (w4 : (Jvm.Cond.code z B' ml' rt').before a0 Z = true) (hy : owner ≠ "java/lang/invoke/MethodHandle" ∧ owner ≠ "java/lang/invoke/VarHandle") (hpd : parseMethodDescriptor z0.desc = some ⟨ps, rr⟩) (hd : decode B pc = .ok (.invokevirtual idx, 3)) (hS : S = argsL.reverse ++ .ref a :: rest) (hlen : argsL.length = ps.length) (ha : (.ref a :: argsL).toArray = as') (hml : Ls.length = ml) (hP : ∀ a, s.heap.size ≤ h.size → P' a → P a) (hf : rm.frames + 1 ≤ R.frames) (hl : (rest.map fun v => v.category).sum + (ml' + 11) + rm.locals ≤ R.locals) (hk : k + rm.cells ≤ R.cells) (hn : n + rm.slots ≤ R.slots)
    (K : ∀ v h' vm', Q' v h' vm' → oKp P' h h' → ∃ J1 : Vm → Prop, J1 vm' ∧ oJs J1 ∧ oWP true p l e R s m args below meth c P Q J1 h' (k + rm.cells) (n + rm.slots) (oF m (pc + 3) Ls (v.toList ++ rest))) : oWP true p l e R s m args below meth c P Q J h k n (oF m pc Ls S) := fun T hT => by
  obtain ⟨hE, hle, -⟩ := oSd.old C hT
  obtain ⟨vm0, k0, locs, ck, cn, X, eT, N, q1, q2, hSi, hk0, hbv, hJ⟩ := hT
  subst hS
  have C' := C.rebase hSi
  obtain ⟨cq, kq, qa, qb, qc⟩ := isOf C'.hZ eT E
  obtain ⟨v, vm₁, ⟨T', L', k', n'⟩, -, X', hS2, hgr, ⟨Lc, ⟨hQ, hN, hK⟩, e1, e2, e3⟩, st⟩ := X.virtualBackUpS C.1 (x := z0) (y := z) C'.own (mvT C'.hZ w1) (mvT C'.hZ wsm) (mvT C'.hZ wd) hy (mvT C'.hZ ws) (mvT C'.hZ w2) (oBackW (W := (rest.map fun v => v.category).sum) M hE C'.hZ w4 w3 hf hl) qa qc (g := oF m pc Ls (argsL.reverse ++ .ref a :: rest)) rfl (by rw [C.hml]; exact hml) (Steps.refl _) (argsL := argsL) (rest := rest) (lenOf hpd hlen) rfl (by show 2 * 0 + _ ≤ _; exact Nat.le_of_eq (Nat.zero_add _)) (hb C.2.1 hd) (fun vm₁ hw₁ => ⟨ha, eT, by show ck + _ ≤ _; omega, by show cn + _ ≤ _; omega, hJJ _ (hJ.2 (s.setVm vm0) _ hJ.1 hw₁)⟩)
  dsimp only [Pt.U, Pt.locs, Pt.cells, Pt.slots] at X' hS2 hgr e1 e2 e3 st hQ hK
  subst e1 e2 e3
  obtain ⟨J1, j1, j2, K1⟩ := K v T'.heap T'.vm hQ hK
  obtain ⟨u, o, g1, g2⟩ := K1 T' ⟨T'.vm, T'.heap.size, _, _, _, X', rfl, N.app fun q hq => hP _ hle (hN q hq), by omega, by omega, foldS hSi (by rw [eT]; exact hk0) hS2 hgr, Nat.le_refl _, (fun q => nomatch q), j1, j2⟩
  exact ⟨u, o, st.trans g1, g2⟩
theorem oNF {Cn : String} {z : MethodName} (w : (Jvm.Cond.selects Cn z z).before a0 Z = true) : ∀ s' : State, Z.Warmed39 s'.vm → NotFace s' z := fun _ hZ => notFace_of_selects (args := #[]) (mvT hZ w)
theorem oNFs {S' : String} {z : MethodName} (w : (Jvm.Cond.superclass z.cls S').before a0 Z = true) : ∀ s' : State, Z.Warmed39 s'.vm → NotFace s' z := fun _ hZ => nf_super (args := #[]) (mvT hZ w)
theorem K_putFn (C : oCx p s m meth c P Z y B ml rt) {R0 O f d Cn : String} {idx kk : Nat} {ty : FieldType} {a : Addr} {v v' old : Value} (w : (Jvm.Cond.fieldLink y.cls idx R0 f d).before a0 Z = true) (via : Via Z R0 O f d) (F : Fld Z h a O f d old) (E : Exa Z h a Cn) (L : (Jvm.Cond.lays Cn O f d).before a0 Z = true ∨ ((Jvm.Cond.laysFinal Cn O f d).before a0 Z = true ∧ y.cls = O ∧ y.name = "<init>")) (wi : (Jvm.Cond.instantiable Cn kk).before a0 Z = true)
    (hty : parseFieldDescriptor d = some ty) (hnv : narrow ty v = v') (hf : fits ty v' = true) (hP : P a) (hd : decode B pc = .ok (.putfield idx, 3)) (K : ∀ h', Wr h h' a (RoadKit.slotOf Z O f d) v' → oWP b p l e R s m args below meth c P Q J h' k n (oF m (pc + 3) Ls S)) : oWP b p l e R s m args below meth c P Q J h k n (oF m pc Ls (v :: .ref a :: S)) := fun T hT => by
  obtain ⟨vm0, k0, locs, ck, cn, X, eT, N, q1, q2, hS, hk0, hbv, hJ⟩ := hT
  have C' := C.rebase hS
  obtain ⟨T', h', X', e', Wr1, st⟩ := putFN X C.1 C'.hZ C'.own w via eT F E (L.imp id fun q => ⟨q.1, q.2.1, C.nm.trans q.2.2⟩) wi hty hnv hf (g := oF m pc Ls (v :: .ref a :: S)) rfl rfl (hb C.2.1 hd)
  obtain ⟨u, o, g1, g2⟩ := K h' Wr1 T' ⟨vm0, k0, _, ck, cn, X', e', N.snoc hP, q1, q2, hS, by rw [Wr1.size]; exact hk0, hbv, hJ⟩
  exact ⟨u, o, st u g1, g2⟩
theorem K_castY (C : oCx p s m meth c P Z y B ml rt) {idx : Nat} {a : Addr} {Cn : String} (w : (Jvm.Cond.classLink y.cls idx Cn).before a0 Z = true) (F : Ins Z h a Cn true) (hd : decode B pc = .ok (.checkcast idx, 3)) (K : oWP b p l e R s m args below meth c P Q J h k n (oF m (pc + 3) Ls (.ref a :: S))) : oWP b p l e R s m args below meth c P Q J h k n (oF m pc Ls (.ref a :: S)) := K.law C fun _ C T _ _ _ X eT => castY X C.1 C.hZ C.own w eT F (g := oF m pc Ls (.ref a :: S)) rfl rfl (hb C.2.1 hd)
theorem K_instY (C : oCx p s m meth c P Z y B ml rt) {idx : Nat} {a : Addr} {Cn : String} (w : (Jvm.Cond.classLink y.cls idx Cn).before a0 Z = true) (F : Ins Z h a Cn true) (hd : decode B pc = .ok (.instanceof idx, 3)) (K : oWP b p l e R s m args below meth c P Q J h k n (oF m (pc + 3) Ls (.int 1 :: S))) : oWP b p l e R s m args below meth c P Q J h k n (oF m pc Ls (.ref a :: S)) := K.law C fun _ C T _ _ _ X eT => instY X C.1 C.hZ C.own w eT F (g := oF m pc Ls (.ref a :: S)) rfl rfl (hb C.2.1 hd)
theorem K_astoreV (C : oCx p s m meth c P Z y B ml rt) {i : Nat} {v : Value} {Ls' : List Slot} (o : Slot) (hd : decode B pc = .ok (.astore i, 2)) (hv : v.isRef = true) (hold : (Array.mk Ls)[i]? = some o) (ho : o = .unset ∨ ∃ w, o = .val w ∧ w.category = 1) (hL : (Array.mk Ls).setIfInBounds i (.val v) = Array.mk Ls') (K : oWP b p l e R s m args below meth c P Q J h k n (oF m (pc + 2) Ls' S)) : oWP b p l e R s m args below meth c P Q J h k n (oF m pc Ls (v :: S)) :=
  K_astore C hd hv (by rw [XS.store1 hold ho (XT.cat1 hv), hL]) K
theorem K_astoreNV (C : oCx p s m meth c P Z y B ml rt) {i : Fin 4} {v : Value} {Ls' : List Slot} (o : Slot) (hd : decode B pc = .ok (.astore_n i, 1)) (hv : v.isRef = true) (hold : (Array.mk Ls)[i.val]? = some o) (ho : o = .unset ∨ ∃ w, o = .val w ∧ w.category = 1) (hL : (Array.mk Ls).setIfInBounds i.val (.val v) = Array.mk Ls') (K : oWP b p l e R s m args below meth c P Q J h k n (oF m (pc + 1) Ls' S)) : oWP b p l e R s m args below meth c P Q J h k n (oF m pc Ls (v :: S)) :=
  K_astoreN C hd hv (by rw [XS.store1 hold ho (XT.cat1 hv), hL]) K
theorem K_istoreV (C : oCx p s m meth c P Z y B ml rt) {i : Nat} {v : Int32} {Ls' : List Slot} (o : Slot) (hd : decode B pc = .ok (.istore i, 2)) (hold : (Array.mk Ls)[i]? = some o) (ho : o = .unset ∨ ∃ w, o = .val w ∧ w.category = 1) (hL : (Array.mk Ls).setIfInBounds i (.val (.int v)) = Array.mk Ls') (K : oWP b p l e R s m args below meth c P Q J h k n (oF m (pc + 2) Ls' S)) : oWP b p l e R s m args below meth c P Q J h k n (oF m pc Ls (.int v :: S)) :=
  K_istore C hd (by rw [XS.store1 hold ho rfl, hL]) K
theorem K_iaload (C : oCx p s m meth c P Z y B ml rt) {a : Addr} {cl : Cell} {j : Int32} {v : Value} (A : Arr Z h a cl .int) (hj : ¬ (j < 0 ∨ cl.slots.size ≤ j.toNatClampNeg)) (hv : cl.slots[j.toNatClampNeg]? = some v) (hd : decode B pc = .ok (.iaload, 1)) (K : oWP b p l e R s m args below meth c P Q J h k n (oF m (pc + 1) Ls (v :: S))) : oWP b p l e R s m args below meth c P Q J h k n (oF m pc Ls (.int j :: .ref a :: S)) := K.law C fun _ C T _ _ _ X eT => ⟨T, X, eT, X.iaload C.1 (by rw [eT]; exact A.1) (State.isArrayOf_alike C.hZ.alike A.2.1) A.2.2 hj hv (g := oF m pc Ls (.int j :: .ref a :: S)) rfl rfl (hb C.2.1 hd)⟩
theorem K_caload (C : oCx p s m meth c P Z y B ml rt) {a : Addr} {cl : Cell} {j : Int32} {v : Value} (A : Arr Z h a cl .char) (hj : ¬ (j < 0 ∨ cl.slots.size ≤ j.toNatClampNeg)) (hv : cl.slots[j.toNatClampNeg]? = some v) (hd : decode B pc = .ok (.caload, 1)) (K : oWP b p l e R s m args below meth c P Q J h k n (oF m (pc + 1) Ls (v :: S))) : oWP b p l e R s m args below meth c P Q J h k n (oF m pc Ls (.int j :: .ref a :: S)) := K.law C fun _ C T _ _ _ X eT => ⟨T, X, eT, X.caload C.1 (by rw [eT]; exact A.1) (State.isArrayOf_alike C.hZ.alike A.2.1) A.2.2 hj hv (g := oF m pc Ls (.int j :: .ref a :: S)) rfl rfl (hb C.2.1 hd)⟩
theorem K_laload (C : oCx p s m meth c P Z y B ml rt) {a : Addr} {cl : Cell} {j : Int32} {v : Value} (A : Arr Z h a cl .long) (hj : ¬ (j < 0 ∨ cl.slots.size ≤ j.toNatClampNeg)) (hv : cl.slots[j.toNatClampNeg]? = some v) (hd : decode B pc = .ok (.laload, 1)) (K : oWP b p l e R s m args below meth c P Q J h k n (oF m (pc + 1) Ls (v :: S))) : oWP b p l e R s m args below meth c P Q J h k n (oF m pc Ls (.int j :: .ref a :: S)) := K.law C fun _ C T _ _ _ X eT => ⟨T, X, eT, X.laload C.1 (by rw [eT]; exact A.1) (State.isArrayOf_alike C.hZ.alike A.2.1) A.2.2 hj hv (g := oF m pc Ls (.int j :: .ref a :: S)) rfl rfl (hb C.2.1 hd)⟩
theorem K_baload (C : oCx p s m meth c P Z y B ml rt) {a : Addr} {cl : Cell} {j : Int32} {v : Value} (A : Arr Z h a cl .byte) (hj : ¬ (j < 0 ∨ cl.slots.size ≤ j.toNatClampNeg)) (hv : cl.slots[j.toNatClampNeg]? = some v) (hd : decode B pc = .ok (.baload, 1)) (K : oWP b p l e R s m args below meth c P Q J h k n (oF m (pc + 1) Ls (v :: S))) : oWP b p l e R s m args below meth c P Q J h k n (oF m pc Ls (.int j :: .ref a :: S)) := K.law C fun _ C T _ _ _ X eT => ⟨T, X, eT, X.baloadBytes C.1 (by rw [eT]; exact A.1) (State.isArrayOf_alike C.hZ.alike A.2.1) A.2.2 hj hv (g := oF m pc Ls (.int j :: .ref a :: S)) rfl rfl (hb C.2.1 hd)⟩
theorem K_aaload (C : oCx p s m meth c P Z y B ml rt) {a : Addr} {cl : Cell} {ty : FieldType} {j : Int32} {v : Value} (A : Arr Z h a cl ty) (hty : ty.isReference = true) (hj : ¬ (j < 0 ∨ cl.slots.size ≤ j.toNatClampNeg)) (hv : cl.slots[j.toNatClampNeg]? = some v) (hd : decode B pc = .ok (.aaload, 1)) (K : oWP b p l e R s m args below meth c P Q J h k n (oF m (pc + 1) Ls (v :: S))) : oWP b p l e R s m args below meth c P Q J h k n (oF m pc Ls (.int j :: .ref a :: S)) := K.law C fun _ C T _ _ _ X eT => ⟨T, X, eT, X.aaload C.1 (by rw [eT]; exact A.1) (State.isArrayOf_alike C.hZ.alike A.2.1) hty A.2.2 hj hv (g := oF m pc Ls (.int j :: .ref a :: S)) rfl rfl (hb C.2.1 hd)⟩
theorem K_arraylength (C : oCx p s m meth c P Z y B ml rt) {a : Addr} {cl : Cell} {ty : FieldType} (A : Arr Z h a cl ty) (hd : decode B pc = .ok (.arraylength, 1)) (K : oWP b p l e R s m args below meth c P Q J h k n (oF m (pc + 1) Ls (.int cl.slots.size.toInt32 :: S))) : oWP b p l e R s m args below meth c P Q J h k n (oF m pc Ls (.ref a :: S)) := K.law C fun _ C T _ _ _ X eT => ⟨T, X, eT, X.arraylength C.1 (by rw [eT]; exact A.1) (State.isArrayOf_alike C.hZ.alike A.2.1) (g := oF m pc Ls (.ref a :: S)) rfl rfl (hb C.2.1 hd)⟩
theorem K_newarray (C : oCx p s m meth c P Z y B ml rt) {aty : ArrayType} {z : Int32} {cap : Nat} (w : (Jvm.Cond.arrayClass (newarray.typeOf aty)).before a0 Z = true) (hd : decode B pc = .ok (.newarray aty, 2)) (hz : ¬ z < 0) (hcap : z.toNatClampNeg ≤ cap) (hb8 : cap * 8 ≤ 536870912) (hk : k + 1 ≤ R.cells) (hn : n + cap ≤ R.slots)
    (K : ∀ h' a cA, a = h.size → P a → Ext h h' → Arr Z h' a (newA cA (newarray.typeOf aty) z) (newarray.typeOf aty) → oWP b p l e R s m args below meth c P Q J h' (k + 1) (n + cap) (oF m (pc + 2) Ls (.ref a :: S))) : oWP b p l e R s m args below meth c P Q J h k n (oF m pc Ls (.int z :: S)) := fun T hT => by
  have hO := oSd.old C hT
  obtain ⟨vm0, k0, locs, ck, cn, X, eT, N, q1, q2, hS, hk0, hbv, hJ⟩ := hT
  have C' := C.rebase hS
  obtain ⟨T', h', cA, X', e', E, A, st⟩ := newP X C.1 C'.hZ w eT (g := oF m pc Ls (.int z :: S)) rfl (hb C.2.1 hd) rfl hz hcap hb8 (by omega) (by omega)
  obtain ⟨u, o, g1, g2⟩ := K h' h.size cA rfl (C.new _ hO.2.1) E A T' ⟨vm0, k0, locs, _, _, X', e', N, by omega, by omega, hS, Nat.le_trans hk0 E.1, hbv, hJ⟩
  exact ⟨u, o, st u g1, g2⟩
theorem K_iastore (C : oCx p s m meth c P Z y B ml rt) {a : Addr} {cl : Cell} {j : Int32} {x : Int32} (A : Arr Z h a cl .int) (hj : ¬ (j < 0 ∨ cl.slots.size ≤ j.toNatClampNeg)) (hP : P a) (hd : decode B pc = .ok (.iastore, 1)) (K : ∀ h', Wr h h' a j.toNatClampNeg (.int x) → oWP b p l e R s m args below meth c P Q J h' k n (oF m (pc + 1) Ls S)) : oWP b p l e R s m args below meth c P Q J h k n (oF m pc Ls (.int x :: .int j :: .ref a :: S)) := fun T hT => by
  obtain ⟨vm0, k0, locs, ck, cn, X, eT, N, q1, q2, hS, hk0, hbv, hJ⟩ := hT
  have C' := C.rebase hS
  obtain ⟨T', h', X', e', Wr1, st⟩ := stI X C.1 C'.hZ eT A hj (g := oF m pc Ls (.int x :: .int j :: .ref a :: S)) rfl rfl (hb C.2.1 hd)
  obtain ⟨u, o, g1, g2⟩ := K h' Wr1 T' ⟨vm0, k0, _, ck, cn, X', e', N.snoc hP, q1, q2, hS, by rw [Wr1.size]; exact hk0, hbv, hJ⟩
  exact ⟨u, o, st u g1, g2⟩
theorem K_castore (C : oCx p s m meth c P Z y B ml rt) {a : Addr} {cl : Cell} {j : Int32} {x : Int32} (A : Arr Z h a cl .char) (hj : ¬ (j < 0 ∨ cl.slots.size ≤ j.toNatClampNeg)) (hP : P a) (hd : decode B pc = .ok (.castore, 1)) (K : ∀ h', Wr h h' a j.toNatClampNeg (.int (nar .char x)) → oWP b p l e R s m args below meth c P Q J h' k n (oF m (pc + 1) Ls S)) : oWP b p l e R s m args below meth c P Q J h k n (oF m pc Ls (.int x :: .int j :: .ref a :: S)) := fun T hT => by
  obtain ⟨vm0, k0, locs, ck, cn, X, eT, N, q1, q2, hS, hk0, hbv, hJ⟩ := hT
  have C' := C.rebase hS
  obtain ⟨T', h', X', e', Wr1, st⟩ := stC X C.1 C'.hZ eT A hj (g := oF m pc Ls (.int x :: .int j :: .ref a :: S)) rfl rfl (hb C.2.1 hd)
  obtain ⟨u, o, g1, g2⟩ := K h' Wr1 T' ⟨vm0, k0, _, ck, cn, X', e', N.snoc hP, q1, q2, hS, by rw [Wr1.size]; exact hk0, hbv, hJ⟩
  exact ⟨u, o, st u g1, g2⟩
theorem K_bastore (C : oCx p s m meth c P Z y B ml rt) {a : Addr} {cl : Cell} {j : Int32} {x : Int32} (A : Arr Z h a cl .byte) (hj : ¬ (j < 0 ∨ cl.slots.size ≤ j.toNatClampNeg)) (hP : P a) (hd : decode B pc = .ok (.bastore, 1)) (K : ∀ h', Wr h h' a j.toNatClampNeg (.int (nar .byte x)) → oWP b p l e R s m args below meth c P Q J h' k n (oF m (pc + 1) Ls S)) : oWP b p l e R s m args below meth c P Q J h k n (oF m pc Ls (.int x :: .int j :: .ref a :: S)) := fun T hT => by
  obtain ⟨vm0, k0, locs, ck, cn, X, eT, N, q1, q2, hS, hk0, hbv, hJ⟩ := hT
  have C' := C.rebase hS
  obtain ⟨T', h', X', e', Wr1, st⟩ := stB X C.1 C'.hZ eT A hj (g := oF m pc Ls (.int x :: .int j :: .ref a :: S)) rfl rfl (hb C.2.1 hd)
  obtain ⟨u, o, g1, g2⟩ := K h' Wr1 T' ⟨vm0, k0, _, ck, cn, X', e', N.snoc hP, q1, q2, hS, by rw [Wr1.size]; exact hk0, hbv, hJ⟩
  exact ⟨u, o, st u g1, g2⟩
theorem K_zastore (C : oCx p s m meth c P Z y B ml rt) {a : Addr} {cl : Cell} {j : Int32} {x : Int32} (A : Arr Z h a cl .boolean) (hj : ¬ (j < 0 ∨ cl.slots.size ≤ j.toNatClampNeg)) (hP : P a) (hd : decode B pc = .ok (.bastore, 1)) (K : ∀ h', Wr h h' a j.toNatClampNeg (.int (nar .boolean x)) → oWP b p l e R s m args below meth c P Q J h' k n (oF m (pc + 1) Ls S)) : oWP b p l e R s m args below meth c P Q J h k n (oF m pc Ls (.int x :: .int j :: .ref a :: S)) := fun T hT => by
  obtain ⟨vm0, k0, locs, ck, cn, X, eT, N, q1, q2, hS, hk0, hbv, hJ⟩ := hT
  have C' := C.rebase hS
  obtain ⟨T', h', X', e', Wr1, st⟩ := stZ X C.1 C'.hZ eT A hj (g := oF m pc Ls (.int x :: .int j :: .ref a :: S)) rfl rfl (hb C.2.1 hd)
  obtain ⟨u, o, g1, g2⟩ := K h' Wr1 T' ⟨vm0, k0, _, ck, cn, X', e', N.snoc hP, q1, q2, hS, by rw [Wr1.size]; exact hk0, hbv, hJ⟩
  exact ⟨u, o, st u g1, g2⟩
theorem K_lastore (C : oCx p s m meth c P Z y B ml rt) {a : Addr} {cl : Cell} {j : Int32} {x : Int64} (A : Arr Z h a cl .long) (hj : ¬ (j < 0 ∨ cl.slots.size ≤ j.toNatClampNeg)) (hP : P a) (hd : decode B pc = .ok (.lastore, 1)) (K : ∀ h', Wr h h' a j.toNatClampNeg (.long x) → oWP b p l e R s m args below meth c P Q J h' k n (oF m (pc + 1) Ls S)) : oWP b p l e R s m args below meth c P Q J h k n (oF m pc Ls (.long x :: .int j :: .ref a :: S)) := fun T hT => by
  obtain ⟨vm0, k0, locs, ck, cn, X, eT, N, q1, q2, hS, hk0, hbv, hJ⟩ := hT
  have C' := C.rebase hS
  obtain ⟨T', h', X', e', Wr1, st⟩ := stJ X C.1 C'.hZ eT A hj (g := oF m pc Ls (.long x :: .int j :: .ref a :: S)) rfl rfl (hb C.2.1 hd)
  obtain ⟨u, o, g1, g2⟩ := K h' Wr1 T' ⟨vm0, k0, _, ck, cn, X', e', N.snoc hP, q1, q2, hS, by rw [Wr1.size]; exact hk0, hbv, hJ⟩
  exact ⟨u, o, st u g1, g2⟩
end OwnKit
section OwnKit3
theorem oNarB0 : nar .boolean 0 = 0 := by decide
theorem oNarB1 : nar .boolean 1 = 1 := by decide
theorem oEqI {args : Array Value} {s : State} {t : Term} {k : Int32} (h : (Jvm.Cond.eq t (.int k)).value args s none s [] = some true) : t.eval args s none [] s = some (.int k) := by
  obtain ⟨x, y, hx, hy, hk, -⟩ := cmp_v (Or.inl h)
  cases (Term.int_eval k).symm.trans hy
  cases x with
  | int z => simp [Cond.value, hx, Term.int_eval] at h; rw [hx, h]
  | _ => simp [Kin, Value.isRef] at hk
theorem oEqR {args : Array Value} {s : State} {t u : Term} {w : Addr} (h : (Jvm.Cond.eq t u).value args s none s [] = some true) (hu : u.eval args s none [] s = some (.ref w)) : t.eval args s none [] s = some (.ref w) := by
  obtain ⟨x, y, hx, hy, hk, -⟩ := cmp_v (Or.inl h)
  cases hu.symm.trans hy
  cases x with
  | ref z => simp [Cond.value, hx, hu] at h; rw [hx, h]
  | null => simp [Cond.value, hx, hu] at h
  | _ => simp [Kin, Value.isRef] at hk
/-- a mask that is one below a power of two, then a remainder: some small natural -/
theorem oRem (x : Int32) (q : Nat) (hq : 0 < q) (hq2 : q < 2 ^ 31) : ∃ i : Nat, i < q ∧ (x &&& 2147483647) % Int32.ofNat q = Int32.ofNat i := by
  have e1 : (x &&& 2147483647).toInt = x.toInt % 2 ^ 31 := Jvm.Kit.i32_mask x 2147483647 (k := 31) (by decide) (by decide)
  have hb : 0 ≤ (x &&& 2147483647).toInt := by rw [e1]; exact Int.emod_nonneg _ (by decide)
  have e2 : (Int32.ofNat q).toInt = q := Int32.toInt_ofNat_of_lt hq2
  have e3 : ((x &&& 2147483647) % Int32.ofNat q).toInt = (x &&& 2147483647).toInt % q := by
    rw [Int32.toInt_mod, e2, Int.tmod_eq_emod_of_nonneg hb]
  refine ⟨((x &&& 2147483647).toInt % q).toNat, ?_, ?_⟩
  · have := Int.emod_lt_of_pos (x &&& 2147483647).toInt (b := (q : Int)) (by omega)
    have := Int.emod_nonneg (x &&& 2147483647).toInt (b := (q : Int)) (by omega)
    omega
  · apply Int32.toInt_inj.mp
    have h1 := Int.emod_lt_of_pos (x &&& 2147483647).toInt (b := (q : Int)) (by omega)
    have h2 := Int.emod_nonneg (x &&& 2147483647).toInt (b := (q : Int)) (by omega)
    rw [e3, Int32.toInt_ofNat_of_lt (by omega)]
    omega
theorem oAnd3 (x : Int32) : x &&& 3 = 0 ∨ x &&& 3 = 1 ∨ x &&& 3 = 2 ∨ x &&& 3 = 3 := by
  have e1 : (x &&& 3).toInt = x.toInt % 2 ^ 2 := Jvm.Kit.i32_mask x 3 (k := 2) (by decide) (by decide)
  have h1 := Int.emod_lt_of_pos x.toInt (b := 4) (by decide)
  have h2 := Int.emod_nonneg x.toInt (b := 4) (by decide)
  have : x.toInt % 2 ^ 2 = 0 ∨ x.toInt % 2 ^ 2 = 1 ∨ x.toInt % 2 ^ 2 = 2 ∨ x.toInt % 2 ^ 2 = 3 := by omega
  rcases this with q | q | q | q
  · exact Or.inl (Int32.toInt_inj.mp (by rw [e1, q]; rfl))
  · exact Or.inr (Or.inl (Int32.toInt_inj.mp (by rw [e1, q]; rfl)))
  · exact Or.inr (Or.inr (Or.inl (Int32.toInt_inj.mp (by rw [e1, q]; rfl))))
  · exact Or.inr (Or.inr (Or.inr (Int32.toInt_inj.mp (by rw [e1, q]; rfl))))
theorem oExt.tr {h1 h2 h3 : Heap} (a : Ext h1 h2) (b : Ext h2 h3) : Ext h1 h3 := ⟨Nat.le_trans a.1 b.1, fun x c q => b.2 x c (a.2 x c q)⟩
theorem oEqL {args : Array Value} {s : State} {t : Term} {k : Int64} (h : (Jvm.Cond.eq t (.long k)).value args s none s [] = some true) : t.eval args s none [] s = some (.long k) := by
  obtain ⟨x, y, hx, hy, hk, -⟩ := cmp_v (Or.inl h)
  have e : (Term.long k).eval args s none [] s = some (.long k) := rfl
  cases e.symm.trans hy
  cases x with
  | long z => simp [Cond.value, hx, e] at h; rw [hx, h]
  | _ => simp [Kin, Value.isRef] at hk
theorem oLen {args : Array Value} {s : State} {t : Term} {a : Addr} {c : Cell} {ty : FieldType} {z : Int32} (ea : t.eval args s none [] s = some (.ref a)) (A : Arr s s.heap a c ty) (h : (Jvm.Cond.eq (Term.length t) (.int z)).value args s none s [] = some true) : c.slots.size = z.toInt.toNat := by
  have h1 := oEqI h
  have h2 := Arr.fin (State.Warmed39.refl s).alike A
  simp only [Term.eval, ea, h2, Option.bind_eq_bind, Option.bind_some] at h1
  split at h1
  · rename_i hlt
    cases h1
    rw [len_toInt hlt]; simp
  · cases h1
end OwnKit3
section OwnArr
variable {b : Bool} {p : Program} {l : Launch} {e : Env} {R : Room} {s : State} {m : MethodId} {args : Array Value} {below : List Frame} {meth : Method} {c : Code} {P : Addr → Prop} {Q : Option Value → Heap → Vm → Prop} {J : Vm → Prop} {h : Heap} {k n : Nat} {Z : State} {a0 : Array Value} {y : MethodName} {B : ByteArray} {ml : Nat} {rt : Option FieldType}
variable {pc : Nat} {Ls : List Slot} {S : List Value} {h' : Heap} {a : Addr} {ty : FieldType} {vs : List Value} {i : Nat} {j : Int32}
/-- the array at a holds just vs -/
def oArr (Z : State) (h : Heap) (a : Addr) (ty : FieldType) (vs : List Value) : Prop := ∃ c : Cell, Arr Z h a c ty ∧ c.slots = Array.mk vs
theorem oArr.lt (A : oArr Z h a ty vs) : a < h.size := by obtain ⟨c, A, -⟩ := A; exact A.lt
theorem oArr.ext (A : oArr Z h a ty vs) (E : Ext h h') : oArr Z h' a ty vs := by obtain ⟨c, A, e⟩ := A; exact ⟨c, A.ext E, e⟩
theorem oArr.kp (A : oArr Z h a ty vs) (K : oKp P h h') (q : ¬ P a) : oArr Z h' a ty vs := by obtain ⟨c, A, e⟩ := A; exact ⟨c, K.arr A q, e⟩
theorem oArr.other {b : Addr} {sl : Nat} {v : Value} (A : oArr Z h a ty vs) (W : Wr h h' b sl v) (q : a ≠ b) : oArr Z h' a ty vs := by obtain ⟨c, A, e⟩ := A; exact ⟨c, A.other W q, e⟩
theorem oArr.same {v : Value} (A : oArr Z h a ty vs) (W : Wr h h' a i v) : oArr Z h' a ty (vs.set i v) := by
  obtain ⟨c, A, e⟩ := A
  refine ⟨_, A.same W, ?_⟩
  show c.slots.setIfInBounds i v = _
  rw [e]; simp
theorem oArr.new {cA : ClassId} {z : Int32} (A : Arr Z h a (newA cA ty z) ty) : oArr Z h a ty (List.replicate z.toNatClampNeg (defaultValue ty)) := ⟨_, A, by
  apply Array.ext'
  simp [newA]⟩
theorem oArr.eq {vs' : List Value} (A : oArr Z h a ty vs) (q : vs = vs') : oArr Z h a ty vs' := q ▸ A
theorem oIdx {n : Nat} (hj : j.toInt = (i : Int)) (hi : i < n) : ¬ (j < 0 ∨ n ≤ j.toNatClampNeg) ∧ j.toNatClampNeg = i := by
  have e : j.toNatClampNeg = i := by simp only [Int32.toNatClampNeg, hj]; rfl
  refine ⟨fun q => ?_, e⟩
  rcases q with q | q
  · rw [Int32.lt_iff_toInt_lt, hj] at q
    have : (0 : Int32).toInt = 0 := rfl
    omega
  · omega
theorem oAt {v : Value} (hv : vs[i]? = some v) : i < vs.length := (List.getElem?_eq_some_iff.mp hv).1
theorem K_iaload2 (C : oCx p s m meth c P Z y B ml rt) {v : Value} (i : Nat) (A : oArr Z h a .int vs) (hj : j.toInt = (i : Int)) (hv : vs[i]? = some v) (hd : decode B pc = .ok (.iaload, 1)) (K : oWP b p l e R s m args below meth c P Q J h k n (oF m (pc + 1) Ls (v :: S))) : oWP b p l e R s m args below meth c P Q J h k n (oF m pc Ls (.int j :: .ref a :: S)) := by
  obtain ⟨cl, A, e⟩ := A
  have q := oIdx (n := cl.slots.size) hj (by rw [e]; exact oAt hv)
  exact K_iaload C A q.1 (by rw [q.2, e]; simpa using hv) hd K
theorem K_caload2 (C : oCx p s m meth c P Z y B ml rt) {v : Value} (i : Nat) (A : oArr Z h a .char vs) (hj : j.toInt = (i : Int)) (hv : vs[i]? = some v) (hd : decode B pc = .ok (.caload, 1)) (K : oWP b p l e R s m args below meth c P Q J h k n (oF m (pc + 1) Ls (v :: S))) : oWP b p l e R s m args below meth c P Q J h k n (oF m pc Ls (.int j :: .ref a :: S)) := by
  obtain ⟨cl, A, e⟩ := A
  have q := oIdx (n := cl.slots.size) hj (by rw [e]; exact oAt hv)
  exact K_caload C A q.1 (by rw [q.2, e]; simpa using hv) hd K
theorem K_laload2 (C : oCx p s m meth c P Z y B ml rt) {v : Value} (i : Nat) (A : oArr Z h a .long vs) (hj : j.toInt = (i : Int)) (hv : vs[i]? = some v) (hd : decode B pc = .ok (.laload, 1)) (K : oWP b p l e R s m args below meth c P Q J h k n (oF m (pc + 1) Ls (v :: S))) : oWP b p l e R s m args below meth c P Q J h k n (oF m pc Ls (.int j :: .ref a :: S)) := by
  obtain ⟨cl, A, e⟩ := A
  have q := oIdx (n := cl.slots.size) hj (by rw [e]; exact oAt hv)
  exact K_laload C A q.1 (by rw [q.2, e]; simpa using hv) hd K
theorem K_baload2 (C : oCx p s m meth c P Z y B ml rt) {v : Value} (i : Nat) (A : oArr Z h a .byte vs) (hj : j.toInt = (i : Int)) (hv : vs[i]? = some v) (hd : decode B pc = .ok (.baload, 1)) (K : oWP b p l e R s m args below meth c P Q J h k n (oF m (pc + 1) Ls (v :: S))) : oWP b p l e R s m args below meth c P Q J h k n (oF m pc Ls (.int j :: .ref a :: S)) := by
  obtain ⟨cl, A, e⟩ := A
  have q := oIdx (n := cl.slots.size) hj (by rw [e]; exact oAt hv)
  exact K_baload C A q.1 (by rw [q.2, e]; simpa using hv) hd K
theorem K_aaload2 (C : oCx p s m meth c P Z y B ml rt) {v : Value} (i : Nat) (A : oArr Z h a ty vs) (hty : ty.isReference = true) (hj : j.toInt = (i : Int)) (hv : vs[i]? = some v) (hd : decode B pc = .ok (.aaload, 1)) (K : oWP b p l e R s m args below meth c P Q J h k n (oF m (pc + 1) Ls (v :: S))) : oWP b p l e R s m args below meth c P Q J h k n (oF m pc Ls (.int j :: .ref a :: S)) := by
  obtain ⟨cl, A, e⟩ := A
  have q := oIdx (n := cl.slots.size) hj (by rw [e]; exact oAt hv)
  exact K_aaload C A hty q.1 (by rw [q.2, e]; simpa using hv) hd K
theorem K_alen2 (C : oCx p s m meth c P Z y B ml rt) (A : oArr Z h a ty vs) (hd : decode B pc = .ok (.arraylength, 1)) (K : oWP b p l e R s m args below meth c P Q J h k n (oF m (pc + 1) Ls (.int (Int32.ofNat vs.length) :: S))) : oWP b p l e R s m args below meth c P Q J h k n (oF m pc Ls (.ref a :: S)) := by
  obtain ⟨cl, A, e⟩ := A
  refine K_arraylength C A hd ?_
  rw [e]; exact K
theorem K_iastore2 (C : oCx p s m meth c P Z y B ml rt) {x : Int32} (i : Nat) (A : oArr Z h a .int vs) (hj : j.toInt = (i : Int)) (hi : i < vs.length) (hP : P a) (hd : decode B pc = .ok (.iastore, 1)) (K : ∀ h', Wr h h' a i (.int x) → oArr Z h' a .int (vs.set i (.int x)) → oWP b p l e R s m args below meth c P Q J h' k n (oF m (pc + 1) Ls S)) : oWP b p l e R s m args below meth c P Q J h k n (oF m pc Ls (.int x :: .int j :: .ref a :: S)) := by
  obtain ⟨cl, A, e⟩ := A
  have q := oIdx (n := cl.slots.size) hj (by rw [e]; exact hi)
  refine K_iastore C A q.1 hP hd fun h' Wr1 => ?_
  rw [q.2] at Wr1
  exact K h' Wr1 (oArr.same ⟨cl, A, e⟩ Wr1)
theorem K_castore2 (C : oCx p s m meth c P Z y B ml rt) {x : Int32} (i : Nat) (A : oArr Z h a .char vs) (hj : j.toInt = (i : Int)) (hi : i < vs.length) (hP : P a) (hd : decode B pc = .ok (.castore, 1)) (K : ∀ h', Wr h h' a i (.int (nar .char x)) → oArr Z h' a .char (vs.set i (.int (nar .char x))) → oWP b p l e R s m args below meth c P Q J h' k n (oF m (pc + 1) Ls S)) : oWP b p l e R s m args below meth c P Q J h k n (oF m pc Ls (.int x :: .int j :: .ref a :: S)) := by
  obtain ⟨cl, A, e⟩ := A
  have q := oIdx (n := cl.slots.size) hj (by rw [e]; exact hi)
  refine K_castore C A q.1 hP hd fun h' Wr1 => ?_
  rw [q.2] at Wr1
  exact K h' Wr1 (oArr.same ⟨cl, A, e⟩ Wr1)
theorem K_bastore2 (C : oCx p s m meth c P Z y B ml rt) {x : Int32} (i : Nat) (A : oArr Z h a .byte vs) (hj : j.toInt = (i : Int)) (hi : i < vs.length) (hP : P a) (hd : decode B pc = .ok (.bastore, 1)) (K : ∀ h', Wr h h' a i (.int (nar .byte x)) → oArr Z h' a .byte (vs.set i (.int (nar .byte x))) → oWP b p l e R s m args below meth c P Q J h' k n (oF m (pc + 1) Ls S)) : oWP b p l e R s m args below meth c P Q J h k n (oF m pc Ls (.int x :: .int j :: .ref a :: S)) := by
  obtain ⟨cl, A, e⟩ := A
  have q := oIdx (n := cl.slots.size) hj (by rw [e]; exact hi)
  refine K_bastore C A q.1 hP hd fun h' Wr1 => ?_
  rw [q.2] at Wr1
  exact K h' Wr1 (oArr.same ⟨cl, A, e⟩ Wr1)
theorem K_zastore2 (C : oCx p s m meth c P Z y B ml rt) {x : Int32} (i : Nat) (A : oArr Z h a .boolean vs) (hj : j.toInt = (i : Int)) (hi : i < vs.length) (hP : P a) (hd : decode B pc = .ok (.bastore, 1)) (K : ∀ h', Wr h h' a i (.int (nar .boolean x)) → oArr Z h' a .boolean (vs.set i (.int (nar .boolean x))) → oWP b p l e R s m args below meth c P Q J h' k n (oF m (pc + 1) Ls S)) : oWP b p l e R s m args below meth c P Q J h k n (oF m pc Ls (.int x :: .int j :: .ref a :: S)) := by
  obtain ⟨cl, A, e⟩ := A
  have q := oIdx (n := cl.slots.size) hj (by rw [e]; exact hi)
  refine K_zastore C A q.1 hP hd fun h' Wr1 => ?_
  rw [q.2] at Wr1
  exact K h' Wr1 (oArr.same ⟨cl, A, e⟩ Wr1)
theorem K_lastore2 (C : oCx p s m meth c P Z y B ml rt) {x : Int64} (i : Nat) (A : oArr Z h a .long vs) (hj : j.toInt = (i : Int)) (hi : i < vs.length) (hP : P a) (hd : decode B pc = .ok (.lastore, 1)) (K : ∀ h', Wr h h' a i (.long x) → oArr Z h' a .long (vs.set i (.long x)) → oWP b p l e R s m args below meth c P Q J h' k n (oF m (pc + 1) Ls S)) : oWP b p l e R s m args below meth c P Q J h k n (oF m pc Ls (.long x :: .int j :: .ref a :: S)) := by
  obtain ⟨cl, A, e⟩ := A
  have q := oIdx (n := cl.slots.size) hj (by rw [e]; exact hi)
  refine K_lastore C A q.1 hP hd fun h' Wr1 => ?_
  rw [q.2] at Wr1
  exact K h' Wr1 (oArr.same ⟨cl, A, e⟩ Wr1)
theorem K_newarray2 (C : oCx p s m meth c P Z y B ml rt) {aty : ArrayType} {z : Int32} (len cap : Nat) (w : (Jvm.Cond.arrayClass (newarray.typeOf aty)).before a0 Z = true) (hd : decode B pc = .ok (.newarray aty, 2)) (hz : z.toInt = (len : Int)) (hcap : len ≤ cap) (hb8 : cap * 8 ≤ 536870912) (hk : k + 1 ≤ R.cells) (hn : n + cap ≤ R.slots)
    (K : ∀ h' a, a = h.size → P a → Ext h h' → oArr Z h' a (newarray.typeOf aty) (List.replicate len (defaultValue (newarray.typeOf aty))) → oWP b p l e R s m args below meth c P Q J h' (k + 1) (n + cap) (oF m (pc + 2) Ls (.ref a :: S))) : oWP b p l e R s m args below meth c P Q J h k n (oF m pc Ls (.int z :: S)) := by
  have e : z.toNatClampNeg = len := by simp only [Int32.toNatClampNeg, hz]; rfl
  refine K_newarray C (cap := cap) w hd (fun q => ?_) (e ▸ hcap) hb8 hk hn fun h' a cA ha hPa E A => K h' a ha hPa E ?_
  · rw [Int32.lt_iff_toInt_lt, hz] at q
    have : (0 : Int32).toInt = 0 := rfl
    omega
  · have := oArr.new A
    rwa [e] at this
end OwnArr
section OwnStr
theorem oOf (i : Nat) (h : i < 2 ^ 31) : (Int32.ofNat i).toInt = i := Int32.toInt_ofNat_of_lt h
theorem oOfLt {i n : Nat} (hi : i < 2 ^ 31) (hn : n < 2 ^ 31) : (Int32.ofNat i < Int32.ofNat n) ↔ i < n := by
  rw [Int32.lt_iff_toInt_lt, oOf i hi, oOf n hn]; omega
theorem oOfEq {i n : Nat} (hi : i < 2 ^ 31) (hn : n < 2 ^ 31) : (Int32.ofNat i = Int32.ofNat n) ↔ i = n := by
  constructor
  · intro q
    have := congrArg Int32.toInt q
    rw [oOf i hi, oOf n hn] at this; omega
  · intro q; rw [q]
theorem oOfS (i : Nat) : Int32.ofNat i + 1 = Int32.ofNat (i + 1) := (Int32.ofNat_add i 1).symm
/-- a char's number -/
def oChr (u : Int32) : Prop := 0 ≤ u.toInt ∧ u.toInt < 65536
def oSmall (u : Int32) : Prop := ¬ (255 : Int32) < u
def oLob (u : Int32) : Int32 := u.toInt8.toInt32
def oHib (u : Int32) : Int32 := (u >>> ((8 : Int32) &&& 31)).toInt8.toInt32
theorem oNarLob (u : Int32) : nar .byte (u.toInt8.toInt32) = u.toInt8.toInt32 := by simp [nar]
abbrev oLv (u : Int32) : Value := .int (oLob u)
abbrev oLH (u : Int32) : List Value := [.int (oLob u), .int (oHib u)]
theorem oSetL {α β : Type} {us : List α} {f : α → β} {d : β} {i : Nat} {u : α} (hu : us[i]? = some u) : ((us.take i).map f ++ List.replicate (us.length - i) d).set i (f u) = (us.take (i + 1)).map f ++ List.replicate (us.length - (i + 1)) d := by
  obtain ⟨hi, e⟩ := List.getElem?_eq_some_iff.mp hu
  have e1 : us.length - i = (us.length - (i + 1)) + 1 := by omega
  have e2 : ((us.take i).map f).length = i := by simp; omega
  rw [List.set_append_right _ _ (by omega), e2, Nat.sub_self, e1, List.replicate_succ, List.set_cons_zero, List.take_add_one, hu]
  simp
/-- how a String's chars lie in its bytes -/
def oEnc (us : List Int32) (cd : Int32) (bs : List Value) : Prop :=
  (cd = 0 ∧ (∀ u ∈ us, oSmall u) ∧ bs = us.map oLv) ∨ (cd = 1 ∧ (∃ u ∈ us, ¬ oSmall u) ∧ bs = us.flatMap oLH)
/-- the object at a is a String of the chars us -/
def oStr (Z : State) (h : Heap) (a : Addr) (us : List Int32) : Prop :=
  Exa Z h a "java/lang/String" ∧ (∀ u ∈ us, oChr u) ∧ ∃ (b : Addr) (cd : Int32) (bs : List Value), Fld Z h a "java/lang/String" "value" "[B" (.ref b) ∧ Fld Z h a "java/lang/String" "coder" "B" (.int cd) ∧ oArr Z h b .byte bs ∧ oEnc us cd bs
theorem oStr.ext {Z : State} {h h' : Heap} {a : Addr} {us : List Int32} (F : oStr Z h a us) (E : Ext h h') : oStr Z h' a us := by
  obtain ⟨X, c, b, cd, bs, f1, f2, A, e⟩ := F
  exact ⟨X.ext E, c, b, cd, bs, f1.ext E, f2.ext E, A.ext E, e⟩
/-- null or a String of the chars us -/
def oOStr (Z : State) (h : Heap) (v : Value) (us : List Int32) : Prop := v = .null ∨ ∃ a, v = .ref a ∧ oStr Z h a us
theorem oOStr.ext {Z : State} {h h' : Heap} {v : Value} {us : List Int32} (F : oOStr Z h v us) (E : Ext h h') : oOStr Z h' v us := F.imp id fun ⟨a, e, q⟩ => ⟨a, e, q.ext E⟩
theorem oOStr.ref {Z : State} {h : Heap} {v : Value} {us : List Int32} (F : oOStr Z h v us) : v.isRef = true := by
  rcases F with rfl | ⟨a, rfl, -⟩ <;> rfl
theorem oFitR {v : Value} {n : String} (hv : v.isRef = true) : fits (.object n) v = true := by rcases ref_cases hv with rfl | ⟨_, rfl⟩ <;> rfl
theorem oNarR {v : Value} {n : String} : narrow (.object n) v = v := by cases v <;> rfl
theorem oOne {v : Value} (hv : v.isRef = true) : Slot.val v = .unset ∨ ∃ w, Slot.val v = .val w ∧ w.category = 1 := XT.slot1 hv
/-- equal bytes: equal chars -/
theorem oLobInj {u w : Int32} (hu : oChr u) (hw : oChr w) (su : oSmall u) (sw : oSmall w) (e : oLob u = oLob w) : u = w := by
  have e1 : (oLob u).toInt = (oLob w).toInt := by rw [e]
  simp only [oLob, Int8.toInt_toInt32, Int32.toInt_toInt8] at e1
  have a1 : ¬ (255 : Int) < u.toInt := fun q => su (by rw [Int32.lt_iff_toInt_lt]; exact q)
  have a2 : ¬ (255 : Int) < w.toInt := fun q => sw (by rw [Int32.lt_iff_toInt_lt]; exact q)
  apply Int32.toInt_inj.mp
  obtain ⟨h1, h2⟩ := hu
  obtain ⟨h3, h4⟩ := hw
  rw [Int.bmod_def, Int.bmod_def] at e1
  omega
theorem oSmallI {u : Int32} (h : u.toInt ≤ 255) : oSmall u := fun q => by
  rw [Int32.lt_iff_toInt_lt] at q
  have : (255 : Int32).toInt = 255 := rfl
  omega
/-- the low byte of an int, as a char -/
theorem oMask (x : Int32) : oChr (x &&& 255) ∧ oSmall (x &&& 255) ∧ (x &&& 255).toUInt32.toUInt16.toUInt32.toInt32 = x &&& 255 := by
  have e1 : (x &&& 255).toInt = x.toInt % 2 ^ 8 := Jvm.Kit.i32_mask x 255 (k := 8) (by decide) (by decide)
  have h1 := Int.emod_lt_of_pos x.toInt (b := 256) (by decide)
  have h2 := Int.emod_nonneg x.toInt (b := 256) (by decide)
  exact ⟨⟨by omega, by omega⟩, oSmallI (by omega), i2c_mask x⟩
theorem oNarC {u : Int32} (h : u.toUInt32.toUInt16.toUInt32.toInt32 = u) : nar .char u = u := h
end OwnStr
section OwnStr2
theorem oLobMap {us ws : List Int32} (hu : ∀ u ∈ us, oChr u) (hw : ∀ u ∈ ws, oChr u) (su : ∀ u ∈ us, oSmall u) (sw : ∀ u ∈ ws, oSmall u) : us.map oLob = ws.map oLob ↔ us = ws := by
  refine ⟨fun q => ?_, fun q => by rw [q]⟩
  induction us generalizing ws with
  | nil => cases ws with
    | nil => rfl
    | cons w t => simp at q
  | cons u t ih => cases ws with
    | nil => simp at q
    | cons w t' =>
      simp only [List.map_cons, List.cons.injEq] at q
      rw [oLobInj (hu u (by simp)) (hw w (by simp)) (su u (by simp)) (sw w (by simp)) q.1, ih (fun x hx => hu x (by simp [hx])) (fun x hx => hw x (by simp [hx])) (fun x hx => su x (by simp [hx])) (fun x hx => sw x (by simp [hx])) q.2]
theorem oStr.inj {Z : State} {h : Heap} {a : Addr} {us ws : List Int32} (F : oStr Z h a us) (G : oStr Z h a ws) (su : ∀ u ∈ us, oSmall u) (sw : ∀ u ∈ ws, oSmall u) : us = ws := by
  obtain ⟨-, hu, b1, c1, l1, V1, -, A1, e1⟩ := F
  obtain ⟨-, hw, b2, c2, l2, V2, -, A2, e2⟩ := G
  obtain ⟨-, -, rfl⟩ := e1.resolve_right (fun q => by obtain ⟨u, q1, q2⟩ := q.2.1; exact q2 (su u q1))
  obtain ⟨-, -, rfl⟩ := e2.resolve_right (fun q => by obtain ⟨u, q1, q2⟩ := q.2.1; exact q2 (sw u q1))
  have e : b1 = b2 := by
    obtain ⟨k1, _, _, _, _, p1, p2, -, -, -, -, p7⟩ := V1
    obtain ⟨k2, _, _, _, _, r1, r2, -, -, -, -, r7⟩ := V2
    cases p1.symm.trans r1; cases p2.symm.trans r2
    exact Value.ref.inj (Option.some.inj (p7.symm.trans r7))
  subst e
  obtain ⟨k1, ⟨p1, -⟩, p2⟩ := A1
  obtain ⟨k2, ⟨r1, -⟩, r2⟩ := A2
  cases p1.symm.trans r1
  have e3 := congrArg Array.toList (p2.symm.trans r2)
  have e4 : us.map oLob = ws.map oLob := by
    have e5 : (us.map oLob).map Value.int = (ws.map oLob).map Value.int := by rw [List.map_map, List.map_map]; exact e3
    exact (List.map_inj_right (fun x y q => Value.int.inj q)).mp e5
  exact (oLobMap hu hw su sw).mp e4
theorem oNC (x : Int32) : nar .char ((x &&& 255).toUInt32.toUInt16.toUInt32.toInt32) = x &&& 255 := by
  rw [(oMask x).2.2]; exact (oMask x).2.2
end OwnStr2
section OwnD
variable {b : Bool} {p : Program} {l : Launch} {e : Env} {R : Room} {s : State} {m : MethodId} {args : Array Value} {below : List Frame} {meth : Method} {c : Code} {P : Addr → Prop} {Q : Option Value → Heap → Vm → Prop} {J : Vm → Prop} {h : Heap} {k n : Nat} {Z : State} {a0 : Array Value} {y : MethodName} {B : ByteArray} {ml : Nat} {rt : Option FieldType}
variable {pc : Nat} {Ls : List Slot} {S : List Value} {h' : Heap} {a : Addr} {ty : FieldType} {vs : List Value} {i : Nat} {j : Int32}
theorem K_dloadN (C : oCx p s m meth c P Z y B ml rt) {i : Fin 4} {v : UInt64} (hd : decode B pc = .ok (.dload_n i, 1)) (hl : (Array.mk Ls)[i.val]? = some (.val (.double v))) (K : oWP b p l e R s m args below meth c P Q J h k n (oF m (pc + 1) Ls (.double v :: S))) : oWP b p l e R s m args below meth c P Q J h k n (oF m pc Ls S) := K.step fun _ A _ => XS.dloadN A C.1 rfl (hb C.2.1 hd) hl
theorem K_dload (C : oCx p s m meth c P Z y B ml rt) {i : Nat} {v : UInt64} (hd : decode B pc = .ok (.dload i, 2)) (hl : (Array.mk Ls)[i]? = some (.val (.double v))) (K : oWP b p l e R s m args below meth c P Q J h k n (oF m (pc + 2) Ls (.double v :: S))) : oWP b p l e R s m args below meth c P Q J h k n (oF m pc Ls S) := K.step fun _ A _ => XS.dload A C.1 rfl (hb C.2.1 hd) hl
theorem K_dstoreN (C : oCx p s m meth c P Z y B ml rt) {i : Fin 4} {v : UInt64} {Ls' : List Slot} (hd : decode B pc = .ok (.dstore_n i, 1)) (hl : storeLocals (Array.mk Ls) i.val (.double v) = some (Array.mk Ls')) (K : oWP b p l e R s m args below meth c P Q J h k n (oF m (pc + 1) Ls' S)) : oWP b p l e R s m args below meth c P Q J h k n (oF m pc Ls (.double v :: S)) := K.step fun _ A _ => XS.dstoreN A C.1 rfl (hb C.2.1 hd) rfl hl
theorem K_dstore (C : oCx p s m meth c P Z y B ml rt) {i : Nat} {v : UInt64} {Ls' : List Slot} (hd : decode B pc = .ok (.dstore i, 2)) (hl : storeLocals (Array.mk Ls) i (.double v) = some (Array.mk Ls')) (K : oWP b p l e R s m args below meth c P Q J h k n (oF m (pc + 2) Ls' S)) : oWP b p l e R s m args below meth c P Q J h k n (oF m pc Ls (.double v :: S)) := K.step fun _ A _ => XS.dstore A C.1 rfl (hb C.2.1 hd) rfl hl
/-- i2d: some double -/
theorem K_i2d (C : oCx p s m meth c P Z y B ml rt) {x : Int32} (hd : decode B pc = .ok (.i2d, 1)) (K : ∀ v : UInt64, oWP b p l e R s m args below meth c P Q J h k n (oF m (pc + 1) Ls (.double v :: S))) : oWP b p l e R s m args below meth c P Q J h k n (oF m pc Ls (.int x :: S)) := (K _).step fun _ A _ => XS.i2dS A C.1 rfl (hb C.2.1 hd) rfl rfl
/-- dcmpg, dcmpl: some int -/
theorem K_dcmp (C : oCx p s m meth c P Z y B ml rt) {o : CmpOp} {x w : UInt64} (hd : decode B pc = .ok (.dcmp o, 1)) (K : ∀ v : Int32, oWP b p l e R s m args below meth c P Q J h k n (oF m (pc + 1) Ls (.int v :: S))) : oWP b p l e R s m args below meth c P Q J h k n (oF m pc Ls (.double w :: .double x :: S)) := (K _).step fun _ A _ => XS.dcmpS A C.1 rfl (hb C.2.1 hd) rfl rfl
theorem K_daload (C : oCx p s m meth c P Z y B ml rt) {a : Addr} {cl : Cell} {j : Int32} {v : Value} (A : Arr Z h a cl .double) (hj : ¬ (j < 0 ∨ cl.slots.size ≤ j.toNatClampNeg)) (hv : cl.slots[j.toNatClampNeg]? = some v) (hd : decode B pc = .ok (.daload, 1)) (K : oWP b p l e R s m args below meth c P Q J h k n (oF m (pc + 1) Ls (v :: S))) : oWP b p l e R s m args below meth c P Q J h k n (oF m pc Ls (.int j :: .ref a :: S)) := K.law C fun _ C T _ _ _ X eT => ⟨T, X, eT, X.daload C.1 (by rw [eT]; exact A.1) (State.isArrayOf_alike C.hZ.alike A.2.1) A.2.2 hj hv (g := oF m pc Ls (.int j :: .ref a :: S)) rfl rfl (hb C.2.1 hd)⟩
theorem K_daload2 (C : oCx p s m meth c P Z y B ml rt) {v : Value} (i : Nat) (A : oArr Z h a .double vs) (hj : j.toInt = (i : Int)) (hv : vs[i]? = some v) (hd : decode B pc = .ok (.daload, 1)) (K : oWP b p l e R s m args below meth c P Q J h k n (oF m (pc + 1) Ls (v :: S))) : oWP b p l e R s m args below meth c P Q J h k n (oF m pc Ls (.int j :: .ref a :: S)) := by
  obtain ⟨cl, A, e⟩ := A
  have q := oIdx (n := cl.slots.size) hj (by rw [e]; exact oAt hv)
  exact K_daload C A q.1 (by rw [q.2, e]; simpa using hv) hd K
theorem K_dastore (C : oCx p s m meth c P Z y B ml rt) {a : Addr} {cl : Cell} {j : Int32} {x : UInt64} (A : Arr Z h a cl .double) (hj : ¬ (j < 0 ∨ cl.slots.size ≤ j.toNatClampNeg)) (hP : P a) (hd : decode B pc = .ok (.dastore, 1)) (K : ∀ h', Wr h h' a j.toNatClampNeg (.double x) → oWP b p l e R s m args below meth c P Q J h' k n (oF m (pc + 1) Ls S)) : oWP b p l e R s m args below meth c P Q J h k n (oF m pc Ls (.double x :: .int j :: .ref a :: S)) := fun T hT => by
  obtain ⟨vm0, k0, locs, ck, cn, X, eT, N, q1, q2, hS, hk0, hbv, hJ⟩ := hT
  have C' := C.rebase hS
  obtain ⟨T', h', X', e', Wr1, st⟩ := stD X C.1 C'.hZ eT A hj (g := oF m pc Ls (.double x :: .int j :: .ref a :: S)) rfl rfl (hb C.2.1 hd)
  obtain ⟨u, o, g1, g2⟩ := K h' Wr1 T' ⟨vm0, k0, _, ck, cn, X', e', N.snoc hP, q1, q2, hS, by rw [Wr1.size]; exact hk0, hbv, hJ⟩
  exact ⟨u, o, st u g1, g2⟩
theorem K_dastore2 (C : oCx p s m meth c P Z y B ml rt) {x : UInt64} (i : Nat) (A : oArr Z h a .double vs) (hj : j.toInt = (i : Int)) (hi : i < vs.length) (hP : P a) (hd : decode B pc = .ok (.dastore, 1)) (K : ∀ h', Wr h h' a i (.double x) → oArr Z h' a .double (vs.set i (.double x)) → oWP b p l e R s m args below meth c P Q J h' k n (oF m (pc + 1) Ls S)) : oWP b p l e R s m args below meth c P Q J h k n (oF m pc Ls (.double x :: .int j :: .ref a :: S)) := by
  obtain ⟨cl, A, e⟩ := A
  have q := oIdx (n := cl.slots.size) hj (by rw [e]; exact hi)
  refine K_dastore C A q.1 hP hd fun h' Wr1 => ?_
  rw [q.2] at Wr1
  exact K h' Wr1 (oArr.same ⟨cl, A, e⟩ Wr1)
/-- a private method is its own choice -/
theorem oSelP {s : State} {args : Array Value} {C1 : String} {z z1 : MethodName} (ws : (Jvm.Cond.selects C1 z1 z1).before args s = true) (e : z1.cls = z.cls) (hp : s.PrivateAt z) (hi : (Jvm.Cond.instanceMethod z).before args s = true) (hy : z.cls ≠ "java/lang/invoke/MethodHandle" ∧ z.cls ≠ "java/lang/invoke/VarHandle") : (Jvm.Cond.selects z.cls z z).before args s = true := by
  obtain ⟨c2, r2, m2, q1, q2, q3, q4, kP, hkP, hkPi⟩ := Cond.selects_spec ws
  exact selects_self_of_private (by rw [← e]; exact findClass_of_methodNamed q3) hkP hkPi hp hi hy
/-- the class of z is no interface -/
def oSelf (Z : State) (z : MethodName) : Prop := ∀ (s : State) (args : Array Value), s.PrivateAt z → (Jvm.Cond.instanceMethod z).before args s = true → Z.Warmed39 s.vm → (z.cls ≠ "java/lang/invoke/MethodHandle" ∧ z.cls ≠ "java/lang/invoke/VarHandle") → (Jvm.Cond.selects z.cls z z).before args s = true
theorem oSelf.of {C1 : String} {z z1 : MethodName} (ws : (Jvm.Cond.selects C1 z1 z1).before a0 Z = true) (e : z1.cls = z.cls) : oSelf Z z := fun s args hp hi hZ hy => oSelP (mvT hZ ws) e hp hi hy
theorem oSelf.inst {z : MethodName} {kk : Nat} (wi : (Jvm.Cond.instantiable z.cls kk).before a0 Z = true) : oSelf Z z := fun s args hp hi hZ hy => by
  obtain ⟨c, k, hc, hk, -, hf, -⟩ := Cond.instantiable_spec (show (Jvm.Cond.instantiable z.cls kk).before args s = true from mvT hZ wi)
  simp only [Bool.or_eq_false_iff] at hf
  exact selects_self_of_private hc hk hf.1 hp hi hy
theorem K_private (C : oCx p s m meth c P Z y B ml rt) {idx : Nat} {z : MethodName} {B' : ByteArray} {ml' : Nat} {rt' : Option FieldType} {rm : Room} {as' : Array Value} {P' : Addr → Prop} {Q' : Option Value → Heap → Prop} {argsL rest : List Value} {ps : List FieldType} {rr : Option FieldType} (M : oMeets l Z z B' ml' rt' rm as' h P' Q') {a : Addr} {Cn : String} (E : Exa Z h a Cn) (w1 : (Jvm.Cond.methodLink y.cls idx z).before a0 Z = true) (hse : oSelf Z z) (wp : (Jvm.Cond.privateMethod z).before a0 Z = true) (w2 : (Jvm.Cond.instanceMethod z).before a0 Z = true) (w3 : (Jvm.Cond.initialized z.cls).before a0 Z = true) (w4 : (Jvm.Cond.code z B' ml' rt').before a0 Z = true) (hy : z.cls ≠ "java/lang/invoke/MethodHandle" ∧ z.cls ≠ "java/lang/invoke/VarHandle") (hpd : parseMethodDescriptor z.desc = some ⟨ps, rr⟩) (hd : decode B pc = .ok (.invokevirtual idx, 3)) (hS : S = argsL.reverse ++ .ref a :: rest) (hlen : argsL.length = ps.length) (ha : (.ref a :: argsL).toArray = as') (hml : Ls.length = ml) (hP : ∀ a, s.heap.size ≤ h.size → P' a → P a) (hf : rm.frames + 1 ≤ R.frames) (hl : (rest.map fun v => v.category).sum + (ml' + 11) + rm.locals ≤ R.locals) (hk : k + rm.cells ≤ R.cells) (hn : n + rm.slots ≤ R.slots)
    (K : ∀ v h', Q' v h' → oKp P' h h' → oWP b p l e R s m args below meth c P Q J h' (k + rm.cells) (n + rm.slots) (oF m (pc + 3) Ls (v.toList ++ rest))) : oWP b p l e R s m args below meth c P Q J h k n (oF m pc Ls S) := fun T hT => by
  obtain ⟨hE, hle, -⟩ := oSd.old C hT
  obtain ⟨vm0, k0, locs, ck, cn, X, eT, N, q1, q2, hSi, hk0, hbv, hJ⟩ := hT
  subst hS
  have C' := C.rebase hSi
  obtain ⟨cq, qa, qc⟩ := E.cell
  obtain ⟨v, vm₁, ⟨T', L', k', n'⟩, -, X', ⟨Lc, ⟨hQ, hN, hK⟩, e1, e2, e3⟩, st⟩ := X.privateBack C.1 (y := z) C'.own (mvT C'.hZ w1) (mvT C'.hZ w2) (hse _ _ (Cond.privateMethod_at (mvP C'.hZ wp (args := #[]))) (mvT C'.hZ w2) C'.hZ hy) (Cond.privateMethod_at (mvP C'.hZ wp (args := #[]))) (mvT C'.hZ w4) hy (backOf (W := (rest.map fun v => v.category).sum) (Q := fun v h' L => Q' v h' ∧ oAl P' L ∧ oKp P' h h') (M hE []) C'.hZ w4 w3 hf hl) (g := oF m pc Ls (argsL.reverse ++ .ref a :: rest)) rfl (by rw [C.hml]; exact hml) (Steps.refl _) (a := a) (by rw [eT]; exact qa) qc (argsL := argsL) (rest := rest) (lenOf hpd hlen) rfl (by show 2 * 0 + _ ≤ _; exact Nat.le_of_eq (Nat.zero_add _)) (hb C.2.1 hd) (fun vm₁ hw₁ => ⟨ha, eT, by show ck + _ ≤ _; omega, by show cn + _ ≤ _; omega⟩)
  dsimp only [Pt.U, Pt.locs, Pt.cells, Pt.slots] at X' e1 e2 e3 st hQ hK
  subst e1 e2 e3
  obtain ⟨u, o, g1, g2⟩ := K v T'.heap hQ hK T' ⟨vm0, k0, _, _, _, X', rfl, N.app fun q hq => hP _ hle (hN q hq), by omega, by omega, hSi, Nat.le_trans hk0 hK.1, hbv, hJ⟩
  exact ⟨u, o, st.trans g1, g2⟩
/-- System.arraycopy(src, 0, dst, 0, n) of ints -/
theorem K_arraycopyI (C : oCx p s m meth c P Z y B ml rt) {idx : Nat} {src dst : Addr} {xs ds : List Int32} {z : Int32} (len : Nat) (A : oArr Z h src .int (xs.map Value.int)) (D : oArr Z h dst .int (ds.map Value.int)) (hz : z.toInt = (len : Int)) (h1 : len ≤ xs.length) (h2 : len ≤ ds.length) (hP : P dst) (w1 : (Jvm.Cond.methodLink y.cls idx Jvm.Stand.acN).before a0 Z = true) (w2 : (Jvm.Cond.native Jvm.Stand.acN).before a0 Z = true) (w3 : (Jvm.Cond.static Jvm.Stand.acN).before a0 Z = true) (w4 : (Jvm.Cond.initialized "java/lang/System").before a0 Z = true) (hd : decode B pc = .ok (.invokestatic idx, 3)) (hml : Ls.length = ml) (hf : 1 ≤ R.frames) (hl : (S.map fun v => v.category).sum + (nativeFrameWords "java/lang/System" "arraycopy" 5 + 11) ≤ R.locals)
    (K : ∀ h', h'.size = h.size → (∀ x, x ≠ dst → h'[x]? = h[x]?) → oArr Z h' dst .int ((xs.take len ++ ds.drop len).map Value.int) → oWP b p l e R s m args below meth c P Q J h' k n (oF m (pc + 3) Ls S)) : oWP b p l e R s m args below meth c P Q J h k n (oF m pc Ls (.int z :: .int 0 :: .ref dst :: .int 0 :: .ref src :: S)) := fun T hT => by
  obtain ⟨vm0, k0, locs, ck, cn, X, eT, N, q1, q2, hSi, hk0, hbv, hJ⟩ := hT
  have C' := C.rebase hSi
  obtain ⟨ca, ⟨a1, a2, a3⟩, ea⟩ := A
  obtain ⟨cd, ⟨d1, d2, d3⟩, ed⟩ := D
  obtain ⟨as1, ks, hks, sC, hsk⟩ := State.isArrayOf_alike C'.hZ.alike a2
  obtain ⟨ds1, kd, hkd, dC, hdk⟩ := State.isArrayOf_alike C'.hZ.alike d2
  have ez : z.toNatClampNeg = len := by simp only [Int32.toNatClampNeg, hz]; rfl
  have la : ca.slots.size = xs.length := by rw [ea]; simp
  have ld : cd.slots.size = ds.length := by rw [ed]; simp
  have e0 : (0 : Int32).toInt = 0 := rfl
  have ec : (0 : Int32).toNatClampNeg = 0 := rfl
  have gv : ∀ i, i < len → ∃ x, xs[i]? = some x ∧ ca.slots.getD i .null = .int x := fun i hi => by
    have hx : xs[i]? = some (xs[i]'(by omega)) := List.getElem?_eq_getElem _
    refine ⟨_, hx, ?_⟩
    rw [ea]
    simp only [Array.getD_eq_getD_getElem?, List.getElem?_toArray, List.getElem?_map, hx]
    rfl
  obtain ⟨vm₁, hW, X', st⟩ := X.arraycopyK C.1 C'.own (mvT C'.hZ w1) (mvT C'.hZ w2) (mvT C'.hZ w3) (mvT C'.hZ w4) (src := src) (dst := dst) (srcPos := 0) (destPos := 0) (n := z) (by rw [eT]; exact a1) (by rw [eT]; exact d1) as1 ds1 a3 d3 hks hkd hsk hdk (by decide) (by decide) (by decide) (fun q => by rw [Int32.lt_iff_toInt_lt, e0, hz] at q; omega) (by rw [e0, hz, la]; omega) (by rw [e0, hz, ld]; omega) (fun vm' _ i hi => by
    rw [ez] at hi
    rw [ec, Nat.zero_add]
    obtain ⟨x, -, e⟩ := gv i hi
    rw [e]
    exact ⟨rfl, trivial⟩) (g := oF m pc Ls (.int z :: .int 0 :: .ref dst :: .int 0 :: .ref src :: S)) rfl (by rw [C.hml]; exact hml) rfl (hb C.2.1 hd) hf (by show 2 * 0 + _ + _ ≤ _; omega)
  have hF := Cell.storeRun_facts cd (0 : Int32).toNatClampNeg (ca.stretch (0 : Int32).toNatClampNeg z.toNatClampNeg)
  have hS : (copied ca cd 0 0 z).slots = Array.mk ((xs.take len ++ ds.drop len).map Value.int) := by
    apply Array.ext_getElem?
    intro i
    show (cd.storePairs (0 : Int32).toNatClampNeg ((ca.stretch (0 : Int32).toNatClampNeg z.toNatClampNeg).zipIdx 0)).slots[i]? = _
    rw [Cell.storePairs_get cd _ _ 0 i (by rw [Cell.stretch_length, ec, ez, ld]; omega), Cell.stretch_length, ec, ez]
    simp only [Nat.zero_add, Nat.zero_le, true_and, Nat.sub_zero, List.getElem?_toArray, List.getElem?_map]
    split
    · rename_i hi
      obtain ⟨x, e1, e2⟩ := gv i hi
      rw [List.getElem?_append_left (by rw [List.length_take]; omega), List.getElem?_take_of_lt hi, e1]
      simp only [Cell.stretch, List.getElem?_map, List.getElem?_range hi, Option.map_some, Nat.zero_add, e2]
    · rename_i hi
      have lt : (xs.take len).length = len := by rw [List.length_take]; omega
      rw [ed, List.getElem?_append_right (by omega), lt, List.getElem?_drop, show len + (i - len) = i by omega]
      simp
  have hdl : dst < h.size := (Array.getElem?_eq_some_iff.mp d1).1
  have eH : (((T.setVm vm₁).setCell dst (copied ca cd 0 0 z))).heap = h.setIfInBounds dst (copied ca cd 0 0 z) := by rw [← eT]; rfl
  obtain ⟨u, o, g1, g2⟩ := K (h.setIfInBounds dst (copied ca cd 0 0 z)) (by rw [Array.size_setIfInBounds]) (fun x hx => Array.getElem?_setIfInBounds_ne (Ne.symm hx)) ⟨copied ca cd 0 0 z, ⟨by rw [Array.getElem?_setIfInBounds_self_of_lt hdl], ⟨by rw [show (copied ca cd 0 0 z).vm = cd.vm from hF.2.1]; exact d2.1, by rw [show (copied ca cd 0 0 z).cls = cd.cls from hF.1]; exact d2.2⟩, by rw [show (copied ca cd 0 0 z).vm = cd.vm from hF.2.1]; exact d3⟩, hS⟩ _ ⟨vm0, k0, _, ck, cn, X', eH, N.app fun q hq => by rw [Jvm.Stand.copyLocs_base hq]; exact hP, q1, q2, hSi, by rw [Array.size_setIfInBounds]; exact hk0, hbv, hJ⟩
  exact ⟨u, o, st u g1, g2⟩
end OwnD
section OwnQL
/-- the place of a slot -/
abbrev own_n (s : Int32) : Nat := s.toInt.toNat
theorem own_nn {s : Int32} (h : 0 ≤ s.toInt) : Int32.ofNat (own_n s) = s := by
  apply Int32.toInt_inj.mp
  have := Int32.toInt_lt s
  rw [oOf _ (by unfold own_n; omega)]; unfold own_n; omega
theorem own_ni {r s : Int32} (hr : 0 ≤ r.toInt) (hs : 0 ≤ s.toInt) (e : own_n r = own_n s) : r = s := by rw [← own_nn hr, ← own_nn hs, e]
theorem own_gl {α : Type} {l : List α} {i : Nat} {x : α} (h : l[i]? = some x) : i < l.length := (List.getElem?_eq_some_iff.mp h).1
theorem own_gs {α : Type} {l : List α} {i : Nat} {x : α} (h : i < l.length) : (l.set i x)[i]? = some x := by rw [List.getElem?_set_self h]
theorem own_go {α : Type} {l : List α} {i j : Nat} {x : α} (h : i ≠ j) : (l.set i x)[j]? = l[j]? := List.getElem?_set_ne h
/-- n slots lie in ss, ps tells each its place, and M names just these -/
def own_I (ss ps : List Int32) (n : Nat) (M : Int32 → Prop) : Prop :=
  ss.length = 16 ∧ n ≤ 16 ∧ (∀ i s, i < n → ss[i]? = some s → M s ∧ 0 ≤ s.toInt ∧ ps[own_n s]? = some (Int32.ofNat i)) ∧ (∀ s, M s → ∃ i, i < n ∧ ss[i]? = some s) ∧ (∀ (y : Nat) v, ps[y]? = some v → v ≠ -1 → M (Int32.ofNat y))
/-- the same with a hole at i; s is to come -/
def own_H (ss ps : List Int32) (n i : Nat) (M : Int32 → Prop) (s : Int32) : Prop :=
  ss.length = 16 ∧ n ≤ 16 ∧ i < n ∧ ¬ M s ∧ 0 ≤ s.toInt ∧ own_n s < ps.length ∧ (∀ j r, j < n → j ≠ i → ss[j]? = some r → M r ∧ 0 ≤ r.toInt ∧ ps[own_n r]? = some (Int32.ofNat j)) ∧ (∀ r, M r → ∃ j, j < n ∧ j ≠ i ∧ ss[j]? = some r) ∧ (∀ (y : Nat) v, ps[y]? = some v → v ≠ -1 → M (Int32.ofNat y) ∨ Int32.ofNat y = s)
theorem own_I.mono {ss ps : List Int32} {n : Nat} {M M' : Int32 → Prop} (H : own_I ss ps n M) (e : ∀ z, M z ↔ M' z) : own_I ss ps n M' := by
  obtain ⟨h1, h2, h3, h4, h5⟩ := H
  exact ⟨h1, h2, fun i s a b => ⟨(e s).mp (h3 i s a b).1, (h3 i s a b).2⟩, fun s q => h4 s ((e s).mpr q), fun y v a b => (e _).mp (h5 y v a b)⟩
theorem own_I.dist {ss ps : List Int32} {n : Nat} {M : Int32 → Prop} (H : own_I ss ps n M) {i j : Nat} {s : Int32} (hi : i < n) (hj : j < n) (ei : ss[i]? = some s) (ej : ss[j]? = some s) : i = j := by
  obtain ⟨h1, h2, h3, h4, h5⟩ := H
  have a := (h3 i s hi ei).2.2
  have b := (h3 j s hj ej).2.2
  exact (oOfEq (by omega) (by omega)).mp (Option.some.inj (a.symm.trans b))
theorem own_I.at {ss ps : List Int32} {n : Nat} {M : Int32 → Prop} (H : own_I ss ps n M) {i : Nat} (hi : i < n) : ∃ s, ss[i]? = some s ∧ M s ∧ 0 ≤ s.toInt ∧ ps[own_n s]? = some (Int32.ofNat i) := by
  have hl : i < ss.length := by rw [H.1]; exact Nat.lt_of_lt_of_le hi H.2.1
  exact ⟨ss[i], List.getElem?_eq_getElem hl, H.2.2.1 i _ hi (List.getElem?_eq_getElem hl)⟩
theorem own_H.at {ss ps : List Int32} {n i : Nat} {M : Int32 → Prop} {s : Int32} (H : own_H ss ps n i M s) {j : Nat} (hj : j < n) : ∃ s, ss[j]? = some s := by
  have hl : j < ss.length := by rw [H.1]; exact Nat.lt_of_lt_of_le hj H.2.1
  exact ⟨ss[j], List.getElem?_eq_getElem hl⟩
/-- s comes into the hole -/
theorem own_H.put {ss ps : List Int32} {n i : Nat} {M : Int32 → Prop} {s : Int32} (H : own_H ss ps n i M s) : own_I (ss.set i s) (ps.set (own_n s) (Int32.ofNat i)) n (fun z => M z ∨ z = s) := by
  obtain ⟨h1, h2, h3, h4, h5, h6, h7, h8, h9⟩ := H
  refine ⟨by rw [List.length_set]; exact h1, h2, fun j r a b => ?_, fun r q => ?_, fun y v a b => ?_⟩
  · by_cases hj : i = j
    · subst hj
      rw [own_gs (by omega)] at b
      cases b
      exact ⟨Or.inr rfl, h5, own_gs h6⟩
    · rw [own_go hj] at b
      obtain ⟨c1, c2, c3⟩ := h7 j r a (Ne.symm hj) b
      refine ⟨Or.inl c1, c2, ?_⟩
      rw [own_go (fun e => h4 (own_ni h5 c2 e ▸ c1))]
      exact c3
  · rcases q with q | rfl
    · obtain ⟨j, c1, c2, c3⟩ := h8 r q
      exact ⟨j, c1, by rw [own_go (Ne.symm c2)]; exact c3⟩
    · exact ⟨i, h3, own_gs (by omega)⟩
  · by_cases hy : own_n s = y
    · exact Or.inr (by rw [← hy, own_nn h5])
    · rw [own_go hy] at a
      exact h9 y v a b
/-- the slot at q moves into the hole -/
theorem own_H.move {ss ps : List Int32} {n i q : Nat} {M : Int32 → Prop} {s r : Int32} (H : own_H ss ps n i M s) (hq : q < n) (hqi : q ≠ i) (hr : ss[q]? = some r) : own_H (ss.set i r) (ps.set (own_n r) (Int32.ofNat i)) n q M s := by
  obtain ⟨h1, h2, h3, h4, h5, h6, h7, h8, h9⟩ := H
  obtain ⟨r1, r2, r3⟩ := h7 q r hq hqi hr
  refine ⟨by rw [List.length_set]; exact h1, h2, hq, h4, h5, by rw [List.length_set]; exact h6, fun j t a b c => ?_, fun t a => ?_, fun y v a b => ?_⟩
  · by_cases hj : i = j
    · subst hj
      rw [own_gs (by omega)] at c
      cases c
      exact ⟨r1, r2, own_gs (own_gl r3)⟩
    · rw [own_go hj] at c
      obtain ⟨c1, c2, c3⟩ := h7 j t a (Ne.symm hj) c
      refine ⟨c1, c2, ?_⟩
      rw [own_go ?_]
      · exact c3
      · intro e
        rw [own_ni r2 c2 e] at r3
        exact b ((oOfEq (by omega) (by omega)).mp (Option.some.inj (c3.symm.trans r3)))
  · obtain ⟨j, c1, c2, c3⟩ := h8 t a
    by_cases hj : j = q
    · subst hj
      cases hr.symm.trans c3
      exact ⟨i, h3, fun e => hqi e.symm, own_gs (by omega)⟩
    · exact ⟨j, c1, hj, by rw [own_go (Ne.symm c2)]; exact c3⟩
  · by_cases hy : own_n r = y
    · exact Or.inl (by rw [← hy, own_nn r2]; exact r1)
    · rw [own_go hy] at a
      exact h9 y v a b
theorem own_neg {v : Int32} {y k : Nat} {ps : List Int32} (h : k < ps.length) (a : (ps.set k (-1))[y]? = some v) (b : v ≠ -1) : k ≠ y ∧ ps[y]? = some v := by
  by_cases e : k = y
  · subst e
    rw [own_gs h] at a
    cases a
    exact absurd rfl b
  · rw [own_go e] at a
    exact ⟨e, a⟩
/-- the slot at i goes, the last one is to come into its place -/
theorem own_I.open {ss ps : List Int32} {n i : Nat} {M : Int32 → Prop} {r s : Int32} (H : own_I ss ps (n + 1) M) (hp : ps.length < 2 ^ 31) (hi : i < n) (hr : ss[i]? = some r) (hs : ss[n]? = some s) : own_H ss (ps.set (own_n r) (-1)) n i (fun z => M z ∧ z ≠ r ∧ z ≠ s) s := by
  have D : ∀ {j k : Nat} {s : Int32}, j < n + 1 → k < n + 1 → ss[j]? = some s → ss[k]? = some s → j = k := fun a b c d => own_I.dist H a b c d
  obtain ⟨h1, h2, h3, h4, h5⟩ := H
  obtain ⟨r1, r2, r3⟩ := h3 i r (by omega) hr
  obtain ⟨s1, s2, s3⟩ := h3 n s (by omega) hs
  refine ⟨h1, by omega, hi, fun q => q.2.2 rfl, s2, by rw [List.length_set]; exact own_gl s3, fun j t a b c => ?_, fun t a => ?_, fun y v a b => ?_⟩
  · obtain ⟨c1, c2, c3⟩ := h3 j t (by omega) c
    refine ⟨⟨c1, ?_, ?_⟩, c2, ?_⟩
    · rintro rfl; exact b (D (by omega) (by omega) c hr)
    · rintro rfl; have := D (by omega) (by omega) c hs; omega
    · rw [own_go ?_]
      · exact c3
      · intro e; rw [own_ni r2 c2 e] at hr; exact b (D (by omega) (by omega) c hr)
  · obtain ⟨j, c1, c2⟩ := h4 t a.1
    refine ⟨j, ?_, ?_, c2⟩
    · rcases Nat.lt_or_ge j n with z | z
      · exact z
      · obtain rfl : j = n := by omega
        exact absurd (Option.some.inj (c2.symm.trans hs)) a.2.2
    · rintro rfl
      exact a.2.1 (Option.some.inj (c2.symm.trans hr))
  · obtain ⟨c1, c2⟩ := own_neg (own_gl r3) a b
    have m := h5 y v c2 b
    by_cases e : Int32.ofNat y = s
    · exact Or.inr e
    · refine Or.inl ⟨m, fun q => ?_, e⟩
      have hy := own_gl c2
      apply c1
      rw [← q]; unfold own_n; rw [oOf y (by omega)]; omega
theorem own_I.last {ss ps : List Int32} {n : Nat} {M : Int32 → Prop} {r : Int32} (H : own_I ss ps (n + 1) M) (hp : ps.length < 2 ^ 31) (hr : ss[n]? = some r) : own_I ss (ps.set (own_n r) (-1)) n (fun z => M z ∧ z ≠ r) := by
  have D : ∀ {j k : Nat} {s : Int32}, j < n + 1 → k < n + 1 → ss[j]? = some s → ss[k]? = some s → j = k := fun a b c d => own_I.dist H a b c d
  obtain ⟨h1, h2, h3, h4, h5⟩ := H
  obtain ⟨r1, r2, r3⟩ := h3 n r (by omega) hr
  refine ⟨h1, by omega, fun j t a c => ?_, fun t a => ?_, fun y v a b => ?_⟩
  · obtain ⟨c1, c2, c3⟩ := h3 j t (by omega) c
    refine ⟨⟨c1, ?_⟩, c2, ?_⟩
    · rintro rfl; have := D (by omega) (by omega) c hr; omega
    · rw [own_go ?_]
      · exact c3
      · intro e; rw [own_ni r2 c2 e] at hr; have := D (by omega) (by omega) c hr; omega
  · obtain ⟨j, c1, c2⟩ := h4 t a.1
    refine ⟨j, ?_, c2⟩
    rcases Nat.lt_or_ge j n with z | z
    · exact z
    · obtain rfl : j = n := by omega
      exact absurd (Option.some.inj (c2.symm.trans hr)) a.2
  · obtain ⟨c1, c2⟩ := own_neg (own_gl r3) a b
    refine ⟨h5 y v c2 b, fun q => ?_⟩
    have hy := own_gl c2
    apply c1
    rw [← q]; unfold own_n; rw [oOf y (by omega)]; omega
/-- the slot at i is taken up again -/
theorem own_I.re {ss ps : List Int32} {n i : Nat} {M : Int32 → Prop} {s : Int32} (H : own_I ss ps n M) (hi : i < n) (hs : ss[i]? = some s) : own_H ss ps n i (fun z => M z ∧ z ≠ s) s := by
  have D : ∀ {j k : Nat} {s : Int32}, j < n → k < n → ss[j]? = some s → ss[k]? = some s → j = k := fun a b c d => own_I.dist H a b c d
  obtain ⟨h1, h2, h3, h4, h5⟩ := H
  obtain ⟨s1, s2, s3⟩ := h3 i s hi hs
  refine ⟨h1, h2, hi, fun q => q.2 rfl, s2, own_gl s3, fun j t a b c => ?_, fun t a => ?_, fun y v a b => ?_⟩
  · obtain ⟨c1, c2, c3⟩ := h3 j t a c
    exact ⟨⟨c1, fun e => b (D a hi c (by rw [e]; exact hs))⟩, c2, c3⟩
  · obtain ⟨j, c1, c2⟩ := h4 t a.1
    exact ⟨j, c1, fun e => a.2 (Option.some.inj (c2.symm.trans (e ▸ hs))), c2⟩
  · by_cases e : Int32.ofNat y = s
    · exact Or.inr e
    · exact Or.inl ⟨h5 y v a b, e⟩
/-- a new slot is to come behind the others -/
theorem own_I.hole {ss ps : List Int32} {n : Nat} {M : Int32 → Prop} {s : Int32} (H : own_I ss ps n M) (hn : n < 16) (hs : ¬ M s) (h0 : 0 ≤ s.toInt) (hl : own_n s < ps.length) : own_H ss ps (n + 1) n M s := by
  obtain ⟨h1, h2, h3, h4, h5⟩ := H
  refine ⟨h1, by omega, by omega, hs, h0, hl, fun j t a b c => h3 j t (by omega) c, fun t a => ?_, fun y v a b => Or.inl (h5 y v a b)⟩
  obtain ⟨j, c1, c2⟩ := h4 t a
  exact ⟨j, by omega, by omega, c2⟩
theorem own_I.grow {ss ps : List Int32} {n k : Nat} {M : Int32 → Prop} (H : own_I ss ps n M) : own_I ss (ps ++ List.replicate k (-1)) n M := by
  obtain ⟨h1, h2, h3, h4, h5⟩ := H
  refine ⟨h1, h2, fun i s a b => ?_, h4, fun y v a b => ?_⟩
  · obtain ⟨c1, c2, c3⟩ := h3 i s a b
    exact ⟨c1, c2, by rw [List.getElem?_append_left (own_gl c3)]; exact c3⟩
  · rcases Nat.lt_or_ge y ps.length with q | q
    · rw [List.getElem?_append_left q] at a
      exact h5 y v a b
    · rw [List.getElem?_append_right q, List.getElem?_replicate] at a
      split at a
      · cases a; exact absurd rfl b
      · cases a
theorem own_I.empty : own_I (List.replicate 16 0) (List.replicate 16 (-1)) 0 (fun _ => False) := by
  refine ⟨rfl, by decide, fun i s a => absurd a (by omega), fun s q => q.elim, fun y v a b => ?_⟩
  rw [List.getElem?_replicate] at a
  split at a
  · cases a; exact b rfl
  · cases a
theorem own_I.has {ss ps : List Int32} {n : Nat} {M : Int32 → Prop} (H : own_I ss ps n M) {y v : Int32} (hy : 0 ≤ y.toInt) (hv : ps[own_n y]? = some v) : M y ↔ v ≠ -1 := by
  constructor
  · intro q
    obtain ⟨j, c1, c2⟩ := H.2.2.2.1 y q
    have c3 := (H.2.2.1 j y c1 c2).2.2
    cases hv.symm.trans c3
    intro e
    have e2 := congrArg Int32.toInt e
    rw [oOf _ (by have := H.2.1; omega), show (-1 : Int32).toInt = -1 from rfl] at e2
    omega
  · intro q
    have := H.2.2.2.2 _ v hv q
    rwa [own_nn hy] at this
theorem own_I.hasnt {ss ps : List Int32} {n : Nat} {M : Int32 → Prop} (H : own_I ss ps n M) {y : Int32} (hl : ps.length ≤ own_n y) : ¬ M y := fun q => by
  obtain ⟨j, c1, c2⟩ := H.2.2.2.1 y q
  have := own_gl (H.2.2.1 j y c1 c2).2.2
  omega
theorem own_nt {s : Int32} (h : 0 ≤ s.toInt) : s.toInt = (own_n s : Int) := by unfold own_n; omega
theorem own_par {i : Nat} (h0 : 0 < i) (h : i < 16) : (Int32.ofNat i - 1) / 2 = Int32.ofNat ((i - 1) / 2) := by
  have : ∀ i, i < 16 → 0 < i → (Int32.ofNat i - 1) / 2 = Int32.ofNat ((i - 1) / 2) := by decide +kernel
  exact this i h h0
theorem own_ch {i : Nat} (h : i < 16) : 2 * Int32.ofNat i + 1 = Int32.ofNat (2 * i + 1) := by
  have : ∀ i, i < 16 → 2 * Int32.ofNat i + 1 = Int32.ofNat (2 * i + 1) := by decide +kernel
  exact this i h
theorem own_pred (n : Nat) : Int32.ofNat (n + 1) - 1 = Int32.ofNat n := by
  have e : Int32.ofNat (n + 1) = Int32.ofNat n + 1 := Int32.ofNat_add n 1
  rw [e, Int32.add_sub_cancel]
theorem own_dbl (n : Nat) : 2 * Int32.ofNat n = Int32.ofNat (2 * n) := (Int32.ofNat_mul 2 n).symm
theorem own_s1 {s : Int32} (h : 0 ≤ s.toInt) : s + 1 = Int32.ofNat (own_n s + 1) := by
  have e : Int32.ofNat (own_n s + 1) = Int32.ofNat (own_n s) + 1 := Int32.ofNat_add _ 1
  rw [e, own_nn h]
theorem own_iff1 {M : Int32 → Prop} {r s : Int32} (hs : M s) (hne : s ≠ r) (z : Int32) : ((M z ∧ z ≠ r ∧ z ≠ s) ∨ z = s) ↔ (M z ∧ z ≠ r) := by
  by_cases e : z = s
  · subst e; exact ⟨fun _ => ⟨hs, hne⟩, fun _ => Or.inr rfl⟩
  · exact ⟨fun q => q.elim (fun q => ⟨q.1, q.2.1⟩) (fun q => absurd q e), fun q => Or.inl ⟨q.1, q.2, e⟩⟩
theorem own_iff2 {N : Int32 → Prop} {s : Int32} (hs : N s) (z : Int32) : ((N z ∧ z ≠ s) ∨ z = s) ↔ N z := by
  by_cases e : z = s
  · subst e; exact ⟨fun _ => hs, fun _ => Or.inr rfl⟩
  · exact ⟨fun q => q.elim (fun q => q.1) (fun q => absurd q e), fun q => Or.inl ⟨q, e⟩⟩
theorem own_fill {us : List Int32} {j d : Nat} {x w : Int32} : (us ++ (List.replicate j x ++ List.replicate (d + 1) w)).set (us.length + j) x = us ++ (List.replicate (j + 1) x ++ List.replicate d w) := by
  rw [List.set_append_right _ _ (by omega), Nat.add_sub_cancel_left, List.set_append_right _ _ (by rw [List.length_replicate]; omega), List.length_replicate, Nat.sub_self, List.replicate_succ, List.set_cons_zero, List.replicate_succ' (n := j)]
  simp
theorem own_31 (x : Int32) : 0 ≤ (x &&& 31).toInt ∧ (x &&& 31).toInt ≤ 31 := by
  rw [show (x &&& 31).toInt = x.toInt % 2 ^ 5 from Jvm.Kit.i32_mask x 31 (k := 5) (by decide) (by decide)]
  omega
theorem own_sl1 (x : Int32) (hx : 0 ≤ x.toInt ∧ x.toInt ≤ 31) : (1 + x).toInt = 1 + x.toInt := by
  rw [Int32.toInt_add, show (1 : Int32).toInt = 1 from rfl, Int.bmod_def]; omega
theorem own_sl2 (s x : Int32) (hs : 0 ≤ s.toInt ∧ s.toInt ≤ 100) (hx : 0 ≤ x.toInt ∧ x.toInt ≤ 31) : (s + 1 + x).toInt = s.toInt + 1 + x.toInt := by
  rw [Int32.toInt_add, Int32.toInt_add, show (1 : Int32).toInt = 1 from rfl]
  simp only [Int.bmod_def]
  omega
theorem own_and3 (x : Int32) : ∃ i : Nat, i ≤ 3 ∧ x &&& 3 = Int32.ofNat i := by
  rcases oAnd3 x with q | q | q | q
  · exact ⟨0, by decide, q⟩
  · exact ⟨1, by decide, q⟩
  · exact ⟨2, by decide, q⟩
  · exact ⟨3, by decide, q⟩
def oQ (Z : State) (h : Heap) (lo : Nat) (q sa ka pa : Addr) (ss : List Int32) (ks : List UInt64) (ps : List Int32) (n : Nat) : Prop := (Exa Z h q "com/example/kaskade/kaskade/simulation/SlotQueue") ∧ (Fld Z h q "com/example/kaskade/kaskade/simulation/SlotQueue" "slots" "[I" (.ref sa)) ∧ (Fld Z h q "com/example/kaskade/kaskade/simulation/SlotQueue" "keys" "[D" (.ref ka)) ∧ (Fld Z h q "com/example/kaskade/kaskade/simulation/SlotQueue" "places" "[I" (.ref pa)) ∧ (Fld Z h q "com/example/kaskade/kaskade/simulation/SlotQueue" "size" "I" (.int (Int32.ofNat n))) ∧ (oArr Z h sa .int (ss.map Value.int)) ∧ (oArr Z h ka .double (ks.map Value.double)) ∧ (oArr Z h pa .int (ps.map Value.int)) ∧ (sa ≠ pa) ∧ (sa ≠ ka) ∧ (pa ≠ ka) ∧ (lo ≤ q) ∧ (lo ≤ sa) ∧ (lo ≤ ka) ∧ (lo ≤ pa) ∧ (ks.length = 16) ∧ (ss.length = 16)
theorem oQ.X {Z : State} {h : Heap} {lo : Nat} {q sa ka pa : Addr} {ss : List Int32} {ks : List UInt64} {ps : List Int32} {n : Nat} (F__ : oQ Z h lo q sa ka pa ss ks ps n) : Exa Z h q "com/example/kaskade/kaskade/simulation/SlotQueue" := F__.1
theorem oQ.FS {Z : State} {h : Heap} {lo : Nat} {q sa ka pa : Addr} {ss : List Int32} {ks : List UInt64} {ps : List Int32} {n : Nat} (F__ : oQ Z h lo q sa ka pa ss ks ps n) : Fld Z h q "com/example/kaskade/kaskade/simulation/SlotQueue" "slots" "[I" (.ref sa) := F__.2.1
theorem oQ.FK {Z : State} {h : Heap} {lo : Nat} {q sa ka pa : Addr} {ss : List Int32} {ks : List UInt64} {ps : List Int32} {n : Nat} (F__ : oQ Z h lo q sa ka pa ss ks ps n) : Fld Z h q "com/example/kaskade/kaskade/simulation/SlotQueue" "keys" "[D" (.ref ka) := F__.2.2.1
theorem oQ.FP {Z : State} {h : Heap} {lo : Nat} {q sa ka pa : Addr} {ss : List Int32} {ks : List UInt64} {ps : List Int32} {n : Nat} (F__ : oQ Z h lo q sa ka pa ss ks ps n) : Fld Z h q "com/example/kaskade/kaskade/simulation/SlotQueue" "places" "[I" (.ref pa) := F__.2.2.2.1
theorem oQ.FN {Z : State} {h : Heap} {lo : Nat} {q sa ka pa : Addr} {ss : List Int32} {ks : List UInt64} {ps : List Int32} {n : Nat} (F__ : oQ Z h lo q sa ka pa ss ks ps n) : Fld Z h q "com/example/kaskade/kaskade/simulation/SlotQueue" "size" "I" (.int (Int32.ofNat n)) := F__.2.2.2.2.1
theorem oQ.AS {Z : State} {h : Heap} {lo : Nat} {q sa ka pa : Addr} {ss : List Int32} {ks : List UInt64} {ps : List Int32} {n : Nat} (F__ : oQ Z h lo q sa ka pa ss ks ps n) : oArr Z h sa .int (ss.map Value.int) := F__.2.2.2.2.2.1
theorem oQ.AK {Z : State} {h : Heap} {lo : Nat} {q sa ka pa : Addr} {ss : List Int32} {ks : List UInt64} {ps : List Int32} {n : Nat} (F__ : oQ Z h lo q sa ka pa ss ks ps n) : oArr Z h ka .double (ks.map Value.double) := F__.2.2.2.2.2.2.1
theorem oQ.AP {Z : State} {h : Heap} {lo : Nat} {q sa ka pa : Addr} {ss : List Int32} {ks : List UInt64} {ps : List Int32} {n : Nat} (F__ : oQ Z h lo q sa ka pa ss ks ps n) : oArr Z h pa .int (ps.map Value.int) := F__.2.2.2.2.2.2.2.1
theorem oQ.sp {Z : State} {h : Heap} {lo : Nat} {q sa ka pa : Addr} {ss : List Int32} {ks : List UInt64} {ps : List Int32} {n : Nat} (F__ : oQ Z h lo q sa ka pa ss ks ps n) : sa ≠ pa := F__.2.2.2.2.2.2.2.2.1
theorem oQ.sk {Z : State} {h : Heap} {lo : Nat} {q sa ka pa : Addr} {ss : List Int32} {ks : List UInt64} {ps : List Int32} {n : Nat} (F__ : oQ Z h lo q sa ka pa ss ks ps n) : sa ≠ ka := F__.2.2.2.2.2.2.2.2.2.1
theorem oQ.pk {Z : State} {h : Heap} {lo : Nat} {q sa ka pa : Addr} {ss : List Int32} {ks : List UInt64} {ps : List Int32} {n : Nat} (F__ : oQ Z h lo q sa ka pa ss ks ps n) : pa ≠ ka := F__.2.2.2.2.2.2.2.2.2.2.1
theorem oQ.q1 {Z : State} {h : Heap} {lo : Nat} {q sa ka pa : Addr} {ss : List Int32} {ks : List UInt64} {ps : List Int32} {n : Nat} (F__ : oQ Z h lo q sa ka pa ss ks ps n) : lo ≤ q := F__.2.2.2.2.2.2.2.2.2.2.2.1
theorem oQ.s1 {Z : State} {h : Heap} {lo : Nat} {q sa ka pa : Addr} {ss : List Int32} {ks : List UInt64} {ps : List Int32} {n : Nat} (F__ : oQ Z h lo q sa ka pa ss ks ps n) : lo ≤ sa := F__.2.2.2.2.2.2.2.2.2.2.2.2.1
theorem oQ.k1 {Z : State} {h : Heap} {lo : Nat} {q sa ka pa : Addr} {ss : List Int32} {ks : List UInt64} {ps : List Int32} {n : Nat} (F__ : oQ Z h lo q sa ka pa ss ks ps n) : lo ≤ ka := F__.2.2.2.2.2.2.2.2.2.2.2.2.2.1
theorem oQ.p1 {Z : State} {h : Heap} {lo : Nat} {q sa ka pa : Addr} {ss : List Int32} {ks : List UInt64} {ps : List Int32} {n : Nat} (F__ : oQ Z h lo q sa ka pa ss ks ps n) : lo ≤ pa := F__.2.2.2.2.2.2.2.2.2.2.2.2.2.2.1
theorem oQ.lk {Z : State} {h : Heap} {lo : Nat} {q sa ka pa : Addr} {ss : List Int32} {ks : List UInt64} {ps : List Int32} {n : Nat} (F__ : oQ Z h lo q sa ka pa ss ks ps n) : ks.length = 16 := F__.2.2.2.2.2.2.2.2.2.2.2.2.2.2.2.1
theorem oQ.ls {Z : State} {h : Heap} {lo : Nat} {q sa ka pa : Addr} {ss : List Int32} {ks : List UInt64} {ps : List Int32} {n : Nat} (F__ : oQ Z h lo q sa ka pa ss ks ps n) : ss.length = 16 := F__.2.2.2.2.2.2.2.2.2.2.2.2.2.2.2.2
section OwnQ
variable {Z : State} {h h' : Heap} {lo : Nat} {q sa ka pa : Addr} {ss : List Int32} {ks : List UInt64} {ps : List Int32} {n : Nat} {a0 : Array Value} {kk : Nat}
theorem oXlt {a : Addr} {Cn : String} (X : Exa Z h a Cn) : a < h.size := by
  obtain ⟨k, hk, -⟩ := X.cell
  exact (Array.getElem?_eq_some_iff.mp hk).1
theorem oQ.le (F : oQ Z h lo q sa ka pa ss ks ps n) : lo ≤ h.size := Nat.le_of_lt (Nat.lt_of_le_of_lt F.q1 (oXlt F.X))
theorem oQ.ext (F : oQ Z h lo q sa ka pa ss ks ps n) (E : Ext h h') : oQ Z h' lo q sa ka pa ss ks ps n := ⟨F.X.ext E, F.FS.ext E, F.FK.ext E, F.FP.ext E, F.FN.ext E, F.AS.ext E, F.AK.ext E, F.AP.ext E, F.sp, F.sk, F.pk, F.q1, F.s1, F.k1, F.p1, F.lk, F.ls⟩
theorem oNq {a : Addr} {ty : FieldType} {vs : List Value} (X : Exa Z h q "com/example/kaskade/kaskade/simulation/SlotQueue") (wi : (Jvm.Cond.instantiable "com/example/kaskade/kaskade/simulation/SlotQueue" kk).before a0 Z = true) (A : oArr Z h a ty vs) : q ≠ a := by obtain ⟨_, A, -⟩ := A; exact ne_arr X wi A
theorem oQ.wS {i : Nat} {s : Int32} (F : oQ Z h lo q sa ka pa ss ks ps n) (wi : (Jvm.Cond.instantiable "com/example/kaskade/kaskade/simulation/SlotQueue" kk).before a0 Z = true) (W : Wr h h' sa i (.int s)) : oQ Z h' lo q sa ka pa (ss.set i s) ks ps n := by
  have hq := oNq F.X wi F.AS
  exact ⟨F.X.wr W, Fld.other W F.FS (Or.inl hq), Fld.other W F.FK (Or.inl hq), Fld.other W F.FP (Or.inl hq), Fld.other W F.FN (Or.inl hq), (F.AS.same W).eq (by rw [List.map_set]), F.AK.other W (Ne.symm F.sk), F.AP.other W (Ne.symm F.sp), F.sp, F.sk, F.pk, F.q1, F.s1, F.k1, F.p1, F.lk, by rw [List.length_set]; exact F.ls⟩
theorem oQ.wK {i : Nat} {s : UInt64} (F : oQ Z h lo q sa ka pa ss ks ps n) (wi : (Jvm.Cond.instantiable "com/example/kaskade/kaskade/simulation/SlotQueue" kk).before a0 Z = true) (W : Wr h h' ka i (.double s)) : oQ Z h' lo q sa ka pa ss (ks.set i s) ps n := by
  have hq := oNq F.X wi F.AK
  exact ⟨F.X.wr W, Fld.other W F.FS (Or.inl hq), Fld.other W F.FK (Or.inl hq), Fld.other W F.FP (Or.inl hq), Fld.other W F.FN (Or.inl hq), F.AS.other W F.sk, (F.AK.same W).eq (by rw [List.map_set]), F.AP.other W F.pk, F.sp, F.sk, F.pk, F.q1, F.s1, F.k1, F.p1, by rw [List.length_set]; exact F.lk, F.ls⟩
theorem oQ.wP {i : Nat} {s : Int32} (F : oQ Z h lo q sa ka pa ss ks ps n) (wi : (Jvm.Cond.instantiable "com/example/kaskade/kaskade/simulation/SlotQueue" kk).before a0 Z = true) (W : Wr h h' pa i (.int s)) : oQ Z h' lo q sa ka pa ss ks (ps.set i s) n := by
  have hq := oNq F.X wi F.AP
  exact ⟨F.X.wr W, Fld.other W F.FS (Or.inl hq), Fld.other W F.FK (Or.inl hq), Fld.other W F.FP (Or.inl hq), Fld.other W F.FN (Or.inl hq), F.AS.other W F.sp, F.AK.other W (Ne.symm F.pk), (F.AP.same W).eq (by rw [List.map_set]), F.sp, F.sk, F.pk, F.q1, F.s1, F.k1, F.p1, F.lk, F.ls⟩
theorem oQ.kpP {ps' : List Int32} (F : oQ Z h lo q sa ka pa ss ks ps n) (wi : (Jvm.Cond.instantiable "com/example/kaskade/kaskade/simulation/SlotQueue" kk).before a0 Z = true) (K : oKp (fun x => x = pa ∨ h.size ≤ x) h h') (A : oArr Z h' pa .int (ps'.map Value.int)) : oQ Z h' lo q sa ka pa ss ks ps' n := by
  have hq : ¬ (q = pa ∨ h.size ≤ q) := fun r => r.elim (oNq F.X wi F.AP) (fun z => Nat.lt_irrefl _ (Nat.lt_of_lt_of_le (oXlt F.X) z))
  have hs : ¬ (sa = pa ∨ h.size ≤ sa) := fun r => r.elim F.sp (fun z => Nat.lt_irrefl _ (Nat.lt_of_lt_of_le F.AS.lt z))
  have hk : ¬ (ka = pa ∨ h.size ≤ ka) := fun r => r.elim (Ne.symm F.pk) (fun z => Nat.lt_irrefl _ (Nat.lt_of_lt_of_le F.AK.lt z))
  exact ⟨K.exa F.X, K.fld F.FS hq, K.fld F.FK hq, K.fld F.FP hq, K.fld F.FN hq, F.AS.kp K hs, F.AK.kp K hk, A, F.sp, F.sk, F.pk, F.q1, F.s1, F.k1, F.p1, F.lk, F.ls⟩
end OwnQ
end OwnQL
theorem tw0 {Z : State} {a0 : Array Value} (hw : ∀ d ∈ tables_1, d.before a0 Z = true) : ((Jvm.Cond.methodLink "com/example/kaskade/kaskade/simulation/SlotQueueIsEmptyPinLaw" (7 : Nat) ({ cls := "java/lang/Math", name := "min", desc := "(II)I" } : Jvm.MethodName))).before a0 Z = true := hw _ (List.mem_of_getElem? (i := 0) rfl)
theorem tw1 {Z : State} {a0 : Array Value} (hw : ∀ d ∈ tables_1, d.before a0 Z = true) : ((Jvm.Cond.static ({ cls := "java/lang/Math", name := "min", desc := "(II)I" } : Jvm.MethodName))).before a0 Z = true := hw _ (List.mem_of_getElem? (i := 1) rfl)
theorem tw2 {Z : State} {a0 : Array Value} (hw : ∀ d ∈ tables_1, d.before a0 Z = true) : ((Jvm.Cond.initialized "java/lang/Math")).before a0 Z = true := hw _ (List.mem_of_getElem? (i := 2) rfl)
theorem tw3 {Z : State} {a0 : Array Value} (hw : ∀ d ∈ tables_1, d.before a0 Z = true) : ((Jvm.Cond.code ({ cls := "java/lang/Math", name := "min", desc := "(II)I" } : Jvm.MethodName) jdk_29_method_69_code (2 : Nat) (Option.some Jvm.ClassFile.FieldType.int))).before a0 Z = true := hw _ (List.mem_of_getElem? (i := 3) rfl)
theorem tw4 {Z : State} {a0 : Array Value} (hw : ∀ d ∈ tables_1, d.before a0 Z = true) : ((Jvm.Cond.classLink "com/example/kaskade/kaskade/simulation/SlotQueueIsEmptyPinLaw" (13 : Nat) "com/example/kaskade/kaskade/simulation/SlotQueue")).before a0 Z = true := hw _ (List.mem_of_getElem? (i := 4) rfl)
theorem tw5 {Z : State} {a0 : Array Value} (hw : ∀ d ∈ tables_1, d.before a0 Z = true) : ((Jvm.Cond.instantiable "com/example/kaskade/kaskade/simulation/SlotQueue" (4 : Nat))).before a0 Z = true := hw _ (List.mem_of_getElem? (i := 5) rfl)
theorem tw6 {Z : State} {a0 : Array Value} (hw : ∀ d ∈ tables_1, d.before a0 Z = true) : ((Jvm.Cond.initialized "com/example/kaskade/kaskade/simulation/SlotQueue")).before a0 Z = true := hw _ (List.mem_of_getElem? (i := 6) rfl)
theorem tw7 {Z : State} {a0 : Array Value} (hw : ∀ d ∈ tables_1, d.before a0 Z = true) : ((Jvm.Cond.methodLink "com/example/kaskade/kaskade/simulation/SlotQueueIsEmptyPinLaw" (15 : Nat) ({ cls := "com/example/kaskade/kaskade/simulation/SlotQueue", name := "<init>", desc := "()V" } : Jvm.MethodName))).before a0 Z = true := hw _ (List.mem_of_getElem? (i := 7) rfl)
theorem tw8 {Z : State} {a0 : Array Value} (hw : ∀ d ∈ tables_1, d.before a0 Z = true) : ((Jvm.Cond.instanceMethod ({ cls := "com/example/kaskade/kaskade/simulation/SlotQueue", name := "<init>", desc := "()V" } : Jvm.MethodName))).before a0 Z = true := hw _ (List.mem_of_getElem? (i := 8) rfl)
theorem tw9 {Z : State} {a0 : Array Value} (hw : ∀ d ∈ tables_1, d.before a0 Z = true) : ((Jvm.Cond.code ({ cls := "com/example/kaskade/kaskade/simulation/SlotQueue", name := "<init>", desc := "()V" } : Jvm.MethodName) prog_23_method_1_code (1 : Nat) (Option.none : Option Jvm.ClassFile.FieldType))).before a0 Z = true := hw _ (List.mem_of_getElem? (i := 9) rfl)
theorem tw10 {Z : State} {a0 : Array Value} (hw : ∀ d ∈ tables_1, d.before a0 Z = true) : ((Jvm.Cond.methodLink "com/example/kaskade/kaskade/simulation/SlotQueue" (1 : Nat) ({ cls := "java/lang/Object", name := "<init>", desc := "()V" } : Jvm.MethodName))).before a0 Z = true := hw _ (List.mem_of_getElem? (i := 10) rfl)
theorem tw11 {Z : State} {a0 : Array Value} (hw : ∀ d ∈ tables_1, d.before a0 Z = true) : ((Jvm.Cond.instanceMethod ({ cls := "java/lang/Object", name := "<init>", desc := "()V" } : Jvm.MethodName))).before a0 Z = true := hw _ (List.mem_of_getElem? (i := 11) rfl)
theorem tw12 {Z : State} {a0 : Array Value} (hw : ∀ d ∈ tables_1, d.before a0 Z = true) : ((Jvm.Cond.code ({ cls := "java/lang/Object", name := "<init>", desc := "()V" } : Jvm.MethodName) object_method_1_code (1 : Nat) (Option.none : Option Jvm.ClassFile.FieldType))).before a0 Z = true := hw _ (List.mem_of_getElem? (i := 12) rfl)
theorem tw13 {Z : State} {a0 : Array Value} (hw : ∀ d ∈ tables_1, d.before a0 Z = true) : ((Jvm.Cond.arrayClass Jvm.ClassFile.FieldType.int)).before a0 Z = true := hw _ (List.mem_of_getElem? (i := 13) rfl)
theorem tw14 {Z : State} {a0 : Array Value} (hw : ∀ d ∈ tables_1, d.before a0 Z = true) : ((Jvm.Cond.fieldLink "com/example/kaskade/kaskade/simulation/SlotQueue" (7 : Nat) "com/example/kaskade/kaskade/simulation/SlotQueue" "slots" "[I")).before a0 Z = true := hw _ (List.mem_of_getElem? (i := 14) rfl)
theorem tw15 {Z : State} {a0 : Array Value} (hw : ∀ d ∈ tables_1, d.before a0 Z = true) : ((Jvm.Cond.lays "com/example/kaskade/kaskade/simulation/SlotQueue" "com/example/kaskade/kaskade/simulation/SlotQueue" "slots" "[I")).before a0 Z = true := hw _ (List.mem_of_getElem? (i := 15) rfl)
theorem tw16 {Z : State} {a0 : Array Value} (hw : ∀ d ∈ tables_1, d.before a0 Z = true) : ((Jvm.Cond.arrayClass Jvm.ClassFile.FieldType.double)).before a0 Z = true := hw _ (List.mem_of_getElem? (i := 16) rfl)
theorem tw17 {Z : State} {a0 : Array Value} (hw : ∀ d ∈ tables_1, d.before a0 Z = true) : ((Jvm.Cond.fieldLink "com/example/kaskade/kaskade/simulation/SlotQueue" (13 : Nat) "com/example/kaskade/kaskade/simulation/SlotQueue" "keys" "[D")).before a0 Z = true := hw _ (List.mem_of_getElem? (i := 17) rfl)
theorem tw18 {Z : State} {a0 : Array Value} (hw : ∀ d ∈ tables_1, d.before a0 Z = true) : ((Jvm.Cond.lays "com/example/kaskade/kaskade/simulation/SlotQueue" "com/example/kaskade/kaskade/simulation/SlotQueue" "keys" "[D")).before a0 Z = true := hw _ (List.mem_of_getElem? (i := 18) rfl)
theorem tw19 {Z : State} {a0 : Array Value} (hw : ∀ d ∈ tables_1, d.before a0 Z = true) : ((Jvm.Cond.fieldLink "com/example/kaskade/kaskade/simulation/SlotQueue" (17 : Nat) "com/example/kaskade/kaskade/simulation/SlotQueue" "places" "[I")).before a0 Z = true := hw _ (List.mem_of_getElem? (i := 19) rfl)
theorem tw20 {Z : State} {a0 : Array Value} (hw : ∀ d ∈ tables_1, d.before a0 Z = true) : ((Jvm.Cond.lays "com/example/kaskade/kaskade/simulation/SlotQueue" "com/example/kaskade/kaskade/simulation/SlotQueue" "places" "[I")).before a0 Z = true := hw _ (List.mem_of_getElem? (i := 20) rfl)
theorem tw21 {Z : State} {a0 : Array Value} (hw : ∀ d ∈ tables_1, d.before a0 Z = true) : ((Jvm.Cond.methodLink "com/example/kaskade/kaskade/simulation/SlotQueue" (20 : Nat) ({ cls := "java/util/Arrays", name := "fill", desc := "([II)V" } : Jvm.MethodName))).before a0 Z = true := hw _ (List.mem_of_getElem? (i := 21) rfl)
theorem tw22 {Z : State} {a0 : Array Value} (hw : ∀ d ∈ tables_1, d.before a0 Z = true) : ((Jvm.Cond.static ({ cls := "java/util/Arrays", name := "fill", desc := "([II)V" } : Jvm.MethodName))).before a0 Z = true := hw _ (List.mem_of_getElem? (i := 22) rfl)
theorem tw23 {Z : State} {a0 : Array Value} (hw : ∀ d ∈ tables_1, d.before a0 Z = true) : ((Jvm.Cond.initialized "java/util/Arrays")).before a0 Z = true := hw _ (List.mem_of_getElem? (i := 23) rfl)
theorem tw24 {Z : State} {a0 : Array Value} (hw : ∀ d ∈ tables_1, d.before a0 Z = true) : ((Jvm.Cond.code ({ cls := "java/util/Arrays", name := "fill", desc := "([II)V" } : Jvm.MethodName) jdk_65_method_103_code (4 : Nat) (Option.none : Option Jvm.ClassFile.FieldType))).before a0 Z = true := hw _ (List.mem_of_getElem? (i := 24) rfl)
theorem tw25 {Z : State} {a0 : Array Value} (hw : ∀ d ∈ tables_1, d.before a0 Z = true) : ((Jvm.Cond.methodLink "com/example/kaskade/kaskade/simulation/SlotQueueIsEmptyPinLaw" (16 : Nat) ({ cls := "com/example/kaskade/kaskade/simulation/SlotQueue", name := "isEmpty", desc := "()Z" } : Jvm.MethodName))).before a0 Z = true := hw _ (List.mem_of_getElem? (i := 25) rfl)
theorem tw26 {Z : State} {a0 : Array Value} (hw : ∀ d ∈ tables_1, d.before a0 Z = true) : ((Jvm.Cond.declares ({ cls := "com/example/kaskade/kaskade/simulation/SlotQueue", name := "isEmpty", desc := "()Z" } : Jvm.MethodName))).before a0 Z = true := hw _ (List.mem_of_getElem? (i := 26) rfl)
theorem tw27 {Z : State} {a0 : Array Value} (hw : ∀ d ∈ tables_1, d.before a0 Z = true) : ((Jvm.Cond.instanceMethod ({ cls := "com/example/kaskade/kaskade/simulation/SlotQueue", name := "isEmpty", desc := "()Z" } : Jvm.MethodName))).before a0 Z = true := hw _ (List.mem_of_getElem? (i := 27) rfl)
theorem tw28 {Z : State} {a0 : Array Value} (hw : ∀ d ∈ tables_1, d.before a0 Z = true) : ((Jvm.Cond.selects "com/example/kaskade/kaskade/simulation/SlotQueue" ({ cls := "com/example/kaskade/kaskade/simulation/SlotQueue", name := "isEmpty", desc := "()Z" } : Jvm.MethodName) ({ cls := "com/example/kaskade/kaskade/simulation/SlotQueue", name := "isEmpty", desc := "()Z" } : Jvm.MethodName))).before a0 Z = true := hw _ (List.mem_of_getElem? (i := 28) rfl)
theorem tw29 {Z : State} {a0 : Array Value} (hw : ∀ d ∈ tables_1, d.before a0 Z = true) : ((Jvm.Cond.code ({ cls := "com/example/kaskade/kaskade/simulation/SlotQueue", name := "isEmpty", desc := "()Z" } : Jvm.MethodName) prog_23_method_2_code (1 : Nat) (Option.some Jvm.ClassFile.FieldType.boolean))).before a0 Z = true := hw _ (List.mem_of_getElem? (i := 29) rfl)
theorem tw30 {Z : State} {a0 : Array Value} (hw : ∀ d ∈ tables_1, d.before a0 Z = true) : ((Jvm.Cond.fieldLink "com/example/kaskade/kaskade/simulation/SlotQueue" (26 : Nat) "com/example/kaskade/kaskade/simulation/SlotQueue" "size" "I")).before a0 Z = true := hw _ (List.mem_of_getElem? (i := 30) rfl)
theorem tw31 {Z : State} {a0 : Array Value} (hw : ∀ d ∈ tables_1, d.before a0 Z = true) : ((Jvm.Cond.lays "com/example/kaskade/kaskade/simulation/SlotQueue" "com/example/kaskade/kaskade/simulation/SlotQueue" "size" "I")).before a0 Z = true := hw _ (List.mem_of_getElem? (i := 31) rfl)
theorem tw32 {Z : State} {a0 : Array Value} (hw : ∀ d ∈ tables_1, d.before a0 Z = true) : ((Jvm.Cond.methodLink "com/example/kaskade/kaskade/simulation/SlotQueueIsEmptyPinLaw" (20 : Nat) ({ cls := "com/example/kaskade/kaskade/simulation/SlotQueue", name := "add", desc := "(ID)V" } : Jvm.MethodName))).before a0 Z = true := hw _ (List.mem_of_getElem? (i := 32) rfl)
theorem tw33 {Z : State} {a0 : Array Value} (hw : ∀ d ∈ tables_1, d.before a0 Z = true) : ((Jvm.Cond.declares ({ cls := "com/example/kaskade/kaskade/simulation/SlotQueue", name := "add", desc := "(ID)V" } : Jvm.MethodName))).before a0 Z = true := hw _ (List.mem_of_getElem? (i := 33) rfl)
theorem tw34 {Z : State} {a0 : Array Value} (hw : ∀ d ∈ tables_1, d.before a0 Z = true) : ((Jvm.Cond.instanceMethod ({ cls := "com/example/kaskade/kaskade/simulation/SlotQueue", name := "add", desc := "(ID)V" } : Jvm.MethodName))).before a0 Z = true := hw _ (List.mem_of_getElem? (i := 34) rfl)
theorem tw35 {Z : State} {a0 : Array Value} (hw : ∀ d ∈ tables_1, d.before a0 Z = true) : ((Jvm.Cond.selects "com/example/kaskade/kaskade/simulation/SlotQueue" ({ cls := "com/example/kaskade/kaskade/simulation/SlotQueue", name := "add", desc := "(ID)V" } : Jvm.MethodName) ({ cls := "com/example/kaskade/kaskade/simulation/SlotQueue", name := "add", desc := "(ID)V" } : Jvm.MethodName))).before a0 Z = true := hw _ (List.mem_of_getElem? (i := 35) rfl)
theorem tw36 {Z : State} {a0 : Array Value} (hw : ∀ d ∈ tables_1, d.before a0 Z = true) : ((Jvm.Cond.code ({ cls := "com/example/kaskade/kaskade/simulation/SlotQueue", name := "add", desc := "(ID)V" } : Jvm.MethodName) prog_23_method_6_code (5 : Nat) (Option.none : Option Jvm.ClassFile.FieldType))).before a0 Z = true := hw _ (List.mem_of_getElem? (i := 36) rfl)
theorem tw37 {Z : State} {a0 : Array Value} (hw : ∀ d ∈ tables_1, d.before a0 Z = true) : ((Jvm.Cond.methodLink "com/example/kaskade/kaskade/simulation/SlotQueue" (30 : Nat) ({ cls := "java/lang/Math", name := "max", desc := "(II)I" } : Jvm.MethodName))).before a0 Z = true := hw _ (List.mem_of_getElem? (i := 37) rfl)
theorem tw38 {Z : State} {a0 : Array Value} (hw : ∀ d ∈ tables_1, d.before a0 Z = true) : ((Jvm.Cond.static ({ cls := "java/lang/Math", name := "max", desc := "(II)I" } : Jvm.MethodName))).before a0 Z = true := hw _ (List.mem_of_getElem? (i := 38) rfl)
theorem tw39 {Z : State} {a0 : Array Value} (hw : ∀ d ∈ tables_1, d.before a0 Z = true) : ((Jvm.Cond.code ({ cls := "java/lang/Math", name := "max", desc := "(II)I" } : Jvm.MethodName) jdk_29_method_65_code (2 : Nat) (Option.some Jvm.ClassFile.FieldType.int))).before a0 Z = true := hw _ (List.mem_of_getElem? (i := 39) rfl)
theorem tw40 {Z : State} {a0 : Array Value} (hw : ∀ d ∈ tables_1, d.before a0 Z = true) : ((Jvm.Cond.methodLink "com/example/kaskade/kaskade/simulation/SlotQueue" (36 : Nat) ({ cls := "java/util/Arrays", name := "copyOf", desc := "([II)[I" } : Jvm.MethodName))).before a0 Z = true := hw _ (List.mem_of_getElem? (i := 40) rfl)
theorem tw41 {Z : State} {a0 : Array Value} (hw : ∀ d ∈ tables_1, d.before a0 Z = true) : ((Jvm.Cond.static ({ cls := "java/util/Arrays", name := "copyOf", desc := "([II)[I" } : Jvm.MethodName))).before a0 Z = true := hw _ (List.mem_of_getElem? (i := 41) rfl)
theorem tw42 {Z : State} {a0 : Array Value} (hw : ∀ d ∈ tables_1, d.before a0 Z = true) : ((Jvm.Cond.code ({ cls := "java/util/Arrays", name := "copyOf", desc := "([II)[I" } : Jvm.MethodName) jdk_65_method_123_code (3 : Nat) (Option.some (Jvm.ClassFile.FieldType.array Jvm.ClassFile.FieldType.int)))).before a0 Z = true := hw _ (List.mem_of_getElem? (i := 42) rfl)
theorem tw43 {Z : State} {a0 : Array Value} (hw : ∀ d ∈ tables_1, d.before a0 Z = true) : ((Jvm.Cond.methodLink "java/util/Arrays" (304 : Nat) ({ cls := "java/lang/Math", name := "min", desc := "(II)I" } : Jvm.MethodName))).before a0 Z = true := hw _ (List.mem_of_getElem? (i := 43) rfl)
theorem tw44 {Z : State} {a0 : Array Value} (hw : ∀ d ∈ tables_1, d.before a0 Z = true) : ((Jvm.Cond.methodLink "java/util/Arrays" (150 : Nat) ({ cls := "java/lang/System", name := "arraycopy", desc := "(Ljava/lang/Object;ILjava/lang/Object;II)V" } : Jvm.MethodName))).before a0 Z = true := hw _ (List.mem_of_getElem? (i := 44) rfl)
theorem tw45 {Z : State} {a0 : Array Value} (hw : ∀ d ∈ tables_1, d.before a0 Z = true) : ((Jvm.Cond.static ({ cls := "java/lang/System", name := "arraycopy", desc := "(Ljava/lang/Object;ILjava/lang/Object;II)V" } : Jvm.MethodName))).before a0 Z = true := hw _ (List.mem_of_getElem? (i := 45) rfl)
theorem tw46 {Z : State} {a0 : Array Value} (hw : ∀ d ∈ tables_1, d.before a0 Z = true) : ((Jvm.Cond.initialized "java/lang/System")).before a0 Z = true := hw _ (List.mem_of_getElem? (i := 46) rfl)
theorem tw47 {Z : State} {a0 : Array Value} (hw : ∀ d ∈ tables_1, d.before a0 Z = true) : ((Jvm.Cond.native ({ cls := "java/lang/System", name := "arraycopy", desc := "(Ljava/lang/Object;ILjava/lang/Object;II)V" } : Jvm.MethodName))).before a0 Z = true := hw _ (List.mem_of_getElem? (i := 47) rfl)
theorem tw48 {Z : State} {a0 : Array Value} (hw : ∀ d ∈ tables_1, d.before a0 Z = true) : ((Jvm.Cond.methodLink "com/example/kaskade/kaskade/simulation/SlotQueue" (40 : Nat) ({ cls := "java/util/Arrays", name := "fill", desc := "([IIII)V" } : Jvm.MethodName))).before a0 Z = true := hw _ (List.mem_of_getElem? (i := 48) rfl)
theorem tw49 {Z : State} {a0 : Array Value} (hw : ∀ d ∈ tables_1, d.before a0 Z = true) : ((Jvm.Cond.static ({ cls := "java/util/Arrays", name := "fill", desc := "([IIII)V" } : Jvm.MethodName))).before a0 Z = true := hw _ (List.mem_of_getElem? (i := 49) rfl)
theorem tw50 {Z : State} {a0 : Array Value} (hw : ∀ d ∈ tables_1, d.before a0 Z = true) : ((Jvm.Cond.code ({ cls := "java/util/Arrays", name := "fill", desc := "([IIII)V" } : Jvm.MethodName) jdk_65_method_104_code (5 : Nat) (Option.none : Option Jvm.ClassFile.FieldType))).before a0 Z = true := hw _ (List.mem_of_getElem? (i := 50) rfl)
theorem tw51 {Z : State} {a0 : Array Value} (hw : ∀ d ∈ tables_1, d.before a0 Z = true) : ((Jvm.Cond.methodLink "java/util/Arrays" (13 : Nat) ({ cls := "java/util/Arrays", name := "rangeCheck", desc := "(III)V" } : Jvm.MethodName))).before a0 Z = true := hw _ (List.mem_of_getElem? (i := 51) rfl)
theorem tw52 {Z : State} {a0 : Array Value} (hw : ∀ d ∈ tables_1, d.before a0 Z = true) : ((Jvm.Cond.static ({ cls := "java/util/Arrays", name := "rangeCheck", desc := "(III)V" } : Jvm.MethodName))).before a0 Z = true := hw _ (List.mem_of_getElem? (i := 52) rfl)
theorem tw53 {Z : State} {a0 : Array Value} (hw : ∀ d ∈ tables_1, d.before a0 Z = true) : ((Jvm.Cond.code ({ cls := "java/util/Arrays", name := "rangeCheck", desc := "(III)V" } : Jvm.MethodName) jdk_65_method_30_code (3 : Nat) (Option.none : Option Jvm.ClassFile.FieldType))).before a0 Z = true := hw _ (List.mem_of_getElem? (i := 53) rfl)
theorem tw54 {Z : State} {a0 : Array Value} (hw : ∀ d ∈ tables_1, d.before a0 Z = true) : ((Jvm.Cond.methodLink "com/example/kaskade/kaskade/simulation/SlotQueue" (46 : Nat) ({ cls := "com/example/kaskade/kaskade/simulation/SlotQueue", name := "up", desc := "(IID)V" } : Jvm.MethodName))).before a0 Z = true := hw _ (List.mem_of_getElem? (i := 54) rfl)
theorem tw55 {Z : State} {a0 : Array Value} (hw : ∀ d ∈ tables_1, d.before a0 Z = true) : ((Jvm.Cond.instanceMethod ({ cls := "com/example/kaskade/kaskade/simulation/SlotQueue", name := "up", desc := "(IID)V" } : Jvm.MethodName))).before a0 Z = true := hw _ (List.mem_of_getElem? (i := 55) rfl)
theorem tw56 {Z : State} {a0 : Array Value} (hw : ∀ d ∈ tables_1, d.before a0 Z = true) : ((Jvm.Cond.privateMethod ({ cls := "com/example/kaskade/kaskade/simulation/SlotQueue", name := "up", desc := "(IID)V" } : Jvm.MethodName))).before a0 Z = true := hw _ (List.mem_of_getElem? (i := 56) rfl)
theorem tw57 {Z : State} {a0 : Array Value} (hw : ∀ d ∈ tables_1, d.before a0 Z = true) : ((Jvm.Cond.code ({ cls := "com/example/kaskade/kaskade/simulation/SlotQueue", name := "up", desc := "(IID)V" } : Jvm.MethodName) prog_23_method_10_code (7 : Nat) (Option.none : Option Jvm.ClassFile.FieldType))).before a0 Z = true := hw _ (List.mem_of_getElem? (i := 57) rfl)
theorem tw58 {Z : State} {a0 : Array Value} (hw : ∀ d ∈ tables_1, d.before a0 Z = true) : ((Jvm.Cond.methodLink "com/example/kaskade/kaskade/simulation/SlotQueue" (61 : Nat) ({ cls := "com/example/kaskade/kaskade/simulation/SlotQueue", name := "put", desc := "(IID)V" } : Jvm.MethodName))).before a0 Z = true := hw _ (List.mem_of_getElem? (i := 58) rfl)
theorem tw59 {Z : State} {a0 : Array Value} (hw : ∀ d ∈ tables_1, d.before a0 Z = true) : ((Jvm.Cond.instanceMethod ({ cls := "com/example/kaskade/kaskade/simulation/SlotQueue", name := "put", desc := "(IID)V" } : Jvm.MethodName))).before a0 Z = true := hw _ (List.mem_of_getElem? (i := 59) rfl)
theorem tw60 {Z : State} {a0 : Array Value} (hw : ∀ d ∈ tables_1, d.before a0 Z = true) : ((Jvm.Cond.privateMethod ({ cls := "com/example/kaskade/kaskade/simulation/SlotQueue", name := "put", desc := "(IID)V" } : Jvm.MethodName))).before a0 Z = true := hw _ (List.mem_of_getElem? (i := 60) rfl)
theorem tw61 {Z : State} {a0 : Array Value} (hw : ∀ d ∈ tables_1, d.before a0 Z = true) : ((Jvm.Cond.code ({ cls := "com/example/kaskade/kaskade/simulation/SlotQueue", name := "put", desc := "(IID)V" } : Jvm.MethodName) prog_23_method_13_code (5 : Nat) (Option.none : Option Jvm.ClassFile.FieldType))).before a0 Z = true := hw _ (List.mem_of_getElem? (i := 61) rfl)
theorem tw62 {Z : State} {a0 : Array Value} (hw : ∀ d ∈ tables_1, d.before a0 Z = true) : ((Jvm.Cond.methodLink "com/example/kaskade/kaskade/simulation/SlotQueueIsEmptyPinLaw" (24 : Nat) ({ cls := "com/example/kaskade/kaskade/simulation/SlotQueue", name := "poll", desc := "()I" } : Jvm.MethodName))).before a0 Z = true := hw _ (List.mem_of_getElem? (i := 62) rfl)
theorem tw63 {Z : State} {a0 : Array Value} (hw : ∀ d ∈ tables_1, d.before a0 Z = true) : ((Jvm.Cond.declares ({ cls := "com/example/kaskade/kaskade/simulation/SlotQueue", name := "poll", desc := "()I" } : Jvm.MethodName))).before a0 Z = true := hw _ (List.mem_of_getElem? (i := 63) rfl)
theorem tw64 {Z : State} {a0 : Array Value} (hw : ∀ d ∈ tables_1, d.before a0 Z = true) : ((Jvm.Cond.instanceMethod ({ cls := "com/example/kaskade/kaskade/simulation/SlotQueue", name := "poll", desc := "()I" } : Jvm.MethodName))).before a0 Z = true := hw _ (List.mem_of_getElem? (i := 64) rfl)
theorem tw65 {Z : State} {a0 : Array Value} (hw : ∀ d ∈ tables_1, d.before a0 Z = true) : ((Jvm.Cond.selects "com/example/kaskade/kaskade/simulation/SlotQueue" ({ cls := "com/example/kaskade/kaskade/simulation/SlotQueue", name := "poll", desc := "()I" } : Jvm.MethodName) ({ cls := "com/example/kaskade/kaskade/simulation/SlotQueue", name := "poll", desc := "()I" } : Jvm.MethodName))).before a0 Z = true := hw _ (List.mem_of_getElem? (i := 65) rfl)
theorem tw66 {Z : State} {a0 : Array Value} (hw : ∀ d ∈ tables_1, d.before a0 Z = true) : ((Jvm.Cond.code ({ cls := "com/example/kaskade/kaskade/simulation/SlotQueue", name := "poll", desc := "()I" } : Jvm.MethodName) prog_23_method_7_code (2 : Nat) (Option.some Jvm.ClassFile.FieldType.int))).before a0 Z = true := hw _ (List.mem_of_getElem? (i := 66) rfl)
theorem tw67 {Z : State} {a0 : Array Value} (hw : ∀ d ∈ tables_1, d.before a0 Z = true) : ((Jvm.Cond.methodLink "com/example/kaskade/kaskade/simulation/SlotQueue" (50 : Nat) ({ cls := "com/example/kaskade/kaskade/simulation/SlotQueue", name := "removeAt", desc := "(I)V" } : Jvm.MethodName))).before a0 Z = true := hw _ (List.mem_of_getElem? (i := 67) rfl)
theorem tw68 {Z : State} {a0 : Array Value} (hw : ∀ d ∈ tables_1, d.before a0 Z = true) : ((Jvm.Cond.instanceMethod ({ cls := "com/example/kaskade/kaskade/simulation/SlotQueue", name := "removeAt", desc := "(I)V" } : Jvm.MethodName))).before a0 Z = true := hw _ (List.mem_of_getElem? (i := 68) rfl)
theorem tw69 {Z : State} {a0 : Array Value} (hw : ∀ d ∈ tables_1, d.before a0 Z = true) : ((Jvm.Cond.privateMethod ({ cls := "com/example/kaskade/kaskade/simulation/SlotQueue", name := "removeAt", desc := "(I)V" } : Jvm.MethodName))).before a0 Z = true := hw _ (List.mem_of_getElem? (i := 69) rfl)
theorem tw70 {Z : State} {a0 : Array Value} (hw : ∀ d ∈ tables_1, d.before a0 Z = true) : ((Jvm.Cond.code ({ cls := "com/example/kaskade/kaskade/simulation/SlotQueue", name := "removeAt", desc := "(I)V" } : Jvm.MethodName) prog_23_method_9_code (5 : Nat) (Option.none : Option Jvm.ClassFile.FieldType))).before a0 Z = true := hw _ (List.mem_of_getElem? (i := 70) rfl)
theorem tw71 {Z : State} {a0 : Array Value} (hw : ∀ d ∈ tables_1, d.before a0 Z = true) : ((Jvm.Cond.methodLink "com/example/kaskade/kaskade/simulation/SlotQueue" (58 : Nat) ({ cls := "com/example/kaskade/kaskade/simulation/SlotQueue", name := "down", desc := "(IID)V" } : Jvm.MethodName))).before a0 Z = true := hw _ (List.mem_of_getElem? (i := 71) rfl)
theorem tw72 {Z : State} {a0 : Array Value} (hw : ∀ d ∈ tables_1, d.before a0 Z = true) : ((Jvm.Cond.instanceMethod ({ cls := "com/example/kaskade/kaskade/simulation/SlotQueue", name := "down", desc := "(IID)V" } : Jvm.MethodName))).before a0 Z = true := hw _ (List.mem_of_getElem? (i := 72) rfl)
theorem tw73 {Z : State} {a0 : Array Value} (hw : ∀ d ∈ tables_1, d.before a0 Z = true) : ((Jvm.Cond.privateMethod ({ cls := "com/example/kaskade/kaskade/simulation/SlotQueue", name := "down", desc := "(IID)V" } : Jvm.MethodName))).before a0 Z = true := hw _ (List.mem_of_getElem? (i := 73) rfl)
theorem tw74 {Z : State} {a0 : Array Value} (hw : ∀ d ∈ tables_1, d.before a0 Z = true) : ((Jvm.Cond.code ({ cls := "com/example/kaskade/kaskade/simulation/SlotQueue", name := "down", desc := "(IID)V" } : Jvm.MethodName) prog_23_method_11_code (7 : Nat) (Option.none : Option Jvm.ClassFile.FieldType))).before a0 Z = true := hw _ (List.mem_of_getElem? (i := 74) rfl)
theorem tw75 {Z : State} {a0 : Array Value} (hw : ∀ d ∈ tables_1, d.before a0 Z = true) : ((Jvm.Cond.methodLink "com/example/kaskade/kaskade/simulation/SlotQueue" (64 : Nat) ({ cls := "com/example/kaskade/kaskade/simulation/SlotQueue", name := "firstChild", desc := "(I)I" } : Jvm.MethodName))).before a0 Z = true := hw _ (List.mem_of_getElem? (i := 75) rfl)
theorem tw76 {Z : State} {a0 : Array Value} (hw : ∀ d ∈ tables_1, d.before a0 Z = true) : ((Jvm.Cond.instanceMethod ({ cls := "com/example/kaskade/kaskade/simulation/SlotQueue", name := "firstChild", desc := "(I)I" } : Jvm.MethodName))).before a0 Z = true := hw _ (List.mem_of_getElem? (i := 76) rfl)
theorem tw77 {Z : State} {a0 : Array Value} (hw : ∀ d ∈ tables_1, d.before a0 Z = true) : ((Jvm.Cond.privateMethod ({ cls := "com/example/kaskade/kaskade/simulation/SlotQueue", name := "firstChild", desc := "(I)I" } : Jvm.MethodName))).before a0 Z = true := hw _ (List.mem_of_getElem? (i := 77) rfl)
theorem tw78 {Z : State} {a0 : Array Value} (hw : ∀ d ∈ tables_1, d.before a0 Z = true) : ((Jvm.Cond.code ({ cls := "com/example/kaskade/kaskade/simulation/SlotQueue", name := "firstChild", desc := "(I)I" } : Jvm.MethodName) prog_23_method_12_code (3 : Nat) (Option.some Jvm.ClassFile.FieldType.int))).before a0 Z = true := hw _ (List.mem_of_getElem? (i := 78) rfl)
theorem d1_0 : decode jdk_29_method_69_code 0 = .ok (.iload_n 0, 1) := by decide +kernel
theorem d1_1 : decode jdk_29_method_69_code 1 = .ok (.iload_n 1, 1) := by decide +kernel
theorem d1_2 : decode jdk_29_method_69_code 2 = .ok (.if_icmp .gt 7, 3) := by decide +kernel
theorem d1_5 : decode jdk_29_method_69_code 5 = .ok (.iload_n 0, 1) := by decide +kernel
theorem d1_6 : decode jdk_29_method_69_code 6 = .ok (.goto 4, 3) := by decide +kernel
theorem d1_9 : decode jdk_29_method_69_code 9 = .ok (.iload_n 1, 1) := by decide +kernel
theorem d1_10 : decode jdk_29_method_69_code 10 = .ok (.ireturn, 1) := by decide +kernel
theorem d2_0 : decode prog_23_method_1_code 0 = .ok (.aload_n 0, 1) := by decide +kernel
theorem d2_1 : decode prog_23_method_1_code 1 = .ok (.invokespecial 1, 3) := by decide +kernel
theorem d2_4 : decode prog_23_method_1_code 4 = .ok (.aload_n 0, 1) := by decide +kernel
theorem d2_5 : decode prog_23_method_1_code 5 = .ok (.bipush 16, 2) := by decide +kernel
theorem d2_7 : decode prog_23_method_1_code 7 = .ok (.newarray .int, 2) := by decide +kernel
theorem d2_9 : decode prog_23_method_1_code 9 = .ok (.putfield 7, 3) := by decide +kernel
theorem d2_12 : decode prog_23_method_1_code 12 = .ok (.aload_n 0, 1) := by decide +kernel
theorem d2_13 : decode prog_23_method_1_code 13 = .ok (.bipush 16, 2) := by decide +kernel
theorem d2_15 : decode prog_23_method_1_code 15 = .ok (.newarray .double, 2) := by decide +kernel
theorem d2_17 : decode prog_23_method_1_code 17 = .ok (.putfield 13, 3) := by decide +kernel
theorem d2_20 : decode prog_23_method_1_code 20 = .ok (.aload_n 0, 1) := by decide +kernel
theorem d2_21 : decode prog_23_method_1_code 21 = .ok (.bipush 16, 2) := by decide +kernel
theorem d2_23 : decode prog_23_method_1_code 23 = .ok (.newarray .int, 2) := by decide +kernel
theorem d2_25 : decode prog_23_method_1_code 25 = .ok (.putfield 17, 3) := by decide +kernel
theorem d2_28 : decode prog_23_method_1_code 28 = .ok (.aload_n 0, 1) := by decide +kernel
theorem d2_29 : decode prog_23_method_1_code 29 = .ok (.getfield 17, 3) := by decide +kernel
theorem d2_32 : decode prog_23_method_1_code 32 = .ok (.iconst (-1), 1) := by decide +kernel
theorem d2_33 : decode prog_23_method_1_code 33 = .ok (.invokestatic 20, 3) := by decide +kernel
theorem d2_36 : decode prog_23_method_1_code 36 = .ok (.return_, 1) := by decide +kernel
theorem d4_0 : decode jdk_65_method_103_code 0 = .ok (.iconst 0, 1) := by decide +kernel
theorem d4_1 : decode jdk_65_method_103_code 1 = .ok (.istore_n 2, 1) := by decide +kernel
theorem d4_2 : decode jdk_65_method_103_code 2 = .ok (.aload_n 0, 1) := by decide +kernel
theorem d4_3 : decode jdk_65_method_103_code 3 = .ok (.arraylength, 1) := by decide +kernel
theorem d4_4 : decode jdk_65_method_103_code 4 = .ok (.istore_n 3, 1) := by decide +kernel
theorem d4_5 : decode jdk_65_method_103_code 5 = .ok (.iload_n 2, 1) := by decide +kernel
theorem d4_6 : decode jdk_65_method_103_code 6 = .ok (.iload_n 3, 1) := by decide +kernel
theorem d4_7 : decode jdk_65_method_103_code 7 = .ok (.if_icmp .ge 13, 3) := by decide +kernel
theorem d4_10 : decode jdk_65_method_103_code 10 = .ok (.aload_n 0, 1) := by decide +kernel
theorem d4_11 : decode jdk_65_method_103_code 11 = .ok (.iload_n 2, 1) := by decide +kernel
theorem d4_12 : decode jdk_65_method_103_code 12 = .ok (.iload_n 1, 1) := by decide +kernel
theorem d4_13 : decode jdk_65_method_103_code 13 = .ok (.iastore, 1) := by decide +kernel
theorem d4_14 : decode jdk_65_method_103_code 14 = .ok (.iinc 2 1, 3) := by decide +kernel
theorem d4_17 : decode jdk_65_method_103_code 17 = .ok (.goto (-12), 3) := by decide +kernel
theorem d4_20 : decode jdk_65_method_103_code 20 = .ok (.return_, 1) := by decide +kernel
theorem d5_0 : decode prog_23_method_2_code 0 = .ok (.aload_n 0, 1) := by decide +kernel
theorem d5_1 : decode prog_23_method_2_code 1 = .ok (.getfield 26, 3) := by decide +kernel
theorem d5_4 : decode prog_23_method_2_code 4 = .ok (.ifCond .ne 7, 3) := by decide +kernel
theorem d5_7 : decode prog_23_method_2_code 7 = .ok (.iconst 1, 1) := by decide +kernel
theorem d5_8 : decode prog_23_method_2_code 8 = .ok (.goto 4, 3) := by decide +kernel
theorem d5_11 : decode prog_23_method_2_code 11 = .ok (.iconst 0, 1) := by decide +kernel
theorem d5_12 : decode prog_23_method_2_code 12 = .ok (.ireturn, 1) := by decide +kernel
theorem d6_0 : decode prog_23_method_6_code 0 = .ok (.iload_n 1, 1) := by decide +kernel
theorem d6_1 : decode prog_23_method_6_code 1 = .ok (.aload_n 0, 1) := by decide +kernel
theorem d6_2 : decode prog_23_method_6_code 2 = .ok (.getfield 17, 3) := by decide +kernel
theorem d6_5 : decode prog_23_method_6_code 5 = .ok (.arraylength, 1) := by decide +kernel
theorem d6_6 : decode prog_23_method_6_code 6 = .ok (.if_icmp .lt 46, 3) := by decide +kernel
theorem d6_9 : decode prog_23_method_6_code 9 = .ok (.aload_n 0, 1) := by decide +kernel
theorem d6_10 : decode prog_23_method_6_code 10 = .ok (.getfield 17, 3) := by decide +kernel
theorem d6_13 : decode prog_23_method_6_code 13 = .ok (.arraylength, 1) := by decide +kernel
theorem d6_14 : decode prog_23_method_6_code 14 = .ok (.istore 4, 2) := by decide +kernel
theorem d6_16 : decode prog_23_method_6_code 16 = .ok (.aload_n 0, 1) := by decide +kernel
theorem d6_17 : decode prog_23_method_6_code 17 = .ok (.aload_n 0, 1) := by decide +kernel
theorem d6_18 : decode prog_23_method_6_code 18 = .ok (.getfield 17, 3) := by decide +kernel
theorem d6_21 : decode prog_23_method_6_code 21 = .ok (.iload_n 1, 1) := by decide +kernel
theorem d6_22 : decode prog_23_method_6_code 22 = .ok (.iconst 1, 1) := by decide +kernel
theorem d6_23 : decode prog_23_method_6_code 23 = .ok (.iadd, 1) := by decide +kernel
theorem d6_24 : decode prog_23_method_6_code 24 = .ok (.iconst 2, 1) := by decide +kernel
theorem d6_25 : decode prog_23_method_6_code 25 = .ok (.iload 4, 2) := by decide +kernel
theorem d6_27 : decode prog_23_method_6_code 27 = .ok (.imul, 1) := by decide +kernel
theorem d6_28 : decode prog_23_method_6_code 28 = .ok (.invokestatic 30, 3) := by decide +kernel
theorem d6_31 : decode prog_23_method_6_code 31 = .ok (.invokestatic 36, 3) := by decide +kernel
theorem d6_34 : decode prog_23_method_6_code 34 = .ok (.putfield 17, 3) := by decide +kernel
theorem d6_37 : decode prog_23_method_6_code 37 = .ok (.aload_n 0, 1) := by decide +kernel
theorem d6_38 : decode prog_23_method_6_code 38 = .ok (.getfield 17, 3) := by decide +kernel
theorem d6_41 : decode prog_23_method_6_code 41 = .ok (.iload 4, 2) := by decide +kernel
theorem d6_43 : decode prog_23_method_6_code 43 = .ok (.aload_n 0, 1) := by decide +kernel
theorem d6_44 : decode prog_23_method_6_code 44 = .ok (.getfield 17, 3) := by decide +kernel
theorem d6_47 : decode prog_23_method_6_code 47 = .ok (.arraylength, 1) := by decide +kernel
theorem d6_48 : decode prog_23_method_6_code 48 = .ok (.iconst (-1), 1) := by decide +kernel
theorem d6_49 : decode prog_23_method_6_code 49 = .ok (.invokestatic 40, 3) := by decide +kernel
theorem d6_52 : decode prog_23_method_6_code 52 = .ok (.aload_n 0, 1) := by decide +kernel
theorem d6_53 : decode prog_23_method_6_code 53 = .ok (.getfield 26, 3) := by decide +kernel
theorem d6_56 : decode prog_23_method_6_code 56 = .ok (.aload_n 0, 1) := by decide +kernel
theorem d6_57 : decode prog_23_method_6_code 57 = .ok (.getfield 7, 3) := by decide +kernel
theorem d6_60 : decode prog_23_method_6_code 60 = .ok (.arraylength, 1) := by decide +kernel
theorem d6_61 : decode prog_23_method_6_code 61 = .ok (.if_icmp .ne 37, 3) := by decide +kernel
theorem d6_98 : decode prog_23_method_6_code 98 = .ok (.aload_n 0, 1) := by decide +kernel
theorem d6_99 : decode prog_23_method_6_code 99 = .ok (.aload_n 0, 1) := by decide +kernel
theorem d6_100 : decode prog_23_method_6_code 100 = .ok (.dup, 1) := by decide +kernel
theorem d6_101 : decode prog_23_method_6_code 101 = .ok (.getfield 26, 3) := by decide +kernel
theorem d6_104 : decode prog_23_method_6_code 104 = .ok (.dup_x1, 1) := by decide +kernel
theorem d6_105 : decode prog_23_method_6_code 105 = .ok (.iconst 1, 1) := by decide +kernel
theorem d6_106 : decode prog_23_method_6_code 106 = .ok (.iadd, 1) := by decide +kernel
theorem d6_107 : decode prog_23_method_6_code 107 = .ok (.putfield 26, 3) := by decide +kernel
theorem d6_110 : decode prog_23_method_6_code 110 = .ok (.iload_n 1, 1) := by decide +kernel
theorem d6_111 : decode prog_23_method_6_code 111 = .ok (.dload_n 2, 1) := by decide +kernel
theorem d6_112 : decode prog_23_method_6_code 112 = .ok (.invokevirtual 46, 3) := by decide +kernel
theorem d6_115 : decode prog_23_method_6_code 115 = .ok (.return_, 1) := by decide +kernel
theorem d7_0 : decode jdk_29_method_65_code 0 = .ok (.iload_n 0, 1) := by decide +kernel
theorem d7_1 : decode jdk_29_method_65_code 1 = .ok (.iload_n 1, 1) := by decide +kernel
theorem d7_2 : decode jdk_29_method_65_code 2 = .ok (.if_icmp .lt 7, 3) := by decide +kernel
theorem d7_5 : decode jdk_29_method_65_code 5 = .ok (.iload_n 0, 1) := by decide +kernel
theorem d7_6 : decode jdk_29_method_65_code 6 = .ok (.goto 4, 3) := by decide +kernel
theorem d7_9 : decode jdk_29_method_65_code 9 = .ok (.iload_n 1, 1) := by decide +kernel
theorem d7_10 : decode jdk_29_method_65_code 10 = .ok (.ireturn, 1) := by decide +kernel
theorem d8_0 : decode jdk_65_method_123_code 0 = .ok (.iload_n 1, 1) := by decide +kernel
theorem d8_1 : decode jdk_65_method_123_code 1 = .ok (.aload_n 0, 1) := by decide +kernel
theorem d8_2 : decode jdk_65_method_123_code 2 = .ok (.arraylength, 1) := by decide +kernel
theorem d8_3 : decode jdk_65_method_123_code 3 = .ok (.if_icmp .ne 11, 3) := by decide +kernel
theorem d8_14 : decode jdk_65_method_123_code 14 = .ok (.iload_n 1, 1) := by decide +kernel
theorem d8_15 : decode jdk_65_method_123_code 15 = .ok (.newarray .int, 2) := by decide +kernel
theorem d8_17 : decode jdk_65_method_123_code 17 = .ok (.astore_n 2, 1) := by decide +kernel
theorem d8_18 : decode jdk_65_method_123_code 18 = .ok (.aload_n 0, 1) := by decide +kernel
theorem d8_19 : decode jdk_65_method_123_code 19 = .ok (.iconst 0, 1) := by decide +kernel
theorem d8_20 : decode jdk_65_method_123_code 20 = .ok (.aload_n 2, 1) := by decide +kernel
theorem d8_21 : decode jdk_65_method_123_code 21 = .ok (.iconst 0, 1) := by decide +kernel
theorem d8_22 : decode jdk_65_method_123_code 22 = .ok (.aload_n 0, 1) := by decide +kernel
theorem d8_23 : decode jdk_65_method_123_code 23 = .ok (.arraylength, 1) := by decide +kernel
theorem d8_24 : decode jdk_65_method_123_code 24 = .ok (.iload_n 1, 1) := by decide +kernel
theorem d8_25 : decode jdk_65_method_123_code 25 = .ok (.invokestatic 304, 3) := by decide +kernel
theorem d8_28 : decode jdk_65_method_123_code 28 = .ok (.invokestatic 150, 3) := by decide +kernel
theorem d8_31 : decode jdk_65_method_123_code 31 = .ok (.aload_n 2, 1) := by decide +kernel
theorem d8_32 : decode jdk_65_method_123_code 32 = .ok (.areturn, 1) := by decide +kernel
theorem d9_0 : decode jdk_65_method_104_code 0 = .ok (.aload_n 0, 1) := by decide +kernel
theorem d9_1 : decode jdk_65_method_104_code 1 = .ok (.arraylength, 1) := by decide +kernel
theorem d9_2 : decode jdk_65_method_104_code 2 = .ok (.iload_n 1, 1) := by decide +kernel
theorem d9_3 : decode jdk_65_method_104_code 3 = .ok (.iload_n 2, 1) := by decide +kernel
theorem d9_4 : decode jdk_65_method_104_code 4 = .ok (.invokestatic 13, 3) := by decide +kernel
theorem d9_7 : decode jdk_65_method_104_code 7 = .ok (.iload_n 1, 1) := by decide +kernel
theorem d9_8 : decode jdk_65_method_104_code 8 = .ok (.istore 4, 2) := by decide +kernel
theorem d9_10 : decode jdk_65_method_104_code 10 = .ok (.iload 4, 2) := by decide +kernel
theorem d9_12 : decode jdk_65_method_104_code 12 = .ok (.iload_n 2, 1) := by decide +kernel
theorem d9_13 : decode jdk_65_method_104_code 13 = .ok (.if_icmp .ge 14, 3) := by decide +kernel
theorem d9_16 : decode jdk_65_method_104_code 16 = .ok (.aload_n 0, 1) := by decide +kernel
theorem d9_17 : decode jdk_65_method_104_code 17 = .ok (.iload 4, 2) := by decide +kernel
theorem d9_19 : decode jdk_65_method_104_code 19 = .ok (.iload_n 3, 1) := by decide +kernel
theorem d9_20 : decode jdk_65_method_104_code 20 = .ok (.iastore, 1) := by decide +kernel
theorem d9_21 : decode jdk_65_method_104_code 21 = .ok (.iinc 4 1, 3) := by decide +kernel
theorem d9_24 : decode jdk_65_method_104_code 24 = .ok (.goto (-14), 3) := by decide +kernel
theorem d9_27 : decode jdk_65_method_104_code 27 = .ok (.return_, 1) := by decide +kernel
theorem d10_0 : decode jdk_65_method_30_code 0 = .ok (.iload_n 1, 1) := by decide +kernel
theorem d10_1 : decode jdk_65_method_30_code 1 = .ok (.iload_n 2, 1) := by decide +kernel
theorem d10_2 : decode jdk_65_method_30_code 2 = .ok (.if_icmp .le 44, 3) := by decide +kernel
theorem d10_46 : decode jdk_65_method_30_code 46 = .ok (.iload_n 1, 1) := by decide +kernel
theorem d10_47 : decode jdk_65_method_30_code 47 = .ok (.ifCond .ge 12, 3) := by decide +kernel
theorem d10_59 : decode jdk_65_method_30_code 59 = .ok (.iload_n 2, 1) := by decide +kernel
theorem d10_60 : decode jdk_65_method_30_code 60 = .ok (.iload_n 0, 1) := by decide +kernel
theorem d10_61 : decode jdk_65_method_30_code 61 = .ok (.if_icmp .le 12, 3) := by decide +kernel
theorem d10_73 : decode jdk_65_method_30_code 73 = .ok (.return_, 1) := by decide +kernel
theorem d11_0 : decode prog_23_method_10_code 0 = .ok (.iload_n 1, 1) := by decide +kernel
theorem d11_1 : decode prog_23_method_10_code 1 = .ok (.istore 5, 2) := by decide +kernel
theorem d11_3 : decode prog_23_method_10_code 3 = .ok (.iload 5, 2) := by decide +kernel
theorem d11_5 : decode prog_23_method_10_code 5 = .ok (.ifCond .le 54, 3) := by decide +kernel
theorem d11_8 : decode prog_23_method_10_code 8 = .ok (.dload_n 3, 1) := by decide +kernel
theorem d11_9 : decode prog_23_method_10_code 9 = .ok (.aload_n 0, 1) := by decide +kernel
theorem d11_10 : decode prog_23_method_10_code 10 = .ok (.getfield 13, 3) := by decide +kernel
theorem d11_13 : decode prog_23_method_10_code 13 = .ok (.iload 5, 2) := by decide +kernel
theorem d11_15 : decode prog_23_method_10_code 15 = .ok (.iconst 1, 1) := by decide +kernel
theorem d11_16 : decode prog_23_method_10_code 16 = .ok (.isub, 1) := by decide +kernel
theorem d11_17 : decode prog_23_method_10_code 17 = .ok (.iconst 2, 1) := by decide +kernel
theorem d11_18 : decode prog_23_method_10_code 18 = .ok (.idiv, 1) := by decide +kernel
theorem d11_19 : decode prog_23_method_10_code 19 = .ok (.daload, 1) := by decide +kernel
theorem d11_20 : decode prog_23_method_10_code 20 = .ok (.dcmp .g, 1) := by decide +kernel
theorem d11_21 : decode prog_23_method_10_code 21 = .ok (.ifCond .ge 38, 3) := by decide +kernel
theorem d11_24 : decode prog_23_method_10_code 24 = .ok (.iload 5, 2) := by decide +kernel
theorem d11_26 : decode prog_23_method_10_code 26 = .ok (.iconst 1, 1) := by decide +kernel
theorem d11_27 : decode prog_23_method_10_code 27 = .ok (.isub, 1) := by decide +kernel
theorem d11_28 : decode prog_23_method_10_code 28 = .ok (.iconst 2, 1) := by decide +kernel
theorem d11_29 : decode prog_23_method_10_code 29 = .ok (.idiv, 1) := by decide +kernel
theorem d11_30 : decode prog_23_method_10_code 30 = .ok (.istore 6, 2) := by decide +kernel
theorem d11_32 : decode prog_23_method_10_code 32 = .ok (.aload_n 0, 1) := by decide +kernel
theorem d11_33 : decode prog_23_method_10_code 33 = .ok (.iload 5, 2) := by decide +kernel
theorem d11_35 : decode prog_23_method_10_code 35 = .ok (.aload_n 0, 1) := by decide +kernel
theorem d11_36 : decode prog_23_method_10_code 36 = .ok (.getfield 7, 3) := by decide +kernel
theorem d11_39 : decode prog_23_method_10_code 39 = .ok (.iload 6, 2) := by decide +kernel
theorem d11_41 : decode prog_23_method_10_code 41 = .ok (.iaload, 1) := by decide +kernel
theorem d11_42 : decode prog_23_method_10_code 42 = .ok (.aload_n 0, 1) := by decide +kernel
theorem d11_43 : decode prog_23_method_10_code 43 = .ok (.getfield 13, 3) := by decide +kernel
theorem d11_46 : decode prog_23_method_10_code 46 = .ok (.iload 6, 2) := by decide +kernel
theorem d11_48 : decode prog_23_method_10_code 48 = .ok (.daload, 1) := by decide +kernel
theorem d11_49 : decode prog_23_method_10_code 49 = .ok (.invokevirtual 61, 3) := by decide +kernel
theorem d11_52 : decode prog_23_method_10_code 52 = .ok (.iload 6, 2) := by decide +kernel
theorem d11_54 : decode prog_23_method_10_code 54 = .ok (.istore 5, 2) := by decide +kernel
theorem d11_56 : decode prog_23_method_10_code 56 = .ok (.goto (-53), 3) := by decide +kernel
theorem d11_59 : decode prog_23_method_10_code 59 = .ok (.aload_n 0, 1) := by decide +kernel
theorem d11_60 : decode prog_23_method_10_code 60 = .ok (.iload 5, 2) := by decide +kernel
theorem d11_62 : decode prog_23_method_10_code 62 = .ok (.iload_n 2, 1) := by decide +kernel
theorem d11_63 : decode prog_23_method_10_code 63 = .ok (.dload_n 3, 1) := by decide +kernel
theorem d11_64 : decode prog_23_method_10_code 64 = .ok (.invokevirtual 61, 3) := by decide +kernel
theorem d11_67 : decode prog_23_method_10_code 67 = .ok (.return_, 1) := by decide +kernel
theorem d12_0 : decode prog_23_method_13_code 0 = .ok (.aload_n 0, 1) := by decide +kernel
theorem d12_1 : decode prog_23_method_13_code 1 = .ok (.getfield 7, 3) := by decide +kernel
theorem d12_4 : decode prog_23_method_13_code 4 = .ok (.iload_n 1, 1) := by decide +kernel
theorem d12_5 : decode prog_23_method_13_code 5 = .ok (.iload_n 2, 1) := by decide +kernel
theorem d12_6 : decode prog_23_method_13_code 6 = .ok (.iastore, 1) := by decide +kernel
theorem d12_7 : decode prog_23_method_13_code 7 = .ok (.aload_n 0, 1) := by decide +kernel
theorem d12_8 : decode prog_23_method_13_code 8 = .ok (.getfield 13, 3) := by decide +kernel
theorem d12_11 : decode prog_23_method_13_code 11 = .ok (.iload_n 1, 1) := by decide +kernel
theorem d12_12 : decode prog_23_method_13_code 12 = .ok (.dload_n 3, 1) := by decide +kernel
theorem d12_13 : decode prog_23_method_13_code 13 = .ok (.dastore, 1) := by decide +kernel
theorem d12_14 : decode prog_23_method_13_code 14 = .ok (.aload_n 0, 1) := by decide +kernel
theorem d12_15 : decode prog_23_method_13_code 15 = .ok (.getfield 17, 3) := by decide +kernel
theorem d12_18 : decode prog_23_method_13_code 18 = .ok (.iload_n 2, 1) := by decide +kernel
theorem d12_19 : decode prog_23_method_13_code 19 = .ok (.iload_n 1, 1) := by decide +kernel
theorem d12_20 : decode prog_23_method_13_code 20 = .ok (.iastore, 1) := by decide +kernel
theorem d12_21 : decode prog_23_method_13_code 21 = .ok (.return_, 1) := by decide +kernel
theorem d13_0 : decode prog_23_method_7_code 0 = .ok (.aload_n 0, 1) := by decide +kernel
theorem d13_1 : decode prog_23_method_7_code 1 = .ok (.getfield 7, 3) := by decide +kernel
theorem d13_4 : decode prog_23_method_7_code 4 = .ok (.iconst 0, 1) := by decide +kernel
theorem d13_5 : decode prog_23_method_7_code 5 = .ok (.iaload, 1) := by decide +kernel
theorem d13_6 : decode prog_23_method_7_code 6 = .ok (.istore_n 1, 1) := by decide +kernel
theorem d13_7 : decode prog_23_method_7_code 7 = .ok (.aload_n 0, 1) := by decide +kernel
theorem d13_8 : decode prog_23_method_7_code 8 = .ok (.iconst 0, 1) := by decide +kernel
theorem d13_9 : decode prog_23_method_7_code 9 = .ok (.invokevirtual 50, 3) := by decide +kernel
theorem d13_12 : decode prog_23_method_7_code 12 = .ok (.iload_n 1, 1) := by decide +kernel
theorem d13_13 : decode prog_23_method_7_code 13 = .ok (.ireturn, 1) := by decide +kernel
theorem d14_0 : decode prog_23_method_9_code 0 = .ok (.aload_n 0, 1) := by decide +kernel
theorem d14_1 : decode prog_23_method_9_code 1 = .ok (.getfield 17, 3) := by decide +kernel
theorem d14_4 : decode prog_23_method_9_code 4 = .ok (.aload_n 0, 1) := by decide +kernel
theorem d14_5 : decode prog_23_method_9_code 5 = .ok (.getfield 7, 3) := by decide +kernel
theorem d14_8 : decode prog_23_method_9_code 8 = .ok (.iload_n 1, 1) := by decide +kernel
theorem d14_9 : decode prog_23_method_9_code 9 = .ok (.iaload, 1) := by decide +kernel
theorem d14_10 : decode prog_23_method_9_code 10 = .ok (.iconst (-1), 1) := by decide +kernel
theorem d14_11 : decode prog_23_method_9_code 11 = .ok (.iastore, 1) := by decide +kernel
theorem d14_12 : decode prog_23_method_9_code 12 = .ok (.aload_n 0, 1) := by decide +kernel
theorem d14_13 : decode prog_23_method_9_code 13 = .ok (.dup, 1) := by decide +kernel
theorem d14_14 : decode prog_23_method_9_code 14 = .ok (.getfield 26, 3) := by decide +kernel
theorem d14_17 : decode prog_23_method_9_code 17 = .ok (.iconst 1, 1) := by decide +kernel
theorem d14_18 : decode prog_23_method_9_code 18 = .ok (.isub, 1) := by decide +kernel
theorem d14_19 : decode prog_23_method_9_code 19 = .ok (.putfield 26, 3) := by decide +kernel
theorem d14_22 : decode prog_23_method_9_code 22 = .ok (.iload_n 1, 1) := by decide +kernel
theorem d14_23 : decode prog_23_method_9_code 23 = .ok (.aload_n 0, 1) := by decide +kernel
theorem d14_24 : decode prog_23_method_9_code 24 = .ok (.getfield 26, 3) := by decide +kernel
theorem d14_27 : decode prog_23_method_9_code 27 = .ok (.if_icmp .ge 47, 3) := by decide +kernel
theorem d14_30 : decode prog_23_method_9_code 30 = .ok (.aload_n 0, 1) := by decide +kernel
theorem d14_31 : decode prog_23_method_9_code 31 = .ok (.getfield 7, 3) := by decide +kernel
theorem d14_34 : decode prog_23_method_9_code 34 = .ok (.aload_n 0, 1) := by decide +kernel
theorem d14_35 : decode prog_23_method_9_code 35 = .ok (.getfield 26, 3) := by decide +kernel
theorem d14_38 : decode prog_23_method_9_code 38 = .ok (.iaload, 1) := by decide +kernel
theorem d14_39 : decode prog_23_method_9_code 39 = .ok (.istore_n 2, 1) := by decide +kernel
theorem d14_40 : decode prog_23_method_9_code 40 = .ok (.aload_n 0, 1) := by decide +kernel
theorem d14_41 : decode prog_23_method_9_code 41 = .ok (.getfield 13, 3) := by decide +kernel
theorem d14_44 : decode prog_23_method_9_code 44 = .ok (.aload_n 0, 1) := by decide +kernel
theorem d14_45 : decode prog_23_method_9_code 45 = .ok (.getfield 26, 3) := by decide +kernel
theorem d14_48 : decode prog_23_method_9_code 48 = .ok (.daload, 1) := by decide +kernel
theorem d14_49 : decode prog_23_method_9_code 49 = .ok (.dstore_n 3, 1) := by decide +kernel
theorem d14_50 : decode prog_23_method_9_code 50 = .ok (.aload_n 0, 1) := by decide +kernel
theorem d14_51 : decode prog_23_method_9_code 51 = .ok (.iload_n 1, 1) := by decide +kernel
theorem d14_52 : decode prog_23_method_9_code 52 = .ok (.iload_n 2, 1) := by decide +kernel
theorem d14_53 : decode prog_23_method_9_code 53 = .ok (.dload_n 3, 1) := by decide +kernel
theorem d14_54 : decode prog_23_method_9_code 54 = .ok (.invokevirtual 58, 3) := by decide +kernel
theorem d14_57 : decode prog_23_method_9_code 57 = .ok (.aload_n 0, 1) := by decide +kernel
theorem d14_58 : decode prog_23_method_9_code 58 = .ok (.getfield 7, 3) := by decide +kernel
theorem d14_61 : decode prog_23_method_9_code 61 = .ok (.iload_n 1, 1) := by decide +kernel
theorem d14_62 : decode prog_23_method_9_code 62 = .ok (.iaload, 1) := by decide +kernel
theorem d14_63 : decode prog_23_method_9_code 63 = .ok (.iload_n 2, 1) := by decide +kernel
theorem d14_64 : decode prog_23_method_9_code 64 = .ok (.if_icmp .ne 10, 3) := by decide +kernel
theorem d14_67 : decode prog_23_method_9_code 67 = .ok (.aload_n 0, 1) := by decide +kernel
theorem d14_68 : decode prog_23_method_9_code 68 = .ok (.iload_n 1, 1) := by decide +kernel
theorem d14_69 : decode prog_23_method_9_code 69 = .ok (.iload_n 2, 1) := by decide +kernel
theorem d14_70 : decode prog_23_method_9_code 70 = .ok (.dload_n 3, 1) := by decide +kernel
theorem d14_71 : decode prog_23_method_9_code 71 = .ok (.invokevirtual 46, 3) := by decide +kernel
theorem d14_74 : decode prog_23_method_9_code 74 = .ok (.return_, 1) := by decide +kernel
theorem d15_0 : decode prog_23_method_11_code 0 = .ok (.iload_n 1, 1) := by decide +kernel
theorem d15_1 : decode prog_23_method_11_code 1 = .ok (.istore 5, 2) := by decide +kernel
theorem d15_3 : decode prog_23_method_11_code 3 = .ok (.aload_n 0, 1) := by decide +kernel
theorem d15_4 : decode prog_23_method_11_code 4 = .ok (.iload 5, 2) := by decide +kernel
theorem d15_6 : decode prog_23_method_11_code 6 = .ok (.invokevirtual 64, 3) := by decide +kernel
theorem d15_9 : decode prog_23_method_11_code 9 = .ok (.istore 6, 2) := by decide +kernel
theorem d15_11 : decode prog_23_method_11_code 11 = .ok (.iload 6, 2) := by decide +kernel
theorem d15_13 : decode prog_23_method_11_code 13 = .ok (.aload_n 0, 1) := by decide +kernel
theorem d15_14 : decode prog_23_method_11_code 14 = .ok (.getfield 26, 3) := by decide +kernel
theorem d15_17 : decode prog_23_method_11_code 17 = .ok (.if_icmp .ge 50, 3) := by decide +kernel
theorem d15_20 : decode prog_23_method_11_code 20 = .ok (.aload_n 0, 1) := by decide +kernel
theorem d15_21 : decode prog_23_method_11_code 21 = .ok (.getfield 13, 3) := by decide +kernel
theorem d15_24 : decode prog_23_method_11_code 24 = .ok (.iload 6, 2) := by decide +kernel
theorem d15_26 : decode prog_23_method_11_code 26 = .ok (.daload, 1) := by decide +kernel
theorem d15_27 : decode prog_23_method_11_code 27 = .ok (.dload_n 3, 1) := by decide +kernel
theorem d15_28 : decode prog_23_method_11_code 28 = .ok (.dcmp .g, 1) := by decide +kernel
theorem d15_29 : decode prog_23_method_11_code 29 = .ok (.ifCond .ge 38, 3) := by decide +kernel
theorem d15_32 : decode prog_23_method_11_code 32 = .ok (.aload_n 0, 1) := by decide +kernel
theorem d15_33 : decode prog_23_method_11_code 33 = .ok (.iload 5, 2) := by decide +kernel
theorem d15_35 : decode prog_23_method_11_code 35 = .ok (.aload_n 0, 1) := by decide +kernel
theorem d15_36 : decode prog_23_method_11_code 36 = .ok (.getfield 7, 3) := by decide +kernel
theorem d15_39 : decode prog_23_method_11_code 39 = .ok (.iload 6, 2) := by decide +kernel
theorem d15_41 : decode prog_23_method_11_code 41 = .ok (.iaload, 1) := by decide +kernel
theorem d15_42 : decode prog_23_method_11_code 42 = .ok (.aload_n 0, 1) := by decide +kernel
theorem d15_43 : decode prog_23_method_11_code 43 = .ok (.getfield 13, 3) := by decide +kernel
theorem d15_46 : decode prog_23_method_11_code 46 = .ok (.iload 6, 2) := by decide +kernel
theorem d15_48 : decode prog_23_method_11_code 48 = .ok (.daload, 1) := by decide +kernel
theorem d15_49 : decode prog_23_method_11_code 49 = .ok (.invokevirtual 61, 3) := by decide +kernel
theorem d15_52 : decode prog_23_method_11_code 52 = .ok (.iload 6, 2) := by decide +kernel
theorem d15_54 : decode prog_23_method_11_code 54 = .ok (.istore 5, 2) := by decide +kernel
theorem d15_56 : decode prog_23_method_11_code 56 = .ok (.aload_n 0, 1) := by decide +kernel
theorem d15_57 : decode prog_23_method_11_code 57 = .ok (.iload 5, 2) := by decide +kernel
theorem d15_59 : decode prog_23_method_11_code 59 = .ok (.invokevirtual 64, 3) := by decide +kernel
theorem d15_62 : decode prog_23_method_11_code 62 = .ok (.istore 6, 2) := by decide +kernel
theorem d15_64 : decode prog_23_method_11_code 64 = .ok (.goto (-53), 3) := by decide +kernel
theorem d15_67 : decode prog_23_method_11_code 67 = .ok (.aload_n 0, 1) := by decide +kernel
theorem d15_68 : decode prog_23_method_11_code 68 = .ok (.iload 5, 2) := by decide +kernel
theorem d15_70 : decode prog_23_method_11_code 70 = .ok (.iload_n 2, 1) := by decide +kernel
theorem d15_71 : decode prog_23_method_11_code 71 = .ok (.dload_n 3, 1) := by decide +kernel
theorem d15_72 : decode prog_23_method_11_code 72 = .ok (.invokevirtual 61, 3) := by decide +kernel
theorem d15_75 : decode prog_23_method_11_code 75 = .ok (.return_, 1) := by decide +kernel
theorem d16_0 : decode prog_23_method_12_code 0 = .ok (.iconst 2, 1) := by decide +kernel
theorem d16_1 : decode prog_23_method_12_code 1 = .ok (.iload_n 1, 1) := by decide +kernel
theorem d16_2 : decode prog_23_method_12_code 2 = .ok (.imul, 1) := by decide +kernel
theorem d16_3 : decode prog_23_method_12_code 3 = .ok (.iconst 1, 1) := by decide +kernel
theorem d16_4 : decode prog_23_method_12_code 4 = .ok (.iadd, 1) := by decide +kernel
theorem d16_5 : decode prog_23_method_12_code 5 = .ok (.istore_n 2, 1) := by decide +kernel
theorem d16_6 : decode prog_23_method_12_code 6 = .ok (.iload_n 2, 1) := by decide +kernel
theorem d16_7 : decode prog_23_method_12_code 7 = .ok (.iconst 1, 1) := by decide +kernel
theorem d16_8 : decode prog_23_method_12_code 8 = .ok (.iadd, 1) := by decide +kernel
theorem d16_9 : decode prog_23_method_12_code 9 = .ok (.aload_n 0, 1) := by decide +kernel
theorem d16_10 : decode prog_23_method_12_code 10 = .ok (.getfield 26, 3) := by decide +kernel
theorem d16_13 : decode prog_23_method_12_code 13 = .ok (.if_icmp .ge 27, 3) := by decide +kernel
theorem d16_16 : decode prog_23_method_12_code 16 = .ok (.aload_n 0, 1) := by decide +kernel
theorem d16_17 : decode prog_23_method_12_code 17 = .ok (.getfield 13, 3) := by decide +kernel
theorem d16_20 : decode prog_23_method_12_code 20 = .ok (.iload_n 2, 1) := by decide +kernel
theorem d16_21 : decode prog_23_method_12_code 21 = .ok (.iconst 1, 1) := by decide +kernel
theorem d16_22 : decode prog_23_method_12_code 22 = .ok (.iadd, 1) := by decide +kernel
theorem d16_23 : decode prog_23_method_12_code 23 = .ok (.daload, 1) := by decide +kernel
theorem d16_24 : decode prog_23_method_12_code 24 = .ok (.aload_n 0, 1) := by decide +kernel
theorem d16_25 : decode prog_23_method_12_code 25 = .ok (.getfield 13, 3) := by decide +kernel
theorem d16_28 : decode prog_23_method_12_code 28 = .ok (.iload_n 2, 1) := by decide +kernel
theorem d16_29 : decode prog_23_method_12_code 29 = .ok (.daload, 1) := by decide +kernel
theorem d16_30 : decode prog_23_method_12_code 30 = .ok (.dcmp .g, 1) := by decide +kernel
theorem d16_31 : decode prog_23_method_12_code 31 = .ok (.ifCond .ge 9, 3) := by decide +kernel
theorem d16_34 : decode prog_23_method_12_code 34 = .ok (.iload_n 2, 1) := by decide +kernel
theorem d16_35 : decode prog_23_method_12_code 35 = .ok (.iconst 1, 1) := by decide +kernel
theorem d16_36 : decode prog_23_method_12_code 36 = .ok (.iadd, 1) := by decide +kernel
theorem d16_37 : decode prog_23_method_12_code 37 = .ok (.goto 4, 3) := by decide +kernel
theorem d16_40 : decode prog_23_method_12_code 40 = .ok (.iload_n 2, 1) := by decide +kernel
theorem d16_41 : decode prog_23_method_12_code 41 = .ok (.ireturn, 1) := by decide +kernel
theorem pdo_0 : parseMethodDescriptor "(III)V" = some ⟨[.int, .int, .int], none⟩ := by decide +kernel
theorem pdo_1 : parseMethodDescriptor "(II)I" = some ⟨[.int, .int], some .int⟩ := by decide +kernel
theorem pdo_2 : parseMethodDescriptor "(IID)V" = some ⟨[.int, .int, .double], none⟩ := by decide +kernel
theorem pdo_3 : parseMethodDescriptor "(I)I" = some ⟨[.int], some .int⟩ := by decide +kernel
theorem pdo_4 : parseMethodDescriptor "(I)V" = some ⟨[.int], none⟩ := by decide +kernel
theorem pdo_5 : parseMethodDescriptor "([II)[I" = some ⟨[(.array .int), .int], some (.array .int)⟩ := by decide +kernel
theorem pdo_6 : parseMethodDescriptor "([IIII)V" = some ⟨[(.array .int), .int, .int, .int], none⟩ := by decide +kernel
theorem pdo_7 : parseMethodDescriptor "([II)V" = some ⟨[(.array .int), .int], none⟩ := by decide +kernel
theorem pdo_8 : parseMethodDescriptor "()Z" = some ⟨[], some .boolean⟩ := by decide +kernel
theorem pdo_9 : parseMethodDescriptor "()I" = some ⟨[], some .int⟩ := by decide +kernel
theorem pdo_10 : parseMethodDescriptor "(ID)V" = some ⟨[.int, .double], none⟩ := by decide +kernel
theorem pdo_11 : parseMethodDescriptor "()V" = some ⟨[], none⟩ := by decide +kernel
theorem pno_1 : plainFor (⟨"java/lang/Math", "min", "(II)I"⟩ : MethodName) = true := by first | exact plainFor_of_name (by first | (simp [plainName, overriddenIn]; done) | decide +kernel) | decide +kernel
theorem efo_1 (m : MethodId) (x0 : Int32) (x1 : Int32) : entryFrame m #[.int x0, .int x1] 2 = oF m 0 [.val (.int x0), .val (.int x1)] [] := by (first | (simp [entryFrame, oF, mkF, argsToLocals, Value.category]; done) | rfl)
set_option maxRecDepth 65536 in
set_option maxHeartbeats 40000000 in
theorem mMIN (l : Launch) (Z : State) (a0 : Array Value) (hw : ∀ d ∈ tables_1, d.before a0 Z = true) (x z : Nat) (h0 : Heap) (hx : x < 2 ^ 31) (hz : z < 2 ^ 31) :
    oMeets l Z (⟨"java/lang/Math", "min", "(II)I"⟩ : MethodName) jdk_29_method_69_code 2 (some .int) ({ frames := 0, cells := 0, slots := 0, locals := 0 } : Room) #[.int (Int32.ofNat x), .int (Int32.ofNat z)] h0 (fun a => h0.size ≤ a) (fun v h => v = some (.int (Int32.ofNat (min x z))) ∧ h = h0) := by
  refine oMeets.of pno_1 (fun _ q => q) (fun E _ q => Nat.le_trans E.1 q) (Ls := [.val (.int (Int32.ofNat x)), .val (.int (Int32.ofNat z))]) (fun m => efo_1 m (Int32.ofNat x) (Int32.ofNat z)) ?_
  intro p e s m below meth c C hs
  refine K_iloadN C (pc := 0) d1_0 rfl ?_
  refine K_iloadN C (pc := 1) d1_1 rfl ?_
  refine K_icmp C (pc := 2) 9 d1_2 (by decide) (by decide) (fun hc2 => ?_) (fun hc2 => ?_)
  · simp only [oC, Classical.not_not] at hc2
    refine K_iloadN C (pc := 9) d1_9 rfl ?_
    have hq := (oOfLt hz hx).mp hc2
    have em : min x z = z := by omega
    refine K_ireturn C (pc := 10) d1_10 (by simp) rfl (by decide) (by decide) (fun _ _ => ⟨by rw [em]; rfl, rfl⟩)
  · simp only [oC, Classical.not_not] at hc2
    refine K_iloadN C (pc := 5) d1_5 rfl ?_
    refine K_goto C (pc := 6) 10 d1_6 (by decide) (by decide) ?_
    have hq : ¬ z < x := fun r => hc2 ((oOfLt hz hx).mpr r)
    have em : min x z = x := by omega
    refine K_ireturn C (pc := 10) d1_10 (by simp) rfl (by decide) (by decide) (fun _ _ => ⟨by rw [em]; rfl, rfl⟩)
theorem pno_7 : plainFor (⟨"java/lang/Math", "max", "(II)I"⟩ : MethodName) = true := by first | exact plainFor_of_name (by first | (simp [plainName, overriddenIn]; done) | decide +kernel) | decide +kernel
theorem efo_7 (m : MethodId) (x0 : Int32) (x1 : Int32) : entryFrame m #[.int x0, .int x1] 2 = oF m 0 [.val (.int x0), .val (.int x1)] [] := by (first | (simp [entryFrame, oF, mkF, argsToLocals, Value.category]; done) | rfl)
set_option maxRecDepth 65536 in
set_option maxHeartbeats 40000000 in
theorem mMAX (l : Launch) (Z : State) (a0 : Array Value) (hw : ∀ d ∈ tables_1, d.before a0 Z = true) (x z : Nat) (h0 : Heap) (hx : x < 2 ^ 31) (hz : z < 2 ^ 31) :
    oMeets l Z (⟨"java/lang/Math", "max", "(II)I"⟩ : MethodName) jdk_29_method_65_code 2 (some .int) ({ frames := 0, cells := 0, slots := 0, locals := 0 } : Room) #[.int (Int32.ofNat x), .int (Int32.ofNat z)] h0 (fun a => h0.size ≤ a) (fun v h => v = some (.int (Int32.ofNat (max x z))) ∧ h = h0) := by
  refine oMeets.of pno_7 (fun _ q => q) (fun E _ q => Nat.le_trans E.1 q) (Ls := [.val (.int (Int32.ofNat x)), .val (.int (Int32.ofNat z))]) (fun m => efo_7 m (Int32.ofNat x) (Int32.ofNat z)) ?_
  intro p e s m below meth c C hs
  refine K_iloadN C (pc := 0) d7_0 rfl ?_
  refine K_iloadN C (pc := 1) d7_1 rfl ?_
  refine K_icmp C (pc := 2) 9 d7_2 (by decide) (by decide) (fun hc2 => ?_) (fun hc2 => ?_)
  · simp only [oC, Classical.not_not] at hc2
    refine K_iloadN C (pc := 9) d7_9 rfl ?_
    have hq := (oOfLt hx hz).mp hc2
    have em : max x z = z := by omega
    refine K_ireturn C (pc := 10) d7_10 (by simp) rfl (by decide) (by decide) (fun _ _ => ⟨by rw [em]; rfl, rfl⟩)
  · simp only [oC, Classical.not_not] at hc2
    refine K_iloadN C (pc := 5) d7_5 rfl ?_
    refine K_goto C (pc := 6) 10 d7_6 (by decide) (by decide) ?_
    have hq : ¬ x < z := fun r => hc2 ((oOfLt hx hz).mpr r)
    have em : max x z = x := by omega
    refine K_ireturn C (pc := 10) d7_10 (by simp) rfl (by decide) (by decide) (fun _ _ => ⟨by rw [em]; rfl, rfl⟩)
theorem pno_4 : plainFor (⟨"java/util/Arrays", "fill", "([II)V"⟩ : MethodName) = true := by first | exact plainFor_of_name (by first | (simp [plainName, overriddenIn]; done) | decide +kernel) | decide +kernel
theorem efo_4 (m : MethodId) (x0 : Addr) (x1 : Int32) : entryFrame m #[.ref x0, .int x1] 4 = oF m 0 [.val (.ref x0), .val (.int x1), .unset, .unset] [] := by (first | (simp [entryFrame, oF, mkF, argsToLocals, Value.category]; done) | rfl)
set_option maxRecDepth 65536 in
set_option maxHeartbeats 40000000 in
theorem mFILL (l : Launch) (Z : State) (a0 : Array Value) (hw : ∀ d ∈ tables_1, d.before a0 Z = true) (a : Addr) (x : Int32) (k : Nat) (h0 : Heap) (hk : k < 2 ^ 31) (hya : Z.heap.size ≤ a) (A : oArr Z h0 a .int ((List.replicate k 0).map Value.int)) :
    oMeets l Z (⟨"java/util/Arrays", "fill", "([II)V"⟩ : MethodName) jdk_65_method_103_code 4 none ({ frames := 0, cells := 0, slots := 0, locals := 0 } : Room) #[.ref a, .int x] h0 (fun x => x = a ∨ h0.size ≤ x) (fun v h => v = none ∧ oArr Z h a .int ((List.replicate k x).map Value.int)) := by
  refine oMeets.of pno_4 (fun _ q => Or.inr q) (fun E x q => q.elim (fun r => r ▸ hya) (fun r => Nat.le_trans E.1 r)) (Ls := [.val (.ref a), .val (.int x), .unset, .unset]) (fun m => efo_4 m a x) ?_
  intro p e s m below meth c C hs
  have loop : ∀ (d j : Nat) (h : Heap), j + d = k → oArr Z h a .int ((List.replicate j x ++ List.replicate d 0).map Value.int) → oWP false p l e ({ frames := 0, cells := 0, slots := 0, locals := 0 } : Room) s m #[.ref a, .int x] below meth c (fun x => x = a ∨ h0.size ≤ x) (fun v h _ => ((fun v h => v = none ∧ oArr Z h a .int ((List.replicate k x).map Value.int))) v h) oT h 0 0 (oF m 5 [.val (.ref a), .val (.int x), .val (.int (Int32.ofNat j)), .val (.int (Int32.ofNat k))] []) := by
    intro d
    induction d with
    | zero =>
      intro j h hj A1
      obtain rfl : j = k := by omega
      refine K_iloadN C (pc := 5) d4_5 rfl ?_
      refine K_iloadN C (pc := 6) d4_6 rfl ?_
      refine K_icmp C (pc := 7) 20 d4_7 (by decide) (by decide) (fun hc7 => ?_) (fun hc7 => ?_)
      · simp only [oC, Classical.not_not] at hc7
        refine K_return C (pc := 20) d4_20 (by decide) (by decide) (fun _ _ => ⟨rfl, A1.eq (by simp)⟩)
      · simp only [oC, Classical.not_not] at hc7
        exact absurd ((oOfLt (by omega) (by omega)).mp hc7) (by omega)
    | succ d ih =>
      intro j h hj A
      refine K_iloadN C (pc := 5) d4_5 rfl ?_
      refine K_iloadN C (pc := 6) d4_6 rfl ?_
      refine K_icmp C (pc := 7) 20 d4_7 (by decide) (by decide) (fun hc7 => ?_) (fun hc7 => ?_)
      · simp only [oC, Classical.not_not] at hc7
        exact absurd ((oOfLt (by omega) (by omega)).mpr (by omega)) hc7
      · simp only [oC, Classical.not_not] at hc7
        refine K_aloadN C (pc := 10) d4_10 rfl (by first | rfl | assumption) ?_
        refine K_iloadN C (pc := 11) d4_11 rfl ?_
        refine K_iloadN C (pc := 12) d4_12 rfl ?_
        refine K_iastore2 C (pc := 13) j A (oOf _ (by omega)) (by simp) (Or.inl rfl) d4_13 ?_
        intro h' W1 A2
        refine K_iinc C (pc := 14) (w := 1) (Ls' := [_, _, _, _]) d4_14 (by decide) rfl rfl ?_
        refine K_goto C (pc := 17) 5 d4_17 (by decide) (by decide) ?_
        rw [oOfS]
        refine ih (j + 1) h' (by omega) (A2.eq ?_)
        have e := own_fill (us := []) (j := j) (d := d) (x := x) (w := 0)
        rw [List.length_nil, Nat.zero_add, List.nil_append, List.nil_append] at e
        rw [← e, List.map_set]
  refine K_iconst C (pc := 0) 0 d4_0 (by decide) ?_
  refine K_istoreN C (pc := 1) (Ls' := [_, _, _, _]) d4_1 rfl ?_
  refine K_aloadN C (pc := 2) d4_2 rfl (by first | rfl | assumption) ?_
  refine K_alen2 C (pc := 3) A d4_3 ?_
  rw [show ((List.replicate k (0 : Int32)).map Value.int).length = k by simp]
  refine K_istoreN C (pc := 4) (Ls' := [_, _, _, _]) d4_4 rfl ?_
  exact loop k 0 h0 (by omega) (A.eq (by simp))
theorem pno_10 : plainFor (⟨"java/util/Arrays", "rangeCheck", "(III)V"⟩ : MethodName) = true := by first | exact plainFor_of_name (by first | (simp [plainName, overriddenIn]; done) | decide +kernel) | decide +kernel
theorem efo_10 (m : MethodId) (x0 : Int32) (x1 : Int32) (x2 : Int32) : entryFrame m #[.int x0, .int x1, .int x2] 3 = oF m 0 [.val (.int x0), .val (.int x1), .val (.int x2)] [] := by (first | (simp [entryFrame, oF, mkF, argsToLocals, Value.category]; done) | rfl)
set_option maxRecDepth 65536 in
set_option maxHeartbeats 40000000 in
theorem mRC (l : Launch) (Z : State) (a0 : Array Value) (hw : ∀ d ∈ tables_1, d.before a0 Z = true) (x y z : Nat) (h0 : Heap) (hx : x < 2 ^ 31) (hyz : y ≤ z) (hzx : z ≤ x) :
    oMeets l Z (⟨"java/util/Arrays", "rangeCheck", "(III)V"⟩ : MethodName) jdk_65_method_30_code 3 none ({ frames := 0, cells := 0, slots := 0, locals := 0 } : Room) #[.int (Int32.ofNat x), .int (Int32.ofNat y), .int (Int32.ofNat z)] h0 (fun a => h0.size ≤ a) (fun v h => v = none ∧ h = h0) := by
  refine oMeets.of pno_10 (fun _ q => q) (fun E _ q => Nat.le_trans E.1 q) (Ls := [.val (.int (Int32.ofNat x)), .val (.int (Int32.ofNat y)), .val (.int (Int32.ofNat z))]) (fun m => efo_10 m (Int32.ofNat x) (Int32.ofNat y) (Int32.ofNat z)) ?_
  intro p e s m below meth c C hs
  refine K_iloadN C (pc := 0) d10_0 rfl ?_
  refine K_iloadN C (pc := 1) d10_1 rfl ?_
  refine K_icmp C (pc := 2) 46 d10_2 (by decide) (by decide) (fun hc2 => ?_) (fun hc2 => ?_)
  · simp only [oC, Classical.not_not] at hc2
    refine K_iloadN C (pc := 46) d10_46 rfl ?_
    refine K_if C (pc := 47) 59 d10_47 (by decide) (by decide) (fun hc47 => ?_) (fun hc47 => ?_)
    · simp only [oC, Classical.not_not] at hc47
      refine K_iloadN C (pc := 59) d10_59 rfl ?_
      refine K_iloadN C (pc := 60) d10_60 rfl ?_
      refine K_icmp C (pc := 61) 73 d10_61 (by decide) (by decide) (fun hc61 => ?_) (fun hc61 => ?_)
      · simp only [oC, Classical.not_not] at hc61
        refine K_return C (pc := 73) d10_73 (by decide) (by decide) (fun _ _ => ⟨rfl, rfl⟩)
      · simp only [oC, Classical.not_not] at hc61
        exact absurd ((oOfLt (by omega) (by omega)).mp hc61) (by omega)
    · simp only [oC, Classical.not_not] at hc47
      exact absurd hc47 (by rw [show (0 : Int32) = Int32.ofNat 0 from rfl, oOfLt (by omega) (by decide)]; omega)
  · simp only [oC, Classical.not_not] at hc2
    exact absurd ((oOfLt (by omega) (by omega)).mp hc2) (by omega)
theorem pno_9 : plainFor (⟨"java/util/Arrays", "fill", "([IIII)V"⟩ : MethodName) = true := by first | exact plainFor_of_name (by first | (simp [plainName, overriddenIn]; done) | decide +kernel) | decide +kernel
theorem efo_9 (m : MethodId) (x0 : Addr) (x1 : Int32) (x2 : Int32) (x3 : Int32) : entryFrame m #[.ref x0, .int x1, .int x2, .int x3] 5 = oF m 0 [.val (.ref x0), .val (.int x1), .val (.int x2), .val (.int x3), .unset] [] := by (first | (simp [entryFrame, oF, mkF, argsToLocals, Value.category]; done) | rfl)
set_option maxRecDepth 65536 in
set_option maxHeartbeats 40000000 in
theorem mFILL3 (l : Launch) (Z : State) (a0 : Array Value) (hw : ∀ d ∈ tables_1, d.before a0 Z = true) (a : Addr) (us : List Int32) (k : Nat) (x : Int32) (h0 : Heap) (hk : us.length + k < 2 ^ 31) (hya : Z.heap.size ≤ a) (A : oArr Z h0 a .int ((us ++ List.replicate k 0).map Value.int)) :
    oMeets l Z (⟨"java/util/Arrays", "fill", "([IIII)V"⟩ : MethodName) jdk_65_method_104_code 5 none ({ frames := 1, cells := 0, slots := 0, locals := 20 } : Room) #[.ref a, .int (Int32.ofNat us.length), .int (Int32.ofNat (us.length + k)), .int x] h0 (fun x => x = a ∨ h0.size ≤ x) (fun v h => v = none ∧ oArr Z h a .int ((us ++ List.replicate k x).map Value.int)) := by
  refine oMeets.of pno_9 (fun _ q => Or.inr q) (fun E x q => q.elim (fun r => r ▸ hya) (fun r => Nat.le_trans E.1 r)) (Ls := [.val (.ref a), .val (.int (Int32.ofNat us.length)), .val (.int (Int32.ofNat (us.length + k))), .val (.int x), .unset]) (fun m => efo_9 m a (Int32.ofNat us.length) (Int32.ofNat (us.length + k)) x) ?_
  intro p e s m below meth c C hs
  have loop : ∀ (d j : Nat) (h : Heap), j + d = k → oArr Z h a .int ((us ++ (List.replicate j x ++ List.replicate d 0)).map Value.int) → oWP false p l e ({ frames := 1, cells := 0, slots := 0, locals := 20 } : Room) s m #[.ref a, .int (Int32.ofNat us.length), .int (Int32.ofNat (us.length + k)), .int x] below meth c (fun x => x = a ∨ h0.size ≤ x) (fun v h _ => ((fun v h => v = none ∧ oArr Z h a .int ((us ++ List.replicate k x).map Value.int))) v h) oT h 0 0 (oF m 10 [.val (.ref a), .val (.int (Int32.ofNat us.length)), .val (.int (Int32.ofNat (us.length + k))), .val (.int x), .val (.int (Int32.ofNat (us.length + j)))] []) := by
    intro d
    induction d with
    | zero =>
      intro j h hj A1
      obtain rfl : j = k := by omega
      refine K_iload C (pc := 10) d9_10 rfl ?_
      refine K_iloadN C (pc := 12) d9_12 rfl ?_
      refine K_icmp C (pc := 13) 27 d9_13 (by decide) (by decide) (fun hc13 => ?_) (fun hc13 => ?_)
      · simp only [oC, Classical.not_not] at hc13
        refine K_return C (pc := 27) d9_27 (by decide) (by decide) (fun _ _ => ⟨rfl, A1.eq (by simp)⟩)
      · simp only [oC, Classical.not_not] at hc13
        exact absurd ((oOfLt (by omega) (by omega)).mp hc13) (by omega)
    | succ d ih =>
      intro j h hj A
      refine K_iload C (pc := 10) d9_10 rfl ?_
      refine K_iloadN C (pc := 12) d9_12 rfl ?_
      refine K_icmp C (pc := 13) 27 d9_13 (by decide) (by decide) (fun hc13 => ?_) (fun hc13 => ?_)
      · simp only [oC, Classical.not_not] at hc13
        exact absurd ((oOfLt (by omega) (by omega)).mpr (by omega)) hc13
      · simp only [oC, Classical.not_not] at hc13
        refine K_aloadN C (pc := 16) d9_16 rfl (by first | rfl | assumption) ?_
        refine K_iload C (pc := 17) d9_17 rfl ?_
        refine K_iloadN C (pc := 19) d9_19 rfl ?_
        refine K_iastore2 C (pc := 20) (us.length + j) A (oOf _ (by omega)) (by simp) (Or.inl rfl) d9_20 ?_
        intro h' W1 A2
        refine K_iinc C (pc := 21) (w := 1) (Ls' := [_, _, _, _, _]) d9_21 (by decide) rfl rfl ?_
        refine K_goto C (pc := 24) 10 d9_24 (by decide) (by decide) ?_
        rw [oOfS]
        exact ih (j + 1) h' (by omega) (A2.eq (by rw [← own_fill, List.map_set]))
  refine K_aloadN C (pc := 0) d9_0 rfl (by first | rfl | assumption) ?_
  refine K_alen2 C (pc := 1) A d9_1 ?_
  rw [show ((us ++ List.replicate k (0 : Int32)).map Value.int).length = us.length + k by simp]
  refine K_iloadN C (pc := 2) d9_2 rfl ?_
  refine K_iloadN C (pc := 3) d9_3 rfl ?_
  refine K_static C (pc := 4) (mRC l Z a0 hw (us.length + k) us.length (us.length + k) _ hk (by omega) (by omega)) (tw51 hw) (tw52 hw) (tw23 hw) (tw53 hw) (by decide) pdo_0 d9_4 (argsL := [_, _, _]) (rest := _) rfl rfl rfl rfl (fun a q r => C.new a (Nat.le_trans q r)) (by decide) (Nat.le_of_ble_eq_true rfl) (by decide) (by decide) ?_
  rintro _ h8 ⟨rfl, hh⟩ -
  replace hh := hh.symm
  subst hh
  dsimp only [Option.toList, List.cons_append, List.nil_append]
  refine K_iloadN C (pc := 7) d9_7 rfl ?_
  refine K_istore C (pc := 8) (Ls' := [_, _, _, _, _]) d9_8 rfl ?_
  exact loop k 0 h0 (by omega) (A.eq (by simp))
theorem pno_8 : plainFor (⟨"java/util/Arrays", "copyOf", "([II)[I"⟩ : MethodName) = true := by first | exact plainFor_of_name (by first | (simp [plainName, overriddenIn]; done) | decide +kernel) | decide +kernel
theorem efo_8 (m : MethodId) (x0 : Addr) (x1 : Int32) : entryFrame m #[.ref x0, .int x1] 3 = oF m 0 [.val (.ref x0), .val (.int x1), .unset] [] := by (first | (simp [entryFrame, oF, mkF, argsToLocals, Value.category]; done) | rfl)
set_option maxRecDepth 65536 in
set_option maxHeartbeats 40000000 in
theorem mCOPY (l : Launch) (Z : State) (a0 : Array Value) (hw : ∀ d ∈ tables_1, d.before a0 Z = true) (a : Addr) (xs : List Int32) (k : Nat) (h0 : Heap) (hx : xs.length < k) (hk : k ≤ 132) (A : oArr Z h0 a .int (xs.map Value.int)) :
    oMeets l Z (⟨"java/util/Arrays", "copyOf", "([II)[I"⟩ : MethodName) jdk_65_method_123_code 3 (some (.array .int)) ({ frames := 1, cells := 1, slots := 132, locals := 40 } : Room) #[.ref a, .int (Int32.ofNat k)] h0 (fun a => h0.size ≤ a) (fun v h => ∃ b, v = some (.ref b) ∧ oArr Z h b .int ((xs ++ List.replicate (k - xs.length) 0).map Value.int) ∧ h0.size ≤ b) := by
  refine oMeets.of pno_8 (fun _ q => q) (fun E _ q => Nat.le_trans E.1 q) (Ls := [.val (.ref a), .val (.int (Int32.ofNat k)), .unset]) (fun m => efo_8 m a (Int32.ofNat k)) ?_
  intro p e s m below meth c C hs
  refine K_iloadN C (pc := 0) d8_0 rfl ?_
  refine K_aloadN C (pc := 1) d8_1 rfl (by first | rfl | assumption) ?_
  refine K_alen2 C (pc := 2) A d8_2 ?_
  rw [List.length_map]
  refine K_icmp C (pc := 3) 14 d8_3 (by decide) (by decide) (fun hc3 => ?_) (fun hc3 => ?_)
  · simp only [oC, Classical.not_not] at hc3
    refine K_iloadN C (pc := 14) d8_14 rfl ?_
    refine K_newarray2 C (aty := .int) (pc := 15) k 132 (tw13 hw) d8_15 (oOf _ (by omega)) hk (by decide) (by decide) (by decide) ?_
    intro h1 b hb hPb E1 D
    refine K_astoreN C (pc := 17) (Ls' := [_, _, _]) d8_17 rfl rfl ?_
    refine K_aloadN C (pc := 18) d8_18 rfl (by first | rfl | assumption) ?_
    refine K_iconst C (pc := 19) 0 d8_19 (by decide) ?_
    refine K_aloadN C (pc := 20) d8_20 rfl (by first | rfl | assumption) ?_
    refine K_iconst C (pc := 21) 0 d8_21 (by decide) ?_
    refine K_aloadN C (pc := 22) d8_22 rfl (by first | rfl | assumption) ?_
    refine K_alen2 C (pc := 23) (A.ext E1) d8_23 ?_
    rw [List.length_map]
    refine K_iloadN C (pc := 24) d8_24 rfl ?_
    refine K_static C (pc := 25) (mMIN l Z a0 hw xs.length k _ (by omega) (by omega)) (tw43 hw) (tw1 hw) (tw2 hw) (tw3 hw) (by decide) pdo_1 d8_25 (argsL := [_, _]) (rest := _) rfl rfl rfl rfl (fun a q r => C.new a (Nat.le_trans q r)) (by decide) (Nat.le_of_ble_eq_true rfl) (by decide) (by decide) ?_
    rintro _ h8 ⟨rfl, hh⟩ -
    replace hh := hh.symm
    subst hh
    dsimp only [Option.toList, List.cons_append, List.nil_append]
    rw [show min xs.length k = xs.length by omega]
    refine K_arraycopyI C (pc := 28) (ds := List.replicate k 0) xs.length (A.ext E1) (D.eq (by rw [List.map_replicate]; rfl)) (oOf _ (by omega)) (Nat.le_refl _) (by rw [List.length_replicate]; omega) hPb (tw44 hw) (tw47 hw) (tw45 hw) (tw46 hw) d8_28 rfl (by decide) (by decide) ?_
    intro h2 hsz hoth D2
    refine K_aloadN C (pc := 31) d8_31 rfl (by first | rfl | assumption) ?_
    refine K_areturn C (pc := 32) d8_32 rfl rfl rfl (by decide) (by decide) (fun _ _ => ⟨b, rfl, D2.eq (by simp), hPb⟩)
  · simp only [oC, Classical.not_not] at hc3
    exact absurd ((oOfEq (by omega) (by omega)).mp hc3) (by omega)
theorem pno_12 : plainFor (⟨"com/example/kaskade/kaskade/simulation/SlotQueue", "put", "(IID)V"⟩ : MethodName) = true := by first | exact plainFor_of_name (by first | (simp [plainName, overriddenIn]; done) | decide +kernel) | decide +kernel
theorem efo_12 (m : MethodId) (x0 : Addr) (x1 : Int32) (x2 : Int32) (x3 : UInt64) : entryFrame m #[.ref x0, .int x1, .int x2, .double x3] 5 = oF m 0 [.val (.ref x0), .val (.int x1), .val (.int x2), .val (.double x3), .second] [] := by (first | (simp [entryFrame, oF, mkF, argsToLocals, Value.category]; done) | rfl)
set_option maxRecDepth 65536 in
set_option maxHeartbeats 40000000 in
theorem mPUT (l : Launch) (Z : State) (a0 : Array Value) (hw : ∀ d ∈ tables_1, d.before a0 Z = true) (q sa ka pa : Addr) (lo : Nat) (ss : List Int32) (ks : List UInt64) (ps : List Int32) (n : Nat) (h0 : Heap) (hlo : Z.heap.size ≤ lo) (F : oQ Z h0 lo q sa ka pa ss ks ps n) (i : Nat) (sv : Int32) (ky : UInt64) (hi : i < 16) (hs0 : 0 ≤ sv.toInt) (hsl : own_n sv < ps.length) :
    oMeets l Z (⟨"com/example/kaskade/kaskade/simulation/SlotQueue", "put", "(IID)V"⟩ : MethodName) prog_23_method_13_code 5 none ({ frames := 0, cells := 0, slots := 0, locals := 0 } : Room) #[.ref q, .int (Int32.ofNat i), .int sv, .double ky] h0 (fun x => lo ≤ x) (fun v h => v = none ∧ oQ Z h lo q sa ka pa (ss.set i sv) (ks.set i ky) (ps.set (own_n sv) (Int32.ofNat i)) n) := by
  refine oMeets.of pno_12 (fun _ r => Nat.le_trans F.le r) (fun _ _ r => Nat.le_trans hlo r) (Ls := [.val (.ref q), .val (.int (Int32.ofNat i)), .val (.int sv), .val (.double ky), .second]) (fun m => efo_12 m q (Int32.ofNat i) sv ky) ?_
  intro p e s m below meth c C hs
  refine K_aloadN C (pc := 0) d12_0 rfl (by first | rfl | assumption) ?_
  refine K_getF C (pc := 1) (tw14 hw) Via.refl F.FS d12_1 ?_
  refine K_iloadN C (pc := 4) d12_4 rfl ?_
  refine K_iloadN C (pc := 5) d12_5 rfl ?_
  refine K_iastore2 C (pc := 6) i F.AS (oOf _ (by omega)) (by rw [List.length_map, F.ls]; omega) F.s1 d12_6 ?_
  intro h1 W1 _
  replace F := F.wS (tw5 hw) W1
  refine K_aloadN C (pc := 7) d12_7 rfl (by first | rfl | assumption) ?_
  refine K_getF C (pc := 8) (tw17 hw) Via.refl F.FK d12_8 ?_
  refine K_iloadN C (pc := 11) d12_11 rfl ?_
  refine K_dloadN C (pc := 12) d12_12 rfl ?_
  refine K_dastore2 C (pc := 13) i F.AK (oOf _ (by omega)) (by rw [List.length_map, F.lk]; omega) F.k1 d12_13 ?_
  intro h2 W2 _
  replace F := F.wK (tw5 hw) W2
  refine K_aloadN C (pc := 14) d12_14 rfl (by first | rfl | assumption) ?_
  refine K_getF C (pc := 15) (tw19 hw) Via.refl F.FP d12_15 ?_
  refine K_iloadN C (pc := 18) d12_18 rfl ?_
  refine K_iloadN C (pc := 19) d12_19 rfl ?_
  refine K_iastore2 C (pc := 20) (own_n sv) F.AP (own_nt hs0) (by rw [List.length_map]; exact hsl) F.p1 d12_20 ?_
  intro h3 W3 _
  replace F := F.wP (tw5 hw) W3
  refine K_return C (pc := 21) d12_21 (by decide) (by decide) (fun _ _ => ⟨rfl, F⟩)
theorem pno_11 : plainFor (⟨"com/example/kaskade/kaskade/simulation/SlotQueue", "up", "(IID)V"⟩ : MethodName) = true := by first | exact plainFor_of_name (by first | (simp [plainName, overriddenIn]; done) | decide +kernel) | decide +kernel
theorem efo_11 (m : MethodId) (x0 : Addr) (x1 : Int32) (x2 : Int32) (x3 : UInt64) : entryFrame m #[.ref x0, .int x1, .int x2, .double x3] 7 = oF m 0 [.val (.ref x0), .val (.int x1), .val (.int x2), .val (.double x3), .second, .unset, .unset] [] := by (first | (simp [entryFrame, oF, mkF, argsToLocals, Value.category]; done) | rfl)
set_option maxRecDepth 65536 in
set_option maxHeartbeats 40000000 in
theorem mUP (l : Launch) (Z : State) (a0 : Array Value) (hw : ∀ d ∈ tables_1, d.before a0 Z = true) (q sa ka pa : Addr) (lo : Nat) (ss : List Int32) (ks : List UInt64) (ps : List Int32) (n : Nat) (h0 : Heap) (hlo : Z.heap.size ≤ lo) (F : oQ Z h0 lo q sa ka pa ss ks ps n) (i0 : Nat) (sv : Int32) (ky : UInt64) (M : Int32 → Prop) (H : own_H ss ps n i0 M sv) :
    oMeets l Z (⟨"com/example/kaskade/kaskade/simulation/SlotQueue", "up", "(IID)V"⟩ : MethodName) prog_23_method_10_code 7 none ({ frames := 1, cells := 0, slots := 0, locals := 20 } : Room) #[.ref q, .int (Int32.ofNat i0), .int sv, .double ky] h0 (fun x => lo ≤ x) (fun v h => ∃ us xs ws, v = none ∧ oQ Z h lo q sa ka pa us xs ws n ∧ own_I us ws n (fun z => M z ∨ z = sv) ∧ ws.length = ps.length) := by
  refine oMeets.of pno_11 (fun _ r => Nat.le_trans F.le r) (fun _ _ r => Nat.le_trans hlo r) (Ls := [.val (.ref q), .val (.int (Int32.ofNat i0)), .val (.int sv), .val (.double ky), .second, .unset, .unset]) (fun m => efo_11 m q (Int32.ofNat i0) sv ky) ?_
  intro p e s m below meth c C hs
  have loop : ∀ (f i : Nat) (h : Heap) (us : List Int32) (xs : List UInt64) (ws : List Int32) (s6 : Slot), i ≤ f → oQ Z h lo q sa ka pa us xs ws n → own_H us ws n i M sv → ws.length = ps.length → (s6 = .unset ∨ ∃ w, s6 = .val w ∧ w.category = 1) → oWP false p l e ({ frames := 1, cells := 0, slots := 0, locals := 20 } : Room) s m #[.ref q, .int (Int32.ofNat i0), .int sv, .double ky] below meth c (fun x => lo ≤ x) (fun v h _ => ((fun v h => ∃ us xs ws, v = none ∧ oQ Z h lo q sa ka pa us xs ws n ∧ own_I us ws n (fun z => M z ∨ z = sv) ∧ ws.length = ps.length)) v h) oT h 0 0 (oF m 3 [.val (.ref q), .val (.int (Int32.ofNat i0)), .val (.int sv), .val (.double ky), .second, .val (.int (Int32.ofNat i)), s6] []) := by
    intro f
    induction f with
    | zero =>
      intro i h us xs ws s6 hif F H hL h6
      have hi16 : i < 16 := Nat.lt_of_lt_of_le H.2.2.1 H.2.1
      have h00 : i = 0 := by omega
      have JL : oWP false p l e ({ frames := 1, cells := 0, slots := 0, locals := 20 } : Room) s m #[.ref q, .int (Int32.ofNat i0), .int sv, .double ky] below meth c (fun x => lo ≤ x) (fun v h _ => ((fun v h => ∃ us xs ws, v = none ∧ oQ Z h lo q sa ka pa us xs ws n ∧ own_I us ws n (fun z => M z ∨ z = sv) ∧ ws.length = ps.length)) v h) oT h 0 0 (oF m 59 [.val (.ref q), .val (.int (Int32.ofNat i0)), .val (.int sv), .val (.double ky), .second, .val (.int (Int32.ofNat i)), s6] []) := by
        refine K_aloadN C (pc := 59) d11_59 rfl (by first | rfl | assumption) ?_
        refine K_iload C (pc := 60) d11_60 rfl ?_
        refine K_iloadN C (pc := 62) d11_62 rfl ?_
        refine K_dloadN C (pc := 63) d11_63 rfl ?_
        refine K_private C (pc := 64) (mPUT l Z a0 hw q sa ka pa lo us xs ws n _ hlo F i sv ky (by omega) H.2.2.2.2.1 H.2.2.2.2.2.1) (F.X) (tw58 hw) (oSelf.of (tw28 hw) rfl) (tw60 hw) (tw59 hw) (tw6 hw) (tw61 hw) (by decide) pdo_2 d11_64 (argsL := [_, _, _]) (rest := _) rfl rfl rfl rfl (fun _ _ r => r) (by decide) (Nat.le_of_ble_eq_true rfl) (by decide) (by decide) ?_
        rintro _ h1 ⟨rfl, F1⟩ -
        dsimp only [Option.toList, List.cons_append, List.nil_append]
        refine K_return C (pc := 67) d11_67 (by decide) (by decide) (fun _ _ => ⟨_, _, _, rfl, F1, H.put, by rw [List.length_set]; exact hL⟩)
      refine K_iload C (pc := 3) d11_3 rfl ?_
      refine K_if C (pc := 5) 59 d11_5 (by decide) (by decide) (fun hc5 => ?_) (fun hc5 => ?_)
      · exact JL
      · simp only [oC, Classical.not_not] at hc5
        exact absurd hc5 (by rw [h00]; decide)
    | succ f ih =>
      intro i h us xs ws s6 hif F H hL h6
      have hi16 : i < 16 := Nat.lt_of_lt_of_le H.2.2.1 H.2.1
      have JL : oWP false p l e ({ frames := 1, cells := 0, slots := 0, locals := 20 } : Room) s m #[.ref q, .int (Int32.ofNat i0), .int sv, .double ky] below meth c (fun x => lo ≤ x) (fun v h _ => ((fun v h => ∃ us xs ws, v = none ∧ oQ Z h lo q sa ka pa us xs ws n ∧ own_I us ws n (fun z => M z ∨ z = sv) ∧ ws.length = ps.length)) v h) oT h 0 0 (oF m 59 [.val (.ref q), .val (.int (Int32.ofNat i0)), .val (.int sv), .val (.double ky), .second, .val (.int (Int32.ofNat i)), s6] []) := by
        refine K_aloadN C (pc := 59) d11_59 rfl (by first | rfl | assumption) ?_
        refine K_iload C (pc := 60) d11_60 rfl ?_
        refine K_iloadN C (pc := 62) d11_62 rfl ?_
        refine K_dloadN C (pc := 63) d11_63 rfl ?_
        refine K_private C (pc := 64) (mPUT l Z a0 hw q sa ka pa lo us xs ws n _ hlo F i sv ky (by omega) H.2.2.2.2.1 H.2.2.2.2.2.1) (F.X) (tw58 hw) (oSelf.of (tw28 hw) rfl) (tw60 hw) (tw59 hw) (tw6 hw) (tw61 hw) (by decide) pdo_2 d11_64 (argsL := [_, _, _]) (rest := _) rfl rfl rfl rfl (fun _ _ r => r) (by decide) (Nat.le_of_ble_eq_true rfl) (by decide) (by decide) ?_
        rintro _ h1 ⟨rfl, F1⟩ -
        dsimp only [Option.toList, List.cons_append, List.nil_append]
        refine K_return C (pc := 67) d11_67 (by decide) (by decide) (fun _ _ => ⟨_, _, _, rfl, F1, H.put, by rw [List.length_set]; exact hL⟩)
      refine K_iload C (pc := 3) d11_3 rfl ?_
      refine K_if C (pc := 5) 59 d11_5 (by decide) (by decide) (fun hc5 => ?_) (fun hc5 => ?_)
      · exact JL
      · simp only [oC, Classical.not_not] at hc5
        have hi0 : 0 < i := (oOfLt (i := 0) (by decide) (by omega)).mp hc5
        obtain ⟨kp, hkp⟩ : ∃ kp, xs[(i - 1) / 2]? = some kp := ⟨xs[(i - 1) / 2]'(by rw [F.lk]; omega), List.getElem?_eq_getElem _⟩
        obtain ⟨r, hr⟩ := H.at (j := (i - 1) / 2) (by have := H.2.2.1; omega)
        obtain ⟨r1, r2, r3⟩ := H.2.2.2.2.2.2.1 _ r (by have := H.2.2.1; omega) (by omega) hr
        refine K_dloadN C (pc := 8) d11_8 rfl ?_
        refine K_aloadN C (pc := 9) d11_9 rfl (by first | rfl | assumption) ?_
        refine K_getF C (pc := 10) (tw17 hw) Via.refl F.FK d11_10 ?_
        refine K_iload C (pc := 13) d11_13 rfl ?_
        refine K_iconst C (pc := 15) 1 d11_15 (by decide) ?_
        refine K_isub C (pc := 16) d11_16 ?_
        refine K_iconst C (pc := 17) 2 d11_17 (by decide) ?_
        refine K_idiv C (pc := 18) d11_18 (by decide) ?_
        rw [own_par hi0 hi16]
        refine K_daload2 C (pc := 19) (v := .double kp) ((i - 1) / 2) F.AK (oOf _ (by omega)) (by rw [List.getElem?_map, hkp]; rfl) d11_19 ?_
        refine K_dcmp C (pc := 20) d11_20 ?_
        intro cv
        refine K_if C (pc := 21) 59 d11_21 (by decide) (by decide) (fun hc21 => ?_) (fun hc21 => ?_)
        · exact JL
        · clear hc21
          refine K_iload C (pc := 24) d11_24 rfl ?_
          refine K_iconst C (pc := 26) 1 d11_26 (by decide) ?_
          refine K_isub C (pc := 27) d11_27 ?_
          refine K_iconst C (pc := 28) 2 d11_28 (by decide) ?_
          refine K_idiv C (pc := 29) d11_29 (by decide) ?_
          rw [own_par hi0 hi16]
          refine K_istoreV C (pc := 30) (Ls' := [_, _, _, _, _, _, _]) _ d11_30 rfl h6 rfl ?_
          refine K_aloadN C (pc := 32) d11_32 rfl (by first | rfl | assumption) ?_
          refine K_iload C (pc := 33) d11_33 rfl ?_
          refine K_aloadN C (pc := 35) d11_35 rfl (by first | rfl | assumption) ?_
          refine K_getF C (pc := 36) (tw14 hw) Via.refl F.FS d11_36 ?_
          refine K_iload C (pc := 39) d11_39 rfl ?_
          refine K_iaload2 C (pc := 41) (v := .int r) ((i - 1) / 2) F.AS (oOf _ (by omega)) (by rw [List.getElem?_map, hr]; rfl) d11_41 ?_
          refine K_aloadN C (pc := 42) d11_42 rfl (by first | rfl | assumption) ?_
          refine K_getF C (pc := 43) (tw17 hw) Via.refl F.FK d11_43 ?_
          refine K_iload C (pc := 46) d11_46 rfl ?_
          refine K_daload2 C (pc := 48) (v := .double kp) ((i - 1) / 2) F.AK (oOf _ (by omega)) (by rw [List.getElem?_map, hkp]; rfl) d11_48 ?_
          refine K_private C (pc := 49) (mPUT l Z a0 hw q sa ka pa lo us xs ws n _ hlo F i r kp (by omega) r2 (own_gl r3)) (F.X) (tw58 hw) (oSelf.of (tw28 hw) rfl) (tw60 hw) (tw59 hw) (tw6 hw) (tw61 hw) (by decide) pdo_2 d11_49 (argsL := [_, _, _]) (rest := _) rfl rfl rfl rfl (fun _ _ r => r) (by decide) (Nat.le_of_ble_eq_true rfl) (by decide) (by decide) ?_
          rintro _ h1 ⟨rfl, F1⟩ -
          dsimp only [Option.toList, List.cons_append, List.nil_append]
          refine K_iload C (pc := 52) d11_52 rfl ?_
          refine K_istore C (pc := 54) (Ls' := [_, _, _, _, _, _, _]) d11_54 rfl ?_
          refine K_goto C (pc := 56) 3 d11_56 (by decide) (by decide) ?_
          exact ih ((i - 1) / 2) h1 _ _ _ _ (by omega) F1 (H.move (by have := H.2.2.1; omega) (by omega) hr) (by rw [List.length_set]; exact hL) (Or.inr ⟨_, rfl, rfl⟩)
  refine K_iloadN C (pc := 0) d11_0 rfl ?_
  refine K_istore C (pc := 1) (Ls' := [_, _, _, _, _, _, _]) d11_1 rfl ?_
  exact loop i0 i0 h0 ss ks ps _ (Nat.le_refl _) F H rfl (Or.inl rfl)
theorem pno_16 : plainFor (⟨"com/example/kaskade/kaskade/simulation/SlotQueue", "firstChild", "(I)I"⟩ : MethodName) = true := by first | exact plainFor_of_name (by first | (simp [plainName, overriddenIn]; done) | decide +kernel) | decide +kernel
theorem efo_16 (m : MethodId) (x0 : Addr) (x1 : Int32) : entryFrame m #[.ref x0, .int x1] 3 = oF m 0 [.val (.ref x0), .val (.int x1), .unset] [] := by (first | (simp [entryFrame, oF, mkF, argsToLocals, Value.category]; done) | rfl)
set_option maxRecDepth 65536 in
set_option maxHeartbeats 40000000 in
theorem mFC (l : Launch) (Z : State) (a0 : Array Value) (hw : ∀ d ∈ tables_1, d.before a0 Z = true) (q sa ka pa : Addr) (lo : Nat) (ss : List Int32) (ks : List UInt64) (ps : List Int32) (n : Nat) (h0 : Heap) (hlo : Z.heap.size ≤ lo) (F : oQ Z h0 lo q sa ka pa ss ks ps n) (i : Nat) (hi : i < 16) (hn : n ≤ 16) :
    oMeets l Z (⟨"com/example/kaskade/kaskade/simulation/SlotQueue", "firstChild", "(I)I"⟩ : MethodName) prog_23_method_12_code 3 (some .int) ({ frames := 0, cells := 0, slots := 0, locals := 0 } : Room) #[.ref q, .int (Int32.ofNat i)] h0 (fun a => h0.size ≤ a) (fun v h => ∃ c : Nat, v = some (.int (Int32.ofNat c)) ∧ h = h0 ∧ i < c ∧ c < 64) := by
  refine oMeets.of pno_16 (fun _ q => q) (fun E _ q => Nat.le_trans E.1 q) (Ls := [.val (.ref q), .val (.int (Int32.ofNat i)), .unset]) (fun m => efo_16 m q (Int32.ofNat i)) ?_
  intro p e s m below meth c C hs
  refine K_iconst C (pc := 0) 2 d16_0 (by decide) ?_
  refine K_iloadN C (pc := 1) d16_1 rfl ?_
  refine K_imul C (pc := 2) d16_2 ?_
  refine K_iconst C (pc := 3) 1 d16_3 (by decide) ?_
  refine K_iadd C (pc := 4) d16_4 ?_
  rw [own_ch hi]
  refine K_istoreN C (pc := 5) (Ls' := [_, _, _]) d16_5 rfl ?_
  refine K_iloadN C (pc := 6) d16_6 rfl ?_
  refine K_iconst C (pc := 7) 1 d16_7 (by decide) ?_
  refine K_iadd C (pc := 8) d16_8 ?_
  rw [oOfS]
  refine K_aloadN C (pc := 9) d16_9 rfl (by first | rfl | assumption) ?_
  refine K_getF C (pc := 10) (tw30 hw) Via.refl F.FN d16_10 ?_
  refine K_icmp C (pc := 13) 40 d16_13 (by decide) (by decide) (fun hc13 => ?_) (fun hc13 => ?_)
  · simp only [oC, Classical.not_not] at hc13
    refine K_iloadN C (pc := 40) d16_40 rfl ?_
    refine K_ireturn C (pc := 41) d16_41 (by simp) rfl (by decide) (by decide) (fun _ _ => ⟨2 * i + 1, rfl, rfl, by omega, by omega⟩)
  · simp only [oC, Classical.not_not] at hc13
    have hlt := (oOfLt (by omega) (by omega)).mp hc13
    obtain ⟨k1, hk1⟩ : ∃ kp, ks[2 * i + 1 + 1]? = some kp := ⟨ks[2 * i + 1 + 1]'(by rw [F.lk]; omega), List.getElem?_eq_getElem _⟩
    obtain ⟨k2, hk2⟩ : ∃ kp, ks[2 * i + 1]? = some kp := ⟨ks[2 * i + 1]'(by rw [F.lk]; omega), List.getElem?_eq_getElem _⟩
    refine K_aloadN C (pc := 16) d16_16 rfl (by first | rfl | assumption) ?_
    refine K_getF C (pc := 17) (tw17 hw) Via.refl F.FK d16_17 ?_
    refine K_iloadN C (pc := 20) d16_20 rfl ?_
    refine K_iconst C (pc := 21) 1 d16_21 (by decide) ?_
    refine K_iadd C (pc := 22) d16_22 ?_
    rw [oOfS]
    refine K_daload2 C (pc := 23) (v := .double k1) (2 * i + 1 + 1) F.AK (oOf _ (by omega)) (by rw [List.getElem?_map, hk1]; rfl) d16_23 ?_
    refine K_aloadN C (pc := 24) d16_24 rfl (by first | rfl | assumption) ?_
    refine K_getF C (pc := 25) (tw17 hw) Via.refl F.FK d16_25 ?_
    refine K_iloadN C (pc := 28) d16_28 rfl ?_
    refine K_daload2 C (pc := 29) (v := .double k2) (2 * i + 1) F.AK (oOf _ (by omega)) (by rw [List.getElem?_map, hk2]; rfl) d16_29 ?_
    refine K_dcmp C (pc := 30) d16_30 ?_
    intro cv
    refine K_if C (pc := 31) 40 d16_31 (by decide) (by decide) (fun hc31 => ?_) (fun hc31 => ?_)
    · simp only [oC, Classical.not_not] at hc31
      refine K_iloadN C (pc := 40) d16_40 rfl ?_
      refine K_ireturn C (pc := 41) d16_41 (by simp) rfl (by decide) (by decide) (fun _ _ => ⟨2 * i + 1, rfl, rfl, by omega, by omega⟩)
    · simp only [oC, Classical.not_not] at hc31
      refine K_iloadN C (pc := 34) d16_34 rfl ?_
      refine K_iconst C (pc := 35) 1 d16_35 (by decide) ?_
      refine K_iadd C (pc := 36) d16_36 ?_
      rw [oOfS]
      refine K_goto C (pc := 37) 41 d16_37 (by decide) (by decide) ?_
      refine K_ireturn C (pc := 41) d16_41 (by simp) rfl (by decide) (by decide) (fun _ _ => ⟨2 * i + 1 + 1, rfl, rfl, by omega, by omega⟩)
theorem pno_15 : plainFor (⟨"com/example/kaskade/kaskade/simulation/SlotQueue", "down", "(IID)V"⟩ : MethodName) = true := by first | exact plainFor_of_name (by first | (simp [plainName, overriddenIn]; done) | decide +kernel) | decide +kernel
theorem efo_15 (m : MethodId) (x0 : Addr) (x1 : Int32) (x2 : Int32) (x3 : UInt64) : entryFrame m #[.ref x0, .int x1, .int x2, .double x3] 7 = oF m 0 [.val (.ref x0), .val (.int x1), .val (.int x2), .val (.double x3), .second, .unset, .unset] [] := by (first | (simp [entryFrame, oF, mkF, argsToLocals, Value.category]; done) | rfl)
set_option maxRecDepth 65536 in
set_option maxHeartbeats 40000000 in
theorem mDOWN (l : Launch) (Z : State) (a0 : Array Value) (hw : ∀ d ∈ tables_1, d.before a0 Z = true) (q sa ka pa : Addr) (lo : Nat) (ss : List Int32) (ks : List UInt64) (ps : List Int32) (n : Nat) (h0 : Heap) (hlo : Z.heap.size ≤ lo) (F : oQ Z h0 lo q sa ka pa ss ks ps n) (i0 : Nat) (sv : Int32) (ky : UInt64) (M : Int32 → Prop) (H : own_H ss ps n i0 M sv) :
    oMeets l Z (⟨"com/example/kaskade/kaskade/simulation/SlotQueue", "down", "(IID)V"⟩ : MethodName) prog_23_method_11_code 7 none ({ frames := 1, cells := 0, slots := 0, locals := 20 } : Room) #[.ref q, .int (Int32.ofNat i0), .int sv, .double ky] h0 (fun x => lo ≤ x) (fun v h => ∃ us xs ws, v = none ∧ oQ Z h lo q sa ka pa us xs ws n ∧ own_I us ws n (fun z => M z ∨ z = sv) ∧ ws.length = ps.length) := by
  refine oMeets.of pno_15 (fun _ r => Nat.le_trans F.le r) (fun _ _ r => Nat.le_trans hlo r) (Ls := [.val (.ref q), .val (.int (Int32.ofNat i0)), .val (.int sv), .val (.double ky), .second, .unset, .unset]) (fun m => efo_15 m q (Int32.ofNat i0) sv ky) ?_
  intro p e s m below meth c C hs
  have loop : ∀ (f i c1 : Nat) (h : Heap) (us : List Int32) (xs : List UInt64) (ws : List Int32), n ≤ i + f → i < c1 → c1 < 64 → oQ Z h lo q sa ka pa us xs ws n → own_H us ws n i M sv → ws.length = ps.length → oWP false p l e ({ frames := 1, cells := 0, slots := 0, locals := 20 } : Room) s m #[.ref q, .int (Int32.ofNat i0), .int sv, .double ky] below meth c (fun x => lo ≤ x) (fun v h _ => ((fun v h => ∃ us xs ws, v = none ∧ oQ Z h lo q sa ka pa us xs ws n ∧ own_I us ws n (fun z => M z ∨ z = sv) ∧ ws.length = ps.length)) v h) oT h 0 0 (oF m 11 [.val (.ref q), .val (.int (Int32.ofNat i0)), .val (.int sv), .val (.double ky), .second, .val (.int (Int32.ofNat i)), .val (.int (Int32.ofNat c1))] []) := by
    intro f
    induction f with
    | zero =>
      intro i c1 h us xs ws hif hic hc64 F H hL
      have hi16 : i < 16 := Nat.lt_of_lt_of_le H.2.2.1 H.2.1
      exact absurd H.2.2.1 (by omega)
    | succ f ih =>
      intro i c1 h us xs ws hif hic hc64 F H hL
      have hi16 : i < 16 := Nat.lt_of_lt_of_le H.2.2.1 H.2.1
      have JL : oWP false p l e ({ frames := 1, cells := 0, slots := 0, locals := 20 } : Room) s m #[.ref q, .int (Int32.ofNat i0), .int sv, .double ky] below meth c (fun x => lo ≤ x) (fun v h _ => ((fun v h => ∃ us xs ws, v = none ∧ oQ Z h lo q sa ka pa us xs ws n ∧ own_I us ws n (fun z => M z ∨ z = sv) ∧ ws.length = ps.length)) v h) oT h 0 0 (oF m 67 [.val (.ref q), .val (.int (Int32.ofNat i0)), .val (.int sv), .val (.double ky), .second, .val (.int (Int32.ofNat i)), .val (.int (Int32.ofNat c1))] []) := by
        refine K_aloadN C (pc := 67) d15_67 rfl (by first | rfl | assumption) ?_
        refine K_iload C (pc := 68) d15_68 rfl ?_
        refine K_iloadN C (pc := 70) d15_70 rfl ?_
        refine K_dloadN C (pc := 71) d15_71 rfl ?_
        refine K_private C (pc := 72) (mPUT l Z a0 hw q sa ka pa lo us xs ws n _ hlo F i sv ky (by omega) H.2.2.2.2.1 H.2.2.2.2.2.1) (F.X) (tw58 hw) (oSelf.of (tw28 hw) rfl) (tw60 hw) (tw59 hw) (tw6 hw) (tw61 hw) (by decide) pdo_2 d15_72 (argsL := [_, _, _]) (rest := _) rfl rfl rfl rfl (fun _ _ r => r) (by decide) (Nat.le_of_ble_eq_true rfl) (by decide) (by decide) ?_
        rintro _ h1 ⟨rfl, F1⟩ -
        dsimp only [Option.toList, List.cons_append, List.nil_append]
        refine K_return C (pc := 75) d15_75 (by decide) (by decide) (fun _ _ => ⟨_, _, _, rfl, F1, H.put, by rw [List.length_set]; exact hL⟩)
      refine K_iload C (pc := 11) d15_11 rfl ?_
      refine K_aloadN C (pc := 13) d15_13 rfl (by first | rfl | assumption) ?_
      refine K_getF C (pc := 14) (tw30 hw) Via.refl F.FN d15_14 ?_
      refine K_icmp C (pc := 17) 67 d15_17 (by decide) (by decide) (fun hc17 => ?_) (fun hc17 => ?_)
      · exact JL
      · simp only [oC, Classical.not_not] at hc17
        have hcn : c1 < n := (oOfLt (by omega) (by have := H.2.1; omega)).mp hc17
        have hn16 := H.2.1
        obtain ⟨kp, hkp⟩ : ∃ kp, xs[c1]? = some kp := ⟨xs[c1]'(by rw [F.lk]; omega), List.getElem?_eq_getElem _⟩
        obtain ⟨r, hr⟩ := H.at (j := c1) hcn
        obtain ⟨r1, r2, r3⟩ := H.2.2.2.2.2.2.1 _ r hcn (by omega) hr
        refine K_aloadN C (pc := 20) d15_20 rfl (by first | rfl | assumption) ?_
        refine K_getF C (pc := 21) (tw17 hw) Via.refl F.FK d15_21 ?_
        refine K_iload C (pc := 24) d15_24 rfl ?_
        refine K_daload2 C (pc := 26) (v := .double kp) c1 F.AK (oOf _ (by omega)) (by rw [List.getElem?_map, hkp]; rfl) d15_26 ?_
        refine K_dloadN C (pc := 27) d15_27 rfl ?_
        refine K_dcmp C (pc := 28) d15_28 ?_
        intro cv
        refine K_if C (pc := 29) 67 d15_29 (by decide) (by decide) (fun hc29 => ?_) (fun hc29 => ?_)
        · exact JL
        · clear hc29
          refine K_aloadN C (pc := 32) d15_32 rfl (by first | rfl | assumption) ?_
          refine K_iload C (pc := 33) d15_33 rfl ?_
          refine K_aloadN C (pc := 35) d15_35 rfl (by first | rfl | assumption) ?_
          refine K_getF C (pc := 36) (tw14 hw) Via.refl F.FS d15_36 ?_
          refine K_iload C (pc := 39) d15_39 rfl ?_
          refine K_iaload2 C (pc := 41) (v := .int r) c1 F.AS (oOf _ (by omega)) (by rw [List.getElem?_map, hr]; rfl) d15_41 ?_
          refine K_aloadN C (pc := 42) d15_42 rfl (by first | rfl | assumption) ?_
          refine K_getF C (pc := 43) (tw17 hw) Via.refl F.FK d15_43 ?_
          refine K_iload C (pc := 46) d15_46 rfl ?_
          refine K_daload2 C (pc := 48) (v := .double kp) c1 F.AK (oOf _ (by omega)) (by rw [List.getElem?_map, hkp]; rfl) d15_48 ?_
          refine K_private C (pc := 49) (mPUT l Z a0 hw q sa ka pa lo us xs ws n _ hlo F i r kp (by omega) r2 (own_gl r3)) (F.X) (tw58 hw) (oSelf.of (tw28 hw) rfl) (tw60 hw) (tw59 hw) (tw6 hw) (tw61 hw) (by decide) pdo_2 d15_49 (argsL := [_, _, _]) (rest := _) rfl rfl rfl rfl (fun _ _ r => r) (by decide) (Nat.le_of_ble_eq_true rfl) (by decide) (by decide) ?_
          rintro _ h1 ⟨rfl, F1⟩ -
          dsimp only [Option.toList, List.cons_append, List.nil_append]
          refine K_iload C (pc := 52) d15_52 rfl ?_
          refine K_istore C (pc := 54) (Ls' := [_, _, _, _, _, _, _]) d15_54 rfl ?_
          refine K_aloadN C (pc := 56) d15_56 rfl (by first | rfl | assumption) ?_
          refine K_iload C (pc := 57) d15_57 rfl ?_
          refine K_private C (pc := 59) (mFC l Z a0 hw q sa ka pa lo _ _ _ n _ hlo F1 c1 (by omega) H.2.1) (F1.X) (tw75 hw) (oSelf.of (tw28 hw) rfl) (tw77 hw) (tw76 hw) (tw6 hw) (tw78 hw) (by decide) pdo_3 d15_59 (argsL := [_]) (rest := _) rfl rfl rfl rfl (fun a q r => C.new a (Nat.le_trans q r)) (by decide) (Nat.le_of_ble_eq_true rfl) (by decide) (by decide) ?_
          rintro _ h8 ⟨c2, rfl, hh, hc2a, hc2b⟩ -
          replace hh := hh.symm
          subst hh
          dsimp only [Option.toList, List.cons_append, List.nil_append]
          refine K_istore C (pc := 62) (Ls' := [_, _, _, _, _, _, _]) d15_62 rfl ?_
          refine K_goto C (pc := 64) 11 d15_64 (by decide) (by decide) ?_
          exact ih c1 c2 h1 _ _ _ (by omega) hc2a hc2b F1 (H.move hcn (by omega) hr) (by rw [List.length_set]; exact hL)
  refine K_iloadN C (pc := 0) d15_0 rfl ?_
  refine K_istore C (pc := 1) (Ls' := [_, _, _, _, _, _, _]) d15_1 rfl ?_
  refine K_aloadN C (pc := 3) d15_3 rfl (by first | rfl | assumption) ?_
  refine K_iload C (pc := 4) d15_4 rfl ?_
  refine K_private C (pc := 6) (mFC l Z a0 hw q sa ka pa lo ss ks ps n _ hlo F i0 (Nat.lt_of_lt_of_le H.2.2.1 H.2.1) H.2.1) (F.X) (tw75 hw) (oSelf.of (tw28 hw) rfl) (tw77 hw) (tw76 hw) (tw6 hw) (tw78 hw) (by decide) pdo_3 d15_6 (argsL := [_]) (rest := _) rfl rfl rfl rfl (fun a q r => C.new a (Nat.le_trans q r)) (by decide) (Nat.le_of_ble_eq_true rfl) (by decide) (by decide) ?_
  rintro _ h8 ⟨c2, rfl, hh, hc2a, hc2b⟩ -
  replace hh := hh.symm
  subst hh
  dsimp only [Option.toList, List.cons_append, List.nil_append]
  refine K_istore C (pc := 9) (Ls' := [_, _, _, _, _, _, _]) d15_9 rfl ?_
  exact loop n i0 c2 h0 ss ks ps (by omega) hc2a hc2b F H rfl
theorem pno_14 : plainFor (⟨"com/example/kaskade/kaskade/simulation/SlotQueue", "removeAt", "(I)V"⟩ : MethodName) = true := by first | exact plainFor_of_name (by first | (simp [plainName, overriddenIn]; done) | decide +kernel) | decide +kernel
theorem efo_14 (m : MethodId) (x0 : Addr) (x1 : Int32) : entryFrame m #[.ref x0, .int x1] 5 = oF m 0 [.val (.ref x0), .val (.int x1), .unset, .unset, .unset] [] := by (first | (simp [entryFrame, oF, mkF, argsToLocals, Value.category]; done) | rfl)
set_option maxRecDepth 65536 in
set_option maxHeartbeats 40000000 in
theorem mREMAT (l : Launch) (Z : State) (a0 : Array Value) (hw : ∀ d ∈ tables_1, d.before a0 Z = true) (q sa ka pa : Addr) (lo : Nat) (ss : List Int32) (ks : List UInt64) (ps : List Int32) (n : Nat) (h0 : Heap) (hlo : Z.heap.size ≤ lo) (F : oQ Z h0 lo q sa ka pa ss ks ps (n + 1)) (M : Int32 → Prop) (I : own_I ss ps (n + 1) M) (hp : ps.length < 2 ^ 31) (i : Nat) (r : Int32) (hi : i ≤ n) (hr : ss[i]? = some r) :
    oMeets l Z (⟨"com/example/kaskade/kaskade/simulation/SlotQueue", "removeAt", "(I)V"⟩ : MethodName) prog_23_method_9_code 5 none ({ frames := 2, cells := 0, slots := 0, locals := 40 } : Room) #[.ref q, .int (Int32.ofNat i)] h0 (fun x => lo ≤ x) (fun v h => ∃ us xs ws, v = none ∧ oQ Z h lo q sa ka pa us xs ws n ∧ own_I us ws n (fun z => M z ∧ z ≠ r) ∧ ws.length = ps.length) := by
  refine oMeets.of pno_14 (fun _ r => Nat.le_trans F.le r) (fun _ _ r => Nat.le_trans hlo r) (Ls := [.val (.ref q), .val (.int (Int32.ofNat i)), .unset, .unset, .unset]) (fun m => efo_14 m q (Int32.ofNat i)) ?_
  intro p e s m below meth c C hs
  have hn16 := I.2.1
  obtain ⟨r1, r2, r3⟩ := I.2.2.1 i r (by omega) hr
  refine K_aloadN C (pc := 0) d14_0 rfl (by first | rfl | assumption) ?_
  refine K_getF C (pc := 1) (tw19 hw) Via.refl F.FP d14_1 ?_
  refine K_aloadN C (pc := 4) d14_4 rfl (by first | rfl | assumption) ?_
  refine K_getF C (pc := 5) (tw14 hw) Via.refl F.FS d14_5 ?_
  refine K_iloadN C (pc := 8) d14_8 rfl ?_
  refine K_iaload2 C (pc := 9) (v := .int r) i F.AS (oOf _ (by omega)) (by rw [List.getElem?_map, hr]; rfl) d14_9 ?_
  refine K_iconst C (pc := 10) (-1) d14_10 (by decide) ?_
  refine K_iastore2 C (pc := 11) (own_n r) F.AP (own_nt r2) (by rw [List.length_map]; exact own_gl r3) F.p1 d14_11 ?_
  intro h1 W1 _
  replace F := F.wP (tw5 hw) W1
  refine K_aloadN C (pc := 12) d14_12 rfl (by first | rfl | assumption) ?_
  refine K_dup C (pc := 13) d14_13 rfl ?_
  refine K_getF C (pc := 14) (tw30 hw) Via.refl F.FN d14_14 ?_
  refine K_iconst C (pc := 17) 1 d14_17 (by decide) ?_
  refine K_isub C (pc := 18) d14_18 ?_
  rw [own_pred]
  refine K_putF C (pc := 19) (tw30 hw) Via.refl F.FN F.X (Or.inl (tw31 hw)) (tw5 hw) (ty := .int) (by decide) rfl rfl F.q1 d14_19 ?_
  intro h2 W2
  have F2 : oQ Z h2 lo q sa ka pa ss ks (ps.set (own_n r) (-1)) n := ⟨F.X.wr W2, (Fld.other W2 F.FS (Or.inr (slot_ne (Or.inl (tw15 hw)) (Or.inl (tw31 hw)) (by decide) (t := (.array .int)) (t' := .int) (by decide) (by decide)))), (Fld.other W2 F.FK (Or.inr (slot_ne (Or.inl (tw18 hw)) (Or.inl (tw31 hw)) (by decide) (t := (.array .double)) (t' := .int) (by decide) (by decide)))), (Fld.other W2 F.FP (Or.inr (slot_ne (Or.inl (tw20 hw)) (Or.inl (tw31 hw)) (by decide) (t := (.array .int)) (t' := .int) (by decide) (by decide)))), Fld.same W2 F.FN, F.AS.other W2 (Ne.symm (oNq F.X (tw5 hw) F.AS)), F.AK.other W2 (Ne.symm (oNq F.X (tw5 hw) F.AK)), F.AP.other W2 (Ne.symm (oNq F.X (tw5 hw) F.AP)), F.sp, F.sk, F.pk, F.q1, F.s1, F.k1, F.p1, F.lk, F.ls⟩
  clear F
  have F := F2
  clear F2
  refine K_iloadN C (pc := 22) d14_22 rfl ?_
  refine K_aloadN C (pc := 23) d14_23 rfl (by first | rfl | assumption) ?_
  refine K_getF C (pc := 24) (tw30 hw) Via.refl F.FN d14_24 ?_
  refine K_icmp C (pc := 27) 74 d14_27 (by decide) (by decide) (fun hc27 => ?_) (fun hc27 => ?_)
  · simp only [oC, Classical.not_not] at hc27
    obtain rfl : i = n := by have hq : ¬ i < n := fun z => hc27 ((oOfLt (by omega) (by omega)).mpr z); omega
    refine K_return C (pc := 74) d14_74 (by decide) (by decide) (fun _ _ => ⟨_, _, _, rfl, F, I.last hp hr, by rw [List.length_set]⟩)
  · simp only [oC, Classical.not_not] at hc27
    have hin : i < n := (oOfLt (by omega) (by omega)).mp hc27
    obtain ⟨sv, hsv, s1, s2, s3⟩ := I.at (i := n) (by omega)
    obtain ⟨ky, hky⟩ : ∃ kp, ks[n]? = some kp := ⟨ks[n]'(by rw [F.lk]; omega), List.getElem?_eq_getElem _⟩
    have hsr : sv ≠ r := fun e => by have := I.dist (by omega) (by omega) hsv (e ▸ hr); omega
    refine K_aloadN C (pc := 30) d14_30 rfl (by first | rfl | assumption) ?_
    refine K_getF C (pc := 31) (tw14 hw) Via.refl F.FS d14_31 ?_
    refine K_aloadN C (pc := 34) d14_34 rfl (by first | rfl | assumption) ?_
    refine K_getF C (pc := 35) (tw30 hw) Via.refl F.FN d14_35 ?_
    refine K_iaload2 C (pc := 38) (v := .int sv) n F.AS (oOf _ (by omega)) (by rw [List.getElem?_map, hsv]; rfl) d14_38 ?_
    refine K_istoreN C (pc := 39) (Ls' := [_, _, _, _, _]) d14_39 rfl ?_
    refine K_aloadN C (pc := 40) d14_40 rfl (by first | rfl | assumption) ?_
    refine K_getF C (pc := 41) (tw17 hw) Via.refl F.FK d14_41 ?_
    refine K_aloadN C (pc := 44) d14_44 rfl (by first | rfl | assumption) ?_
    refine K_getF C (pc := 45) (tw30 hw) Via.refl F.FN d14_45 ?_
    refine K_daload2 C (pc := 48) (v := .double ky) n F.AK (oOf _ (by omega)) (by rw [List.getElem?_map, hky]; rfl) d14_48 ?_
    refine K_dstoreN C (pc := 49) (Ls' := [_, _, _, _, _]) d14_49 rfl ?_
    refine K_aloadN C (pc := 50) d14_50 rfl (by first | rfl | assumption) ?_
    refine K_iloadN C (pc := 51) d14_51 rfl ?_
    refine K_iloadN C (pc := 52) d14_52 rfl ?_
    refine K_dloadN C (pc := 53) d14_53 rfl ?_
    refine K_private C (pc := 54) (mDOWN l Z a0 hw q sa ka pa lo ss ks (ps.set (own_n r) (-1)) n _ hlo F i sv ky _ (I.open hp hin hr hsv)) (F.X) (tw71 hw) (oSelf.of (tw28 hw) rfl) (tw73 hw) (tw72 hw) (tw6 hw) (tw74 hw) (by decide) pdo_2 d14_54 (argsL := [_, _, _]) (rest := _) rfl rfl rfl rfl (fun _ _ r => r) (by decide) (Nat.le_of_ble_eq_true rfl) (by decide) (by decide) ?_
    rintro _ h3 ⟨us, xs, ws, rfl, F3, I3, hL3⟩ -
    dsimp only [Option.toList, List.cons_append, List.nil_append]
    clear F
    have F := F3
    clear F3
    rw [List.length_set] at hL3
    replace I3 := I3.mono (own_iff1 s1 hsr)
    obtain ⟨t, ht, -⟩ := I3.at (i := i) hin
    refine K_aloadN C (pc := 57) d14_57 rfl (by first | rfl | assumption) ?_
    refine K_getF C (pc := 58) (tw14 hw) Via.refl F.FS d14_58 ?_
    refine K_iloadN C (pc := 61) d14_61 rfl ?_
    refine K_iaload2 C (pc := 62) (v := .int t) i F.AS (oOf _ (by omega)) (by rw [List.getElem?_map, ht]; rfl) d14_62 ?_
    refine K_iloadN C (pc := 63) d14_63 rfl ?_
    refine K_icmp C (pc := 64) 74 d14_64 (by decide) (by decide) (fun hc64 => ?_) (fun hc64 => ?_)
    · simp only [oC, Classical.not_not] at hc64
      refine K_return C (pc := 74) d14_74 (by decide) (by decide) (fun _ _ => ⟨_, _, _, rfl, F, I3, hL3⟩)
    · simp only [oC, Classical.not_not] at hc64
      refine K_aloadN C (pc := 67) d14_67 rfl (by first | rfl | assumption) ?_
      refine K_iloadN C (pc := 68) d14_68 rfl ?_
      refine K_iloadN C (pc := 69) d14_69 rfl ?_
      refine K_dloadN C (pc := 70) d14_70 rfl ?_
      subst hc64
      refine K_private C (pc := 71) (mUP l Z a0 hw q sa ka pa lo us xs ws n _ hlo F i t ky _ (I3.re hin ht)) (F.X) (tw54 hw) (oSelf.of (tw28 hw) rfl) (tw56 hw) (tw55 hw) (tw6 hw) (tw57 hw) (by decide) pdo_2 d14_71 (argsL := [_, _, _]) (rest := _) rfl rfl rfl rfl (fun _ _ r => r) (by decide) (Nat.le_of_ble_eq_true rfl) (by decide) (by decide) ?_
      rintro _ h4 ⟨us4, xs4, ws4, rfl, F4, I4, hL4⟩ -
      dsimp only [Option.toList, List.cons_append, List.nil_append]
      refine K_return C (pc := 74) d14_74 (by decide) (by decide) (fun _ _ => ⟨_, _, _, rfl, F4, I4.mono (own_iff2 ⟨s1, hsr⟩), hL4.trans hL3⟩)
theorem pno_13 : plainFor (⟨"com/example/kaskade/kaskade/simulation/SlotQueue", "poll", "()I"⟩ : MethodName) = true := by first | exact plainFor_of_name (by first | (simp [plainName, overriddenIn]; done) | decide +kernel) | decide +kernel
theorem efo_13 (m : MethodId) (x0 : Addr) : entryFrame m #[.ref x0] 2 = oF m 0 [.val (.ref x0), .unset] [] := by (first | (simp [entryFrame, oF, mkF, argsToLocals, Value.category]; done) | rfl)
set_option maxRecDepth 65536 in
set_option maxHeartbeats 40000000 in
theorem mPOLL (l : Launch) (Z : State) (a0 : Array Value) (hw : ∀ d ∈ tables_1, d.before a0 Z = true) (q sa ka pa : Addr) (lo : Nat) (ss : List Int32) (ks : List UInt64) (ps : List Int32) (n : Nat) (h0 : Heap) (hlo : Z.heap.size ≤ lo) (F : oQ Z h0 lo q sa ka pa ss ks ps (n + 1)) (M : Int32 → Prop) (I : own_I ss ps (n + 1) M) (hp : ps.length < 2 ^ 31) :
    oMeets l Z (⟨"com/example/kaskade/kaskade/simulation/SlotQueue", "poll", "()I"⟩ : MethodName) prog_23_method_7_code 2 (some .int) ({ frames := 3, cells := 0, slots := 0, locals := 60 } : Room) #[.ref q] h0 (fun x => lo ≤ x) (fun v h => ∃ r us xs ws, v = some (.int r) ∧ M r ∧ oQ Z h lo q sa ka pa us xs ws n ∧ own_I us ws n (fun z => M z ∧ z ≠ r) ∧ ws.length = ps.length) := by
  refine oMeets.of pno_13 (fun _ r => Nat.le_trans F.le r) (fun _ _ r => Nat.le_trans hlo r) (Ls := [.val (.ref q), .unset]) (fun m => efo_13 m q) ?_
  intro p e s m below meth c C hs
  obtain ⟨r, hr, r1, r2, r3⟩ := I.at (i := 0) (by omega)
  refine K_aloadN C (pc := 0) d13_0 rfl (by first | rfl | assumption) ?_
  refine K_getF C (pc := 1) (tw14 hw) Via.refl F.FS d13_1 ?_
  refine K_iconst C (pc := 4) 0 d13_4 (by decide) ?_
  refine K_iaload2 C (pc := 5) (v := .int r) 0 F.AS rfl (by rw [List.getElem?_map, hr]; rfl) d13_5 ?_
  refine K_istoreN C (pc := 6) (Ls' := [_, _]) d13_6 rfl ?_
  refine K_aloadN C (pc := 7) d13_7 rfl (by first | rfl | assumption) ?_
  refine K_iconst C (pc := 8) 0 d13_8 (by decide) ?_
  refine K_private C (pc := 9) (mREMAT l Z a0 hw q sa ka pa lo ss ks ps n _ hlo F M I hp 0 r (by omega) hr) (F.X) (tw67 hw) (oSelf.of (tw28 hw) rfl) (tw69 hw) (tw68 hw) (tw6 hw) (tw70 hw) (by decide) pdo_4 d13_9 (argsL := [_]) (rest := _) rfl rfl rfl rfl (fun _ _ r => r) (by decide) (Nat.le_of_ble_eq_true rfl) (by decide) (by decide) ?_
  rintro _ h3 ⟨us, xs, ws, rfl, F3, I3, hL3⟩ -
  dsimp only [Option.toList, List.cons_append, List.nil_append]
  refine K_iloadN C (pc := 12) d13_12 rfl ?_
  refine K_ireturn C (pc := 13) d13_13 (by simp) rfl (by decide) (by decide) (fun _ _ => ⟨r, us, xs, ws, rfl, r1, F3, I3, hL3⟩)
theorem pno_6 : plainFor (⟨"com/example/kaskade/kaskade/simulation/SlotQueue", "add", "(ID)V"⟩ : MethodName) = true := by first | exact plainFor_of_name (by first | (simp [plainName, overriddenIn]; done) | decide +kernel) | decide +kernel
theorem efo_6 (m : MethodId) (x0 : Addr) (x1 : Int32) (x2 : UInt64) : entryFrame m #[.ref x0, .int x1, .double x2] 5 = oF m 0 [.val (.ref x0), .val (.int x1), .val (.double x2), .second, .unset] [] := by (first | (simp [entryFrame, oF, mkF, argsToLocals, Value.category]; done) | rfl)
set_option maxRecDepth 65536 in
set_option maxHeartbeats 40000000 in
theorem mADD (l : Launch) (Z : State) (a0 : Array Value) (hw : ∀ d ∈ tables_1, d.before a0 Z = true) (q sa ka pa : Addr) (lo : Nat) (ss : List Int32) (ks : List UInt64) (ps : List Int32) (n : Nat) (h0 : Heap) (hlo : Z.heap.size ≤ lo) (F : oQ Z h0 lo q sa ka pa ss ks ps n) (sv : Int32) (ky : UInt64) (M : Int32 → Prop) (I : own_I ss ps n M) (hn : n < 16) (hsm : ¬ M sv) (hs0 : 0 ≤ sv.toInt) (hc1 : own_n sv + 1 ≤ 132) (hc2 : ps.length ≤ own_n sv → 2 * ps.length ≤ 132) (hp : ps.length < 2 ^ 31) :
    oMeets l Z (⟨"com/example/kaskade/kaskade/simulation/SlotQueue", "add", "(ID)V"⟩ : MethodName) prog_23_method_6_code 5 none ({ frames := 2, cells := 1, slots := 132, locals := 70 } : Room) #[.ref q, .int sv, .double ky] h0 (fun x => lo ≤ x) (fun v h => ∃ pb us xs ws, v = none ∧ oQ Z h lo q sa ka pb us xs ws (n + 1) ∧ own_I us ws (n + 1) (fun z => M z ∨ z = sv) ∧ (ws.length = ps.length ∨ (ps.length ≤ own_n sv ∧ ws.length ≤ max (2 * ps.length) (own_n sv + 1)))) := by
  refine oMeets.of pno_6 (fun _ r => Nat.le_trans F.le r) (fun _ _ r => Nat.le_trans hlo r) (Ls := [.val (.ref q), .val (.int sv), .val (.double ky), .second, .unset]) (fun m => efo_6 m q sv ky) ?_
  intro p e s m below meth c C hs
  have J52 : ∀ (h : Heap) (pb : Addr) (ws : List Int32) (s4 : Slot) (k nn : Nat), k ≤ 1 → nn ≤ 132 → oQ Z h lo q sa ka pb ss ks ws n → own_I ss ws n M → own_n sv < ws.length → (ws.length = ps.length ∨ (ps.length ≤ own_n sv ∧ ws.length ≤ max (2 * ps.length) (own_n sv + 1))) → oWP false p l e ({ frames := 2, cells := 1, slots := 132, locals := 70 } : Room) s m #[.ref q, .int sv, .double ky] below meth c (fun x => lo ≤ x) (fun v h _ => ((fun v h => ∃ pb us xs ws, v = none ∧ oQ Z h lo q sa ka pb us xs ws (n + 1) ∧ own_I us ws (n + 1) (fun z => M z ∨ z = sv) ∧ (ws.length = ps.length ∨ (ps.length ≤ own_n sv ∧ ws.length ≤ max (2 * ps.length) (own_n sv + 1))))) v h) oT h k nn (oF m 52 [.val (.ref q), .val (.int sv), .val (.double ky), .second, s4] []) := by
    intro h pb ws s4 k nn hkk hnn F I hw2 hw3
    refine oWP.more (k' := 1) (n' := 132) ?_ hkk hnn
    refine K_aloadN C (pc := 52) d6_52 rfl (by first | rfl | assumption) ?_
    refine K_getF C (pc := 53) (tw30 hw) Via.refl F.FN d6_53 ?_
    refine K_aloadN C (pc := 56) d6_56 rfl (by first | rfl | assumption) ?_
    refine K_getF C (pc := 57) (tw14 hw) Via.refl F.FS d6_57 ?_
    refine K_alen2 C (pc := 60) F.AS d6_60 ?_
    rw [List.length_map, F.ls]
    refine K_icmp C (pc := 61) 98 d6_61 (by decide) (by decide) (fun hc61 => ?_) (fun hc61 => ?_)
    · simp only [oC, Classical.not_not] at hc61
      refine K_aloadN C (pc := 98) d6_98 rfl (by first | rfl | assumption) ?_
      refine K_aloadN C (pc := 99) d6_99 rfl (by first | rfl | assumption) ?_
      refine K_dup C (pc := 100) d6_100 rfl ?_
      refine K_getF C (pc := 101) (tw30 hw) Via.refl F.FN d6_101 ?_
      refine K_dup_x1 C (pc := 104) d6_104 rfl rfl ?_
      refine K_iconst C (pc := 105) 1 d6_105 (by decide) ?_
      refine K_iadd C (pc := 106) d6_106 ?_
      rw [oOfS]
      refine K_putF C (pc := 107) (tw30 hw) Via.refl F.FN F.X (Or.inl (tw31 hw)) (tw5 hw) (ty := .int) (by decide) rfl rfl F.q1 d6_107 ?_
      intro h2 W2
      have F2 : oQ Z h2 lo q sa ka pb ss ks ws (n + 1) := ⟨F.X.wr W2, (Fld.other W2 F.FS (Or.inr (slot_ne (Or.inl (tw15 hw)) (Or.inl (tw31 hw)) (by decide) (t := (.array .int)) (t' := .int) (by decide) (by decide)))), (Fld.other W2 F.FK (Or.inr (slot_ne (Or.inl (tw18 hw)) (Or.inl (tw31 hw)) (by decide) (t := (.array .double)) (t' := .int) (by decide) (by decide)))), (Fld.other W2 F.FP (Or.inr (slot_ne (Or.inl (tw20 hw)) (Or.inl (tw31 hw)) (by decide) (t := (.array .int)) (t' := .int) (by decide) (by decide)))), Fld.same W2 F.FN, F.AS.other W2 (Ne.symm (oNq F.X (tw5 hw) F.AS)), F.AK.other W2 (Ne.symm (oNq F.X (tw5 hw) F.AK)), F.AP.other W2 (Ne.symm (oNq F.X (tw5 hw) F.AP)), F.sp, F.sk, F.pk, F.q1, F.s1, F.k1, F.p1, F.lk, F.ls⟩
      clear F
      have F := F2
      clear F2
      refine K_iloadN C (pc := 110) d6_110 rfl ?_
      refine K_dloadN C (pc := 111) d6_111 rfl ?_
      refine K_private C (pc := 112) (mUP l Z a0 hw q sa ka pb lo ss ks ws (n + 1) _ hlo F n sv ky M (I.hole hn hsm hs0 hw2)) (F.X) (tw54 hw) (oSelf.of (tw28 hw) rfl) (tw56 hw) (tw55 hw) (tw6 hw) (tw57 hw) (by decide) pdo_2 d6_112 (argsL := [_, _, _]) (rest := _) rfl rfl rfl rfl (fun _ _ r => r) (by decide) (Nat.le_of_ble_eq_true rfl) (by decide) (by decide) ?_
      rintro _ h3 ⟨us, xs, ws3, rfl, F3, I3, hL3⟩ -
      dsimp only [Option.toList, List.cons_append, List.nil_append]
      refine K_return C (pc := 115) d6_115 (by decide) (by decide) (fun _ _ => ⟨pb, us, xs, ws3, rfl, F3, I3, by omega⟩)
    · simp only [oC, Classical.not_not] at hc61
      exact absurd ((oOfEq (by omega) (by decide)).mp hc61) (by omega)
  refine K_iloadN C (pc := 0) d6_0 rfl ?_
  refine K_aloadN C (pc := 1) d6_1 rfl (by first | rfl | assumption) ?_
  refine K_getF C (pc := 2) (tw19 hw) Via.refl F.FP d6_2 ?_
  refine K_alen2 C (pc := 5) F.AP d6_5 ?_
  rw [List.length_map]
  refine K_icmp C (pc := 6) 52 d6_6 (by decide) (by decide) (fun hc6 => ?_) (fun hc6 => ?_)
  · simp only [oC, Classical.not_not] at hc6
    exact J52 _ pa ps _ _ _ (by omega) (by omega) F I (by have := own_nt hs0; rw [Int32.lt_iff_toInt_lt, oOf _ (by omega)] at hc6; omega) (Or.inl rfl)
  · simp only [oC, Classical.not_not] at hc6
    have hge : ps.length ≤ own_n sv := by
      have := own_nt hs0
      rw [Int32.lt_iff_toInt_lt, oOf _ (by omega)] at hc6
      omega
    have h2P := hc2 hge
    refine K_aloadN C (pc := 9) d6_9 rfl (by first | rfl | assumption) ?_
    refine K_getF C (pc := 10) (tw19 hw) Via.refl F.FP d6_10 ?_
    refine K_alen2 C (pc := 13) F.AP d6_13 ?_
    rw [List.length_map]
    refine K_istore C (pc := 14) (Ls' := [_, _, _, _, _]) d6_14 rfl ?_
    refine K_aloadN C (pc := 16) d6_16 rfl (by first | rfl | assumption) ?_
    refine K_aloadN C (pc := 17) d6_17 rfl (by first | rfl | assumption) ?_
    refine K_getF C (pc := 18) (tw19 hw) Via.refl F.FP d6_18 ?_
    refine K_iloadN C (pc := 21) d6_21 rfl ?_
    refine K_iconst C (pc := 22) 1 d6_22 (by decide) ?_
    refine K_iadd C (pc := 23) d6_23 ?_
    rw [own_s1 hs0]
    refine K_iconst C (pc := 24) 2 d6_24 (by decide) ?_
    refine K_iload C (pc := 25) d6_25 rfl ?_
    refine K_imul C (pc := 27) d6_27 ?_
    rw [own_dbl]
    refine K_static C (pc := 28) (mMAX l Z a0 hw (own_n sv + 1) (2 * ps.length) _ (by omega) (by omega)) (tw37 hw) (tw38 hw) (tw2 hw) (tw39 hw) (by decide) pdo_1 d6_28 (argsL := [_, _]) (rest := _) rfl rfl rfl rfl (fun a q r => C.new a (Nat.le_trans q r)) (by decide) (Nat.le_of_ble_eq_true rfl) (by decide) (by decide) ?_
    rintro _ h8 ⟨rfl, hh⟩ -
    replace hh := hh.symm
    subst hh
    dsimp only [Option.toList, List.cons_append, List.nil_append]
    have hmx : ps.length < max (own_n sv + 1) (2 * ps.length) ∧ max (own_n sv + 1) (2 * ps.length) ≤ 132 := by omega
    refine K_static C (pc := 31) (mCOPY l Z a0 hw pa ps (max (own_n sv + 1) (2 * ps.length)) _ hmx.1 hmx.2 F.AP) (tw40 hw) (tw41 hw) (tw23 hw) (tw42 hw) (by decide) pdo_5 d6_31 (argsL := [_, _]) (rest := _) rfl rfl rfl rfl (fun a q r => C.new a (Nat.le_trans q r)) (by decide) (Nat.le_of_ble_eq_true rfl) (by decide) (by decide) ?_
    rintro _ h1 ⟨pb, rfl, D1, hpb⟩ hK1
    have hlo1 : lo ≤ pb := Nat.le_trans F.le hpb
    have hsb : sa ≠ pb := fun e => Nat.lt_irrefl _ (Nat.lt_of_lt_of_le F.AS.lt (e ▸ hpb))
    have hkb : pb ≠ ka := fun e => Nat.lt_irrefl _ (Nat.lt_of_lt_of_le F.AK.lt (e ▸ hpb))
    replace F := F.ext hK1.ext
    dsimp only [Option.toList, List.cons_append, List.nil_append]
    refine K_putF C (pc := 34) (tw19 hw) Via.refl F.FP F.X (Or.inl (tw20 hw)) (tw5 hw) (ty := (.array .int)) (by decide) rfl rfl F.q1 d6_34 ?_
    intro h2 W2
    have F2 : oQ Z h2 lo q sa ka pb ss ks (ps ++ List.replicate (max (own_n sv + 1) (2 * ps.length) - ps.length) 0) n := ⟨F.X.wr W2, (Fld.other W2 F.FS (Or.inr (slot_ne (Or.inl (tw15 hw)) (Or.inl (tw20 hw)) (by decide) (t := (.array .int)) (t' := (.array .int)) (by decide) (by decide)))), (Fld.other W2 F.FK (Or.inr (slot_ne (Or.inl (tw18 hw)) (Or.inl (tw20 hw)) (by decide) (t := (.array .double)) (t' := (.array .int)) (by decide) (by decide)))), Fld.same W2 F.FP, (Fld.other W2 F.FN (Or.inr (slot_ne (Or.inl (tw31 hw)) (Or.inl (tw20 hw)) (by decide) (t := .int) (t' := (.array .int)) (by decide) (by decide)))), F.AS.other W2 (Ne.symm (oNq F.X (tw5 hw) F.AS)), F.AK.other W2 (Ne.symm (oNq F.X (tw5 hw) F.AK)), D1.other W2 (Ne.symm (oNq F.X (tw5 hw) D1)), hsb, F.sk, hkb, F.q1, F.s1, F.k1, hlo1, F.lk, F.ls⟩
    clear F D1
    have F := F2
    clear F2
    refine K_aloadN C (pc := 37) d6_37 rfl (by first | rfl | assumption) ?_
    refine K_getF C (pc := 38) (tw19 hw) Via.refl F.FP d6_38 ?_
    refine K_iload C (pc := 41) d6_41 rfl ?_
    refine K_aloadN C (pc := 43) d6_43 rfl (by first | rfl | assumption) ?_
    refine K_getF C (pc := 44) (tw19 hw) Via.refl F.FP d6_44 ?_
    refine K_alen2 C (pc := 47) F.AP d6_47 ?_
    rw [List.length_map, List.length_append, List.length_replicate]
    refine K_iconst C (pc := 48) (-1) d6_48 (by decide) ?_
    refine K_static C (pc := 49) (mFILL3 l Z a0 hw pb ps (max (own_n sv + 1) (2 * ps.length) - ps.length) (-1) _ (by omega) (Nat.le_trans hlo hlo1) F.AP) (tw48 hw) (tw49 hw) (tw23 hw) (tw50 hw) (by decide) pdo_6 d6_49 (argsL := [_, _, _, _]) (rest := _) rfl rfl rfl rfl (fun x _ r => r.elim (fun z => z ▸ hlo1) (fun z => Nat.le_trans F.le z)) (by decide) (Nat.le_of_ble_eq_true rfl) (by decide) (by decide) ?_
    rintro _ h3 ⟨rfl, A3⟩ hK3
    replace F := F.kpP (tw5 hw) hK3 A3
    replace I := I.grow (k := max (own_n sv + 1) (2 * ps.length) - ps.length)
    dsimp only [Option.toList, List.cons_append, List.nil_append]
    exact J52 _ pb _ _ _ _ (by omega) (by omega) F I (by rw [List.length_append, List.length_replicate]; omega) (Or.inr ⟨hge, by rw [List.length_append, List.length_replicate]; omega⟩)
theorem pno_2 : plainFor (⟨"com/example/kaskade/kaskade/simulation/SlotQueue", "<init>", "()V"⟩ : MethodName) = true := by first | exact plainFor_of_name (by first | (simp [plainName, overriddenIn]; done) | decide +kernel) | decide +kernel
theorem efo_2 (m : MethodId) (x0 : Addr) : entryFrame m #[.ref x0] 1 = oF m 0 [.val (.ref x0)] [] := by (first | (simp [entryFrame, oF, mkF, argsToLocals, Value.category]; done) | rfl)
set_option maxRecDepth 65536 in
set_option maxHeartbeats 40000000 in
theorem mINIT (l : Launch) (Z : State) (a0 : Array Value) (hw : ∀ d ∈ tables_1, d.before a0 Z = true) (q : Addr) (lo : Nat) (h0 : Heap) (hlo : Z.heap.size ≤ lo) (hq0 : lo ≤ q) (X : Exa Z h0 q "com/example/kaskade/kaskade/simulation/SlotQueue") (FS : Fld Z h0 q "com/example/kaskade/kaskade/simulation/SlotQueue" "slots" "[I" .null) (FK : Fld Z h0 q "com/example/kaskade/kaskade/simulation/SlotQueue" "keys" "[D" .null) (FP : Fld Z h0 q "com/example/kaskade/kaskade/simulation/SlotQueue" "places" "[I" .null) (FN : Fld Z h0 q "com/example/kaskade/kaskade/simulation/SlotQueue" "size" "I" (.int (Int32.ofNat 0))) :
    oMeets l Z (⟨"com/example/kaskade/kaskade/simulation/SlotQueue", "<init>", "()V"⟩ : MethodName) prog_23_method_1_code 1 none ({ frames := 1, cells := 3, slots := 48, locals := 40 } : Room) #[.ref q] h0 (fun x => lo ≤ x) (fun v h => ∃ sa ka pa, v = none ∧ oQ Z h lo q sa ka pa (List.replicate 16 0) (List.replicate 16 0) (List.replicate 16 (-1)) 0) := by
  refine oMeets.of pno_2 (fun _ r => Nat.le_trans (Nat.le_of_lt (Nat.lt_of_le_of_lt hq0 (oXlt X))) r) (fun _ _ r => Nat.le_trans hlo r) (Ls := [.val (.ref q)]) (fun m => efo_2 m q) ?_
  intro p e s m below meth c C hs
  refine K_aloadN C (pc := 0) d2_0 rfl (by first | rfl | assumption) ?_
  refine K_initO C (pc := 1) (tw10 hw) (tw11 hw) (tw12 hw) d2_1 rfl (by decide) (Nat.le_of_ble_eq_true rfl) ?_
  refine K_aloadN C (pc := 4) d2_4 rfl (by first | rfl | assumption) ?_
  refine K_bipush C (pc := 5) 16 d2_5 (by decide) ?_
  refine K_newarray2 C (aty := .int) (pc := 7) 16 16 (tw13 hw) d2_7 rfl (by decide) (by decide) (by decide) (by decide) ?_
  intro h1 sa hsa hPsa Esa AS
  replace X := X.ext Esa
  replace FS := FS.ext Esa
  replace FK := FK.ext Esa
  replace FP := FP.ext Esa
  replace FN := FN.ext Esa
  refine K_putF C (pc := 9) (tw14 hw) Via.refl FS X (Or.inl (tw15 hw)) (tw5 hw) (ty := (.array .int)) (by decide) rfl rfl hq0 d2_9 ?_
  intro h2 W1
  replace FS := Fld.same W1 FS
  replace FK := (Fld.other W1 FK (Or.inr (slot_ne (Or.inl (tw18 hw)) (Or.inl (tw15 hw)) (by decide) (t := (.array .double)) (t' := (.array .int)) (by decide) (by decide))))
  replace FP := (Fld.other W1 FP (Or.inr (slot_ne (Or.inl (tw20 hw)) (Or.inl (tw15 hw)) (by decide) (t := (.array .int)) (t' := (.array .int)) (by decide) (by decide))))
  replace FN := (Fld.other W1 FN (Or.inr (slot_ne (Or.inl (tw31 hw)) (Or.inl (tw15 hw)) (by decide) (t := .int) (t' := (.array .int)) (by decide) (by decide))))
  replace AS := AS.other W1 (Ne.symm (oNq X (tw5 hw) AS))
  replace X := X.wr W1
  refine K_aloadN C (pc := 12) d2_12 rfl (by first | rfl | assumption) ?_
  refine K_bipush C (pc := 13) 16 d2_13 (by decide) ?_
  refine K_newarray2 C (aty := .double) (pc := 15) 16 16 (tw16 hw) d2_15 rfl (by decide) (by decide) (by decide) (by decide) ?_
  intro h3 ka hka hPka Eka AK
  replace X := X.ext Eka
  replace FS := FS.ext Eka
  replace FK := FK.ext Eka
  replace FP := FP.ext Eka
  replace FN := FN.ext Eka
  have hn_sa_ka : sa ≠ ka := fun e => Nat.lt_irrefl _ (Nat.lt_of_lt_of_eq AS.lt (by rw [← hka, ← e]))
  replace AS := AS.ext Eka
  refine K_putF C (pc := 17) (tw17 hw) Via.refl FK X (Or.inl (tw18 hw)) (tw5 hw) (ty := (.array .double)) (by decide) rfl rfl hq0 d2_17 ?_
  intro h4 W2
  replace FS := (Fld.other W2 FS (Or.inr (slot_ne (Or.inl (tw15 hw)) (Or.inl (tw18 hw)) (by decide) (t := (.array .int)) (t' := (.array .double)) (by decide) (by decide))))
  replace FK := Fld.same W2 FK
  replace FP := (Fld.other W2 FP (Or.inr (slot_ne (Or.inl (tw20 hw)) (Or.inl (tw18 hw)) (by decide) (t := (.array .int)) (t' := (.array .double)) (by decide) (by decide))))
  replace FN := (Fld.other W2 FN (Or.inr (slot_ne (Or.inl (tw31 hw)) (Or.inl (tw18 hw)) (by decide) (t := .int) (t' := (.array .double)) (by decide) (by decide))))
  replace AS := AS.other W2 (Ne.symm (oNq X (tw5 hw) AS))
  replace AK := AK.other W2 (Ne.symm (oNq X (tw5 hw) AK))
  replace X := X.wr W2
  refine K_aloadN C (pc := 20) d2_20 rfl (by first | rfl | assumption) ?_
  refine K_bipush C (pc := 21) 16 d2_21 (by decide) ?_
  refine K_newarray2 C (aty := .int) (pc := 23) 16 16 (tw13 hw) d2_23 rfl (by decide) (by decide) (by decide) (by decide) ?_
  intro h5 pa hpa hPpa Epa AP
  replace X := X.ext Epa
  replace FS := FS.ext Epa
  replace FK := FK.ext Epa
  replace FP := FP.ext Epa
  replace FN := FN.ext Epa
  have hn_sa_pa : sa ≠ pa := fun e => Nat.lt_irrefl _ (Nat.lt_of_lt_of_eq AS.lt (by rw [← hpa, ← e]))
  have hn_ka_pa : ka ≠ pa := fun e => Nat.lt_irrefl _ (Nat.lt_of_lt_of_eq AK.lt (by rw [← hpa, ← e]))
  replace AS := AS.ext Epa
  replace AK := AK.ext Epa
  refine K_putF C (pc := 25) (tw19 hw) Via.refl FP X (Or.inl (tw20 hw)) (tw5 hw) (ty := (.array .int)) (by decide) rfl rfl hq0 d2_25 ?_
  intro h6 W3
  replace FS := (Fld.other W3 FS (Or.inr (slot_ne (Or.inl (tw15 hw)) (Or.inl (tw20 hw)) (by decide) (t := (.array .int)) (t' := (.array .int)) (by decide) (by decide))))
  replace FK := (Fld.other W3 FK (Or.inr (slot_ne (Or.inl (tw18 hw)) (Or.inl (tw20 hw)) (by decide) (t := (.array .double)) (t' := (.array .int)) (by decide) (by decide))))
  replace FP := Fld.same W3 FP
  replace FN := (Fld.other W3 FN (Or.inr (slot_ne (Or.inl (tw31 hw)) (Or.inl (tw20 hw)) (by decide) (t := .int) (t' := (.array .int)) (by decide) (by decide))))
  replace AS := AS.other W3 (Ne.symm (oNq X (tw5 hw) AS))
  replace AK := AK.other W3 (Ne.symm (oNq X (tw5 hw) AK))
  replace AP := AP.other W3 (Ne.symm (oNq X (tw5 hw) AP))
  replace X := X.wr W3
  have F : oQ Z h6 lo q sa ka pa (List.replicate 16 0) (List.replicate 16 0) (List.replicate 16 0) 0 := ⟨X, FS, FK, FP, FN, AS.eq (by rw [List.map_replicate]; rfl), AK.eq (by rw [List.map_replicate]; rfl), AP.eq (by rw [List.map_replicate]; rfl), hn_sa_pa, hn_sa_ka, Ne.symm hn_ka_pa, hq0, hPsa, hPka, hPpa, rfl, rfl⟩
  refine K_aloadN C (pc := 28) d2_28 rfl (by first | rfl | assumption) ?_
  refine K_getF C (pc := 29) (tw19 hw) Via.refl FP d2_29 ?_
  refine K_iconst C (pc := 32) (-1) d2_32 (by decide) ?_
  refine K_static C (pc := 33) (mFILL l Z a0 hw pa (-1) 16 _ (by decide) (Nat.le_trans hlo hPpa) F.AP) (tw21 hw) (tw22 hw) (tw23 hw) (tw24 hw) (by decide) pdo_7 d2_33 (argsL := [_, _]) (rest := _) rfl rfl rfl rfl (fun x _ r => r.elim (fun z => z ▸ hPpa) (fun z => Nat.le_trans F.le z)) (by decide) (Nat.le_of_ble_eq_true rfl) (by decide) (by decide) ?_
  rintro _ h7 ⟨rfl, A7⟩ hK7
  replace F := F.kpP (tw5 hw) hK7 A7
  dsimp only [Option.toList, List.cons_append, List.nil_append]
  refine K_return C (pc := 36) d2_36 (by decide) (by decide) (fun _ _ => ⟨sa, ka, pa, rfl, F⟩)
theorem pno_5 : plainFor (⟨"com/example/kaskade/kaskade/simulation/SlotQueue", "isEmpty", "()Z"⟩ : MethodName) = true := by first | exact plainFor_of_name (by first | (simp [plainName, overriddenIn]; done) | decide +kernel) | decide +kernel
theorem efo_5 (m : MethodId) (x0 : Addr) : entryFrame m #[.ref x0] 1 = oF m 0 [.val (.ref x0)] [] := by (first | (simp [entryFrame, oF, mkF, argsToLocals, Value.category]; done) | rfl)
set_option maxRecDepth 65536 in
set_option maxHeartbeats 40000000 in
theorem mEMP (l : Launch) (Z : State) (a0 : Array Value) (hw : ∀ d ∈ tables_1, d.before a0 Z = true) (q sa ka pa : Addr) (lo : Nat) (ss : List Int32) (ks : List UInt64) (ps : List Int32) (n : Nat) (h0 : Heap) (hlo : Z.heap.size ≤ lo) (F : oQ Z h0 lo q sa ka pa ss ks ps n) (hn : n < 2 ^ 31) :
    oMeets l Z (⟨"com/example/kaskade/kaskade/simulation/SlotQueue", "isEmpty", "()Z"⟩ : MethodName) prog_23_method_2_code 1 (some .boolean) ({ frames := 0, cells := 0, slots := 0, locals := 0 } : Room) #[.ref q] h0 (fun a => h0.size ≤ a) (fun v h => ∃ r : Int32, v = some (.int r) ∧ h = h0 ∧ ((r = 1 ∧ n = 0) ∨ (r = 0 ∧ n ≠ 0))) := by
  refine oMeets.of pno_5 (fun _ q => q) (fun E _ q => Nat.le_trans E.1 q) (Ls := [.val (.ref q)]) (fun m => efo_5 m q) ?_
  intro p e s m below meth c C hs
  refine K_aloadN C (pc := 0) d5_0 rfl (by first | rfl | assumption) ?_
  refine K_getF C (pc := 1) (tw30 hw) Via.refl F.FN d5_1 ?_
  refine K_if C (pc := 4) 11 d5_4 (by decide) (by decide) (fun hc4 => ?_) (fun hc4 => ?_)
  · simp only [oC, Classical.not_not] at hc4
    refine K_iconst C (pc := 11) 0 d5_11 (by decide) ?_
    refine K_ireturn C (pc := 12) d5_12 (by simp) (z' := 0) (by decide) (by decide) (by decide) (fun _ _ => ⟨0, rfl, rfl, Or.inr ⟨rfl, fun e => hc4 (by rw [e]; rfl)⟩⟩)
  · simp only [oC, Classical.not_not] at hc4
    refine K_iconst C (pc := 7) 1 d5_7 (by decide) ?_
    refine K_goto C (pc := 8) 12 d5_8 (by decide) (by decide) ?_
    refine K_ireturn C (pc := 12) d5_12 (by simp) (z' := 1) (by decide) (by decide) (by decide) (fun _ _ => ⟨1, rfl, rfl, Or.inl ⟨rfl, (oOfEq (n := 0) (by omega) (by decide)).mp hc4⟩⟩)
theorem pno_0 : plainFor x = true := by first | exact plainFor_of_name (by first | (simp [plainName, overriddenIn]; done) | decide +kernel) | decide +kernel
theorem efo_0 (m : MethodId) (x0 : Int32) (x1 : Int32) (x2 : Int32) (x3 : Int32) (x4 : Int32) (x5 : Int32) : entryFrame m #[.int x0, .int x1, .int x2, .int x3, .int x4, .int x5] maxLocals = oF m 0 [.val (.int x0), .val (.int x1), .val (.int x2), .val (.int x3), .val (.int x4), .val (.int x5), .unset, .unset, .unset, .unset, .unset, .unset, .unset, .unset, .unset, .unset, .unset, .unset, .unset, .unset, .unset] [] := by (first | (simp [entryFrame, oF, mkF, argsToLocals, Value.category, maxLocals]; done) | rfl)
theorem own_subN {a b : Nat} (h : b ≤ a) (ha : a < 2 ^ 31) : Int32.ofNat a - Int32.ofNat b = Int32.ofNat (a - b) := by
  apply Int32.toInt_inj.mp
  rw [Int32.toInt_sub, oOf a ha, oOf b (by omega), oOf _ (by omega), Int.bmod_def]
  omega
set_option maxRecDepth 65536 in
set_option maxHeartbeats 40000000 in
theorem m0 (l : Launch) (Z : State) (a0 : Array Value) (hw : ∀ d ∈ tables_1, d.before a0 Z = true) (p1 p2 p3 p4 p5 p6 : Int32) (h0 : Heap) :
    oMeets l Z x code maxLocals ret room_1 #[.int p1, .int p2, .int p3, .int p4, .int p5, .int p6] h0 (fun a => h0.size ≤ a) (fun v _ => v = some (.int 1)) := by
  refine oMeets.of pno_0 (fun _ q => q) (fun E _ q => Nat.le_trans E.1 q) (Ls := [.val (.int p1), .val (.int p2), .val (.int p3), .val (.int p4), .val (.int p5), .val (.int p6), .unset, .unset, .unset, .unset, .unset, .unset, .unset, .unset, .unset, .unset, .unset, .unset, .unset, .unset, .unset]) (fun m => efo_0 m p1 p2 p3 p4 p5 p6) ?_
  intro p e s m below meth c C hs
  refine K_iloadN C (pc := 0) at_0 rfl ?_
  refine K_iconst C (pc := 1) 3 at_1 (by decide) ?_
  refine K_iand C (pc := 2) at_2 ?_
  obtain ⟨nn, hnn, en⟩ := own_and3 p1
  rw [en]
  refine K_istore C (pc := 3) (Ls' := [_, _, _, _, _, _, _, _, _, _, _, _, _, _, _, _, _, _, _, _, _]) at_3 rfl ?_
  refine K_iload C (pc := 5) at_5 rfl ?_
  refine K_iconst C (pc := 7) 3 at_7 (by decide) ?_
  refine K_iand C (pc := 8) at_8 ?_
  obtain ⟨ff, hff, ef⟩ := own_and3 p6
  rw [ef]
  refine K_iload C (pc := 9) at_9 rfl ?_
  refine K_static C (pc := 11) (mMIN l Z a0 hw ff nn _ (by omega) (by omega)) (tw0 hw) (tw1 hw) (tw2 hw) (tw3 hw) (by decide) pdo_1 at_11 (argsL := [_, _]) (rest := _) rfl rfl rfl rfl (fun a q r => C.new a (Nat.le_trans q r)) (by decide) (Nat.le_of_ble_eq_true rfl) (by decide) (by decide) ?_
  rintro _ h8 ⟨rfl, hh⟩ -
  replace hh := hh.symm
  subst hh
  dsimp only [Option.toList, List.cons_append, List.nil_append]
  obtain ⟨kk, hkk⟩ : ∃ kk, kk = min ff nn := ⟨_, rfl⟩
  have hkn : kk ≤ nn := by omega
  rw [← hkk]
  refine K_istore C (pc := 14) (Ls' := [_, _, _, _, _, _, _, _, _, _, _, _, _, _, _, _, _, _, _, _, _]) at_14 rfl ?_
  refine K_iconst C (pc := 16) 1 at_16 (by decide) ?_
  refine K_iloadN C (pc := 17) at_17 rfl ?_
  refine K_bipush C (pc := 18) 31 at_18 (by decide) ?_
  refine K_iand C (pc := 20) at_20 ?_
  refine K_iadd C (pc := 21) at_21 ?_
  have hb := own_31 p2
  have h1 := own_sl1 _ hb
  generalize 1 + (p2 &&& 31) = s1 at h1 ⊢
  refine K_istore C (pc := 22) (Ls' := [_, _, _, _, _, _, _, _, _, _, _, _, _, _, _, _, _, _, _, _, _]) at_22 rfl ?_
  refine K_iload C (pc := 24) at_24 rfl ?_
  refine K_iconst C (pc := 26) 1 at_26 (by decide) ?_
  refine K_iadd C (pc := 27) at_27 ?_
  refine K_iloadN C (pc := 28) at_28 rfl ?_
  refine K_bipush C (pc := 29) 31 at_29 (by decide) ?_
  refine K_iand C (pc := 31) at_31 ?_
  refine K_iadd C (pc := 32) at_32 ?_
  have hc_ := own_31 p3
  have h2 := own_sl2 s1 _ (by omega) hc_
  generalize s1 + 1 + (p3 &&& 31) = s2 at h2 ⊢
  refine K_istore C (pc := 33) (Ls' := [_, _, _, _, _, _, _, _, _, _, _, _, _, _, _, _, _, _, _, _, _]) at_33 rfl ?_
  refine K_iload C (pc := 35) at_35 rfl ?_
  refine K_iconst C (pc := 37) 1 at_37 (by decide) ?_
  refine K_iadd C (pc := 38) at_38 ?_
  refine K_iloadN C (pc := 39) at_39 rfl ?_
  refine K_bipush C (pc := 40) 31 at_40 (by decide) ?_
  refine K_iand C (pc := 42) at_42 ?_
  refine K_iadd C (pc := 43) at_43 ?_
  have hd_ := own_31 p4
  have h3 := own_sl2 s2 _ (by omega) hd_
  generalize s2 + 1 + (p4 &&& 31) = s3 at h3 ⊢
  refine K_istore C (pc := 44) (Ls' := [_, _, _, _, _, _, _, _, _, _, _, _, _, _, _, _, _, _, _, _, _]) at_44 rfl ?_
  refine K_iload C (pc := 46) at_46 rfl ?_
  refine K_bipush C (pc := 48) 7 at_48 (by decide) ?_
  refine K_iand C (pc := 50) at_50 ?_
  refine K_i2d C (pc := 51) at_51 ?_
  intro k1
  refine K_dstore C (pc := 52) (Ls' := [_, _, _, _, _, _, _, _, _, _, _, _, _, _, _, _, _, _, _, _, _]) at_52 rfl ?_
  refine K_iload C (pc := 54) at_54 rfl ?_
  refine K_iconst C (pc := 56) 3 at_56 (by decide) ?_
  refine K_iushr C (pc := 57) at_57 ?_
  refine K_bipush C (pc := 58) 7 at_58 (by decide) ?_
  refine K_iand C (pc := 60) at_60 ?_
  refine K_i2d C (pc := 61) at_61 ?_
  intro k2
  refine K_dstore C (pc := 62) (Ls' := [_, _, _, _, _, _, _, _, _, _, _, _, _, _, _, _, _, _, _, _, _]) at_62 rfl ?_
  refine K_iload C (pc := 64) at_64 rfl ?_
  refine K_bipush C (pc := 66) 6 at_66 (by decide) ?_
  refine K_iushr C (pc := 68) at_68 ?_
  refine K_bipush C (pc := 69) 7 at_69 (by decide) ?_
  refine K_iand C (pc := 71) at_71 ?_
  refine K_i2d C (pc := 72) at_72 ?_
  intro k3
  refine K_dstore C (pc := 73) (Ls' := [_, _, _, _, _, _, _, _, _, _, _, _, _, _, _, _, _, _, _, _, _]) at_73 rfl ?_
  refine K_new C (pc := 75) (tw4 hw) (tw5 hw) (tw6 hw) at_75 (by decide) (by decide) ?_
  intro h1 q hq hPq E1 X D1
  have FS := D1 (Or.inl (tw15 hw)) (ty := (.array .int)) (by decide)
  have FK := D1 (Or.inl (tw18 hw)) (ty := (.array .double)) (by decide)
  have FP := D1 (Or.inl (tw20 hw)) (ty := (.array .int)) (by decide)
  have FN := D1 (Or.inl (tw31 hw)) (ty := .int) (by decide)
  have hlo : Z.heap.size ≤ h0.size := C.young h0.size (Nat.le_refl _)
  refine K_dup C (pc := 78) at_78 rfl ?_
  refine K_special C (pc := 79) (mINIT l Z a0 hw q h0.size _ hlo hPq X FS FK FP FN) (tw7 hw) (tw8 hw) (tw6 hw) (tw9 hw) rfl (by decide) pdo_11 at_79 (argsL := []) (rest := _) rfl rfl rfl rfl (fun _ _ r => r) (by decide) (Nat.le_of_ble_eq_true rfl) (by decide) (by decide) ?_
  rintro _ h2 ⟨sa, ka, pa, rfl, F⟩ -
  dsimp only [Option.toList, List.cons_append, List.nil_append]
  refine K_astore C (pc := 82) (Ls' := [_, _, _, _, _, _, _, _, _, _, _, _, _, _, _, _, _, _, _, _, _]) at_82 rfl rfl ?_
  refine K_aload C (pc := 84) at_84 rfl (by first | rfl | assumption) ?_
  refine K_virtual C (pc := 86) (mEMP l Z a0 hw q sa ka pa h0.size _ _ _ 0 _ hlo F (by decide)) (F.X) (tw25 hw) (tw26 hw) (oNF (tw28 hw)) (tw28 hw) (tw27 hw) (tw6 hw) (tw29 hw) (by decide) pdo_8 at_86 (argsL := []) (rest := _) rfl rfl rfl rfl (fun a q r => C.new a (Nat.le_trans q r)) (by decide) (Nat.le_of_ble_eq_true rfl) (by decide) (by decide) ?_
  rintro _ h8 ⟨r, rfl, hh, hr⟩ -
  replace hh := hh.symm
  subst hh
  dsimp only [Option.toList, List.cons_append, List.nil_append]
  obtain ⟨rfl, -⟩ := hr.resolve_right (fun z => z.2 rfl)
  refine K_istore C (pc := 89) (Ls' := [_, _, _, _, _, _, _, _, _, _, _, _, _, _, _, _, _, _, _, _, _]) at_89 rfl ?_
  have J225 : ∀ h : Heap, oWP false p l e room_1 s m #[.int p1, .int p2, .int p3, .int p4, .int p5, .int p6] below meth c (fun a => h0.size ≤ a) (fun v h _ => ((fun v _ => v = some (.int 1))) v h) oT h 7 448 (oF m 225 [.val (.int p1), .val (.int p2), .val (.int p3), .val (.int p4), .val (.int p5), .val (.int p6), .val (.int (Int32.ofNat nn)), .val (.int (Int32.ofNat kk)), .val (.int s1), .val (.int s2), .val (.int s3), .val (.double k1), .second, .val (.double k2), .second, .val (.double k3), .second, .val (.ref q), .val (.int 1), .val (.int 1), .val (.int 1)] []) := by
    intro h
    refine K_iload C (pc := 225) at_225 rfl ?_
    refine K_if C (pc := 227) 244 at_227 (by decide) (by decide) (fun hc227 => ?_) (fun hc227 => ?_)
    · simp only [oC, Classical.not_not] at hc227
      exact absurd hc227 (by decide)
    · simp only [oC, Classical.not_not] at hc227
      refine K_iload C (pc := 230) at_230 rfl ?_
      refine K_if C (pc := 232) 244 at_232 (by decide) (by decide) (fun hc232 => ?_) (fun hc232 => ?_)
      · simp only [oC, Classical.not_not] at hc232
        exact absurd hc232 (by decide)
      · simp only [oC, Classical.not_not] at hc232
        refine K_iload C (pc := 235) at_235 rfl ?_
        refine K_if C (pc := 237) 244 at_237 (by decide) (by decide) (fun hc237 => ?_) (fun hc237 => ?_)
        · simp only [oC, Classical.not_not] at hc237
          exact absurd hc237 (by decide)
        · simp only [oC, Classical.not_not] at hc237
          refine K_iconst C (pc := 240) 1 at_240 (by decide) ?_
          refine K_goto C (pc := 241) 245 at_241 (by decide) (by decide) ?_
          refine K_ireturn C (pc := 245) at_245 (by simp) (by first | rfl | decide) (by decide) (by decide) (fun _ _ => rfl)
  have J197 : ∀ (h : Heap) (pa : Addr) (ss : List Int32) (ks : List UInt64) (ps : List Int32) (M : Int32 → Prop), oQ Z h h0.size q sa ka pa ss ks ps (nn - kk) → own_I ss ps (nn - kk) M → oWP false p l e room_1 s m #[.int p1, .int p2, .int p3, .int p4, .int p5, .int p6] below meth c (fun a => h0.size ≤ a) (fun v h _ => ((fun v _ => v = some (.int 1))) v h) oT h 7 448 (oF m 197 [.val (.int p1), .val (.int p2), .val (.int p3), .val (.int p4), .val (.int p5), .val (.int p6), .val (.int (Int32.ofNat nn)), .val (.int (Int32.ofNat kk)), .val (.int s1), .val (.int s2), .val (.int s3), .val (.double k1), .second, .val (.double k2), .second, .val (.double k3), .second, .val (.ref q), .val (.int 1), .val (.int 1), .unset] []) := by
    intro h pa ss ks ps M F I
    refine K_aload C (pc := 197) at_197 rfl (by first | rfl | assumption) ?_
    refine K_virtual C (pc := 199) (mEMP l Z a0 hw q sa ka pa h0.size _ _ _ (nn - kk) _ hlo F (by omega)) (F.X) (tw25 hw) (tw26 hw) (oNF (tw28 hw)) (tw28 hw) (tw27 hw) (tw6 hw) (tw29 hw) (by decide) pdo_8 at_199 (argsL := []) (rest := _) rfl rfl rfl rfl (fun a q r => C.new a (Nat.le_trans q r)) (by decide) (Nat.le_of_ble_eq_true rfl) (by decide) (by decide) ?_
    rintro _ h8 ⟨r, rfl, hh, hr⟩ -
    replace hh := hh.symm
    subst hh
    dsimp only [Option.toList, List.cons_append, List.nil_append]
    refine K_iload C (pc := 202) at_202 rfl ?_
    refine K_iload C (pc := 204) at_204 rfl ?_
    refine K_isub C (pc := 206) at_206 ?_
    rw [show Int32.ofNat nn - Int32.ofNat kk = Int32.ofNat (nn - kk) from own_subN hkn (by omega)]
    rcases hr with ⟨rfl, hz⟩ | ⟨rfl, hz⟩
    · refine K_if C (pc := 207) 214 at_207 (by decide) (by decide) (fun hc207 => ?_) (fun hc207 => ?_)
      · simp only [oC, Classical.not_not] at hc207
        exact absurd ((oOfEq (n := 0) (by omega) (by decide)).mpr hz) hc207
      · simp only [oC, Classical.not_not] at hc207
        refine K_iconst C (pc := 210) 1 at_210 (by decide) ?_
        refine K_goto C (pc := 211) 215 at_211 (by decide) (by decide) ?_
        refine K_icmp C (pc := 215) 222 at_215 (by decide) (by decide) (fun hc215 => ?_) (fun hc215 => ?_)
        · simp only [oC, Classical.not_not] at hc215
          exact absurd hc215 (by simp)
        · simp only [oC, Classical.not_not] at hc215
          refine K_iconst C (pc := 218) 1 at_218 (by decide) ?_
          refine K_goto C (pc := 219) 223 at_219 (by decide) (by decide) ?_
          refine K_istore C (pc := 223) (Ls' := [_, _, _, _, _, _, _, _, _, _, _, _, _, _, _, _, _, _, _, _, _]) at_223 rfl ?_
          exact J225 _
    · refine K_if C (pc := 207) 214 at_207 (by decide) (by decide) (fun hc207 => ?_) (fun hc207 => ?_)
      · simp only [oC, Classical.not_not] at hc207
        refine K_iconst C (pc := 214) 0 at_214 (by decide) ?_
        refine K_icmp C (pc := 215) 222 at_215 (by decide) (by decide) (fun hc215 => ?_) (fun hc215 => ?_)
        · simp only [oC, Classical.not_not] at hc215
          exact absurd hc215 (by simp)
        · simp only [oC, Classical.not_not] at hc215
          refine K_iconst C (pc := 218) 1 at_218 (by decide) ?_
          refine K_goto C (pc := 219) 223 at_219 (by decide) (by decide) ?_
          refine K_istore C (pc := 223) (Ls' := [_, _, _, _, _, _, _, _, _, _, _, _, _, _, _, _, _, _, _, _, _]) at_223 rfl ?_
          exact J225 _
      · simp only [oC, Classical.not_not] at hc207
        exact absurd ((oOfEq (n := 0) (by omega) (by decide)).mp hc207) hz
  have J185 : ∀ (h : Heap) (pa : Addr) (ss : List Int32) (ks : List UInt64) (ps : List Int32) (M : Int32 → Prop), ps.length < 2 ^ 31 → oQ Z h h0.size q sa ka pa ss ks ps (nn - min kk 2) → own_I ss ps (nn - min kk 2) M → oWP false p l e room_1 s m #[.int p1, .int p2, .int p3, .int p4, .int p5, .int p6] below meth c (fun a => h0.size ≤ a) (fun v h _ => ((fun v _ => v = some (.int 1))) v h) oT h 7 448 (oF m 185 [.val (.int p1), .val (.int p2), .val (.int p3), .val (.int p4), .val (.int p5), .val (.int p6), .val (.int (Int32.ofNat nn)), .val (.int (Int32.ofNat kk)), .val (.int s1), .val (.int s2), .val (.int s3), .val (.double k1), .second, .val (.double k2), .second, .val (.double k3), .second, .val (.ref q), .val (.int 1), .val (.int 1), .unset] []) := by
    intro h pa ss ks ps M hp F I
    refine K_iload C (pc := 185) at_185 rfl ?_
    refine K_iconst C (pc := 187) 3 at_187 (by decide) ?_
    refine K_icmp C (pc := 188) 197 at_188 (by decide) (by decide) (fun hc188 => ?_) (fun hc188 => ?_)
    · simp only [oC, Classical.not_not] at hc188
      have hlt : kk < 3 := (oOfLt (n := 3) (by omega) (by decide)).mp hc188
      rw [show nn - min kk 2 = nn - kk by omega] at F I
      exact J197 _ pa ss ks ps M F I
    · simp only [oC, Classical.not_not] at hc188
      have hge : ¬ kk < 3 := fun z => hc188 ((oOfLt (n := 3) (by omega) (by decide)).mpr z)
      rw [show nn - min kk 2 = (nn - kk) + 1 by omega] at F I
      refine K_aload C (pc := 191) at_191 rfl (by first | rfl | assumption) ?_
      refine K_virtual C (pc := 193) (mPOLL l Z a0 hw q sa ka pa h0.size ss ks ps (nn - kk) _ hlo F M I hp) (F.X) (tw62 hw) (tw63 hw) (oNF (tw65 hw)) (tw65 hw) (tw64 hw) (tw6 hw) (tw66 hw) (by decide) pdo_9 at_193 (argsL := []) (rest := _) rfl rfl rfl rfl (fun _ _ r => r) (by decide) (Nat.le_of_ble_eq_true rfl) (by decide) (by decide) ?_
      rintro _ h3 ⟨r, us, xs, ws, rfl, hMr, F3, I3, hL3⟩ -
      dsimp only [Option.toList, List.cons_append, List.nil_append]
      refine K_pop C (pc := 196) at_196 rfl ?_
      exact J197 _ pa us xs ws _ F3 I3
  have J173 : ∀ (h : Heap) (pa : Addr) (ss : List Int32) (ks : List UInt64) (ps : List Int32) (M : Int32 → Prop), ps.length < 2 ^ 31 → oQ Z h h0.size q sa ka pa ss ks ps (nn - min kk 1) → own_I ss ps (nn - min kk 1) M → oWP false p l e room_1 s m #[.int p1, .int p2, .int p3, .int p4, .int p5, .int p6] below meth c (fun a => h0.size ≤ a) (fun v h _ => ((fun v _ => v = some (.int 1))) v h) oT h 7 448 (oF m 173 [.val (.int p1), .val (.int p2), .val (.int p3), .val (.int p4), .val (.int p5), .val (.int p6), .val (.int (Int32.ofNat nn)), .val (.int (Int32.ofNat kk)), .val (.int s1), .val (.int s2), .val (.int s3), .val (.double k1), .second, .val (.double k2), .second, .val (.double k3), .second, .val (.ref q), .val (.int 1), .val (.int 1), .unset] []) := by
    intro h pa ss ks ps M hp F I
    refine K_iload C (pc := 173) at_173 rfl ?_
    refine K_iconst C (pc := 175) 2 at_175 (by decide) ?_
    refine K_icmp C (pc := 176) 185 at_176 (by decide) (by decide) (fun hc176 => ?_) (fun hc176 => ?_)
    · simp only [oC, Classical.not_not] at hc176
      have hlt : kk < 2 := (oOfLt (n := 2) (by omega) (by decide)).mp hc176
      rw [show nn - min kk 1 = nn - min kk 2 by omega] at F I
      exact J185 _ pa ss ks ps M hp F I
    · simp only [oC, Classical.not_not] at hc176
      have hge : ¬ kk < 2 := fun z => hc176 ((oOfLt (n := 2) (by omega) (by decide)).mpr z)
      rw [show nn - min kk 1 = (nn - min kk 2) + 1 by omega] at F I
      refine K_aload C (pc := 179) at_179 rfl (by first | rfl | assumption) ?_
      refine K_virtual C (pc := 181) (mPOLL l Z a0 hw q sa ka pa h0.size ss ks ps (nn - min kk 2) _ hlo F M I hp) (F.X) (tw62 hw) (tw63 hw) (oNF (tw65 hw)) (tw65 hw) (tw64 hw) (tw6 hw) (tw66 hw) (by decide) pdo_9 at_181 (argsL := []) (rest := _) rfl rfl rfl rfl (fun _ _ r => r) (by decide) (Nat.le_of_ble_eq_true rfl) (by decide) (by decide) ?_
      rintro _ h3 ⟨r, us, xs, ws, rfl, hMr, F3, I3, hL3⟩ -
      dsimp only [Option.toList, List.cons_append, List.nil_append]
      refine K_pop C (pc := 184) at_184 rfl ?_
      exact J185 _ pa us xs ws _ (by omega) F3 I3
  have J161 : ∀ (h : Heap) (pa : Addr) (ss : List Int32) (ks : List UInt64) (ps : List Int32) (M : Int32 → Prop), ps.length < 2 ^ 31 → oQ Z h h0.size q sa ka pa ss ks ps (nn - min kk 0) → own_I ss ps (nn - min kk 0) M → oWP false p l e room_1 s m #[.int p1, .int p2, .int p3, .int p4, .int p5, .int p6] below meth c (fun a => h0.size ≤ a) (fun v h _ => ((fun v _ => v = some (.int 1))) v h) oT h 7 448 (oF m 161 [.val (.int p1), .val (.int p2), .val (.int p3), .val (.int p4), .val (.int p5), .val (.int p6), .val (.int (Int32.ofNat nn)), .val (.int (Int32.ofNat kk)), .val (.int s1), .val (.int s2), .val (.int s3), .val (.double k1), .second, .val (.double k2), .second, .val (.double k3), .second, .val (.ref q), .val (.int 1), .val (.int 1), .unset] []) := by
    intro h pa ss ks ps M hp F I
    refine K_iload C (pc := 161) at_161 rfl ?_
    refine K_iconst C (pc := 163) 1 at_163 (by decide) ?_
    refine K_icmp C (pc := 164) 173 at_164 (by decide) (by decide) (fun hc164 => ?_) (fun hc164 => ?_)
    · simp only [oC, Classical.not_not] at hc164
      have hlt : kk < 1 := (oOfLt (n := 1) (by omega) (by decide)).mp hc164
      rw [show nn - min kk 0 = nn - min kk 1 by omega] at F I
      exact J173 _ pa ss ks ps M hp F I
    · simp only [oC, Classical.not_not] at hc164
      have hge : ¬ kk < 1 := fun z => hc164 ((oOfLt (n := 1) (by omega) (by decide)).mpr z)
      rw [show nn - min kk 0 = (nn - min kk 1) + 1 by omega] at F I
      refine K_aload C (pc := 167) at_167 rfl (by first | rfl | assumption) ?_
      refine K_virtual C (pc := 169) (mPOLL l Z a0 hw q sa ka pa h0.size ss ks ps (nn - min kk 1) _ hlo F M I hp) (F.X) (tw62 hw) (tw63 hw) (oNF (tw65 hw)) (tw65 hw) (tw64 hw) (tw6 hw) (tw66 hw) (by decide) pdo_9 at_169 (argsL := []) (rest := _) rfl rfl rfl rfl (fun _ _ r => r) (by decide) (Nat.le_of_ble_eq_true rfl) (by decide) (by decide) ?_
      rintro _ h3 ⟨r, us, xs, ws, rfl, hMr, F3, I3, hL3⟩ -
      dsimp only [Option.toList, List.cons_append, List.nil_append]
      refine K_pop C (pc := 172) at_172 rfl ?_
      exact J173 _ pa us xs ws _ (by omega) F3 I3
  have J136 : ∀ (h : Heap) (pa : Addr) (ss : List Int32) (ks : List UInt64) (ps : List Int32) (M : Int32 → Prop), ps.length < 2 ^ 31 → oQ Z h h0.size q sa ka pa ss ks ps nn → own_I ss ps nn M → oWP false p l e room_1 s m #[.int p1, .int p2, .int p3, .int p4, .int p5, .int p6] below meth c (fun a => h0.size ≤ a) (fun v h _ => ((fun v _ => v = some (.int 1))) v h) oT h 7 448 (oF m 136 [.val (.int p1), .val (.int p2), .val (.int p3), .val (.int p4), .val (.int p5), .val (.int p6), .val (.int (Int32.ofNat nn)), .val (.int (Int32.ofNat kk)), .val (.int s1), .val (.int s2), .val (.int s3), .val (.double k1), .second, .val (.double k2), .second, .val (.double k3), .second, .val (.ref q), .val (.int 1), .unset, .unset] []) := by
    intro h pa ss ks ps M hp F I
    refine K_aload C (pc := 136) at_136 rfl (by first | rfl | assumption) ?_
    refine K_virtual C (pc := 138) (mEMP l Z a0 hw q sa ka pa h0.size _ _ _ nn _ hlo F (by omega)) (F.X) (tw25 hw) (tw26 hw) (oNF (tw28 hw)) (tw28 hw) (tw27 hw) (tw6 hw) (tw29 hw) (by decide) pdo_8 at_138 (argsL := []) (rest := _) rfl rfl rfl rfl (fun a q r => C.new a (Nat.le_trans q r)) (by decide) (Nat.le_of_ble_eq_true rfl) (by decide) (by decide) ?_
    rintro _ h8 ⟨r, rfl, hh, hr⟩ -
    replace hh := hh.symm
    subst hh
    dsimp only [Option.toList, List.cons_append, List.nil_append]
    refine K_iload C (pc := 141) at_141 rfl ?_
    rcases hr with ⟨rfl, hz⟩ | ⟨rfl, hz⟩
    · refine K_if C (pc := 143) 150 at_143 (by decide) (by decide) (fun hc143 => ?_) (fun hc143 => ?_)
      · simp only [oC, Classical.not_not] at hc143
        exact absurd ((oOfEq (n := 0) (by omega) (by decide)).mpr hz) hc143
      · simp only [oC, Classical.not_not] at hc143
        refine K_iconst C (pc := 146) 1 at_146 (by decide) ?_
        refine K_goto C (pc := 147) 151 at_147 (by decide) (by decide) ?_
        refine K_icmp C (pc := 151) 158 at_151 (by decide) (by decide) (fun hc151 => ?_) (fun hc151 => ?_)
        · simp only [oC, Classical.not_not] at hc151
          exact absurd hc151 (by simp)
        · simp only [oC, Classical.not_not] at hc151
          refine K_iconst C (pc := 154) 1 at_154 (by decide) ?_
          refine K_goto C (pc := 155) 159 at_155 (by decide) (by decide) ?_
          refine K_istore C (pc := 159) (Ls' := [_, _, _, _, _, _, _, _, _, _, _, _, _, _, _, _, _, _, _, _, _]) at_159 rfl ?_
          exact J161 _ pa ss ks ps M hp (by rw [show nn - min kk 0 = nn by omega]; exact F) (by rw [show nn - min kk 0 = nn by omega]; exact I)
    · refine K_if C (pc := 143) 150 at_143 (by decide) (by decide) (fun hc143 => ?_) (fun hc143 => ?_)
      · simp only [oC, Classical.not_not] at hc143
        refine K_iconst C (pc := 150) 0 at_150 (by decide) ?_
        refine K_icmp C (pc := 151) 158 at_151 (by decide) (by decide) (fun hc151 => ?_) (fun hc151 => ?_)
        · simp only [oC, Classical.not_not] at hc151
          exact absurd hc151 (by simp)
        · simp only [oC, Classical.not_not] at hc151
          refine K_iconst C (pc := 154) 1 at_154 (by decide) ?_
          refine K_goto C (pc := 155) 159 at_155 (by decide) (by decide) ?_
          refine K_istore C (pc := 159) (Ls' := [_, _, _, _, _, _, _, _, _, _, _, _, _, _, _, _, _, _, _, _, _]) at_159 rfl ?_
          exact J161 _ pa ss ks ps M hp (by rw [show nn - min kk 0 = nn by omega]; exact F) (by rw [show nn - min kk 0 = nn by omega]; exact I)
      · simp only [oC, Classical.not_not] at hc143
        exact absurd ((oOfEq (n := 0) (by omega) (by decide)).mp hc143) hz
  have J121 : ∀ (h : Heap) (pa : Addr) (ss : List Int32) (ks : List UInt64) (ps : List Int32) (M : Int32 → Prop), ps.length ≤ 66 → (∀ z, M z → z.toInt ≤ s2.toInt) → oQ Z h h0.size q sa ka pa ss ks ps (min nn 2) → own_I ss ps (min nn 2) M → oWP false p l e room_1 s m #[.int p1, .int p2, .int p3, .int p4, .int p5, .int p6] below meth c (fun a => h0.size ≤ a) (fun v h _ => ((fun v _ => v = some (.int 1))) v h) oT h 6 316 (oF m 121 [.val (.int p1), .val (.int p2), .val (.int p3), .val (.int p4), .val (.int p5), .val (.int p6), .val (.int (Int32.ofNat nn)), .val (.int (Int32.ofNat kk)), .val (.int s1), .val (.int s2), .val (.int s3), .val (.double k1), .second, .val (.double k2), .second, .val (.double k3), .second, .val (.ref q), .val (.int 1), .unset, .unset] []) := by
    intro h pa ss ks ps M hp hM F I
    refine K_iload C (pc := 121) at_121 rfl ?_
    refine K_iconst C (pc := 123) 3 at_123 (by decide) ?_
    refine K_icmp C (pc := 124) 136 at_124 (by decide) (by decide) (fun hc124 => ?_) (fun hc124 => ?_)
    · simp only [oC, Classical.not_not] at hc124
      have hlt : nn < 3 := (oOfLt (n := 3) (by omega) (by decide)).mp hc124
      rw [show min nn 2 = nn by omega] at F I
      exact oWP.more (k' := 7) (n' := 448) (J136 _ pa ss ks ps M (by omega) F I) (by decide) (by decide)
    · simp only [oC, Classical.not_not] at hc124
      have hge : ¬ nn < 3 := fun z => hc124 ((oOfLt (n := 3) (by omega) (by decide)).mpr z)
      rw [show min nn 2 = 2 by omega] at F I
      refine K_aload C (pc := 127) at_127 rfl (by first | rfl | assumption) ?_
      refine K_iload C (pc := 129) at_129 rfl ?_
      refine K_dload C (pc := 131) at_131 rfl ?_
      refine K_virtual C (pc := 133) (mADD l Z a0 hw q sa ka pa h0.size ss ks ps 2 _ hlo F s3 k3 M I (by decide) (fun z => by have := hM _ z; omega) (by omega) (by unfold own_n; omega) (fun _ => by omega) (by omega)) (F.X) (tw32 hw) (tw33 hw) (oNF (tw35 hw)) (tw35 hw) (tw34 hw) (tw6 hw) (tw36 hw) (by decide) pdo_10 at_133 (argsL := [_, _]) (rest := _) rfl rfl rfl rfl (fun _ _ r => r) (by decide) (Nat.le_of_ble_eq_true rfl) (by decide) (by decide) ?_
      rintro _ h3 ⟨pb, us, xs, ws, rfl, F3, I3, hL3⟩ -
      have hL4 : ws.length ≤ 132 := by unfold own_n at hL3; omega
      dsimp only [Option.toList, List.cons_append, List.nil_append]
      rw [show 2 + 1 = nn by omega] at F3 I3
      exact J136 _ pb us xs ws _ (by omega) F3 I3
  have J106 : ∀ (h : Heap) (pa : Addr) (ss : List Int32) (ks : List UInt64) (ps : List Int32) (M : Int32 → Prop), ps.length ≤ 33 → (∀ z, M z → z.toInt ≤ s1.toInt) → oQ Z h h0.size q sa ka pa ss ks ps (min nn 1) → own_I ss ps (min nn 1) M → oWP false p l e room_1 s m #[.int p1, .int p2, .int p3, .int p4, .int p5, .int p6] below meth c (fun a => h0.size ≤ a) (fun v h _ => ((fun v _ => v = some (.int 1))) v h) oT h 5 184 (oF m 106 [.val (.int p1), .val (.int p2), .val (.int p3), .val (.int p4), .val (.int p5), .val (.int p6), .val (.int (Int32.ofNat nn)), .val (.int (Int32.ofNat kk)), .val (.int s1), .val (.int s2), .val (.int s3), .val (.double k1), .second, .val (.double k2), .second, .val (.double k3), .second, .val (.ref q), .val (.int 1), .unset, .unset] []) := by
    intro h pa ss ks ps M hp hM F I
    refine K_iload C (pc := 106) at_106 rfl ?_
    refine K_iconst C (pc := 108) 2 at_108 (by decide) ?_
    refine K_icmp C (pc := 109) 121 at_109 (by decide) (by decide) (fun hc109 => ?_) (fun hc109 => ?_)
    · simp only [oC, Classical.not_not] at hc109
      have hlt : nn < 2 := (oOfLt (n := 2) (by omega) (by decide)).mp hc109
      rw [show min nn 1 = min nn 2 by omega] at F I
      exact oWP.more (k' := 6) (n' := 316) (J121 _ pa ss ks ps M (by omega) (fun z hz => by have := hM z hz; omega) F I) (by decide) (by decide)
    · simp only [oC, Classical.not_not] at hc109
      have hge : ¬ nn < 2 := fun z => hc109 ((oOfLt (n := 2) (by omega) (by decide)).mpr z)
      rw [show min nn 1 = 1 by omega] at F I
      refine K_aload C (pc := 112) at_112 rfl (by first | rfl | assumption) ?_
      refine K_iload C (pc := 114) at_114 rfl ?_
      refine K_dload C (pc := 116) at_116 rfl ?_
      refine K_virtual C (pc := 118) (mADD l Z a0 hw q sa ka pa h0.size ss ks ps 1 _ hlo F s2 k2 M I (by decide) (fun z => by have := hM _ z; omega) (by omega) (by unfold own_n; omega) (fun _ => by omega) (by omega)) (F.X) (tw32 hw) (tw33 hw) (oNF (tw35 hw)) (tw35 hw) (tw34 hw) (tw6 hw) (tw36 hw) (by decide) pdo_10 at_118 (argsL := [_, _]) (rest := _) rfl rfl rfl rfl (fun _ _ r => r) (by decide) (Nat.le_of_ble_eq_true rfl) (by decide) (by decide) ?_
      rintro _ h3 ⟨pb, us, xs, ws, rfl, F3, I3, hL3⟩ -
      have hL4 : ws.length ≤ 66 := by unfold own_n at hL3; omega
      dsimp only [Option.toList, List.cons_append, List.nil_append]
      rw [show 1 + 1 = min nn 2 by omega] at F3 I3
      exact J121 _ pb us xs ws _ (by omega) (fun z hz => hz.elim (fun y => by have := hM z y; omega) (fun y => by rw [y]; omega)) F3 I3
  have J91 : ∀ (h : Heap) (pa : Addr) (ss : List Int32) (ks : List UInt64) (ps : List Int32) (M : Int32 → Prop), ps.length ≤ 16 → (∀ z, M z → z.toInt ≤ 0) → oQ Z h h0.size q sa ka pa ss ks ps (min nn 0) → own_I ss ps (min nn 0) M → oWP false p l e room_1 s m #[.int p1, .int p2, .int p3, .int p4, .int p5, .int p6] below meth c (fun a => h0.size ≤ a) (fun v h _ => ((fun v _ => v = some (.int 1))) v h) oT h 4 52 (oF m 91 [.val (.int p1), .val (.int p2), .val (.int p3), .val (.int p4), .val (.int p5), .val (.int p6), .val (.int (Int32.ofNat nn)), .val (.int (Int32.ofNat kk)), .val (.int s1), .val (.int s2), .val (.int s3), .val (.double k1), .second, .val (.double k2), .second, .val (.double k3), .second, .val (.ref q), .val (.int 1), .unset, .unset] []) := by
    intro h pa ss ks ps M hp hM F I
    refine K_iload C (pc := 91) at_91 rfl ?_
    refine K_iconst C (pc := 93) 1 at_93 (by decide) ?_
    refine K_icmp C (pc := 94) 106 at_94 (by decide) (by decide) (fun hc94 => ?_) (fun hc94 => ?_)
    · simp only [oC, Classical.not_not] at hc94
      have hlt : nn < 1 := (oOfLt (n := 1) (by omega) (by decide)).mp hc94
      rw [show min nn 0 = min nn 1 by omega] at F I
      exact oWP.more (k' := 5) (n' := 184) (J106 _ pa ss ks ps M (by omega) (fun z hz => by have := hM z hz; omega) F I) (by decide) (by decide)
    · simp only [oC, Classical.not_not] at hc94
      have hge : ¬ nn < 1 := fun z => hc94 ((oOfLt (n := 1) (by omega) (by decide)).mpr z)
      rw [show min nn 0 = 0 by omega] at F I
      refine K_aload C (pc := 97) at_97 rfl (by first | rfl | assumption) ?_
      refine K_iload C (pc := 99) at_99 rfl ?_
      refine K_dload C (pc := 101) at_101 rfl ?_
      refine K_virtual C (pc := 103) (mADD l Z a0 hw q sa ka pa h0.size ss ks ps 0 _ hlo F s1 k1 M I (by decide) (fun z => by have := hM _ z; omega) (by omega) (by unfold own_n; omega) (fun _ => by omega) (by omega)) (F.X) (tw32 hw) (tw33 hw) (oNF (tw35 hw)) (tw35 hw) (tw34 hw) (tw6 hw) (tw36 hw) (by decide) pdo_10 at_103 (argsL := [_, _]) (rest := _) rfl rfl rfl rfl (fun _ _ r => r) (by decide) (Nat.le_of_ble_eq_true rfl) (by decide) (by decide) ?_
      rintro _ h3 ⟨pb, us, xs, ws, rfl, F3, I3, hL3⟩ -
      have hL4 : ws.length ≤ 33 := by unfold own_n at hL3; omega
      dsimp only [Option.toList, List.cons_append, List.nil_append]
      rw [show 0 + 1 = min nn 1 by omega] at F3 I3
      exact J106 _ pb us xs ws _ (by omega) (fun z hz => hz.elim (fun y => by have := hM z y; omega) (fun y => by rw [y]; omega)) F3 I3
  exact J91 _ pa (List.replicate 16 0) (List.replicate 16 0) (List.replicate 16 (-1)) (fun _ => False) (by rw [List.length_replicate]; decide) (fun z hz => hz.elim) (by rw [show min nn 0 = 0 by omega]; exact F) (by rw [show min nn 0 = 0 by omega]; exact own_I.empty)
set_option maxRecDepth 65536 in
set_option maxHeartbeats 40000000 in
theorem comes_1 {Post : Tables → Env → Array Value → State → Outcome → State → Prop} (hpost : ∀ tb e args s v u, (limb_1_1.after args s (.returned v) u = true ∧ limb_1_2.after args s (.returned v) u = true ∧ True) → FrameEnd s (.returned v) u (Jvm.fieldLocs frame_1_writes args s ++ Jvm.arrayLocs frame_1_arrays args s ++ Jvm.staticLocs frame_1_statics s) 24 640 → Post tb e args s (.returned v) u) :
    ArmFor flags0 classFile x code maxLocals ret World_1 tables_1 room_1 Calls_1 rest_1 Pre_1 Post := by
  intro l hfl _ _ p e ha hc hk s m args below hf hA hF happ hP
  obtain ⟨hcalls, hrest, hpre⟩ := hP
  obtain ⟨-, -, -, hnamed, -, -, -, hat⟩ := (Spec.applies_iff hf).mp happ
  obtain ⟨hg, hn⟩ := and_e (Cond.before_iff.mp (show (Jvm.Cond.and given_1 narrow_1).before args s = true from hpre))
  obtain ⟨gc, r0⟩ := and_e hg
  obtain ⟨g0, r1⟩ := and_e r0
  obtain ⟨g1, r2⟩ := and_e r1
  obtain ⟨g2, r3⟩ := and_e r2
  obtain ⟨g3, r4⟩ := and_e r3
  obtain ⟨g4, g5⟩ := and_e r4
  obtain ⟨w0, w1, w2, w3, w4, w5, rfl⟩ : ∃ w0 w1 w2 w3 w4 w5 : Value, args = #[w0, w1, w2, w3, w4, w5] := by
    have hs : args.size = 6 := by simpa [Cond.value, given_1] using gc
    obtain ⟨L⟩ := args
    match L, hs with
    | [w0, w1, w2, w3, w4, w5], _ => exact ⟨w0, w1, w2, w3, w4, w5, rfl⟩
  have hw := fun d (hd : d ∈ tables_1) => atoms_spec (ws := Jvm.Cond.code x code maxLocals ret :: tables_1) hat d (List.mem_cons_of_mem _ hd)
  obtain ⟨i0, ei0⟩ := is_v g0
  obtain rfl : w0 = (.int i0) := Option.some.inj ei0
  obtain ⟨i1, ei1⟩ := is_v g1
  obtain rfl : w1 = (.int i1) := Option.some.inj ei1
  obtain ⟨i2, ei2⟩ := is_v g2
  obtain rfl : w2 = (.int i2) := Option.some.inj ei2
  obtain ⟨i3, ei3⟩ := is_v g3
  obtain rfl : w3 = (.int i3) := Option.some.inj ei3
  obtain ⟨i4, ei4⟩ := is_v g4
  obtain rfl : w4 = (.int i4) := Option.some.inj ei4
  obtain ⟨i5, ei5⟩ := is_v g5
  obtain rfl : w5 = (.int i5) := Option.some.inj ei5
  obtain ⟨nn, oo, h1, h2, h3, _, L, rfl, ⟨rfl, N, -⟩, hq⟩ := (m0 l s _ hw i0 i1 i2 i3 i4 i5 s.heap) ⟨Nat.le_refl _, fun _ _ q => q⟩ tables_1 p e ha hc hk s m _ below hf ((Spec.applies_iff_loose hf).mp happ).1 ⟨rfl, State.Warmed39.refl s, rfl⟩ trivial
  refine ⟨nn, _, h1, h2, h3, hpost _ _ _ _ _ _ ⟨Cond.after_iff.mpr rfl, Cond.after_iff.mpr (eq_i res_at (Term.int_eval (1)) rfl), trivial⟩ ⟨hq.1, hq.2.1, (hq.2.2.sift fun y hy => Or.inr (N y hy)).mono (by decide) (by decide)⟩⟩
theorem main_1_1 : Claimed_1_1 := comes_1 fun _ _ _ _ _ _ h hF => ⟨h.1, hF⟩
theorem main_1_2 : Claimed_1_2 := comes_1 fun _ _ _ _ _ _ h hF => ⟨h.2.1, hF⟩
end Jvm.Pilot.@@N@@
namespace Jvm.Pilot.@@N@@
open Jvm Jvm.ClassFile Sem Op Lib Jvm.Free Jvm.Stand Jvm.Pilot.@@N@@.Jvm.D
/-! MADE BY PROGRAM (witnessworld.py) out of the Statement's table words and the real class files: 14 classes; the members and pool entries that the words name. The judged class is class 1, her method 1. -/
namespace start1
open Jvm.ClassFile
def u (s : String) : CpInfo := .utf8 (stringToUtf16 s)
/-- a pool by its gaps: so many unusable entries, then the entry; so many at the end -/
def gap : Nat → List CpInfo → List CpInfo
  | 0, r => r
  | n + 1, r => .unusable :: gap n r
def poolList (es : List (Nat × CpInfo)) (last : Nat) : List CpInfo := es.foldr (fun e r => gap e.1 (e.2 :: r)) (gap last [])
def pool (es : List (Nat × CpInfo)) (last : Nat) : Array CpInfo := ⟨poolList es last⟩
def fileOf (pool : Array CpInfo) (this : Nat) (attrs : Array Attribute := #[]) (ms : Array MethodInfo := #[]) (fl : Nat := 33) (sup : Nat := 0) (ifs : Array Nat := #[]) (fds : Array FieldInfo := #[]) : ClassFile where
  minorVersion := 0
  majorVersion := 65
  constantPool := pool
  accessFlags := fl
  thisClass := this
  superClass := sup
  interfaces := ifs
  fields := fds
  methods := ms
  attributes := attrs
def plain (name : String) (sup : Option ClassId) : Class where
  name := name
  kind := .ordinary
  loader := none
  accessFlags := 33
  super := sup
  interfaces := #[]
  cf := none
  fields := #[]
  methods := #[]
  instanceTypes := #[]
  staticTypes := #[]
  resolved := #[]
  callSites := []
  init := .initialized
  statics := none
  mirror := none

def pool0 : Array CpInfo := pool [(5, u "<init>"), (0, u "()V"), (1, .class_ 10), (1, u "java/lang/Object")] 113

def k0c0 : Code := { maxStack := 0, maxLocals := 1, code := object_method_1_code, exceptionTable := #[], attributes := #[] }
def k0m0 : Method := { name := "<init>", desc := "()V", sig := { parameters := [], returnType := none }, accessFlags := 1, code := some k0c0 }
/-- java/lang/Object -/
def k0 : Class := { plain "java/lang/Object" none with
  accessFlags := 33
  interfaces := #[]
  cf := some (fileOf pool0 8 #[] #[{ accessFlags := 1, nameIndex := 5, descriptorIndex := 6, attributes := #[] }] 33 0 #[] #[])
  fields := #[]
  methods := #[k0m0]
  instanceTypes := #[]
  staticTypes := #[]
  resolved := Array.replicate 124 none
  statics := none }

def pool1 : Array CpInfo := pool [(2, .class_ 4), (0, .nameAndType 5 6), (0, u "java/lang/Object"), (0, u "<init>"), (0, u "()V"), (0, .methodref 8 9), (0, .class_ 10), (0, .nameAndType 11 12), (0, u "java/lang/Math"), (0, u "min"), (0, u "(II)I"), (0, .class_ 14), (0, u "com/example/kaskade/kaskade/simulation/SlotQueue"), (0, .methodref 13 3), (0, .methodref 13 17), (0, .nameAndType 18 19), (0, u "isEmpty"), (0, u "()Z"), (0, .methodref 13 21), (0, .nameAndType 22 23), (0, u "add"), (0, u "(ID)V"), (0, .methodref 13 25), (0, .nameAndType 26 27), (0, u "poll"), (0, u "()I"), (0, .class_ 29), (0, u "com/example/kaskade/kaskade/simulation/SlotQueueIsEmptyPinLaw"), (2, u "law"), (0, u "(IIIIII)Z")] 3

def k1m0 : Method := { name := "<init>", desc := "()V", sig := { parameters := [], returnType := none }, accessFlags := 1, code := none }
def k1c1 : Code := { maxStack := 4, maxLocals := 21, code := code, exceptionTable := #[], attributes := #[] }
def k1m1 : Method := { name := "law", desc := "(IIIIII)Z", sig := { parameters := [.int, .int, .int, .int, .int, .int], returnType := some .boolean }, accessFlags := 9, code := some k1c1 }
/-- com/example/kaskade/kaskade/simulation/SlotQueueIsEmptyPinLaw -/
def k1 : Class := { plain "com/example/kaskade/kaskade/simulation/SlotQueueIsEmptyPinLaw" (some 0) with
  accessFlags := 49
  interfaces := #[]
  cf := some (fileOf pool1 28 #[] #[{ accessFlags := 1, nameIndex := 5, descriptorIndex := 6, attributes := #[] }, { accessFlags := 9, nameIndex := 32, descriptorIndex := 33, attributes := #[] }] 49 2 #[] #[])
  fields := #[]
  methods := #[k1m0, k1m1]
  instanceTypes := #[]
  staticTypes := #[]
  resolved := Array.replicate 37 none
  statics := none }

def pool2 : Array CpInfo := pool [(1, .class_ 2), (0, u "java/lang/Math"), (1, .class_ 6), (1, u "java/lang/Object"), (0, u "<init>"), (0, u "()V"), (89, .class_ 100), (1, u "java/lang/Math$RandomNumberGeneratorHolder"), (71, u "negativeZeroFloatBits"), (0, u "J"), (2, u "negativeZeroDoubleBits"), (21, u "max"), (2, u "min"), (43, u "$assertionsDisabled"), (0, u "Z"), (88, u "(II)I"), (2, u "twoToTheDoubleScaleDown"), (0, u "D"), (4, u "twoToTheDoubleScaleUp"), (9, u "E"), (3, u "PI"), (2, u "TAU"), (2, u "DEGREES_TO_RADIANS"), (0, u "RADIANS_TO_DEGREES")] 94

def k2m0 : Method := { name := "<init>", desc := "()V", sig := { parameters := [], returnType := none }, accessFlags := 2, code := none }
def k2c1 : Code := { maxStack := 2, maxLocals := 2, code := jdk_29_method_65_code, exceptionTable := #[], attributes := #[] }
def k2m1 : Method := { name := "max", desc := "(II)I", sig := { parameters := [.int, .int], returnType := some .int }, accessFlags := 9, code := some k2c1 }
def k2c2 : Code := { maxStack := 2, maxLocals := 2, code := jdk_29_method_69_code, exceptionTable := #[], attributes := #[] }
def k2m2 : Method := { name := "min", desc := "(II)I", sig := { parameters := [.int, .int], returnType := some .int }, accessFlags := 9, code := some k2c2 }
/-- java/lang/Math -/
def k2 : Class := { plain "java/lang/Math" (some 0) with
  accessFlags := 49
  interfaces := #[]
  cf := some (fileOf pool2 1 #[.nestMembers #[98]] #[{ accessFlags := 2, nameIndex := 7, descriptorIndex := 8, attributes := #[] }, { accessFlags := 9, nameIndex := 198, descriptorIndex := 335, attributes := #[] }, { accessFlags := 9, nameIndex := 201, descriptorIndex := 335, attributes := #[] }] 49 4 #[] #[{ accessFlags := 25, nameIndex := 354, descriptorIndex := 339, attributes := #[] }, { accessFlags := 25, nameIndex := 358, descriptorIndex := 339, attributes := #[] }, { accessFlags := 25, nameIndex := 361, descriptorIndex := 339, attributes := #[] }, { accessFlags := 26, nameIndex := 364, descriptorIndex := 339, attributes := #[] }, { accessFlags := 26, nameIndex := 365, descriptorIndex := 339, attributes := #[] }, { accessFlags := 26, nameIndex := 172, descriptorIndex := 173, attributes := #[] }, { accessFlags := 26, nameIndex := 176, descriptorIndex := 173, attributes := #[] }, { accessFlags := 8, nameIndex := 344, descriptorIndex := 339, attributes := #[] }, { accessFlags := 8, nameIndex := 338, descriptorIndex := 339, attributes := #[] }, { accessFlags := 4120, nameIndex := 245, descriptorIndex := 246, attributes := #[] }])
  fields := #[{ name := "E", type := .double, accessFlags := 25, slot := 0, constantValue := 0 }, { name := "PI", type := .double, accessFlags := 25, slot := 1, constantValue := 0 }, { name := "TAU", type := .double, accessFlags := 25, slot := 2, constantValue := 0 }, { name := "DEGREES_TO_RADIANS", type := .double, accessFlags := 26, slot := 3, constantValue := 0 }, { name := "RADIANS_TO_DEGREES", type := .double, accessFlags := 26, slot := 4, constantValue := 0 }, { name := "negativeZeroFloatBits", type := .long, accessFlags := 26, slot := 5, constantValue := 0 }, { name := "negativeZeroDoubleBits", type := .long, accessFlags := 26, slot := 6, constantValue := 0 }, { name := "twoToTheDoubleScaleUp", type := .double, accessFlags := 8, slot := 7, constantValue := 0 }, { name := "twoToTheDoubleScaleDown", type := .double, accessFlags := 8, slot := 8, constantValue := 0 }, { name := "$assertionsDisabled", type := .boolean, accessFlags := 4120, slot := 9, constantValue := 0 }]
  methods := #[k2m0, k2m1, k2m2]
  instanceTypes := #[]
  staticTypes := #[.double, .double, .double, .double, .double, .long, .long, .double, .double, .boolean]
  resolved := Array.replicate 460 none
  statics := none }

def pool3 : Array CpInfo := pool [(1, .methodref 2 3), (0, .class_ 4), (0, .nameAndType 5 6), (0, u "java/lang/Object"), (0, u "<init>"), (0, u "()V"), (0, .fieldref 8 9), (0, .class_ 10), (0, .nameAndType 11 12), (0, u "com/example/kaskade/kaskade/simulation/SlotQueue"), (0, u "slots"), (0, u "[I"), (0, .fieldref 8 14), (0, .nameAndType 15 16), (0, u "keys"), (0, u "[D"), (0, .fieldref 8 18), (0, .nameAndType 19 12), (0, u "places"), (0, .methodref 21 22), (0, .class_ 23), (0, .nameAndType 24 25), (0, u "java/util/Arrays"), (0, u "fill"), (0, u "([II)V"), (0, .fieldref 8 27), (0, .nameAndType 28 29), (0, u "size"), (0, u "I"), (0, .methodref 31 32), (0, .class_ 33), (0, .nameAndType 34 35), (0, u "java/lang/Math"), (0, u "max"), (0, u "(II)I"), (0, .methodref 21 37), (0, .nameAndType 38 39), (0, u "copyOf"), (0, u "([II)[I"), (0, .methodref 21 41), (0, .nameAndType 24 42), (0, u "([IIII)V"), (3, .methodref 8 47), (0, .nameAndType 48 49), (0, u "up"), (0, u "(IID)V"), (0, .methodref 8 51), (0, .nameAndType 52 53), (0, u "removeAt"), (0, u "(I)V"), (4, .methodref 8 59), (0, .nameAndType 60 49), (0, u "down"), (0, .methodref 8 62), (0, .nameAndType 63 49), (0, u "put"), (0, .methodref 8 65), (0, .nameAndType 66 67), (0, u "firstChild"), (0, u "(I)I"), (0, u "ABSENT"), (4, u "isEmpty"), (0, u "()Z"), (2, u "()I"), (2, u "add"), (0, u "(ID)V"), (0, u "poll")] 3

def k3c0 : Code := { maxStack := 2, maxLocals := 1, code := prog_23_method_1_code, exceptionTable := #[], attributes := #[] }
def k3m0 : Method := { name := "<init>", desc := "()V", sig := { parameters := [], returnType := none }, accessFlags := 0, code := some k3c0 }
def k3c1 : Code := { maxStack := 1, maxLocals := 1, code := prog_23_method_2_code, exceptionTable := #[], attributes := #[] }
def k3m1 : Method := { name := "isEmpty", desc := "()Z", sig := { parameters := [], returnType := some .boolean }, accessFlags := 0, code := some k3c1 }
def k3c2 : Code := { maxStack := 5, maxLocals := 5, code := prog_23_method_6_code, exceptionTable := #[], attributes := #[] }
def k3m2 : Method := { name := "add", desc := "(ID)V", sig := { parameters := [.int, .double], returnType := none }, accessFlags := 0, code := some k3c2 }
def k3c3 : Code := { maxStack := 2, maxLocals := 2, code := prog_23_method_7_code, exceptionTable := #[], attributes := #[] }
def k3m3 : Method := { name := "poll", desc := "()I", sig := { parameters := [], returnType := some .int }, accessFlags := 0, code := some k3c3 }
def k3c4 : Code := { maxStack := 5, maxLocals := 5, code := prog_23_method_9_code, exceptionTable := #[], attributes := #[] }
def k3m4 : Method := { name := "removeAt", desc := "(I)V", sig := { parameters := [.int], returnType := none }, accessFlags := 2, code := some k3c4 }
def k3c5 : Code := { maxStack := 5, maxLocals := 7, code := prog_23_method_10_code, exceptionTable := #[], attributes := #[] }
def k3m5 : Method := { name := "up", desc := "(IID)V", sig := { parameters := [.int, .int, .double], returnType := none }, accessFlags := 2, code := some k3c5 }
def k3c6 : Code := { maxStack := 5, maxLocals := 7, code := prog_23_method_11_code, exceptionTable := #[], attributes := #[] }
def k3m6 : Method := { name := "down", desc := "(IID)V", sig := { parameters := [.int, .int, .double], returnType := none }, accessFlags := 2, code := some k3c6 }
def k3c7 : Code := { maxStack := 4, maxLocals := 3, code := prog_23_method_12_code, exceptionTable := #[], attributes := #[] }
def k3m7 : Method := { name := "firstChild", desc := "(I)I", sig := { parameters := [.int], returnType := some .int }, accessFlags := 2, code := some k3c7 }
def k3c8 : Code := { maxStack := 4, maxLocals := 5, code := prog_23_method_13_code, exceptionTable := #[], attributes := #[] }
def k3m8 : Method := { name := "put", desc := "(IID)V", sig := { parameters := [.int, .int, .double], returnType := none }, accessFlags := 2, code := some k3c8 }
/-- com/example/kaskade/kaskade/simulation/SlotQueue -/
def k3 : Class := { plain "com/example/kaskade/kaskade/simulation/SlotQueue" (some 0) with
  accessFlags := 32
  interfaces := #[]
  cf := some (fileOf pool3 8 #[] #[{ accessFlags := 0, nameIndex := 5, descriptorIndex := 6, attributes := #[] }, { accessFlags := 0, nameIndex := 73, descriptorIndex := 74, attributes := #[] }, { accessFlags := 0, nameIndex := 80, descriptorIndex := 81, attributes := #[] }, { accessFlags := 0, nameIndex := 82, descriptorIndex := 77, attributes := #[] }, { accessFlags := 2, nameIndex := 52, descriptorIndex := 53, attributes := #[] }, { accessFlags := 2, nameIndex := 48, descriptorIndex := 49, attributes := #[] }, { accessFlags := 2, nameIndex := 60, descriptorIndex := 49, attributes := #[] }, { accessFlags := 2, nameIndex := 66, descriptorIndex := 67, attributes := #[] }, { accessFlags := 2, nameIndex := 63, descriptorIndex := 49, attributes := #[] }] 32 2 #[] #[{ accessFlags := 26, nameIndex := 68, descriptorIndex := 29, attributes := #[] }, { accessFlags := 2, nameIndex := 11, descriptorIndex := 12, attributes := #[] }, { accessFlags := 2, nameIndex := 15, descriptorIndex := 16, attributes := #[] }, { accessFlags := 2, nameIndex := 19, descriptorIndex := 12, attributes := #[] }, { accessFlags := 2, nameIndex := 28, descriptorIndex := 29, attributes := #[] }])
  fields := #[{ name := "ABSENT", type := .int, accessFlags := 26, slot := 0, constantValue := 0 }, { name := "slots", type := (.array .int), accessFlags := 2, slot := 0, constantValue := 0 }, { name := "keys", type := (.array .double), accessFlags := 2, slot := 1, constantValue := 0 }, { name := "places", type := (.array .int), accessFlags := 2, slot := 2, constantValue := 0 }, { name := "size", type := .int, accessFlags := 2, slot := 3, constantValue := 0 }]
  methods := #[k3m0, k3m1, k3m2, k3m3, k3m4, k3m5, k3m6, k3m7, k3m8]
  instanceTypes := #[(.array .int), (.array .double), (.array .int), .int]
  staticTypes := #[.int]
  resolved := Array.replicate 86 none
  statics := none }

def pool4 : Array CpInfo := pool [(2, .class_ 4), (1, u "java/lang/Object"), (0, u "<init>"), (0, u "()V"), (5, u "([IIII)V"), (0, .methodref 14 15), (0, .class_ 16), (0, .nameAndType 17 18), (0, u "java/util/Arrays"), (0, u "rangeCheck"), (0, u "(III)V"), (55, .class_ 76), (1, u "java/util/Arrays$NaturalOrder"), (36, .class_ 115), (1, u "java/util/Arrays$LegacyMergeSort"), (1, u "Z"), (32, .methodref 151 152), (0, .class_ 153), (0, .nameAndType 154 155), (0, u "java/lang/System"), (0, u "arraycopy"), (0, u "(Ljava/lang/Object;ILjava/lang/Object;II)V"), (146, u "copyOf"), (1, .methodref 305 306), (0, .class_ 307), (0, .nameAndType 308 309), (0, u "java/lang/Math"), (0, u "min"), (0, u "(II)I"), (65, .class_ 376), (0, u "java/util/Arrays$ArrayList"), (68, u "$assertionsDisabled"), (269, u "MIN_ARRAY_SORT_GRAN"), (0, u "I"), (2, u "INSERTIONSORT_THRESHOLD"), (120, u "fill"), (4, u "([II)V"), (25, u "([II)[I"), (103, .class_ 976), (0, u "java/util/Arrays$ArrayItr")] 52

def k4m0 : Method := { name := "<init>", desc := "()V", sig := { parameters := [], returnType := none }, accessFlags := 2, code := none }
def k4c1 : Code := { maxStack := 4, maxLocals := 3, code := jdk_65_method_30_code, exceptionTable := #[], attributes := #[] }
def k4m1 : Method := { name := "rangeCheck", desc := "(III)V", sig := { parameters := [.int, .int, .int], returnType := none }, accessFlags := 8, code := some k4c1 }
def k4c2 : Code := { maxStack := 3, maxLocals := 4, code := jdk_65_method_103_code, exceptionTable := #[], attributes := #[] }
def k4m2 : Method := { name := "fill", desc := "([II)V", sig := { parameters := [(.array .int), .int], returnType := none }, accessFlags := 9, code := some k4c2 }
def k4c3 : Code := { maxStack := 3, maxLocals := 5, code := jdk_65_method_104_code, exceptionTable := #[], attributes := #[] }
def k4m3 : Method := { name := "fill", desc := "([IIII)V", sig := { parameters := [(.array .int), .int, .int, .int], returnType := none }, accessFlags := 9, code := some k4c3 }
def k4c4 : Code := { maxStack := 6, maxLocals := 3, code := jdk_65_method_123_code, exceptionTable := #[], attributes := #[] }
def k4m4 : Method := { name := "copyOf", desc := "([II)[I", sig := { parameters := [(.array .int), .int], returnType := some (.array .int) }, accessFlags := 9, code := some k4c4 }
/-- java/util/Arrays -/
def k4 : Class := { plain "java/util/Arrays" (some 0) with
  accessFlags := 49
  interfaces := #[]
  cf := some (fileOf pool4 14 #[.nestMembers #[975, 375, 113, 74]] #[{ accessFlags := 2, nameIndex := 5, descriptorIndex := 6, attributes := #[] }, { accessFlags := 8, nameIndex := 17, descriptorIndex := 18, attributes := #[] }, { accessFlags := 9, nameIndex := 840, descriptorIndex := 845, attributes := #[] }, { accessFlags := 9, nameIndex := 840, descriptorIndex := 12, attributes := #[] }, { accessFlags := 9, nameIndex := 302, descriptorIndex := 871, attributes := #[] }] 49 2 #[] #[{ accessFlags := 26, nameIndex := 715, descriptorIndex := 716, attributes := #[] }, { accessFlags := 26, nameIndex := 719, descriptorIndex := 716, attributes := #[] }, { accessFlags := 4120, nameIndex := 445, descriptorIndex := 117, attributes := #[] }])
  fields := #[{ name := "MIN_ARRAY_SORT_GRAN", type := .int, accessFlags := 26, slot := 0, constantValue := 0 }, { name := "INSERTIONSORT_THRESHOLD", type := .int, accessFlags := 26, slot := 1, constantValue := 0 }, { name := "$assertionsDisabled", type := .boolean, accessFlags := 4120, slot := 2, constantValue := 0 }]
  methods := #[k4m0, k4m1, k4m2, k4m3, k4m4]
  instanceTypes := #[]
  staticTypes := #[.int, .int, .boolean]
  resolved := Array.replicate 1029 none
  statics := none }

def pool5 : Array CpInfo := pool [(2, .class_ 4), (1, u "java/lang/Object"), (0, u "<init>"), (0, u "()V"), (1, .class_ 10), (1, u "java/lang/System"), (0, u "allowSecurityManager"), (0, u "I"), (16, u "cons"), (0, u "Ljava/io/Console;"), (77, .class_ 110), (1, u "java/lang/System$CallersHolder"), (43, u "initialErrStream"), (0, u "Ljava/io/PrintStream;"), (19, u "security"), (0, u "Ljava/lang/SecurityManager;"), (31, .class_ 209), (0, u "java/lang/System$1"), (7, u "props"), (0, u "Ljava/util/Properties;"), (2, u "lineSeparator"), (0, u "Ljava/lang/String;"), (96, .class_ 321), (1, u "java/lang/System$LoggerFinder"), (5, .class_ 328), (0, u "java/lang/System$Logger"), (67, u "err"), (2, u "out"), (91, u "notSupportedJnuEncoding"), (15, u "in"), (17, u "initialIn"), (0, u "Ljava/io/InputStream;"), (35, u "bootLayer"), (0, u "Ljava/lang/ModuleLayer;"), (99, .class_ 664), (0, u "java/lang/System$2"), (9, u "NEVER"), (2, u "MAYBE"), (49, u "arraycopy"), (0, u "(Ljava/lang/Object;ILjava/lang/Object;II)V"), (72, .class_ 802), (0, u "java/lang/System$Logger$Level")] 31

def k5m0 : Method := { name := "<init>", desc := "()V", sig := { parameters := [], returnType := none }, accessFlags := 2, code := none }
def k5m1 : Method := { name := "arraycopy", desc := "(Ljava/lang/Object;ILjava/lang/Object;II)V", sig := { parameters := [(.object "java/lang/Object"), .int, (.object "java/lang/Object"), .int, .int], returnType := none }, accessFlags := 265, code := none }
/-- java/lang/System -/
def k5 : Class := { plain "java/lang/System" (some 0) with
  accessFlags := 49
  interfaces := #[]
  cf := some (fileOf pool5 8 #[.nestMembers #[319, 327, 801, 108, 663, 208]] #[{ accessFlags := 2, nameIndex := 5, descriptorIndex := 6, attributes := #[] }, { accessFlags := 265, nameIndex := 727, descriptorIndex := 728, attributes := #[] }] 49 2 #[] #[{ accessFlags := 25, nameIndex := 507, descriptorIndex := 526, attributes := #[] }, { accessFlags := 25, nameIndex := 399, descriptorIndex := 155, attributes := #[] }, { accessFlags := 25, nameIndex := 396, descriptorIndex := 155, attributes := #[] }, { accessFlags := 10, nameIndex := 525, descriptorIndex := 526, attributes := #[] }, { accessFlags := 26, nameIndex := 674, descriptorIndex := 12, attributes := #[] }, { accessFlags := 26, nameIndex := 677, descriptorIndex := 12, attributes := #[] }, { accessFlags := 10, nameIndex := 11, descriptorIndex := 12, attributes := #[] }, { accessFlags := 74, nameIndex := 175, descriptorIndex := 176, attributes := #[] }, { accessFlags := 10, nameIndex := 491, descriptorIndex := 222, attributes := #[] }, { accessFlags := 74, nameIndex := 29, descriptorIndex := 30, attributes := #[] }, { accessFlags := 74, nameIndex := 154, descriptorIndex := 155, attributes := #[] }, { accessFlags := 10, nameIndex := 217, descriptorIndex := 218, attributes := #[] }, { accessFlags := 10, nameIndex := 221, descriptorIndex := 222, attributes := #[] }, { accessFlags := 8, nameIndex := 562, descriptorIndex := 563, attributes := #[] }])
  fields := #[{ name := "in", type := (.object "java/io/InputStream"), accessFlags := 25, slot := 0, constantValue := 0 }, { name := "out", type := (.object "java/io/PrintStream"), accessFlags := 25, slot := 1, constantValue := 0 }, { name := "err", type := (.object "java/io/PrintStream"), accessFlags := 25, slot := 2, constantValue := 0 }, { name := "initialIn", type := (.object "java/io/InputStream"), accessFlags := 10, slot := 3, constantValue := 0 }, { name := "NEVER", type := .int, accessFlags := 26, slot := 4, constantValue := 0 }, { name := "MAYBE", type := .int, accessFlags := 26, slot := 5, constantValue := 0 }, { name := "allowSecurityManager", type := .int, accessFlags := 10, slot := 6, constantValue := 0 }, { name := "security", type := (.object "java/lang/SecurityManager"), accessFlags := 74, slot := 7, constantValue := 0 }, { name := "notSupportedJnuEncoding", type := (.object "java/lang/String"), accessFlags := 10, slot := 8, constantValue := 0 }, { name := "cons", type := (.object "java/io/Console"), accessFlags := 74, slot := 9, constantValue := 0 }, { name := "initialErrStream", type := (.object "java/io/PrintStream"), accessFlags := 74, slot := 10, constantValue := 0 }, { name := "props", type := (.object "java/util/Properties"), accessFlags := 10, slot := 11, constantValue := 0 }, { name := "lineSeparator", type := (.object "java/lang/String"), accessFlags := 10, slot := 12, constantValue := 0 }, { name := "bootLayer", type := (.object "java/lang/ModuleLayer"), accessFlags := 8, slot := 13, constantValue := 0 }]
  methods := #[k5m0, k5m1]
  instanceTypes := #[]
  staticTypes := #[(.object "java/io/InputStream"), (.object "java/io/PrintStream"), (.object "java/io/PrintStream"), (.object "java/io/InputStream"), .int, .int, .int, (.object "java/lang/SecurityManager"), (.object "java/lang/String"), (.object "java/io/Console"), (.object "java/io/PrintStream"), (.object "java/util/Properties"), (.object "java/lang/String"), (.object "java/lang/ModuleLayer")]
  resolved := Array.replicate 834 none
  statics := none }

def pool6 : Array CpInfo := pool [(1, u "java/lang/Cloneable"), (0, .class_ 1), (0, u "java/lang/Object"), (0, .class_ 3)] 3

/-- java/lang/Cloneable -/
def k6 : Class := { plain "java/lang/Cloneable" (some 0) with
  accessFlags := 1537
  interfaces := #[]
  cf := some (fileOf pool6 2 #[] #[] 1537 4 #[] #[])
  fields := #[]
  methods := #[]
  instanceTypes := #[]
  staticTypes := #[]
  resolved := Array.replicate 8 none
  statics := none }

def pool7 : Array CpInfo := pool [(1, u "java/io/Serializable"), (0, .class_ 1), (0, u "java/lang/Object"), (0, .class_ 3)] 3

/-- java/io/Serializable -/
def k7 : Class := { plain "java/io/Serializable" (some 0) with
  accessFlags := 1537
  interfaces := #[]
  cf := some (fileOf pool7 2 #[] #[] 1537 4 #[] #[])
  fields := #[]
  methods := #[]
  instanceTypes := #[]
  staticTypes := #[]
  resolved := Array.replicate 8 none
  statics := none }

/-- the primitive byte -/
def k8 : Class := { plain "byte" none with kind := .primitive 'B', accessFlags := 0x411 }
/-- [B -/
def k9 : Class := { plain "[B" (some 0) with kind := .array 8 .byte, interfaces := #[6, 7], accessFlags := 1041 }

/-- the primitive double -/
def k10 : Class := { plain "double" none with kind := .primitive 'D', accessFlags := 0x411 }
/-- [D -/
def k11 : Class := { plain "[D" (some 0) with kind := .array 10 .double, interfaces := #[6, 7], accessFlags := 1041 }

/-- the primitive int -/
def k12 : Class := { plain "int" none with kind := .primitive 'I', accessFlags := 0x411 }
/-- [I -/
def k13 : Class := { plain "[I" (some 0) with kind := .array 12 .int, interfaces := #[6, 7], accessFlags := 1041 }

def heap : Heap := #[]
def classes : Array Class := #[k0, k1, k2, k3, k4, k5, k6, k7, k8, k9, k10, k11, k12, k13]
def interned : List (Array UInt16 × Addr) := []
def slotsUsed : Nat := 0
def theMethod : MethodId := ⟨1, 1⟩
def args0 : Array Value := #[.int 3, .int 6, .int 7, .int 8, .int 9, .int 2]
def aboutOver (below : List Frame) : State where
  vm := { classes := classes, interned := interned.toArray }
  heap := heap
  slotsUsed := slotsUsed
  threads := #[{ frames := .invoking theMethod args0 :: below }]
def below0 : List Frame := [.native { method := ⟨0, 0⟩, args := #[] }]
def about1 : State := aboutOver below0
def p0 : Program := .bare "" "" ""
def e0 : Env := launch0.env 0 0 0
theorem w_frames : about1.frames = Frame.invoking theMethod args0 :: below0 := rfl
set_option maxRecDepth 65536 in
theorem w_args : argsFit about1.vm theMethod args0 = true := by decide +kernel
set_option maxRecDepth 65536 in
theorem w_heap : heapFits about1 = true := by decide +kernel
set_option maxRecDepth 65536 in
theorem w_runnable : about1.curStatus? = some .runnable := by decide +kernel
set_option maxRecDepth 65536 in
theorem w_alone : about1.alone = true := by decide +kernel
set_option maxRecDepth 65536 in
theorem w_named : about1.methodNamed? x = some theMethod := by decide +kernel
set_option maxRecDepth 65536 in
theorem w_hears : about1.hears theMethod below0 = true := by decide +kernel
set_option maxRecDepth 65536 in
theorem w_ripe : about1.ripe theMethod args0 below0 = true := by decide +kernel
theorem w_running : about1.status = .running := rfl
set_option maxRecDepth 65536 in
theorem w_room : about1.hasRoom e0.platform room_1 = true :=
  launch0.hasRoom_least _ room_1 (by decide +kernel) (by decide +kernel) (by decide +kernel) (by decide +kernel) (by decide +kernel) (by decide +kernel)
theorem allAtoms_all (ts : List Jvm.Cond) (a : Array Jvm.Value) (st : Jvm.State) : (allAtoms ts).before a st = ts.all (fun c => c.before a st) := by
  induction ts with
  | nil => rfl
  | cons c t ih =>
    show (Jvm.Cond.and c (allAtoms t)).before a st = _
    rw [Jvm.Cond.before_and, ih, List.all_cons]
def words1 : List Jvm.Cond := Jvm.Cond.code x code maxLocals ret :: tables_1
/-- a 'code' word, met by the world's own term for the bytes: nothing is compared byte by byte -/
theorem code_word {y : MethodName} {bytes : ByteArray} {mx : Nat} {rt : Option FieldType} {a : Array Value} {s : State} {m : MethodId} {meth : Method} {c : Code} (h1 : s.methodNamed? y = some m) (h2 : s.vm.method? m = some meth) (h3 : meth.code = some c) (h4 : c.code = bytes)
    (h5 : (c.maxLocals == mx && c.exceptionTable.isEmpty && decide (c.maxStack ≤ mostOperands) && decide (meth.sig.returnType = rt) && !meth.locks && decide (parseMethodDescriptor y.desc = some meth.sig)) = true) : (Jvm.Cond.code y bytes mx rt).before a s = true := by
  simp only [Bool.and_eq_true, beq_iff_eq, Bool.not_eq_true', decide_eq_true_eq] at h5
  obtain ⟨⟨⟨⟨⟨g1, g2⟩, g3⟩, g4⟩, g5⟩, g6⟩ := h5
  simp [Cond.before, Cond.holds, Cond.value, h1, h2, h3, h4, g1, g2, g3, g4, g5, g6]
def isCode : Jvm.Cond → Bool
  | .code _ _ _ _ => true
  | _ => false
theorem all_split {L : List Jvm.Cond} {P : Jvm.Cond → Bool} (h1 : L.all (fun c => isCode c || P c) = true) (h2 : ∀ c ∈ L.filter isCode, P c = true) : L.all P = true := by
  refine List.all_eq_true.mpr fun c hc => ?_
  have h := List.all_eq_true.mp h1 c hc
  rcases Bool.eq_false_or_eq_true (isCode c) with hi | hi
  · exact h2 c (List.mem_filter.mpr ⟨hc, hi⟩)
  · simpa [hi] using h
set_option maxRecDepth 65536 in
theorem w_c0 : (Jvm.Cond.code x code maxLocals ret).before args0 about1 = true := code_word (m := ⟨1, 1⟩) (meth := k1m1) (c := k1c1) (by decide +kernel) rfl rfl rfl (by decide +kernel)
set_option maxRecDepth 65536 in
theorem w_c1 : (Jvm.Cond.code ({ cls := "java/lang/Math", name := "min", desc := "(II)I" } : Jvm.MethodName) jdk_29_method_69_code (2 : Nat) (Option.some Jvm.ClassFile.FieldType.int)).before args0 about1 = true := code_word (m := ⟨2, 2⟩) (meth := k2m2) (c := k2c2) (by decide +kernel) rfl rfl rfl (by decide +kernel)
set_option maxRecDepth 65536 in
theorem w_c2 : (Jvm.Cond.code ({ cls := "com/example/kaskade/kaskade/simulation/SlotQueue", name := "<init>", desc := "()V" } : Jvm.MethodName) prog_23_method_1_code (1 : Nat) (Option.none : Option Jvm.ClassFile.FieldType)).before args0 about1 = true := code_word (m := ⟨3, 0⟩) (meth := k3m0) (c := k3c0) (by decide +kernel) rfl rfl rfl (by decide +kernel)
set_option maxRecDepth 65536 in
theorem w_c3 : (Jvm.Cond.code ({ cls := "java/lang/Object", name := "<init>", desc := "()V" } : Jvm.MethodName) object_method_1_code (1 : Nat) (Option.none : Option Jvm.ClassFile.FieldType)).before args0 about1 = true := code_word (m := ⟨0, 0⟩) (meth := k0m0) (c := k0c0) (by decide +kernel) rfl rfl rfl (by decide +kernel)
set_option maxRecDepth 65536 in
theorem w_c4 : (Jvm.Cond.code ({ cls := "java/util/Arrays", name := "fill", desc := "([II)V" } : Jvm.MethodName) jdk_65_method_103_code (4 : Nat) (Option.none : Option Jvm.ClassFile.FieldType)).before args0 about1 = true := code_word (m := ⟨4, 2⟩) (meth := k4m2) (c := k4c2) (by decide +kernel) rfl rfl rfl (by decide +kernel)
set_option maxRecDepth 65536 in
theorem w_c5 : (Jvm.Cond.code ({ cls := "com/example/kaskade/kaskade/simulation/SlotQueue", name := "isEmpty", desc := "()Z" } : Jvm.MethodName) prog_23_method_2_code (1 : Nat) (Option.some Jvm.ClassFile.FieldType.boolean)).before args0 about1 = true := code_word (m := ⟨3, 1⟩) (meth := k3m1) (c := k3c1) (by decide +kernel) rfl rfl rfl (by decide +kernel)
set_option maxRecDepth 65536 in
theorem w_c6 : (Jvm.Cond.code ({ cls := "com/example/kaskade/kaskade/simulation/SlotQueue", name := "add", desc := "(ID)V" } : Jvm.MethodName) prog_23_method_6_code (5 : Nat) (Option.none : Option Jvm.ClassFile.FieldType)).before args0 about1 = true := code_word (m := ⟨3, 2⟩) (meth := k3m2) (c := k3c2) (by decide +kernel) rfl rfl rfl (by decide +kernel)
set_option maxRecDepth 65536 in
theorem w_c7 : (Jvm.Cond.code ({ cls := "java/lang/Math", name := "max", desc := "(II)I" } : Jvm.MethodName) jdk_29_method_65_code (2 : Nat) (Option.some Jvm.ClassFile.FieldType.int)).before args0 about1 = true := code_word (m := ⟨2, 1⟩) (meth := k2m1) (c := k2c1) (by decide +kernel) rfl rfl rfl (by decide +kernel)
set_option maxRecDepth 65536 in
theorem w_c8 : (Jvm.Cond.code ({ cls := "java/util/Arrays", name := "copyOf", desc := "([II)[I" } : Jvm.MethodName) jdk_65_method_123_code (3 : Nat) (Option.some (Jvm.ClassFile.FieldType.array Jvm.ClassFile.FieldType.int))).before args0 about1 = true := code_word (m := ⟨4, 4⟩) (meth := k4m4) (c := k4c4) (by decide +kernel) rfl rfl rfl (by decide +kernel)
set_option maxRecDepth 65536 in
theorem w_c9 : (Jvm.Cond.code ({ cls := "java/util/Arrays", name := "fill", desc := "([IIII)V" } : Jvm.MethodName) jdk_65_method_104_code (5 : Nat) (Option.none : Option Jvm.ClassFile.FieldType)).before args0 about1 = true := code_word (m := ⟨4, 3⟩) (meth := k4m3) (c := k4c3) (by decide +kernel) rfl rfl rfl (by decide +kernel)
set_option maxRecDepth 65536 in
theorem w_c10 : (Jvm.Cond.code ({ cls := "java/util/Arrays", name := "rangeCheck", desc := "(III)V" } : Jvm.MethodName) jdk_65_method_30_code (3 : Nat) (Option.none : Option Jvm.ClassFile.FieldType)).before args0 about1 = true := code_word (m := ⟨4, 1⟩) (meth := k4m1) (c := k4c1) (by decide +kernel) rfl rfl rfl (by decide +kernel)
set_option maxRecDepth 65536 in
theorem w_c11 : (Jvm.Cond.code ({ cls := "com/example/kaskade/kaskade/simulation/SlotQueue", name := "up", desc := "(IID)V" } : Jvm.MethodName) prog_23_method_10_code (7 : Nat) (Option.none : Option Jvm.ClassFile.FieldType)).before args0 about1 = true := code_word (m := ⟨3, 5⟩) (meth := k3m5) (c := k3c5) (by decide +kernel) rfl rfl rfl (by decide +kernel)
set_option maxRecDepth 65536 in
theorem w_c12 : (Jvm.Cond.code ({ cls := "com/example/kaskade/kaskade/simulation/SlotQueue", name := "put", desc := "(IID)V" } : Jvm.MethodName) prog_23_method_13_code (5 : Nat) (Option.none : Option Jvm.ClassFile.FieldType)).before args0 about1 = true := code_word (m := ⟨3, 8⟩) (meth := k3m8) (c := k3c8) (by decide +kernel) rfl rfl rfl (by decide +kernel)
set_option maxRecDepth 65536 in
theorem w_c13 : (Jvm.Cond.code ({ cls := "com/example/kaskade/kaskade/simulation/SlotQueue", name := "poll", desc := "()I" } : Jvm.MethodName) prog_23_method_7_code (2 : Nat) (Option.some Jvm.ClassFile.FieldType.int)).before args0 about1 = true := code_word (m := ⟨3, 3⟩) (meth := k3m3) (c := k3c3) (by decide +kernel) rfl rfl rfl (by decide +kernel)
set_option maxRecDepth 65536 in
theorem w_c14 : (Jvm.Cond.code ({ cls := "com/example/kaskade/kaskade/simulation/SlotQueue", name := "removeAt", desc := "(I)V" } : Jvm.MethodName) prog_23_method_9_code (5 : Nat) (Option.none : Option Jvm.ClassFile.FieldType)).before args0 about1 = true := code_word (m := ⟨3, 4⟩) (meth := k3m4) (c := k3c4) (by decide +kernel) rfl rfl rfl (by decide +kernel)
set_option maxRecDepth 65536 in
theorem w_c15 : (Jvm.Cond.code ({ cls := "com/example/kaskade/kaskade/simulation/SlotQueue", name := "down", desc := "(IID)V" } : Jvm.MethodName) prog_23_method_11_code (7 : Nat) (Option.none : Option Jvm.ClassFile.FieldType)).before args0 about1 = true := code_word (m := ⟨3, 6⟩) (meth := k3m6) (c := k3c6) (by decide +kernel) rfl rfl rfl (by decide +kernel)
set_option maxRecDepth 65536 in
theorem w_c16 : (Jvm.Cond.code ({ cls := "com/example/kaskade/kaskade/simulation/SlotQueue", name := "firstChild", desc := "(I)I" } : Jvm.MethodName) prog_23_method_12_code (3 : Nat) (Option.some Jvm.ClassFile.FieldType.int)).before args0 about1 = true := code_word (m := ⟨3, 7⟩) (meth := k3m7) (c := k3c7) (by decide +kernel) rfl rfl rfl (by decide +kernel)
def codes1 : List Jvm.Cond := [Jvm.Cond.code x code maxLocals ret, Jvm.Cond.code ({ cls := "java/lang/Math", name := "min", desc := "(II)I" } : Jvm.MethodName) jdk_29_method_69_code (2 : Nat) (Option.some Jvm.ClassFile.FieldType.int), Jvm.Cond.code ({ cls := "com/example/kaskade/kaskade/simulation/SlotQueue", name := "<init>", desc := "()V" } : Jvm.MethodName) prog_23_method_1_code (1 : Nat) (Option.none : Option Jvm.ClassFile.FieldType), Jvm.Cond.code ({ cls := "java/lang/Object", name := "<init>", desc := "()V" } : Jvm.MethodName) object_method_1_code (1 : Nat) (Option.none : Option Jvm.ClassFile.FieldType), Jvm.Cond.code ({ cls := "java/util/Arrays", name := "fill", desc := "([II)V" } : Jvm.MethodName) jdk_65_method_103_code (4 : Nat) (Option.none : Option Jvm.ClassFile.FieldType), Jvm.Cond.code ({ cls := "com/example/kaskade/kaskade/simulation/SlotQueue", name := "isEmpty", desc := "()Z" } : Jvm.MethodName) prog_23_method_2_code (1 : Nat) (Option.some Jvm.ClassFile.FieldType.boolean), Jvm.Cond.code ({ cls := "com/example/kaskade/kaskade/simulation/SlotQueue", name := "add", desc := "(ID)V" } : Jvm.MethodName) prog_23_method_6_code (5 : Nat) (Option.none : Option Jvm.ClassFile.FieldType), Jvm.Cond.code ({ cls := "java/lang/Math", name := "max", desc := "(II)I" } : Jvm.MethodName) jdk_29_method_65_code (2 : Nat) (Option.some Jvm.ClassFile.FieldType.int), Jvm.Cond.code ({ cls := "java/util/Arrays", name := "copyOf", desc := "([II)[I" } : Jvm.MethodName) jdk_65_method_123_code (3 : Nat) (Option.some (Jvm.ClassFile.FieldType.array Jvm.ClassFile.FieldType.int)), Jvm.Cond.code ({ cls := "java/util/Arrays", name := "fill", desc := "([IIII)V" } : Jvm.MethodName) jdk_65_method_104_code (5 : Nat) (Option.none : Option Jvm.ClassFile.FieldType), Jvm.Cond.code ({ cls := "java/util/Arrays", name := "rangeCheck", desc := "(III)V" } : Jvm.MethodName) jdk_65_method_30_code (3 : Nat) (Option.none : Option Jvm.ClassFile.FieldType), Jvm.Cond.code ({ cls := "com/example/kaskade/kaskade/simulation/SlotQueue", name := "up", desc := "(IID)V" } : Jvm.MethodName) prog_23_method_10_code (7 : Nat) (Option.none : Option Jvm.ClassFile.FieldType), Jvm.Cond.code ({ cls := "com/example/kaskade/kaskade/simulation/SlotQueue", name := "put", desc := "(IID)V" } : Jvm.MethodName) prog_23_method_13_code (5 : Nat) (Option.none : Option Jvm.ClassFile.FieldType), Jvm.Cond.code ({ cls := "com/example/kaskade/kaskade/simulation/SlotQueue", name := "poll", desc := "()I" } : Jvm.MethodName) prog_23_method_7_code (2 : Nat) (Option.some Jvm.ClassFile.FieldType.int), Jvm.Cond.code ({ cls := "com/example/kaskade/kaskade/simulation/SlotQueue", name := "removeAt", desc := "(I)V" } : Jvm.MethodName) prog_23_method_9_code (5 : Nat) (Option.none : Option Jvm.ClassFile.FieldType), Jvm.Cond.code ({ cls := "com/example/kaskade/kaskade/simulation/SlotQueue", name := "down", desc := "(IID)V" } : Jvm.MethodName) prog_23_method_11_code (7 : Nat) (Option.none : Option Jvm.ClassFile.FieldType), Jvm.Cond.code ({ cls := "com/example/kaskade/kaskade/simulation/SlotQueue", name := "firstChild", desc := "(I)I" } : Jvm.MethodName) prog_23_method_12_code (3 : Nat) (Option.some Jvm.ClassFile.FieldType.int)]
set_option maxRecDepth 65536 in
theorem codes_eq : words1.filter isCode = codes1 := rfl
theorem w_codes : ∀ c ∈ words1.filter isCode, c.before args0 about1 = true := by
  rw [codes_eq]
  intro c hc
  simp only [codes1, List.mem_cons, List.not_mem_nil, or_false] at hc
  rcases hc with rfl | rfl | rfl | rfl | rfl | rfl | rfl | rfl | rfl | rfl | rfl | rfl | rfl | rfl | rfl | rfl | rfl
  · exact w_c0
  · exact w_c1
  · exact w_c2
  · exact w_c3
  · exact w_c4
  · exact w_c5
  · exact w_c6
  · exact w_c7
  · exact w_c8
  · exact w_c9
  · exact w_c10
  · exact w_c11
  · exact w_c12
  · exact w_c13
  · exact w_c14
  · exact w_c15
  · exact w_c16
set_option maxRecDepth 65536 in
theorem w_t1 : (words1.take 24).all (fun c => isCode c || c.before args0 about1) = true := by decide +kernel
set_option maxRecDepth 65536 in
theorem w_t2 : ((words1.drop 24).take 24).all (fun c => isCode c || c.before args0 about1) = true := by decide +kernel
set_option maxRecDepth 65536 in
theorem w_t3 : (((words1.drop 24).drop 24).take 24).all (fun c => isCode c || c.before args0 about1) = true := by decide +kernel
set_option maxRecDepth 65536 in
theorem w_t4 : (((words1.drop 24).drop 24).drop 24).all (fun c => isCode c || c.before args0 about1) = true := by decide +kernel
theorem w_tables : (allAtoms (Jvm.Cond.code x code maxLocals ret :: tables_1)).before args0 about1 = true := by
  rw [allAtoms_all]
  show words1.all (fun c => c.before args0 about1) = true
  refine all_split ?_ w_codes
  rw [← List.take_append_drop 24 words1, List.all_append, w_t1, ← List.take_append_drop 24 (words1.drop 24), List.all_append, w_t2, ← List.take_append_drop 24 ((words1.drop 24).drop 24), List.all_append, w_t3, w_t4]
  rfl
set_option maxRecDepth 65536 in
theorem w_case : (Jvm.Cond.and given_1 narrow_1).before args0 about1 = true := by decide +kernel
theorem w_applies : (headSpec (Jvm.Cond.code x code maxLocals ret :: tables_1) room_1).applies x e0.platform about1 = true :=
  (Spec.applies_iff w_frames).mpr ⟨w_running, w_runnable, w_alone, w_named, w_hears, w_ripe, w_room, w_tables⟩
theorem atStart : AtStart classFile x code maxLocals ret World_1 tables_1 room_1 Calls_1 rest_1 Pre_1 launch0 p0 e0 about1 theMethod args0 below0 :=
  ⟨lists_1, trivial, launch0.admits_env _ _ _, launch0.least_env, fairChoices_fair.cas, fairChoices_fair.clock, w_frames, w_args, w_heap, w_applies, trivial, trivial, w_case⟩
end start1
theorem witness_1 : WitnessClaimed_1 := ⟨start1.p0, start1.e0, start1.about1, start1.theMethod, start1.args0, start1.below0, start1.atStart⟩
end Jvm.Pilot.@@N@@
