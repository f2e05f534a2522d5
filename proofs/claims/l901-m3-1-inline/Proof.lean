import JvmDerived
import JvmDerived.Pilot.@@N@@Statement
import JvmDerived.Pilot.@@N@@Code
set_option maxRecDepth 65536
set_option maxHeartbeats 40000000
set_option linter.unusedVariables false
set_option linter.unusedSimpArgs false
@@BLOCK:NumsL.lean.txt@@
namespace Jvm.Pilot.@@N@@
open Jvm Jvm.ClassFile Sem Op Lib Jvm.Free Jvm.Stand Jvm.LawKit Jvm.RoadKit Bundle Jvm.Pilot.@@N@@.Jvm.D
/-! THE OWN KIT: walks by continuation. Kd says: from this frame over this heap the body runs to its end, and Q holds there. -/
def oC : ClassFile.Cond → Int32 → Int32 → Prop
 | .eq, x, w => x = w
 | .ne, x, w => ¬ x = w
 | .lt, x, w => x < w
 | .ge, x, w => ¬ x < w
 | .gt, x, w => w < x
 | .le, x, w => ¬ w < x
theorem Yz (cd : ClassFile.Cond) (x w : Int32) : (if_icmp.holds cd x w = true ∧ oC cd x w) ∨ (if_icmp.holds cd x w = false ∧ ¬ oC cd x w) := by
 cases cd with
 | eq =>
  by_cases q : x = w
  ·exact Or.inl ⟨(teq q).1, q⟩
  ·exact Or.inr ⟨(feq q).1, q⟩
 | ne =>
  by_cases q : x = w
  ·exact Or.inr ⟨(teq q).2, fun r => r q⟩
  ·exact Or.inl ⟨(feq q).2, q⟩
 | lt =>
  by_cases q : x < w
  ·exact Or.inl ⟨(tlt q).1, q⟩
  ·exact Or.inr ⟨(flt q).1, q⟩
 | ge =>
  by_cases q : x < w
  ·exact Or.inr ⟨(tlt q).2.1, fun r => r q⟩
  ·exact Or.inl ⟨(flt q).2.1, q⟩
 | gt =>
  by_cases q : w < x
  ·exact Or.inl ⟨(tlt q).2.2.1, q⟩
  ·exact Or.inr ⟨(flt q).2.2.1, q⟩
 | le =>
  by_cases q : w < x
  ·exact Or.inr ⟨(tlt q).2.2.2, fun r => r q⟩
  ·exact Or.inl ⟨(flt q).2.2.2, q⟩
def oA : ACond → Value → Value → Prop
 | .eq, x, w => x = w
 | .ne, x, w => ¬ x = w
theorem RG (cd : ACond) (x w : Value) : (acV cd (decide (x = w)) = true ∧ oA cd x w) ∨ (acV cd (decide (x = w)) = false ∧ ¬ oA cd x w) := by
 cases cd with
 | eq =>
  by_cases q : x = w
  ·exact Or.inl ⟨decide_eq_true q, q⟩
  ·exact Or.inr ⟨decide_eq_false q, q⟩
 | ne =>
  by_cases q : x = w
  ·exact Or.inr ⟨by rw [decide_eq_true q]; rfl, fun r => r q⟩
  ·exact Or.inl ⟨by rw [decide_eq_false q]; rfl, q⟩
section OwnKit
variable {b : Bool} {p : Program} {l : Launch} {e : Env} {R : Room} {s : State} {m : MethodId} {args : Array Value} {below : List Frame} {meth : Method} {c : Code} {P : Addr → Prop} {Q : Option Value → Heap → Vm → Prop} {J : Vm → Prop} {h : Heap} {k n : Nat} {Z : State} {a0 : Array Value} {y : MethodName} {B : ByteArray} {ml : Nat} {rt : Option FieldType}
def GT (P : Addr → Prop) (L : List Loc) : Prop := ∀ q ∈ L, P q.base
theorem GT.snoc {L : List Loc} {a : Addr} {sl : Nat} (N : GT P L) (q : P a) : GT P (L ++ [⟨a, sl⟩]) := fun z hz => (List.mem_append.mp hz).elim (N z) fun hz => by cases List.mem_singleton.mp hz; exact q
theorem GT.app {L L' : List Loc} (N : GT P L) (N' : GT P L') : GT P (L ++ L') := fun z hz => (List.mem_append.mp hz).elim (N z) (N' z)
def Km (P : Addr → Prop) (h h' : Heap) : Prop := h.size ≤ h'.size ∧ ∀ (x : Addr) (c : Cell), h[x]? = some c → ∃ c' : Cell, h'[x]? = some c' ∧ c'.cls = c.cls ∧ c'.vm = c.vm ∧ c'.slots.size = c.slots.size ∧ (¬ P x → c' = c)
theorem Km.of_same {t : State} {L : List Loc} {ck cn : Nat} (hS : s.sameButNew t L ck cn) (N : GT P L) : Km P s.heap t.heap := by
 obtain ⟨-, h1, -, -, -, hh⟩ := hS
 refine ⟨h1, fun x c hx => ?_⟩
 obtain ⟨c', e1, e2, e3, e4⟩ := hh x c hx
 refine ⟨c', e1, by rw [e2], by rw [e2], e3, fun q => ?_⟩
 have e5 : c'.slots = c.slots := Array.ext_getElem? fun i => e4 i fun z => q (N _ z)
 rw [e2, e5]
theorem Km.ext {h' : Heap} (K : Km (fun a => h.size ≤ a) h h') : Ext h h' := ⟨K.1, fun a c hc => by
 obtain ⟨c', e1, -, -, -, e5⟩ := K.2 a c hc
 rw [e5 (Nat.not_le.mpr (Array.getElem?_eq_some_iff.mp hc).1)] at e1; exact e1⟩
theorem Km.fld {h' : Heap} {a : Addr} {C f d : String} {v : Value} (K : Km P h h') (F : Fld Z h a C f d v) (q : ¬ P a) : Fld Z h' a C f d v := by
 obtain ⟨cell, cf, k, i, f, h1, r⟩ := F
 obtain ⟨c', e1, -, -, -, e5⟩ := K.2 a cell h1
 rw [e5 q] at e1; exact ⟨cell, cf, k, i, f, e1, r⟩
theorem Km.exa {h' : Heap} {a : Addr} {C : String} (K : Km P h h') (F : Exa Z h a C) : Exa Z h' a C := by
 obtain ⟨cell, k, h1, h2, h3, h4, h5⟩ := F
 obtain ⟨c', e1, e2, e3, e4, -⟩ := K.2 a cell h1
 exact ⟨c', k, e1, by rw [e2]; exact h2, by rw [e2]; exact h3, by rw [e3]; exact h4, by rw [e4]; exact h5⟩
theorem Km.arr {h' : Heap} {a : Addr} {cl : Cell} {ty : FieldType} (K : Km P h h') (F : Arr Z h a cl ty) (q : ¬ P a) : Arr Z h' a cl ty := by
 obtain ⟨c', e1, -, -, -, e5⟩ := K.2 a cl F.1
 rw [e5 q] at e1; exact ⟨e1, F.2⟩
theorem Km.trans {h' h'' : Heap} {P' : Addr → Prop} (K : Km P h h') (K' : Km P' h' h'') (q : ∀ a, P' a → P a) : Km P h h'' := by
 refine ⟨Nat.le_trans K.1 K'.1, fun x c hx => ?_⟩
 obtain ⟨c1, a1, a2, a3, a4, a5⟩ := K.2 x c hx
 obtain ⟨c2, b1, b2, b3, b4, b5⟩ := K'.2 x c1 a1
 exact ⟨c2, b1, b2.trans a2, b3.trans a3, b4.trans a4, fun r => (b5 fun z => r (q x z)).trans (a5 r)⟩
def Q0 (p : Program) (s : State) (m : MethodId) (meth : Method) (c : Code) (P : Addr → Prop) (Z : State) (y : MethodName) (B : ByteArray) (ml : Nat) (rt : Option FieldType) : Prop :=
 p.tables.exec = Jvm.exec ∧ c.code = B ∧ c.maxLocals = ml ∧ meth.sig.returnType = rt ∧ meth.locks = false ∧ Z.Warmed39 s.vm ∧ s.vm.findClass y.cls = some m.cls ∧ meth.name = y.name ∧ Ext Z.heap s.heap ∧ (∀ a, s.heap.size ≤ a → P a) ∧ (∀ a, P a → Z.heap.size ≤ a)
theorem Q0.hml (C : Q0 p s m meth c P Z y B ml rt) : c.maxLocals = ml := C.2.2.1
theorem Q0.hrt (C : Q0 p s m meth c P Z y B ml rt) : meth.sig.returnType = rt := C.2.2.2.1
theorem Q0.locks (C : Q0 p s m meth c P Z y B ml rt) : meth.locks = false := C.2.2.2.2.1
theorem Q0.hZ (C : Q0 p s m meth c P Z y B ml rt) : Z.Warmed39 s.vm := C.2.2.2.2.2.1
theorem Q0.own (C : Q0 p s m meth c P Z y B ml rt) : s.vm.findClass y.cls = some m.cls := C.2.2.2.2.2.2.1
theorem Q0.nm (C : Q0 p s m meth c P Z y B ml rt) : meth.name = y.name := C.2.2.2.2.2.2.2.1
theorem Q0.old (C : Q0 p s m meth c P Z y B ml rt) : Ext Z.heap s.heap := C.2.2.2.2.2.2.2.2.1
theorem Q0.new (C : Q0 p s m meth c P Z y B ml rt) : ∀ a, s.heap.size ≤ a → P a := C.2.2.2.2.2.2.2.2.2.1
theorem Q0.young (C : Q0 p s m meth c P Z y B ml rt) : ∀ a, P a → Z.heap.size ≤ a := C.2.2.2.2.2.2.2.2.2.2
theorem Q0.rebase {vm0 : Vm} {k0 : Nat} (C : Q0 p s m meth c P Z y B ml rt) (hS : s.Since vm0 k0) : Q0 p (s.setVm vm0) m meth c P Z y B ml rt :=
 ⟨C.1, C.2.1, C.2.2.1, C.2.2.2.1, C.2.2.2.2.1, State.Warmed39.trans C.hZ hS.1, by show vm0.findClass y.cls = _; rw [hS.1.alike.findClass]; exact C.own, C.2.2.2.2.2.2.2⟩
def Tb (J : Vm → Prop) : Prop := ∀ (s : State) (vm' : Vm), J s.vm → s.WarmedH vm' → J vm'
def oT : Vm → Prop := fun _ => True
theorem Lk : Tb oT := fun _ _ _ _ => trivial
def DD (b : Bool) (s : State) (o : Outcome) (u : State) (L : List Loc) (k n : Nat) : Prop := (b = false → FrameEnd s o u L k n) ∧ ReturnedEndW s o u L k n
def HA (b : Bool) (p : Program) (l : Launch) (e : Env) (R : Room) (s : State) (m : MethodId) (args : Array Value) (below : List Frame) (meth : Method) (c : Code) (P : Addr → Prop) (J : Vm → Prop) (h : Heap) (k n : Nat) (T : State) : Prop :=
 ∃ (vm0 : Vm) (k0 : Nat) (locs : List Loc) (ck cn : Nat), Stand p l e R (s.setVm vm0) m args below meth c T locs ck cn ∧ T.heap = h ∧ GT P locs ∧ ck ≤ k ∧ cn ≤ n ∧ s.Since vm0 k0 ∧ k0 ≤ h.size ∧ (b = false → vm0 = s.vm) ∧ J vm0 ∧ Tb J
def Kd (b : Bool) (p : Program) (l : Launch) (e : Env) (R : Room) (s : State) (m : MethodId) (args : Array Value) (below : List Frame) (meth : Method) (c : Code) (P : Addr → Prop) (Q : Option Value → Heap → Vm → Prop) (J : Vm → Prop) (h : Heap) (k n : Nat) (g : JFrame) : Prop :=
 ∀ T, HA b p l e R s m args below meth c P J h k n T → ∃ u o, Steps p.tables e below (T.setTop g) u ∧ u.status = .running ∧ Ended u below o ∧ ∃ v L, o = .returned v ∧ (Q v u.heap u.vm ∧ GT P L) ∧ DD b s o u L R.cells R.slots
abbrev oF (m : MethodId) (pc : Nat) (Ls : List Slot) (S : List Value) : JFrame := mkF m pc (Array.mk Ls) S
def KH (l : Launch) (Z : State) (y : MethodName) (B : ByteArray) (ml : Nat) (rt : Option FieldType) (rm : Room) (as' : Array Value) (h0 : Heap) (P : Addr → Prop) (Q : Option Value → Heap → Prop) : Prop :=
 Ext Z.heap h0 → ∀ ws, MetFree l y (head1 (Jvm.Cond.code y B ml rt :: ws) rm) (fun a U => a = as' ∧ Z.Warmed39 U.vm ∧ U.heap = h0) (fun _ _ _ _ _ => True) (fun _ U o U' => ∃ v L, o = .returned v ∧ (Q v U'.heap ∧ GT P L ∧ Km P h0 U'.heap) ∧ FrameEnd U o U' L rm.cells rm.slots)
def Q1 (l : Launch) (Z : State) (y : MethodName) (B : ByteArray) (ml : Nat) (rt : Option FieldType) (rm : Room) (as' : Array Value) (h0 : Heap) (P : Addr → Prop) (J : Vm → Prop) (Q : Option Value → Heap → Vm → Prop) : Prop :=
 Ext Z.heap h0 → ∀ ws, MetFree l y (head1 (Jvm.Cond.code y B ml rt :: ws) rm) (fun a U => a = as' ∧ Z.Warmed39 U.vm ∧ U.heap = h0 ∧ J U.vm) (fun _ _ _ _ _ => True) (fun _ U o U' => ∃ v L, o = .returned v ∧ (Q v U'.heap U'.vm ∧ GT P L ∧ Km P h0 U'.heap) ∧ ReturnedEndW U o U' L rm.cells rm.slots)
theorem KH.of {rm : Room} {as' : Array Value} {h0 : Heap} {Ls : List Slot} {Q : Option Value → Heap → Prop} (hpl : plainFor y = true) (hP0 : ∀ a, h0.size ≤ a → P a) (hPn : Ext Z.heap h0 → ∀ a, P a → Z.heap.size ≤ a) (hef : ∀ m, entryFrame m as' ml = oF m 0 Ls [])
  (body : ∀ (p : Program) (e : Env) (s : State) (m : MethodId) (below : List Frame) (meth : Method) (c : Code), Q0 p s m meth c P Z y B ml rt → s.heap = h0 → Kd false p l e rm s m as' below meth c P (fun v h _ => Q v h) oT h0 0 0 (oF m 0 Ls [])) : KH l Z y B ml rt rm as' h0 P Q := by
 intro hE ws
 refine MetFree.of_bodySF hpl hisR ?_
 intro p e s m args below meth c s₁ Bd hml0 hP hK
 obtain ⟨rfl, hZ, hh⟩ := hP
 have C : Q0 p s m meth c P Z y B ml rt := ⟨Bd.exec, Bd.bytes, hml0, Bd.returns, Bd.notSynchronized, hZ, findClass_of_methodNamed Bd.named, (name_of_methodNamed Bd.named Bd.method).1, by rw [hh]; exact hE, by rw [hh]; exact hP0, hPn hE⟩
 have X0 : Stand p l e rm s m args below meth c s₁ [] 0 0 := Stand.of_body Bd
 have e0 : s₁.heap = h0 := by rw [← hh, Bd.state]; rfl
 obtain ⟨u, o, h1, h2, h3, v, L, rfl, ⟨hQ, hN⟩, hF⟩ := body p e s m below meth c C hh s₁ ⟨s.vm, 0, [], 0, 0, X0, e0, fun _ q => (nomatch q), Nat.le_refl _, Nat.le_refl _, (State.WarmedH.refl s).since 0, Nat.zero_le _, fun _ => rfl, trivial, Lk⟩
 refine ⟨u, _, castTop (hef m) h1, h2, h3, v, L, rfl, ⟨hQ, hN, ?_⟩, hF.1 rfl⟩
 rw [← hh]
 exact Km.of_same (t := { u with vm := s.vm }) hF.2.2.2.2 hN
theorem Q1.of {rm : Room} {as' : Array Value} {h0 : Heap} {Ls : List Slot} (hpl : plainFor y = true) (hP0 : ∀ a, h0.size ≤ a → P a) (hPn : Ext Z.heap h0 → ∀ a, P a → Z.heap.size ≤ a) (hef : ∀ m, entryFrame m as' ml = oF m 0 Ls []) (hJs : Tb J)
  (body : ∀ (p : Program) (e : Env) (s : State) (m : MethodId) (below : List Frame) (meth : Method) (c : Code), Q0 p s m meth c P Z y B ml rt → s.heap = h0 → Kd true p l e rm s m as' below meth c P Q J h0 0 0 (oF m 0 Ls [])) : Q1 l Z y B ml rt rm as' h0 P J Q := by
 intro hE ws
 refine MetFree.of_bodySF hpl hisR ?_
 intro p e s m args below meth c s₁ Bd hml0 hP hK
 obtain ⟨rfl, hZ, hh, hJ⟩ := hP
 have C : Q0 p s m meth c P Z y B ml rt := ⟨Bd.exec, Bd.bytes, hml0, Bd.returns, Bd.notSynchronized, hZ, findClass_of_methodNamed Bd.named, (name_of_methodNamed Bd.named Bd.method).1, by rw [hh]; exact hE, by rw [hh]; exact hP0, hPn hE⟩
 have X0 : Stand p l e rm s m args below meth c s₁ [] 0 0 := Stand.of_body Bd
 have e0 : s₁.heap = h0 := by rw [← hh, Bd.state]; rfl
 obtain ⟨u, o, h1, h2, h3, v, L, rfl, ⟨hQ, hN⟩, hF⟩ := body p e s m below meth c C hh s₁ ⟨s.vm, 0, [], 0, 0, X0, e0, fun _ q => (nomatch q), Nat.le_refl _, Nat.le_refl _, (State.WarmedH.refl s).since 0, Nat.zero_le _, fun _ => rfl, hJ, hJs⟩
 refine ⟨u, _, castTop (hef m) h1, h2, h3, v, L, rfl, ⟨hQ, hN, ?_⟩, hF.2⟩
 rw [← hh]
 exact Km.of_same (t := { u with vm := s.vm }) hF.2.2.2.2 hN
theorem KH.mono {rm : Room} {as' : Array Value} {h0 : Heap} {Q Q' : Option Value → Heap → Prop} (M : KH l Z y B ml rt rm as' h0 P Q) (i : ∀ v h, Q v h → Q' v h) : KH l Z y B ml rt rm as' h0 P Q' := fun hE ws p e h1 h2 h3 s m a d h4 h5 h6 h7 => by
 obtain ⟨n, o, g1, g2, g3, v, L, rfl, ⟨hQ, r⟩, hF⟩ := M hE ws p e h1 h2 h3 s m a d h4 h5 h6 h7
 exact ⟨n, _, g1, g2, g3, v, L, rfl, ⟨i _ _ hQ, r⟩, hF⟩
theorem Kd.step {g g' : JFrame} (st : ∀ T, At T m c below → ∀ target, Steps p.tables e below (T.setTop g') target → Steps p.tables e below (T.setTop g) target) (K : Kd b p l e R s m args below meth c P Q J h k n g') : Kd b p l e R s m args below meth c P Q J h k n g := fun T hT => by
 obtain ⟨u, o, h1, h2⟩ := K T hT
 obtain ⟨_, _, _, _, _, X, -⟩ := hT
 exact ⟨u, o, st T X.here u h1, h2⟩
theorem Kd.stepX {g g' : JFrame} (st : ∀ s' T locs ck cn, Stand p l e R s' m args below meth c T locs ck cn → ∀ target, Steps p.tables e below (T.setTop g') target → Steps p.tables e below (T.setTop g) target) (K : Kd b p l e R s m args below meth c P Q J h k n g') : Kd b p l e R s m args below meth c P Q J h k n g := fun T hT => by
 obtain ⟨u, o, h1, h2⟩ := K T hT
 obtain ⟨_, _, _, _, _, X, -⟩ := hT
 exact ⟨u, o, st _ T _ _ _ X u h1, h2⟩
theorem Kd.law {g g' : JFrame} (K : Kd b p l e R s m args below meth c P Q J h k n g') (C : Q0 p s m meth c P Z y B ml rt) (st : ∀ s', Q0 p s' m meth c P Z y B ml rt → ∀ T locs ck cn, Stand p l e R s' m args below meth c T locs ck cn → T.heap = h → ∃ T', Stand p l e R s' m args below meth c T' locs ck cn ∧ T'.heap = h ∧ ∀ target, Steps p.tables e below (T'.setTop g') target → Steps p.tables e below (T.setTop g) target) : Kd b p l e R s m args below meth c P Q J h k n g := fun T hT => by
 obtain ⟨vm0, k0, locs, ck, cn, X, eT, N, q1, q2, hS, hk0, hbv, hJ⟩ := hT
 obtain ⟨T', X', e', st'⟩ := st _ (C.rebase hS) T locs ck cn X eT
 obtain ⟨u, o, h1, h2⟩ := K T' ⟨vm0, k0, locs, ck, cn, X', e', N, q1, q2, hS, hk0, hbv, hJ⟩
 exact ⟨u, o, st' u h1, h2⟩
theorem HA.old {T : State} (C : Q0 p s m meth c P Z y B ml rt) (hT : HA b p l e R s m args below meth c P J h k n T) : Ext Z.heap h ∧ s.heap.size ≤ h.size ∧ Km P s.heap h := by
 obtain ⟨vm0, k0, locs, ck, cn, X, rfl, N, -⟩ := hT
 have K : Km P s.heap T.heap := Km.of_same (s := s.setVm vm0) (t := T.setVm (s.setVm vm0).vm) X.same N
 refine ⟨⟨Nat.le_trans C.old.1 K.1, fun a cl ha => ?_⟩, K.1, K⟩
 obtain ⟨c', e1, -, -, -, e5⟩ := K.2 a cl (C.old.2 a cl ha)
 rw [e5 fun q => absurd (C.young a q) (Nat.not_le.mpr (Array.getElem?_eq_some_iff.mp ha).1)] at e1
 exact e1
theorem Qc {g : JFrame} (C : Q0 p s m meth c P Z y B ml rt) (K : Ext Z.heap h → s.heap.size ≤ h.size → Km P s.heap h → Kd b p l e R s m args below meth c P Q J h k n g) : Kd b p l e R s m args below meth c P Q J h k n g := fun T hT => by
 obtain ⟨h1, h2, h3⟩ := HA.old C hT
 exact K h1 h2 h3 T hT
variable (pc : Nat) {Ls : List Slot} {S : List Value}
theorem K8 (C : Q0 p s m meth c P Z y B ml rt) {i : Fin 4} {v : Int32} (hd : decode B pc = .ok (.iload_n i, 1)) (K : Kd b p l e R s m args below meth c P Q J h k n (oF m (pc + 1) Ls ((.int v) :: S))) (hl : (Array.mk Ls)[i.val]? = some (.val (.int v)) := by exact rfl) : Kd b p l e R s m args below meth c P Q J h k n (oF m pc Ls S) := K.step fun _ A _ => XS.iloadN A C.1 rfl (hb C.2.1 hd) hl
theorem KE (C : Q0 p s m meth c P Z y B ml rt) {i : Nat} {v : Int32} (hd : decode B pc = .ok (.iload i, 2)) (K : Kd b p l e R s m args below meth c P Q J h k n (oF m (pc + 2) Ls ((.int v) :: S))) (hl : (Array.mk Ls)[i]? = some (.val (.int v)) := by exact rfl) : Kd b p l e R s m args below meth c P Q J h k n (oF m pc Ls S) := K.step fun _ A _ => XS.iload A C.1 rfl (hb C.2.1 hd) hl
theorem KJ (C : Q0 p s m meth c P Z y B ml rt) {i : Fin 4} {v : Int64} (hd : decode B pc = .ok (.lload_n i, 1)) (K : Kd b p l e R s m args below meth c P Q J h k n (oF m (pc + 1) Ls ((.long v) :: S))) (hl : (Array.mk Ls)[i.val]? = some (.val (.long v)) := by exact rfl) : Kd b p l e R s m args below meth c P Q J h k n (oF m pc Ls S) := K.step fun _ A _ => XT.lloadN A C.1 rfl (hb C.2.1 hd) hl
theorem Kw (C : Q0 p s m meth c P Z y B ml rt) {i : Nat} {v : Int64} (hd : decode B pc = .ok (.lload i, 2)) (K : Kd b p l e R s m args below meth c P Q J h k n (oF m (pc + 2) Ls ((.long v) :: S))) (hl : (Array.mk Ls)[i]? = some (.val (.long v)) := by exact rfl) : Kd b p l e R s m args below meth c P Q J h k n (oF m pc Ls S) := K.step fun _ A _ => XT.lload A C.1 rfl (hb C.2.1 hd) hl
theorem K0 (C : Q0 p s m meth c P Z y B ml rt) {i : Fin 4} {v : Value} (hd : decode B pc = .ok (.aload_n i, 1)) (K : Kd b p l e R s m args below meth c P Q J h k n (oF m (pc + 1) Ls (v :: S))) (hl : (Array.mk Ls)[i.val]? = some (.val v) := by exact rfl) (hv : v.isRef = true := by exact rfl) : Kd b p l e R s m args below meth c P Q J h k n (oF m pc Ls S) := K.step fun _ A _ => XS.aloadN A C.1 rfl (hb C.2.1 hd) hl hv
theorem Kb (C : Q0 p s m meth c P Z y B ml rt) {i : Nat} {v : Value} (hd : decode B pc = .ok (.aload i, 2)) (K : Kd b p l e R s m args below meth c P Q J h k n (oF m (pc + 2) Ls (v :: S))) (hl : (Array.mk Ls)[i]? = some (.val v) := by exact rfl) (hv : v.isRef = true := by exact rfl) : Kd b p l e R s m args below meth c P Q J h k n (oF m pc Ls S) := K.step fun _ A _ => XS.aload A C.1 rfl (hb C.2.1 hd) hl hv
theorem KO (C : Q0 p s m meth c P Z y B ml rt) {i : Fin 4} {v : Int32} {Ls' : List Slot} (hd : decode B pc = .ok (.istore_n i, 1)) (hl : storeLocals (Array.mk Ls) i.val (.int v) = some (Array.mk Ls')) (K : Kd b p l e R s m args below meth c P Q J h k n (oF m (pc + 1) Ls' S)) : Kd b p l e R s m args below meth c P Q J h k n (oF m pc Ls ((.int v) :: S)) := K.step fun _ A _ => XS.istoreN A C.1 rfl (hb C.2.1 hd) rfl hl
theorem KG (C : Q0 p s m meth c P Z y B ml rt) {i : Nat} {v : Int32} {Ls' : List Slot} (hd : decode B pc = .ok (.istore i, 2)) (hl : storeLocals (Array.mk Ls) i (.int v) = some (Array.mk Ls')) (K : Kd b p l e R s m args below meth c P Q J h k n (oF m (pc + 2) Ls' S)) : Kd b p l e R s m args below meth c P Q J h k n (oF m pc Ls ((.int v) :: S)) := K.step fun _ A _ => XS.istore A C.1 rfl (hb C.2.1 hd) rfl hl
theorem K_ (C : Q0 p s m meth c P Z y B ml rt) {i : Fin 4} {v : Int64} {Ls' : List Slot} (hd : decode B pc = .ok (.lstore_n i, 1)) (hl : storeLocals (Array.mk Ls) i.val (.long v) = some (Array.mk Ls')) (K : Kd b p l e R s m args below meth c P Q J h k n (oF m (pc + 1) Ls' S)) : Kd b p l e R s m args below meth c P Q J h k n (oF m pc Ls ((.long v) :: S)) := K.step fun _ A _ => XT.lstoreN A C.1 rfl (hb C.2.1 hd) rfl hl
theorem Ky (C : Q0 p s m meth c P Z y B ml rt) {i : Nat} {v : Int64} {Ls' : List Slot} (hd : decode B pc = .ok (.lstore i, 2)) (hl : storeLocals (Array.mk Ls) i (.long v) = some (Array.mk Ls')) (K : Kd b p l e R s m args below meth c P Q J h k n (oF m (pc + 2) Ls' S)) : Kd b p l e R s m args below meth c P Q J h k n (oF m pc Ls ((.long v) :: S)) := K.step fun _ A _ => XT.lstore A C.1 rfl (hb C.2.1 hd) rfl hl
theorem KY (C : Q0 p s m meth c P Z y B ml rt) {i : Fin 4} {v : Value} {Ls' : List Slot} (hd : decode B pc = .ok (.astore_n i, 1)) (hv : v.isRef = true) (hl : storeLocals (Array.mk Ls) i.val v = some (Array.mk Ls')) (K : Kd b p l e R s m args below meth c P Q J h k n (oF m (pc + 1) Ls' S)) : Kd b p l e R s m args below meth c P Q J h k n (oF m pc Ls (v :: S)) := K.step fun _ A _ => XS.astoreN A C.1 rfl (hb C.2.1 hd) rfl hv hl
theorem Kz (C : Q0 p s m meth c P Z y B ml rt) {i : Nat} {v : Value} {Ls' : List Slot} (hd : decode B pc = .ok (.astore i, 2)) (hv : v.isRef = true) (hl : storeLocals (Array.mk Ls) i v = some (Array.mk Ls')) (K : Kd b p l e R s m args below meth c P Q J h k n (oF m (pc + 2) Ls' S)) : Kd b p l e R s m args below meth c P Q J h k n (oF m pc Ls (v :: S)) := K.step fun _ A _ => XS.astore A C.1 rfl (hb C.2.1 hd) rfl hv hl
theorem Q5 (C : Q0 p s m meth c P Z y B ml rt) {i : Nat} {cst : Int} {v w : Int32} {Ls' : List Slot} (hd : decode B pc = .ok (.iinc i cst, 3)) (hc : Int32.ofInt cst = w) (hl : (Array.mk Ls)[i]? = some (.val (.int v))) (hl' : storeLocals (Array.mk Ls) i (.int (v + w)) = some (Array.mk Ls')) (K : Kd b p l e R s m args below meth c P Q J h k n (oF m (pc + 3) Ls' S)) : Kd b p l e R s m args below meth c P Q J h k n (oF m pc Ls S) := K.step fun _ A _ => XS.iinc A C.1 rfl (hb C.2.1 hd) hl (hc ▸ hl')
theorem KD (C : Q0 p s m meth c P Z y B ml rt) {i : Int} (v : Int32) (hd : decode B pc = .ok (.iconst i, 1)) (K : Kd b p l e R s m args below meth c P Q J h k n (oF m (pc + 1) Ls (.int v :: S))) (hv : Int32.ofInt i = v := by decide) : Kd b p l e R s m args below meth c P Q J h k n (oF m pc Ls S) := K.step fun _ A _ => XT.iconstV A C.1 rfl v (hb C.2.1 hd) hv
theorem KN (C : Q0 p s m meth c P Z y B ml rt) {i : Int} (v : Int32) (hd : decode B pc = .ok (.bipush i, 2)) (K : Kd b p l e R s m args below meth c P Q J h k n (oF m (pc + 2) Ls (.int v :: S))) (hv : (Int8.ofInt i).toInt32 = v := by decide) : Kd b p l e R s m args below meth c P Q J h k n (oF m pc Ls S) := K.step fun _ A _ => XT.bipushV A C.1 rfl v (hb C.2.1 hd) hv
theorem Xe (C : Q0 p s m meth c P Z y B ml rt) {i : Int} (v : Int32) (hd : decode B pc = .ok (.sipush i, 3)) (K : Kd b p l e R s m args below meth c P Q J h k n (oF m (pc + 3) Ls (.int v :: S))) (hv : (Int16.ofInt i).toInt32 = v := by decide) : Kd b p l e R s m args below meth c P Q J h k n (oF m pc Ls S) := K.step fun _ A _ => XT.sipushV A C.1 rfl v (hb C.2.1 hd) hv
theorem KX (C : Q0 p s m meth c P Z y B ml rt) {i : Fin 2} (v : Int64) (hd : decode B pc = .ok (.lconst i, 1)) (K : Kd b p l e R s m args below meth c P Q J h k n (oF m (pc + 1) Ls (.long v :: S))) (hv : Int64.ofNat i = v := by decide) : Kd b p l e R s m args below meth c P Q J h k n (oF m pc Ls S) := K.step fun _ A _ => XT.lconstV A C.1 rfl v (hb C.2.1 hd) hv
theorem QC (C : Q0 p s m meth c P Z y B ml rt)  (hd : decode B pc = .ok (.aconst_null, 1)) (K : Kd b p l e R s m args below meth c P Q J h k n (oF m (pc + 1) Ls (.null :: S))) : Kd b p l e R s m args below meth c P Q J h k n (oF m pc Ls (S)) := K.step fun _ A _ => XS.aconstNull A C.1 rfl (hb C.2.1 hd)
theorem Ku (C : Q0 p s m meth c P Z y B ml rt) {v : Value} (hd : decode B pc = .ok (.dup, 1)) (hc : v.category = 1) (K : Kd b p l e R s m args below meth c P Q J h k n (oF m (pc + 1) Ls (v :: v :: S))) : Kd b p l e R s m args below meth c P Q J h k n (oF m pc Ls (v :: S)) := K.step fun _ A _ => XS.dup A C.1 rfl (hb C.2.1 hd) rfl hc
theorem YG (C : Q0 p s m meth c P Z y B ml rt) {v w : Value} (hd : decode B pc = .ok (.dup_x1, 1)) (hc : v.category = 1) (hc' : w.category = 1) (K : Kd b p l e R s m args below meth c P Q J h k n (oF m (pc + 1) Ls (v :: w :: v :: S))) : Kd b p l e R s m args below meth c P Q J h k n (oF m pc Ls (v :: w :: S)) := K.step fun _ A _ => XT.dupX1 A C.1 rfl (hb C.2.1 hd) rfl hc hc'
theorem YN (C : Q0 p s m meth c P Z y B ml rt) {v w : Value} (hd : decode B pc = .ok (.dup2, 1)) (hc : v.category = 1) (hc' : w.category = 1) (K : Kd b p l e R s m args below meth c P Q J h k n (oF m (pc + 1) Ls (v :: w :: v :: w :: S))) : Kd b p l e R s m args below meth c P Q J h k n (oF m pc Ls (v :: w :: S)) := K.step fun _ A _ => XT.dup2 A C.1 rfl (hb C.2.1 hd) rfl hc hc'
theorem QR (C : Q0 p s m meth c P Z y B ml rt) {v : Value} (hd : decode B pc = .ok (.pop, 1)) (hc : v.category = 1) (K : Kd b p l e R s m args below meth c P Q J h k n (oF m (pc + 1) Ls (S))) : Kd b p l e R s m args below meth c P Q J h k n (oF m pc Ls (v :: S)) := K.step fun _ A _ => XT.pop A C.1 rfl (hb C.2.1 hd) rfl hc
theorem KT (C : Q0 p s m meth c P Z y B ml rt) {o : Int} (q : Nat) (hd : decode B pc = .ok (.goto o, 3)) (K : Kd b p l e R s m args below meth c P Q J h k n (oF m q Ls S)) (ho : 0 ≤ (pc : Int) + o := by decide) (hp : ((pc : Int) + o).toNat = q := by decide) : Kd b p l e R s m args below meth c P Q J h k n (oF m pc Ls S) := K.step fun _ A _ => XS.goto A C.1 rfl rfl (hb C.2.1 hd) ho hp
theorem Qx (C : Q0 p s m meth c P Z y B ml rt) {cd : ClassFile.Cond} {x : Int32} {o : Int} (q : Nat) (hd : decode B pc = .ok (.ifCond cd o, 3)) (K1 : oC cd x 0 → Kd b p l e R s m args below meth c P Q J h k n (oF m q Ls S)) (K2 : ¬ oC cd x 0 → Kd b p l e R s m args below meth c P Q J h k n (oF m (pc + 3) Ls S)) (ho : 0 ≤ (pc : Int) + o := by decide) (hp : ((pc : Int) + o).toNat = q := by decide) : Kd b p l e R s m args below meth c P Q J h k n (oF m pc Ls (.int x :: S)) := by
 rcases Yz cd x 0 with ⟨h1, h2⟩ | ⟨h1, h2⟩
 ·exact (K1 h2).step fun _ A _ => XS.ifYes A C.1 rfl rfl (hb C.2.1 hd) rfl ((if0 _ _).trans h1) ho hp
 ·exact (K2 h2).step fun _ A _ => XS.ifNo A C.1 rfl (hb C.2.1 hd) rfl ((if0 _ _).trans h1)
theorem QK (C : Q0 p s m meth c P Z y B ml rt) {cd : ClassFile.Cond} {x w : Int32} {o : Int} (q : Nat) (hd : decode B pc = .ok (.if_icmp cd o, 3)) (K1 : oC cd x w → Kd b p l e R s m args below meth c P Q J h k n (oF m q Ls S)) (K2 : ¬ oC cd x w → Kd b p l e R s m args below meth c P Q J h k n (oF m (pc + 3) Ls S)) (ho : 0 ≤ (pc : Int) + o := by decide) (hp : ((pc : Int) + o).toNat = q := by decide) : Kd b p l e R s m args below meth c P Q J h k n (oF m pc Ls (.int w :: .int x :: S)) := by
 rcases Yz cd x w with ⟨h1, h2⟩ | ⟨h1, h2⟩
 ·exact (K1 h2).step fun _ A _ => XS.icmpYes A C.1 rfl rfl (hb C.2.1 hd) rfl h1 ho hp
 ·exact (K2 h2).step fun _ A _ => XS.icmpNo A C.1 rfl (hb C.2.1 hd) rfl h1
theorem YA (C : Q0 p s m meth c P Z y B ml rt) {cd : ACond} {x w : Value} {o : Int} (q : Nat) (hd : decode B pc = .ok (.if_acmp cd o, 3)) (h1 : x.isRef = true) (h2 : w.isRef = true) (K1 : oA cd x w → Kd b p l e R s m args below meth c P Q J h k n (oF m q Ls S)) (K2 : ¬ oA cd x w → Kd b p l e R s m args below meth c P Q J h k n (oF m (pc + 3) Ls S)) (ho : 0 ≤ (pc : Int) + o := by decide) (hp : ((pc : Int) + o).toNat = q := by decide) : Kd b p l e R s m args below meth c P Q J h k n (oF m pc Ls (w :: x :: S)) := by
 rcases RG cd x w with ⟨g1, g2⟩ | ⟨g1, g2⟩
 ·exact (K1 g2).stepX fun _ T locs ck cn X target hr => RoadKit.acmp (g := oF m pc Ls (w :: x :: S)) X C.1 rfl h1 h2 (pc0 := pc) (pc' := q) rfl (hb C.2.1 hd) rfl rfl ho (by rw [g1, ← hp]; rfl) hr
 ·exact (K2 g2).stepX fun _ T locs ck cn X target hr => RoadKit.acmp (g := oF m pc Ls (w :: x :: S)) X C.1 rfl h1 h2 (pc0 := pc) (pc' := pc + 3) rfl (hb C.2.1 hd) rfl rfl ho (by rw [g1]; rfl) hr
theorem Yh (C : Q0 p s m meth c P Z y B ml rt) {a : Addr} {o : Int} (q : Nat) (hd : decode B pc = .ok (.ifnonnull o, 3)) (K : Kd b p l e R s m args below meth c P Q J h k n (oF m q Ls S)) (ho : 0 ≤ (pc : Int) + o := by decide) (hp : ((pc : Int) + o).toNat = q := by decide) : Kd b p l e R s m args below meth c P Q J h k n (oF m pc Ls (.ref a :: S)) := K.step fun _ A _ => XT.ifnonnullYes A C.1 rfl rfl (hb C.2.1 hd) rfl ho hp
theorem Kg (C : Q0 p s m meth c P Z y B ml rt) {x w : Int32} (hd : decode B pc = .ok (.iadd, 1)) (K : Kd b p l e R s m args below meth c P Q J h k n (oF m (pc + 1) Ls (.int (x + w) :: S))) : Kd b p l e R s m args below meth c P Q J h k n (oF m pc Ls (.int w :: .int x :: S)) := K.step fun _ A _ => XS.iadd A C.1 rfl (hb C.2.1 hd) rfl
theorem Kt (C : Q0 p s m meth c P Z y B ml rt) {x w : Int32} (hd : decode B pc = .ok (.isub, 1)) (K : Kd b p l e R s m args below meth c P Q J h k n (oF m (pc + 1) Ls (.int (x - w) :: S))) : Kd b p l e R s m args below meth c P Q J h k n (oF m pc Ls (.int w :: .int x :: S)) := K.step fun _ A _ => XS.isub A C.1 rfl (hb C.2.1 hd) rfl
theorem QA (C : Q0 p s m meth c P Z y B ml rt) {x w : Int32} (hd : decode B pc = .ok (.iand, 1)) (K : Kd b p l e R s m args below meth c P Q J h k n (oF m (pc + 1) Ls (.int (x &&& w) :: S))) : Kd b p l e R s m args below meth c P Q J h k n (oF m pc Ls (.int w :: .int x :: S)) := K.step fun _ A _ => XS.iand A C.1 rfl (hb C.2.1 hd) rfl
theorem Xu (C : Q0 p s m meth c P Z y B ml rt) {x w : Int32} (hd : decode B pc = .ok (.imul, 1)) (K : Kd b p l e R s m args below meth c P Q J h k n (oF m (pc + 1) Ls (.int (x * w) :: S))) : Kd b p l e R s m args below meth c P Q J h k n (oF m pc Ls (.int w :: .int x :: S)) := K.step fun _ A _ => XS.imul A C.1 rfl (hb C.2.1 hd) rfl
theorem HZ (C : Q0 p s m meth c P Z y B ml rt) {x w : Int32} (hd : decode B pc = .ok (.ixor, 1)) (K : Kd b p l e R s m args below meth c P Q J h k n (oF m (pc + 1) Ls (.int (x ^^^ w) :: S))) : Kd b p l e R s m args below meth c P Q J h k n (oF m pc Ls (.int w :: .int x :: S)) := K.step fun _ A _ => XT.ixor A C.1 rfl (hb C.2.1 hd) rfl
theorem XN (C : Q0 p s m meth c P Z y B ml rt) {x w : Int32} (hd : decode B pc = .ok (.ishl, 1)) (K : Kd b p l e R s m args below meth c P Q J h k n (oF m (pc + 1) Ls (.int (x <<< (w &&& 31)) :: S))) : Kd b p l e R s m args below meth c P Q J h k n (oF m pc Ls (.int w :: .int x :: S)) := K.step fun _ A _ => XT.ishl A C.1 rfl (hb C.2.1 hd) rfl
theorem Gi (C : Q0 p s m meth c P Z y B ml rt) {x w : Int32} (hd : decode B pc = .ok (.ishr, 1)) (K : Kd b p l e R s m args below meth c P Q J h k n (oF m (pc + 1) Ls (.int (x >>> (w &&& 31)) :: S))) : Kd b p l e R s m args below meth c P Q J h k n (oF m pc Ls (.int w :: .int x :: S)) := K.step fun _ A _ => XT.ishr A C.1 rfl (hb C.2.1 hd) rfl
theorem Q3 (C : Q0 p s m meth c P Z y B ml rt) {x w : Int32} (hd : decode B pc = .ok (.iushr, 1)) (K : Kd b p l e R s m args below meth c P Q J h k n (oF m (pc + 1) Ls (.int (XT.ushr x w) :: S))) : Kd b p l e R s m args below meth c P Q J h k n (oF m pc Ls (.int w :: .int x :: S)) := K.step fun _ A _ => XT.iushr A C.1 rfl (hb C.2.1 hd) rfl
theorem HT (C : Q0 p s m meth c P Z y B ml rt) {x w : Int32} (hd : decode B pc = .ok (.idiv, 1)) (hy : w ≠ 0) (K : Kd b p l e R s m args below meth c P Q J h k n (oF m (pc + 1) Ls (.int (x / w) :: S))) : Kd b p l e R s m args below meth c P Q J h k n (oF m pc Ls (.int w :: .int x :: S)) := K.step fun _ A _ => XS.idiv A C.1 rfl (hb C.2.1 hd) rfl hy
theorem QT (C : Q0 p s m meth c P Z y B ml rt) {x w : Int64} (hd : decode B pc = .ok (.ladd, 1)) (K : Kd b p l e R s m args below meth c P Q J h k n (oF m (pc + 1) Ls (.long (x + w) :: S))) : Kd b p l e R s m args below meth c P Q J h k n (oF m pc Ls (.long w :: .long x :: S)) := K.step fun _ A _ => XT.ladd A C.1 rfl (hb C.2.1 hd) rfl
theorem Jh (C : Q0 p s m meth c P Z y B ml rt) {x w : Int64} (hd : decode B pc = .ok (.lsub, 1)) (K : Kd b p l e R s m args below meth c P Q J h k n (oF m (pc + 1) Ls (.long (x - w) :: S))) : Kd b p l e R s m args below meth c P Q J h k n (oF m pc Ls (.long w :: .long x :: S)) := K.step fun _ A _ => XT.lsub A C.1 rfl (hb C.2.1 hd) rfl
theorem XG (C : Q0 p s m meth c P Z y B ml rt) {x w : Int64} (hd : decode B pc = .ok (.lmul, 1)) (K : Kd b p l e R s m args below meth c P Q J h k n (oF m (pc + 1) Ls (.long (x * w) :: S))) : Kd b p l e R s m args below meth c P Q J h k n (oF m pc Ls (.long w :: .long x :: S)) := K.step fun _ A _ => XT.lmul A C.1 rfl (hb C.2.1 hd) rfl
theorem YP (C : Q0 p s m meth c P Z y B ml rt) {x w : Int64} (hd : decode B pc = .ok (.land, 1)) (K : Kd b p l e R s m args below meth c P Q J h k n (oF m (pc + 1) Ls (.long (x &&& w) :: S))) : Kd b p l e R s m args below meth c P Q J h k n (oF m pc Ls (.long w :: .long x :: S)) := K.step fun _ A _ => XT.land A C.1 rfl (hb C.2.1 hd) rfl
theorem Az (C : Q0 p s m meth c P Z y B ml rt) {x w : Int64} (hd : decode B pc = .ok (.lor, 1)) (K : Kd b p l e R s m args below meth c P Q J h k n (oF m (pc + 1) Ls (.long (x ||| w) :: S))) : Kd b p l e R s m args below meth c P Q J h k n (oF m pc Ls (.long w :: .long x :: S)) := K.step fun _ A _ => XT.lor A C.1 rfl (hb C.2.1 hd) rfl
theorem HE (C : Q0 p s m meth c P Z y B ml rt) {x w : Int64} (hd : decode B pc = .ok (.ldiv, 1)) (hy : w ≠ 0) (K : Kd b p l e R s m args below meth c P Q J h k n (oF m (pc + 1) Ls (.long (x / w) :: S))) : Kd b p l e R s m args below meth c P Q J h k n (oF m pc Ls (.long w :: .long x :: S)) := K.step fun _ A _ => XT.ldiv A C.1 rfl (hb C.2.1 hd) rfl hy
theorem Ge (C : Q0 p s m meth c P Z y B ml rt) {x w : Int32} (hd : decode B pc = .ok (.irem, 1)) (hy : w ≠ 0) (K : Kd b p l e R s m args below meth c P Q J h k n (oF m (pc + 1) Ls (.int (x % w) :: S))) : Kd b p l e R s m args below meth c P Q J h k n (oF m pc Ls (.int w :: .int x :: S)) := K.stepX fun _ T _ _ _ X _ hr => iremM X C.1 rfl (hb C.2.1 hd) rfl hy hr
theorem J_ (C : Q0 p s m meth c P Z y B ml rt) {x w : Int64} (hd : decode B pc = .ok (.lrem, 1)) (hy : w ≠ 0) (K : Kd b p l e R s m args below meth c P Q J h k n (oF m (pc + 1) Ls (.long (x - (x / w) * w) :: S))) : Kd b p l e R s m args below meth c P Q J h k n (oF m pc Ls (.long w :: .long x :: S)) := K.step fun _ A _ => XT.lrem A C.1 rfl (hb C.2.1 hd) rfl hy
theorem V3 (C : Q0 p s m meth c P Z y B ml rt) {x : Int64} {w : Int32} (hd : decode B pc = .ok (.lshr, 1)) (K : Kd b p l e R s m args below meth c P Q J h k n (oF m (pc + 1) Ls (.long (x >>> (w.toInt64 &&& 63)) :: S))) : Kd b p l e R s m args below meth c P Q J h k n (oF m pc Ls (.int w :: .long x :: S)) := K.step fun _ A _ => XT.lshr A C.1 rfl (hb C.2.1 hd) rfl
theorem Hh (C : Q0 p s m meth c P Z y B ml rt) {x : Int64} {w : Int32} (hd : decode B pc = .ok (.lushr, 1)) (K : Kd b p l e R s m args below meth c P Q J h k n (oF m (pc + 1) Ls (.long (XT.ushrL x w) :: S))) : Kd b p l e R s m args below meth c P Q J h k n (oF m pc Ls (.int w :: .long x :: S)) := K.step fun _ A _ => XT.lushr A C.1 rfl (hb C.2.1 hd) rfl
theorem GF (C : Q0 p s m meth c P Z y B ml rt) {x : Int32} (hd : decode B pc = .ok (.ineg, 1)) (K : Kd b p l e R s m args below meth c P Q J h k n (oF m (pc + 1) Ls (.int (-x) :: S))) : Kd b p l e R s m args below meth c P Q J h k n (oF m pc Ls (.int x :: S)) := K.step fun _ A _ => XS.ineg A C.1 rfl (hb C.2.1 hd) rfl
theorem Y8 (C : Q0 p s m meth c P Z y B ml rt) {x : Int64} (hd : decode B pc = .ok (.lneg, 1)) (K : Kd b p l e R s m args below meth c P Q J h k n (oF m (pc + 1) Ls (.long (-x) :: S))) : Kd b p l e R s m args below meth c P Q J h k n (oF m pc Ls (.long x :: S)) := K.step fun _ A _ => XT.lneg A C.1 rfl (hb C.2.1 hd) rfl
theorem Xl (C : Q0 p s m meth c P Z y B ml rt) {x : Int32} (hd : decode B pc = .ok (.i2l, 1)) (K : Kd b p l e R s m args below meth c P Q J h k n (oF m (pc + 1) Ls (.long (x.toInt64) :: S))) : Kd b p l e R s m args below meth c P Q J h k n (oF m pc Ls (.int x :: S)) := K.step fun _ A _ => XT.i2l A C.1 rfl (hb C.2.1 hd) rfl
theorem Xm (C : Q0 p s m meth c P Z y B ml rt) {x : Int64} (hd : decode B pc = .ok (.l2i, 1)) (K : Kd b p l e R s m args below meth c P Q J h k n (oF m (pc + 1) Ls (.int (x.toInt32) :: S))) : Kd b p l e R s m args below meth c P Q J h k n (oF m pc Ls (.long x :: S)) := K.step fun _ A _ => XT.l2i A C.1 rfl (hb C.2.1 hd) rfl
theorem TU (C : Q0 p s m meth c P Z y B ml rt) {x : Int32} (hd : decode B pc = .ok (.i2b, 1)) (K : Kd b p l e R s m args below meth c P Q J h k n (oF m (pc + 1) Ls (.int (x.toInt8.toInt32) :: S))) : Kd b p l e R s m args below meth c P Q J h k n (oF m pc Ls (.int x :: S)) := K.step fun _ A _ => XT.i2b A C.1 rfl (hb C.2.1 hd) rfl
theorem W_ (C : Q0 p s m meth c P Z y B ml rt) {x : Int32} (hd : decode B pc = .ok (.i2c, 1)) (K : Kd b p l e R s m args below meth c P Q J h k n (oF m (pc + 1) Ls (.int (x.toUInt32.toUInt16.toUInt32.toInt32) :: S))) : Kd b p l e R s m args below meth c P Q J h k n (oF m pc Ls (.int x :: S)) := K.step fun _ A _ => XT.i2c A C.1 rfl (hb C.2.1 hd) rfl
theorem Kc (C : Q0 p s m meth c P Z y B ml rt) {x w : Int64} (hd : decode B pc = .ok (.lcmp, 1)) (K : Kd b p l e R s m args below meth c P Q J h k n (oF m (pc + 1) Ls (.int (XT.cmpL x w) :: S))) : Kd b p l e R s m args below meth c P Q J h k n (oF m pc Ls (.long w :: .long x :: S)) := K.step fun _ A _ => XT.lcmp A C.1 rfl (hb C.2.1 hd) rfl
theorem Hu (C : Q0 p s m meth c P Z y B ml rt) {v : Option Value} {g : JFrame} (hv : rt = none → v = none) (hk : k ≤ R.cells) (hn : n ≤ R.slots) (hQ : ∀ vm, J vm → Q v h vm)
  (st : ∀ s' T locs ck cn, Stand p l e R s' m args below meth c T locs ck cn → ∀ fs, (∀ (f : JFrame) (acts : List Action), f.method = m → f.locked = none → f.entered = [] → (doReturn e (T.setTop f) acts v).1 = T.setFrames fs) → Steps p.tables e below (T.setTop g) (T.setFrames fs)) : Kd b p l e R s m args below meth c P Q J h k n g := fun T hT => by
 obtain ⟨vm0, k0, locs, ck, cn, X, eT, N, q1, q2, hS, hk0, hbv, hJ⟩ := hT
 obtain ⟨fs, hr, hrun, hended, hW, hsame⟩ := X.leave (v := v) (by rw [C.hrt]; exact hv) C.locks
 obtain ⟨r1, r2, r3⟩ := hS.ended (U := T.setFrames fs) hW (by show k0 ≤ T.heap.size; rw [eT]; exact hk0) hsame
 have hs3 := r3.mono (Nat.le_trans q1 hk) (Nat.le_trans q2 hn)
 refine ⟨_, _, st _ T _ _ _ X fs hr, hrun, hended, _, _, rfl, ⟨?_, N⟩, fun hb => ⟨⟨_, rfl⟩, ?_, hs3⟩, ⟨_, rfl⟩, r1, r2, hs3⟩
 ·show Q v T.heap T.vm
  rw [eT]; exact hQ _ (hJ.2 (s.setVm vm0) _ hJ.1 X.warmed)
 ·have hb' := hbv hb
  subst hb'
  exact hW
theorem KP {t : FieldType} (C : Q0 p s m meth c P Z y B ml (some t)) {z z' : Int32} (hd : decode B pc = .ok (.ireturn, 1)) (hz : nar t z = z') (hQ : ∀ vm, J vm → Q (some (.int z')) h vm) (ht : t = .int ∨ t = .boolean ∨ t = .byte ∨ t = .char ∨ t = .short := by simp) (hk : k ≤ R.cells := by decide) (hn : n ≤ R.slots := by decide) : Kd b p l e R s m args below meth c P Q J h k n (oF m pc Ls (.int z :: S)) := by
 subst hz
 refine Hu C (v := some (.int (nar t z))) (fun q => nomatch q) hk hn hQ fun _ T locs ck cn X fs hr => ?_
 rcases ht with rfl | ht
 ·exact retOut X C.1 C.hrt rfl (Or.inl ⟨rfl, Or.inl rfl, z, rfl⟩) (hb C.2.1 hd) hr
 ·exact retN X C.1 C.hrt ht (hb C.2.1 hd) hr
theorem KL {t : FieldType} (C : Q0 p s m meth c P Z y B ml (some t)) {w : Value} (hd : decode B pc = .ok (.areturn, 1)) (hQ : ∀ vm, J vm → Q (some w) h vm) (ht : t.isReference = true := by exact rfl) (hw : w.isRef = true := by exact rfl) (hnw : narrow t w = w := by exact rfl) (hk : k ≤ R.cells := by decide) (hn : n ≤ R.slots := by decide) : Kd b p l e R s m args below meth c P Q J h k n (oF m pc Ls (w :: S)) :=
 Hu C (fun q => nomatch q) hk hn hQ fun _ T locs ck cn X fs hr => retOut X C.1 C.hrt hnw (Or.inr (Or.inr (Or.inr (Or.inr ⟨rfl, ht, hw⟩)))) (hb C.2.1 hd) hr
theorem XB (C : Q0 p s m meth c P Z y B ml (some .long)) {w : Int64} (hd : decode B pc = .ok (.lreturn, 1)) (hQ : ∀ vm, J vm → Q (some (.long w)) h vm) (hk : k ≤ R.cells := by decide) (hn : n ≤ R.slots := by decide) : Kd b p l e R s m args below meth c P Q J h k n (oF m pc Ls (.long w :: S)) :=
 Hu C (fun q => nomatch q) hk hn hQ fun _ T locs ck cn X fs hr => retOut X C.1 C.hrt rfl (Or.inr (Or.inl ⟨rfl, rfl, w, rfl⟩)) (hb C.2.1 hd) hr
theorem Ka (C : Q0 p s m meth c P Z y B ml none) (hd : decode B pc = .ok (.return_, 1)) (hQ : ∀ vm, J vm → Q none h vm) (hk : k ≤ R.cells := by decide) (hn : n ≤ R.slots := by decide) : Kd b p l e R s m args below meth c P Q J h k n (oF m pc Ls []) :=
 Hu C (fun _ => rfl) hk hn hQ fun _ T locs ck cn X fs hr => X.returnOut C.1 C.hrt (hb C.2.1 hd) hr
theorem XF (C : Q0 p s m meth c P Z y B ml rt) {idx : Nat} {v : Int32} (w : (Jvm.Cond.constant y.cls idx v).before a0 Z = true) (hd : decode B pc = .ok (.ldc idx, 2)) (K : Kd b p l e R s m args below meth c P Q J h k n (oF m (pc + 2) Ls (.int v :: S))) : Kd b p l e R s m args below meth c P Q J h k n (oF m pc Ls S) := K.law C fun _ C T _ _ _ X eT => ⟨T, X, eT, X.ldcInt C.1 C.own (mvT C.hZ w) (g := oF m pc Ls S) rfl (hb C.2.1 hd)⟩
theorem Qq (C : Q0 p s m meth c P Z y B ml rt) {idx : Nat} {v : Int32} (w : (Jvm.Cond.constant y.cls idx v).before a0 Z = true) (hd : decode B pc = .ok (.ldc_w idx, 3)) (K : Kd b p l e R s m args below meth c P Q J h k n (oF m (pc + 3) Ls (.int v :: S))) : Kd b p l e R s m args below meth c P Q J h k n (oF m pc Ls S) := K.law C fun _ C T _ _ _ X eT => ⟨T, X, eT, X.ldcwInt C.1 C.own (mvT C.hZ w) (g := oF m pc Ls S) rfl (hb C.2.1 hd)⟩
theorem Kq (C : Q0 p s m meth c P Z y B ml rt) {idx : Nat} {v : Int64} (w : (Jvm.Cond.constantLong y.cls idx v).before a0 Z = true) (hd : decode B pc = .ok (.ldc2_w idx, 3)) (K : Kd b p l e R s m args below meth c P Q J h k n (oF m (pc + 3) Ls (.long v :: S))) : Kd b p l e R s m args below meth c P Q J h k n (oF m pc Ls S) := K.law C fun _ C T _ _ _ X eT => ⟨T, X, eT, X.ldc2Long C.1 C.own (mvT C.hZ w) (g := oF m pc Ls S) rfl (hb C.2.1 hd)⟩
theorem KF (C : Q0 p s m meth c P Z y B ml rt) {R0 O f d : String} {idx : Nat} {a : Addr} {v : Value} (w : (Jvm.Cond.fieldLink y.cls idx R0 f d).before a0 Z = true) (via : Via Z R0 O f d) (F : Fld Z h a O f d v) (hd : decode B pc = .ok (.getfield idx, 3)) (K : Kd b p l e R s m args below meth c P Q J h k n (oF m (pc + 3) Ls (v :: S))) : Kd b p l e R s m args below meth c P Q J h k n (oF m pc Ls (.ref a :: S)) := K.law C fun _ C T _ _ _ X eT => getF X C.1 C.hZ C.own (host := "") (Or.inl w) via eT F (g := oF m pc Ls (.ref a :: S)) rfl rfl (hb C.2.1 hd)
theorem Ko (C : Q0 p s m meth c P Z y B ml rt) {R0 O f d : String} {idx : Nat} {v : Value} (w : (Jvm.Cond.fieldLink y.cls idx R0 f d).before a0 Z = true) (via : Via Z R0 O f d) (F : Sta Z Z.heap O f d v) (hd : decode B pc = .ok (.getstatic idx, 3)) (K : Kd b p l e R s m args below meth c P Q J h k n (oF m (pc + 3) Ls (v :: S))) : Kd b p l e R s m args below meth c P Q J h k n (oF m pc Ls S) := Qc C fun hE _ _ => K.law C fun _ C T _ _ _ X eT => getS2 X C.1 C.hZ C.own (host := "") (Or.inl w) via eT (F.ext hE) (g := oF m pc Ls S) rfl (hb C.2.1 hd)
theorem Ke (C : Q0 p s m meth c P Z y B ml rt) {R0 O f d Cn : String} {idx kk : Nat} {ty : FieldType} {a : Addr} {v old : Value} (w : (Jvm.Cond.fieldLink y.cls idx R0 f d).before a0 Z = true) (via : Via Z R0 O f d) (F : Fld Z h a O f d old) (E : Exa Z h a Cn) (L : (Jvm.Cond.lays Cn O f d).before a0 Z = true ∨ ((Jvm.Cond.laysFinal Cn O f d).before a0 Z = true ∧ y.cls = O ∧ y.name = "<init>")) (wi : (Jvm.Cond.instantiable Cn kk).before a0 Z = true)
  (hty : parseFieldDescriptor d = some ty) (hnv : narrow ty v = v) (hf : fits ty v = true) (hP : P a) (hd : decode B pc = .ok (.putfield idx, 3)) (K : ∀ h', Wr h h' a (RoadKit.slotOf Z O f d) v → Kd b p l e R s m args below meth c P Q J h' k n (oF m (pc + 3) Ls S)) : Kd b p l e R s m args below meth c P Q J h k n (oF m pc Ls (v :: .ref a :: S)) := fun T hT => by
 obtain ⟨vm0, k0, locs, ck, cn, X, eT, N, q1, q2, hS, hk0, hbv, hJ⟩ := hT
 have C' := C.rebase hS
 obtain ⟨T', h', X', e', Wr1, st⟩ := putF X C.1 C'.hZ C'.own (host := "") (Or.inl w) via eT F E (L.imp id fun q => ⟨q.1, q.2.1, C.nm.trans q.2.2⟩) wi hty hnv hf (g := oF m pc Ls (v :: .ref a :: S)) rfl rfl (hb C.2.1 hd)
 obtain ⟨u, o, g1, g2⟩ := K h' Wr1 T' ⟨vm0, k0, _, ck, cn, X', e', N.snoc hP, q1, q2, hS, by rw [Wr1.size]; exact hk0, hbv, hJ⟩
 exact ⟨u, o, st u g1, g2⟩
theorem QE (C : Q0 p s m meth c P Z y B ml rt) {Cn : String} {idx sz : Nat} (w : (Jvm.Cond.classLink y.cls idx Cn).before a0 Z = true) (wi : (Jvm.Cond.instantiable Cn sz).before a0 Z = true) (wz : (Jvm.Cond.initialized Cn).before a0 Z = true) (hd : decode B pc = .ok (.new idx, 3)) (K : ∀ h' a, a = h.size → P a → Ext h h' → Exa Z h' a Cn → (∀ {O nm d : String} {ty : FieldType}, Laid Z a0 Cn O nm d → parseFieldDescriptor d = some ty → Fld Z h' a O nm d (defaultValue ty)) → Kd b p l e R s m args below meth c P Q J h' (k + 1) (n + sz) (oF m (pc + 3) Ls (.ref a :: S))) (hk : k + 1 ≤ R.cells := by decide) (hn : n + sz ≤ R.slots := by decide) : Kd b p l e R s m args below meth c P Q J h k n (oF m pc Ls S) := fun T hT => by
 have hO := HA.old C hT
 obtain ⟨vm0, k0, locs, ck, cn, X, eT, N, q1, q2, hS, hk0, hbv, hJ⟩ := hT
 have C' := C.rebase hS
 obtain ⟨T', h', X', e', E, A, D, -, st⟩ := newO X C.1 C'.hZ C'.own w wi wz eT (g := oF m pc Ls S) rfl (hb C.2.1 hd) (by omega) (by omega)
 obtain ⟨u, o, g1, g2⟩ := K h' h.size rfl (C.new _ hO.2.1) E A D T' ⟨vm0, k0, locs, _, _, X', e', N, by omega, by omega, hS, Nat.le_trans hk0 E.1, hbv, hJ⟩
 exact ⟨u, o, st u g1, g2⟩
theorem X5 (C : Q0 p s m meth c P Z y B ml rt) {idx : Nat} {a : Addr} (w1 : (Jvm.Cond.methodLink y.cls idx Lib.objectInit).before a0 Z = true) (w2 : (Jvm.Cond.instanceMethod Lib.objectInit).before a0 Z = true) (w3 : (Jvm.Cond.code Lib.objectInit ⟨#[0xb1]⟩ 1 none).before a0 Z = true) (hd : decode B pc = .ok (.invokespecial idx, 3)) (hml : Ls.length = ml) (hf : 1 ≤ R.frames) (hl : (S.map fun v => v.category).sum + 12 ≤ R.locals) (K : Kd b p l e R s m args below meth c P Q J h k n (oF m (pc + 3) Ls S)) : Kd b p l e R s m args below meth c P Q J h k n (oF m pc Ls (.ref a :: S)) :=
 K.law C fun _ C T _ _ _ X eT => initO X C.1 C.hZ C.own w1 w2 w3 eT (g := oF m pc Ls (.ref a :: S)) rfl (by rw [C.hml]; exact hml) rfl (hb C.2.1 hd) hf (W := (S.map fun v => v.category).sum) (by show 2 * 0 + _ ≤ _; exact Nat.le_of_eq (Nat.zero_add _)) hl
theorem HC {s' : State} {z : MethodName} {B' : ByteArray} {ml' len W : Nat} {rt' : Option FieldType} {rm : Room} {as' : Array Value} {P' : Addr → Prop} {J' : Vm → Prop} {Q' : Option Value → Heap → Vm → Prop}
  (M : Q1 l Z z B' ml' rt' rm as' h P' J' Q') (hE : Ext Z.heap h) (hZ : Z.Warmed39 s'.vm) (wc : (Jvm.Cond.code z B' ml' rt').before a0 Z = true) (wz : (Jvm.Cond.initialized z.cls).before a0 Z = true) (hf : rm.frames + 1 ≤ R.frames) (hl : W + (ml' + 11) + rm.locals ≤ R.locals) :
  BackS l R p e below s' args z len W (fun A a => a = as' ∧ A.U.heap = h ∧ A.cells + rm.cells ≤ R.cells ∧ A.slots + rm.slots ≤ R.slots ∧ J' A.U.vm)
   (fun A _ v B => ∃ L, (Q' v B.U.heap B.U.vm ∧ GT P' L ∧ Km P' h B.U.heap) ∧ B.locs = A.locs ++ L ∧ B.cells = A.cells + rm.cells ∧ B.slots = A.slots + rm.slots) :=
 BackS.of_freeW (bytes := B') (maxL := ml') (ret := rt') (E := fun _ _ o t L k n => k = rm.cells ∧ n = rm.slots ∧ ∃ v, o = .returned v ∧ (Q' v t.heap t.vm ∧ GT P' L ∧ Km P' h t.heap)) (M hE []) hf hl
  (fun m meth c A a Y hp => have hU : Z.Warmed39 A.U.vm := wtrans hZ Y.warmed
   ⟨by show (Jvm.Cond.and _ .tt).before a A.U = true; rw [Cond.before_and, mv hU wc]; rfl, mv hU wc, mv hU wz, hp.2.2.1, hp.2.2.2.1⟩)
  (fun m meth c A a g mk Y hp => ⟨hp.1, wtrans hZ Y.warmed, hp.2.1, hp.2.2.2.2⟩) (fun _ _ _ _ _ _ _ _ _ => trivial)
  (fun _ _ _ _ ⟨v, L, h1, h2, h3⟩ => ⟨L, _, _, h3, rfl, rfl, v, h1, h2⟩)
  (fun m meth c A a g mk v t L k n Y hp _ _ ⟨e1, e2, v', e3, e4⟩ => by cases e3; subst e1 e2; exact ⟨L, e4, rfl, rfl, rfl⟩)
theorem KK (C : Q0 p s m meth c P Z y B ml rt) {idx : Nat} {z : MethodName} {B' : ByteArray} {ml' : Nat} {rt' : Option FieldType} {rm : Room} {as' : Array Value} {P' : Addr → Prop} {Q' : Option Value → Heap → Prop} {argsL rest : List Value} {ps : List FieldType} {rr : Option FieldType} (M : KH l Z z B' ml' rt' rm as' h P' Q') (w1 : (Jvm.Cond.methodLink y.cls idx z).before a0 Z = true) (w2 : (Jvm.Cond.static z).before a0 Z = true) (w3 : (Jvm.Cond.initialized z.cls).before a0 Z = true) (w4 : (Jvm.Cond.code z B' ml' rt').before a0 Z = true) (hpd : parseMethodDescriptor z.desc = some ⟨ps, rr⟩) (hd : decode B pc = .ok (.invokestatic idx, 3)) (hS : S = argsL.reverse ++ rest) (hlen : argsL.length = ps.length) (ha : argsL.toArray = as') (hml : Ls.length = ml) (K : ∀ v h', Q' v h' → Km P' h h' → Kd b p l e R s m args below meth c P Q J h' (k + rm.cells) (n + rm.slots) (oF m (pc + 3) Ls (v.toList ++ rest))) (hy : z.cls ≠ "java/lang/invoke/MethodHandle" ∧ z.cls ≠ "java/lang/invoke/VarHandle" := by decide) (hP : ∀ a, s.heap.size ≤ h.size → P' a → P a := by exact fun a q r => C.new a (Nat.le_trans q r)) (hf : rm.frames + 1 ≤ R.frames := by decide) (hl : (rest.map fun v => v.category).sum + (ml' + 11) + rm.locals ≤ R.locals := by exact Nat.le_of_ble_eq_true rfl) (hk : k + rm.cells ≤ R.cells := by decide) (hn : n + rm.slots ≤ R.slots := by decide) : Kd b p l e R s m args below meth c P Q J h k n (oF m pc Ls S) := fun T hT => by
 obtain ⟨hE, hle, -⟩ := HA.old C hT
 obtain ⟨vm0, k0, locs, ck, cn, X, eT, N, q1, q2, hSi, hk0, hbv, hJ⟩ := hT
 subst hS
 have C' := C.rebase hSi
 obtain ⟨v, vm₁, ⟨T', L', k', n'⟩, -, X', ⟨Lc, ⟨hQ, hN, hK⟩, e1, e2, e3⟩, st⟩ := Jvm.LawKit.callS X C.1 (y := z) C'.own (mvT C'.hZ w1) (mvT C'.hZ w2) (mvT C'.hZ w3) (mvT C'.hZ w4) hy (backOf (W := (rest.map fun v => v.category).sum) (Q := fun v h' L => Q' v h' ∧ GT P' L ∧ Km P' h h') (M hE []) C'.hZ w4 w3 hf hl) (g := oF m pc Ls (argsL.reverse ++ rest)) rfl (by rw [C.hml]; exact hml) (argsL := argsL) (rest := rest) (lenOf hpd hlen) rfl (by show 2 * 0 + _ ≤ _; exact Nat.le_of_eq (Nat.zero_add _)) (hb C.2.1 hd) (fun vm₁ hw₁ => ⟨ha, eT, by show ck + _ ≤ _; omega, by show cn + _ ≤ _; omega⟩)
 dsimp only [Pt.U, Pt.locs, Pt.cells, Pt.slots] at X' e1 e2 e3 st hQ hK
 subst e1 e2 e3
 obtain ⟨u, o, g1, g2⟩ := K v T'.heap hQ hK T' ⟨vm0, k0, _, _, _, X', rfl, N.app fun q hq => hP _ hle (hN q hq), by omega, by omega, hSi, Nat.le_trans hk0 hK.1, hbv, hJ⟩
 exact ⟨u, o, st u g1, g2⟩
theorem KV (C : Q0 p s m meth c P Z y B ml rt) {idx : Nat} {z : MethodName} {B' : ByteArray} {ml' : Nat} {rm : Room} {as' : Array Value} {P' : Addr → Prop} {Q' : Option Value → Heap → Prop} {argsL rest : List Value} {ps : List FieldType} {rr : Option FieldType} (M : KH l Z z B' ml' none rm as' h P' Q') {a : Addr} (w1 : (Jvm.Cond.methodLink y.cls idx z).before a0 Z = true) (w2 : (Jvm.Cond.instanceMethod z).before a0 Z = true) (w3 : (Jvm.Cond.initialized z.cls).before a0 Z = true) (w4 : (Jvm.Cond.code z B' ml' none).before a0 Z = true) (hpd : parseMethodDescriptor z.desc = some ⟨ps, rr⟩) (hd : decode B pc = .ok (.invokespecial idx, 3)) (hS : S = argsL.reverse ++ .ref a :: rest) (hlen : argsL.length = ps.length) (ha : (.ref a :: argsL).toArray = as') (hml : Ls.length = ml) (K : ∀ v h', Q' v h' → Km P' h h' → Kd b p l e R s m args below meth c P Q J h' (k + rm.cells) (n + rm.slots) (oF m (pc + 3) Ls (v.toList ++ rest))) (hi : z.name = "<init>" := by exact rfl) (hy : z.cls ≠ "java/lang/invoke/MethodHandle" ∧ z.cls ≠ "java/lang/invoke/VarHandle" := by decide) (hP : ∀ a, s.heap.size ≤ h.size → P' a → P a := by exact fun a q r => C.new a (Nat.le_trans q r)) (hf : rm.frames + 1 ≤ R.frames := by decide) (hl : (rest.map fun v => v.category).sum + (ml' + 11) + rm.locals ≤ R.locals := by exact Nat.le_of_ble_eq_true rfl) (hk : k + rm.cells ≤ R.cells := by decide) (hn : n + rm.slots ≤ R.slots := by decide) : Kd b p l e R s m args below meth c P Q J h k n (oF m pc Ls S) := fun T hT => by
 obtain ⟨hE, hle, -⟩ := HA.old C hT
 obtain ⟨vm0, k0, locs, ck, cn, X, eT, N, q1, q2, hSi, hk0, hbv, hJ⟩ := hT
 subst hS
 have C' := C.rebase hSi
 obtain ⟨v, vm₁, ⟨T', L', k', n'⟩, -, X', ⟨Lc, ⟨hQ, hN, hK⟩, e1, e2, e3⟩, st⟩ := X.specialBack C.1 (y := z) hi C'.own (mvT C'.hZ w1) (mvT C'.hZ w2) (mvT C'.hZ w4) hy (backOf (W := (rest.map fun v => v.category).sum) (Q := fun v h' L => Q' v h' ∧ GT P' L ∧ Km P' h h') (M hE []) C'.hZ w4 w3 hf hl) (g := oF m pc Ls (argsL.reverse ++ .ref a :: rest)) rfl (by rw [C.hml]; exact hml) (Steps.refl _) (a := a) (argsL := argsL) (rest := rest) (lenOf hpd hlen) rfl (by show 2 * 0 + _ ≤ _; exact Nat.le_of_eq (Nat.zero_add _)) (hb C.2.1 hd) (fun vm₁ hw₁ => ⟨ha, eT, by show ck + _ ≤ _; omega, by show cn + _ ≤ _; omega⟩)
 dsimp only [Pt.U, Pt.locs, Pt.cells, Pt.slots] at X' e1 e2 e3 st hQ hK
 subst e1 e2 e3
 obtain ⟨u, o, g1, g2⟩ := K v T'.heap hQ hK T' ⟨vm0, k0, _, _, _, X', rfl, N.app fun q hq => hP _ hle (hN q hq), by omega, by omega, hSi, Nat.le_trans hk0 hK.1, hbv, hJ⟩
 exact ⟨u, o, st.trans g1, g2⟩
theorem KI (C : Q0 p s m meth c P Z y B ml rt) {idx : Nat} {z z0 : MethodName} {B' : ByteArray} {ml' : Nat} {rt' : Option FieldType} {rm : Room} {as' : Array Value} {P' : Addr → Prop} {Q' : Option Value → Heap → Prop} {argsL rest : List Value} {ps : List FieldType} {rr : Option FieldType} (M : KH l Z z B' ml' rt' rm as' h P' Q') {a : Addr} {Cn : String} (E : Exa Z h a Cn) (w1 : (Jvm.Cond.methodLink y.cls idx z0).before a0 Z = true) (wd : (Jvm.Cond.declares z0).before a0 Z = true) (nf : ∀ s', Z.Warmed39 s'.vm → NotFace s' z0) (ws : (Jvm.Cond.selects Cn z0 z).before a0 Z = true) (w2 : (Jvm.Cond.instanceMethod z).before a0 Z = true) (w3 : (Jvm.Cond.initialized z.cls).before a0 Z = true) (w4 : (Jvm.Cond.code z B' ml' rt').before a0 Z = true) (hpd : parseMethodDescriptor z0.desc = some ⟨ps, rr⟩) (hd : decode B pc = .ok (.invokevirtual idx, 3)) (hS : S = argsL.reverse ++ .ref a :: rest) (hlen : argsL.length = ps.length) (ha : (.ref a :: argsL).toArray = as') (hml : Ls.length = ml) (K : ∀ v h', Q' v h' → Km P' h h' → Kd b p l e R s m args below meth c P Q J h' (k + rm.cells) (n + rm.slots) (oF m (pc + 3) Ls (v.toList ++ rest))) (hy : z0.cls ≠ "java/lang/invoke/MethodHandle" ∧ z0.cls ≠ "java/lang/invoke/VarHandle" := by decide) (hP : ∀ a, s.heap.size ≤ h.size → P' a → P a := by exact fun a q r => C.new a (Nat.le_trans q r)) (hf : rm.frames + 1 ≤ R.frames := by decide) (hl : (rest.map fun v => v.category).sum + (ml' + 11) + rm.locals ≤ R.locals := by exact Nat.le_of_ble_eq_true rfl) (hk : k + rm.cells ≤ R.cells := by decide) (hn : n + rm.slots ≤ R.slots := by decide) : Kd b p l e R s m args below meth c P Q J h k n (oF m pc Ls S) := fun T hT => by
 obtain ⟨hE, hle, -⟩ := HA.old C hT
 obtain ⟨vm0, k0, locs, ck, cn, X, eT, N, q1, q2, hSi, hk0, hbv, hJ⟩ := hT
 subst hS
 have C' := C.rebase hSi
 obtain ⟨cq, kq, qa, qb, qc⟩ := isOf C'.hZ eT E
 obtain ⟨v, vm₁, ⟨T', L', k', n'⟩, -, X', ⟨Lc, ⟨hQ, hN, hK⟩, e1, e2, e3⟩, st⟩ := X.virtualBack C.1 (y := z0) (z := z) C'.own (mvT C'.hZ w1) (mvT C'.hZ wd) (nf _ C'.hZ) (mvT C'.hZ ws) (mvT C'.hZ w2) hy (backOf (W := (rest.map fun v => v.category).sum) (Q := fun v h' L => Q' v h' ∧ GT P' L ∧ Km P' h h') (M hE []) C'.hZ w4 w3 hf hl) qa qc (g := oF m pc Ls (argsL.reverse ++ .ref a :: rest)) rfl (by rw [C.hml]; exact hml) (Steps.refl _) (argsL := argsL) (rest := rest) (lenOf hpd hlen) rfl (by show 2 * 0 + _ ≤ _; exact Nat.le_of_eq (Nat.zero_add _)) (hb C.2.1 hd) (fun vm₁ hw₁ => ⟨ha, eT, by show ck + _ ≤ _; omega, by show cn + _ ≤ _; omega⟩)
 dsimp only [Pt.U, Pt.locs, Pt.cells, Pt.slots] at X' e1 e2 e3 st hQ hK
 subst e1 e2 e3
 obtain ⟨u, o, g1, g2⟩ := K v T'.heap hQ hK T' ⟨vm0, k0, _, _, _, X', rfl, N.app fun q hq => hP _ hle (hN q hq), by omega, by omega, hSi, Nat.le_trans hk0 hK.1, hbv, hJ⟩
 exact ⟨u, o, st.trans g1, g2⟩
theorem XC (C : Q0 p s m meth c P Z y B ml rt) {idx : Nat} {z : MethodName} {B' : ByteArray} {ml' : Nat} {rt' : Option FieldType} {rm : Room} {as' : Array Value} {P' : Addr → Prop} {J' : Vm → Prop} {Q' : Option Value → Heap → Vm → Prop} {argsL rest : List Value} {ps : List FieldType} {rr : Option FieldType} (M : Q1 l Z z B' ml' rt' rm as' h P' J' Q') (hJJ : ∀ vm, J vm → J' vm) (w1 : (Jvm.Cond.methodLink y.cls idx z).before a0 Z = true) (w2 : (Jvm.Cond.static z).before a0 Z = true) (w3 : (Jvm.Cond.initialized z.cls).before a0 Z = true) (w4 : (Jvm.Cond.code z B' ml' rt').before a0 Z = true) (hpd : parseMethodDescriptor z.desc = some ⟨ps, rr⟩) (hd : decode B pc = .ok (.invokestatic idx, 3)) (hS : S = argsL.reverse ++ rest) (hlen : argsL.length = ps.length) (ha : argsL.toArray = as') (hml : Ls.length = ml) (K : ∀ v h' vm', Q' v h' vm' → Km P' h h' → ∃ J1 : Vm → Prop, J1 vm' ∧ Tb J1 ∧ Kd true p l e R s m args below meth c P Q J1 h' (k + rm.cells) (n + rm.slots) (oF m (pc + 3) Ls (v.toList ++ rest))) (hy : z.cls ≠ "java/lang/invoke/MethodHandle" ∧ z.cls ≠ "java/lang/invoke/VarHandle" := by decide) (hP : ∀ a, s.heap.size ≤ h.size → P' a → P a := by exact fun a q r => C.new a (Nat.le_trans q r)) (hf : rm.frames + 1 ≤ R.frames := by decide) (hl : (rest.map fun v => v.category).sum + (ml' + 11) + rm.locals ≤ R.locals := by exact Nat.le_of_ble_eq_true rfl) (hk : k + rm.cells ≤ R.cells := by decide) (hn : n + rm.slots ≤ R.slots := by decide) : Kd true p l e R s m args below meth c P Q J h k n (oF m pc Ls S) := fun T hT => by
 obtain ⟨hE, hle, -⟩ := HA.old C hT
 obtain ⟨vm0, k0, locs, ck, cn, X, eT, N, q1, q2, hSi, hk0, hbv, hJ⟩ := hT
 subst hS
 have C' := C.rebase hSi
 obtain ⟨v, vm₁, ⟨T', L', k', n'⟩, -, X', hS2, hgr, ⟨Lc, ⟨hQ, hN, hK⟩, e1, e2, e3⟩, st⟩ := callSS X C.1 (y := z) C'.own (mvT C'.hZ w1) (mvT C'.hZ w2) (mvT C'.hZ w3) (mvT C'.hZ w4) hy (HC (W := (rest.map fun v => v.category).sum) M hE C'.hZ w4 w3 hf hl) (g := oF m pc Ls (argsL.reverse ++ rest)) rfl (by rw [C.hml]; exact hml) (argsL := argsL) (rest := rest) (lenOf hpd hlen) rfl (by show 2 * 0 + _ ≤ _; exact Nat.le_of_eq (Nat.zero_add _)) (hb C.2.1 hd) (fun vm₁ hw₁ => ⟨ha, eT, by show ck + _ ≤ _; omega, by show cn + _ ≤ _; omega, hJJ _ (hJ.2 (s.setVm vm0) _ hJ.1 hw₁)⟩)
 dsimp only [Pt.U, Pt.locs, Pt.cells, Pt.slots] at X' hS2 hgr e1 e2 e3 st hQ hK
 subst e1 e2 e3
 obtain ⟨J1, j1, j2, K1⟩ := K v T'.heap T'.vm hQ hK
 obtain ⟨u, o, g1, g2⟩ := K1 T' ⟨T'.vm, T'.heap.size, _, _, _, X', rfl, N.app fun q hq => hP _ hle (hN q hq), by omega, by omega, foldS hSi (by rw [eT]; exact hk0) hS2 hgr, Nat.le_refl _, (fun q => nomatch q), j1, j2⟩
 exact ⟨u, o, st.trans g1, g2⟩
theorem Yu (C : Q0 p s m meth c P Z y B ml rt) {idx : Nat} {z z0 : MethodName} {B' : ByteArray} {ml' : Nat} {rt' : Option FieldType} {rm : Room} {as' : Array Value} {P' : Addr → Prop} {J' : Vm → Prop} {Q' : Option Value → Heap → Vm → Prop} {argsL rest : List Value} {ps : List FieldType} {rr : Option FieldType} (M : Q1 l Z z B' ml' rt' rm as' h P' J' Q') (hJJ : ∀ vm, J vm → J' vm) {a : Addr} {Cn : String} (E : Exa Z h a Cn) (w1 : (Jvm.Cond.methodLink y.cls idx z0).before a0 Z = true) (wd : (Jvm.Cond.declares z0).before a0 Z = true) (nf : ∀ s', Z.Warmed39 s'.vm → NotFace s' z0) (ws : (Jvm.Cond.selects Cn z0 z).before a0 Z = true) (w2 : (Jvm.Cond.instanceMethod z).before a0 Z = true) (w3 : (Jvm.Cond.initialized z.cls).before a0 Z = true) (w4 : (Jvm.Cond.code z B' ml' rt').before a0 Z = true) (hpd : parseMethodDescriptor z0.desc = some ⟨ps, rr⟩) (hd : decode B pc = .ok (.invokevirtual idx, 3)) (hS : S = argsL.reverse ++ .ref a :: rest) (hlen : argsL.length = ps.length) (ha : (.ref a :: argsL).toArray = as') (hml : Ls.length = ml) (K : ∀ v h' vm', Q' v h' vm' → Km P' h h' → ∃ J1 : Vm → Prop, J1 vm' ∧ Tb J1 ∧ Kd true p l e R s m args below meth c P Q J1 h' (k + rm.cells) (n + rm.slots) (oF m (pc + 3) Ls (v.toList ++ rest))) (hy : z0.cls ≠ "java/lang/invoke/MethodHandle" ∧ z0.cls ≠ "java/lang/invoke/VarHandle" := by decide) (hP : ∀ a, s.heap.size ≤ h.size → P' a → P a := by exact fun a q r => C.new a (Nat.le_trans q r)) (hf : rm.frames + 1 ≤ R.frames := by decide) (hl : (rest.map fun v => v.category).sum + (ml' + 11) + rm.locals ≤ R.locals := by exact Nat.le_of_ble_eq_true rfl) (hk : k + rm.cells ≤ R.cells := by decide) (hn : n + rm.slots ≤ R.slots := by decide) : Kd true p l e R s m args below meth c P Q J h k n (oF m pc Ls S) := fun T hT => by
 obtain ⟨hE, hle, -⟩ := HA.old C hT
 obtain ⟨vm0, k0, locs, ck, cn, X, eT, N, q1, q2, hSi, hk0, hbv, hJ⟩ := hT
 subst hS
 have C' := C.rebase hSi
 obtain ⟨cq, kq, qa, qb, qc⟩ := isOf C'.hZ eT E
 obtain ⟨v, vm₁, ⟨T', L', k', n'⟩, -, X', hS2, hgr, ⟨Lc, ⟨hQ, hN, hK⟩, e1, e2, e3⟩, st⟩ := X.virtualBackS C.1 (y := z0) (z := z) C'.own (mvT C'.hZ w1) (mvT C'.hZ wd) (nf _ C'.hZ) (mvT C'.hZ ws) (mvT C'.hZ w2) hy (HC (W := (rest.map fun v => v.category).sum) M hE C'.hZ w4 w3 hf hl) qa qc (g := oF m pc Ls (argsL.reverse ++ .ref a :: rest)) rfl (by rw [C.hml]; exact hml) (Steps.refl _) (argsL := argsL) (rest := rest) (lenOf hpd hlen) rfl (by show 2 * 0 + _ ≤ _; exact Nat.le_of_eq (Nat.zero_add _)) (hb C.2.1 hd) (fun vm₁ hw₁ => ⟨ha, eT, by show ck + _ ≤ _; omega, by show cn + _ ≤ _; omega, hJJ _ (hJ.2 (s.setVm vm0) _ hJ.1 hw₁)⟩)
 dsimp only [Pt.U, Pt.locs, Pt.cells, Pt.slots] at X' hS2 hgr e1 e2 e3 st hQ hK
 subst e1 e2 e3
 obtain ⟨J1, j1, j2, K1⟩ := K v T'.heap T'.vm hQ hK
 obtain ⟨u, o, g1, g2⟩ := K1 T' ⟨T'.vm, T'.heap.size, _, _, _, X', rfl, N.app fun q hq => hP _ hle (hN q hq), by omega, by omega, foldS hSi (by rw [eT]; exact hk0) hS2 hgr, Nat.le_refl _, (fun q => nomatch q), j1, j2⟩
 exact ⟨u, o, st.trans g1, g2⟩
theorem QF {Cn : String} {z : MethodName} (w : (Jvm.Cond.selects Cn z z).before a0 Z = true) : ∀ s' : State, Z.Warmed39 s'.vm → NotFace s' z := fun _ hZ => notFace_of_selects (args := #[]) (mvT hZ w)
theorem YE (C : Q0 p s m meth c P Z y B ml rt) {R0 O f d Cn : String} {idx kk : Nat} {ty : FieldType} {a : Addr} {v v' old : Value} (w : (Jvm.Cond.fieldLink y.cls idx R0 f d).before a0 Z = true) (via : Via Z R0 O f d) (F : Fld Z h a O f d old) (E : Exa Z h a Cn) (L : (Jvm.Cond.lays Cn O f d).before a0 Z = true ∨ ((Jvm.Cond.laysFinal Cn O f d).before a0 Z = true ∧ y.cls = O ∧ y.name = "<init>")) (wi : (Jvm.Cond.instantiable Cn kk).before a0 Z = true)
  (hty : parseFieldDescriptor d = some ty) (hnv : narrow ty v = v') (hf : fits ty v' = true) (hP : P a) (hd : decode B pc = .ok (.putfield idx, 3)) (K : ∀ h', Wr h h' a (RoadKit.slotOf Z O f d) v' → Kd b p l e R s m args below meth c P Q J h' k n (oF m (pc + 3) Ls S)) : Kd b p l e R s m args below meth c P Q J h k n (oF m pc Ls (v :: .ref a :: S)) := fun T hT => by
 obtain ⟨vm0, k0, locs, ck, cn, X, eT, N, q1, q2, hS, hk0, hbv, hJ⟩ := hT
 have C' := C.rebase hS
 obtain ⟨T', h', X', e', Wr1, st⟩ := putFN X C.1 C'.hZ C'.own w via eT F E (L.imp id fun q => ⟨q.1, q.2.1, C.nm.trans q.2.2⟩) wi hty hnv hf (g := oF m pc Ls (v :: .ref a :: S)) rfl rfl (hb C.2.1 hd)
 obtain ⟨u, o, g1, g2⟩ := K h' Wr1 T' ⟨vm0, k0, _, ck, cn, X', e', N.snoc hP, q1, q2, hS, by rw [Wr1.size]; exact hk0, hbv, hJ⟩
 exact ⟨u, o, st u g1, g2⟩
theorem Qe (C : Q0 p s m meth c P Z y B ml rt) {idx : Nat} {a : Addr} {Cn : String} (w : (Jvm.Cond.classLink y.cls idx Cn).before a0 Z = true) (F : Ins Z h a Cn true) (hd : decode B pc = .ok (.checkcast idx, 3)) (K : Kd b p l e R s m args below meth c P Q J h k n (oF m (pc + 3) Ls (.ref a :: S))) : Kd b p l e R s m args below meth c P Q J h k n (oF m pc Ls (.ref a :: S)) := K.law C fun _ C T _ _ _ X eT => castY X C.1 C.hZ C.own w eT F (g := oF m pc Ls (.ref a :: S)) rfl rfl (hb C.2.1 hd)
theorem RX (C : Q0 p s m meth c P Z y B ml rt) {idx : Nat} {a : Addr} {Cn : String} (w : (Jvm.Cond.classLink y.cls idx Cn).before a0 Z = true) (F : Ins Z h a Cn true) (hd : decode B pc = .ok (.instanceof idx, 3)) (K : Kd b p l e R s m args below meth c P Q J h k n (oF m (pc + 3) Ls (.int 1 :: S))) : Kd b p l e R s m args below meth c P Q J h k n (oF m pc Ls (.ref a :: S)) := K.law C fun _ C T _ _ _ X eT => instY X C.1 C.hZ C.own w eT F (g := oF m pc Ls (.ref a :: S)) rfl rfl (hb C.2.1 hd)
theorem Jw (C : Q0 p s m meth c P Z y B ml rt) {a : Addr} {cl : Cell} {j : Int32} {v : Value} (A : Arr Z h a cl .int) (hj : ¬ (j < 0 ∨ cl.slots.size ≤ j.toNatClampNeg)) (hv : cl.slots[j.toNatClampNeg]? = some v) (hd : decode B pc = .ok (.iaload, 1)) (K : Kd b p l e R s m args below meth c P Q J h k n (oF m (pc + 1) Ls (v :: S))) : Kd b p l e R s m args below meth c P Q J h k n (oF m pc Ls (.int j :: .ref a :: S)) := K.law C fun _ C T _ _ _ X eT => ⟨T, X, eT, X.iaload C.1 (by rw [eT]; exact A.1) (State.isArrayOf_alike C.hZ.alike A.2.1) A.2.2 hj hv (g := oF m pc Ls (.int j :: .ref a :: S)) rfl rfl (hb C.2.1 hd)⟩
theorem Jy (C : Q0 p s m meth c P Z y B ml rt) {a : Addr} {cl : Cell} {j : Int32} {v : Value} (A : Arr Z h a cl .long) (hj : ¬ (j < 0 ∨ cl.slots.size ≤ j.toNatClampNeg)) (hv : cl.slots[j.toNatClampNeg]? = some v) (hd : decode B pc = .ok (.laload, 1)) (K : Kd b p l e R s m args below meth c P Q J h k n (oF m (pc + 1) Ls (v :: S))) : Kd b p l e R s m args below meth c P Q J h k n (oF m pc Ls (.int j :: .ref a :: S)) := K.law C fun _ C T _ _ _ X eT => ⟨T, X, eT, X.laload C.1 (by rw [eT]; exact A.1) (State.isArrayOf_alike C.hZ.alike A.2.1) A.2.2 hj hv (g := oF m pc Ls (.int j :: .ref a :: S)) rfl rfl (hb C.2.1 hd)⟩
theorem RF (C : Q0 p s m meth c P Z y B ml rt) {a : Addr} {cl : Cell} {j : Int32} {v : Value} (A : Arr Z h a cl .byte) (hj : ¬ (j < 0 ∨ cl.slots.size ≤ j.toNatClampNeg)) (hv : cl.slots[j.toNatClampNeg]? = some v) (hd : decode B pc = .ok (.baload, 1)) (K : Kd b p l e R s m args below meth c P Q J h k n (oF m (pc + 1) Ls (v :: S))) : Kd b p l e R s m args below meth c P Q J h k n (oF m pc Ls (.int j :: .ref a :: S)) := K.law C fun _ C T _ _ _ X eT => ⟨T, X, eT, X.baloadBytes C.1 (by rw [eT]; exact A.1) (State.isArrayOf_alike C.hZ.alike A.2.1) A.2.2 hj hv (g := oF m pc Ls (.int j :: .ref a :: S)) rfl rfl (hb C.2.1 hd)⟩
theorem RL (C : Q0 p s m meth c P Z y B ml rt) {a : Addr} {cl : Cell} {ty : FieldType} {j : Int32} {v : Value} (A : Arr Z h a cl ty) (hty : ty.isReference = true) (hj : ¬ (j < 0 ∨ cl.slots.size ≤ j.toNatClampNeg)) (hv : cl.slots[j.toNatClampNeg]? = some v) (hd : decode B pc = .ok (.aaload, 1)) (K : Kd b p l e R s m args below meth c P Q J h k n (oF m (pc + 1) Ls (v :: S))) : Kd b p l e R s m args below meth c P Q J h k n (oF m pc Ls (.int j :: .ref a :: S)) := K.law C fun _ C T _ _ _ X eT => ⟨T, X, eT, X.aaload C.1 (by rw [eT]; exact A.1) (State.isArrayOf_alike C.hZ.alike A.2.1) hty A.2.2 hj hv (g := oF m pc Ls (.int j :: .ref a :: S)) rfl rfl (hb C.2.1 hd)⟩
theorem GI (C : Q0 p s m meth c P Z y B ml rt) {a : Addr} {cl : Cell} {ty : FieldType} (A : Arr Z h a cl ty) (hd : decode B pc = .ok (.arraylength, 1)) (K : Kd b p l e R s m args below meth c P Q J h k n (oF m (pc + 1) Ls (.int cl.slots.size.toInt32 :: S))) : Kd b p l e R s m args below meth c P Q J h k n (oF m pc Ls (.ref a :: S)) := K.law C fun _ C T _ _ _ X eT => ⟨T, X, eT, X.arraylength C.1 (by rw [eT]; exact A.1) (State.isArrayOf_alike C.hZ.alike A.2.1) (g := oF m pc Ls (.ref a :: S)) rfl rfl (hb C.2.1 hd)⟩
theorem J8 (C : Q0 p s m meth c P Z y B ml rt) {a : Addr} {cl : Cell} {j : Int32} {x : Int32} (A : Arr Z h a cl .int) (hj : ¬ (j < 0 ∨ cl.slots.size ≤ j.toNatClampNeg)) (hP : P a) (hd : decode B pc = .ok (.iastore, 1)) (K : ∀ h', Wr h h' a j.toNatClampNeg (.int x) → Kd b p l e R s m args below meth c P Q J h' k n (oF m (pc + 1) Ls S)) : Kd b p l e R s m args below meth c P Q J h k n (oF m pc Ls (.int x :: .int j :: .ref a :: S)) := fun T hT => by
 obtain ⟨vm0, k0, locs, ck, cn, X, eT, N, q1, q2, hS, hk0, hbv, hJ⟩ := hT
 have C' := C.rebase hS
 obtain ⟨T', h', X', e', Wr1, st⟩ := stI X C.1 C'.hZ eT A hj (g := oF m pc Ls (.int x :: .int j :: .ref a :: S)) rfl rfl (hb C.2.1 hd)
 obtain ⟨u, o, g1, g2⟩ := K h' Wr1 T' ⟨vm0, k0, _, ck, cn, X', e', N.snoc hP, q1, q2, hS, by rw [Wr1.size]; exact hk0, hbv, hJ⟩
 exact ⟨u, o, st u g1, g2⟩
theorem J0 (C : Q0 p s m meth c P Z y B ml rt) {a : Addr} {cl : Cell} {j : Int32} {x : Int32} (A : Arr Z h a cl .byte) (hj : ¬ (j < 0 ∨ cl.slots.size ≤ j.toNatClampNeg)) (hP : P a) (hd : decode B pc = .ok (.bastore, 1)) (K : ∀ h', Wr h h' a j.toNatClampNeg (.int (nar .byte x)) → Kd b p l e R s m args below meth c P Q J h' k n (oF m (pc + 1) Ls S)) : Kd b p l e R s m args below meth c P Q J h k n (oF m pc Ls (.int x :: .int j :: .ref a :: S)) := fun T hT => by
 obtain ⟨vm0, k0, locs, ck, cn, X, eT, N, q1, q2, hS, hk0, hbv, hJ⟩ := hT
 have C' := C.rebase hS
 obtain ⟨T', h', X', e', Wr1, st⟩ := stB X C.1 C'.hZ eT A hj (g := oF m pc Ls (.int x :: .int j :: .ref a :: S)) rfl rfl (hb C.2.1 hd)
 obtain ⟨u, o, g1, g2⟩ := K h' Wr1 T' ⟨vm0, k0, _, ck, cn, X', e', N.snoc hP, q1, q2, hS, by rw [Wr1.size]; exact hk0, hbv, hJ⟩
 exact ⟨u, o, st u g1, g2⟩
theorem J6 (C : Q0 p s m meth c P Z y B ml rt) {a : Addr} {cl : Cell} {j : Int32} {x : Int64} (A : Arr Z h a cl .long) (hj : ¬ (j < 0 ∨ cl.slots.size ≤ j.toNatClampNeg)) (hP : P a) (hd : decode B pc = .ok (.lastore, 1)) (K : ∀ h', Wr h h' a j.toNatClampNeg (.long x) → Kd b p l e R s m args below meth c P Q J h' k n (oF m (pc + 1) Ls S)) : Kd b p l e R s m args below meth c P Q J h k n (oF m pc Ls (.long x :: .int j :: .ref a :: S)) := fun T hT => by
 obtain ⟨vm0, k0, locs, ck, cn, X, eT, N, q1, q2, hS, hk0, hbv, hJ⟩ := hT
 have C' := C.rebase hS
 obtain ⟨T', h', X', e', Wr1, st⟩ := stJ X C.1 C'.hZ eT A hj (g := oF m pc Ls (.long x :: .int j :: .ref a :: S)) rfl rfl (hb C.2.1 hd)
 obtain ⟨u, o, g1, g2⟩ := K h' Wr1 T' ⟨vm0, k0, _, ck, cn, X', e', N.snoc hP, q1, q2, hS, by rw [Wr1.size]; exact hk0, hbv, hJ⟩
 exact ⟨u, o, st u g1, g2⟩
end OwnKit
section OwnKit3
theorem Xi {args : Array Value} {s : State} {t : Term} {k : Int32} (h : (Jvm.Cond.eq t (.int k)).value args s none s [] = some true) : t.eval args s none [] s = some (.int k) := by
 obtain ⟨x, y, hx, hy, hk, -⟩ := cmp_v (Or.inl h)
 cases (Term.int_eval k).symm.trans hy
 cases x with
 | int z => simp [Cond.value, hx, Term.int_eval] at h; rw [hx, h]
 | _ => simp [Kin, Value.isRef] at hk
theorem Lj {args : Array Value} {s : State} {t u : Term} {w : Addr} (h : (Jvm.Cond.eq t u).value args s none s [] = some true) (hu : u.eval args s none [] s = some (.ref w)) : t.eval args s none [] s = some (.ref w) := by
 obtain ⟨x, y, hx, hy, hk, -⟩ := cmp_v (Or.inl h)
 cases hu.symm.trans hy
 cases x with
 | ref z => simp [Cond.value, hx, hu] at h; rw [hx, h]
 | null => simp [Cond.value, hx, hu] at h
 | _ => simp [Kin, Value.isRef] at hk
theorem T0 (x : Int32) (q : Nat) (hq : 0 < q) (hq2 : q < 2 ^ 31) : ∃ i : Nat, i < q ∧ (x &&& 2147483647) % Int32.ofNat q = Int32.ofNat i := by
 have e1 : (x &&& 2147483647).toInt = x.toInt % 2 ^ 31 := Jvm.Kit.i32_mask x 2147483647 (k := 31) (by decide) (by decide)
 have hb : 0 ≤ (x &&& 2147483647).toInt := by rw [e1]; exact Int.emod_nonneg _ (by decide)
 have e2 : (Int32.ofNat q).toInt = q := Int32.toInt_ofNat_of_lt hq2
 have e3 : ((x &&& 2147483647) % Int32.ofNat q).toInt = (x &&& 2147483647).toInt % q := by
  rw [Int32.toInt_mod, e2, Int.tmod_eq_emod_of_nonneg hb]
 refine ⟨((x &&& 2147483647).toInt % q).toNat, ?_, ?_⟩
 ·have := Int.emod_lt_of_pos (x &&& 2147483647).toInt (b := (q : Int)) (by omega)
  have := Int.emod_nonneg (x &&& 2147483647).toInt (b := (q : Int)) (by omega)
  omega
 ·apply Int32.toInt_inj.mp
  have h1 := Int.emod_lt_of_pos (x &&& 2147483647).toInt (b := (q : Int)) (by omega)
  have h2 := Int.emod_nonneg (x &&& 2147483647).toInt (b := (q : Int)) (by omega)
  rw [e3, Int32.toInt_ofNat_of_lt (by omega)]
  omega
theorem Ki.tr {h1 h2 h3 : Heap} (a : Ext h1 h2) (b : Ext h2 h3) : Ext h1 h3 := ⟨Nat.le_trans a.1 b.1, fun x c q => b.2 x c (a.2 x c q)⟩
theorem WO {args : Array Value} {s : State} {t : Term} {k : Int64} (h : (Jvm.Cond.eq t (.long k)).value args s none s [] = some true) : t.eval args s none [] s = some (.long k) := by
 obtain ⟨x, y, hx, hy, hk, -⟩ := cmp_v (Or.inl h)
 have e : (Term.long k).eval args s none [] s = some (.long k) := rfl
 cases e.symm.trans hy
 cases x with
 | long z => simp [Cond.value, hx, e] at h; rw [hx, h]
 | _ => simp [Kin, Value.isRef] at hk
theorem Ya {args : Array Value} {s : State} {t : Term} {a : Addr} {c : Cell} {ty : FieldType} {z : Int32} (ea : t.eval args s none [] s = some (.ref a)) (A : Arr s s.heap a c ty) (h : (Jvm.Cond.eq (Term.length t) (.int z)).value args s none s [] = some true) : c.slots.size = z.toInt.toNat := by
 have h1 := Xi h
 have h2 := Arr.fin (State.Warmed39.refl s).alike A
 simp only [Term.eval, ea, h2, Option.bind_eq_bind, Option.bind_some] at h1
 split at h1
 ·rename_i hlt
  cases h1
  rw [len_toInt hlt]; simp
 ·cases h1
end OwnKit3
section OwnArr
variable {b : Bool} {p : Program} {l : Launch} {e : Env} {R : Room} {s : State} {m : MethodId} {args : Array Value} {below : List Frame} {meth : Method} {c : Code} {P : Addr → Prop} {Q : Option Value → Heap → Vm → Prop} {J : Vm → Prop} {h : Heap} {k n : Nat} {Z : State} {a0 : Array Value} {y : MethodName} {B : ByteArray} {ml : Nat} {rt : Option FieldType}
variable (pc : Nat) {Ls : List Slot} {S : List Value} {h' : Heap} {a : Addr} {ty : FieldType} {vs : List Value} {i : Nat} {j : Int32}
def Kv (Z : State) (h : Heap) (a : Addr) (ty : FieldType) (vs : List Value) : Prop := ∃ c : Cell, Arr Z h a c ty ∧ c.slots = Array.mk vs
theorem Kv.lt (A : Kv Z h a ty vs) : a < h.size := by obtain ⟨c, A, -⟩ := A; exact A.lt
theorem Kv.ext (A : Kv Z h a ty vs) (E : Ext h h') : Kv Z h' a ty vs := by obtain ⟨c, A, e⟩ := A; exact ⟨c, A.ext E, e⟩
theorem Kv.kp (A : Kv Z h a ty vs) (K : Km P h h') (q : ¬ P a) : Kv Z h' a ty vs := by obtain ⟨c, A, e⟩ := A; exact ⟨c, K.arr A q, e⟩
theorem Kv.other {b : Addr} {sl : Nat} {v : Value} (A : Kv Z h a ty vs) (W : Wr h h' b sl v) (q : a ≠ b) : Kv Z h' a ty vs := by obtain ⟨c, A, e⟩ := A; exact ⟨c, A.other W q, e⟩
theorem Kv.same {v : Value} (A : Kv Z h a ty vs) (W : Wr h h' a i v) : Kv Z h' a ty (vs.set i v) := by
 obtain ⟨c, A, e⟩ := A
 refine ⟨_, A.same W, ?_⟩
 show c.slots.setIfInBounds i v = _
 rw [e]; simp
theorem Kv.new {cA : ClassId} {z : Int32} (A : Arr Z h a (newA cA ty z) ty) : Kv Z h a ty (List.replicate z.toNatClampNeg (defaultValue ty)) := ⟨_, A, by
 apply Array.ext'
 simp [newA]⟩
theorem Kv.eq {vs' : List Value} (A : Kv Z h a ty vs) (q : vs = vs') : Kv Z h a ty vs' := q ▸ A
theorem H8 {n : Nat} (hj : j.toInt = (i : Int)) (hi : i < n) : ¬ (j < 0 ∨ n ≤ j.toNatClampNeg) ∧ j.toNatClampNeg = i := by
 have e : j.toNatClampNeg = i := by simp only [Int32.toNatClampNeg, hj]; rfl
 refine ⟨fun q => ?_, e⟩
 rcases q with q | q
 ·rw [Int32.lt_iff_toInt_lt, hj] at q
  have : (0 : Int32).toInt = 0 := rfl
  omega
 ·omega
theorem C2 {v : Value} (hv : vs[i]? = some v) : i < vs.length := (List.getElem?_eq_some_iff.mp hv).1
theorem Kl (C : Q0 p s m meth c P Z y B ml rt) {v : Value} (i : Nat) (A : Kv Z h a .int vs) (hj : j.toInt = (i : Int)) (hv : vs[i]? = some v) (hd : decode B pc = .ok (.iaload, 1)) (K : Kd b p l e R s m args below meth c P Q J h k n (oF m (pc + 1) Ls (v :: S))) : Kd b p l e R s m args below meth c P Q J h k n (oF m pc Ls (.int j :: .ref a :: S)) := by
 obtain ⟨cl, A, e⟩ := A
 have q := H8 (n := cl.slots.size) hj (by rw [e]; exact C2 hv)
 exact Jw _ C A q.1 (by rw [q.2, e]; simpa using hv) hd K
theorem Q8 (C : Q0 p s m meth c P Z y B ml rt) {v : Value} (i : Nat) (A : Kv Z h a .long vs) (hj : j.toInt = (i : Int)) (hv : vs[i]? = some v) (hd : decode B pc = .ok (.laload, 1)) (K : Kd b p l e R s m args below meth c P Q J h k n (oF m (pc + 1) Ls (v :: S))) : Kd b p l e R s m args below meth c P Q J h k n (oF m pc Ls (.int j :: .ref a :: S)) := by
 obtain ⟨cl, A, e⟩ := A
 have q := H8 (n := cl.slots.size) hj (by rw [e]; exact C2 hv)
 exact Jy _ C A q.1 (by rw [q.2, e]; simpa using hv) hd K
theorem QV (C : Q0 p s m meth c P Z y B ml rt) {v : Value} (i : Nat) (A : Kv Z h a .byte vs) (hj : j.toInt = (i : Int)) (hv : vs[i]? = some v) (hd : decode B pc = .ok (.baload, 1)) (K : Kd b p l e R s m args below meth c P Q J h k n (oF m (pc + 1) Ls (v :: S))) : Kd b p l e R s m args below meth c P Q J h k n (oF m pc Ls (.int j :: .ref a :: S)) := by
 obtain ⟨cl, A, e⟩ := A
 have q := H8 (n := cl.slots.size) hj (by rw [e]; exact C2 hv)
 exact RF _ C A q.1 (by rw [q.2, e]; simpa using hv) hd K
theorem XM (C : Q0 p s m meth c P Z y B ml rt) {v : Value} (i : Nat) (A : Kv Z h a ty vs) (hty : ty.isReference = true) (hj : j.toInt = (i : Int)) (hv : vs[i]? = some v) (hd : decode B pc = .ok (.aaload, 1)) (K : Kd b p l e R s m args below meth c P Q J h k n (oF m (pc + 1) Ls (v :: S))) : Kd b p l e R s m args below meth c P Q J h k n (oF m pc Ls (.int j :: .ref a :: S)) := by
 obtain ⟨cl, A, e⟩ := A
 have q := H8 (n := cl.slots.size) hj (by rw [e]; exact C2 hv)
 exact RL _ C A hty q.1 (by rw [q.2, e]; simpa using hv) hd K
theorem KZ (C : Q0 p s m meth c P Z y B ml rt) (A : Kv Z h a ty vs) (hd : decode B pc = .ok (.arraylength, 1)) (K : Kd b p l e R s m args below meth c P Q J h k n (oF m (pc + 1) Ls (.int (Int32.ofNat vs.length) :: S))) : Kd b p l e R s m args below meth c P Q J h k n (oF m pc Ls (.ref a :: S)) := by
 obtain ⟨cl, A, e⟩ := A
 refine GI _ C A hd ?_
 rw [e]; exact K
theorem QX (C : Q0 p s m meth c P Z y B ml rt) {x : Int32} (i : Nat) (A : Kv Z h a .int vs) (hj : j.toInt = (i : Int)) (hi : i < vs.length) (hP : P a) (hd : decode B pc = .ok (.iastore, 1)) (K : ∀ h', Wr h h' a i (.int x) → Kv Z h' a .int (vs.set i (.int x)) → Kd b p l e R s m args below meth c P Q J h' k n (oF m (pc + 1) Ls S)) : Kd b p l e R s m args below meth c P Q J h k n (oF m pc Ls (.int x :: .int j :: .ref a :: S)) := by
 obtain ⟨cl, A, e⟩ := A
 have q := H8 (n := cl.slots.size) hj (by rw [e]; exact hi)
 refine J8 _ C A q.1 hP hd fun h' Wr1 => ?_
 rw [q.2] at Wr1
 exact K h' Wr1 (Kv.same ⟨cl, A, e⟩ Wr1)
theorem QD (C : Q0 p s m meth c P Z y B ml rt) {x : Int32} (i : Nat) (A : Kv Z h a .byte vs) (hj : j.toInt = (i : Int)) (hi : i < vs.length) (hP : P a) (hd : decode B pc = .ok (.bastore, 1)) (K : ∀ h', Wr h h' a i (.int (nar .byte x)) → Kv Z h' a .byte (vs.set i (.int (nar .byte x))) → Kd b p l e R s m args below meth c P Q J h' k n (oF m (pc + 1) Ls S)) : Kd b p l e R s m args below meth c P Q J h k n (oF m pc Ls (.int x :: .int j :: .ref a :: S)) := by
 obtain ⟨cl, A, e⟩ := A
 have q := H8 (n := cl.slots.size) hj (by rw [e]; exact hi)
 refine J0 _ C A q.1 hP hd fun h' Wr1 => ?_
 rw [q.2] at Wr1
 exact K h' Wr1 (Kv.same ⟨cl, A, e⟩ Wr1)
theorem Xj (C : Q0 p s m meth c P Z y B ml rt) {x : Int64} (i : Nat) (A : Kv Z h a .long vs) (hj : j.toInt = (i : Int)) (hi : i < vs.length) (hP : P a) (hd : decode B pc = .ok (.lastore, 1)) (K : ∀ h', Wr h h' a i (.long x) → Kv Z h' a .long (vs.set i (.long x)) → Kd b p l e R s m args below meth c P Q J h' k n (oF m (pc + 1) Ls S)) : Kd b p l e R s m args below meth c P Q J h k n (oF m pc Ls (.long x :: .int j :: .ref a :: S)) := by
 obtain ⟨cl, A, e⟩ := A
 have q := H8 (n := cl.slots.size) hj (by rw [e]; exact hi)
 refine J6 _ C A q.1 hP hd fun h' Wr1 => ?_
 rw [q.2] at Wr1
 exact K h' Wr1 (Kv.same ⟨cl, A, e⟩ Wr1)
end OwnArr
section OwnStr
theorem Xk (i : Nat) (h : i < 2 ^ 31) : (Int32.ofNat i).toInt = i := Int32.toInt_ofNat_of_lt h
theorem GR {i n : Nat} (hi : i < 2 ^ 31) (hn : n < 2 ^ 31) : (Int32.ofNat i < Int32.ofNat n) ↔ i < n := by
 rw [Int32.lt_iff_toInt_lt, Xk i hi, Xk n hn]; omega
theorem Td {i n : Nat} (hi : i < 2 ^ 31) (hn : n < 2 ^ 31) : (Int32.ofNat i = Int32.ofNat n) ↔ i = n := by
 constructor
 ·intro q
  have := congrArg Int32.toInt q
  rw [Xk i hi, Xk n hn] at this; omega
 ·intro q; rw [q]
theorem J5 (i : Nat) : Int32.ofNat i + 1 = Int32.ofNat (i + 1) := (Int32.ofNat_add i 1).symm
def XW (u : Int32) : Prop := 0 ≤ u.toInt ∧ u.toInt < 65536
def QG (u : Int32) : Prop := ¬ (255 : Int32) < u
def Xw (u : Int32) : Int32 := u.toInt8.toInt32
def EG (u : Int32) : Int32 := (u >>> ((8 : Int32) &&& 31)).toInt8.toInt32
abbrev QW (u : Int32) : Value := .int (Xw u)
abbrev Lh (u : Int32) : List Value := [.int (Xw u), .int (EG u)]
def CM (us : List Int32) (cd : Int32) (bs : List Value) : Prop :=
 (cd = 0 ∧ (∀ u ∈ us, QG u) ∧ bs = us.map QW) ∨ (cd = 1 ∧ (∃ u ∈ us, ¬ QG u) ∧ bs = us.flatMap Lh)
def Xo (Z : State) (h : Heap) (a : Addr) (us : List Int32) : Prop :=
 Exa Z h a "java/lang/String" ∧ (∀ u ∈ us, XW u) ∧ ∃ (b : Addr) (cd : Int32) (bs : List Value), Fld Z h a "java/lang/String" "value" "[B" (.ref b) ∧ Fld Z h a "java/lang/String" "coder" "B" (.int cd) ∧ Kv Z h b .byte bs ∧ CM us cd bs
theorem Xo.ext {Z : State} {h h' : Heap} {a : Addr} {us : List Int32} (F : Xo Z h a us) (E : Ext h h') : Xo Z h' a us := by
 obtain ⟨X, c, b, cd, bs, f1, f2, A, e⟩ := F
 exact ⟨X.ext E, c, b, cd, bs, f1.ext E, f2.ext E, A.ext E, e⟩
def Gx (Z : State) (h : Heap) (v : Value) (us : List Int32) : Prop := v = .null ∨ ∃ a, v = .ref a ∧ Xo Z h a us
theorem Gx.ext {Z : State} {h h' : Heap} {v : Value} {us : List Int32} (F : Gx Z h v us) (E : Ext h h') : Gx Z h' v us := F.imp id fun ⟨a, e, q⟩ => ⟨a, e, q.ext E⟩
theorem Gx.ref {Z : State} {h : Heap} {v : Value} {us : List Int32} (F : Gx Z h v us) : v.isRef = true := by
 rcases F with rfl | ⟨a, rfl, -⟩ <;> rfl
theorem T6 {u w : Int32} (hu : XW u) (hw : XW w) (su : QG u) (sw : QG w) (e : Xw u = Xw w) : u = w := by
 have e1 : (Xw u).toInt = (Xw w).toInt := by rw [e]
 simp only [Xw, Int8.toInt_toInt32, Int32.toInt_toInt8] at e1
 have a1 : ¬ (255 : Int) < u.toInt := fun q => su (by rw [Int32.lt_iff_toInt_lt]; exact q)
 have a2 : ¬ (255 : Int) < w.toInt := fun q => sw (by rw [Int32.lt_iff_toInt_lt]; exact q)
 apply Int32.toInt_inj.mp
 obtain ⟨h1, h2⟩ := hu
 obtain ⟨h3, h4⟩ := hw
 rw [Int.bmod_def, Int.bmod_def] at e1
 omega
end OwnStr
section OwnStr2
theorem Hl {us ws : List Int32} (hu : ∀ u ∈ us, XW u) (hw : ∀ u ∈ ws, XW u) (su : ∀ u ∈ us, QG u) (sw : ∀ u ∈ ws, QG u) : us.map Xw = ws.map Xw ↔ us = ws := by
 refine ⟨fun q => ?_, fun q => by rw [q]⟩
 induction us generalizing ws with
 | nil => cases ws with
  | nil => rfl
  | cons w t => simp at q
 | cons u t ih => cases ws with
  | nil => simp at q
  | cons w t' =>
   simp only [List.map_cons, List.cons.injEq] at q
   rw [T6 (hu u (by simp)) (hw w (by simp)) (su u (by simp)) (sw w (by simp)) q.1, ih (fun x hx => hu x (by simp [hx])) (fun x hx => hw x (by simp [hx])) (fun x hx => su x (by simp [hx])) (fun x hx => sw x (by simp [hx])) q.2]
theorem Xo.inj {Z : State} {h : Heap} {a : Addr} {us ws : List Int32} (F : Xo Z h a us) (G : Xo Z h a ws) (su : ∀ u ∈ us, QG u) (sw : ∀ u ∈ ws, QG u) : us = ws := by
 obtain ⟨-, hu, b1, c1, l1, V1, -, A1, e1⟩ := F
 obtain ⟨-, hw, b2, c2, l2, V2, -, A2, e2⟩ := G
 obtain ⟨-, -, rfl⟩ := e1.resolve_right (fun q => by obtain ⟨u, q1, q2⟩ := q.2.1; exact q2 (su u q1))
 obtain ⟨-, -, rfl⟩ := e2.resolve_right (fun q => by obtain ⟨u, q1, q2⟩ := q.2.1; exact q2 (sw u q1))
 have e : b1 = b2 := by
  obtain ⟨k1, _, _, _, _, p1, p2, -, -, -, -, p7⟩ := V1
  obtain ⟨k2, _, _, _, _, r1, r2, -, -, -, -, r7⟩ := V2
  cases p1.symm.trans r1; cases p2.symm.trans r2
  exact Value.ref.inj (Option.some.inj (p7.symm.trans r7))
 subst e
 obtain ⟨k1, ⟨p1, -⟩, p2⟩ := A1
 obtain ⟨k2, ⟨r1, -⟩, r2⟩ := A2
 cases p1.symm.trans r1
 have e3 := congrArg Array.toList (p2.symm.trans r2)
 have e4 : us.map Xw = ws.map Xw := by
  have e5 : (us.map Xw).map Value.int = (ws.map Xw).map Value.int := by rw [List.map_map, List.map_map]; exact e3
  exact (List.map_inj_right (fun x y q => Value.int.inj q)).mp e5
 exact (Hl hu hw su sw).mp e4
end OwnStr2
section OwnLit
variable {p : Program} {l : Launch} {e : Env} {R : Room} {s : State} {m : MethodId} {args : Array Value} {below : List Frame} {meth : Method} {c : Code} {P : Addr → Prop} {Q : Option Value → Heap → Vm → Prop} {J : Vm → Prop} {Z : State} {y : MethodName} {B : ByteArray} {ml : Nat} {rt : Option FieldType} {b : Bool} {h h' : Heap} {k n : Nat} (pc : Nat) {Ls : List Slot} {S : List Value} {a0 : Array Value} {EL : List (String × Nat)} {xs : List Addr} {vm : Vm}
def oH (Z : State) (EL : List (String × Nat)) (h : Heap) (xs : List Addr) : Vm → Prop := fun vm => Z.Warmed39 vm ∧ CHv Z EL vm h ∧ ∀ x ∈ xs, x < h.size ∧ Safe Z EL vm h x
theorem oH.js (w : EW Z a0 EL) : Tb (oH Z EL h xs) := fun s vm' hJ hw => by
 obtain ⟨hZ, H, hx⟩ := hJ
 have q := CHv.later (h' := h) hZ (hW := (show (Wst Z s.vm h).Warmed39 vm' from hw.wide)) w ⟨Nat.le_refl _, fun _ _ q => q⟩ (Or.inl hw.interned_eq) H
 exact ⟨State.Warmed39.trans hZ hw.wide, q.1, fun x hm => ⟨(hx x hm).1, fun Bx => (q.2 x Bx).elim (hx x hm).2 fun z => absurd (hx x hm).1 (Nat.not_lt.mpr z)⟩⟩
theorem oH.ext (E : Ext h h') (H : oH Z EL h xs vm) : oH Z EL h' xs vm := ⟨H.1, H.2.1.ext E, fun x hm => ⟨Nat.lt_of_lt_of_le (H.2.2 x hm).1 E.1, (H.2.2 x hm).2.ext E H.2.1⟩⟩
theorem oH.add {a : Addr} (E : Ext h h') (ha : a = h.size) (hl : a < h'.size) (H : oH Z EL h xs vm) : oH Z EL h' (a :: xs) vm := ⟨H.1, H.2.1.ext E, fun x hm => by
 rcases List.mem_cons.mp hm with rfl | hm
 ·exact ⟨hl, (Safe.new (Nat.le_of_eq ha.symm)).ext E H.2.1⟩
 ·exact (H.ext E).2.2 x hm⟩
theorem oH.sub {zs : List Addr} (q : ∀ x ∈ zs, x ∈ xs) (H : oH Z EL h xs vm) : oH Z EL h zs vm := ⟨H.1, H.2.1, fun x hm => H.2.2 x (q x hm)⟩
theorem oH.wrS {a : Addr} {sl : Nat} {v : Value} (W : Wr h h' a sl v) (S : Safe Z EL vm h a) (H : oH Z EL h xs vm) : oH Z EL h' xs vm := ⟨H.1, H.2.1.wr W S, fun x hm => ⟨by rw [W.size]; exact (H.2.2 x hm).1, Safe.wr W S H.2.1 (H.2.2 x hm).2⟩⟩
theorem oH.wr {a : Addr} {sl : Nat} {v : Value} (W : Wr h h' a sl v) (hm : a ∈ xs) (H : oH Z EL h xs vm) : oH Z EL h' xs vm := H.wrS W (H.2.2 a hm).2
theorem oH.kp {P : Addr → Prop} (K : Km P h h') (hP : ∀ x, P x → x ∈ xs ∨ h.size ≤ x) (H : oH Z EL h xs vm) : oH Z EL h' xs vm := by
 have q := H.2.1.step (h' := h') fun y By cell hy => by
  obtain ⟨c', e1, -, -, -, e5⟩ := K.2 y cell hy
  rw [e5 fun hPy => (hP y hPy).elim (fun z => (H.2.2 y z).2 By) (fun z => absurd (Array.getElem?_eq_some_iff.mp hy).1 (Nat.not_lt.mpr z))] at e1
  exact e1
 exact ⟨H.1, q.1, fun x hm => ⟨Nat.lt_of_lt_of_le (H.2.2 x hm).1 K.1, fun Bx => (H.2.2 x hm).2 (q.2 x Bx)⟩⟩
theorem Lo {g : JFrame} {J2 : Vm → Prop} (hJ : ∀ vm, J vm → J2 vm) (hs : Tb J2) (K : Kd b p l e R s m args below meth c P Q J2 h k n g) : Kd b p l e R s m args below meth c P Q J h k n g := fun T hT => by
 obtain ⟨vm0, k0, locs, ck, cn, X, eT, N, q1, q2, hS, hk0, hbv, hJ0, -⟩ := hT
 exact K T ⟨vm0, k0, locs, ck, cn, X, eT, N, q1, q2, hS, hk0, hbv, hJ _ hJ0, hs⟩
end OwnLit
section OwnLit2
variable {Z : State} {EL : List (String × Nat)} {h h' : Heap} {xs : List Addr} {vm : Vm}
theorem oH.kpX {P : Addr → Prop} (K : Km P h h') (hP : ∀ x, P x → (∃ Cn, Exa Z h x Cn ∧ Cn ≠ "java/lang/String" ∧ Cn ≠ "[B") ∨ h.size ≤ x) (H : oH Z EL h xs vm) : oH Z EL h' xs vm := by
 have q := H.2.1.step (h' := h') fun y By cell hy => by
  obtain ⟨c', e1, -, -, -, e5⟩ := K.2 y cell hy
  rw [e5 fun hPy => (hP y hPy).elim (fun ⟨Cn, X, n1, n2⟩ => Safe.exa H.1.alike X n1 n2 By) (fun z => absurd (Array.getElem?_eq_some_iff.mp hy).1 (Nat.not_lt.mpr z))] at e1
  exact e1
 exact ⟨H.1, q.1, fun x hm => ⟨Nat.lt_of_lt_of_le (H.2.2 x hm).1 K.1, fun Bx => (H.2.2 x hm).2 (q.2 x Bx)⟩⟩
theorem Xo.kpX {a q : Addr} {us : List Int32} {Cn : String} {a0 : Array Value} {kk : Nat} (F : Xo Z h a us) (X : Exa Z h q Cn) (hn : Cn ≠ "java/lang/String") (wi : (Jvm.Cond.instantiable Cn kk).before a0 Z = true) (K : Km (fun x => x = q ∨ h.size ≤ x) h h') : Xo Z h' a us := by
 obtain ⟨X1, c, b, cd, bs, f1, f2, A, e⟩ := F
 have ha : a < h.size := by
  obtain ⟨k, hk, -⟩ := X1.cell
  exact (Array.getElem?_eq_some_iff.mp hk).1
 have na : ¬ (a = q ∨ h.size ≤ a) := fun r => r.elim (fun z => (Exa.ne X1 X hn.symm) z) (fun z => absurd ha (Nat.not_lt.mpr z))
 have nb : ¬ (b = q ∨ h.size ≤ b) := fun r => r.elim (fun z => by obtain ⟨_, A, -⟩ := A; exact (ne_arr X wi A) z.symm) (fun z => absurd A.lt (Nat.not_lt.mpr z))
 exact ⟨K.exa X1, c, b, cd, bs, K.fld f1 na, K.fld f2 na, A.kp K nb, e⟩
end OwnLit2
section OwnD
variable {b : Bool} {p : Program} {l : Launch} {e : Env} {R : Room} {s : State} {m : MethodId} {args : Array Value} {below : List Frame} {meth : Method} {c : Code} {P : Addr → Prop} {Q : Option Value → Heap → Vm → Prop} {J : Vm → Prop} {h : Heap} {k n : Nat} {Z : State} {a0 : Array Value} {y : MethodName} {B : ByteArray} {ml : Nat} {rt : Option FieldType}
variable (pc : Nat) {Ls : List Slot} {S : List Value} {h' : Heap} {a : Addr} {ty : FieldType} {vs : List Value} {i : Nat} {j : Int32}
theorem AB {s : State} {args : Array Value} {C1 : String} {z z1 : MethodName} (ws : (Jvm.Cond.selects C1 z1 z1).before args s = true) (e : z1.cls = z.cls) (hp : s.PrivateAt z) (hi : (Jvm.Cond.instanceMethod z).before args s = true) (hy : z.cls ≠ "java/lang/invoke/MethodHandle" ∧ z.cls ≠ "java/lang/invoke/VarHandle") : (Jvm.Cond.selects z.cls z z).before args s = true := by
 obtain ⟨c2, r2, m2, q1, q2, q3, q4, kP, hkP, hkPi⟩ := Cond.selects_spec ws
 exact selects_self_of_private (by rw [← e]; exact findClass_of_methodNamed q3) hkP hkPi hp hi hy
def QB (Z : State) (z : MethodName) : Prop := ∀ (s : State) (args : Array Value), s.PrivateAt z → (Jvm.Cond.instanceMethod z).before args s = true → Z.Warmed39 s.vm → (z.cls ≠ "java/lang/invoke/MethodHandle" ∧ z.cls ≠ "java/lang/invoke/VarHandle") → (Jvm.Cond.selects z.cls z z).before args s = true
theorem QB.of {C1 : String} {z z1 : MethodName} (ws : (Jvm.Cond.selects C1 z1 z1).before a0 Z = true) (e : z1.cls = z.cls) : QB Z z := fun s args hp hi hZ hy => AB (mvT hZ ws) e hp hi hy
theorem Kf (C : Q0 p s m meth c P Z y B ml rt) {idx : Nat} {z : MethodName} {B' : ByteArray} {ml' : Nat} {rt' : Option FieldType} {rm : Room} {as' : Array Value} {P' : Addr → Prop} {Q' : Option Value → Heap → Prop} {argsL rest : List Value} {ps : List FieldType} {rr : Option FieldType} (M : KH l Z z B' ml' rt' rm as' h P' Q') {a : Addr} {Cn : String} (E : Exa Z h a Cn) (w1 : (Jvm.Cond.methodLink y.cls idx z).before a0 Z = true) (hse : QB Z z) (wp : (Jvm.Cond.privateMethod z).before a0 Z = true) (w2 : (Jvm.Cond.instanceMethod z).before a0 Z = true) (w3 : (Jvm.Cond.initialized z.cls).before a0 Z = true) (w4 : (Jvm.Cond.code z B' ml' rt').before a0 Z = true) (hpd : parseMethodDescriptor z.desc = some ⟨ps, rr⟩) (hd : decode B pc = .ok (.invokevirtual idx, 3)) (hS : S = argsL.reverse ++ .ref a :: rest) (hlen : argsL.length = ps.length) (ha : (.ref a :: argsL).toArray = as') (hml : Ls.length = ml) (K : ∀ v h', Q' v h' → Km P' h h' → Kd b p l e R s m args below meth c P Q J h' (k + rm.cells) (n + rm.slots) (oF m (pc + 3) Ls (v.toList ++ rest))) (hy : z.cls ≠ "java/lang/invoke/MethodHandle" ∧ z.cls ≠ "java/lang/invoke/VarHandle" := by decide) (hP : ∀ a, s.heap.size ≤ h.size → P' a → P a := by exact fun a q r => C.new a (Nat.le_trans q r)) (hf : rm.frames + 1 ≤ R.frames := by decide) (hl : (rest.map fun v => v.category).sum + (ml' + 11) + rm.locals ≤ R.locals := by exact Nat.le_of_ble_eq_true rfl) (hk : k + rm.cells ≤ R.cells := by decide) (hn : n + rm.slots ≤ R.slots := by decide) : Kd b p l e R s m args below meth c P Q J h k n (oF m pc Ls S) := fun T hT => by
 obtain ⟨hE, hle, -⟩ := HA.old C hT
 obtain ⟨vm0, k0, locs, ck, cn, X, eT, N, q1, q2, hSi, hk0, hbv, hJ⟩ := hT
 subst hS
 have C' := C.rebase hSi
 obtain ⟨cq, qa, qc⟩ := E.cell
 obtain ⟨v, vm₁, ⟨T', L', k', n'⟩, -, X', ⟨Lc, ⟨hQ, hN, hK⟩, e1, e2, e3⟩, st⟩ := X.privateBack C.1 (y := z) C'.own (mvT C'.hZ w1) (mvT C'.hZ w2) (hse _ _ (Cond.privateMethod_at (mvP C'.hZ wp (args := #[]))) (mvT C'.hZ w2) C'.hZ hy) (Cond.privateMethod_at (mvP C'.hZ wp (args := #[]))) (mvT C'.hZ w4) hy (backOf (W := (rest.map fun v => v.category).sum) (Q := fun v h' L => Q' v h' ∧ GT P' L ∧ Km P' h h') (M hE []) C'.hZ w4 w3 hf hl) (g := oF m pc Ls (argsL.reverse ++ .ref a :: rest)) rfl (by rw [C.hml]; exact hml) (Steps.refl _) (a := a) (by rw [eT]; exact qa) qc (argsL := argsL) (rest := rest) (lenOf hpd hlen) rfl (by show 2 * 0 + _ ≤ _; exact Nat.le_of_eq (Nat.zero_add _)) (hb C.2.1 hd) (fun vm₁ hw₁ => ⟨ha, eT, by show ck + _ ≤ _; omega, by show cn + _ ≤ _; omega⟩)
 dsimp only [Pt.U, Pt.locs, Pt.cells, Pt.slots] at X' e1 e2 e3 st hQ hK
 subst e1 e2 e3
 obtain ⟨u, o, g1, g2⟩ := K v T'.heap hQ hK T' ⟨vm0, k0, _, _, _, X', rfl, N.app fun q hq => hP _ hle (hN q hq), by omega, by omega, hSi, Nat.le_trans hk0 hK.1, hbv, hJ⟩
 exact ⟨u, o, st.trans g1, g2⟩
end OwnD
section OwnO
variable {b : Bool} {p : Program} {l : Launch} {e : Env} {R : Room} {s : State} {m : MethodId} {args : Array Value} {below : List Frame} {meth : Method} {c : Code} {P : Addr → Prop} {Q : Option Value → Heap → Vm → Prop} {J : Vm → Prop} {h : Heap} {k n : Nat} {Z : State} {a0 : Array Value} {y : MethodName} {B : ByteArray} {ml : Nat} {rt : Option FieldType}
variable (pc : Nat) {Ls : List Slot} {S : List Value} {h' : Heap} {a : Addr} {vs : List Value} {i : Nat} {j : Int32}
def X6 (Z : State) (h : Heap) (a : Addr) (Cn : String) (vs : List Value) : Prop := ∃ c : Cell, Arr Z h a c (.object Cn) ∧ c.slots = Array.mk vs ∧ Ovr Z c.cls Cn
theorem X6.arr {Cn : String} (A : X6 Z h a Cn vs) : Kv Z h a (.object Cn) vs := by obtain ⟨c, A, e, -⟩ := A; exact ⟨c, A, e⟩
theorem X6.ext {Cn : String} (A : X6 Z h a Cn vs) (E : Ext h h') : X6 Z h' a Cn vs := by obtain ⟨c, A, e, o⟩ := A; exact ⟨c, A.ext E, e, o⟩
theorem X6.kp {Cn : String} (A : X6 Z h a Cn vs) (K : Km P h h') (q : ¬ P a) : X6 Z h' a Cn vs := by obtain ⟨c, A, e, o⟩ := A; exact ⟨c, K.arr A q, e, o⟩
theorem X6.other {Cn : String} {b : Addr} {sl : Nat} {v : Value} (A : X6 Z h a Cn vs) (W : Wr h h' b sl v) (q : a ≠ b) : X6 Z h' a Cn vs := by obtain ⟨c, A, e, o⟩ := A; exact ⟨c, A.other W q, e, o⟩
theorem X6.same {Cn : String} {v : Value} (A : X6 Z h a Cn vs) (W : Wr h h' a i v) : X6 Z h' a Cn (vs.set i v) := by
 obtain ⟨c, A, e, o⟩ := A
 refine ⟨_, A.same W, ?_, o⟩
 show c.slots.setIfInBounds i v = _
 rw [e]; simp
theorem Kv.ne {b : Addr} {t1 t2 : FieldType} {ws : List Value} (A : Kv Z h a t1 vs) (D : Kv Z h b t2 ws) (ht : t1 ≠ t2) : a ≠ b := by
 rintro rfl
 obtain ⟨c1, ⟨p1, ⟨-, k1, q1, m1, r1⟩, -⟩, -⟩ := A
 obtain ⟨c2, ⟨p2, ⟨-, k2, q2, m2, r2⟩, -⟩, -⟩ := D
 cases p1.symm.trans p2
 cases q1.symm.trans q2
 rw [r1] at r2
 cases r2
 exact ht rfl
theorem Y6 (C : Q0 p s m meth c P Z y B ml rt) {Cn : String} {v : Addr} (i : Nat) (A : X6 Z h a Cn vs) (hj : j.toInt = (i : Int)) (hi : i < vs.length) (I : Ins Z h v Cn true) (hP : P a) (hd : decode B pc = .ok (.aastore, 1)) (K : ∀ h', Wr h h' a i (.ref v) → X6 Z h' a Cn (vs.set i (.ref v)) → Kd b p l e R s m args below meth c P Q J h' k n (oF m (pc + 1) Ls S)) : Kd b p l e R s m args below meth c P Q J h k n (oF m pc Ls (.ref v :: .int j :: .ref a :: S)) := fun T hT => by
 obtain ⟨vm0, k0, locs, ck, cn, X, eT, N, q1, q2, hS, hk0, hbv, hJ⟩ := hT
 have C' := C.rebase hS
 have A0 := A
 obtain ⟨cl, A, e, o⟩ := A
 have q := H8 (n := cl.slots.size) hj (by rw [e]; exact hi)
 obtain ⟨T', h', X', e', Wr1, st⟩ := stR X C.1 C'.hZ eT A q.1 rfl (Sto.of A o I) (g := oF m pc Ls (.ref v :: .int j :: .ref a :: S)) rfl rfl (hb C.2.1 hd)
 rw [q.2] at Wr1
 obtain ⟨u, oo, g1, g2⟩ := K h' Wr1 (X6.same A0 Wr1) T' ⟨vm0, k0, _, ck, cn, X', e', N.snoc hP, q1, q2, hS, by rw [Wr1.size]; exact hk0, hbv, hJ⟩
 exact ⟨u, oo, st u g1, g2⟩
end OwnO
section OwnX
variable {b : Bool} {p : Program} {l : Launch} {e : Env} {R : Room} {s : State} {m : MethodId} {args : Array Value} {below : List Frame} {meth : Method} {c : Code} {P : Addr → Prop} {Q : Option Value → Heap → Vm → Prop} {J : Vm → Prop} {h : Heap} {k n : Nat} {Z : State} {a0 : Array Value} {y : MethodName} {B : ByteArray} {ml : Nat} {rt : Option FieldType}
variable (pc : Nat) {Ls : List Slot} {S : List Value} {h' : Heap} {a : Addr} {vs : List Value} {i : Nat} {j : Int32} {EL : List (String × Nat)} {xs : List Addr}
theorem Wc {z w : MethodName} {Cn : String} (hc : z.cls = w.cls) (ws : (Jvm.Cond.selects Cn w w).before a0 Z = true) (wi : (Jvm.Cond.instanceMethod z).before a0 Z = true) (hn : z.cls ≠ "java/lang/invoke/MethodHandle" ∧ z.cls ≠ "java/lang/invoke/VarHandle") : (Jvm.Cond.sameMethod z.cls z.cls z.name z.desc).before a0 Z = true := by
 obtain ⟨mk, methM, hnamed, hmethM, hstM, habM⟩ := Cond.instanceMethod_spec wi
 have nf := notFace_of_selects (args := a0) ws
 obtain ⟨c2, r2, m2, q1, q2, q3, q4, kP, hkP, hkPi⟩ := Cond.selects_spec ws
 obtain ⟨kr, hkr, hni⟩ := nf m2 q3
 have e1 := findClass_of_methodNamed hnamed
 have e2 := findClass_of_methodNamed q3
 rw [← hc] at e2
 have e3 : mk.cls = m2.cls := Option.some.inj (e1.symm.trans e2)
 rw [← e3] at hkr
 have e4 := State.methodFound?_of_named hnamed hn
 have e5 : Z.methodNamed? ⟨z.cls, z.name, z.desc⟩ = some mk := hnamed
 simp [Cond.before, Cond.holds, Cond.value, e1, e4, e5, hkr, hni]
theorem Am {z w : MethodName} {Cn : String} (hc : z.cls = w.cls) (ws : (Jvm.Cond.selects Cn w w).before a0 Z = true) : ∀ s' : State, Z.Warmed39 s'.vm → NotFace s' z := fun s' hZ r0 h0 => by
 have ws' : (Jvm.Cond.selects Cn w w).before #[] s' = true := mvT hZ ws
 have nf := notFace_of_selects (args := #[]) ws'
 obtain ⟨c2, r2, m2, q1, q2, q3, q4, kP, hkP, hkPi⟩ := Cond.selects_spec ws'
 obtain ⟨kr, hkr, hni⟩ := nf m2 q3
 have e1 := findClass_of_methodNamed h0
 have e2 := findClass_of_methodNamed q3
 rw [← hc] at e2
 have e3 : r0.cls = m2.cls := Option.some.inj (e1.symm.trans e2)
 exact ⟨kr, by rw [e3]; exact hkr, hni⟩
theorem YD (C : Q0 p s m meth c P Z y B ml rt) {idx : Nat} {z : MethodName} {B' : ByteArray} {ml' : Nat} {rt' : Option FieldType} {rm : Room} {as' : Array Value} {P' : Addr → Prop} {Q' : Option Value → Heap → Prop} {argsL rest : List Value} {ps : List FieldType} {rr : Option FieldType} (M : KH l Z z B' ml' rt' rm as' h P' Q') {a : Addr} {Kn : String} (I : Ins Z h a Kn true) (w1 : (Jvm.Cond.methodLink y.cls idx z).before a0 Z = true) (wsm : (Jvm.Cond.sameMethod z.cls z.cls z.name z.desc).before a0 Z = true) (w2 : (Jvm.Cond.instanceMethod z).before a0 Z = true) (wsup : (Jvm.Cond.superclass y.cls z.cls).before a0 Z = true) (w3 : (Jvm.Cond.initialized z.cls).before a0 Z = true) (w4 : (Jvm.Cond.code z B' ml' rt').before a0 Z = true) (hpd : parseMethodDescriptor z.desc = some ⟨ps, rr⟩) (hd : decode B pc = .ok (.invokespecial idx, 3)) (hS : S = argsL.reverse ++ .ref a :: rest) (hlen : argsL.length = ps.length) (ha : (.ref a :: argsL).toArray = as') (hml : Ls.length = ml) (K : ∀ v h', Q' v h' → Km P' h h' → Kd b p l e R s m args below meth c P Q J h' (k + rm.cells) (n + rm.slots) (oF m (pc + 3) Ls (v.toList ++ rest))) (hi : z.name ≠ "<init>" := by decide) (hP : ∀ a, s.heap.size ≤ h.size → P' a → P a := by exact fun a q r => C.new a (Nat.le_trans q r)) (hf : rm.frames + 1 ≤ R.frames := by decide) (hl : (rest.map fun v => v.category).sum + (ml' + 11) + rm.locals ≤ R.locals := by exact Nat.le_of_ble_eq_true rfl) (hk : k + rm.cells ≤ R.cells := by decide) (hn : n + rm.slots ≤ R.slots := by decide) : Kd b p l e R s m args below meth c P Q J h k n (oF m pc Ls S) := fun T hT => by
 obtain ⟨hE, hle, -⟩ := HA.old C hT
 obtain ⟨vm0, k0, locs, ck, cn, X, eT, N, q1, q2, hSi, hk0, hbv, hJ⟩ := hT
 subst hS
 have C' := C.rebase hSi
 obtain ⟨v, vm₁, ⟨T', L', k', n'⟩, -, X', ⟨Lc, ⟨hQ, hN, hK⟩, e1, e2, e3⟩, st⟩ := superBack X C.1 C'.hZ (y := z) (K := Kn) C'.own w1 wsm w2 wsup hi (backOf (W := (rest.map fun v => v.category).sum) (Q := fun v h' L => Q' v h' ∧ GT P' L ∧ Km P' h h') (M hE []) C'.hZ w4 w3 hf hl) eT I (g := oF m pc Ls (argsL.reverse ++ .ref a :: rest)) rfl (by rw [C.hml]; exact hml) w4 (argsL := argsL) (rest := rest) (lenOf hpd hlen) rfl (by show 2 * 0 + _ ≤ _; exact Nat.le_of_eq (Nat.zero_add _)) (hb C.2.1 hd) (fun vm₁ hw₁ => ⟨ha, eT, by show ck + _ ≤ _; omega, by show cn + _ ≤ _; omega⟩)
 dsimp only [Pt.U, Pt.locs, Pt.cells, Pt.slots] at X' e1 e2 e3 st hQ hK
 subst e1 e2 e3
 obtain ⟨u, o, g1, g2⟩ := K v T'.heap hQ hK T' ⟨vm0, k0, _, _, _, X', rfl, N.app fun q hq => hP _ hle (hN q hq), by omega, by omega, hSi, Nat.le_trans hk0 hK.1, hbv, hJ⟩
 exact ⟨u, o, st.trans g1, g2⟩
theorem Q4 (C : Q0 p s m meth c P Z y B ml rt) {idx cnt : Nat} {z z0 : MethodName} {B' : ByteArray} {ml' : Nat} {rt' : Option FieldType} {rm : Room} {as' : Array Value} {P' : Addr → Prop} {Q' : Option Value → Heap → Prop} {argsL rest : List Value} {ps : List FieldType} {rr : Option FieldType} (M : KH l Z z B' ml' rt' rm as' h P' Q') {a : Addr} {Cn : String} (E : Exa Z h a Cn) (w1 : (Jvm.Cond.methodLink y.cls idx z0).before a0 Z = true) (wd : (Jvm.Cond.declares z0).before a0 Z = true) (wf : (Jvm.Cond.interfaceMethod z0.cls z0.cls z0.name z0.desc).before a0 Z = true) (ws : (Jvm.Cond.selects Cn z0 z).before a0 Z = true) (w2 : (Jvm.Cond.instanceMethod z).before a0 Z = true) (wp : (Jvm.Cond.publicMethod z).before a0 Z = true) (wu : (Jvm.Cond.unhidden Cn z0.name z0.desc).before a0 Z = true) (wc : (Jvm.Cond.castable Cn z0.cls).before a0 Z = true) (w3 : (Jvm.Cond.initialized z.cls).before a0 Z = true) (w4 : (Jvm.Cond.code z B' ml' rt').before a0 Z = true) (hpd : parseMethodDescriptor z0.desc = some ⟨ps, rr⟩) (hd : decode B pc = .ok (.invokeinterface idx cnt, 5)) (hS : S = argsL.reverse ++ .ref a :: rest) (hlen : argsL.length = ps.length) (ha : (.ref a :: argsL).toArray = as') (hml : Ls.length = ml) (K : ∀ v h', Q' v h' → Km P' h h' → Kd b p l e R s m args below meth c P Q J h' (k + rm.cells) (n + rm.slots) (oF m (pc + 5) Ls (v.toList ++ rest))) (hif : ((Jvm.Cond.interfaceMethod z0.cls z0.cls z0.name z0.desc).onTables && (Jvm.Cond.interfaceMethod z0.cls z0.cls z0.name z0.desc).keepsFace) = true := by exact rfl) (hy : z0.cls ≠ "java/lang/invoke/MethodHandle" ∧ z0.cls ≠ "java/lang/invoke/VarHandle" := by decide) (hP : ∀ a, s.heap.size ≤ h.size → P' a → P a := by exact fun a q r => C.new a (Nat.le_trans q r)) (hf : rm.frames + 1 ≤ R.frames := by decide) (hl : (rest.map fun v => v.category).sum + (ml' + 11) + rm.locals ≤ R.locals := by exact Nat.le_of_ble_eq_true rfl) (hk : k + rm.cells ≤ R.cells := by decide) (hn : n + rm.slots ≤ R.slots := by decide) : Kd b p l e R s m args below meth c P Q J h k n (oF m pc Ls S) := fun T hT => by
 obtain ⟨hE, hle, -⟩ := HA.old C hT
 obtain ⟨vm0, k0, locs, ck, cn, X, eT, N, q1, q2, hSi, hk0, hbv, hJ⟩ := hT
 subst hS
 have C' := C.rebase hSi
 obtain ⟨cq, kq, qa, qb, qc⟩ := isOf C'.hZ eT E
 obtain ⟨v, vm₁, ⟨T', L', k', n'⟩, -, X', ⟨Lc, ⟨hQ, hN, hK⟩, e1, e2, e3⟩, st⟩ := X.interfaceBack C.1 (xi := z0) (y := z) C'.own (mvT C'.hZ w1) (mvT C'.hZ wd) (mvT C'.hZ wf hif) (mvT C'.hZ ws) (mvT C'.hZ w2) (mvT C'.hZ wp) (mvT C'.hZ wu) (mvT C'.hZ wc) hy (backOf (W := (rest.map fun v => v.category).sum) (Q := fun v h' L => Q' v h' ∧ GT P' L ∧ Km P' h h') (M hE []) C'.hZ w4 w3 hf hl) qa qb qc (g := oF m pc Ls (argsL.reverse ++ .ref a :: rest)) rfl (by rw [C.hml]; exact hml) (Steps.refl _) (argsL := argsL) (rest := rest) (lenOf hpd hlen) rfl (by show 2 * 0 + _ ≤ _; exact Nat.le_of_eq (Nat.zero_add _)) (hb C.2.1 hd) (fun vm₁ hw₁ => ⟨ha, eT, by show ck + _ ≤ _; omega, by show cn + _ ≤ _; omega⟩)
 dsimp only [Pt.U, Pt.locs, Pt.cells, Pt.slots] at X' e1 e2 e3 st hQ hK
 subst e1 e2 e3
 obtain ⟨u, o, g1, g2⟩ := K v T'.heap hQ hK T' ⟨vm0, k0, _, _, _, X', rfl, N.app fun q hq => hP _ hle (hN q hq), by omega, by omega, hSi, Nat.le_trans hk0 hK.1, hbv, hJ⟩
 exact ⟨u, o, st.trans g1, g2⟩
def Ys (Z : State) (Cn : String) (r : Addr) : Prop := (Jvm.Term.mirror Cn).eval #[] Z none [] Z = some (.ref r)
theorem Ys.at {r : Addr} {Cn : String} (M : Ys Z Cn r) (hZ : Z.Warmed39 s.vm) : (Jvm.Term.mirror Cn).eval args s none [] s = some (.ref r) := by
 obtain ⟨cc, kk, aa, e1, e2, e3, e4⟩ := Term.mirror_spec M
 obtain ⟨k', e5, e6⟩ := hZ.alike.2.2 _ _ e2
 have e7 : s.vm.findClass Cn = some cc := by rw [hZ.alike.findClass]; exact e1
 have e8 : k'.mirror = some aa := by rw [e6]; exact e3
 cases e4
 simp [Term.eval, e7, e5, e8]
theorem JX (C : Q0 p s m meth c P Z y B ml rt) {idx : Nat} {Cn : String} {r : Addr} (M : Ys Z Cn r) (w : (Jvm.Cond.classLink y.cls idx Cn).before a0 Z = true) (hd : decode B pc = .ok (.ldc idx, 2)) (K : Kd b p l e R s m args below meth c P Q J h k n (oF m (pc + 2) Ls (.ref r :: S))) : Kd b p l e R s m args below meth c P Q J h k n (oF m pc Ls S) :=
 K.law C fun _ C T _ _ _ X eT => by
  obtain ⟨vm', X', st⟩ := X.ldcMirror C.1 C.own (mvT C.hZ w) (M.at C.hZ) (g := oF m pc Ls S) rfl (hb C.2.1 hd)
  exact ⟨_, X', eT, st⟩
theorem Yw (C : Q0 p s m meth c P Z y B ml rt) {idx : Nat} {Cn : String} {r : Addr} (M : Ys Z Cn r) (E : Exa Z h a Cn) (w1 : (Jvm.Cond.methodLink y.cls idx ⟨"java/lang/Object", "getClass", "()Ljava/lang/Class;"⟩).before a0 Z = true) (w2 : (Jvm.Cond.native ⟨"java/lang/Object", "getClass", "()Ljava/lang/Class;"⟩).before a0 Z = true) (w3 : (Jvm.Cond.instanceMethod ⟨"java/lang/Object", "getClass", "()Ljava/lang/Class;"⟩).before a0 Z = true) (w4 : (Jvm.Cond.selects Cn ⟨"java/lang/Object", "getClass", "()Ljava/lang/Class;"⟩ ⟨"java/lang/Object", "getClass", "()Ljava/lang/Class;"⟩).before a0 Z = true) (hd : decode B pc = .ok (.invokevirtual idx, 3)) (hml : Ls.length = ml) (hf : 1 ≤ R.frames) (hl : (S.map fun v => v.category).sum + 14 ≤ R.locals) (K : Kd b p l e R s m args below meth c P Q J h k n (oF m (pc + 3) Ls (.ref r :: S))) : Kd b p l e R s m args below meth c P Q J h k n (oF m pc Ls (.ref a :: S)) :=
 K.law C fun _ C T _ _ _ X eT => by
  obtain ⟨cell, kk, e1, e2, e3, e4, e5⟩ := E
  have wsm := Wc (z := ⟨"java/lang/Object", "getClass", "()Ljava/lang/Class;"⟩) rfl w4 w3 (by decide)
  obtain ⟨vm', X', st⟩ := X.getClass C.1 C.own (mvT C.hZ w1) (mvT C.hZ wsm) (mvT C.hZ w2) (mvT C.hZ w3) (mvT C.hZ w4) (a := a) (by rw [eT]; exact e1) (fun q z => by rw [z] at e4; cases e4) (by rw [C.hZ.alike.findClass]; exact e2) (M.at C.hZ) (g := oF m pc Ls (.ref a :: S)) rfl (by rw [C.hml]; exact hml) rfl (hb C.2.1 hd) hf (by show 2 * 0 + _ + _ ≤ _; omega)
  exact ⟨_, X', eT, st⟩
theorem R9 (C : Q0 p s m meth c P Z y B ml rt) {df lo hi off : Int} {offs : Array Int} {len : Nat} {x : Int32} (q : Nat) (hd : decode B pc = .ok (.tableswitch df lo hi offs, len)) (hin : ¬ (x.toInt < lo ∨ x.toInt > hi)) (hoff : offs[(x.toInt - lo).toNat]? = some off) (ho : 0 ≤ (pc : Int) + off) (hp : ((pc : Int) + off).toNat = q) (K : Kd b p l e R s m args below meth c P Q J h k n (oF m q Ls S)) : Kd b p l e R s m args below meth c P Q J h k n (oF m pc Ls (.int x :: S)) :=
 K.stepX fun s' T locs ck cn X target ht => by subst hp; exact X.tableswitchIn C.1 (g := oF m pc Ls (.int x :: S)) rfl rfl (hb C.2.1 hd) hin hoff ho target ht
theorem BH {cl : Cell} {ty : FieldType} (A : Arr Z h a cl ty) (hv : ∀ v ∈ cl.slots.toList, fits ty v = true) : FitC Z cl := fun i v hi => by
 obtain ⟨h1, kk, hk, comp, hkind⟩ := A.2.1
 have hm : v ∈ cl.slots.toList := by
  obtain ⟨q, rfl⟩ := Array.getElem?_eq_some_iff.mp hi
  simp
 simp [State.fitsSlot, State.slotType?, hk, hkind, hv v hm]
theorem Hb (C : Q0 p s m meth c P Z y B ml rt) {idx : Nat} {ad : String} {ty : FieldType} (cap : Nat) (A : Kv Z h a ty vs) (E : Exa Z h a ad) (hv : ∀ v ∈ vs, fits ty v = true) (w1 : (Jvm.Cond.methodLink y.cls idx ⟨ad, "clone", "()Ljava/lang/Object;"⟩).before a0 Z = true) (w2 : (Jvm.Cond.sameMethod ad "java/lang/Object" "clone" "()Ljava/lang/Object;").before a0 Z = true) (w3 : (Jvm.Cond.native ⟨"java/lang/Object", "clone", "()Ljava/lang/Object;"⟩).before a0 Z = true) (w4 : (Jvm.Cond.instanceMethod ⟨"java/lang/Object", "clone", "()Ljava/lang/Object;"⟩).before a0 Z = true) (w5 : (Jvm.Cond.selects ad ⟨ad, "clone", "()Ljava/lang/Object;"⟩ ⟨"java/lang/Object", "clone", "()Ljava/lang/Object;"⟩).before a0 Z = true) (w6 : (Jvm.Cond.castable ad "java/lang/Cloneable").before a0 Z = true) (hd : decode B pc = .ok (.invokevirtual idx, 3)) (hml : Ls.length = ml) (hf : 1 ≤ R.frames) (hl : (S.map fun v => v.category).sum + 14 ≤ R.locals) (hcap : vs.length ≤ cap) (hk : k + 1 ≤ R.cells) (hn : n + cap ≤ R.slots)
  (K : ∀ h', Ext h h' → Kv Z h' h.size ty vs → Exa Z h' h.size ad → Kd b p l e R s m args below meth c P Q J h' (k + 1) (n + cap) (oF m (pc + 3) Ls (.ref h.size :: S))) : Kd b p l e R s m args below meth c P Q J h k n (oF m pc Ls (.ref a :: S)) := fun T hT => by
 obtain ⟨vm0, k0, locs, ck, cn, X, eT, N, q1, q2, hSi, hk0, hbv, hJ⟩ := hT
 have C' := C.rebase hSi
 obtain ⟨cl, A1, ea⟩ := A
 obtain ⟨T', h', X', e', E', A', X1, st⟩ := cloneA X C.1 C'.hZ C'.own w1 w2 w3 w4 w5 w6 eT A1 E (BH A1 (by rw [ea]; exact hv)) (g := oF m pc Ls (.ref a :: S)) rfl (by rw [C.hml]; exact hml) rfl (hb C.2.1 hd) hf (W := (S.map fun v => v.category).sum) (by show 2 * 0 + _ ≤ _; exact Nat.le_of_eq (Nat.zero_add _)) hl (cap := cap) (by rw [ea]; simpa using hcap) (by omega) (by omega)
 obtain ⟨u, o, g1, g2⟩ := K h' E' ⟨_, A', ea⟩ X1 T' ⟨vm0, k0, _, _, _, X', e', N, by omega, by omega, hSi, Nat.le_trans hk0 E'.1, hbv, hJ⟩
 exact ⟨u, o, st u g1, g2⟩
theorem Cw {kk : ClassId} {z : Int32} {ty : FieldType} {dv : Value} (F : Arv Z h a kk ty z vs dv) (hl : z.toNatClampNeg = vs.length) : Kv Z h a ty vs := by
 obtain ⟨cl, A, -, hs, -, H, -⟩ := F
 refine ⟨cl, A, Array.ext_getElem? fun i => ?_⟩
 by_cases hi : i < cl.slots.size
 ·rw [H i hi, List.getElem?_toArray, List.getD_eq_getElem?_getD, List.getElem?_eq_getElem (by omega)]; rfl
 ·rw [Array.getElem?_eq_none (by omega), List.getElem?_toArray, List.getElem?_eq_none (by omega)]
theorem Tr (C : Q0 p s m meth c P Z y B ml rt) {idx nn : Nat} {text : String} (us : List Int32) (w : (Jvm.Cond.stringLink y.cls idx text).before a0 Z = true) (wS : ∀ a ∈ Bundle.stringAtoms, a.before a0 Z = true) (hEL : EW Z a0 EL) (hmem : (y.cls, idx) ∈ EL) (hd : decode B pc = .ok (.ldc idx, 2)) (h256 : ∀ c ∈ text.toList, c.toNat < 256) (ht : text.toList.map (fun c => Value.int (Jvm.Lit.byteI c.toNat.toUInt16)) = us.map QW) (hnn : 4 * text.toList.length ≤ nn) (hbig : nn ≤ 536870912) (hlen : us.length < 2 ^ 31) (hu : ∀ u ∈ us, XW u ∧ QG u) (hk : k + 2 ≤ R.cells) (hn : n + (nn + 4) ≤ R.slots)
  (K : ∀ a h', Ext h h' → Xo Z h' a us → Kd true p l e R s m args below meth c P Q (oH Z EL h' xs) h' (k + 2) (n + (nn + 4)) (oF m (pc + 2) Ls (.ref a :: S))) : Kd true p l e R s m args below meth c P Q (oH Z EL h xs) h k n (oF m pc Ls S) := fun T hT => by
 obtain ⟨vm0, k0, locs, ck, cn, X, eT, N, q1, q2, hS, hk0, hbv, hJ⟩ := hT
 have C' := C.rebase hS
 have hz : (Int32.ofNat us.length).toInt = us.length := Xk _ hlen
 obtain ⟨a, T', h', k1, bb, kc, X', e', E, hS1, hk1, hW, -, Xa, Fc, Fv, A, -, -, hC, -, -, st⟩ := ldcCH X C.1 C'.hZ C'.own w wS eT hS hk0 hEL hmem hJ.1.2.1 (vs := us.map QW) (z := Int32.ofNat us.length) ⟨h256, ht⟩ (fun q => by rw [Int32.lt_iff_toInt_lt, hz, show (0 : Int32).toInt = 0 from rfl] at q; omega) (by simp only [Int32.toNatClampNeg, hz, List.length_map]; rfl) (g := oF m pc Ls S) rfl (hb C.2.1 hd) (n := nn) hnn hbig (by omega) (by omega)
 obtain ⟨cl, A1, hcl⟩ := A
 have A2 : Kv Z h' bb .byte (us.map QW) := Cw ⟨cl, A1, hcl⟩ (by simp only [Int32.toNatClampNeg, hz, List.length_map]; rfl)
 have J1 : oH Z EL h' xs T'.vm := ⟨hW, hC.1, fun x hm => ⟨Nat.lt_of_lt_of_le (hJ.1.2.2 x hm).1 E.1, hC.safe (hJ.1.2.2 x hm).1 (hJ.1.2.2 x hm).2⟩⟩
 obtain ⟨u, o, g1, g2⟩ := K a h' E ⟨Xa, fun u q => (hu u q).1, bb, 0, _, Fv, Fc, A2, Or.inl ⟨rfl, fun u q => (hu u q).2, rfl⟩⟩ T' ⟨_, k1, locs, _, _, X', e', N, by omega, by omega, hS1, hk1, (fun q => nomatch q), J1, oH.js hEL⟩
 exact ⟨u, o, st u g1, g2⟩
theorem Hz (C : Q0 p s m meth c P Z y B ml rt) {idx : Nat} {src dst : Addr} {ca cd : Cell} {ty : FieldType} {xs ds : List Value} {sp dp z : Int32} (i j len : Nat) (A : Arr Z h src ca ty) (ea : ca.slots = Array.mk xs) (D : Arr Z h dst cd ty) (ed : cd.slots = Array.mk ds) (hi : sp.toInt = (i : Int)) (hj : dp.toInt = (j : Int)) (hz : z.toInt = (len : Int)) (h1 : i + len ≤ xs.length) (h2 : j + len ≤ ds.length) (hv : ∀ v ∈ xs, fits ty v = true ∧ ∀ x, v = .ref x → ∃ Cn, Ins Z h x Cn true ∧ Ovr Z cd.cls Cn) (hP : P dst) (w1 : (Jvm.Cond.methodLink y.cls idx Jvm.Stand.acN).before a0 Z = true) (w2 : (Jvm.Cond.native Jvm.Stand.acN).before a0 Z = true) (w3 : (Jvm.Cond.static Jvm.Stand.acN).before a0 Z = true) (w4 : (Jvm.Cond.initialized "java/lang/System").before a0 Z = true) (hd : decode B pc = .ok (.invokestatic idx, 3)) (hml : Ls.length = ml) (hf : 1 ≤ R.frames) (hl : (S.map fun v => v.category).sum + (nativeFrameWords "java/lang/System" "arraycopy" 5 + 11) ≤ R.locals)
  (K : ∀ h' cd', Km (fun x => x = dst) h h' → h'.size = h.size → Arr Z h' dst cd' ty → cd'.cls = cd.cls → cd'.slots = Array.mk (ds.take j ++ ((xs.drop i).take len ++ ds.drop (j + len))) → Kd b p l e R s m args below meth c P Q J h' k n (oF m (pc + 3) Ls S)) : Kd b p l e R s m args below meth c P Q J h k n (oF m pc Ls (.int z :: .int dp :: .ref dst :: .int sp :: .ref src :: S)) := fun T hT => by
 obtain ⟨vm0, k0, locs, ck, cn, X, eT, N, q1, q2, hSi, hk0, hbv, hJ⟩ := hT
 have C' := C.rebase hSi
 obtain ⟨a1, a2, a3⟩ := A
 obtain ⟨d1, d2, d3⟩ := D
 obtain ⟨as1, ks, hks, sC, hsk⟩ := State.isArrayOf_alike C'.hZ.alike a2
 obtain ⟨ds1, kd, hkd, dC, hdk⟩ := State.isArrayOf_alike C'.hZ.alike d2
 have ez : z.toNatClampNeg = len := by simp only [Int32.toNatClampNeg, hz]; rfl
 have ei : sp.toNatClampNeg = i := by simp only [Int32.toNatClampNeg, hi]; rfl
 have ej : dp.toNatClampNeg = j := by simp only [Int32.toNatClampNeg, hj]; rfl
 have la : ca.slots.size = xs.length := by rw [ea]; simp
 have ld : cd.slots.size = ds.length := by rw [ed]; simp
 have e0 : (0 : Int32).toInt = 0 := rfl
 have gv : ∀ q, q < len → ∃ v, xs[i + q]? = some v ∧ ca.slots.getD (i + q) .null = v := fun q hq => by
  have hx : xs[i + q]? = some (xs[i + q]'(by omega)) := List.getElem?_eq_getElem _
  refine ⟨_, hx, ?_⟩
  rw [ea]
  simp only [Array.getD_eq_getD_getElem?, List.getElem?_toArray, hx]
  rfl
 obtain ⟨vm₁, hW, X', st⟩ := X.arraycopyK C.1 C'.own (mvT C'.hZ w1) (mvT C'.hZ w2) (mvT C'.hZ w3) (mvT C'.hZ w4) (src := src) (dst := dst) (srcPos := sp) (destPos := dp) (n := z) (by rw [eT]; exact a1) (by rw [eT]; exact d1) as1 ds1 a3 d3 hks hkd hsk hdk (by simp) (fun q => by rw [Int32.lt_iff_toInt_lt, e0, hi] at q; omega) (fun q => by rw [Int32.lt_iff_toInt_lt, e0, hj] at q; omega) (fun q => by rw [Int32.lt_iff_toInt_lt, e0, hz] at q; omega) (by rw [hi, hz, la]; omega) (by rw [hj, hz, ld]; omega) (fun vm' hw' q hq => by
  rw [ez] at hq
  rw [ei]
  obtain ⟨v, e1, e2⟩ := gv q hq
  rw [e2]
  obtain ⟨f1, f2⟩ := hv v (List.mem_of_getElem? e1)
  refine ⟨f1, ?_⟩
  cases v with
  | ref x =>
   obtain ⟨Cn, ⟨cell, cT, i1, i2, i3⟩, kO, comp, o1, o2, o3⟩ := f2 x rfl
   cases i2.symm.trans o3
   simp only [Bool.and_eq_true, Bool.not_eq_true'] at i3
   have hal : Z.vm.Alike vm' := C'.hZ.alike.trans hw'.alike
   obtain ⟨kx, hkx⟩ := Vm.classAt_of_assignable i3.2 (Vm.classAt_of_findClass o3)
   obtain ⟨kx', hkx', -⟩ := hal.2.2 _ _ hkx
   obtain ⟨kt, hkt, -⟩ := Vm.findClass_spec o3
   obtain ⟨kt', hkt', -⟩ := hal.2.2 _ _ hkt
   obtain ⟨kd0, hkd0, dC0, hdk0⟩ := d2.2
   cases o1.symm.trans hkd0
   have eC : dC = cT := by
    obtain ⟨k1, z1, z2⟩ := C'.hZ.alike.2.2 _ _ o1
    cases hkd.symm.trans z1
    rw [z2] at hdk
    have := hdk.symm.trans o2
    injection this
   subst eC
   exact ⟨cell, by rw [show (T.setVm vm').heap = T.heap from rfl, eT]; exact i1, fun w z => by rw [z] at i3; exact absurd i3.1 (by simp [VmData.isStatics]), ⟨kx', hkx'⟩, ⟨kt', hkt'⟩, by show vm'.assignable _ _ = true; rw [hal.assignable]; exact i3.2⟩
  | _ => trivial) (g := oF m pc Ls (.int z :: .int dp :: .ref dst :: .int sp :: .ref src :: S)) rfl (by rw [C.hml]; exact hml) rfl (hb C.2.1 hd) hf (by show 2 * 0 + _ + _ ≤ _; omega)
 have hF := Cell.storeRun_facts cd dp.toNatClampNeg (ca.stretch sp.toNatClampNeg z.toNatClampNeg)
 have hS : (copied ca cd sp dp z).slots = Array.mk (ds.take j ++ ((xs.drop i).take len ++ ds.drop (j + len))) := by
  apply Array.ext_getElem?
  intro q
  show (cd.storePairs dp.toNatClampNeg ((ca.stretch sp.toNatClampNeg z.toNatClampNeg).zipIdx 0)).slots[q]? = _
  rw [Cell.storePairs_get cd _ _ 0 q (by rw [Cell.stretch_length, ej, ez, ld]; omega), Cell.stretch_length, ej, ez, ei]
  simp only [List.getElem?_toArray, Nat.add_zero, Nat.zero_add]
  have lt : (ds.take j).length = j := by rw [List.length_take]; omega
  have lm : ((xs.drop i).take len).length = len := by rw [List.length_take, List.length_drop]; omega
  split
  ·rename_i hq
   obtain ⟨v, e1, e2⟩ := gv (q - j) (by omega)
   rw [List.getElem?_append_right (by omega), lt, List.getElem?_append_left (by omega), List.getElem?_take_of_lt (by omega), List.getElem?_drop, e1]
   simp only [Cell.stretch, List.getElem?_map, List.getElem?_range (show q - j < len by omega), Option.map_some, e2]
  ·rename_i hq
   rw [ed]
   by_cases hqj : q < j
   ·rw [List.getElem?_append_left (by omega), List.getElem?_take_of_lt hqj]; simp
   ·rw [List.getElem?_append_right (by omega), lt, List.getElem?_append_right (by omega), lm, List.getElem?_drop, show j + len + (q - j - len) = q by omega]; simp
 have hdl : dst < h.size := (Array.getElem?_eq_some_iff.mp d1).1
 have eH : (((T.setVm vm₁).setCell dst (copied ca cd sp dp z))).heap = h.setIfInBounds dst (copied ca cd sp dp z) := by rw [← eT]; rfl
 have hKp : Km (fun x => x = dst) h (h.setIfInBounds dst (copied ca cd sp dp z)) := by
  refine ⟨by rw [Array.size_setIfInBounds]; exact Nat.le_refl _, fun x cc hx => ?_⟩
  by_cases e : x = dst
  ·subst e
   cases hx.symm.trans d1
   exact ⟨copied ca cd sp dp z, by rw [Array.getElem?_setIfInBounds_self_of_lt hdl], hF.1, hF.2.1, by rw [hS, ed]; simp; omega, fun q => absurd rfl q⟩
  ·exact ⟨cc, by rw [Array.getElem?_setIfInBounds_ne (Ne.symm e)]; exact hx, rfl, rfl, rfl, fun _ => rfl⟩
 obtain ⟨u, o, g1, g2⟩ := K (h.setIfInBounds dst (copied ca cd sp dp z)) (copied ca cd sp dp z) hKp (by rw [Array.size_setIfInBounds]) ⟨by rw [Array.getElem?_setIfInBounds_self_of_lt hdl], ⟨by rw [show (copied ca cd sp dp z).vm = cd.vm from hF.2.1]; exact d2.1, by rw [show (copied ca cd sp dp z).cls = cd.cls from hF.1]; exact d2.2⟩, by rw [show (copied ca cd sp dp z).vm = cd.vm from hF.2.1]; exact d3⟩ hF.1 hS _ ⟨vm0, k0, _, ck, cn, X', eH, N.app fun q hq => by rw [Jvm.Stand.copyLocs_base hq]; exact hP, q1, q2, hSi, by rw [Array.size_setIfInBounds]; exact hk0, hbv, hJ⟩
 exact ⟨u, o, st u g1, g2⟩
theorem Yt (C : Q0 p s m meth c P Z y B ml rt) {idx : Nat} {src dst : Addr} {ty : FieldType} {xs ds : List Value} {sp dp z : Int32} (i j len : Nat) (A : Kv Z h src ty xs) (D : Kv Z h dst ty ds) (hi : sp.toInt = (i : Int)) (hj : dp.toInt = (j : Int)) (hz : z.toInt = (len : Int)) (h1 : i + len ≤ xs.length) (h2 : j + len ≤ ds.length) (hv : ∀ v ∈ xs, fits ty v = true ∧ ∀ x, v ≠ .ref x) (hP : P dst) (w1 : (Jvm.Cond.methodLink y.cls idx Jvm.Stand.acN).before a0 Z = true) (w2 : (Jvm.Cond.native Jvm.Stand.acN).before a0 Z = true) (w3 : (Jvm.Cond.static Jvm.Stand.acN).before a0 Z = true) (w4 : (Jvm.Cond.initialized "java/lang/System").before a0 Z = true) (hd : decode B pc = .ok (.invokestatic idx, 3)) (hml : Ls.length = ml) (hf : 1 ≤ R.frames) (hl : (S.map fun v => v.category).sum + (nativeFrameWords "java/lang/System" "arraycopy" 5 + 11) ≤ R.locals)
  (K : ∀ h', Km (fun x => x = dst) h h' → h'.size = h.size → Kv Z h' dst ty (ds.take j ++ ((xs.drop i).take len ++ ds.drop (j + len))) → Kd b p l e R s m args below meth c P Q J h' k n (oF m (pc + 3) Ls S)) : Kd b p l e R s m args below meth c P Q J h k n (oF m pc Ls (.int z :: .int dp :: .ref dst :: .int sp :: .ref src :: S)) := by
 obtain ⟨ca, A, ea⟩ := A
 obtain ⟨cd, D, ed⟩ := D
 exact Hz _ C i j len A ea D ed hi hj hz h1 h2 (fun v q => ⟨(hv v q).1, fun x z => absurd z ((hv v q).2 x)⟩) hP w1 w2 w3 w4 hd hml hf hl fun h' cd' s1 s2 D' _ e' => K h' s1 s2 ⟨cd', D', e'⟩
theorem TJ (C : Q0 p s m meth c P Z y B ml rt) {idx : Nat} {src dst : Addr} {Cn : String} {xs ds : List Value} {sp dp z : Int32} (i j len : Nat) (A : X6 Z h src Cn xs) (D : X6 Z h dst Cn ds) (hi : sp.toInt = (i : Int)) (hj : dp.toInt = (j : Int)) (hz : z.toInt = (len : Int)) (h1 : i + len ≤ xs.length) (h2 : j + len ≤ ds.length) (hv : ∀ v ∈ xs, v = .null ∨ ∃ x, v = .ref x ∧ Ins Z h x Cn true) (hP : P dst) (w1 : (Jvm.Cond.methodLink y.cls idx Jvm.Stand.acN).before a0 Z = true) (w2 : (Jvm.Cond.native Jvm.Stand.acN).before a0 Z = true) (w3 : (Jvm.Cond.static Jvm.Stand.acN).before a0 Z = true) (w4 : (Jvm.Cond.initialized "java/lang/System").before a0 Z = true) (hd : decode B pc = .ok (.invokestatic idx, 3)) (hml : Ls.length = ml) (hf : 1 ≤ R.frames) (hl : (S.map fun v => v.category).sum + (nativeFrameWords "java/lang/System" "arraycopy" 5 + 11) ≤ R.locals)
  (K : ∀ h', Km (fun x => x = dst) h h' → h'.size = h.size → X6 Z h' dst Cn (ds.take j ++ ((xs.drop i).take len ++ ds.drop (j + len))) → Kd b p l e R s m args below meth c P Q J h' k n (oF m (pc + 3) Ls S)) : Kd b p l e R s m args below meth c P Q J h k n (oF m pc Ls (.int z :: .int dp :: .ref dst :: .int sp :: .ref src :: S)) := by
 obtain ⟨ca, A, ea, -⟩ := A
 obtain ⟨cd, D, ed, o⟩ := D
 refine Hz _ C i j len A ea D ed hi hj hz h1 h2 (fun v q => ?_) hP w1 w2 w3 w4 hd hml hf hl fun h' cd' s1 s2 D' e1 e' => K h' s1 s2 ⟨cd', D', e', e1 ▸ o⟩
 rcases hv v q with rfl | ⟨x, rfl, I⟩
 ·exact ⟨rfl, fun x z => nomatch z⟩
 ·exact ⟨rfl, fun x' z => ⟨Cn, by cases z; exact I, o⟩⟩
theorem oH.kpS {vm : Vm} {xs : List Addr} {P : Addr → Prop} (K : Km P h h') (hP : ∀ x, P x → Safe Z EL vm h x ∨ h.size ≤ x) (H : oH Z EL h xs vm) : oH Z EL h' xs vm := by
 have q := H.2.1.step (h' := h') fun y By cell hy => by
  obtain ⟨c', e1, -, -, -, e5⟩ := K.2 y cell hy
  rw [e5 fun hPy => (hP y hPy).elim (fun z => z By) (fun z => absurd (Array.getElem?_eq_some_iff.mp hy).1 (Nat.not_lt.mpr z))] at e1
  exact e1
 exact ⟨H.1, q.1, fun x hm => ⟨Nat.lt_of_lt_of_le (H.2.2 x hm).1 K.1, fun Bx => (H.2.2 x hm).2 (q.2 x Bx)⟩⟩
def XE (Z : State) (h : Heap) (a : Addr) (ty : FieldType) (ad : String) (vs : List Value) : Prop := Kv Z h a ty vs ∧ Exa Z h a ad
theorem XE.ext {ty : FieldType} {ad : String} (A : XE Z h a ty ad vs) (E : Ext h h') : XE Z h' a ty ad vs := ⟨A.1.ext E, A.2.ext E⟩
theorem XE.other {ty : FieldType} {ad : String} {q : Addr} {sl : Nat} {v : Value} (A : XE Z h a ty ad vs) (W : Wr h h' q sl v) (hne : a ≠ q) : XE Z h' a ty ad vs := ⟨A.1.other W hne, A.2.wr W⟩
theorem XE.same {ty : FieldType} {ad : String} {v : Value} (A : XE Z h a ty ad vs) (W : Wr h h' a i v) : XE Z h' a ty ad (vs.set i v) := ⟨A.1.same W, A.2.wr W⟩
theorem XE.kp {P : Addr → Prop} {ty : FieldType} {ad : String} (A : XE Z h a ty ad vs) (K : Km P h h') (q : ¬ P a) : XE Z h' a ty ad vs := ⟨A.1.kp K q, K.exa A.2⟩
theorem XE.eq {ty : FieldType} {ad : String} {ws : List Value} (A : XE Z h a ty ad vs) (q : vs = ws) : XE Z h a ty ad ws := q ▸ A
theorem Q7 (C : Q0 p s m meth c P Z y B ml rt) {aty : ArrayType} {z : Int32} {ad : String} (len cap : Nat) (w : (Jvm.Cond.arrayClass (newarray.typeOf aty)).before a0 Z = true) (hd : decode B pc = .ok (.newarray aty, 2)) (hz : z.toInt = (len : Int)) (hcap : len ≤ cap) (hb8 : cap * 8 ≤ 536870912) (had : "[" ++ (newarray.typeOf aty).toString = ad) (hk : k + 1 ≤ R.cells) (hn : n + cap ≤ R.slots)
  (K : ∀ h' a, a = h.size → P a → Ext h h' → XE Z h' a (newarray.typeOf aty) ad (List.replicate len (defaultValue (newarray.typeOf aty))) → Kd b p l e R s m args below meth c P Q J h' (k + 1) (n + cap) (oF m (pc + 2) Ls (.ref a :: S))) : Kd b p l e R s m args below meth c P Q J h k n (oF m pc Ls (.int z :: S)) := fun T hT => by
 have hO := HA.old C hT
 obtain ⟨vm0, k0, locs, ck, cn, X, eT, N, q1, q2, hS, hk0, hbv, hJ⟩ := hT
 have C' := C.rebase hS
 have e : z.toNatClampNeg = len := by simp only [Int32.toNatClampNeg, hz]; rfl
 have hneg : ¬ z < 0 := fun q => by
  rw [Int32.lt_iff_toInt_lt, hz] at q
  have : (0 : Int32).toInt = 0 := rfl
  omega
 obtain ⟨T', h', cA, X', e', E, A, X1, st⟩ := newPE X C.1 C'.hZ w eT (g := oF m pc Ls (.int z :: S)) rfl (hb C.2.1 hd) rfl hneg (cap := cap) (by omega) hb8 (by omega) (by omega) had
 have A2 := Kv.new A
 rw [e] at A2
 obtain ⟨u, o, g1, g2⟩ := K h' h.size rfl (C.new _ hO.2.1) E ⟨A2, X1⟩ T' ⟨vm0, k0, locs, _, _, X', e', N, by omega, by omega, hS, Nat.le_trans hk0 E.1, hbv, hJ⟩
 exact ⟨u, o, st u g1, g2⟩
theorem YH (C : Q0 p s m meth c P Z y B ml rt) {idx : Nat} {Cn ad : String} {z : Int32} (len cap : Nat) (w1 : (Jvm.Cond.classLink y.cls idx Cn).before a0 Z = true) (w2 : (Jvm.Cond.arrayOver (.object Cn)).before a0 Z = true) (hd : decode B pc = .ok (.anewarray idx, 3)) (hz : z.toInt = (len : Int)) (hcap : len ≤ cap) (hb8 : cap * 8 ≤ 536870912) (had : "[" ++ (FieldType.object Cn).toString = ad) (hk : k + 1 ≤ R.cells) (hn : n + cap ≤ R.slots)
  (K : ∀ h' a, a = h.size → P a → Ext h h' → X6 Z h' a Cn (List.replicate len .null) → Exa Z h' a ad → Kd b p l e R s m args below meth c P Q J h' (k + 1) (n + cap) (oF m (pc + 3) Ls (.ref a :: S))) : Kd b p l e R s m args below meth c P Q J h k n (oF m pc Ls (.int z :: S)) := fun T hT => by
 have hO := HA.old C hT
 obtain ⟨vm0, k0, locs, ck, cn, X, eT, N, q1, q2, hS, hk0, hbv, hJ⟩ := hT
 have C' := C.rebase hS
 have e : z.toNatClampNeg = len := by simp only [Int32.toNatClampNeg, hz]; rfl
 have hneg : ¬ z < 0 := fun q => by
  rw [Int32.lt_iff_toInt_lt, hz] at q
  have : (0 : Int32).toInt = 0 := rfl
  omega
 obtain ⟨T', h', cA, X', e', E, A, X1, O, st⟩ := newRE X C.1 C'.hZ C'.own w1 w2 eT (g := oF m pc Ls (.int z :: S)) rfl (hb C.2.1 hd) rfl hneg (cap := cap) (by omega) hb8 (by omega) (by omega) had
 obtain ⟨u, o, g1, g2⟩ := K h' h.size rfl (C.new _ hO.2.1) E ⟨_, A, by apply Array.ext'; simp [newA, e, defaultValue], O⟩ X1 T' ⟨vm0, k0, locs, _, _, X', e', N, by omega, by omega, hS, Nat.le_trans hk0 E.1, hbv, hJ⟩
 exact ⟨u, o, st u g1, g2⟩
theorem KQ (C : Q0 p s m meth c P Z y B ml rt) {cd : ClassFile.Cond} {x : Int32} {o : Int} (q : Nat) (hd : decode B pc = .ok (.ifCond cd o, 3)) (K : Kd b p l e R s m args below meth c P Q J h k n (oF m q Ls S)) (ho : 0 ≤ (pc : Int) + o := by decide) (hp : ((pc : Int) + o).toNat = q := by decide) (h1 : if_icmp.holds cd x 0 = true := by decide) : Kd b p l e R s m args below meth c P Q J h k n (oF m pc Ls (.int x :: S)) := K.step fun _ A _ => XS.ifYes A C.1 rfl rfl (hb C.2.1 hd) rfl ((if0 _ _).trans h1) ho hp
theorem KW (C : Q0 p s m meth c P Z y B ml rt) {cd : ClassFile.Cond} {x : Int32} {o : Int} (hd : decode B pc = .ok (.ifCond cd o, 3)) (K : Kd b p l e R s m args below meth c P Q J h k n (oF m (pc + 3) Ls S)) (h1 : if_icmp.holds cd x 0 = false := by decide) : Kd b p l e R s m args below meth c P Q J h k n (oF m pc Ls (.int x :: S)) := K.step fun _ A _ => XS.ifNo A C.1 rfl (hb C.2.1 hd) rfl ((if0 _ _).trans h1)
theorem KU (C : Q0 p s m meth c P Z y B ml rt) {cd : ClassFile.Cond} {x w : Int32} {o : Int} (q : Nat) (hd : decode B pc = .ok (.if_icmp cd o, 3)) (K : Kd b p l e R s m args below meth c P Q J h k n (oF m q Ls S)) (ho : 0 ≤ (pc : Int) + o := by decide) (hp : ((pc : Int) + o).toNat = q := by decide) (h1 : if_icmp.holds cd x w = true := by decide) : Kd b p l e R s m args below meth c P Q J h k n (oF m pc Ls (.int w :: .int x :: S)) := K.step fun _ A _ => XS.icmpYes A C.1 rfl rfl (hb C.2.1 hd) rfl h1 ho hp
theorem KS (C : Q0 p s m meth c P Z y B ml rt) {cd : ClassFile.Cond} {x w : Int32} {o : Int} (hd : decode B pc = .ok (.if_icmp cd o, 3)) (K : Kd b p l e R s m args below meth c P Q J h k n (oF m (pc + 3) Ls S)) (h1 : if_icmp.holds cd x w = false := by decide) : Kd b p l e R s m args below meth c P Q J h k n (oF m pc Ls (.int w :: .int x :: S)) := K.step fun _ A _ => XS.icmpNo A C.1 rfl (hb C.2.1 hd) rfl h1
end OwnX
section OwnX2
variable {b : Bool} {p : Program} {l : Launch} {e : Env} {R : Room} {s : State} {m : MethodId} {args : Array Value} {below : List Frame} {meth : Method} {c : Code} {P : Addr → Prop} {Q : Option Value → Heap → Vm → Prop} {J : Vm → Prop} {h : Heap} {k n : Nat} {Z : State} {a0 : Array Value} {y : MethodName} {B : ByteArray} {ml : Nat} {rt : Option FieldType}
variable (pc : Nat) {Ls : List Slot} {S : List Value} {h' : Heap} {a : Addr} {vs : List Value} {i : Nat} {j : Int32} {EL : List (String × Nat)} {xs : List Addr}
theorem GB (C : Q0 p s m meth c P Z y B ml rt) {idx : Nat} {z : MethodName} {B' : ByteArray} {ml' : Nat} {rt' : Option FieldType} {rm : Room} {as' : Array Value} {P' : Addr → Prop} {J' : Vm → Prop} {Q' : Option Value → Heap → Vm → Prop} {argsL rest : List Value} {ps : List FieldType} {rr : Option FieldType} (M : Q1 l Z z B' ml' rt' rm as' h P' J' Q') (hJJ : ∀ vm, J vm → J' vm) {a : Addr} {Cn : String} (E : Exa Z h a Cn) (w1 : (Jvm.Cond.methodLink y.cls idx z).before a0 Z = true) (hse : QB Z z) (wp : (Jvm.Cond.privateMethod z).before a0 Z = true) (w2 : (Jvm.Cond.instanceMethod z).before a0 Z = true) (w3 : (Jvm.Cond.initialized z.cls).before a0 Z = true) (w4 : (Jvm.Cond.code z B' ml' rt').before a0 Z = true) (hpd : parseMethodDescriptor z.desc = some ⟨ps, rr⟩) (hd : decode B pc = .ok (.invokevirtual idx, 3)) (hS : S = argsL.reverse ++ .ref a :: rest) (hlen : argsL.length = ps.length) (ha : (.ref a :: argsL).toArray = as') (hml : Ls.length = ml) (K : ∀ v h' vm', Q' v h' vm' → Km P' h h' → ∃ J1 : Vm → Prop, J1 vm' ∧ Tb J1 ∧ Kd true p l e R s m args below meth c P Q J1 h' (k + rm.cells) (n + rm.slots) (oF m (pc + 3) Ls (v.toList ++ rest))) (hy : z.cls ≠ "java/lang/invoke/MethodHandle" ∧ z.cls ≠ "java/lang/invoke/VarHandle" := by decide) (hP : ∀ a, s.heap.size ≤ h.size → P' a → P a := by exact fun a q r => C.new a (Nat.le_trans q r)) (hf : rm.frames + 1 ≤ R.frames := by decide) (hl : (rest.map fun v => v.category).sum + (ml' + 11) + rm.locals ≤ R.locals := by exact Nat.le_of_ble_eq_true rfl) (hk : k + rm.cells ≤ R.cells := by decide) (hn : n + rm.slots ≤ R.slots := by decide) : Kd true p l e R s m args below meth c P Q J h k n (oF m pc Ls S) := fun T hT => by
 obtain ⟨hE, hle, -⟩ := HA.old C hT
 obtain ⟨vm0, k0, locs, ck, cn, X, eT, N, q1, q2, hSi, hk0, hbv, hJ⟩ := hT
 subst hS
 have C' := C.rebase hSi
 obtain ⟨cq, qa, qc⟩ := E.cell
 obtain ⟨v, vm₁, ⟨T', L', k', n'⟩, -, X', hS2, hgr, ⟨Lc, ⟨hQ, hN, hK⟩, e1, e2, e3⟩, st⟩ := X.privateBackS C.1 (y := z) C'.own (mvT C'.hZ w1) (mvT C'.hZ w2) (hse _ _ (Cond.privateMethod_at (mvP C'.hZ wp (args := #[]))) (mvT C'.hZ w2) C'.hZ hy) (Cond.privateMethod_at (mvP C'.hZ wp (args := #[]))) (mvT C'.hZ w4) hy (HC (W := (rest.map fun v => v.category).sum) M hE C'.hZ w4 w3 hf hl) (g := oF m pc Ls (argsL.reverse ++ .ref a :: rest)) rfl (by rw [C.hml]; exact hml) (Steps.refl _) (a := a) (by rw [eT]; exact qa) qc (argsL := argsL) (rest := rest) (lenOf hpd hlen) rfl (by show 2 * 0 + _ ≤ _; exact Nat.le_of_eq (Nat.zero_add _)) (hb C.2.1 hd) (fun vm₁ hw₁ => ⟨ha, eT, by show ck + _ ≤ _; omega, by show cn + _ ≤ _; omega, hJJ _ (hJ.2 (s.setVm vm0) _ hJ.1 hw₁)⟩)
 dsimp only [Pt.U, Pt.locs, Pt.cells, Pt.slots] at X' hS2 hgr e1 e2 e3 st hQ hK
 subst e1 e2 e3
 obtain ⟨J1, j1, j2, K1⟩ := K v T'.heap T'.vm hQ hK
 obtain ⟨u, o, g1, g2⟩ := K1 T' ⟨T'.vm, T'.heap.size, _, _, _, X', rfl, N.app fun q hq => hP _ hle (hN q hq), by omega, by omega, foldS hSi (by rw [eT]; exact hk0) hS2 hgr, Nat.le_refl _, (fun q => nomatch q), j1, j2⟩
 exact ⟨u, o, st.trans g1, g2⟩
theorem oH.kpA {P : Addr → Prop} {vm : Vm} {ys : List Addr} (K : Km P h h') (hP : ∀ x, P x → Safe Z EL vm h x ∨ h.size ≤ x) (hy : ∀ x ∈ ys, x < h'.size ∧ (x ∈ xs ∨ h.size ≤ x)) (H : oH Z EL h xs vm) : oH Z EL h' ys vm := by
 have q := H.2.1.step (h' := h') fun y By cell hy => by
  obtain ⟨c', e1, -, -, -, e5⟩ := K.2 y cell hy
  rw [e5 fun hPy => (hP y hPy).elim (fun z => z By) (fun z => absurd (Array.getElem?_eq_some_iff.mp hy).1 (Nat.not_lt.mpr z))] at e1
  exact e1
 exact ⟨H.1, q.1, fun x hm => ⟨(hy x hm).1, fun Bx => (hy x hm).2.elim (fun z => (H.2.2 x z).2 (q.2 x Bx)) (fun z => (Safe.new z) (q.2 x Bx))⟩⟩
theorem oH.fr {vm : Vm} (K : Km (fun x => h.size ≤ x) h h') (H : oH Z EL h xs vm) : oH Z EL h' xs vm := H.kp K fun _ q => Or.inr q
theorem oH.tl {vm : Vm} (H : oH Z EL h (a :: xs) vm) : oH Z EL h xs vm := H.sub fun _ q => List.mem_cons_of_mem _ q
theorem Hf (C : Q0 p s m meth c P Z y B ml rt) {x : Int64} (hd : decode B pc = .ok (.dup2, 1)) (K : Kd b p l e R s m args below meth c P Q J h k n (oF m (pc + 1) Ls (.long x :: .long x :: S))) : Kd b p l e R s m args below meth c P Q J h k n (oF m pc Ls (.long x :: S)) := K.step fun _ A _ => XT.dup2L A C.1 rfl (hb C.2.1 hd) rfl
theorem Jl {g : JFrame} {k' n' : Nat} (hk : k ≤ k') (hn : n ≤ n') (K : Kd b p l e R s m args below meth c P Q J h k' n' g) : Kd b p l e R s m args below meth c P Q J h k n g := fun T hT => by
 obtain ⟨vm0, k0, locs, ck, cn, X, eT, N, q1, q2, r⟩ := hT
 exact K T ⟨vm0, k0, locs, ck, cn, X, eT, N, Nat.le_trans q1 hk, Nat.le_trans q2 hn, r⟩
theorem Q9 {rm : Room} {as' : Array Value} {h0 : Heap} {Q : Option Value → Heap → Prop} (hpl : plainFor y = true) (hef : ∀ m, entryFrame m as' ml = oF m 0 Ls [])
  (body : ∀ (p : Program) (e : Env) (s : State) (m : MethodId) (below : List Frame) (meth : Method) (c : Code), Q0 p s m meth c (fun a => h0.size ≤ a) Z y B ml rt → s.heap = h0 → Kd false p l e rm s m as' below meth c (fun a => h0.size ≤ a) (fun v h _ => Q v h) oT h0 0 0 (oF m 0 Ls [])) : KH l Z y B ml rt rm as' h0 (fun a => h0.size ≤ a) Q := KH.of hpl (fun _ q => q) (fun E _ q => Nat.le_trans E.1 q) hef body
theorem Xr {rm : Room} {as' : Array Value} {h0 : Heap} {Q : Option Value → Heap → Prop} (hya : Z.heap.size ≤ a) (hpl : plainFor y = true) (hef : ∀ m, entryFrame m as' ml = oF m 0 Ls [])
  (body : ∀ (p : Program) (e : Env) (s : State) (m : MethodId) (below : List Frame) (meth : Method) (c : Code), Q0 p s m meth c (fun x => x = a ∨ h0.size ≤ x) Z y B ml rt → s.heap = h0 → Kd false p l e rm s m as' below meth c (fun x => x = a ∨ h0.size ≤ x) (fun v h _ => Q v h) oT h0 0 0 (oF m 0 Ls [])) : KH l Z y B ml rt rm as' h0 (fun x => x = a ∨ h0.size ≤ x) Q := KH.of hpl (fun _ q => Or.inr q) (fun E x q => q.elim (fun r => r ▸ hya) (fun r => Nat.le_trans E.1 r)) hef body
theorem Gk {rm : Room} {as' : Array Value} {h0 : Heap} {Q : Option Value → Heap → Prop} {a' : Addr} (hya : Z.heap.size ≤ a) (hyb : Z.heap.size ≤ a') (hpl : plainFor y = true) (hef : ∀ m, entryFrame m as' ml = oF m 0 Ls [])
  (body : ∀ (p : Program) (e : Env) (s : State) (m : MethodId) (below : List Frame) (meth : Method) (c : Code), Q0 p s m meth c (fun x => x = a ∨ x = a' ∨ h0.size ≤ x) Z y B ml rt → s.heap = h0 → Kd false p l e rm s m as' below meth c (fun x => x = a ∨ x = a' ∨ h0.size ≤ x) (fun v h _ => Q v h) oT h0 0 0 (oF m 0 Ls [])) : KH l Z y B ml rt rm as' h0 (fun x => x = a ∨ x = a' ∨ h0.size ≤ x) Q := KH.of hpl (fun _ q => Or.inr (Or.inr q)) (fun E x q => q.elim (fun r => r ▸ hya) (fun q => q.elim (fun r => r ▸ hyb) (fun r => Nat.le_trans E.1 r))) hef body
end OwnX2
section OwnLW
open Jvm.Free.SB Jvm.Free.SBG
theorem Ri {Z : State} {vm : Vm} {h : Heap} {q : SQ} {units : Array UInt16} {us : List Int32} (hal : Z.vm.Alike vm) (F : SlB (Wst Z vm h) q units) (hlat : units.all (· < 256) = true) (eu : units.toList.map (fun u => Value.int (Jvm.Lit.byteI u)) = us.map QW) (hu : ∀ u ∈ us, XW u ∧ QG u) : Xo Z h q.sa us := by
 obtain ⟨cS, ⟨⟨s1, s2, s3, ⟨cv, kv, iv, s4, s4'⟩, ⟨cc, kc, ic, s5, s5'⟩, s6, s7, s8, s9, s10, s11, s12, -⟩, hfS, hcS⟩, ⟨kS, k1, k2, k3⟩, hB, hbyt⟩ := F
 have f1 : vm.findClass "java/lang/String" = some cS := hfS
 have f2 : vm.classes[cS]? = some kS := k1
 have f3 : vm.findClass "[B" = some q.SA.cls := hB
 obtain ⟨kv', z4⟩ := ff_back (U := Wst Z vm h) hal s4
 obtain ⟨kc', z5⟩ := ff_back (U := Wst Z vm h) hal s5
 have g1 : Z.vm.findClass "java/lang/String" = some q.sC.cls := by rw [← hal.findClass, hcS]; exact f1
 obtain ⟨kz, g2, -⟩ := Vm.findClass_spec g1
 obtain ⟨kz', g3, g4⟩ := hal.2.2 _ _ g2
 have g5 : kz' = kS := Option.some.inj (g3.symm.trans (hcS ▸ f2))
 have g6 : Z.vm.findClass "[B" = some q.SA.cls := by rw [← hal.findClass]; exact f3
 obtain ⟨kb, g7, -⟩ := Vm.findClass_spec g6
 obtain ⟨kb', g8, g9⟩ := hal.2.2 _ _ g7
 obtain ⟨hst, k9, hk9, comp, hkind⟩ := s11
 have e9 : k9 = kb' := Option.some.inj ((show vm.classes[q.SA.cls]? = some k9 from hk9).symm.trans g8)
 have A : Kv Z h q.sd .byte (us.map QW) := ⟨q.SA, ⟨s10, ⟨hst, kb, g7, comp, by rw [e9, g9] at hkind; exact hkind⟩, s12⟩, by rw [hbyt, SBG.stringBytes_lat hlat, ← eu]; exact Array.ext' (by rw [Array.toList_map]; rfl)⟩
 exact ⟨⟨q.sC, kz, s1, g1, g2, s3, fun _ => by rw [k3, ← g5, g4]⟩, fun u z => (hu u z).1, q.sd, 0, _, ⟨q.sC, cv, kv', iv, q.fSV, s1, z4, s6, s2, s3, by rw [← hal.assignable]; exact s4', s8⟩, ⟨q.sC, cc, kc', ic, q.fSC, s1, z5, s7, s2, s3, by rw [← hal.assignable]; exact s5', s9⟩, A, Or.inl ⟨rfl, fun u z => (hu u z).2, rfl⟩⟩
section OwnLW2
variable {p : Program} {l : Launch} {e : Env} {R : Room} {s : State} {m : MethodId} {args : Array Value} {below : List Frame} {meth : Method} {c : Code} {T : State} {locs : List Loc} {cells slots : Nat}
def Yc (T : State) (Zs : StringT) (kS : Class) (units : Array UInt16) (cl : ClassId) (ix : Nat) : State := (withString T Zs.cB Zs.cS kS Zs.fv Zs.fc units).setVm (({ T.vm with interned := T.vm.interned.push (units, T.heap.size + 1) } : Vm).noted cl ix (.string (T.heap.size + 1)))
theorem Gp {T : State} {Zs : StringT} {kS : Class} {units : Array UInt16} {cl : ClassId} {ix : Nat} : (Yc T Zs kS units cl ix).heap = (T.heap.push (bytesOf Zs.cB units)).push (stringAt Zs.cS kS Zs.fv Zs.fc units T.heap.size) := by
 show (withString T Zs.cB Zs.cS kS Zs.fv Zs.fc units).heap = _
 rw [withString_eq]
 rfl
theorem Jj (X : Stand p l e R s m args below meth c T locs cells slots) (hexec : p.tables.exec = Jvm.exec) {own text : String} {index : Nat} (hown : s.vm.findClass own = some m.cls) (hlink : (Jvm.Cond.stringLink own index text).before args s = true) (hS : ∀ a ∈ Bundle.stringAtoms, a.before args s = true) {g : JFrame} (hg : g.method = m) (hdg : decode c.code g.pc = .ok (.ldc_w index, 3)) {n : Nat} (hn : 4 * text.toList.length ≤ n) (hbig : n ≤ 536870912) (hc2 : cells + 2 ≤ R.cells) (hs4 : slots + (n + 4) ≤ R.slots) :
  ∃ (a : Addr) (T₂ : State), Stand p l e R (s.setVm T₂.vm) m args below meth c T₂ locs (cells + 2) (slots + (n + 4)) ∧ s.Since T₂.vm T₂.heap.size ∧ (∃ k₂, T₂.vm.classes[m.cls]? = some k₂ ∧ k₂.resolved[index]? = some (some (.string a))) ∧ Ext T.heap T₂.heap ∧ T.Warmed39 T₂.vm ∧ (T₂.vm.interned = T.vm.interned ∨ ∃ units : Array UInt16, utf16ToString? units = some text ∧ T₂.vm.interned = T.vm.interned.push (units, a) ∧ T.vm.interned.find? (fun p => p.1 == units) = none ∧ (units.all (· < 256) = true → SlIn 0 T.heap.size T₂ a units)) ∧
   ∀ target, Steps p.tables e below (T₂.setTop { g with pc := g.pc + 3, stack := .ref a :: g.stack }) target → Steps p.tables e below (T.setTop g) target := by
 subst hg
 obtain ⟨k, cf, i, units, hk, hcf, hc, hu, hnm, hdec, hres⟩ := Cond.stringLink_spec hown hlink
 obtain ⟨k', hk', he⟩ := X.warmed.alike.2.2 _ _ hk
 have hcf' : k'.cf = some cf := by rw [he]; exact hcf
 have b0 : (stringBytes units).size ≤ n := Nat.le_trans (text_bytes_le hdec) hn
 have w2 : k.cf.bind (namesOf? ·.constantPool index) = some (.string text) := by rw [hcf]; exact hnm
 have w3 : k.cf.bind (·.constantPool[index]?) = some (.string i) := by rw [hcf]; exact hc
 have w4 : k.cf.bind (·.constantPool.utf8? i) = some units := by rw [hcf]; simp [ConstantPool.utf8?, hu]
 have v2 : k'.cf.bind (namesOf? ·.constantPool index) = some (.string text) := by rw [hcf']; exact hnm
 have v3 : k'.cf.bind (·.constantPool[index]?) = some (.string i) := by rw [hcf']; exact hc
 have v4 : k'.cf.bind (·.constantPool.utf8? i) = some units := by rw [hcf']; simp [ConstantPool.utf8?, hu]
 have way : (∃ a, k'.resolved[index]? = some (some (.string a))) ∨ (k'.resolved[index]? = some none ∧ k.resolved[index]? = some none) := by
  rcases X.warmed.wide.entry hk hk' index with e0 | ⟨-, r, e1, hr | ⟨a, t, rfl, -⟩⟩
  ·exact hres.elim (fun z => Or.inr ⟨e0.trans z, z⟩) fun ⟨a, z⟩ => Or.inl ⟨a, e0.trans z⟩
  ·cases r <;> simp [State.rightAt, hk, hcf, hnm] at hr
  ·exact Or.inl ⟨a, e1⟩
 rcases way with ⟨a, hr⟩ | ⟨op', op⟩
 ·refine ⟨a, T, (X.mono (by omega) (by omega)).retabled X.warmed.wide, X.warmed.since _, ⟨k', hk', hr⟩, ⟨Nat.le_refl _, fun _ _ q => q⟩, State.Warmed39.refl T, Or.inl rfl, fun target hrest => ?_⟩
  jvm_step X.here [hexec, hdg, ldc_w.wp_string (e := e) (s := T) (f := g) X.here.top hk' hcf' hc hr]
  exact hrest
 rcases hf : T.vm.interned.find? (fun p => p.1 == units) with _ | ⟨u', a⟩
 ·obtain ⟨Zs, LZs, hn4, fv, fc⟩ := StringT.of_atoms (args := args) hS
  obtain ⟨kS, kB, LZ, ty⟩ := LZs.warmer X.warmed.alike
  have ff : T.fitsSlot = s.fitsSlot := (show T.fitsSlot = (s.setVm T.vm).fitsSlot from rfl).trans (State.fitsSlot_setVm X.warmed.alike)
  have hp : (T.vm.interned.push (units, T.heap.size + 1)).find? (fun p => p.1 == units) = some (units, T.heap.size + 1) := by rw [Array.find?_push, hf]; simp
  have hW : s.Warmed39 (Yc T Zs kS units g.method.cls index).vm := (X.warmed.wide.interns units (T.heap.size + 1)).notedString hk (Or.inl op) w2 w3 w4 hp
  have X2 := (X.pushed (bytesOf Zs.cB units)).pushed (stringAt Zs.cS kS Zs.fv Zs.fc units T.heap.size)
  rw [← withString_eq] at X2
  have b1 : (bytesOf Zs.cB units).slots.size = (stringBytes units).size := by rw [(Cell.writeAll_facts _ _).2.2]; simp [bytes0]
  have b2 : (stringAt Zs.cS kS Zs.fv Zs.fc units T.heap.size).slots.size = 4 := by simp [string0, Cell.setSlot, ty, hn4]
  have hz : (Yc T Zs kS units g.method.cls index).heap.size = T.heap.size + 2 := by rw [Gp]; simp [Array.size_push]
  have one : T.Interned1 (Yc T Zs kS units g.method.cls index) := ⟨by rw [hz]; omega, Or.inr ⟨units, T.heap.size + 1, rfl, Nat.le_succ _, by rw [hz]; exact Nat.lt_succ_self _⟩⟩
  refine ⟨T.heap.size + 1, Yc T Zs kS units g.method.cls index, (X2.mono (by omega) (by rw [b1, b2]; omega)).retabled hW, ⟨hW, State.Booked.step (X.warmed.no_new_pair _) X.same.2.1 one⟩, ⟨_, Vm.classes_note_self (vm := { T.vm with interned := T.vm.interned.push (units, T.heap.size + 1) }) index (.string (T.heap.size + 1)) hk', Class.resolved_note_self (.string (T.heap.size + 1)) op'⟩, ext_of fun a0 h0 => by rw [Gp, Array.getElem?_push, if_neg (by rw [Array.size_push]; omega), Array.getElem?_push, if_neg (by omega)], ((State.Warmed39.refl T).interns units (T.heap.size + 1)).notedString hk' (Or.inl op') v2 v3 v4 hp,
   Or.inr ⟨units, hdec, rfl, hf, fun hl => made_sl hS LZs hn4 ty hW.alike (by rw [Gp, Array.getElem?_push, if_neg (by rw [Array.size_push]; omega), Array.getElem?_push, if_pos rfl]) (by rw [Gp, Array.getElem?_push, if_pos (by rw [Array.size_push])]) hl (by omega) 0⟩, fun target hrest => ?_⟩
  refine Steps.instr (c := _) (by simpa using X.here) ?_
  simp [jvm, wpRun, exec, X.here.top, hexec, hdg]
  refine ldc_w.wp_string_new (e := e) (s := T) (f := g) X.here.top hk' hcf' hc hu op' hf LZ.found LZ.cls LZ.initialized LZ.ordinary LZ.foundB LZ.clsB LZ.kindB LZ.value LZ.coder (by rw [Launch.admits_arrayLengthLimit X.admits]; omega) (by rw [Launch.admits_maxHeapBytes X.admits]; simp only [componentBytes]; omega) (X.cellsAbove hc2) (by have := X.slotsAbove hs4; show T.slotsUsed + (stringBytes units).size + kS.instanceTypes.size ≤ _; rw [ty, hn4]; omega) (stringBytes_fit LZ.clsB LZ.kindB units) LZ.valueSlot LZ.coderSlot (by rw [ff]; exact fv _) (by rw [ff]; exact fc _) fun d' acts' acts'' => ?_
  have t1 : (withString T Zs.cB Zs.cS kS Zs.fv Zs.fc units).topJava?.isSome := by simpa [withString] using X.here.top
  have t2 : (Yc T Zs kS units g.method.cls index).topJava?.isSome := by simpa [Yc] using t1
  unfold Yc at t2 hrest
  simp [jvm, afterInstr, t1, t2]
  rw [State.modifyTopJava_setTop]
  exact hrest
 ·obtain rfl : u' = units := by simpa using Array.find?_some hf
  have hW : s.Warmed39 (T.vm.noted g.method.cls index (.string a)) := X.warmed.wide.notedString hk (Or.inl op) w2 w3 w4 hf
  refine ⟨a, T.setVm (T.vm.noted g.method.cls index (.string a)), (X.mono (by omega) (by omega)).retabled hW, ⟨hW, State.Booked.step (T₂ := T.setVm (T.vm.noted g.method.cls index (.string a))) (X.warmed.no_new_pair _) X.same.2.1 ⟨Nat.le_refl _, Or.inl rfl⟩⟩, ⟨_, Vm.classes_note_self index (.string a) hk', Class.resolved_note_self (.string a) op'⟩, ⟨Nat.le_refl _, fun _ _ q => q⟩, (State.Warmed39.refl T).notedString hk' (Or.inl op') v2 v3 v4 hf, Or.inl rfl, fun target hrest => ?_⟩
  jvm_step X.here [hexec, hdg, ldc_w.wp_string_found (e := e) (s := T) (f := g) X.here.top hk' hcf' hc hu op' hf]
  exact hrest
end OwnLW2
section OwnLW3
variable {b : Bool} {p : Program} {l : Launch} {e : Env} {R : Room} {s : State} {m : MethodId} {args : Array Value} {below : List Frame} {meth : Method} {c : Code} {P : Addr → Prop} {Q : Option Value → Heap → Vm → Prop} {J : Vm → Prop} {h : Heap} {k n : Nat} {Z : State} {a0 : Array Value} {y : MethodName} {B : ByteArray} {ml : Nat} {rt : Option FieldType}
variable (pc : Nat) {Ls : List Slot} {S : List Value} {h' : Heap} {a : Addr} {vs : List Value} {i : Nat} {j : Int32} {EL : List (String × Nat)} {xs : List Addr}
theorem TD (C : Q0 p s m meth c P Z y B ml rt) {idx nn : Nat} {text : String} (us : List Int32) (w : (Jvm.Cond.stringLink y.cls idx text).before a0 Z = true) (wS : ∀ a ∈ Bundle.stringAtoms, a.before a0 Z = true) (hEL : EW Z a0 EL) (hmem : (y.cls, idx) ∈ EL) (hd : decode B pc = .ok (.ldc_w idx, 3)) (h256 : ∀ c ∈ text.toList, c.toNat < 256) (ht : text.toList.map (fun c => Value.int (Jvm.Lit.byteI c.toNat.toUInt16)) = us.map QW) (hnn : 4 * text.toList.length ≤ nn) (hbig : nn ≤ 536870912) (hlen : us.length < 2 ^ 31) (hu : ∀ u ∈ us, XW u ∧ QG u) (hk : k + 2 ≤ R.cells) (hn : n + (nn + 4) ≤ R.slots)
  (K : ∀ a h', Ext h h' → Xo Z h' a us → Kd true p l e R s m args below meth c P Q (oH Z EL h' xs) h' (k + 2) (n + (nn + 4)) (oF m (pc + 3) Ls (.ref a :: S))) : Kd true p l e R s m args below meth c P Q (oH Z EL h xs) h k n (oF m pc Ls S) := fun T hT => by
 obtain ⟨vm0, k0, locs, ck, cn, X, eT, N, q1, q2, hS, hk0, hbv, hJ⟩ := hT
 have C' := C.rebase hS
 obtain ⟨a, T', X', hS', ⟨kk, hkk, hrr⟩, E, hTW, hint, st⟩ := Jj X C.1 (own := y.cls) C'.own (mvS C'.hZ w) (fun d hd => by
  have q := wS d hd
  simp only [Bundle.stringAtoms, List.mem_cons, List.not_mem_nil, or_false] at hd
  rcases hd with rfl | rfl | rfl | rfl | rfl | rfl | rfl
  rotate_left 2
  exact mvA (s := s.setVm vm0) C'.hZ q
  all_goals exact mv (s := s.setVm vm0) C'.hZ q) (g := oF m pc Ls S) rfl (hb C.2.1 hd) (n := nn) hnn hbig (by omega) (by omega)
 subst eT
 have hW : Z.Warmed39 T'.vm := State.Warmed39.trans (t := s.setVm vm0) C'.hZ hS'.1
 have A := CHv.at X C'.hZ hEL hJ.1.2.1
 have B1 := CHv.later (vm := T.vm) (vm1 := T'.vm) (wtrans (s := s.setVm vm0) C'.hZ X.warmed) (show (Wst Z T.vm T.heap).Warmed39 T'.vm from hTW) hEL E (hint.imp id fun ⟨vs, _, e1, e2, e3⟩ => ⟨vs, a, e1, e2, fun hl => by
  obtain ⟨q, cS, hq, r1, r2, r3, r4, r5⟩ := e3 hl
  have F : SlB T' q vs := ⟨cS, r1, r2, r3, r4⟩
  exact ⟨q, hq, F.carry (V := Wst Z T'.vm T'.heap) (Vm.Alike.refl _) F.ha F.hd, r5.elim (fun z => absurd z.1 (Nat.not_lt_zero _)) id⟩⟩) A.1
 have hC := A.trans ⟨B1.1, E.1, B1.2⟩
 have hf : T'.vm.findClass y.cls = some m.cls := by rw [hS'.1.alike.findClass]; exact C'.own
 obtain ⟨k2, cf, i, units, g1, g2, g3, g4, -, g5, -⟩ := Cond.stringLink_spec (s := Wst Z T'.vm T'.heap) hf (show (Jvm.Cond.stringLink y.cls idx text).before a0 (Wst Z T'.vm T'.heap) = true from mvS (s := { Z with heap := T'.heap }) hW w)
 have e2 : kk = k2 := Option.some.inj (hkk.symm.trans (show T'.vm.classes[m.cls]? = some k2 from g1))
 subst e2
 obtain ⟨q, hqa, F⟩ := SlB.of (hC.1 _ hmem units a ⟨m.cls, kk, cf, i, hf, g1, g2, g3, g4, Or.inl hrr⟩)
 have G := Ri (us := us) hW.alike F (Jvm.ClassFile.lat_of_text g5 h256) (by rw [← ht, Jvm.ClassFile.units_of_text g5 h256, List.map_map]; rfl) hu
 rw [hqa] at G
 obtain ⟨u, o, r1, r2⟩ := K a T'.heap E G T' ⟨_, T'.heap.size, locs, _, _, X', rfl, N, by omega, by omega, hS.trans hS' (Nat.le_trans hk0 E.1), Nat.le_refl _, (fun q => nomatch q), ⟨hW, hC.1, fun x hm => ⟨Nat.lt_of_lt_of_le (hJ.1.2.2 x hm).1 E.1, hC.safe (hJ.1.2.2 x hm).1 (hJ.1.2.2 x hm).2⟩⟩, oH.js hEL⟩
 exact ⟨u, o, st u r1, r2⟩
end OwnLW3
end OwnLW
section OwnS9
variable {Z : State} {h h' : Heap} {a sb va : Addr} {us ws : List Int32} {cnt : Int32} {bs : List Value} {P : Addr → Prop}
def YB (v : Value) : Prop := ∃ x : Int32, v = .int x.toInt8.toInt32
theorem YB.fit {v : Value} (q : YB v) : fits .byte v = true ∧ ∀ x, v ≠ .ref x := by
 obtain ⟨x, rfl⟩ := q
 exact ⟨fits_nar_byte x, fun _ z => nomatch z⟩
theorem YB.lv (u : Int32) : YB (QW u) := ⟨u, rfl⟩
theorem YB.zero : YB (.int 0) := ⟨0, rfl⟩
theorem YB.nar (x : Int32) : YB (.int (nar .byte x)) := ⟨x, rfl⟩
theorem YB.map {v : Value} (q : v ∈ us.map QW) : YB v := by
 obtain ⟨u, -, rfl⟩ := List.mem_map.mp q
 exact YB.lv u
theorem YB.rep {n : Nat} {v : Value} (q : v ∈ List.replicate n (Value.int 0)) : YB v := by
 rw [(List.mem_replicate.mp q).2]; exact YB.zero
def QY (Z : State) (h : Heap) (a : Addr) (us : List Int32) : Prop := Exa Z h a "java/lang/String" ∧ (∀ u ∈ us, XW u ∧ QG u) ∧ ∃ b, Fld Z h a "java/lang/String" "value" "[B" (.ref b) ∧ Fld Z h a "java/lang/String" "coder" "B" (.int 0) ∧ Kv Z h b .byte (us.map QW)
theorem QY.ext (F : QY Z h a us) (E : Ext h h') : QY Z h' a us := by
 obtain ⟨X, c, b, f1, f2, A⟩ := F
 exact ⟨X.ext E, c, b, f1.ext E, f2.ext E, A.ext E⟩
theorem QY.str (F : QY Z h a us) : Xo Z h a us := by
 obtain ⟨X, c, b, f1, f2, A⟩ := F
 exact ⟨X, fun u q => (c u q).1, b, 0, _, f1, f2, A, Or.inl ⟨rfl, fun u q => (c u q).2, rfl⟩⟩
theorem QY.of (F : Xo Z h a us) (su : ∀ u ∈ us, QG u) : QY Z h a us := by
 obtain ⟨X, c, b, cd, bs, f1, f2, A, e⟩ := F
 obtain ⟨rfl, -, rfl⟩ := e.resolve_right (fun q => by obtain ⟨u, q1, q2⟩ := q.2.1; exact q2 (su u q1))
 exact ⟨X, fun u q => ⟨c u q, su u q⟩, b, f1, f2, A⟩
theorem KR {x b : Addr} {Cn : String} {kk : Nat} {a0 : Array Value} {ty : FieldType} {vs : List Value} (X : Exa Z h x Cn) (wi : (Jvm.Cond.instantiable Cn kk).before a0 Z = true) (A : Kv Z h b ty vs) : x ≠ b := by
 obtain ⟨cl, A, -⟩ := A
 exact ne_arr X wi A
theorem QY.kpX {q : Addr} {Cn : String} {a0 : Array Value} {kk : Nat} (F : QY Z h a us) (X : Exa Z h q Cn) (hn : Cn ≠ "java/lang/String") (wi : (Jvm.Cond.instantiable Cn kk).before a0 Z = true) (K : Km (fun x => x = q ∨ h.size ≤ x) h h') : QY Z h' a us := by
 obtain ⟨X1, c, b, f1, f2, A⟩ := F
 have na : ¬ (a = q ∨ h.size ≤ a) := fun r => r.elim (fun z => (Exa.ne X1 X hn.symm) z) (fun z => absurd X1.lt (Nat.not_lt.mpr z))
 have nb : ¬ (b = q ∨ h.size ≤ b) := fun r => r.elim (fun z => (KR X wi A) z.symm) (fun z => absurd A.lt (Nat.not_lt.mpr z))
 exact ⟨K.exa X1, c, b, K.fld f1 na, K.fld f2 na, A.kp K nb⟩
theorem QY.wrX {q : Addr} {Cn : String} {a0 : Array Value} {kk sl : Nat} {v : Value} (F : QY Z h a us) (X : Exa Z h q Cn) (hn : Cn ≠ "java/lang/String") (wi : (Jvm.Cond.instantiable Cn kk).before a0 Z = true) (W : Wr h h' q sl v) : QY Z h' a us := by
 obtain ⟨X1, c, b, f1, f2, A⟩ := F
 have na : a ≠ q := Exa.ne X1 X hn.symm
 exact ⟨X1.wr W, c, b, Fld.other W f1 (Or.inl na), Fld.other W f2 (Or.inl na), A.other W fun z => (KR X wi A) z.symm⟩
def XQ (Z : State) (h : Heap) (sb : Addr) (va : Addr) (cnt : Int32) (bs : List Value) : Prop := (Exa Z h sb "java/lang/StringBuilder") ∧ (Fld Z h sb "java/lang/AbstractStringBuilder" "value" "[B" (.ref va)) ∧ (Fld Z h sb "java/lang/AbstractStringBuilder" "coder" "B" (.int 0)) ∧ (Fld Z h sb "java/lang/AbstractStringBuilder" "count" "I" (.int cnt)) ∧ (XE Z h va .byte "[B" bs) ∧ (∀ v ∈ bs, YB v)
theorem XQ.X {Z : State} {h : Heap} {sb : Addr} {va : Addr} {cnt : Int32} {bs : List Value} (F__ : XQ Z h sb va cnt bs) : Exa Z h sb "java/lang/StringBuilder" := F__.1
theorem XQ.V {Z : State} {h : Heap} {sb : Addr} {va : Addr} {cnt : Int32} {bs : List Value} (F__ : XQ Z h sb va cnt bs) : Fld Z h sb "java/lang/AbstractStringBuilder" "value" "[B" (.ref va) := F__.2.1
theorem XQ.K {Z : State} {h : Heap} {sb : Addr} {va : Addr} {cnt : Int32} {bs : List Value} (F__ : XQ Z h sb va cnt bs) : Fld Z h sb "java/lang/AbstractStringBuilder" "coder" "B" (.int 0) := F__.2.2.1
theorem XQ.N {Z : State} {h : Heap} {sb : Addr} {va : Addr} {cnt : Int32} {bs : List Value} (F__ : XQ Z h sb va cnt bs) : Fld Z h sb "java/lang/AbstractStringBuilder" "count" "I" (.int cnt) := F__.2.2.2.1
theorem XQ.A {Z : State} {h : Heap} {sb : Addr} {va : Addr} {cnt : Int32} {bs : List Value} (F__ : XQ Z h sb va cnt bs) : XE Z h va .byte "[B" bs := F__.2.2.2.2.1
theorem XQ.B {Z : State} {h : Heap} {sb : Addr} {va : Addr} {cnt : Int32} {bs : List Value} (F__ : XQ Z h sb va cnt bs) : ∀ v ∈ bs, YB v := F__.2.2.2.2.2
theorem XQ.ext (F : XQ Z h sb va cnt bs) (E : Ext h h') : XQ Z h' sb va cnt bs := ⟨F.X.ext E, F.V.ext E, F.K.ext E, F.N.ext E, F.A.ext E, F.B⟩
theorem XQ.kp (F : XQ Z h sb va cnt bs) (K : Km P h h') (q1 : ¬ P sb) (q2 : ¬ P va) : XQ Z h' sb va cnt bs := ⟨K.exa F.X, K.fld F.V q1, K.fld F.K q1, K.fld F.N q1, F.A.kp K q2, F.B⟩
theorem XQ.fit (F : XQ Z h sb va cnt bs) : ∀ v ∈ bs, fits .byte v = true ∧ ∀ x, v ≠ .ref x := fun v q => (F.B v q).fit
def XJ (Z : State) (h : Heap) (sb : Addr) (va : Addr) (us : List Int32) : Prop := (∃ bs, XQ Z h sb va (Int32.ofNat us.length) bs ∧ bs.take us.length = us.map QW ∧ us.length ≤ bs.length ∧ bs.length ≤ 70 ∧ 0 < bs.length) ∧ (∀ u ∈ us, XW u ∧ QG u)
theorem XJ.R {Z : State} {h : Heap} {sb : Addr} {va : Addr} {us : List Int32} (F__ : XJ Z h sb va us) : ∃ bs, XQ Z h sb va (Int32.ofNat us.length) bs ∧ bs.take us.length = us.map QW ∧ us.length ≤ bs.length ∧ bs.length ≤ 70 ∧ 0 < bs.length := F__.1
theorem XJ.C {Z : State} {h : Heap} {sb : Addr} {va : Addr} {us : List Int32} (F__ : XJ Z h sb va us) : ∀ u ∈ us, XW u ∧ QG u := F__.2
theorem XJ.ext (F : XJ Z h sb va us) (E : Ext h h') : XJ Z h' sb va us := by
 obtain ⟨⟨bs, r, q⟩, c⟩ := F
 exact ⟨⟨bs, r.ext E, q⟩, c⟩
theorem XJ.X (F : XJ Z h sb va us) : Exa Z h sb "java/lang/StringBuilder" := by
 obtain ⟨⟨bs, r, q⟩, c⟩ := F
 exact r.X
theorem XJ.exa (F : XJ Z h sb va us) : Exa Z h va "[B" := by
 obtain ⟨⟨bs, r, q⟩, c⟩ := F
 exact r.A.2
theorem DG {t : Nat} (h0 : 0 < t) (h1 : t < 2 ^ 31) : (0 : Int32) < Int32.ofNat t := by
 rw [Int32.lt_iff_toInt_lt, Xk t h1]
 show (0 : Int) < t
 omega
def GZ (v : Nat) : List Value := if v = 0 then [] else [.int (Int32.ofNat v)]
def QQ (Z : State) (h : Heap) (a : Addr) (v : Nat) : Prop := Exa Z h a "java/math/BigInteger" ∧ Fld Z h a "java/math/BigInteger" "signum" "I" (.int (if v = 0 then 0 else 1)) ∧ ∃ ma, Fld Z h a "java/math/BigInteger" "mag" "[I" (.ref ma) ∧ XE Z h ma .int "[I" (GZ v)
theorem QQ.ext {v : Nat} (F : QQ Z h a v) (E : Ext h h') : QQ Z h' a v := by
 obtain ⟨X, s, ma, f, A⟩ := F
 exact ⟨X.ext E, s.ext E, ma, f.ext E, A.ext E⟩
theorem QQ.p {v : Nat} (F : QQ Z h a v) (hv : v ≠ 0) : ∃ ma, Fld Z h a "java/math/BigInteger" "signum" "I" (.int 1) ∧ Fld Z h a "java/math/BigInteger" "mag" "[I" (.ref ma) ∧ XE Z h ma .int "[I" [.int (Int32.ofNat v)] := by
 obtain ⟨X, s, ma, f, A⟩ := F
 rw [if_neg hv] at s
 rw [GZ, if_neg hv] at A
 exact ⟨ma, s, f, A⟩
theorem QQ.wrX {q : Addr} {Cn : String} {a0 : Array Value} {kk sl v : Nat} {w : Value} (F : QQ Z h a v) (X : Exa Z h q Cn) (hn : Cn ≠ "java/math/BigInteger") (wi : (Jvm.Cond.instantiable Cn kk).before a0 Z = true) (W : Wr h h' q sl w) : QQ Z h' a v := by
 obtain ⟨X1, s, ma, f, A⟩ := F
 have na : a ≠ q := Exa.ne X1 X hn.symm
 exact ⟨X1.wr W, Fld.other W s (Or.inl na), ma, Fld.other W f (Or.inl na), A.other W fun z => (KR X wi A.1) z.symm⟩
theorem QQ.z (F : QQ Z h a 0) : Fld Z h a "java/math/BigInteger" "signum" "I" (.int 0) := F.2.1
def QO (Z : State) (h : Heap) (a : Addr) (va : Addr) (len : Int32) (bs : List Value) : Prop := (Exa Z h a "java/math/MutableBigInteger") ∧ (Fld Z h a "java/math/MutableBigInteger" "value" "[I" (.ref va)) ∧ (Fld Z h a "java/math/MutableBigInteger" "intLen" "I" (.int len)) ∧ (Fld Z h a "java/math/MutableBigInteger" "offset" "I" (.int 0)) ∧ (XE Z h va .int "[I" bs)
theorem QO.X {Z : State} {h : Heap} {a : Addr} {va : Addr} {len : Int32} {bs : List Value} (F__ : QO Z h a va len bs) : Exa Z h a "java/math/MutableBigInteger" := F__.1
theorem QO.V {Z : State} {h : Heap} {a : Addr} {va : Addr} {len : Int32} {bs : List Value} (F__ : QO Z h a va len bs) : Fld Z h a "java/math/MutableBigInteger" "value" "[I" (.ref va) := F__.2.1
theorem QO.N {Z : State} {h : Heap} {a : Addr} {va : Addr} {len : Int32} {bs : List Value} (F__ : QO Z h a va len bs) : Fld Z h a "java/math/MutableBigInteger" "intLen" "I" (.int len) := F__.2.2.1
theorem QO.O {Z : State} {h : Heap} {a : Addr} {va : Addr} {len : Int32} {bs : List Value} (F__ : QO Z h a va len bs) : Fld Z h a "java/math/MutableBigInteger" "offset" "I" (.int 0) := F__.2.2.2.1
theorem QO.A {Z : State} {h : Heap} {a : Addr} {va : Addr} {len : Int32} {bs : List Value} (F__ : QO Z h a va len bs) : XE Z h va .int "[I" bs := F__.2.2.2.2
theorem QO.ext {len : Int32} (F : QO Z h a va len bs) (E : Ext h h') : QO Z h' a va len bs := ⟨F.X.ext E, F.V.ext E, F.N.ext E, F.O.ext E, F.A.ext E⟩
theorem QO.kp {len : Int32} (F : QO Z h a va len bs) (K : Km P h h') (q1 : ¬ P a) (q2 : ¬ P va) : QO Z h' a va len bs := ⟨K.exa F.X, K.fld F.V q1, K.fld F.N q1, K.fld F.O q1, F.A.kp K q2⟩
theorem QO.other {len : Int32} {q : Addr} {sl : Nat} {v : Value} (F : QO Z h a va len bs) (W : Wr h h' q sl v) (q1 : a ≠ q) (q2 : va ≠ q) : QO Z h' a va len bs := ⟨F.X.wr W, Fld.other W F.V (Or.inl q1), Fld.other W F.N (Or.inl q1), Fld.other W F.O (Or.inl q1), F.A.other W q2⟩
theorem QO.set {len : Int32} {i : Nat} {v : Value} (F : QO Z h a va len bs) (W : Wr h h' va i v) (q1 : a ≠ va) : QO Z h' a va len (bs.set i v) := ⟨F.X.wr W, Fld.other W F.V (Or.inl q1), Fld.other W F.N (Or.inl q1), Fld.other W F.O (Or.inl q1), F.A.same W⟩
theorem QO.kp2 {len len' : Int32} {u ua : Addr} {ws : List Value} {kk : Nat} {a0 : Array Value} (F : QO Z h a va len bs) (G : QO Z h u ua len' ws) (wi : (Jvm.Cond.instantiable "java/math/MutableBigInteger" kk).before a0 Z = true) (hn : a ≠ u) (hm : va ≠ ua) (K : Km (fun x => x = u ∨ x = ua ∨ h.size ≤ x) h h') : QO Z h' a va len bs :=
 F.kp K (fun r => r.elim hn (fun r => r.elim (fun z => KR F.X wi G.A.1 z) (fun z => absurd F.X.lt (Nat.not_lt.mpr z)))) (fun r => r.elim (fun z => KR G.X wi F.A.1 z.symm) (fun r => r.elim hm (fun z => absurd F.A.1.lt (Nat.not_lt.mpr z))))
theorem QO.eq {len : Int32} {ws : List Value} (F : QO Z h a va len bs) (q : bs = ws) : QO Z h a va len ws := q ▸ F
def YR (Z : State) (h : Heap) (a : Addr) (v : Int64) (sc : Int32) : Prop := Exa Z h a "java/math/BigDecimal" ∧ Fld Z h a "java/math/BigDecimal" "intCompact" "J" (.long v) ∧ Fld Z h a "java/math/BigDecimal" "scale" "I" (.int sc)
theorem YR.ext {v : Int64} {sc : Int32} (F : YR Z h a v sc) (E : Ext h h') : YR Z h' a v sc := ⟨F.1.ext E, F.2.1.ext E, F.2.2.ext E⟩
theorem YR.eq {v w : Int64} {sc : Int32} (F : YR Z h a v sc) (e : v = w) : YR Z h a w sc := e ▸ F
def oW (Z : State) : Prop := (∃ cs : Int32, cs ≠ 0 ∧ Sta Z Z.heap "java/lang/String" "COMPACT_STRINGS" "Z" (.int cs)) ∧ (∃ d, Sta Z Z.heap "java/util/ArrayList" "DEFAULTCAPACITY_EMPTY_ELEMENTDATA" "[Ljava/lang/Object;" (.ref d) ∧ Kv Z Z.heap d (.object "java/lang/Object") []) ∧ (∃ v, v.isRef = true ∧ Sta Z Z.heap "jdk/internal/util/Preconditions" "SIOOBE_FORMATTER" "Ljava/util/function/BiFunction;" v) ∧ (∃ d, Sta Z Z.heap "java/lang/Integer" "DigitOnes" "[B" (.ref d) ∧ Kv Z Z.heap d .byte ((List.range 100).map fun i => .int (Int32.ofNat (48 + i % 10)))) ∧ (∃ d, Sta Z Z.heap "java/lang/Integer" "DigitTens" "[B" (.ref d) ∧ Kv Z Z.heap d .byte ((List.range 100).map fun i => .int (Int32.ofNat (48 + i / 10)))) ∧ (∃ d vs, Sta Z Z.heap "java/math/BigInteger" "posConst" "[Ljava/math/BigInteger;" (.ref d) ∧ Kv Z Z.heap d (.object "java/math/BigInteger") vs ∧ vs.length = 17 ∧ ∀ i, 0 < i → i ≤ 4 → ∃ q, vs[i]? = some (.ref q) ∧ QQ Z Z.heap q i) ∧ (∃ r, Sta Z Z.heap "java/math/RoundingMode" "HALF_UP" "Ljava/math/RoundingMode;" (.ref r) ∧ Fld Z Z.heap r "java/math/RoundingMode" "oldMode" "I" (.int 4)) ∧ (∃ d vs, Sta Z Z.heap "java/math/BigDecimal" "LONG_TEN_POWERS_TABLE" "[J" (.ref d) ∧ Kv Z Z.heap d .long vs ∧ vs.length = 19 ∧ vs[4]? = some (.long 10000)) ∧ (∃ d vs, Sta Z Z.heap "java/math/BigDecimal" "THRESHOLDS_TABLE" "[J" (.ref d) ∧ Kv Z Z.heap d .long vs ∧ vs.length = 19 ∧ vs[4]? = some (.long 922337203685477)) ∧ (Sta Z Z.heap "java/math/BigDecimal" "$assertionsDisabled" "Z" (.int 1)) ∧ (∃ q, Sta Z Z.heap "java/math/BigInteger" "ZERO" "Ljava/math/BigInteger;" (.ref q) ∧ QQ Z Z.heap q 0) ∧ (∃ q, Sta Z Z.heap "java/math/BigInteger" "ONE" "Ljava/math/BigInteger;" (.ref q) ∧ QQ Z Z.heap q 1) ∧ (∃ d vs, Sta Z Z.heap "java/math/BigDecimal" "ZERO_SCALED_BY" "[Ljava/math/BigDecimal;" (.ref d) ∧ Kv Z Z.heap d (.object "java/math/BigDecimal") vs ∧ vs.length = 16 ∧ ∃ q, vs[4]? = some (.ref q) ∧ YR Z Z.heap q 0 4) ∧ (∃ r, Ys Z "java/math/BigInteger" r) ∧ (∃ r, Ys Z "[Ljava/lang/Object;" r)
theorem oW.cs {Z : State} (F__ : oW Z) : ∃ cs : Int32, cs ≠ 0 ∧ Sta Z Z.heap "java/lang/String" "COMPACT_STRINGS" "Z" (.int cs) := F__.1
theorem oW.dce {Z : State} (F__ : oW Z) : ∃ d, Sta Z Z.heap "java/util/ArrayList" "DEFAULTCAPACITY_EMPTY_ELEMENTDATA" "[Ljava/lang/Object;" (.ref d) ∧ Kv Z Z.heap d (.object "java/lang/Object") [] := F__.2.1
theorem oW.sio {Z : State} (F__ : oW Z) : ∃ v, v.isRef = true ∧ Sta Z Z.heap "jdk/internal/util/Preconditions" "SIOOBE_FORMATTER" "Ljava/util/function/BiFunction;" v := F__.2.2.1
theorem oW.ones {Z : State} (F__ : oW Z) : ∃ d, Sta Z Z.heap "java/lang/Integer" "DigitOnes" "[B" (.ref d) ∧ Kv Z Z.heap d .byte ((List.range 100).map fun i => .int (Int32.ofNat (48 + i % 10))) := F__.2.2.2.1
theorem oW.tens {Z : State} (F__ : oW Z) : ∃ d, Sta Z Z.heap "java/lang/Integer" "DigitTens" "[B" (.ref d) ∧ Kv Z Z.heap d .byte ((List.range 100).map fun i => .int (Int32.ofNat (48 + i / 10))) := F__.2.2.2.2.1
theorem oW.pos {Z : State} (F__ : oW Z) : ∃ d vs, Sta Z Z.heap "java/math/BigInteger" "posConst" "[Ljava/math/BigInteger;" (.ref d) ∧ Kv Z Z.heap d (.object "java/math/BigInteger") vs ∧ vs.length = 17 ∧ ∀ i, 0 < i → i ≤ 4 → ∃ q, vs[i]? = some (.ref q) ∧ QQ Z Z.heap q i := F__.2.2.2.2.2.1
theorem oW.up {Z : State} (F__ : oW Z) : ∃ r, Sta Z Z.heap "java/math/RoundingMode" "HALF_UP" "Ljava/math/RoundingMode;" (.ref r) ∧ Fld Z Z.heap r "java/math/RoundingMode" "oldMode" "I" (.int 4) := F__.2.2.2.2.2.2.1
theorem oW.ltp {Z : State} (F__ : oW Z) : ∃ d vs, Sta Z Z.heap "java/math/BigDecimal" "LONG_TEN_POWERS_TABLE" "[J" (.ref d) ∧ Kv Z Z.heap d .long vs ∧ vs.length = 19 ∧ vs[4]? = some (.long 10000) := F__.2.2.2.2.2.2.2.1
theorem oW.thr {Z : State} (F__ : oW Z) : ∃ d vs, Sta Z Z.heap "java/math/BigDecimal" "THRESHOLDS_TABLE" "[J" (.ref d) ∧ Kv Z Z.heap d .long vs ∧ vs.length = 19 ∧ vs[4]? = some (.long 922337203685477) := F__.2.2.2.2.2.2.2.2.1
theorem oW.asr {Z : State} (F__ : oW Z) : Sta Z Z.heap "java/math/BigDecimal" "$assertionsDisabled" "Z" (.int 1) := F__.2.2.2.2.2.2.2.2.2.1
theorem oW.zero {Z : State} (F__ : oW Z) : ∃ q, Sta Z Z.heap "java/math/BigInteger" "ZERO" "Ljava/math/BigInteger;" (.ref q) ∧ QQ Z Z.heap q 0 := F__.2.2.2.2.2.2.2.2.2.2.1
theorem oW.one {Z : State} (F__ : oW Z) : ∃ q, Sta Z Z.heap "java/math/BigInteger" "ONE" "Ljava/math/BigInteger;" (.ref q) ∧ QQ Z Z.heap q 1 := F__.2.2.2.2.2.2.2.2.2.2.2.1
theorem oW.zsb {Z : State} (F__ : oW Z) : ∃ d vs, Sta Z Z.heap "java/math/BigDecimal" "ZERO_SCALED_BY" "[Ljava/math/BigDecimal;" (.ref d) ∧ Kv Z Z.heap d (.object "java/math/BigDecimal") vs ∧ vs.length = 16 ∧ ∃ q, vs[4]? = some (.ref q) ∧ YR Z Z.heap q 0 4 := F__.2.2.2.2.2.2.2.2.2.2.2.2.1
theorem oW.mbi {Z : State} (F__ : oW Z) : ∃ r, Ys Z "java/math/BigInteger" r := F__.2.2.2.2.2.2.2.2.2.2.2.2.2.1
theorem oW.mob {Z : State} (F__ : oW Z) : ∃ r, Ys Z "[Ljava/lang/Object;" r := F__.2.2.2.2.2.2.2.2.2.2.2.2.2.2
theorem Yb {h1 h2 : Heap} {P : Addr → Prop} (E : Ext h h1) (K : Km P h1 h2) (hP : ∀ x, P x → h.size ≤ x) : Ext h h2 := by
 refine ⟨Nat.le_trans E.1 K.1, fun x c q => ?_⟩
 obtain ⟨c', e1, -, -, -, e5⟩ := K.2 x c (E.2 x c q)
 have hx : x < h.size := (Array.getElem?_eq_some_iff.mp q).1
 rw [e5 (fun r => Nat.lt_irrefl _ (Nat.lt_of_lt_of_le hx (hP x r)))] at e1
 exact e1
theorem XJ.vlt (F : XJ Z h sb va us) : va < h.size := by
 obtain ⟨⟨bs, r, q⟩, c⟩ := F
 exact r.A.1.lt
theorem oH.sb0 {EL : List (String × Nat)} {xs : List Addr} {vm : Vm} (X : Exa Z h sb "java/lang/StringBuilder") (K : Km (fun x => x = sb ∨ h.size ≤ x) h h') (hv : h.size ≤ va) (F : XJ Z h' sb va us) (H : oH Z EL h xs vm) : oH Z EL h' (va :: xs) vm :=
 H.kpA K (fun x q => q.elim (fun z => Or.inl (z ▸ Safe.exa H.1.alike X (by decide) (by decide))) Or.inr) fun x q => (List.mem_cons.mp q).elim (fun z => ⟨z ▸ F.vlt, Or.inr (z ▸ hv)⟩) (fun z => ⟨Nat.lt_of_lt_of_le (H.2.2 x z).1 K.1, Or.inl z⟩)
theorem oH.sbk {EL : List (String × Nat)} {xs : List Addr} {vm : Vm} {va' : Addr} (F : XJ Z h sb va us) (K : Km (fun x => x = sb ∨ x = va ∨ h.size ≤ x) h h') (hv : va' = va ∨ h.size ≤ va') (F' : XJ Z h' sb va' ws) (H : oH Z EL h (va :: xs) vm) : oH Z EL h' (va' :: xs) vm :=
 H.kpA K (fun x q => q.elim (fun z => Or.inl (z ▸ Safe.exa H.1.alike F.X (by decide) (by decide))) (fun q => q.elim (fun z => Or.inl (z ▸ (H.2.2 va List.mem_cons_self).2)) Or.inr)) fun x q => (List.mem_cons.mp q).elim (fun z => ⟨z ▸ F'.vlt, hv.elim (fun e => Or.inl (z ▸ e ▸ List.mem_cons_self)) (fun e => Or.inr (z ▸ e))⟩) (fun z => ⟨Nat.lt_of_lt_of_le (H.2.2 x (List.mem_cons_of_mem _ z)).1 K.1, Or.inl (List.mem_cons_of_mem _ z)⟩)
def Xc (Z : State) (h : Heap) (a : Addr) (ea : Addr) (n_ : Nat) (vs : List Value) : Prop := (Exa Z h a "java/util/ArrayList") ∧ (Fld Z h a "java/util/ArrayList" "elementData" "[Ljava/lang/Object;" (.ref ea)) ∧ (Fld Z h a "java/util/ArrayList" "size" "I" (.int (Int32.ofNat n_))) ∧ (∃ mc : Int32, Fld Z h a "java/util/AbstractList" "modCount" "I" (.int mc)) ∧ (X6 Z h ea "java/lang/Object" vs) ∧ (Exa Z h ea "[Ljava/lang/Object;")
theorem Xc.X {Z : State} {h : Heap} {a : Addr} {ea : Addr} {n_ : Nat} {vs : List Value} (F__ : Xc Z h a ea n_ vs) : Exa Z h a "java/util/ArrayList" := F__.1
theorem Xc.D {Z : State} {h : Heap} {a : Addr} {ea : Addr} {n_ : Nat} {vs : List Value} (F__ : Xc Z h a ea n_ vs) : Fld Z h a "java/util/ArrayList" "elementData" "[Ljava/lang/Object;" (.ref ea) := F__.2.1
theorem Xc.N {Z : State} {h : Heap} {a : Addr} {ea : Addr} {n_ : Nat} {vs : List Value} (F__ : Xc Z h a ea n_ vs) : Fld Z h a "java/util/ArrayList" "size" "I" (.int (Int32.ofNat n_)) := F__.2.2.1
theorem Xc.M {Z : State} {h : Heap} {a : Addr} {ea : Addr} {n_ : Nat} {vs : List Value} (F__ : Xc Z h a ea n_ vs) : ∃ mc : Int32, Fld Z h a "java/util/AbstractList" "modCount" "I" (.int mc) := F__.2.2.2.1
theorem Xc.A {Z : State} {h : Heap} {a : Addr} {ea : Addr} {n_ : Nat} {vs : List Value} (F__ : Xc Z h a ea n_ vs) : X6 Z h ea "java/lang/Object" vs := F__.2.2.2.2.1
theorem Xc.Y {Z : State} {h : Heap} {a : Addr} {ea : Addr} {n_ : Nat} {vs : List Value} (F__ : Xc Z h a ea n_ vs) : Exa Z h ea "[Ljava/lang/Object;" := F__.2.2.2.2.2
theorem Xc.ext {ea : Addr} {n_ : Nat} {vs : List Value} (F : Xc Z h a ea n_ vs) (E : Ext h h') : Xc Z h' a ea n_ vs := by
 obtain ⟨X, D, N, ⟨mc, M⟩, A, Y⟩ := F
 exact ⟨X.ext E, D.ext E, N.ext E, ⟨mc, M.ext E⟩, A.ext E, Y.ext E⟩
theorem Xc.eq {ea : Addr} {n_ n' : Nat} {vs vs' : List Value} (F : Xc Z h a ea n_ vs) (e : n_ = n') (e' : vs = vs') : Xc Z h a ea n' vs' := by subst e e'; exact F
theorem QY.kpL {s ea : Addr} {vs : List Value} {a0 : Array Value} {kk : Nat} (F : QY Z h s us) (X : Exa Z h a "java/util/ArrayList") (wi : (Jvm.Cond.instantiable "java/util/ArrayList" kk).before a0 Z = true) (A : X6 Z h ea "java/lang/Object" vs) (Y : Exa Z h ea "[Ljava/lang/Object;") (K : Km (fun x => x = a ∨ x = ea ∨ h.size ≤ x) h h') : QY Z h' s us := by
 obtain ⟨X1, c, b, f1, f2, B⟩ := F
 have na : ¬ (s = a ∨ s = ea ∨ h.size ≤ s) := fun r => r.elim (fun z => (Exa.ne X1 X (by decide)) z) (fun r => r.elim (fun z => (Exa.ne X1 Y (by decide)) z) (fun z => absurd X1.lt (Nat.not_lt.mpr z)))
 have nb : ¬ (b = a ∨ b = ea ∨ h.size ≤ b) := fun r => r.elim (fun z => (KR X wi B) z.symm) (fun r => r.elim (fun z => (Kv.ne B A.arr (by decide)) z) (fun z => absurd B.lt (Nat.not_lt.mpr z)))
 exact ⟨K.exa X1, c, b, K.fld f1 na, K.fld f2 na, B.kp K nb⟩
def Gr (Z : State) (h : Heap) (a : Addr) (ea : Addr) (cap : Nat) (ps : List (Addr × List Int32)) : Prop := (Xc Z h a ea ps.length (ps.map (fun p => Value.ref p.1) ++ List.replicate (cap - ps.length) Value.null)) ∧ (∀ p ∈ ps, QY Z h p.1 p.2) ∧ (ps.length ≤ cap)
theorem Gr.R {Z : State} {h : Heap} {a : Addr} {ea : Addr} {cap : Nat} {ps : List (Addr × List Int32)} (F__ : Gr Z h a ea cap ps) : Xc Z h a ea ps.length (ps.map (fun p => Value.ref p.1) ++ List.replicate (cap - ps.length) Value.null) := F__.1
theorem Gr.T {Z : State} {h : Heap} {a : Addr} {ea : Addr} {cap : Nat} {ps : List (Addr × List Int32)} (F__ : Gr Z h a ea cap ps) : ∀ p ∈ ps, QY Z h p.1 p.2 := F__.2.1
theorem Gr.C {Z : State} {h : Heap} {a : Addr} {ea : Addr} {cap : Nat} {ps : List (Addr × List Int32)} (F__ : Gr Z h a ea cap ps) : ps.length ≤ cap := F__.2.2
theorem Gr.ext {ea : Addr} {cap : Nat} {ps : List (Addr × List Int32)} (F : Gr Z h a ea cap ps) (E : Ext h h') : Gr Z h' a ea cap ps := ⟨F.R.ext E, fun p q => (F.T p q).ext E, F.C⟩
theorem oH.al {EL : List (String × Nat)} {xs : List Addr} {vm : Vm} {ea : Addr} {n_ : Nat} {vs : List Value} (F : Xc Z h a ea n_ vs) (K : Km (fun x => x = a ∨ x = ea ∨ h.size ≤ x) h h') (H : oH Z EL h xs vm) : oH Z EL h' xs vm :=
 H.kpX K fun x q => q.elim (fun z => Or.inl ⟨_, z ▸ F.X, by decide, by decide⟩) (fun q => q.elim (fun z => Or.inl ⟨_, z ▸ F.Y, by decide, by decide⟩) Or.inr)
theorem oH.o1 {EL : List (String × Nat)} {xs : List Addr} {vm : Vm} {Cn : String} (X : Exa Z h a Cn) (h1 : Cn ≠ "java/lang/String") (h2 : Cn ≠ "[B") (K : Km (fun x => x = a ∨ h.size ≤ x) h h') (H : oH Z EL h xs vm) : oH Z EL h' xs vm :=
 H.kpX K fun x q => q.elim (fun z => Or.inl ⟨_, z ▸ X, h1, h2⟩) Or.inr
theorem QY.eq (F : QY Z h a us) (e : us = ws) : QY Z h a ws := e ▸ F
theorem XJ.eq (F : XJ Z h sb va us) (e : us = ws) : XJ Z h sb va ws := e ▸ F
theorem Km.e0 {h0 : Heap} (E : Ext h0 h) (K : Km (fun x => h.size ≤ x) h h') : Ext h0 h' := Yb E K fun _ q => Nat.le_trans E.1 q
theorem Km.e1 {h0 : Heap} (E : Ext h0 h) (K : Km (fun x => x = a ∨ h.size ≤ x) h h') (ha : h0.size ≤ a) : Ext h0 h' := Yb E K fun _ q => q.elim (fun z => z ▸ ha) fun q => Nat.le_trans E.1 q
theorem Km.e2 {h0 : Heap} (E : Ext h0 h) (K : Km (fun x => x = a ∨ x = sb ∨ h.size ≤ x) h h') (ha : h0.size ≤ a) (hb : h0.size ≤ sb) : Ext h0 h' := Yb E K fun _ q => q.elim (fun z => z ▸ ha) fun q => q.elim (fun z => z ▸ hb) fun q => Nat.le_trans E.1 q
def oU (t : String) : List Int32 := t.toList.map fun c => Int32.ofNat c.toNat
def XU (F : Nat → Nat) : List Value := (List.range 101).map fun i => Value.long (Int64.ofNat (F i))
theorem XU.get {F : Nat → Nat} {i : Nat} (hi : i < 101) : (XU F)[i]? = some (.long (Int64.ofNat (F i))) := by simp [XU, hi]
theorem XU.len {F : Nat → Nat} : (XU F).length = 101 := by simp [XU]
theorem XU.set {F : Nat → Nat} {i : Nat} : (XU F).set i (.long (Int64.ofNat (F i + 1))) = XU (fun j => F j + if j = i then 1 else 0) := by
 apply List.ext_getElem?
 intro j
 rw [List.getElem?_set]
 by_cases hj : j < 101
 ·by_cases e : i = j
  ·subst e
   rw [if_pos rfl, XU.len, if_pos hj, XU.get hj, if_pos rfl]
  ·rw [if_neg e, XU.get hj, XU.get hj, if_neg (Ne.symm e)]; rfl
 ·have h1 : ∀ F : Nat → Nat, (XU F)[j]? = none := fun F => List.getElem?_eq_none (by rw [XU.len]; omega)
  rw [h1, h1]
  split
  ·rw [XU.len, if_neg (by omega)]
  ·rfl
def XR (Z : State) (h : Heap) (sc : Addr) (fa : Addr) (ga : Addr) (lab : Int32) (ev : Nat) (fl : Nat) (tp : Nat) (fp : Nat) (Ff : Nat → Nat) (Gf : Nat → Nat) : Prop := (Exa Z h sc "com/example/wardstream/wardstream/engine/Scorecard") ∧ (Fld Z h sc "com/example/wardstream/wardstream/engine/Scorecard" "labelled" "Z" (.int lab)) ∧ (Fld Z h sc "com/example/wardstream/wardstream/engine/Scorecard" "history" "J" (.long 0)) ∧ (Fld Z h sc "com/example/wardstream/wardstream/engine/Scorecard" "evaluated" "J" (.long (Int64.ofNat ev))) ∧ (Fld Z h sc "com/example/wardstream/wardstream/engine/Scorecard" "flagged" "J" (.long (Int64.ofNat fl))) ∧ (Fld Z h sc "com/example/wardstream/wardstream/engine/Scorecard" "truePositives" "J" (.long (Int64.ofNat tp))) ∧ (Fld Z h sc "com/example/wardstream/wardstream/engine/Scorecard" "falsePositives" "J" (.long (Int64.ofNat fp))) ∧ (Fld Z h sc "com/example/wardstream/wardstream/engine/Scorecard" "fraudsAt" "[J" (.ref fa)) ∧ (Fld Z h sc "com/example/wardstream/wardstream/engine/Scorecard" "genuineAt" "[J" (.ref ga)) ∧ (Kv Z h fa .long (XU Ff)) ∧ (Kv Z h ga .long (XU Gf)) ∧ (fa ≠ ga)
theorem XR.X {Z : State} {h : Heap} {sc : Addr} {fa : Addr} {ga : Addr} {lab : Int32} {ev : Nat} {fl : Nat} {tp : Nat} {fp : Nat} {Ff : Nat → Nat} {Gf : Nat → Nat} (F__ : XR Z h sc fa ga lab ev fl tp fp Ff Gf) : Exa Z h sc "com/example/wardstream/wardstream/engine/Scorecard" := F__.1
theorem XR.L {Z : State} {h : Heap} {sc : Addr} {fa : Addr} {ga : Addr} {lab : Int32} {ev : Nat} {fl : Nat} {tp : Nat} {fp : Nat} {Ff : Nat → Nat} {Gf : Nat → Nat} (F__ : XR Z h sc fa ga lab ev fl tp fp Ff Gf) : Fld Z h sc "com/example/wardstream/wardstream/engine/Scorecard" "labelled" "Z" (.int lab) := F__.2.1
theorem XR.H {Z : State} {h : Heap} {sc : Addr} {fa : Addr} {ga : Addr} {lab : Int32} {ev : Nat} {fl : Nat} {tp : Nat} {fp : Nat} {Ff : Nat → Nat} {Gf : Nat → Nat} (F__ : XR Z h sc fa ga lab ev fl tp fp Ff Gf) : Fld Z h sc "com/example/wardstream/wardstream/engine/Scorecard" "history" "J" (.long 0) := F__.2.2.1
theorem XR.E {Z : State} {h : Heap} {sc : Addr} {fa : Addr} {ga : Addr} {lab : Int32} {ev : Nat} {fl : Nat} {tp : Nat} {fp : Nat} {Ff : Nat → Nat} {Gf : Nat → Nat} (F__ : XR Z h sc fa ga lab ev fl tp fp Ff Gf) : Fld Z h sc "com/example/wardstream/wardstream/engine/Scorecard" "evaluated" "J" (.long (Int64.ofNat ev)) := F__.2.2.2.1
theorem XR.G {Z : State} {h : Heap} {sc : Addr} {fa : Addr} {ga : Addr} {lab : Int32} {ev : Nat} {fl : Nat} {tp : Nat} {fp : Nat} {Ff : Nat → Nat} {Gf : Nat → Nat} (F__ : XR Z h sc fa ga lab ev fl tp fp Ff Gf) : Fld Z h sc "com/example/wardstream/wardstream/engine/Scorecard" "flagged" "J" (.long (Int64.ofNat fl)) := F__.2.2.2.2.1
theorem XR.T {Z : State} {h : Heap} {sc : Addr} {fa : Addr} {ga : Addr} {lab : Int32} {ev : Nat} {fl : Nat} {tp : Nat} {fp : Nat} {Ff : Nat → Nat} {Gf : Nat → Nat} (F__ : XR Z h sc fa ga lab ev fl tp fp Ff Gf) : Fld Z h sc "com/example/wardstream/wardstream/engine/Scorecard" "truePositives" "J" (.long (Int64.ofNat tp)) := F__.2.2.2.2.2.1
theorem XR.Q {Z : State} {h : Heap} {sc : Addr} {fa : Addr} {ga : Addr} {lab : Int32} {ev : Nat} {fl : Nat} {tp : Nat} {fp : Nat} {Ff : Nat → Nat} {Gf : Nat → Nat} (F__ : XR Z h sc fa ga lab ev fl tp fp Ff Gf) : Fld Z h sc "com/example/wardstream/wardstream/engine/Scorecard" "falsePositives" "J" (.long (Int64.ofNat fp)) := F__.2.2.2.2.2.2.1
theorem XR.A {Z : State} {h : Heap} {sc : Addr} {fa : Addr} {ga : Addr} {lab : Int32} {ev : Nat} {fl : Nat} {tp : Nat} {fp : Nat} {Ff : Nat → Nat} {Gf : Nat → Nat} (F__ : XR Z h sc fa ga lab ev fl tp fp Ff Gf) : Fld Z h sc "com/example/wardstream/wardstream/engine/Scorecard" "fraudsAt" "[J" (.ref fa) := F__.2.2.2.2.2.2.2.1
theorem XR.B {Z : State} {h : Heap} {sc : Addr} {fa : Addr} {ga : Addr} {lab : Int32} {ev : Nat} {fl : Nat} {tp : Nat} {fp : Nat} {Ff : Nat → Nat} {Gf : Nat → Nat} (F__ : XR Z h sc fa ga lab ev fl tp fp Ff Gf) : Fld Z h sc "com/example/wardstream/wardstream/engine/Scorecard" "genuineAt" "[J" (.ref ga) := F__.2.2.2.2.2.2.2.2.1
theorem XR.VF {Z : State} {h : Heap} {sc : Addr} {fa : Addr} {ga : Addr} {lab : Int32} {ev : Nat} {fl : Nat} {tp : Nat} {fp : Nat} {Ff : Nat → Nat} {Gf : Nat → Nat} (F__ : XR Z h sc fa ga lab ev fl tp fp Ff Gf) : Kv Z h fa .long (XU Ff) := F__.2.2.2.2.2.2.2.2.2.1
theorem XR.VG {Z : State} {h : Heap} {sc : Addr} {fa : Addr} {ga : Addr} {lab : Int32} {ev : Nat} {fl : Nat} {tp : Nat} {fp : Nat} {Ff : Nat → Nat} {Gf : Nat → Nat} (F__ : XR Z h sc fa ga lab ev fl tp fp Ff Gf) : Kv Z h ga .long (XU Gf) := F__.2.2.2.2.2.2.2.2.2.2.1
theorem XR.N {Z : State} {h : Heap} {sc : Addr} {fa : Addr} {ga : Addr} {lab : Int32} {ev : Nat} {fl : Nat} {tp : Nat} {fp : Nat} {Ff : Nat → Nat} {Gf : Nat → Nat} (F__ : XR Z h sc fa ga lab ev fl tp fp Ff Gf) : fa ≠ ga := F__.2.2.2.2.2.2.2.2.2.2.2
theorem XR.ext {sc fa ga : Addr} {lab : Int32} {ev fl tp fp : Nat} {Ff Gf : Nat → Nat} (S : XR Z h sc fa ga lab ev fl tp fp Ff Gf) (E : Ext h h') : XR Z h' sc fa ga lab ev fl tp fp Ff Gf := ⟨S.X.ext E, S.L.ext E, S.H.ext E, S.E.ext E, S.G.ext E, S.T.ext E, S.Q.ext E, S.A.ext E, S.B.ext E, S.VF.ext E, S.VG.ext E, S.N⟩
theorem Km.e3 {h0 : Heap} {q : Addr} (E : Ext h0 h) (K : Km (fun x => x = a ∨ x = sb ∨ x = q ∨ h.size ≤ x) h h') (ha : h0.size ≤ a) (hb : h0.size ≤ sb) (hq : h0.size ≤ q) : Ext h0 h' := Yb E K fun _ r => r.elim (fun z => z ▸ ha) fun r => r.elim (fun z => z ▸ hb) fun r => r.elim (fun z => z ▸ hq) fun r => Nat.le_trans E.1 r
theorem oH.sc {EL : List (String × Nat)} {xs : List Addr} {vm : Vm} {sc fa ga : Addr} {lab : Int32} {ev fl tp fp : Nat} {Ff Gf : Nat → Nat} (S : XR Z h sc fa ga lab ev fl tp fp Ff Gf) (K : Km (fun x => x = sc ∨ x = fa ∨ x = ga ∨ h.size ≤ x) h h') (H : oH Z EL h xs vm) : oH Z EL h' xs vm := by
 obtain ⟨c1, A1, -⟩ := S.VF
 obtain ⟨c2, A2, -⟩ := S.VG
 exact H.kpS K fun x q => q.elim (fun z => Or.inl (z ▸ Safe.exa H.1.alike S.X (by decide) (by decide))) fun q => q.elim (fun z => Or.inl (z ▸ Safe.arr H.1.alike A1 (by decide))) fun q => q.elim (fun z => Or.inl (z ▸ Safe.arr H.1.alike A2 (by decide))) Or.inr
end OwnS9
set_option maxRecDepth 65536
set_option maxHeartbeats 40000000
def Kh (Z : State) (a0 : Array Value) : Prop := ∀ d ∈ tables_1, d.before a0 Z = true
theorem Kh.g {Z : State} {a0 : Array Value} (hw : Kh Z a0) (i : Nat) {w : Cond} (q : tables_1[i]? = some w := by exact rfl) : w.before a0 Z = true := hw _ (List.mem_of_getElem? q)
def oE (B : ByteArray) (t : List (Nat × Instr × Nat)) : Prop := ∀ (i : Nat) {pc : Nat} {r : Instr × Nat}, t[i]? = some (pc, r) → decode B pc = .ok r
theorem oE.g {B : ByteArray} {t : List (Nat × Instr × Nat)} (d : oE B t) (i : Nat) {pc : Nat} {r : Instr × Nat} (q : t[i]? = some (pc, r) := by exact rfl) : decode B pc = .ok r := d i q
theorem fo {Z : State} {a0 : Array Value} {h h' : Heap} {a b : Addr} {v w : Value} {C O n d O' n' d' : String} {t t' : FieldType} (W : Wr h h' a (RoadKit.slotOf Z O' n' d') v) (F : Fld Z h b O n d w) (L : Laid Z a0 C O n d) (L' : Laid Z a0 C O' n' d') (hn : n ≠ n' := by decide) (ht : parseFieldDescriptor d = some t := by exact rfl) (ht' : parseFieldDescriptor d' = some t' := by exact rfl) : Fld Z h' b O n d w := Fld.other W F (Or.inr (slot_ne L L' hn ht ht'))
theorem on {B : ByteArray} : oE B [] := fun _ _ _ q => by simp at q
theorem oc {B : ByteArray} {t : List (Nat × Instr × Nat)} {pc : Nat} {r : Instr × Nat} (T : oE B t) (h : decode B pc = .ok r := by decide +kernel) : oE B ((pc, r) :: t) := fun i _ _ q => by
  cases i with
  | zero => cases q; exact h
  | succ i => exact T i q
theorem d1 : oE prog_19_method_1_code [(0, .aload_n 0, 1), (1, .invokespecial 1, 3), (4, .aload_n 0, 1), (5, .bipush 101, 2), (7, .newarray .long, 2), (9, .putfield 9, 3), (12, .aload_n 0, 1), (13, .bipush 101, 2), (15, .newarray .long, 2), (17, .putfield 15, 3), (20, .aload_n 0, 1), (21, .iload_n 1, 1), (22, .putfield 18, 3), (25, .return_, 1)] := by repeat first | exact on | refine oc ?_
theorem d3 : oE method_3_code [(0, .iload_n 0, 1), (1, .ifCond .ne 7, 3), (8, .iload_n 0, 1), (9, .iconst 1, 1), (10, .if_icmp .ne 7, 3), (17, .getstatic 145, 3), (20, .areturn, 1), (13, .getstatic 142, 3), (16, .areturn, 1), (4, .getstatic 136, 3), (7, .areturn, 1)] := by repeat first | exact on | refine oc ?_
theorem d4 : oE prog_2_method_1_code [(0, .aload_n 0, 1), (1, .invokespecial 1, 3), (4, .aload_n 0, 1), (5, .iload_n 1, 1), (6, .putfield 7, 3), (9, .aload_n 0, 1), (10, .aload_n 2, 1), (11, .putfield 13, 3), (14, .aload_n 0, 1), (15, .aload_n 3, 1), (16, .putfield 17, 3), (19, .return_, 1)] := by repeat first | exact on | refine oc ?_
theorem d5 : oE jdk_30_method_1_code [(0, .aload_n 0, 1), (1, .invokespecial 1, 3), (4, .return_, 1)] := by repeat first | exact on | refine oc ?_
theorem d6 : oE prog_19_method_3_code [(0, .aload_n 0, 1), (1, .dup, 1), (2, .getfield 26, 3), (5, .lconst 1, 1), (6, .ladd, 1), (7, .putfield 26, 3), (10, .aload_n 1, 1), (11, .invokevirtual 29, 3), (14, .getstatic 35, 3), (17, .if_acmp .eq 7, 3), (24, .iconst 0, 1), (25, .istore_n 3, 1), (26, .iload_n 3, 1), (27, .ifCond .eq 13, 3), (40, .iload_n 2, 1), (41, .ifCond .eq 37, 3), (78, .aload_n 0, 1), (79, .getfield 15, 3), (82, .aload_n 1, 1), (83, .invokevirtual 44, 3), (86, .dup2, 1), (87, .laload, 1), (88, .lconst 1, 1), (89, .ladd, 1), (90, .lastore, 1), (91, .aload_n 0, 1), (92, .dup, 1), (93, .getfield 51, 3), (96, .iload_n 3, 1), (97, .ifCond .eq 7, 3), (104, .lconst 0, 1), (105, .ladd, 1), (106, .putfield 51, 3), (109, .return_, 1), (44, .aload_n 0, 1), (45, .getfield 9, 3), (48, .aload_n 1, 1), (49, .invokevirtual 44, 3), (52, .dup2, 1), (53, .laload, 1), (54, .lconst 1, 1), (55, .ladd, 1), (56, .lastore, 1), (57, .aload_n 0, 1), (58, .dup, 1), (59, .getfield 48, 3), (62, .iload_n 3, 1), (63, .ifCond .eq 7, 3), (70, .lconst 0, 1), (71, .ladd, 1), (72, .putfield 48, 3), (75, .goto 34, 3), (20, .iconst 1, 1), (21, .goto 4, 3), (30, .aload_n 0, 1), (31, .dup, 1), (32, .getfield 41, 3), (35, .lconst 1, 1), (36, .ladd, 1), (37, .putfield 41, 3), (100, .lconst 1, 1), (101, .goto 4, 3), (66, .lconst 1, 1), (67, .goto 4, 3)] := by repeat first | exact on | refine oc ?_
theorem d7 : oE prog_2_method_6_code [(0, .aload_n 0, 1), (1, .getfield 13, 3), (4, .areturn, 1)] := by repeat first | exact on | refine oc ?_
theorem d8 : oE prog_2_method_5_code [(0, .aload_n 0, 1), (1, .getfield 7, 3), (4, .ireturn, 1)] := by repeat first | exact on | refine oc ?_
theorem d9 : oE prog_19_method_4_code [(0, .new 54, 3), (3, .dup, 1), (4, .invokespecial 56, 3), (7, .astore_n 1, 1), (8, .aload_n 1, 1), (9, .new 57, 3), (12, .dup, 1), (13, .invokespecial 59, 3), (16, .ldc 60, 2), (18, .invokevirtual 62, 3), (21, .aload_n 0, 1), (22, .getfield 22, 3), (25, .aload_n 0, 1), (26, .getfield 26, 3), (29, .ladd, 1), (30, .invokevirtual 66, 3), (33, .invokevirtual 69, 3), (36, .invokeinterface 73 2, 5), (41, .pop, 1), (42, .aload_n 1, 1), (43, .new 57, 3), (46, .dup, 1), (47, .invokespecial 59, 3), (50, .ldc 79, 2), (52, .invokevirtual 62, 3), (55, .aload_n 0, 1), (56, .getfield 26, 3), (59, .invokevirtual 66, 3), (62, .invokevirtual 69, 3), (65, .invokeinterface 73 2, 5), (70, .pop, 1), (71, .aload_n 1, 1), (72, .new 57, 3), (75, .dup, 1), (76, .invokespecial 59, 3), (79, .ldc 81, 2), (81, .invokevirtual 62, 3), (84, .aload_n 0, 1), (85, .getfield 41, 3), (88, .invokevirtual 66, 3), (91, .invokevirtual 69, 3), (94, .invokeinterface 73 2, 5), (99, .pop, 1), (100, .aload_n 0, 1), (101, .getfield 18, 3), (104, .ifCond .ne 5, 3), (107, .aload_n 1, 1), (108, .areturn, 1), (109, .aload_n 0, 1), (110, .getfield 9, 3), (113, .invokestatic 83, 3), (116, .lstore_n 2, 1), (117, .aload_n 0, 1), (118, .getfield 26, 3), (121, .lload_n 2, 1), (122, .lsub, 1), (123, .lstore 4, 2), (125, .aload_n 1, 1), (126, .new 57, 3), (129, .dup, 1), (130, .invokespecial 59, 3), (133, .ldc 87, 2), (135, .invokevirtual 62, 3), (138, .lload_n 2, 1), (139, .invokevirtual 66, 3), (142, .invokevirtual 69, 3), (145, .invokeinterface 73 2, 5), (150, .pop, 1), (151, .aload_n 1, 1), (152, .new 57, 3), (155, .dup, 1), (156, .invokespecial 59, 3), (159, .ldc 89, 2), (161, .invokevirtual 62, 3), (164, .aload_n 0, 1), (165, .getfield 48, 3), (168, .invokevirtual 66, 3), (171, .invokevirtual 69, 3), (174, .invokeinterface 73 2, 5), (179, .pop, 1), (180, .aload_n 1, 1), (181, .new 57, 3), (184, .dup, 1), (185, .invokespecial 59, 3), (188, .ldc 91, 2), (190, .invokevirtual 62, 3), (193, .aload_n 0, 1), (194, .getfield 51, 3), (197, .invokevirtual 66, 3), (200, .invokevirtual 69, 3), (203, .invokeinterface 73 2, 5), (208, .pop, 1), (222, .aload_n 0, 1), (223, .getfield 48, 3), (229, .aload_n 0, 1), (230, .getfield 41, 3), (209, .aload_n 1, 1), (210, .new 57, 3), (213, .dup, 1), (214, .invokespecial 59, 3), (217, .ldc 93, 2), (219, .invokevirtual 62, 3), (226, .invokestatic 95, 3), (233, .invokestatic 95, 3), (236, .invokestatic 99, 3), (239, .invokevirtual 62, 3), (242, .invokevirtual 69, 3), (245, .invokeinterface 73 2, 5), (250, .pop, 1), (264, .aload_n 0, 1), (265, .getfield 48, 3), (271, .lload_n 2, 1), (251, .aload_n 1, 1), (252, .new 57, 3), (255, .dup, 1), (256, .invokespecial 59, 3), (259, .ldc 103, 2), (261, .invokevirtual 62, 3), (268, .invokestatic 95, 3), (272, .invokestatic 95, 3), (275, .invokestatic 99, 3), (278, .invokevirtual 62, 3), (281, .invokevirtual 69, 3), (284, .invokeinterface 73 2, 5), (289, .pop, 1), (303, .ldc2_w 107, 3), (306, .aload_n 0, 1), (307, .getfield 48, 3), (310, .lmul, 1), (314, .aload_n 0, 1), (315, .getfield 41, 3), (318, .lload_n 2, 1), (319, .ladd, 1), (290, .aload_n 1, 1), (291, .new 57, 3), (294, .dup, 1), (295, .invokespecial 59, 3), (298, .ldc 105, 2), (300, .invokevirtual 62, 3), (311, .invokestatic 95, 3), (320, .invokestatic 95, 3), (323, .invokestatic 99, 3), (326, .invokevirtual 62, 3), (329, .invokevirtual 69, 3), (332, .invokeinterface 73 2, 5), (337, .pop, 1), (351, .aload_n 0, 1), (352, .getfield 51, 3), (358, .lload 4, 2), (338, .aload_n 1, 1), (339, .new 57, 3), (342, .dup, 1), (343, .invokespecial 59, 3), (346, .ldc 109, 2), (348, .invokevirtual 62, 3), (355, .invokestatic 95, 3), (360, .invokestatic 95, 3), (363, .invokestatic 99, 3), (366, .invokevirtual 62, 3), (369, .invokevirtual 69, 3), (372, .invokeinterface 73 2, 5), (377, .pop, 1), (378, .aload_n 1, 1), (379, .new 57, 3), (382, .dup, 1), (383, .invokespecial 59, 3), (386, .ldc 111, 2), (388, .invokevirtual 62, 3), (391, .aload_n 0, 1), (392, .lload_n 2, 1), (393, .lload 4, 2), (395, .invokevirtual 113, 3), (398, .invokevirtual 62, 3), (401, .invokevirtual 69, 3), (404, .invokeinterface 73 2, 5), (409, .pop, 1), (410, .aload_n 1, 1), (411, .new 57, 3), (414, .dup, 1), (415, .invokespecial 59, 3), (418, .ldc 117, 2), (420, .invokevirtual 62, 3), (423, .aload_n 0, 1), (424, .lload_n 2, 1), (425, .invokevirtual 119, 3), (428, .invokevirtual 62, 3), (431, .invokevirtual 69, 3), (434, .invokeinterface 73 2, 5), (439, .pop, 1), (440, .aload_n 1, 1), (441, .areturn, 1)] := by repeat first | exact on | refine oc ?_
theorem Wa : oE jdk_38_method_2_code [(0, .aload_n 0, 1), (1, .invokespecial 1, 3), (4, .aload_n 0, 1), (5, .getstatic 39, 3), (8, .putfield 9, 3), (11, .return_, 1)] := by repeat first | exact on | refine oc ?_
theorem WZ : oE jdk_39_method_1_code [(0, .aload_n 0, 1), (1, .invokespecial 1, 3), (4, .aload_n 0, 1), (5, .iconst 0, 1), (6, .putfield 7, 3), (9, .return_, 1)] := by repeat first | exact on | refine oc ?_
theorem DS : oE jdk_22_method_1_code [(0, .aload_n 0, 1), (1, .invokespecial 1, 3), (4, .return_, 1)] := by repeat first | exact on | refine oc ?_
theorem C8 : oE jdk_67_method_1_code [(0, .aload_n 0, 1), (1, .bipush 16, 2), (3, .invokespecial 1, 3), (6, .return_, 1)] := by repeat first | exact on | refine oc ?_
theorem J4 : oE jdk_68_method_2_code [(0, .aload_n 0, 1), (1, .invokespecial 3, 3), (4, .getstatic 18, 3), (7, .ifCond .eq 18, 3), (10, .aload_n 0, 1), (11, .iload_n 1, 1), (12, .newarray .byte, 2), (14, .putfield 15, 3), (17, .aload_n 0, 1), (18, .iconst 0, 1), (19, .putfield 22, 3), (22, .goto 16, 3), (38, .return_, 1)] := by repeat first | exact on | refine oc ?_
theorem WT : oE jdk_67_method_7_code [(0, .aload_n 0, 1), (1, .aload_n 1, 1), (2, .invokespecial 29, 3), (5, .pop, 1), (6, .aload_n 0, 1), (7, .areturn, 1)] := by repeat first | exact on | refine oc ?_
theorem Yl : oE jdk_68_method_22_code [(0, .aload_n 1, 1), (1, .ifnonnull 8, 3), (9, .aload_n 1, 1), (10, .invokevirtual 32, 3), (13, .istore_n 2, 1), (14, .aload_n 0, 1), (15, .aload_n 0, 1), (16, .getfield 79, 3), (19, .iload_n 2, 1), (20, .iadd, 1), (21, .invokevirtual 100, 3), (24, .aload_n 0, 1), (25, .aload_n 0, 1), (26, .getfield 79, 3), (29, .aload_n 1, 1), (30, .invokevirtual 208, 3), (33, .aload_n 0, 1), (34, .dup, 1), (35, .getfield 79, 3), (38, .iload_n 2, 1), (39, .iadd, 1), (40, .putfield 79, 3), (43, .aload_n 0, 1), (44, .areturn, 1)] := by repeat first | exact on | refine oc ?_
theorem U7 : oE jdk_42_method_54_code [(0, .aload_n 0, 1), (1, .getfield 9, 3), (4, .arraylength, 1), (5, .aload_n 0, 1), (6, .invokevirtual 335, 3), (9, .ishr, 1), (10, .ireturn, 1)] := by repeat first | exact on | refine oc ?_
theorem WY : oE jdk_42_method_152_code [(0, .getstatic 38, 3), (3, .ifCond .eq 10, 3), (6, .aload_n 0, 1), (7, .getfield 15, 3), (10, .goto 4, 3), (14, .ireturn, 1)] := by repeat first | exact on | refine oc ?_
theorem Yq : oE jdk_68_method_9_code [(0, .aload_n 0, 1), (1, .getfield 15, 3), (4, .arraylength, 1), (5, .aload_n 0, 1), (6, .getfield 22, 3), (9, .ishr, 1), (10, .istore_n 2, 1), (11, .iload_n 1, 1), (12, .iload_n 2, 1), (13, .isub, 1), (14, .ifCond .le 24, 3), (38, .return_, 1), (17, .aload_n 0, 1), (18, .aload_n 0, 1), (19, .getfield 15, 3), (22, .aload_n 0, 1), (23, .iload_n 1, 1), (24, .invokevirtual 104, 3), (27, .aload_n 0, 1), (28, .getfield 22, 3), (31, .ishl, 1), (32, .invokestatic 108, 3), (35, .putfield 15, 3)] := by repeat first | exact on | refine oc ?_
theorem JM : oE jdk_68_method_73_code [(0, .aload_n 0, 1), (1, .aload_n 2, 1), (2, .invokevirtual 397, 3), (5, .aload_n 2, 1), (6, .aload_n 0, 1), (7, .getfield 15, 3), (10, .iload_n 1, 1), (11, .aload_n 0, 1), (12, .getfield 22, 3), (15, .invokevirtual 399, 3), (18, .return_, 1)] := by repeat first | exact on | refine oc ?_
theorem TX : oE jdk_68_method_71_code [(0, .getstatic 18, 3), (3, .ifCond .eq 18, 3), (6, .aload_n 0, 1), (7, .getfield 22, 3), (10, .aload_n 1, 1), (11, .invokevirtual 40, 3), (14, .if_icmp .eq 7, 3), (21, .return_, 1)] := by repeat first | exact on | refine oc ?_
theorem H0 : oE jdk_42_method_147_code [(0, .aload_n 0, 1), (1, .invokevirtual 335, 3), (4, .iload_n 3, 1), (5, .if_icmp .ne 23, 3), (8, .aload_n 0, 1), (9, .getfield 9, 3), (12, .iconst 0, 1), (13, .aload_n 1, 1), (14, .iload_n 2, 1), (15, .iload_n 3, 1), (16, .ishl, 1), (17, .aload_n 0, 1), (18, .getfield 9, 3), (21, .arraylength, 1), (22, .invokestatic 212, 3), (25, .goto 18, 3), (43, .return_, 1)] := by repeat first | exact on | refine oc ?_
theorem WV : oE jdk_67_method_16_code [(0, .aload_n 0, 1), (1, .lload_n 1, 1), (2, .invokespecial 56, 3), (5, .pop, 1), (6, .aload_n 0, 1), (7, .areturn, 1)] := by repeat first | exact on | refine oc ?_
theorem Yd : oE jdk_68_method_33_code [(0, .aload_n 0, 1), (1, .getfield 79, 3), (4, .istore_n 3, 1), (5, .iload_n 3, 1), (6, .lload_n 1, 1), (7, .invokestatic 254, 3), (10, .iadd, 1), (11, .istore 4, 2), (13, .aload_n 0, 1), (14, .iload 4, 2), (16, .invokevirtual 100, 3), (19, .aload_n 0, 1), (20, .invokevirtual 83, 3), (23, .ifCond .eq 17, 3), (26, .lload_n 1, 1), (27, .iload 4, 2), (29, .aload_n 0, 1), (30, .getfield 15, 3), (33, .invokestatic 259, 3), (36, .pop, 1), (37, .goto 15, 3), (52, .aload_n 0, 1), (53, .iload 4, 2), (55, .putfield 79, 3), (58, .aload_n 0, 1), (59, .areturn, 1)] := by repeat first | exact on | refine oc ?_
theorem Ks : oE jdk_35_method_15_code [(0, .iconst 1, 1), (1, .istore_n 2, 1), (2, .lload_n 0, 1), (3, .lconst 0, 1), (4, .lcmp, 1), (5, .ifCond .lt 8, 3), (8, .iconst 0, 1), (9, .istore_n 2, 1), (10, .lload_n 0, 1), (11, .lneg, 1), (12, .lstore_n 0, 1), (13, .ldc2_w 140, 3), (16, .lstore_n 3, 1), (17, .iconst 1, 1), (18, .istore 5, 2), (20, .iload 5, 2), (22, .bipush 19, 2), (24, .if_icmp .ge 26, 3), (27, .lload_n 0, 1), (28, .lload_n 3, 1), (29, .lcmp, 1), (30, .ifCond .le 8, 3), (33, .iload 5, 2), (35, .iload_n 2, 1), (36, .iadd, 1), (37, .ireturn, 1), (38, .ldc2_w 53, 3), (41, .lload_n 3, 1), (42, .lmul, 1), (43, .lstore_n 3, 1), (44, .iinc 5 1, 3), (47, .goto (-27), 3)] := by repeat first | exact on | refine oc ?_
theorem TV : oE jdk_68_method_68_code [(0, .getstatic 18, 3), (3, .ifCond .eq 14, 3), (6, .aload_n 0, 1), (7, .getfield 22, 3), (10, .ifCond .ne 7, 3), (13, .iconst 1, 1), (14, .goto 4, 3), (18, .ireturn, 1)] := by repeat first | exact on | refine oc ?_
theorem Kk : oE jdk_35_method_14_code [(0, .iload_n 2, 1), (1, .istore 7, 2), (3, .lload_n 0, 1), (4, .lconst 0, 1), (5, .lcmp, 1), (6, .ifCond .ge 7, 3), (13, .iconst 0, 1), (14, .istore 8, 2), (16, .iload 8, 2), (18, .ifCond .ne 6, 3), (21, .lload_n 0, 1), (22, .lneg, 1), (23, .lstore_n 0, 1), (24, .lload_n 0, 1), (25, .ldc2_w 129, 3), (28, .lcmp, 1), (29, .ifCond .gt 53, 3), (82, .lload_n 0, 1), (83, .l2i, 1), (84, .istore 10, 2), (86, .iload 10, 2), (88, .bipush (-100), 2), (90, .if_icmp .gt 53, 3), (143, .aload_n 3, 1), (144, .iinc 7 (-1), 3), (147, .iload 7, 2), (149, .getstatic 133, 3), (152, .iload 10, 2), (154, .ineg, 1), (155, .baload, 1), (156, .bastore, 1), (157, .iload 10, 2), (159, .bipush (-9), 2), (161, .if_icmp .ge 17, 3), (178, .iload 8, 2), (180, .ifCond .eq 12, 3), (192, .iload 7, 2), (194, .ireturn, 1), (93, .iload 10, 2), (95, .bipush 100, 2), (97, .idiv, 1), (98, .istore 9, 2), (100, .iload 9, 2), (102, .bipush 100, 2), (104, .imul, 1), (105, .iload 10, 2), (107, .isub, 1), (108, .istore 6, 2), (110, .iload 9, 2), (112, .istore 10, 2), (114, .aload_n 3, 1), (115, .iinc 7 (-1), 3), (118, .iload 7, 2), (120, .getstatic 133, 3), (123, .iload 6, 2), (125, .baload, 1), (126, .bastore, 1), (127, .aload_n 3, 1), (128, .iinc 7 (-1), 3), (131, .iload 7, 2), (133, .getstatic 137, 3), (136, .iload 6, 2), (138, .baload, 1), (139, .bastore, 1), (140, .goto (-54), 3), (164, .aload_n 3, 1), (165, .iinc 7 (-1), 3), (168, .iload 7, 2), (170, .getstatic 137, 3), (173, .iload 10, 2), (175, .ineg, 1), (176, .baload, 1), (177, .bastore, 1)] := by repeat first | exact on | refine oc ?_
theorem Ak : oE jdk_67_method_42_code [(0, .new 18, 3), (3, .dup, 1), (4, .aload_n 0, 1), (5, .invokespecial 137, 3), (8, .areturn, 1)] := by repeat first | exact on | refine oc ?_
theorem Av : oE jdk_42_method_53_code [(0, .aload_n 0, 1), (1, .aload_n 1, 1), (2, .aconst_null, 1), (3, .invokespecial 489, 3), (6, .return_, 1)] := by repeat first | exact on | refine oc ?_
theorem GG : oE jdk_42_method_150_code [(0, .aload_n 0, 1), (1, .invokespecial 1, 3), (4, .aload_n 1, 1), (5, .invokevirtual 552, 3), (8, .astore_n 3, 1), (9, .aload_n 1, 1), (10, .invokevirtual 549, 3), (13, .istore 4, 2), (15, .aload_n 1, 1), (16, .invokevirtual 1047, 3), (19, .ifCond .eq 22, 3), (22, .aload_n 0, 1), (23, .iconst 0, 1), (24, .putfield 15, 3), (27, .aload_n 0, 1), (28, .aload_n 3, 1), (29, .iconst 0, 1), (30, .iload 4, 2), (32, .invokestatic 54, 3), (35, .putfield 9, 3), (38, .goto 59, 3), (97, .return_, 1)] := by repeat first | exact on | refine oc ?_
theorem D7 : oE jdk_68_method_64_code [(0, .aload_n 0, 1), (1, .getfield 15, 3), (4, .areturn, 1)] := by repeat first | exact on | refine oc ?_
theorem DR : oE jdk_67_method_93_code [(0, .aload_n 0, 1), (1, .invokespecial 343, 3), (4, .ireturn, 1)] := by repeat first | exact on | refine oc ?_
theorem DN : oE jdk_68_method_6_code [(0, .aload_n 0, 1), (1, .getfield 79, 3), (4, .ireturn, 1)] := by repeat first | exact on | refine oc ?_
theorem HV : oE jdk_65_method_132_code [(0, .iload_n 1, 1), (1, .ifCond .ne 9, 3), (4, .iload_n 2, 1), (5, .aload_n 0, 1), (6, .arraylength, 1), (7, .if_icmp .eq 10, 3), (17, .aload_n 0, 1), (18, .invokevirtual 310, 3), (21, .checkcast 311, 3), (24, .areturn, 1), (10, .aload_n 0, 1), (11, .iload_n 1, 1), (12, .iload_n 2, 1), (13, .invokestatic 339, 3), (16, .areturn, 1)] := by repeat first | exact on | refine oc ?_
theorem Yy : oE jdk_65_method_133_code [(0, .iload_n 1, 1), (1, .iload_n 2, 1), (2, .invokestatic 343, 3), (5, .iload_n 2, 1), (6, .iload_n 1, 1), (7, .isub, 1), (8, .istore_n 3, 1), (9, .iload_n 3, 1), (10, .newarray .byte, 2), (12, .astore 4, 2), (14, .aload_n 0, 1), (15, .iload_n 1, 1), (16, .aload 4, 2), (18, .iconst 0, 1), (19, .aload_n 0, 1), (20, .arraylength, 1), (21, .iload_n 1, 1), (22, .isub, 1), (23, .iload_n 3, 1), (24, .invokestatic 304, 3), (27, .invokestatic 150, 3), (30, .aload 4, 2), (32, .areturn, 1)] := by repeat first | exact on | refine oc ?_
theorem C9 : oE jdk_65_method_131_code [(0, .iload_n 1, 1), (1, .iload_n 0, 1), (2, .if_icmp .ge 35, 3), (37, .return_, 1)] := by repeat first | exact on | refine oc ?_
theorem TY : oE jdk_29_method_69_code [(0, .iload_n 0, 1), (1, .iload_n 1, 1), (2, .if_icmp .gt 7, 3), (9, .iload_n 1, 1), (10, .ireturn, 1), (5, .iload_n 0, 1), (6, .goto 4, 3)] := by repeat first | exact on | refine oc ?_
theorem XV : oE jdk_38_method_25_code [(0, .aload_n 0, 1), (1, .dup, 1), (2, .getfield 63, 3), (5, .iconst 1, 1), (6, .iadd, 1), (7, .putfield 63, 3), (10, .aload_n 0, 1), (11, .aload_n 1, 1), (12, .aload_n 0, 1), (13, .getfield 9, 3), (16, .aload_n 0, 1), (17, .getfield 48, 3), (20, .invokevirtual 131, 3), (23, .iconst 1, 1), (24, .ireturn, 1)] := by repeat first | exact on | refine oc ?_
theorem XI : oE jdk_38_method_24_code [(0, .iload_n 3, 1), (1, .aload_n 2, 1), (2, .arraylength, 1), (3, .if_icmp .ne 8, 3), (11, .aload_n 2, 1), (12, .iload_n 3, 1), (13, .aload_n 1, 1), (14, .aastore, 1), (15, .aload_n 0, 1), (16, .iload_n 3, 1), (17, .iconst 1, 1), (18, .iadd, 1), (19, .putfield 48, 3), (22, .return_, 1), (6, .aload_n 0, 1), (7, .invokevirtual 129, 3), (10, .astore_n 2, 1)] := by repeat first | exact on | refine oc ?_
theorem Ht : oE jdk_38_method_7_code [(0, .aload_n 0, 1), (1, .aload_n 0, 1), (2, .getfield 48, 3), (5, .iconst 1, 1), (6, .iadd, 1), (7, .invokevirtual 69, 3), (10, .areturn, 1)] := by repeat first | exact on | refine oc ?_
theorem Xh : oE jdk_38_method_6_code [(0, .aload_n 0, 1), (1, .getfield 9, 3), (4, .arraylength, 1), (5, .istore_n 2, 1), (6, .iload_n 2, 1), (7, .ifCond .gt 13, 3), (10, .aload_n 0, 1), (11, .getfield 9, 3), (14, .getstatic 39, 3), (17, .if_acmp .eq 28, 3), (45, .aload_n 0, 1), (46, .bipush 10, 2), (48, .iload_n 1, 1), (49, .invokestatic 79, 3), (52, .anewarray 7, 3), (55, .dup_x1, 1), (56, .putfield 9, 3), (59, .areturn, 1), (20, .iload_n 2, 1), (21, .iload_n 1, 1), (22, .iload_n 2, 1), (23, .isub, 1), (24, .iload_n 2, 1), (25, .iconst 1, 1), (26, .ishr, 1), (27, .invokestatic 73, 3), (30, .istore_n 3, 1), (31, .aload_n 0, 1), (32, .aload_n 0, 1), (33, .getfield 9, 3), (36, .iload_n 3, 1), (37, .invokestatic 66, 3), (40, .dup_x1, 1), (41, .putfield 9, 3), (44, .areturn, 1)] := by repeat first | exact on | refine oc ?_
theorem TW : oE jdk_29_method_65_code [(0, .iload_n 0, 1), (1, .iload_n 1, 1), (2, .if_icmp .lt 7, 3), (9, .iload_n 1, 1), (10, .ireturn, 1), (5, .iload_n 0, 1), (6, .goto 4, 3)] := by repeat first | exact on | refine oc ?_
theorem TH : oE jdk_38_method_20_code [(0, .iload_n 1, 1), (1, .aload_n 0, 1), (2, .getfield 48, 3), (5, .invokestatic 118, 3), (8, .pop, 1), (9, .aload_n 0, 1), (10, .iload_n 1, 1), (11, .invokevirtual 123, 3), (14, .areturn, 1)] := by repeat first | exact on | refine oc ?_
theorem BL : oE jdk_31_method_17_code [(0, .iload_n 0, 1), (1, .iload_n 1, 1), (2, .aconst_null, 1), (3, .invokestatic 105, 3), (6, .ireturn, 1)] := by repeat first | exact on | refine oc ?_
theorem VJ : oE jdk_41_method_11_code [(0, .iload_n 0, 1), (1, .ifCond .lt 8, 3), (4, .iload_n 0, 1), (5, .iload_n 1, 1), (6, .if_icmp .lt 10, 3), (16, .iload_n 0, 1), (17, .ireturn, 1)] := by repeat first | exact on | refine oc ?_
theorem AS : oE jdk_38_method_18_code [(0, .aload_n 0, 1), (1, .getfield 9, 3), (4, .iload_n 1, 1), (5, .aaload, 1), (6, .areturn, 1)] := by repeat first | exact on | refine oc ?_
theorem YI : oE jdk_42_method_66_code [(0, .aload_n 0, 1), (1, .aload_n 1, 1), (2, .if_acmp .ne 5, 3), (7, .aload_n 1, 1), (8, .instanceof 10, 3), (11, .ifCond .eq 43, 3), (14, .aload_n 1, 1), (15, .checkcast 10, 3), (18, .astore_n 2, 1), (19, .getstatic 38, 3), (22, .ifCond .eq 14, 3), (25, .aload_n 0, 1), (26, .getfield 15, 3), (29, .aload_n 2, 1), (30, .getfield 15, 3), (33, .if_icmp .ne 21, 3), (36, .aload_n 0, 1), (37, .getfield 9, 3), (40, .aload_n 2, 1), (41, .getfield 9, 3), (44, .invokestatic 541, 3), (47, .ifCond .eq 7, 3), (54, .iconst 0, 1), (55, .ireturn, 1), (50, .iconst 1, 1), (51, .goto 4, 3), (5, .iconst 1, 1), (6, .ireturn, 1)] := by repeat first | exact on | refine oc ?_
theorem YC : oE jdk_43_method_13_code [(0, .aload_n 0, 1), (1, .arraylength, 1), (2, .aload_n 1, 1), (3, .arraylength, 1), (4, .if_icmp .ne 30, 3), (34, .iconst 0, 1), (35, .ireturn, 1), (9, .iload_n 2, 1), (10, .aload_n 0, 1), (11, .arraylength, 1), (12, .if_icmp .ge 20, 3), (32, .iconst 1, 1), (33, .ireturn, 1), (15, .aload_n 0, 1), (16, .iload_n 2, 1), (17, .baload, 1), (18, .aload_n 1, 1), (19, .iload_n 2, 1), (20, .baload, 1), (21, .if_icmp .eq 5, 3), (26, .iinc 2 1, 3), (29, .goto (-20), 3), (24, .iconst 0, 1), (25, .ireturn, 1), (7, .iconst 0, 1), (8, .istore_n 2, 1)] := by repeat first | exact on | refine oc ?_
theorem GL : oE method_4_code [(0, .iload_n 0, 1), (1, .ifCond .ne 5, 3), (4, .aload_n 1, 1), (5, .areturn, 1), (6, .iload_n 0, 1), (7, .iconst 1, 1), (8, .if_icmp .ne 5, 3), (11, .aload_n 2, 1), (12, .areturn, 1), (13, .iload_n 0, 1), (14, .iconst 2, 1), (15, .if_icmp .ne 5, 3), (18, .aload_n 3, 1), (19, .areturn, 1)] := by repeat first | exact on | refine oc ?_
theorem Dv : oE jdk_38_method_8_code [(0, .aload_n 0, 1), (1, .getfield 48, 3), (4, .ireturn, 1)] := by repeat first | exact on | refine oc ?_
theorem YS : oE prog_19_method_8_code [(11, .iload 5, 2), (13, .iload 4, 2), (15, .if_icmp .ge 20, 3), (35, .lload_n 1, 1), (36, .lreturn, 1), (18, .aload_n 3, 1), (19, .iload 5, 2), (21, .laload, 1), (22, .lstore 6, 2), (24, .lload_n 1, 1), (25, .lload 6, 2), (27, .ladd, 1), (28, .lstore_n 1, 1), (29, .iinc 5 1, 3), (32, .goto (-21), 3), (0, .lconst 0, 1), (1, .lstore_n 1, 1), (2, .aload_n 0, 1), (3, .astore_n 3, 1), (4, .aload_n 3, 1), (5, .arraylength, 1), (6, .istore 4, 2), (8, .iconst 0, 1), (9, .istore 5, 2)] := by repeat first | exact on | refine oc ?_
theorem Y9 : oE jdk_68_method_10_code [(0, .aload_n 0, 1), (1, .getfield 15, 3), (4, .arraylength, 1), (5, .istore_n 2, 1), (6, .iload_n 1, 1), (7, .aload_n 0, 1), (8, .getfield 22, 3), (11, .ishl, 1), (12, .istore_n 3, 1), (13, .iload_n 3, 1), (14, .iload_n 2, 1), (15, .isub, 1), (16, .istore 4, 2), (18, .iload_n 2, 1), (19, .iload 4, 2), (21, .iload_n 2, 1), (22, .iconst 2, 1), (23, .aload_n 0, 1), (24, .getfield 22, 3), (27, .ishl, 1), (28, .iadd, 1), (29, .invokestatic 114, 3), (32, .istore 5, 2), (34, .iload 5, 2), (36, .ldc 39, 2), (38, .if_icmp .ne 13, 3), (51, .iload 5, 2), (53, .aload_n 0, 1), (54, .getfield 22, 3), (57, .ishr, 1), (58, .ireturn, 1)] := by repeat first | exact on | refine oc ?_
theorem Hn : oE jdk_48_method_27_code [(0, .iload_n 0, 1), (1, .iload_n 1, 1), (2, .iload_n 2, 1), (3, .invokestatic 194, 3), (6, .iadd, 1), (7, .istore_n 3, 1), (8, .iconst 0, 1), (9, .iload_n 3, 1), (10, .if_icmp .ge 11, 3), (13, .iload_n 3, 1), (14, .ldc 200, 2), (16, .if_icmp .gt 5, 3), (19, .iload_n 3, 1), (20, .ireturn, 1)] := by repeat first | exact on | refine oc ?_
theorem Gt : oE jdk_65_method_121_code [(0, .iload_n 1, 1), (1, .aload_n 0, 1), (2, .arraylength, 1), (3, .if_icmp .ne 11, 3), (14, .iload_n 1, 1), (15, .newarray .byte, 2), (17, .astore_n 2, 1), (18, .aload_n 0, 1), (19, .iconst 0, 1), (20, .aload_n 2, 1), (21, .iconst 0, 1), (22, .aload_n 0, 1), (23, .arraylength, 1), (24, .iload_n 1, 1), (25, .invokestatic 304, 3), (28, .invokestatic 150, 3), (31, .aload_n 2, 1), (32, .areturn, 1)] := by repeat first | exact on | refine oc ?_
theorem CJ : oE prog_19_method_9_code [(0, .lload_n 0, 1), (1, .invokestatic 166, 3), (4, .areturn, 1)] := by repeat first | exact on | refine oc ?_
theorem Ql : oE jdk_2097_method_29_code [(0, .lload_n 0, 1), (1, .lconst 0, 1), (2, .lcmp, 1), (3, .ifCond .ne 7, 3), (6, .getstatic 22, 3), (9, .areturn, 1), (10, .lload_n 0, 1), (11, .lconst 0, 1), (12, .lcmp, 1), (13, .ifCond .le 18, 3), (16, .lload_n 0, 1), (17, .ldc2_w 345, 3), (20, .lcmp, 1), (21, .ifCond .gt 10, 3), (24, .getstatic 347, 3), (27, .lload_n 0, 1), (28, .l2i, 1), (29, .aaload, 1), (30, .areturn, 1)] := by repeat first | exact on | refine oc ?_
theorem GM : oE prog_19_method_7_code [(0, .aload_n 1, 1), (1, .invokevirtual 144, 3), (4, .ifCond .ne 6, 3), (7, .ldc 147, 2), (9, .areturn, 1), (10, .new 149, 3), (13, .dup, 1), (14, .aload_n 0, 1), (15, .invokespecial 151, 3), (18, .new 149, 3), (21, .dup, 1), (22, .aload_n 1, 1), (23, .invokespecial 151, 3), (26, .iconst 4, 1), (27, .getstatic 154, 3), (30, .invokevirtual 160, 3), (33, .invokevirtual 163, 3), (36, .areturn, 1)] := by repeat first | exact on | refine oc ?_
theorem En : oE jdk_2097_method_81_code [(0, .aload_n 0, 1), (1, .getfield 32, 3), (4, .ireturn, 1)] := by repeat first | exact on | refine oc ?_
theorem HN : oE jdk_17_method_12_code [(0, .aload_n 0, 1), (1, .invokespecial 11, 3), (4, .aload_n 0, 1), (5, .iconst 0, 1), (6, .putfield 17, 3), (9, .aload_n 0, 1), (10, .aload_n 1, 1), (11, .invokestatic 229, 3), (14, .putfield 28, 3), (17, .aload_n 0, 1), (18, .aload_n 0, 1), (19, .getfield 28, 3), (22, .invokestatic 121, 3), (25, .putfield 24, 3), (28, .return_, 1)] := by repeat first | exact on | refine oc ?_
theorem D9 : oE jdk_18_method_1_code [(0, .aload_n 0, 1), (1, .invokespecial 1, 3), (4, .return_, 1)] := by repeat first | exact on | refine oc ?_
theorem V7 : oE jdk_17_method_11_code [(0, .aload_n 0, 1), (1, .invokevirtual 210, 3), (4, .ldc 9, 2), (6, .if_acmp .ne 7, 3), (9, .aload_n 0, 1), (10, .goto 20, 3), (30, .areturn, 1)] := by repeat first | exact on | refine oc ?_
theorem Xd : oE jdk_17_method_107_code [(0, .aload_n 0, 1), (1, .getfield 878, 3), (4, .astore_n 1, 1), (5, .aload_n 1, 1), (6, .arraylength, 1), (7, .istore_n 2, 1), (8, .iload_n 2, 1), (9, .ifCond .ne 5, 3), (12, .lconst 0, 1), (13, .lreturn, 1), (14, .aload_n 1, 1), (15, .iconst 0, 1), (16, .iaload, 1), (17, .istore_n 3, 1), (18, .iload_n 2, 1), (19, .iconst 2, 1), (20, .if_icmp .gt 12, 3), (23, .iload_n 2, 1), (24, .iconst 2, 1), (25, .if_icmp .ne 11, 3), (36, .iload_n 2, 1), (37, .iconst 2, 1), (38, .if_icmp .ne 20, 3), (58, .iload_n 3, 1), (59, .i2l, 1), (60, .ldc2_w 636, 3), (63, .land, 1), (64, .lstore 4, 2), (66, .aload_n 0, 1), (67, .getfield 870, 3), (70, .ifCond .ge 9, 3), (79, .lload 4, 2), (81, .lreturn, 1)] := by repeat first | exact on | refine oc ?_
theorem Vq : oE jdk_17_method_34_code [(0, .aload_n 0, 1), (1, .aload_n 1, 1), (2, .iload_n 2, 1), (3, .aload_n 3, 1), (4, .getfield 103, 3), (7, .invokevirtual 381, 3), (10, .areturn, 1)] := by repeat first | exact on | refine oc ?_
theorem YT : oE jdk_17_method_33_code [(0, .iload_n 3, 1), (1, .ifCond .lt 9, 3), (4, .iload_n 3, 1), (5, .bipush 7, 2), (7, .if_icmp .le 14, 3), (21, .aload_n 0, 1), (22, .getfield 24, 3), (25, .ldc2_w 125, 3), (28, .lcmp, 1), (29, .ifCond .eq 58, 3), (32, .aload_n 1, 1), (33, .getfield 24, 3), (36, .ldc2_w 125, 3), (39, .lcmp, 1), (40, .ifCond .eq 25, 3), (43, .aload_n 0, 1), (44, .getfield 24, 3), (47, .aload_n 0, 1), (48, .getfield 17, 3), (51, .aload_n 1, 1), (52, .getfield 24, 3), (55, .aload_n 1, 1), (56, .getfield 17, 3), (59, .iload_n 2, 1), (60, .iload_n 3, 1), (61, .invokestatic 368, 3), (64, .areturn, 1)] := by repeat first | exact on | refine oc ?_
theorem Qi : oE jdk_17_method_166_code [(0, .lload_n 0, 1), (1, .iload 6, 2), (3, .i2l, 1), (4, .iload 5, 2), (6, .i2l, 1), (7, .ladd, 1), (8, .invokestatic 994, 3), (11, .iload_n 2, 1), (12, .if_icmp .le 106, 3), (15, .iload 6, 2), (17, .iload 5, 2), (19, .iadd, 1), (20, .istore 8, 2), (22, .iload 8, 2), (24, .iload_n 2, 1), (25, .isub, 1), (26, .istore 9, 2), (28, .iload 9, 2), (30, .getstatic 95, 3), (33, .arraylength, 1), (34, .if_icmp .ge 63, 3), (37, .lload_n 0, 1), (38, .lstore 10, 2), (40, .lload 10, 2), (42, .iload 9, 2), (44, .invokestatic 599, 3), (47, .dup2, 1), (48, .lstore 10, 2), (50, .ldc2_w 125, 3), (53, .lcmp, 1), (54, .ifCond .eq 16, 3), (57, .lload 10, 2), (59, .lload_n 3, 1), (60, .iload 6, 2), (62, .iload 7, 2), (64, .iload 6, 2), (66, .invokestatic 606, 3), (69, .areturn, 1)] := by repeat first | exact on | refine oc ?_
theorem RQ : oE jdk_17_method_113_code [(0, .lload_n 2, 1), (1, .l2i, 1), (2, .istore 4, 2), (4, .iload 4, 2), (6, .i2l, 1), (7, .lload_n 2, 1), (8, .lcmp, 1), (9, .ifCond .eq 50, 3), (59, .iload 4, 2), (61, .ireturn, 1)] := by repeat first | exact on | refine oc ?_
theorem Qo : oE jdk_17_method_97_code [(0, .lload_n 0, 1), (1, .lconst 0, 1), (2, .lcmp, 1), (3, .ifCond .eq 7, 3), (10, .lload_n 0, 1), (11, .lreturn, 1), (6, .iload_n 2, 1), (7, .ifCond .gt 5, 3), (12, .getstatic 95, 3), (15, .astore_n 3, 1), (16, .getstatic 825, 3), (19, .astore 4, 2), (21, .iload_n 2, 1), (22, .aload_n 3, 1), (23, .arraylength, 1), (24, .if_icmp .ge 41, 3), (27, .iload_n 2, 1), (28, .aload 4, 2), (30, .arraylength, 1), (31, .if_icmp .ge 34, 3), (34, .aload_n 3, 1), (35, .iload_n 2, 1), (36, .laload, 1), (37, .lstore 5, 2), (39, .lload_n 0, 1), (40, .lconst 1, 1), (41, .lcmp, 1), (42, .ifCond .ne 6, 3), (45, .lload 5, 2), (47, .lreturn, 1), (48, .lload_n 0, 1), (49, .invokestatic 440, 3), (52, .aload 4, 2), (54, .iload_n 2, 1), (55, .laload, 1), (56, .lcmp, 1), (57, .ifCond .gt 8, 3), (60, .lload_n 0, 1), (61, .lload 5, 2), (63, .lmul, 1), (64, .lreturn, 1)] := by repeat first | exact on | refine oc ?_
theorem Qb : oE jdk_17_method_119_code [(0, .lload_n 0, 1), (1, .lload_n 2, 1), (2, .ldiv, 1), (3, .lstore 8, 2), (5, .iload 5, 2), (7, .iconst 1, 1), (8, .if_icmp .ne 18, 3), (26, .lload_n 0, 1), (27, .lload_n 2, 1), (28, .lrem, 1), (29, .lstore 10, 2), (31, .lload_n 0, 1), (32, .lconst 0, 1), (33, .lcmp, 1), (34, .ifCond .ge 7, 3), (41, .iconst 0, 1), (42, .lload_n 2, 1), (43, .lconst 0, 1), (44, .lcmp, 1), (45, .ifCond .ge 7, 3), (52, .iconst 0, 1), (53, .if_icmp .ne 7, 3), (56, .iconst 1, 1), (57, .goto 4, 3), (61, .istore 7, 2), (63, .lload 10, 2), (65, .lconst 0, 1), (66, .lcmp, 1), (67, .ifCond .eq 39, 3), (106, .iload 6, 2), (108, .iload 4, 2), (110, .if_icmp .eq 14, 3), (124, .lload 8, 2), (126, .iload 4, 2), (128, .invokestatic 328, 3), (131, .areturn, 1), (70, .lload_n 2, 1), (71, .iload 5, 2), (73, .iload 7, 2), (75, .lload 8, 2), (77, .lload 10, 2), (79, .invokestatic 924, 3), (82, .istore 12, 2), (84, .iload 12, 2), (86, .ifCond .eq 12, 3), (89, .lload 8, 2), (91, .iload 7, 2), (93, .i2l, 1), (94, .ladd, 1), (95, .goto 5, 3), (100, .iload 4, 2), (102, .invokestatic 328, 3), (105, .areturn, 1)] := by repeat first | exact on | refine oc ?_
theorem YV : oE jdk_17_method_20_code [(0, .iload_n 2, 1), (1, .ifCond .ne 8, 3), (9, .lload_n 0, 1), (10, .lconst 0, 1), (11, .lcmp, 1), (12, .ifCond .ne 8, 3), (15, .iload_n 2, 1), (16, .invokestatic 239, 3), (19, .areturn, 1), (20, .new 3, 3), (23, .dup, 1), (24, .lload_n 0, 1), (25, .ldc2_w 125, 3), (28, .lcmp, 1), (29, .ifCond .ne 9, 3), (38, .aconst_null, 1), (39, .lload_n 0, 1), (40, .iload_n 2, 1), (41, .iconst 0, 1), (42, .invokespecial 243, 3), (45, .areturn, 1)] := by repeat first | exact on | refine oc ?_
theorem HJ : oE jdk_17_method_1_code [(0, .aload_n 0, 1), (1, .invokespecial 11, 3), (4, .aload_n 0, 1), (5, .iload 4, 2), (7, .putfield 17, 3), (10, .aload_n 0, 1), (11, .iload 5, 2), (13, .putfield 21, 3), (16, .aload_n 0, 1), (17, .lload_n 2, 1), (18, .putfield 24, 3), (21, .aload_n 0, 1), (22, .aload_n 1, 1), (23, .putfield 28, 3), (26, .return_, 1)] := by repeat first | exact on | refine oc ?_
theorem Yp : oE jdk_17_method_78_code [(0, .aload_n 0, 1), (1, .getfield 17, 3), (4, .ifCond .ne 30, 3), (34, .aload_n 0, 1), (35, .getfield 17, 3), (38, .ifCond .ge 107, 3), (145, .aload_n 0, 1), (146, .getfield 24, 3), (149, .ldc2_w 125, 3), (152, .lcmp, 1), (153, .ifCond .eq 17, 3), (156, .aload_n 0, 1), (157, .getfield 24, 3), (160, .invokestatic 440, 3), (163, .invokestatic 649, 3), (166, .astore_n 1, 1), (167, .goto 14, 3), (181, .aload_n 0, 1), (182, .invokevirtual 270, 3), (185, .aload_n 1, 1), (186, .aload_n 0, 1), (187, .getfield 17, 3), (190, .invokestatic 669, 3), (193, .areturn, 1)] := by repeat first | exact on | refine oc ?_
theorem Wd : oE jdk_29_method_61_code [(0, .lload_n 0, 1), (1, .lconst 0, 1), (2, .lcmp, 1), (3, .ifCond .ge 8, 3), (11, .lload_n 0, 1), (12, .lreturn, 1)] := by repeat first | exact on | refine oc ?_
theorem X7 : oE jdk_35_method_12_code [(0, .lload_n 0, 1), (1, .invokestatic 118, 3), (4, .istore_n 2, 1), (5, .getstatic 13, 3), (8, .ifCond .eq 24, 3), (11, .iload_n 2, 1), (12, .newarray .byte, 2), (14, .astore_n 3, 1), (15, .lload_n 0, 1), (16, .iload_n 2, 1), (17, .aload_n 3, 1), (18, .invokestatic 121, 3), (21, .pop, 1), (22, .new 5, 3), (25, .dup, 1), (26, .aload_n 3, 1), (27, .iconst 0, 1), (28, .invokespecial 112, 3), (31, .areturn, 1)] := by repeat first | exact on | refine oc ?_
theorem Ry : oE jdk_42_method_151_code [(0, .aload_n 0, 1), (1, .invokespecial 1, 3), (4, .aload_n 0, 1), (5, .aload_n 1, 1), (6, .putfield 9, 3), (9, .aload_n 0, 1), (10, .iload_n 2, 1), (11, .putfield 15, 3), (14, .return_, 1)] := by repeat first | exact on | refine oc ?_
theorem RP : oE jdk_17_method_58_code [(0, .aload_n 0, 1), (1, .getfield 24, 3), (4, .ldc2_w 125, 3), (7, .lcmp, 1), (8, .ifCond .eq 13, 3), (11, .aload_n 0, 1), (12, .getfield 24, 3), (15, .invokestatic 596, 3), (18, .goto 10, 3), (28, .ireturn, 1)] := by repeat first | exact on | refine oc ?_
theorem RO : oE jdk_35_method_57_code [(0, .lload_n 0, 1), (1, .bipush 63, 2), (3, .lshr, 1), (4, .lload_n 0, 1), (5, .lneg, 1), (6, .bipush 63, 2), (8, .lushr, 1), (9, .lor, 1), (10, .l2i, 1), (11, .ireturn, 1)] := by repeat first | exact on | refine oc ?_
theorem Qa : oE jdk_17_method_79_code [(0, .aload_n 1, 1), (1, .invokevirtual 159, 3), (4, .iload_n 2, 1), (5, .isub, 1), (6, .istore 4, 2), (8, .iload 4, 2), (10, .ifCond .ne 34, 3), (13, .new 74, 3), (16, .dup, 1), (17, .invokespecial 76, 3), (20, .iload_n 0, 1), (21, .ifCond .ge 9, 3), (30, .ldc_w 675, 3), (33, .invokevirtual 79, 3), (36, .aload_n 1, 1), (37, .invokevirtual 79, 3), (40, .invokevirtual 88, 3), (43, .areturn, 1), (44, .iload 4, 2), (46, .ifCond .le 36, 3), (49, .new 74, 3), (52, .dup, 1), (53, .aload_n 1, 1), (54, .invokespecial 677, 3), (57, .astore_n 3, 1), (58, .aload_n 3, 1), (59, .iload 4, 2), (61, .bipush 46, 2), (63, .invokevirtual 678, 3), (66, .pop, 1), (67, .iload_n 0, 1), (68, .ifCond .ge 87, 3), (155, .aload_n 3, 1), (156, .invokevirtual 88, 3), (159, .areturn, 1), (82, .iload_n 0, 1), (83, .ifCond .ge 7, 3), (90, .iconst 2, 1), (91, .iload_n 2, 1), (92, .iadd, 1), (93, .istore 5, 2), (95, .iload 5, 2), (97, .ifCond .ge 14, 3), (111, .new 74, 3), (114, .dup, 1), (115, .iload 5, 2), (117, .invokespecial 660, 3), (120, .astore_n 3, 1), (121, .aload_n 3, 1), (122, .iload_n 0, 1), (123, .ifCond .ge 9, 3), (132, .ldc_w 675, 3), (135, .invokevirtual 79, 3), (138, .pop, 1), (139, .aload_n 3, 1), (140, .bipush 48, 2), (142, .iload 4, 2), (144, .ineg, 1), (145, .invokevirtual 663, 3), (148, .pop, 1), (149, .aload_n 3, 1), (150, .aload_n 1, 1), (151, .invokevirtual 79, 3), (154, .pop, 1)] := by repeat first | exact on | refine oc ?_
theorem C0 : oE jdk_67_method_3_code [(0, .aload_n 0, 1), (1, .aload_n 1, 1), (2, .invokespecial 7, 3), (5, .return_, 1)] := by repeat first | exact on | refine oc ?_
theorem Y4 : oE jdk_68_method_3_code [(0, .aload_n 0, 1), (1, .invokespecial 3, 3), (4, .aload_n 1, 1), (5, .invokevirtual 32, 3), (8, .istore_n 2, 1), (9, .iload_n 2, 1), (10, .ldc 38, 2), (12, .if_icmp .ge 10, 3), (15, .iload_n 2, 1), (16, .bipush 16, 2), (18, .iadd, 1), (19, .goto 5, 3), (24, .istore_n 3, 1), (25, .aload_n 1, 1), (26, .invokevirtual 40, 3), (29, .istore 4, 2), (31, .aload_n 0, 1), (32, .iload 4, 2), (34, .putfield 22, 3), (37, .aload_n 0, 1), (38, .iload 4, 2), (40, .ifCond .ne 9, 3), (43, .iload_n 3, 1), (44, .newarray .byte, 2), (46, .goto 7, 3), (53, .putfield 15, 3), (56, .aload_n 0, 1), (57, .aload_n 1, 1), (58, .invokevirtual 43, 3), (61, .pop, 1), (62, .return_, 1)] := by repeat first | exact on | refine oc ?_
theorem Bw : oE jdk_67_method_80_code [(0, .aload_n 0, 1), (1, .aload_n 1, 1), (2, .invokevirtual 23, 3), (5, .areturn, 1)] := by repeat first | exact on | refine oc ?_
theorem VU : oE jdk_67_method_30_code [(0, .aload_n 0, 1), (1, .iload_n 1, 1), (2, .iload_n 2, 1), (3, .invokespecial 101, 3), (6, .pop, 1), (7, .aload_n 0, 1), (8, .areturn, 1)] := by repeat first | exact on | refine oc ?_
theorem Xs : oE jdk_68_method_51_code [(0, .iload_n 1, 1), (1, .aload_n 0, 1), (2, .getfield 79, 3), (5, .invokestatic 315, 3), (8, .aload_n 0, 1), (9, .aload_n 0, 1), (10, .getfield 79, 3), (13, .iconst 1, 1), (14, .iadd, 1), (15, .invokevirtual 100, 3), (18, .aload_n 0, 1), (19, .iload_n 1, 1), (20, .iconst 1, 1), (21, .invokevirtual 283, 3), (24, .aload_n 0, 1), (25, .dup, 1), (26, .getfield 79, 3), (29, .iconst 1, 1), (30, .iadd, 1), (31, .putfield 79, 3), (34, .aload_n 0, 1), (35, .invokevirtual 83, 3), (38, .ifCond .eq 21, 3), (41, .iload_n 2, 1), (42, .invokestatic 191, 3), (45, .ifCond .eq 14, 3), (48, .aload_n 0, 1), (49, .getfield 15, 3), (52, .iload_n 1, 1), (53, .iload_n 2, 1), (54, .i2b, 1), (55, .bastore, 1), (56, .goto 23, 3), (79, .aload_n 0, 1), (80, .areturn, 1)] := by repeat first | exact on | refine oc ?_
theorem Uz : oE jdk_42_method_156_code [(0, .iload_n 0, 1), (1, .iload_n 1, 1), (2, .iload_n 1, 1), (3, .getstatic 1053, 3), (6, .invokestatic 1062, 3), (9, .pop, 1), (10, .return_, 1)] := by repeat first | exact on | refine oc ?_
theorem GS : oE jdk_41_method_12_code [(0, .iload_n 0, 1), (1, .ifCond .lt 13, 3), (4, .iload_n 0, 1), (5, .iload_n 1, 1), (6, .if_icmp .gt 8, 3), (9, .iload_n 1, 1), (10, .iload_n 2, 1), (11, .if_icmp .le 11, 3), (22, .iload_n 0, 1), (23, .ireturn, 1)] := by repeat first | exact on | refine oc ?_
theorem Yv : oE jdk_68_method_43_code [(0, .aload_n 0, 1), (1, .getfield 15, 3), (4, .iload_n 1, 1), (5, .aload_n 0, 1), (6, .getfield 22, 3), (9, .ishl, 1), (10, .aload_n 0, 1), (11, .getfield 15, 3), (14, .iload_n 1, 1), (15, .iload_n 2, 1), (16, .iadd, 1), (17, .aload_n 0, 1), (18, .getfield 22, 3), (21, .ishl, 1), (22, .aload_n 0, 1), (23, .getfield 79, 3), (26, .iload_n 1, 1), (27, .isub, 1), (28, .aload_n 0, 1), (29, .getfield 22, 3), (32, .ishl, 1), (33, .invokestatic 309, 3), (36, .return_, 1)] := by repeat first | exact on | refine oc ?_
theorem Wb : oE jdk_43_method_3_code [(0, .iload_n 0, 1), (1, .sipush 255, 3), (4, .if_icmp .gt 7, 3), (7, .iconst 1, 1), (8, .goto 4, 3), (12, .ireturn, 1)] := by repeat first | exact on | refine oc ?_
theorem YJ : oE jdk_17_method_122_code [(0, .getstatic 311, 3), (3, .ifCond .ne 18, 3), (21, .lload 6, 2), (23, .ldc2_w 933, 3), (26, .lcmp, 1), (27, .ifCond .le 12, 3), (30, .lload 6, 2), (32, .ldc2_w 935, 3), (35, .lcmp, 1), (36, .ifCond .le 9, 3), (45, .ldc2_w 318, 3), (48, .lload 6, 2), (50, .lmul, 1), (51, .lload_n 0, 1), (52, .invokestatic 632, 3), (55, .istore 8, 2), (57, .iload_n 2, 1), (58, .iload_n 3, 1), (59, .iload 8, 2), (61, .lload 4, 2), (63, .lconst 1, 1), (64, .land, 1), (65, .lconst 0, 1), (66, .lcmp, 1), (67, .ifCond .eq 7, 3), (74, .iconst 0, 1), (75, .invokestatic 937, 3), (78, .ireturn, 1)] := by repeat first | exact on | refine oc ?_
theorem JE : oE jdk_17_method_108_code [(0, .lload_n 0, 1), (1, .lconst 0, 1), (2, .lcmp, 1), (3, .ifCond .ge 6, 3), (9, .lload_n 2, 1), (10, .lconst 0, 1), (11, .lcmp, 1), (12, .ifCond .ge 6, 3), (18, .lload_n 0, 1), (19, .lload_n 2, 1), (20, .invokestatic 881, 3), (23, .ireturn, 1)] := by repeat first | exact on | refine oc ?_
theorem RN : oE jdk_35_method_42_code [(0, .lload_n 0, 1), (1, .lload_n 2, 1), (2, .lcmp, 1), (3, .ifCond .ge 7, 3), (10, .lload_n 0, 1), (11, .lload_n 2, 1), (12, .lcmp, 1), (13, .ifCond .ne 7, 3), (20, .iconst 1, 1), (21, .ireturn, 1)] := by repeat first | exact on | refine oc ?_
theorem RR : oE jdk_17_method_121_code [(0, .iload_n 0, 1), (1, .tableswitch 82 0 7 #[58, 60, 62, 72, 82, 82, 82, 47], 47), (83, .getstatic 311, 3), (86, .ifCond .ne 45, 3), (131, .iload_n 2, 1), (132, .ifCond .ge 5, 3), (137, .iload_n 2, 1), (138, .ifCond .le 5, 3), (141, .iconst 1, 1), (142, .ireturn, 1)] := by repeat first | exact on | refine oc ?_
theorem Qv : oE prog_19_method_5_code [(11, .iload 8, 2), (13, .bipush 100, 2), (15, .if_icmp .gt 62, 3), (77, .aload 5, 2), (79, .ldc2_w 107, 3), (82, .invokestatic 95, 3), (85, .lload_n 1, 1), (86, .invokestatic 95, 3), (89, .invokevirtual 129, 3), (92, .lload_n 3, 1), (93, .invokestatic 95, 3), (96, .invokevirtual 129, 3), (99, .invokestatic 99, 3), (102, .areturn, 1), (18, .ldc2_w 107, 3), (21, .lload 6, 2), (23, .lmul, 1), (24, .aload_n 0, 1), (25, .getfield 15, 3), (28, .iload 8, 2), (30, .laload, 1), (31, .ladd, 1), (32, .lstore 9, 2), (34, .aload 5, 2), (36, .aload_n 0, 1), (37, .getfield 9, 3), (40, .iload 8, 2), (42, .laload, 1), (43, .invokestatic 95, 3), (46, .lload 9, 2), (48, .invokestatic 95, 3), (51, .invokevirtual 129, 3), (54, .invokevirtual 133, 3), (57, .astore 5, 2), (59, .lload 6, 2), (61, .aload_n 0, 1), (62, .getfield 15, 3), (65, .iload 8, 2), (67, .laload, 1), (68, .ladd, 1), (69, .lstore 6, 2), (71, .iinc 8 1, 3), (74, .goto (-63), 3), (0, .getstatic 123, 3), (3, .astore 5, 2), (5, .lconst 0, 1), (6, .lstore 6, 2), (8, .iconst 0, 1), (9, .istore 8, 2)] := by repeat first | exact on | refine oc ?_
theorem YK : oE jdk_2097_method_40_code [(0, .aload_n 0, 1), (1, .aload_n 1, 1), (2, .iconst 0, 1), (3, .iconst 0, 1), (4, .iconst 0, 1), (5, .invokevirtual 397, 3), (8, .areturn, 1)] := by repeat first | exact on | refine oc ?_
theorem Kx : oE jdk_2097_method_42_code [(0, .aload_n 1, 1), (1, .getfield 32, 3), (4, .ifCond .eq 10, 3), (7, .aload_n 0, 1), (8, .getfield 32, 3), (11, .ifCond .ne 7, 3), (18, .aload_n 0, 1), (19, .getfield 28, 3), (22, .arraylength, 1), (23, .istore 5, 2), (25, .aload_n 1, 1), (26, .aload_n 0, 1), (27, .if_acmp .ne 19, 3), (46, .aload_n 1, 1), (47, .getfield 28, 3), (50, .arraylength, 1), (51, .istore 6, 2), (53, .iload 5, 2), (55, .bipush 80, 2), (57, .if_icmp .lt 10, 3), (67, .aload_n 0, 1), (68, .getfield 32, 3), (71, .aload_n 1, 1), (72, .getfield 32, 3), (75, .if_icmp .ne 7, 3), (78, .iconst 1, 1), (79, .goto 4, 3), (83, .istore 7, 2), (85, .aload_n 1, 1), (86, .getfield 28, 3), (89, .arraylength, 1), (90, .iconst 1, 1), (91, .if_icmp .ne 19, 3), (94, .aload_n 0, 1), (95, .getfield 28, 3), (98, .aload_n 1, 1), (99, .getfield 28, 3), (102, .iconst 0, 1), (103, .iaload, 1), (104, .iload 7, 2), (106, .invokestatic 403, 3), (109, .areturn, 1), (30, .iload 5, 2), (32, .bipush 20, 2), (34, .if_icmp .le 12, 3), (14, .getstatic 22, 3), (17, .areturn, 1)] := by repeat first | exact on | refine oc ?_
theorem XK : oE jdk_2097_method_32_code [(0, .aload_n 1, 1), (1, .getfield 32, 3), (4, .ifCond .ne 5, 3), (7, .aload_n 0, 1), (8, .areturn, 1), (9, .aload_n 0, 1), (10, .getfield 32, 3), (13, .ifCond .ne 5, 3), (16, .aload_n 1, 1), (17, .areturn, 1), (18, .aload_n 1, 1), (19, .getfield 32, 3), (22, .aload_n 0, 1), (23, .getfield 32, 3), (26, .if_icmp .ne 26, 3), (29, .new 23, 3), (32, .dup, 1), (33, .aload_n 0, 1), (34, .getfield 28, 3), (37, .aload_n 1, 1), (38, .getfield 28, 3), (41, .invokestatic 362, 3), (44, .aload_n 0, 1), (45, .getfield 32, 3), (48, .invokespecial 175, 3), (51, .areturn, 1)] := by repeat first | exact on | refine oc ?_
theorem Ye : oE jdk_2097_method_43_code [(0, .iload_n 1, 1), (1, .invokestatic 423, 3), (4, .iconst 1, 1), (5, .if_icmp .ne 20, 3), (8, .new 23, 3), (11, .dup, 1), (12, .aload_n 0, 1), (13, .iload_n 1, 1), (14, .invokestatic 426, 3), (17, .invokestatic 429, 3), (20, .iload_n 2, 1), (21, .invokespecial 175, 3), (24, .areturn, 1)] := by repeat first | exact on | refine oc ?_
theorem QZ : oE jdk_33_method_49_code [(0, .iload_n 0, 1), (1, .iload_n 0, 1), (2, .iconst 1, 1), (3, .iushr, 1), (4, .ldc_w 265, 3), (7, .iand, 1), (8, .isub, 1), (9, .istore_n 0, 1), (10, .iload_n 0, 1), (11, .ldc_w 266, 3), (14, .iand, 1), (15, .iload_n 0, 1), (16, .iconst 2, 1), (17, .iushr, 1), (18, .ldc_w 266, 3), (21, .iand, 1), (22, .iadd, 1), (23, .istore_n 0, 1), (24, .iload_n 0, 1), (25, .iload_n 0, 1), (26, .iconst 4, 1), (27, .iushr, 1), (28, .iadd, 1), (29, .ldc_w 267, 3), (32, .iand, 1), (33, .istore_n 0, 1), (34, .iload_n 0, 1), (35, .iload_n 0, 1), (36, .bipush 8, 2), (38, .iushr, 1), (39, .iadd, 1), (40, .istore_n 0, 1), (41, .iload_n 0, 1), (42, .iload_n 0, 1), (43, .bipush 16, 2), (45, .iushr, 1), (46, .iadd, 1), (47, .istore_n 0, 1), (48, .iload_n 0, 1), (49, .bipush 63, 2), (51, .iand, 1), (52, .ireturn, 1)] := by repeat first | exact on | refine oc ?_
theorem Qk : oE jdk_33_method_48_code [(0, .iload_n 0, 1), (1, .iconst (-1), 1), (2, .ixor, 1), (3, .iload_n 0, 1), (4, .iconst 1, 1), (5, .isub, 1), (6, .iand, 1), (7, .istore_n 0, 1), (8, .iload_n 0, 1), (9, .ifCond .gt 8, 3), (12, .iload_n 0, 1), (13, .bipush 32, 2), (15, .iand, 1), (16, .ireturn, 1), (17, .iconst 1, 1), (18, .istore_n 1, 1), (19, .iload_n 0, 1), (20, .ldc_w 264, 3), (23, .if_icmp .le 11, 3), (34, .iload_n 0, 1), (35, .sipush 256, 3), (38, .if_icmp .le 11, 3), (49, .iload_n 0, 1), (50, .bipush 16, 2), (52, .if_icmp .le 10, 3), (62, .iload_n 0, 1), (63, .iconst 4, 1), (64, .if_icmp .le 10, 3), (74, .iload_n 1, 1), (75, .iload_n 0, 1), (76, .iconst 1, 1), (77, .iushr, 1), (78, .iadd, 1), (79, .ireturn, 1)] := by repeat first | exact on | refine oc ?_
theorem QN : oE jdk_2097_method_102_code [(0, .iload_n 1, 1), (1, .iconst 5, 1), (2, .iushr, 1), (3, .istore_n 2, 1), (4, .iload_n 1, 1), (5, .bipush 31, 2), (7, .iand, 1), (8, .istore_n 3, 1), (9, .aload_n 0, 1), (10, .arraylength, 1), (11, .istore 4, 2), (13, .aconst_null, 1), (14, .astore 5, 2), (16, .iload_n 3, 1), (17, .ifCond .ne 24, 3), (20, .iload 4, 2), (22, .iload_n 2, 1), (23, .iadd, 1), (24, .newarray .int, 2), (26, .astore 5, 2), (28, .aload_n 0, 1), (29, .iconst 0, 1), (30, .aload 5, 2), (32, .iconst 0, 1), (33, .iload 4, 2), (35, .invokestatic 388, 3), (38, .goto 114, 3), (152, .aload 5, 2), (154, .areturn, 1), (41, .iconst 0, 1), (42, .istore 6, 2), (44, .bipush 32, 2), (46, .iload_n 3, 1), (47, .isub, 1), (48, .istore 7, 2), (50, .aload_n 0, 1), (51, .iconst 0, 1), (52, .iaload, 1), (53, .iload 7, 2), (55, .iushr, 1), (56, .istore 8, 2), (58, .iload 8, 2), (60, .ifCond .eq 26, 3), (86, .iload 4, 2), (88, .iload_n 2, 1), (89, .iadd, 1), (90, .newarray .int, 2), (92, .astore 5, 2), (94, .iload 4, 2), (96, .iconst 1, 1), (97, .isub, 1), (98, .istore 9, 2), (100, .iconst 0, 1), (101, .iload 9, 2), (103, .iconst 1, 1), (104, .iadd, 1), (105, .aload_n 0, 1), (106, .arraylength, 1), (107, .invokestatic 611, 3), (110, .pop, 1), (111, .iload 6, 2), (113, .iload 9, 2), (115, .iload 6, 2), (117, .iadd, 1), (118, .iconst 1, 1), (119, .iadd, 1), (120, .aload 5, 2), (122, .arraylength, 1), (123, .invokestatic 611, 3), (126, .pop, 1), (127, .aload 5, 2), (129, .aload_n 0, 1), (130, .iload 6, 2), (132, .iload_n 3, 1), (133, .iload 9, 2), (135, .invokestatic 618, 3), (138, .aload 5, 2), (140, .iload 9, 2), (142, .iload 6, 2), (144, .iadd, 1), (145, .aload_n 0, 1), (146, .iload 9, 2), (148, .iaload, 1), (149, .iload_n 3, 1), (150, .ishl, 1), (151, .iastore, 1)] := by repeat first | exact on | refine oc ?_
theorem WW : oE jdk_31_method_18_code [(0, .iload_n 0, 1), (1, .iload_n 1, 1), (2, .iload_n 2, 1), (3, .aconst_null, 1), (4, .invokestatic 111, 3), (7, .ireturn, 1)] := by repeat first | exact on | refine oc ?_
theorem GO : oE jdk_2097_method_103_code [(0, .bipush 32, 2), (2, .iload_n 3, 1), (3, .isub, 1), (4, .istore 5, 2), (6, .iconst 0, 1), (7, .istore 6, 2), (9, .iload 6, 2), (11, .iload 4, 2), (13, .if_icmp .ge 29, 3), (42, .return_, 1)] := by repeat first | exact on | refine oc ?_
theorem Xy : oE jdk_2097_method_25_code [(0, .aload_n 0, 1), (1, .invokespecial 3, 3), (4, .aload_n 0, 1), (5, .aload_n 1, 1), (6, .arraylength, 1), (7, .ifCond .ne 7, 3), (14, .iload_n 2, 1), (15, .putfield 32, 3), (18, .aload_n 0, 1), (19, .aload_n 1, 1), (20, .putfield 28, 3), (23, .aload_n 0, 1), (24, .getfield 28, 3), (27, .arraylength, 1), (28, .ldc 43, 2), (30, .if_icmp .lt 7, 3), (37, .return_, 1)] := by repeat first | exact on | refine oc ?_
theorem H_ : oE jdk_65_method_119_code [(0, .aload_n 0, 1), (1, .iload_n 1, 1), (2, .aload_n 0, 1), (3, .invokevirtual 86, 3), (6, .invokestatic 300, 3), (9, .areturn, 1)] := by repeat first | exact on | refine oc ?_
theorem Xp : oE jdk_65_method_120_code [(0, .aload_n 2, 1), (1, .ldc 110, 2), (3, .if_acmp .ne 10, 3), (6, .iload_n 1, 1), (7, .anewarray 2, 3), (10, .goto 14, 3), (24, .astore_n 3, 1), (25, .aload_n 0, 1), (26, .iconst 0, 1), (27, .aload_n 3, 1), (28, .iconst 0, 1), (29, .aload_n 0, 1), (30, .arraylength, 1), (31, .iload_n 1, 1), (32, .invokestatic 304, 3), (35, .invokestatic 150, 3), (38, .aload_n 3, 1), (39, .areturn, 1)] := by repeat first | exact on | refine oc ?_
theorem Kp : oE prog_19_method_6_code [(19, .iload 9, 2), (21, .ifCond .lt 133, 3), (154, .aload_n 3, 1), (155, .aload 4, 2), (157, .lload_n 1, 1), (158, .invokestatic 95, 3), (161, .invokevirtual 129, 3), (164, .invokestatic 99, 3), (167, .areturn, 1), (24, .lload 5, 2), (26, .aload_n 0, 1), (27, .getfield 9, 3), (30, .iload 9, 2), (32, .laload, 1), (33, .ladd, 1), (34, .lstore 5, 2), (36, .lload 7, 2), (38, .aload_n 0, 1), (39, .getfield 9, 3), (42, .iload 9, 2), (44, .laload, 1), (45, .aload_n 0, 1), (46, .getfield 15, 3), (49, .iload 9, 2), (51, .laload, 1), (52, .ladd, 1), (53, .ladd, 1), (54, .lstore 7, 2), (56, .aload_n 0, 1), (57, .getfield 9, 3), (60, .iload 9, 2), (62, .laload, 1), (63, .lconst 0, 1), (64, .lcmp, 1), (65, .ifCond .ne 6, 3), (68, .goto 80, 3), (148, .iinc 9 (-1), 3), (151, .goto (-132), 3), (71, .aload_n 0, 1), (72, .getfield 9, 3), (75, .iload 9, 2), (77, .laload, 1), (78, .invokestatic 95, 3), (81, .lload 5, 2), (83, .invokestatic 95, 3), (86, .invokevirtual 129, 3), (89, .astore 10, 2), (91, .lload 7, 2), (93, .invokestatic 95, 3), (96, .astore 11, 2), (98, .aload_n 3, 1), (99, .aload 11, 2), (101, .invokevirtual 129, 3), (104, .aload 10, 2), (106, .aload 4, 2), (108, .invokevirtual 129, 3), (111, .invokevirtual 133, 3), (114, .astore_n 3, 1), (115, .aload 4, 2), (117, .aload 11, 2), (119, .invokevirtual 129, 3), (122, .astore 4, 2), (124, .aload_n 3, 1), (125, .aload 4, 2), (127, .invokevirtual 138, 3), (130, .astore 12, 2), (132, .aload_n 3, 1), (133, .aload 12, 2), (135, .invokevirtual 141, 3), (138, .astore_n 3, 1), (139, .aload 4, 2), (141, .aload 12, 2), (143, .invokevirtual 141, 3), (146, .astore 4, 2), (0, .getstatic 123, 3), (3, .astore_n 3, 1), (4, .getstatic 135, 3), (7, .astore 4, 2), (9, .lconst 0, 1), (10, .lstore 5, 2), (12, .lconst 0, 1), (13, .lstore 7, 2), (15, .bipush 100, 2), (17, .istore 9, 2)] := by repeat first | exact on | refine oc ?_
theorem XH : oE jdk_2097_method_73_code [(0, .aload_n 1, 1), (1, .getfield 32, 3), (4, .ifCond .ne 8, 3), (12, .aload_n 0, 1), (13, .getfield 32, 3), (16, .ifCond .ne 8, 3), (24, .new 541, 3), (27, .dup, 1), (28, .aload_n 0, 1), (29, .invokespecial 567, 3), (32, .astore_n 2, 1), (33, .new 541, 3), (36, .dup, 1), (37, .aload_n 1, 1), (38, .invokespecial 567, 3), (41, .astore_n 3, 1), (42, .aload_n 2, 1), (43, .aload_n 3, 1), (44, .invokevirtual 598, 3), (47, .astore 4, 2), (49, .aload 4, 2), (51, .iconst 1, 1), (52, .invokevirtual 548, 3), (55, .areturn, 1)] := by repeat first | exact on | refine oc ?_
theorem Xq : oE jdk_2101_method_4_code [(0, .aload_n 0, 1), (1, .invokespecial 5, 3), (4, .aload_n 0, 1), (5, .iconst 0, 1), (6, .putfield 11, 3), (9, .aload_n 0, 1), (10, .aload_n 1, 1), (11, .getfield 24, 3), (14, .arraylength, 1), (15, .putfield 21, 3), (18, .aload_n 0, 1), (19, .aload_n 1, 1), (20, .getfield 24, 3), (23, .aload_n 0, 1), (24, .getfield 21, 3), (27, .invokestatic 27, 3), (30, .putfield 17, 3), (33, .return_, 1)] := by repeat first | exact on | refine oc ?_
theorem H4 : oE jdk_65_method_123_code [(0, .iload_n 1, 1), (1, .aload_n 0, 1), (2, .arraylength, 1), (3, .if_icmp .ne 11, 3), (6, .aload_n 0, 1), (7, .invokevirtual 316, 3), (10, .checkcast 317, 3), (13, .areturn, 1)] := by repeat first | exact on | refine oc ?_
theorem Xb : oE jdk_2101_method_72_code [(0, .aload_n 0, 1), (1, .astore_n 2, 1), (2, .new 12, 3), (5, .dup, 1), (6, .invokespecial 177, 3), (9, .astore_n 3, 1), (10, .aload_n 1, 1), (11, .getfield 21, 3), (14, .ifCond .eq 41, 3), (17, .aload_n 2, 1), (18, .getfield 21, 3), (21, .aload_n 1, 1), (22, .getfield 21, 3), (25, .isub, 1), (26, .invokestatic 329, 3), (29, .iconst 2, 1), (30, .if_icmp .ge 9, 3), (33, .aload_n 2, 1), (34, .aload_n 1, 1), (35, .invokevirtual 332, 3), (38, .areturn, 1)] := by repeat first | exact on | refine oc ?_
theorem YO : oE jdk_2101_method_1_code [(0, .aload_n 0, 1), (1, .invokespecial 5, 3), (4, .aload_n 0, 1), (5, .iconst 0, 1), (6, .putfield 11, 3), (9, .aload_n 0, 1), (10, .iconst 1, 1), (11, .newarray .int, 2), (13, .putfield 17, 3), (16, .aload_n 0, 1), (17, .iconst 0, 1), (18, .putfield 21, 3), (21, .return_, 1)] := by repeat first | exact on | refine oc ?_
theorem TR : oE jdk_29_method_59_code [(0, .iload_n 0, 1), (1, .ifCond .ge 8, 3), (9, .iload_n 0, 1), (10, .ireturn, 1)] := by repeat first | exact on | refine oc ?_
theorem KM : oE jdk_2101_method_73_code [(0, .aload_n 0, 1), (1, .astore_n 2, 1), (2, .new 12, 3), (5, .dup, 1), (6, .invokespecial 177, 3), (9, .astore_n 3, 1), (10, .aload_n 2, 1), (11, .invokevirtual 184, 3), (14, .istore 4, 2), (16, .aload_n 1, 1), (17, .invokevirtual 184, 3), (20, .istore 5, 2), (22, .iload 4, 2), (24, .iload 5, 2), (26, .if_icmp .ge 8, 3), (34, .iload 5, 2), (36, .istore 6, 2), (38, .iload 6, 2), (40, .ifCond .eq 15, 3), (55, .iload 6, 2), (57, .iload 4, 2), (59, .if_icmp .ne 7, 3), (62, .iconst 1, 1), (63, .goto 4, 3), (67, .istore 7, 2), (69, .iload 7, 2), (71, .ifCond .eq 7, 3), (74, .aload_n 1, 1), (75, .goto 4, 3), (79, .astore 8, 2), (81, .iload 7, 2), (83, .ifCond .eq 7, 3), (86, .iconst (-1), 1), (87, .goto 4, 3), (91, .istore 9, 2), (93, .aload 8, 2), (95, .invokevirtual 184, 3), (98, .dup, 1), (99, .istore 10, 2), (101, .ifCond .lt 131, 3), (104, .aload 8, 2), (106, .iload 10, 2), (108, .invokevirtual 108, 3), (111, .iload 9, 2), (113, .ifCond .le 9, 3), (122, .aload 8, 2), (124, .astore_n 1, 1), (125, .aload_n 2, 1), (126, .getfield 21, 3), (129, .iconst 2, 1), (130, .if_icmp .ge 73, 3), (133, .aload_n 1, 1), (134, .getfield 21, 3), (137, .iconst 2, 1), (138, .if_icmp .ge 65, 3), (141, .aload_n 2, 1), (142, .getfield 17, 3), (145, .aload_n 2, 1), (146, .getfield 11, 3), (149, .iaload, 1), (150, .istore 11, 2), (152, .aload_n 1, 1), (153, .getfield 17, 3), (156, .aload_n 1, 1), (157, .getfield 11, 3), (160, .iaload, 1), (161, .istore 12, 2), (163, .iload 11, 2), (165, .iload 12, 2), (167, .invokestatic 338, 3), (170, .istore 11, 2), (172, .aload_n 3, 1), (173, .getfield 17, 3), (176, .iconst 0, 1), (177, .iload 11, 2), (179, .iastore, 1), (180, .aload_n 3, 1), (181, .iconst 1, 1), (182, .putfield 21, 3), (185, .aload_n 3, 1), (186, .iconst 0, 1), (187, .putfield 11, 3), (190, .iload 6, 2), (192, .ifCond .le 9, 3), (201, .aload_n 3, 1), (202, .areturn, 1), (43, .aload_n 2, 1), (44, .iload 6, 2), (46, .invokevirtual 108, 3), (49, .aload_n 1, 1), (50, .iload 6, 2), (52, .invokevirtual 108, 3), (66, .iconst 0, 1), (78, .aload_n 2, 1), (90, .iconst 1, 1), (116, .aload 8, 2), (118, .astore_n 2, 1), (119, .goto 6, 3), (195, .aload_n 3, 1), (196, .iload 6, 2), (198, .invokevirtual 121, 3), (29, .iload 4, 2), (31, .goto 5, 3)] := by repeat first | exact on | refine oc ?_
theorem Qt : oE jdk_2101_method_18_code [(0, .aload_n 0, 1), (1, .getfield 21, 3), (4, .ifCond .ne 5, 3), (9, .aload_n 0, 1), (10, .getfield 21, 3), (13, .iconst 1, 1), (14, .isub, 1), (15, .istore_n 1, 1), (16, .iload_n 1, 1), (17, .ifCond .le 23, 3), (40, .aload_n 0, 1), (41, .getfield 17, 3), (44, .iload_n 1, 1), (45, .aload_n 0, 1), (46, .getfield 11, 3), (49, .iadd, 1), (50, .iaload, 1), (51, .istore_n 2, 1), (52, .iload_n 2, 1), (53, .ifCond .ne 5, 3), (58, .aload_n 0, 1), (59, .getfield 21, 3), (62, .iconst 1, 1), (63, .isub, 1), (64, .iload_n 1, 1), (65, .isub, 1), (66, .iconst 5, 1), (67, .ishl, 1), (68, .iload_n 2, 1), (69, .invokestatic 89, 3), (72, .iadd, 1), (73, .ireturn, 1)] := by repeat first | exact on | refine oc ?_
theorem QJ : oE jdk_2101_method_35_code [(0, .aload_n 0, 1), (1, .getfield 21, 3), (4, .ifCond .ne 4, 3), (8, .iload_n 1, 1), (9, .iconst 5, 1), (10, .iushr, 1), (11, .istore_n 2, 1), (12, .iload_n 1, 1), (13, .bipush 31, 2), (15, .iand, 1), (16, .istore_n 3, 1), (17, .aload_n 0, 1), (18, .dup, 1), (19, .getfield 21, 3), (22, .iload_n 2, 1), (23, .isub, 1), (24, .putfield 21, 3), (27, .iload_n 3, 1), (28, .ifCond .ne 4, 3), (31, .return_, 1), (32, .aload_n 0, 1), (33, .getfield 17, 3), (36, .aload_n 0, 1), (37, .getfield 11, 3), (40, .iaload, 1), (41, .invokestatic 112, 3), (44, .istore 4, 2), (46, .iload_n 3, 1), (47, .iload 4, 2), (49, .if_icmp .lt 24, 3), (73, .aload_n 0, 1), (74, .iload_n 3, 1), (75, .invokevirtual 118, 3), (78, .return_, 1)] := by repeat first | exact on | refine oc ?_
theorem Qz : oE jdk_2101_method_74_code [(0, .iload_n 1, 1), (1, .ifCond .ne 5, 3), (6, .iload_n 0, 1), (7, .ifCond .ne 5, 3), (12, .iload_n 0, 1), (13, .invokestatic 89, 3), (16, .istore_n 2, 1), (17, .iload_n 1, 1), (18, .invokestatic 89, 3), (21, .istore_n 3, 1), (22, .iload_n 0, 1), (23, .iload_n 2, 1), (24, .iushr, 1), (25, .istore_n 0, 1), (26, .iload_n 1, 1), (27, .iload_n 3, 1), (28, .iushr, 1), (29, .istore_n 1, 1), (30, .iload_n 2, 1), (31, .iload_n 3, 1), (32, .if_icmp .ge 7, 3), (39, .iload_n 3, 1), (40, .istore 4, 2), (42, .iload_n 0, 1), (43, .iload_n 1, 1), (44, .if_icmp .eq 42, 3), (86, .iload_n 0, 1), (87, .iload 4, 2), (89, .ishl, 1), (90, .ireturn, 1)] := by repeat first | exact on | refine oc ?_
theorem Yi : oE jdk_2101_method_9_code [(0, .aload_n 0, 1), (1, .getfield 21, 3), (4, .ifCond .eq 7, 3), (7, .iload_n 1, 1), (8, .ifCond .ne 7, 3), (15, .new 1, 3), (18, .dup, 1), (19, .aload_n 0, 1), (20, .invokevirtual 58, 3), (23, .iload_n 1, 1), (24, .invokespecial 62, 3), (27, .areturn, 1)] := by repeat first | exact on | refine oc ?_
theorem Yf : oE jdk_2101_method_7_code [(0, .aload_n 0, 1), (1, .getfield 11, 3), (4, .ifCond .gt 15, 3), (7, .aload_n 0, 1), (8, .getfield 17, 3), (11, .arraylength, 1), (12, .aload_n 0, 1), (13, .getfield 21, 3), (16, .if_icmp .eq 48, 3), (64, .aload_n 0, 1), (65, .getfield 17, 3), (68, .areturn, 1)] := by repeat first | exact on | refine oc ?_
theorem GV : oE jdk_2097_method_61_code [(0, .aload_n 1, 1), (1, .getfield 28, 3), (4, .arraylength, 1), (5, .bipush 80, 2), (7, .if_icmp .lt 19, 3), (26, .aload_n 0, 1), (27, .aload_n 1, 1), (28, .invokevirtual 535, 3), (31, .areturn, 1)] := by repeat first | exact on | refine oc ?_
theorem Q_ : oE jdk_2097_method_62_code [(0, .new 541, 3), (3, .dup, 1), (4, .invokespecial 543, 3), (7, .astore_n 2, 1), (8, .new 541, 3), (11, .dup, 1), (12, .aload_n 0, 1), (13, .getfield 28, 3), (16, .invokespecial 544, 3), (19, .astore_n 3, 1), (20, .new 541, 3), (23, .dup, 1), (24, .aload_n 1, 1), (25, .getfield 28, 3), (28, .invokespecial 544, 3), (31, .astore 4, 2), (33, .aload_n 3, 1), (34, .aload 4, 2), (36, .aload_n 2, 1), (37, .iconst 0, 1), (38, .invokevirtual 545, 3), (41, .pop, 1), (42, .aload_n 2, 1), (43, .aload_n 0, 1), (44, .getfield 32, 3), (47, .aload_n 1, 1), (48, .getfield 32, 3), (51, .imul, 1), (52, .invokevirtual 548, 3), (55, .areturn, 1)] := by repeat first | exact on | refine oc ?_
theorem YW : oE jdk_2101_method_3_code [(0, .aload_n 0, 1), (1, .invokespecial 5, 3), (4, .aload_n 0, 1), (5, .iconst 0, 1), (6, .putfield 11, 3), (9, .aload_n 0, 1), (10, .aload_n 1, 1), (11, .putfield 17, 3), (14, .aload_n 0, 1), (15, .aload_n 1, 1), (16, .arraylength, 1), (17, .putfield 21, 3), (20, .return_, 1)] := by repeat first | exact on | refine oc ?_
theorem Q6 : oE jdk_2101_method_57_code [(0, .aload_n 1, 1), (1, .getfield 21, 3), (4, .ifCond .ne 13, 3), (17, .aload_n 0, 1), (18, .getfield 21, 3), (21, .ifCond .ne 29, 3), (50, .aload_n 0, 1), (51, .aload_n 1, 1), (52, .invokevirtual 142, 3), (55, .istore 4, 2), (57, .iload 4, 2), (59, .ifCond .ge 30, 3), (89, .iload 4, 2), (91, .ifCond .ne 36, 3), (94, .aload_n 2, 1), (95, .getfield 17, 3), (98, .iconst 0, 1), (99, .aload_n 2, 1), (100, .iconst 1, 1), (101, .dup_x1, 1), (102, .putfield 21, 3), (105, .iastore, 1), (106, .aload_n 2, 1), (107, .iconst 0, 1), (108, .putfield 11, 3), (111, .iload_n 3, 1), (112, .ifCond .eq 13, 3), (125, .aconst_null, 1), (126, .areturn, 1), (127, .aload_n 2, 1), (128, .invokevirtual 149, 3), (131, .aload_n 1, 1), (132, .getfield 21, 3), (135, .iconst 1, 1), (136, .if_icmp .ne 48, 3), (139, .aload_n 0, 1), (140, .aload_n 1, 1), (141, .getfield 17, 3), (144, .aload_n 1, 1), (145, .getfield 11, 3), (148, .iaload, 1), (149, .aload_n 2, 1), (150, .invokevirtual 178, 3), (153, .istore 5, 2), (155, .iload_n 3, 1), (156, .ifCond .eq 26, 3), (182, .aconst_null, 1), (183, .areturn, 1)] := by repeat first | exact on | refine oc ?_
theorem Kj : oE jdk_2101_method_15_code [(0, .aload_n 1, 1), (1, .getfield 21, 3), (4, .istore_n 2, 1), (5, .aload_n 0, 1), (6, .getfield 21, 3), (9, .iload_n 2, 1), (10, .if_icmp .ge 5, 3), (15, .aload_n 0, 1), (16, .getfield 21, 3), (19, .iload_n 2, 1), (20, .if_icmp .le 5, 3), (25, .aload_n 1, 1), (26, .getfield 17, 3), (29, .astore_n 3, 1), (30, .aload_n 0, 1), (31, .getfield 11, 3), (34, .istore 4, 2), (36, .aload_n 1, 1), (37, .getfield 11, 3), (40, .istore 5, 2), (42, .iload 4, 2), (44, .aload_n 0, 1), (45, .getfield 21, 3), (48, .aload_n 0, 1), (49, .getfield 11, 3), (52, .iadd, 1), (53, .if_icmp .ge 51, 3), (56, .aload_n 0, 1), (57, .getfield 17, 3), (60, .iload 4, 2), (62, .iaload, 1), (63, .ldc 88, 2), (65, .iadd, 1), (66, .istore 6, 2), (68, .aload_n 3, 1), (69, .iload 5, 2), (71, .iaload, 1), (72, .ldc 88, 2), (74, .iadd, 1), (75, .istore 7, 2), (77, .iload 6, 2), (79, .iload 7, 2), (81, .if_icmp .ge 5, 3), (86, .iload 6, 2), (88, .iload 7, 2), (90, .if_icmp .le 5, 3), (95, .iinc 4 1, 3), (98, .iinc 5 1, 3), (101, .goto (-59), 3), (104, .iconst 0, 1), (105, .ireturn, 1), (93, .iconst 1, 1), (94, .ireturn, 1)] := by repeat first | exact on | refine oc ?_
theorem QH : oE jdk_2097_method_35_code [(0, .aload_n 0, 1), (1, .arraylength, 1), (2, .aload_n 1, 1), (3, .arraylength, 1), (4, .if_icmp .ge 9, 3), (13, .aload_n 0, 1), (14, .arraylength, 1), (15, .istore_n 2, 1), (16, .aload_n 1, 1), (17, .arraylength, 1), (18, .istore_n 3, 1), (19, .iload_n 2, 1), (20, .newarray .int, 2), (22, .astore 4, 2), (24, .lconst 0, 1), (25, .lstore 5, 2), (27, .iload_n 3, 1), (28, .iconst 1, 1), (29, .if_icmp .ne 35, 3), (32, .aload_n 0, 1), (33, .iinc 2 (-1), 3), (36, .iload_n 2, 1), (37, .iaload, 1), (38, .i2l, 1), (39, .ldc2_w 130, 3), (42, .land, 1), (43, .aload_n 1, 1), (44, .iconst 0, 1), (45, .iaload, 1), (46, .i2l, 1), (47, .ldc2_w 130, 3), (50, .land, 1), (51, .ladd, 1), (52, .lstore 5, 2), (54, .aload 4, 2), (56, .iload_n 2, 1), (57, .lload 5, 2), (59, .l2i, 1), (60, .iastore, 1), (61, .goto 48, 3), (109, .lload 5, 2), (111, .bipush 32, 2), (113, .lushr, 1), (114, .lconst 0, 1), (115, .lcmp, 1), (116, .ifCond .eq 7, 3), (123, .iconst 0, 1), (124, .istore 7, 2), (126, .iload_n 2, 1), (127, .ifCond .le 34, 3), (161, .iload_n 2, 1), (162, .ifCond .le 16, 3), (178, .iload 7, 2), (180, .ifCond .eq 32, 3), (212, .aload 4, 2), (214, .areturn, 1)] := by repeat first | exact on | refine oc ?_
theorem Y7 : oE jdk_2097_method_74_code [(0, .bipush 32, 2), (2, .iload_n 0, 1), (3, .invokestatic 602, 3), (6, .isub, 1), (7, .ireturn, 1)] := by repeat first | exact on | refine oc ?_
theorem Q2 : oE jdk_33_method_47_code [(0, .iload_n 0, 1), (1, .ifCond .gt 14, 3), (15, .bipush 31, 2), (17, .istore_n 1, 1), (18, .iload_n 0, 1), (19, .ldc_w 264, 3), (22, .if_icmp .lt 11, 3), (33, .iload_n 0, 1), (34, .sipush 256, 3), (37, .if_icmp .lt 11, 3), (48, .iload_n 0, 1), (49, .bipush 16, 2), (51, .if_icmp .lt 10, 3), (61, .iload_n 0, 1), (62, .iconst 4, 1), (63, .if_icmp .lt 10, 3), (73, .iload_n 1, 1), (74, .iload_n 0, 1), (75, .iconst 1, 1), (76, .iushr, 1), (77, .isub, 1), (78, .ireturn, 1), (66, .iinc 1 (-2), 3), (69, .iload_n 0, 1), (70, .iconst 2, 1), (71, .iushr, 1), (72, .istore_n 0, 1)] := by repeat first | exact on | refine oc ?_
theorem Qs : oE jdk_2101_method_41_code [(0, .aload_n 0, 1), (1, .getfield 17, 3), (4, .astore_n 2, 1), (5, .bipush 32, 2), (7, .iload_n 1, 1), (8, .isub, 1), (9, .istore_n 3, 1), (10, .aload_n 0, 1), (11, .getfield 11, 3), (14, .aload_n 0, 1), (15, .getfield 21, 3), (18, .iadd, 1), (19, .iconst 1, 1), (20, .isub, 1), (21, .istore 4, 2), (23, .aload_n 2, 1), (24, .iload 4, 2), (26, .iaload, 1), (27, .istore 5, 2), (29, .iload 4, 2), (31, .aload_n 0, 1), (32, .getfield 11, 3), (35, .if_icmp .le 34, 3), (69, .aload_n 2, 1), (70, .aload_n 0, 1), (71, .getfield 11, 3), (74, .dup2, 1), (75, .iaload, 1), (76, .iload_n 1, 1), (77, .iushr, 1), (78, .iastore, 1), (79, .return_, 1)] := by repeat first | exact on | refine oc ?_
theorem X8 : oE jdk_2101_method_37_code [(0, .aload_n 0, 1), (1, .getfield 21, 3), (4, .ifCond .ne 4, 3), (8, .iload_n 1, 1), (9, .iconst 5, 1), (10, .iushr, 1), (11, .istore_n 2, 1), (12, .iload_n 1, 1), (13, .bipush 31, 2), (15, .iand, 1), (16, .istore_n 3, 1), (17, .aload_n 0, 1), (18, .getfield 17, 3), (21, .aload_n 0, 1), (22, .getfield 11, 3), (25, .iaload, 1), (26, .invokestatic 112, 3), (29, .istore 4, 2), (31, .iload_n 1, 1), (32, .bipush 32, 2), (34, .iload 4, 2), (36, .isub, 1), (37, .if_icmp .gt 9, 3), (40, .aload_n 0, 1), (41, .iload_n 3, 1), (42, .invokevirtual 115, 3), (45, .return_, 1)] := by repeat first | exact on | refine oc ?_
theorem Qh : oE jdk_2101_method_42_code [(0, .aload_n 0, 1), (1, .getfield 17, 3), (4, .astore_n 2, 1), (5, .bipush 32, 2), (7, .iload_n 1, 1), (8, .isub, 1), (9, .istore_n 3, 1), (10, .aload_n 0, 1), (11, .getfield 11, 3), (14, .istore 4, 2), (16, .aload_n 2, 1), (17, .iload 4, 2), (19, .iaload, 1), (20, .istore 5, 2), (22, .iload 4, 2), (24, .aload_n 0, 1), (25, .getfield 21, 3), (28, .iadd, 1), (29, .iconst 1, 1), (30, .isub, 1), (31, .istore 6, 2), (33, .iload 4, 2), (35, .iload 6, 2), (37, .if_icmp .ge 34, 3), (71, .aload_n 2, 1), (72, .aload_n 0, 1), (73, .getfield 11, 3), (76, .aload_n 0, 1), (77, .getfield 21, 3), (80, .iadd, 1), (81, .iconst 1, 1), (82, .isub, 1), (83, .dup2, 1), (84, .iaload, 1), (85, .iload_n 1, 1), (86, .ishl, 1), (87, .iastore, 1), (88, .return_, 1)] := by repeat first | exact on | refine oc ?_
theorem XD : oE jdk_2101_method_13_code [(0, .aload_n 0, 1), (1, .aload_n 0, 1), (2, .iconst 0, 1), (3, .dup_x1, 1), (4, .putfield 21, 3), (7, .putfield 11, 3), (10, .iconst 0, 1), (11, .istore_n 1, 1), (12, .aload_n 0, 1), (13, .getfield 17, 3), (16, .arraylength, 1), (17, .istore_n 2, 1), (18, .iload_n 1, 1), (19, .iload_n 2, 1), (20, .if_icmp .ge 16, 3), (23, .aload_n 0, 1), (24, .getfield 17, 3), (27, .iload_n 1, 1), (28, .iconst 0, 1), (29, .iastore, 1), (30, .iinc 1 1, 3), (33, .goto (-15), 3), (36, .return_, 1)] := by repeat first | exact on | refine oc ?_
theorem QU : oE jdk_2101_method_53_code [(0, .iload_n 1, 1), (1, .i2l, 1), (2, .ldc2_w 52, 3), (5, .land, 1), (6, .lstore_n 3, 1), (7, .aload_n 0, 1), (8, .getfield 21, 3), (11, .iconst 1, 1), (12, .if_icmp .ne 67, 3), (15, .aload_n 0, 1), (16, .getfield 17, 3), (19, .aload_n 0, 1), (20, .getfield 11, 3), (23, .iaload, 1), (24, .i2l, 1), (25, .ldc2_w 52, 3), (28, .land, 1), (29, .lstore 5, 2), (31, .lload 5, 2), (33, .lload_n 3, 1), (34, .ldiv, 1), (35, .l2i, 1), (36, .istore 7, 2), (38, .lload 5, 2), (40, .iload 7, 2), (42, .i2l, 1), (43, .lload_n 3, 1), (44, .lmul, 1), (45, .lsub, 1), (46, .l2i, 1), (47, .istore 8, 2), (49, .aload_n 2, 1), (50, .getfield 17, 3), (53, .iconst 0, 1), (54, .iload 7, 2), (56, .iastore, 1), (57, .aload_n 2, 1), (58, .iload 7, 2), (60, .ifCond .ne 7, 3), (67, .iconst 1, 1), (68, .putfield 21, 3), (71, .aload_n 2, 1), (72, .iconst 0, 1), (73, .putfield 11, 3), (76, .iload 8, 2), (78, .ireturn, 1)] := by repeat first | exact on | refine oc ?_
theorem Qw : oE method_5_code [(0, .iload_n 1, 1), (1, .ifCond .eq 7, 3), (8, .iconst 0, 1), (9, .ireturn, 1), (4, .iload_n 0, 1), (5, .ifCond .ne 5, 3), (10, .iload_n 0, 1), (11, .iload_n 1, 1), (12, .if_icmp .ne 5, 3), (17, .iconst 2, 1), (18, .iload_n 0, 1), (19, .imul, 1), (20, .iload_n 1, 1), (21, .if_icmp .ne 5, 3), (26, .iconst 3, 1), (27, .iload_n 0, 1), (28, .imul, 1), (29, .iconst 2, 1), (30, .iload_n 1, 1), (31, .imul, 1), (32, .if_icmp .ne 5, 3), (37, .iconst 4, 1), (38, .ireturn, 1), (35, .iconst 2, 1), (36, .ireturn, 1), (24, .iconst 1, 1), (25, .ireturn, 1), (15, .iconst 3, 1), (16, .ireturn, 1)] := by repeat first | exact on | refine oc ?_
theorem Qp : oE method_6_code [(0, .iload_n 0, 1), (1, .ifCond .ne 5, 3), (4, .aload_n 1, 1), (5, .areturn, 1), (6, .iload_n 0, 1), (7, .iconst 1, 1), (8, .if_icmp .ne 5, 3), (11, .aload_n 2, 1), (12, .areturn, 1), (13, .iload_n 0, 1), (14, .iconst 2, 1), (15, .if_icmp .ne 5, 3), (18, .aload_n 3, 1), (19, .areturn, 1), (20, .iload_n 0, 1), (21, .iconst 3, 1), (22, .if_icmp .ne 6, 3), (25, .aload 4, 2), (27, .areturn, 1)] := by repeat first | exact on | refine oc ?_
theorem GK : oE jdk_17_method_24_code [(0, .iload_n 0, 1), (1, .ifCond .lt 17, 3), (4, .iload_n 0, 1), (5, .getstatic 250, 3), (8, .arraylength, 1), (9, .if_icmp .ge 9, 3), (12, .getstatic 250, 3), (15, .iload_n 0, 1), (16, .aaload, 1), (17, .areturn, 1)] := by repeat first | exact on | refine oc ?_
theorem Rh : oE jdk_67_method_2_code [(0, .aload_n 0, 1), (1, .iload_n 1, 1), (2, .invokespecial 1, 3), (5, .return_, 1)] := by repeat first | exact on | refine oc ?_
theorem HI : oE jdk_67_method_40_code [(0, .aload_n 0, 1), (1, .iload_n 1, 1), (2, .iload_n 2, 1), (3, .invokespecial 131, 3), (6, .pop, 1), (7, .aload_n 0, 1), (8, .areturn, 1)] := by repeat first | exact on | refine oc ?_
theorem Y0 : oE jdk_68_method_80_code [(0, .iload_n 2, 1), (1, .ifCond .ge 31, 3), (32, .iload_n 2, 1), (33, .ifCond .ne 5, 3), (38, .iload_n 1, 1), (39, .invokestatic 286, 3), (42, .ifCond .eq 14, 3), (45, .aload_n 0, 1), (46, .iload_n 1, 1), (47, .i2c, 1), (48, .iload_n 2, 1), (49, .invokevirtual 417, 3), (52, .pop, 1), (53, .goto 16, 3), (69, .aload_n 0, 1), (70, .areturn, 1)] := by repeat first | exact on | refine oc ?_
theorem Ha : oE jdk_89_method_12_code [(0, .iload_n 0, 1), (1, .bipush 16, 2), (3, .iushr, 1), (4, .ifCond .ne 7, 3), (7, .iconst 1, 1), (8, .goto 4, 3), (12, .ireturn, 1)] := by repeat first | exact on | refine oc ?_
theorem X4 : oE jdk_68_method_79_code [(0, .aload_n 0, 1), (1, .getfield 79, 3), (4, .iload_n 2, 1), (5, .iadd, 1), (6, .istore_n 3, 1), (7, .aload_n 0, 1), (8, .iload_n 3, 1), (9, .invokevirtual 100, 3), (12, .aload_n 0, 1), (13, .invokevirtual 83, 3), (16, .istore 4, 2), (18, .iload 4, 2), (20, .ifCond .eq 27, 3), (23, .iload_n 1, 1), (24, .invokestatic 191, 3), (27, .ifCond .eq 20, 3), (30, .aload_n 0, 1), (31, .getfield 15, 3), (34, .aload_n 0, 1), (35, .getfield 79, 3), (38, .iload_n 3, 1), (39, .iload_n 1, 1), (40, .i2b, 1), (41, .invokestatic 408, 3), (44, .goto 40, 3), (84, .aload_n 0, 1), (85, .iload_n 3, 1), (86, .putfield 79, 3), (89, .aload_n 0, 1), (90, .areturn, 1)] := by repeat first | exact on | refine oc ?_
theorem Qg : oE jdk_65_method_110_code [(0, .aload_n 0, 1), (1, .arraylength, 1), (2, .iload_n 1, 1), (3, .iload_n 2, 1), (4, .invokestatic 13, 3), (7, .iload_n 1, 1), (8, .istore 4, 2), (10, .iload 4, 2), (12, .iload_n 2, 1), (13, .if_icmp .ge 14, 3), (16, .aload_n 0, 1), (17, .iload 4, 2), (19, .iload_n 3, 1), (20, .bastore, 1), (21, .iinc 4 1, 3), (24, .goto (-14), 3), (27, .return_, 1)] := by repeat first | exact on | refine oc ?_
theorem Gn : oE jdk_65_method_30_code [(0, .iload_n 1, 1), (1, .iload_n 2, 1), (2, .if_icmp .le 44, 3), (46, .iload_n 1, 1), (47, .ifCond .ge 12, 3), (59, .iload_n 2, 1), (60, .iload_n 0, 1), (61, .if_icmp .le 12, 3), (73, .return_, 1)] := by repeat first | exact on | refine oc ?_
theorem XZ : parseMethodDescriptor "(II)I" = some ⟨[.int, .int], some .int⟩ := by decide +kernel
theorem Hi : parseMethodDescriptor "()B" = some ⟨[], some .byte⟩ := by decide +kernel
theorem Qf : parseMethodDescriptor "()I" = some ⟨[], some .int⟩ := by decide +kernel
theorem Hr : parseMethodDescriptor "(III)I" = some ⟨[.int, .int, .int], some .int⟩ := by decide +kernel
theorem XY : parseMethodDescriptor "(I)I" = some ⟨[.int], some .int⟩ := by decide +kernel
theorem AJ : parseMethodDescriptor "([BI)[B" = some ⟨[(.array .byte), .int], some (.array .byte)⟩ := by decide +kernel
theorem RJ : parseMethodDescriptor "(Ljava/lang/String;)V" = some ⟨[(.object "java/lang/String")], none⟩ := by decide +kernel
theorem Wi : parseMethodDescriptor "([BIB)V" = some ⟨[(.array .byte), .int, .byte], none⟩ := by decide +kernel
theorem XO : parseMethodDescriptor "(I)V" = some ⟨[.int], none⟩ := by decide +kernel
theorem Bm : parseMethodDescriptor "(ILjava/lang/String;)V" = some ⟨[.int, (.object "java/lang/String")], none⟩ := by decide +kernel
theorem Ji : parseMethodDescriptor "(Ljava/lang/String;)Ljava/lang/AbstractStringBuilder;" = some ⟨[(.object "java/lang/String")], some (.object "java/lang/AbstractStringBuilder")⟩ := by decide +kernel
theorem QS : parseMethodDescriptor "(Ljava/lang/String;)Ljava/lang/StringBuilder;" = some ⟨[(.object "java/lang/String")], some (.object "java/lang/StringBuilder")⟩ := by decide +kernel
theorem HG : parseMethodDescriptor "(II)V" = some ⟨[.int, .int], none⟩ := by decide +kernel
theorem JS : parseMethodDescriptor "([BII)[B" = some ⟨[(.array .byte), .int, .int], some (.array .byte)⟩ := by decide +kernel
theorem Tm : parseMethodDescriptor "()[B" = some ⟨[], some (.array .byte)⟩ := by decide +kernel
theorem GY : parseMethodDescriptor "()Z" = some ⟨[], some .boolean⟩ := by decide +kernel
theorem Tj : parseMethodDescriptor "(Ljava/lang/AbstractStringBuilder;Ljava/lang/Void;)V" = some ⟨[(.object "java/lang/AbstractStringBuilder"), (.object "java/lang/Void")], none⟩ := by decide +kernel
theorem Ug : parseMethodDescriptor "(Ljava/lang/StringBuilder;)V" = some ⟨[(.object "java/lang/StringBuilder")], none⟩ := by decide +kernel
theorem GE : parseMethodDescriptor "(J)I" = some ⟨[.long], some .int⟩ := by decide +kernel
theorem GX : parseMethodDescriptor "(JI[B)I" = some ⟨[.long, .int, (.array .byte)], some .int⟩ := by decide +kernel
theorem HF : parseMethodDescriptor "([BB)V" = some ⟨[(.array .byte), .byte], none⟩ := by decide +kernel
theorem Tn : parseMethodDescriptor "(J)Ljava/lang/AbstractStringBuilder;" = some ⟨[.long], some (.object "java/lang/AbstractStringBuilder")⟩ := by decide +kernel
theorem JQ : parseMethodDescriptor "(IIILjava/util/function/BiFunction;)I" = some ⟨[.int, .int, .int, (.object "java/util/function/BiFunction")], some .int⟩ := by decide +kernel
theorem Jt : parseMethodDescriptor "(C)Z" = some ⟨[.char], some .boolean⟩ := by decide +kernel
theorem Uo : parseMethodDescriptor "(IC)Ljava/lang/AbstractStringBuilder;" = some ⟨[.int, .char], some (.object "java/lang/AbstractStringBuilder")⟩ := by decide +kernel
theorem Vp : parseMethodDescriptor "(III)V" = some ⟨[.int, .int, .int], none⟩ := by decide +kernel
theorem UH : parseMethodDescriptor "([BIIB)V" = some ⟨[(.array .byte), .int, .int, .byte], none⟩ := by decide +kernel
theorem Vo : parseMethodDescriptor "(I)Z" = some ⟨[.int], some .boolean⟩ := by decide +kernel
theorem Uj : parseMethodDescriptor "(CI)Ljava/lang/AbstractStringBuilder;" = some ⟨[.char, .int], some (.object "java/lang/AbstractStringBuilder")⟩ := by decide +kernel
theorem UU : parseMethodDescriptor "(II)Ljava/lang/AbstractStringBuilder;" = some ⟨[.int, .int], some (.object "java/lang/AbstractStringBuilder")⟩ := by decide +kernel
theorem QL : parseMethodDescriptor "()V" = some ⟨[], none⟩ := by decide +kernel
theorem Qj : parseMethodDescriptor "(J)Ljava/math/BigInteger;" = some ⟨[.long], some (.object "java/math/BigInteger")⟩ := by decide +kernel
theorem UR : parseMethodDescriptor "([I[IIII)V" = some ⟨[(.array .int), (.array .int), .int, .int, .int], none⟩ := by decide +kernel
theorem HK : parseMethodDescriptor "([II)[I" = some ⟨[(.array .int), .int], some (.array .int)⟩ := by decide +kernel
theorem Gg : parseMethodDescriptor "([II)V" = some ⟨[(.array .int), .int], none⟩ := by decide +kernel
theorem Gh : parseMethodDescriptor "([III)Ljava/math/BigInteger;" = some ⟨[(.array .int), .int, .int], some (.object "java/math/BigInteger")⟩ := by decide +kernel
theorem Gd : parseMethodDescriptor "(Ljava/math/BigInteger;ZZI)Ljava/math/BigInteger;" = some ⟨[(.object "java/math/BigInteger"), .boolean, .boolean, .int], some (.object "java/math/BigInteger")⟩ := by decide +kernel
theorem Tp : parseMethodDescriptor "([I[I)[I" = some ⟨[(.array .int), (.array .int)], some (.array .int)⟩ := by decide +kernel
theorem Jm : parseMethodDescriptor "(Ljava/math/MutableBigInteger;)Ljava/math/MutableBigInteger;" = some ⟨[(.object "java/math/MutableBigInteger")], some (.object "java/math/MutableBigInteger")⟩ := by decide +kernel
theorem Vl : parseMethodDescriptor "()[I" = some ⟨[], some (.array .int)⟩ := by decide +kernel
theorem Go : parseMethodDescriptor "(Ljava/math/BigInteger;)V" = some ⟨[(.object "java/math/BigInteger")], none⟩ := by decide +kernel
theorem Jb : parseMethodDescriptor "(I)Ljava/math/BigInteger;" = some ⟨[.int], some (.object "java/math/BigInteger")⟩ := by decide +kernel
theorem JZ : parseMethodDescriptor "(Ljava/math/MutableBigInteger;)I" = some ⟨[(.object "java/math/MutableBigInteger")], some .int⟩ := by decide +kernel
theorem V8 : parseMethodDescriptor "(ILjava/math/MutableBigInteger;)I" = some ⟨[.int, (.object "java/math/MutableBigInteger")], some .int⟩ := by decide +kernel
theorem Je : parseMethodDescriptor "([I)V" = some ⟨[(.array .int)], none⟩ := by decide +kernel
theorem UT : parseMethodDescriptor "(Ljava/math/MutableBigInteger;Ljava/math/MutableBigInteger;Z)Ljava/math/MutableBigInteger;" = some ⟨[(.object "java/math/MutableBigInteger"), (.object "java/math/MutableBigInteger"), .boolean], some (.object "java/math/MutableBigInteger")⟩ := by decide +kernel
theorem Qn : parseMethodDescriptor "(Ljava/math/BigInteger;)Ljava/math/BigInteger;" = some ⟨[(.object "java/math/BigInteger")], some (.object "java/math/BigInteger")⟩ := by decide +kernel
theorem Jk : parseMethodDescriptor "(J)J" = some ⟨[.long], some .long⟩ := by decide +kernel
theorem Gm : parseMethodDescriptor "(JJ)I" = some ⟨[.long, .long], some .int⟩ := by decide +kernel
theorem U5 : parseMethodDescriptor "(IIIZ)Z" = some ⟨[.int, .int, .int, .boolean], some .boolean⟩ := by decide +kernel
theorem Tt : parseMethodDescriptor "(I)Ljava/math/BigDecimal;" = some ⟨[.int], some (.object "java/math/BigDecimal")⟩ := by decide +kernel
theorem VH : parseMethodDescriptor "(Ljava/math/BigInteger;JII)V" = some ⟨[(.object "java/math/BigInteger"), .long, .int, .int], none⟩ := by decide +kernel
theorem Jc : parseMethodDescriptor "(JI)Ljava/math/BigDecimal;" = some ⟨[.long, .int], some (.object "java/math/BigDecimal")⟩ := by decide +kernel
theorem WE : parseMethodDescriptor "(JIIJJ)Z" = some ⟨[.long, .int, .int, .long, .long], some .boolean⟩ := by decide +kernel
theorem JY : parseMethodDescriptor "(JI)J" = some ⟨[.long, .int], some .long⟩ := by decide +kernel
theorem Jo : parseMethodDescriptor "(JJIII)Ljava/math/BigDecimal;" = some ⟨[.long, .long, .int, .int, .int], some (.object "java/math/BigDecimal")⟩ := by decide +kernel
theorem Vc : parseMethodDescriptor "(JIJIII)Ljava/math/BigDecimal;" = some ⟨[.long, .int, .long, .int, .int, .int], some (.object "java/math/BigDecimal")⟩ := by decide +kernel
theorem VL : parseMethodDescriptor "(Ljava/math/BigDecimal;II)Ljava/math/BigDecimal;" = some ⟨[(.object "java/math/BigDecimal"), .int, .int], some (.object "java/math/BigDecimal")⟩ := by decide +kernel
theorem VE : parseMethodDescriptor "(Ljava/math/BigInteger;)J" = some ⟨[(.object "java/math/BigInteger")], some .long⟩ := by decide +kernel
theorem JR : parseMethodDescriptor "(I)[Ljava/lang/Object;" = some ⟨[.int], some (.array (.object "java/lang/Object"))⟩ := by decide +kernel
theorem Tq : parseMethodDescriptor "([Ljava/lang/Object;ILjava/lang/Class;)[Ljava/lang/Object;" = some ⟨[(.array (.object "java/lang/Object")), .int, (.object "java/lang/Class")], some (.array (.object "java/lang/Object"))⟩ := by decide +kernel
theorem WA : parseMethodDescriptor "([Ljava/lang/Object;I)[Ljava/lang/Object;" = some ⟨[(.array (.object "java/lang/Object")), .int], some (.array (.object "java/lang/Object"))⟩ := by decide +kernel
theorem JO : parseMethodDescriptor "()[Ljava/lang/Object;" = some ⟨[], some (.array (.object "java/lang/Object"))⟩ := by decide +kernel
theorem HY : parseMethodDescriptor "(Ljava/lang/Object;[Ljava/lang/Object;I)V" = some ⟨[(.object "java/lang/Object"), (.array (.object "java/lang/Object")), .int], none⟩ := by decide +kernel
theorem Vn : parseMethodDescriptor "(IILjava/util/function/BiFunction;)I" = some ⟨[.int, .int, (.object "java/util/function/BiFunction")], some .int⟩ := by decide +kernel
theorem X9 : parseMethodDescriptor "(I)Ljava/lang/Object;" = some ⟨[.int], some (.object "java/lang/Object")⟩ := by decide +kernel
theorem Qr : parseMethodDescriptor "()Ljava/lang/String;" = some ⟨[], some (.object "java/lang/String")⟩ := by decide +kernel
theorem WR : parseMethodDescriptor "(IC)Ljava/lang/StringBuilder;" = some ⟨[.int, .char], some (.object "java/lang/StringBuilder")⟩ := by decide +kernel
theorem Ve : parseMethodDescriptor "(II)Ljava/lang/StringBuilder;" = some ⟨[.int, .int], some (.object "java/lang/StringBuilder")⟩ := by decide +kernel
theorem Jf : parseMethodDescriptor "(J)Ljava/lang/String;" = some ⟨[.long], some (.object "java/lang/String")⟩ := by decide +kernel
theorem WD : parseMethodDescriptor "(ILjava/lang/String;I)Ljava/lang/String;" = some ⟨[.int, (.object "java/lang/String"), .int], some (.object "java/lang/String")⟩ := by decide +kernel
theorem Vd : parseMethodDescriptor "(Ljava/math/BigDecimal;ILjava/math/RoundingMode;)Ljava/math/BigDecimal;" = some ⟨[(.object "java/math/BigDecimal"), .int, (.object "java/math/RoundingMode")], some (.object "java/math/BigDecimal")⟩ := by decide +kernel
theorem V5 : parseMethodDescriptor "()Lcom/example/wardstream/wardstream/engine/Decision;" = some ⟨[], some (.object "com/example/wardstream/wardstream/engine/Decision")⟩ := by decide +kernel
theorem Vt : parseMethodDescriptor "([B[B)Z" = some ⟨[(.array .byte), (.array .byte)], some .boolean⟩ := by decide +kernel
theorem YU : parseMethodDescriptor "(Ljava/math/BigInteger;Ljava/math/BigInteger;)Ljava/lang/String;" = some ⟨[(.object "java/math/BigInteger"), (.object "java/math/BigInteger")], some (.object "java/lang/String")⟩ := by decide +kernel
theorem YX : parseMethodDescriptor "(J)Ljava/lang/StringBuilder;" = some ⟨[.long], some (.object "java/lang/StringBuilder")⟩ := by decide +kernel
theorem QP : parseMethodDescriptor "(Ljava/lang/Object;)Z" = some ⟨[(.object "java/lang/Object")], some .boolean⟩ := by decide +kernel
theorem VX : parseMethodDescriptor "([J)J" = some ⟨[(.array .long)], some .long⟩ := by decide +kernel
theorem Uq : parseMethodDescriptor "(JJ)Ljava/lang/String;" = some ⟨[.long, .long], some (.object "java/lang/String")⟩ := by decide +kernel
theorem WL : parseMethodDescriptor "(Z)V" = some ⟨[.boolean], none⟩ := by decide +kernel
theorem Jq : parseMethodDescriptor "(I)Lcom/example/wardstream/wardstream/engine/Decision;" = some ⟨[.int], some (.object "com/example/wardstream/wardstream/engine/Decision")⟩ := by decide +kernel
theorem Jp : parseMethodDescriptor "(ILcom/example/wardstream/wardstream/engine/Decision;Ljava/util/List;)V" = some ⟨[.int, (.object "com/example/wardstream/wardstream/engine/Decision"), (.object "java/util/List")], none⟩ := by decide +kernel
theorem Jx : parseMethodDescriptor "(Lcom/example/wardstream/wardstream/engine/Assessment;Z)V" = some ⟨[(.object "com/example/wardstream/wardstream/engine/Assessment"), .boolean], none⟩ := by decide +kernel
theorem WC : parseMethodDescriptor "()Ljava/util/List;" = some ⟨[], some (.object "java/util/List")⟩ := by decide +kernel
theorem Gj : parseMethodDescriptor "(ILjava/lang/String;Ljava/lang/String;Ljava/lang/String;)Ljava/lang/String;" = some ⟨[.int, (.object "java/lang/String"), (.object "java/lang/String"), (.object "java/lang/String")], some (.object "java/lang/String")⟩ := by decide +kernel
theorem YZ : parseMethodDescriptor "(ILjava/lang/String;Ljava/lang/String;Ljava/lang/String;Ljava/lang/String;)Ljava/lang/String;" = some ⟨[.int, (.object "java/lang/String"), (.object "java/lang/String"), (.object "java/lang/String"), (.object "java/lang/String")], some (.object "java/lang/String")⟩ := by decide +kernel
variable {l : Launch} {Z : State} {a0 : Array Value}
theorem Qd {a b c : Nat} (h : a < c) (q : c ≤ b) : b ≠ a := fun e => Nat.lt_irrefl _ (Nat.lt_of_lt_of_le h (e ▸ q))
theorem Qm (i : Nat) : (Int32.ofNat i).toInt = Int.bmod i 4294967296 := Int32.toInt_ofNat'
theorem Yx (x : Int32) : x >>> ((0 : Int32) &&& 31) = x := by
 rw [show ((0 : Int32) &&& 31) = 0 from by decide]; simp
theorem YF (x : Int32) : x <<< ((0 : Int32) &&& 31) = x := by
 rw [show ((0 : Int32) &&& 31) = 0 from by decide]; simp
def L0 : MethodName := ⟨"java/lang/Math", "min", "(II)I"⟩
theorem WJ : plainFor L0 = true := by decide +kernel
theorem We {x0 : Int32} {x1 : Int32} (m : MethodId) : entryFrame m #[.int x0, .int x1] 2 = oF m 0 [.val (.int x0), .val (.int x1)] [] := by (first | (simp [entryFrame, oF, mkF, argsToLocals, Value.category]; done) | rfl)
theorem W9 (hw : Kh Z a0) (i j : Nat) (h0 : Heap) (hi : i < 2 ^ 31) (hj : j < 2 ^ 31) :
  KH l Z L0 jdk_29_method_69_code 2 (some .int) ⟨0, 0, 0, 0⟩ #[.int (Int32.ofNat i), .int (Int32.ofNat j)] h0 (fun a => h0.size ≤ a) (fun v h => v = some (.int (Int32.ofNat (min i j))) ∧ h0 = h) := by
 refine Q9 WJ We fun p e s m below meth c C hs => ?_
 refine K8 0 C (TY.g 0) ?_
 refine K8 1 C (TY.g 1) ?_
 refine QK 2 C 9 (TY.g 2) (fun hc2 => ?_) (fun hc2 => ?_)
 ·simp only [oC, Classical.not_not] at hc2
  refine K8 9 C (TY.g 3) ?_
  refine KP 10 C (TY.g 4) rfl (fun _ _ => ⟨by rw [GR hj hi] at hc2; rw [Nat.min_eq_right (by omega)]; rfl, rfl⟩)
 ·simp only [oC, Classical.not_not] at hc2
  refine K8 5 C (TY.g 5) ?_
  refine KT 6 C 10 (TY.g 6) ?_
  refine KP 10 C (TY.g 4) rfl (fun _ _ => ⟨by rw [GR hj hi] at hc2; rw [Nat.min_eq_left (by omega)]; rfl, rfl⟩)
def LJ : MethodName := ⟨"java/lang/Math", "max", "(II)I"⟩
theorem VS : plainFor LJ = true := by decide +kernel
theorem Wj (hw : Kh Z a0) (i j : Nat) (h0 : Heap) (hi : i < 2 ^ 31) (hj : j < 2 ^ 31) :
  KH l Z LJ jdk_29_method_65_code 2 (some .int) ⟨0, 0, 0, 0⟩ #[.int (Int32.ofNat i), .int (Int32.ofNat j)] h0 (fun a => h0.size ≤ a) (fun v h => v = some (.int (Int32.ofNat (max i j))) ∧ h0 = h) := by
 refine Q9 VS We fun p e s m below meth c C hs => ?_
 refine K8 0 C (TW.g 0) ?_
 refine K8 1 C (TW.g 1) ?_
 refine QK 2 C 9 (TW.g 2) (fun hc2 => ?_) (fun hc2 => ?_)
 ·simp only [oC, Classical.not_not] at hc2
  refine K8 9 C (TW.g 3) ?_
  refine KP 10 C (TW.g 4) rfl (fun _ _ => ⟨by rw [GR hi hj] at hc2; rw [Nat.max_eq_right (by omega)]; rfl, rfl⟩)
 ·simp only [oC, Classical.not_not] at hc2
  refine K8 5 C (TW.g 5) ?_
  refine KT 6 C 10 (TW.g 6) ?_
  refine KP 10 C (TW.g 4) rfl (fun _ _ => ⟨by rw [GR hi hj] at hc2; rw [Nat.max_eq_left (by omega)]; rfl, rfl⟩)
def Fr : MethodName := ⟨"jdk/internal/util/ArraysSupport", "newLength", "(III)I"⟩
theorem WK : plainFor Fr = true := by decide +kernel
theorem WX {x0 : Int32} {x1 : Int32} {x2 : Int32} (m : MethodId) : entryFrame m #[.int x0, .int x1, .int x2] 4 = oF m 0 [.val (.int x0), .val (.int x1), .val (.int x2), .unset] [] := by (first | (simp [entryFrame, oF, mkF, argsToLocals, Value.category]; done) | rfl)
theorem Fm (hw : Kh Z a0) (q g_ f_ : Nat) (h0 : Heap) (b1 : 0 < q) (b2 : q + g_ + f_ < 100000) :
  KH l Z Fr jdk_48_method_27_code 4 (some .int) ⟨1, 0, 0, 21⟩ #[.int (Int32.ofNat q), .int (Int32.ofNat g_), .int (Int32.ofNat f_)] h0 (fun a => h0.size ≤ a) (fun v h => v = some (.int (Int32.ofNat (q + max g_ f_))) ∧ h0 = h) := by
 refine Q9 WK WX fun p e s m below meth c C hs => ?_
 refine K8 0 C (Hn.g 0) ?_
 refine K8 1 C (Hn.g 1) ?_
 refine K8 2 C (Hn.g 2) ?_
 refine KK 3 C (Wj hw g_ f_ _ (by omega) (by omega)) (hw.g 353) (hw.g 271) (hw.g 239) (hw.g 272) XZ (Hn.g 3) (argsL := [_, _]) rfl rfl rfl rfl ?_
 rintro _ _ ⟨rfl, rfl⟩ -
 refine Kg 6 C (Hn.g 4) ?_
 rw [← Int32.ofNat_add]
 refine KO 7 C (Ls' := [_, _, _, _]) (Hn.g 5) rfl ?_
 refine KD 8 C 0 (Hn.g 6) ?_
 refine K8 9 C (Hn.g 7) ?_
 refine QK 10 C 21 (Hn.g 8) (fun hc10 => ?_) (fun hc10 => ?_)
 ·simp only [oC, Classical.not_not] at hc10
  exact absurd (DG (by omega) (by omega)) hc10
 ·simp only [oC, Classical.not_not] at hc10
  refine K8 13 C (Hn.g 9) ?_
  refine XF 14 C (hw.g 354) (Hn.g 10) ?_
  refine QK 16 C 21 (Hn.g 11) (fun hc16 => ?_) (fun hc16 => ?_)
  ·simp only [oC, Classical.not_not] at hc16
   exact False.elim (by simp only [Int32.lt_iff_toInt_lt, ← Int32.toInt_inj, Int32.toInt_add, Int32.toInt_sub, Qm, Int32.reduceToInt, Int.bmod_def] at hc16; omega)
  ·simp only [oC, Classical.not_not] at hc16
   refine K8 19 C (Hn.g 12) ?_
   refine KP 20 C (Hn.g 13) rfl (fun _ _ => ⟨rfl, rfl⟩)
def LQ : MethodName := ⟨"java/lang/String", "coder", "()B"⟩
theorem WG : plainFor LQ = true := by decide +kernel
theorem YL {x0 : Addr} (m : MethodId) : entryFrame m #[.ref x0] 1 = oF m 0 [.val (.ref x0)] [] := by (first | (simp [entryFrame, oF, mkF, argsToLocals, Value.category]; done) | rfl)
theorem T1 (hw : Kh Z a0) (W : oW Z) (a : Addr) (us : List Int32) (h0 : Heap) (F : QY Z h0 a us) :
  KH l Z LQ jdk_42_method_152_code 1 (some .byte) ⟨0, 0, 0, 0⟩ #[.ref a] h0 (fun a => h0.size ≤ a) (fun v h => v = some (.int 0) ∧ h0 = h) := by
 refine Q9 WG YL fun p e s m below meth c C hs => ?_
 obtain ⟨cs, hcs, Sc⟩ := W.cs
 obtain ⟨X, hu1, b1, V, K1, A⟩ := F
 refine Ko 0 C (hw.g 143) Via.refl Sc (WY.g 0) ?_
 refine Qx 3 C 13 (WY.g 1) (fun hc3 => ?_) (fun hc3 => ?_)
 ·simp only [oC, Classical.not_not] at hc3
  exact absurd hc3 hcs
 ·simp only [oC, Classical.not_not] at hc3
  refine K0 6 C (WY.g 2) ?_
  refine KF 7 C (hw.g 144) Via.refl K1 (WY.g 3) ?_
  refine KT 10 C 14 (WY.g 4) ?_
  refine KP 14 C (WY.g 5) rfl (fun _ _ => ⟨rfl, rfl⟩)
def LA : MethodName := ⟨"java/lang/String", "length", "()I"⟩
theorem Tz : plainFor LA = true := by decide +kernel
theorem RI (hw : Kh Z a0) (W : oW Z) (a : Addr) (us : List Int32) (h0 : Heap) (F : QY Z h0 a us) :
  KH l Z LA jdk_42_method_54_code 1 (some .int) ⟨1, 0, 0, 20⟩ #[.ref a] h0 (fun a => h0.size ≤ a) (fun v h => v = some (.int (Int32.ofNat us.length)) ∧ h0 = h) := by
 refine Q9 Tz YL fun p e s m below meth c C hs => ?_
 have F0 := F
 obtain ⟨X, hu1, b1, V, K1, A⟩ := F
 refine K0 0 C (U7.g 0) ?_
 refine KF 1 C (hw.g 137) Via.refl V (U7.g 1) ?_
 refine KZ 4 C A (U7.g 2) ?_
 rw [List.length_map]
 refine K0 5 C (U7.g 3) ?_
 refine KI 6 C (T1 hw W a us _ F0) (X) (hw.g 138) (hw.g 139) (QF (hw.g 141)) (hw.g 141) (hw.g 140) (hw.g 110) (hw.g 142) Hi (U7.g 4) (argsL := []) rfl rfl rfl rfl ?_
 rintro _ _ ⟨rfl, rfl⟩ -
 refine Gi 9 C (U7.g 5) ?_
 rw [Yx]
 refine KP 10 C (U7.g 6) rfl (fun _ _ => ⟨rfl, rfl⟩)
def Fp : MethodName := ⟨"java/lang/AbstractStringBuilder", "isLatin1", "()Z"⟩
theorem VQ : plainFor Fp = true := by decide +kernel
theorem T3 (hw : Kh Z a0) (W : oW Z) (sb va : Addr) (cnt : Int32) (bs : List Value) (h0 : Heap) (F : XQ Z h0 sb va cnt bs) :
  KH l Z Fp jdk_68_method_68_code 1 (some .boolean) ⟨0, 0, 0, 0⟩ #[.ref sb] h0 (fun a => h0.size ≤ a) (fun v h => v = some (.int 1) ∧ h0 = h) := by
 refine Q9 VQ YL fun p e s m below meth c C hs => ?_
 obtain ⟨cs, hcs, Sc⟩ := W.cs
 refine Ko 0 C (hw.g 109) Via.refl Sc (TV.g 0) ?_
 refine Qx 3 C 17 (TV.g 1) (fun hc3 => ?_) (fun hc3 => ?_)
 ·simp only [oC, Classical.not_not] at hc3
  exact absurd hc3 hcs
 ·simp only [oC, Classical.not_not] at hc3
  refine K0 6 C (TV.g 2) ?_
  refine KF 7 C (hw.g 114) Via.refl F.K (TV.g 3) ?_
  refine KW 10 C (TV.g 4) ?_
  refine KD 13 C 1 (TV.g 5) ?_
  refine KT 14 C 18 (TV.g 6) ?_
  refine KP 18 C (TV.g 7) (by first | rfl | decide) (fun _ _ => ⟨rfl, rfl⟩)
def Fo : MethodName := ⟨"java/lang/AbstractStringBuilder", "getValue", "()[B"⟩
theorem Vk : plainFor Fo = true := by decide +kernel
theorem Lm (hw : Kh Z a0) (W : oW Z) (sb va : Addr) (cnt : Int32) (bs : List Value) (h0 : Heap) (F : XQ Z h0 sb va cnt bs) :
  KH l Z Fo jdk_68_method_64_code 1 (some (.array .byte)) ⟨0, 0, 0, 0⟩ #[.ref sb] h0 (fun a => h0.size ≤ a) (fun v h => v = some (.ref va) ∧ h0 = h) := by
 refine Q9 Vk YL fun p e s m below meth c C hs => ?_
 refine K0 0 C (D7.g 0) ?_
 refine KF 1 C (hw.g 112) Via.refl F.V (D7.g 1) ?_
 refine KL 4 C (D7.g 2) (fun _ _ => ⟨rfl, rfl⟩)
def L5 : MethodName := ⟨"java/lang/AbstractStringBuilder", "length", "()I"⟩
theorem WQ : plainFor L5 = true := by decide +kernel
theorem CN (hw : Kh Z a0) (W : oW Z) (sb va : Addr) (cnt : Int32) (bs : List Value) (h0 : Heap) (F : XQ Z h0 sb va cnt bs) :
  KH l Z L5 jdk_68_method_6_code 1 (some .int) ⟨0, 0, 0, 0⟩ #[.ref sb] h0 (fun a => h0.size ≤ a) (fun v h => v = some (.int cnt) ∧ h0 = h) := by
 refine Q9 WQ YL fun p e s m below meth c C hs => ?_
 refine K0 0 C (DN.g 0) ?_
 refine KF 1 C (hw.g 145) Via.refl F.N (DN.g 1) ?_
 refine KP 4 C (DN.g 2) rfl (fun _ _ => ⟨rfl, rfl⟩)
def FY : MethodName := ⟨"java/lang/StringBuilder", "length", "()I"⟩
theorem Uu : plainFor FY = true := by decide +kernel
theorem CV (hw : Kh Z a0) (W : oW Z) (sb va : Addr) (cnt : Int32) (bs : List Value) (h0 : Heap) (F : XQ Z h0 sb va cnt bs) :
  KH l Z FY jdk_67_method_93_code 1 (some .int) ⟨1, 0, 0, 20⟩ #[.ref sb] h0 (fun a => h0.size ≤ a) (fun v h => v = some (.int cnt) ∧ h0 = h) := by
 refine Q9 Uu YL fun p e s m below meth c C hs => ?_
 refine K0 0 C (DR.g 0) ?_
 refine YD 1 C (CN hw W sb va cnt bs _ F) (Ins.self F.X) (hw.g 224 rfl) (Wc (w := (⟨"java/lang/AbstractStringBuilder", "ensureCapacityInternal", "(I)V"⟩ : MethodName)) rfl (hw.g 150) (hw.g 220) (by decide)) (hw.g 220) (hw.g 129) (hw.g 106) (hw.g 225) Qf (DR.g 1) (argsL := []) rfl rfl rfl rfl ?_
 rintro _ _ ⟨rfl, rfl⟩ -
 refine KP 4 C (DR.g 2) rfl (fun _ _ => ⟨rfl, rfl⟩)
theorem GP {α : Type} {bs ds : List α} : bs.length ≤ ds.length → ds.take 0 ++ ((bs.drop 0).take bs.length ++ ds.drop (0 + bs.length)) = bs ++ ds.drop bs.length := by
 intro _
 simp
def L6 : MethodName := ⟨"java/util/Arrays", "copyOf", "([BI)[B"⟩
theorem WF : plainFor L6 = true := by decide +kernel
theorem CO {x0 : Addr} {x1 : Int32} (m : MethodId) : entryFrame m #[.ref x0, .int x1] 3 = oF m 0 [.val (.ref x0), .val (.int x1), .unset] [] := by (first | (simp [entryFrame, oF, mkF, argsToLocals, Value.category]; done) | rfl)
theorem CQ (hw : Kh Z a0) (va : Addr) (t : Nat) (bs : List Value) (h0 : Heap) (b1 : bs.length < t) (b2 : t ≤ 100) (A : XE Z h0 va .byte "[B" bs) (hb0 : ∀ v ∈ bs, YB v) :
  KH l Z L6 jdk_65_method_121_code 3 (some (.array .byte)) ⟨1, 1, 100, 34⟩ #[.ref va, .int (Int32.ofNat t)] h0 (fun a => h0.size ≤ a) (fun v h => ∃ q, v = some (.ref q) ∧ h0.size ≤ q ∧ XE Z h q .byte "[B" (bs ++ List.replicate (t - bs.length) (.int 0))) := by
 refine Q9 WF CO fun p e s m below meth c C hs => ?_
 refine K8 0 C (Gt.g 0) ?_
 refine K0 1 C (Gt.g 1) ?_
 refine KZ 2 C A.1 (Gt.g 2) ?_
 refine QK 3 C 14 (Gt.g 3) (fun hc3 => ?_) (fun hc3 => ?_)
 ·simp only [oC, Classical.not_not] at hc3
  refine K8 14 C (Gt.g 4) ?_
  refine Q7 C (aty := .byte) (pc := 15) (ad := "[B") t 100 (hw.g 111) (Gt.g 5) (Xk _ (by omega)) b2 (by decide) (by decide) (by decide) (by decide) ?_
  intro h1 q hq hPq E1 D1
  refine KY 17 C (Ls' := [_, _, _]) (Gt.g 6) rfl rfl ?_
  refine K0 18 C (Gt.g 7) ?_
  refine KD 19 C 0 (Gt.g 8) ?_
  refine K0 20 C (Gt.g 9) ?_
  refine KD 21 C 0 (Gt.g 10) ?_
  refine K0 22 C (Gt.g 11) ?_
  refine KZ 23 C (A.ext E1).1 (Gt.g 12) ?_
  refine K8 24 C (Gt.g 13) ?_
  refine KK 25 C (W9 hw bs.length t _ (by omega) (by omega)) (hw.g 237) (hw.g 238) (hw.g 239) (hw.g 240) XZ (Gt.g 14) (argsL := [_, _]) rfl rfl rfl rfl ?_
  rintro _ _ ⟨rfl, rfl⟩ -
  rw [Nat.min_eq_left (by omega)]
  refine Yt 28 C 0 0 bs.length (A.ext E1).1 D1.1 rfl rfl (Xk _ (by omega)) (by omega) (by simp; omega) (fun v z => (hb0 v z).fit) hPq (hw.g 241) (hw.g 171) (hw.g 169) (hw.g 170) (Gt.g 15) rfl (by decide) (by decide) ?_
  intro h2 K2 hs2 D2
  replace D2 : XE Z h2 q .byte "[B" (bs ++ List.replicate (t - bs.length) (.int 0)) := ⟨D2.eq (by rw [GP (by simp; omega)]; simp [defaultValue, newarray.typeOf]), K2.exa D1.2⟩
  refine K0 31 C (Gt.g 16) ?_
  refine KL 32 C (Gt.g 17) (fun _ _ => ⟨q, rfl, Nat.le_of_eq hq.symm, D2⟩)
 ·simp only [oC, Classical.not_not] at hc3
  exact False.elim (by simp only [Int32.lt_iff_toInt_lt, ← Int32.toInt_inj, Int32.toInt_add, Int32.toInt_sub, Qm, Int32.reduceToInt, Int.bmod_def] at hc3; omega)
def F7 : MethodName := ⟨"java/lang/AbstractStringBuilder", "newCapacity", "(I)I"⟩
theorem Ts : plainFor F7 = true := by decide +kernel
theorem Lp {x0 : Addr} {x1 : Int32} (m : MethodId) : entryFrame m #[.ref x0, .int x1] 6 = oF m 0 [.val (.ref x0), .val (.int x1), .unset, .unset, .unset, .unset] [] := by (first | (simp [entryFrame, oF, mkF, argsToLocals, Value.category]; done) | rfl)
theorem Lt (hw : Kh Z a0) (W : oW Z) (sb va : Addr) (cnt : Int32) (bs : List Value) (t : Nat) (b1 : bs.length < t) (b2 : t ≤ 34) (b3 : 0 < bs.length) (h0 : Heap) (F : XQ Z h0 sb va cnt bs) :
  KH l Z F7 jdk_68_method_10_code 6 (some .int) ⟨2, 0, 0, 44⟩ #[.ref sb, .int (Int32.ofNat t)] h0 (fun a => h0.size ≤ a) (fun v h => ∃ q : Nat, v = some (.int (Int32.ofNat q)) ∧ t ≤ q ∧ q ≤ 70 ∧ h0 = h) := by
 refine Q9 Ts Lp fun p e s m below meth c C hs => ?_
 refine K0 0 C (Y9.g 0) ?_
 refine KF 1 C (hw.g 112) Via.refl F.V (Y9.g 1) ?_
 refine KZ 4 C F.A.1 (Y9.g 2) ?_
 refine KO 5 C (Ls' := [_, _, _, _, _, _]) (Y9.g 3) rfl ?_
 refine K8 6 C (Y9.g 4) ?_
 refine K0 7 C (Y9.g 5) ?_
 refine KF 8 C (hw.g 114) Via.refl F.K (Y9.g 6) ?_
 refine XN 11 C (Y9.g 7) ?_
 rw [YF]
 refine KO 12 C (Ls' := [_, _, _, _, _, _]) (Y9.g 8) rfl ?_
 refine K8 13 C (Y9.g 9) ?_
 refine K8 14 C (Y9.g 10) ?_
 refine Kt 15 C (Y9.g 11) ?_
 rw [show Int32.ofNat t - Int32.ofNat bs.length = Int32.ofNat (t - bs.length) from Int32.toInt_inj.mp (by simp only [Int32.lt_iff_toInt_lt, ← Int32.toInt_inj, Int32.toInt_add, Int32.toInt_sub, Qm, Int32.reduceToInt, Int.bmod_def]; omega)]
 refine KG 16 C (Ls' := [_, _, _, _, _, _]) (Y9.g 12) rfl ?_
 refine K8 18 C (Y9.g 13) ?_
 refine KE 19 C (Y9.g 14) ?_
 refine K8 21 C (Y9.g 15) ?_
 refine KD 22 C 2 (Y9.g 16) ?_
 refine K0 23 C (Y9.g 17) ?_
 refine KF 24 C (hw.g 114) Via.refl F.K (Y9.g 18) ?_
 refine XN 27 C (Y9.g 19) ?_
 rw [YF]
 refine Kg 28 C (Y9.g 20) ?_
 rw [show Int32.ofNat bs.length + 2 = Int32.ofNat (bs.length + 2) from (Int32.ofNat_add _ 2).symm]
 refine KK 29 C (Fm hw bs.length (t - bs.length) (bs.length + 2) _ b3 (by omega)) (hw.g 349) (hw.g 350) (hw.g 351) (hw.g 352) Hr (Y9.g 21) (argsL := [_, _, _]) rfl rfl rfl rfl ?_
 rintro _ _ ⟨rfl, rfl⟩ -
 refine KG 32 C (Ls' := [_, _, _, _, _, _]) (Y9.g 22) rfl ?_
 refine KE 34 C (Y9.g 23) ?_
 refine XF 36 C (hw.g 355) (Y9.g 24) ?_
 refine QK 38 C 51 (Y9.g 25) (fun hc38 => ?_) (fun hc38 => ?_)
 ·simp only [oC, Classical.not_not] at hc38
  refine KE 51 C (Y9.g 26) ?_
  refine K0 53 C (Y9.g 27) ?_
  refine KF 54 C (hw.g 114) Via.refl F.K (Y9.g 28) ?_
  refine Gi 57 C (Y9.g 29) ?_
  rw [Yx]
  refine KP 58 C (Y9.g 30) rfl (fun _ _ => ⟨_, rfl, by omega, by omega, rfl⟩)
 ·simp only [oC, Classical.not_not] at hc38
  exact False.elim (by simp only [Int32.lt_iff_toInt_lt, ← Int32.toInt_inj, Int32.toInt_add, Int32.toInt_sub, Qm, Int32.reduceToInt, Int.bmod_def] at hc38; omega)
def L7 : MethodName := ⟨"java/lang/AbstractStringBuilder", "ensureCapacityInternal", "(I)V"⟩
theorem U3 : plainFor L7 = true := by decide +kernel
theorem TL (hw : Kh Z a0) (W : oW Z) (sb va : Addr) (cnt : Int32) (bs : List Value) (t : Nat) (b2 : t ≤ 34) (b3 : 0 < bs.length) (b4 : bs.length ≤ 70) (h0 : Heap) (F : XQ Z h0 sb va cnt bs) (hya : Z.heap.size ≤ sb) :
  KH l Z L7 jdk_68_method_9_code 3 none ⟨3, 1, 100, 69⟩ #[.ref sb, .int (Int32.ofNat t)] h0 (fun x => x = sb ∨ h0.size ≤ x) (fun v h => v = none ∧ ∃ va' bs', XQ Z h sb va' cnt bs' ∧ (va' = va ∨ h0.size ≤ va') ∧ t ≤ bs'.length ∧ bs'.length ≤ 70 ∧ bs.length ≤ bs'.length ∧ bs'.take bs.length = bs) := by
 refine Xr hya U3 CO fun p e s m below meth c C hs => ?_
 refine K0 0 C (Yq.g 0) ?_
 refine KF 1 C (hw.g 112) Via.refl F.V (Yq.g 1) ?_
 refine KZ 4 C F.A.1 (Yq.g 2) ?_
 refine K0 5 C (Yq.g 3) ?_
 refine KF 6 C (hw.g 114) Via.refl F.K (Yq.g 4) ?_
 refine Gi 9 C (Yq.g 5) ?_
 rw [Yx]
 refine KO 10 C (Ls' := [_, _, _]) (Yq.g 6) rfl ?_
 refine K8 11 C (Yq.g 7) ?_
 refine K8 12 C (Yq.g 8) ?_
 refine Kt 13 C (Yq.g 9) ?_
 refine Qx 14 C 38 (Yq.g 10) (fun hc14 => ?_) (fun hc14 => ?_)
 ·simp only [oC, Classical.not_not] at hc14
  refine Ka 38 C (Yq.g 11) (fun _ _ => ⟨rfl, va, bs, F, Or.inl rfl, by simp only [Int32.lt_iff_toInt_lt, ← Int32.toInt_inj, Int32.toInt_add, Int32.toInt_sub, Qm, Int32.reduceToInt, Int.bmod_def] at hc14; omega, b4, Nat.le_refl _, List.take_length⟩)
 ·simp only [oC, Classical.not_not] at hc14
  have b1 : bs.length < t := by
   simp only [Int32.lt_iff_toInt_lt, ← Int32.toInt_inj, Int32.toInt_add, Int32.toInt_sub, Qm, Int32.reduceToInt, Int.bmod_def] at hc14
   omega
  refine K0 17 C (Yq.g 12) ?_
  refine K0 18 C (Yq.g 13) ?_
  refine KF 19 C (hw.g 112) Via.refl F.V (Yq.g 14) ?_
  refine K0 22 C (Yq.g 15) ?_
  refine K8 23 C (Yq.g 16) ?_
  refine Kf 24 C (Lt hw W sb va cnt bs t b1 b2 b3 _ F) (F.X) (hw.g 344) (QB.of (hw.g 150 rfl) rfl) (hw.g 346) (hw.g 345) (hw.g 106) (hw.g 348) XY (Yq.g 17) (argsL := [_]) rfl rfl rfl rfl ?_
  rintro _ _ ⟨q, rfl, hq1, hq2, rfl⟩ -
  refine K0 27 C (Yq.g 18) ?_
  refine KF 28 C (hw.g 114) Via.refl F.K (Yq.g 19) ?_
  refine XN 31 C (Yq.g 20) ?_
  rw [YF]
  refine KK 32 C (CQ hw va q bs _ (by omega) (by omega) F.A F.B) (hw.g 356) (hw.g 357) (hw.g 229) (hw.g 358) AJ (Yq.g 21) (argsL := [_, _]) rfl rfl rfl rfl ?_
  rintro _ h2 ⟨q2, rfl, hq3, D2⟩ K2
  have F1 := F.ext K2.ext
  refine Ke 35 C (hw.g 112) Via.refl F1.V F1.X (Or.inl (hw.g 113)) (hw.g 97) (ty := (.array .byte)) (by decide) rfl rfl (Or.inl rfl) (Yq.g 22) ?_
  intro h3 W3
  have F3 : XQ Z h3 sb q2 cnt (bs ++ List.replicate (q - bs.length) (.int 0)) := ⟨F1.X.wr W3, Fld.same W3 F1.V, (fo W3 F1.K (Or.inl (hw.g 115)) (Or.inl (hw.g 113))), (fo W3 F1.N (Or.inl (hw.g 146)) (Or.inl (hw.g 113))), D2.other W3 (fun z => (KR F1.X (hw.g 97) D2.1) z.symm), fun v z => (List.mem_append.mp z).elim (F1.B v) YB.rep⟩
  refine Ka 38 C (Yq.g 11) (fun _ _ => ⟨rfl, q2, _, F3, Or.inr hq3, by simp; omega, by simp; omega, by simp, by simp⟩)
def Fe : MethodName := ⟨"java/lang/AbstractStringBuilder", "inflateIfNeededFor", "(Ljava/lang/String;)V"⟩
theorem VP : plainFor Fe = true := by decide +kernel
theorem Gu {x0 : Addr} {x1 : Addr} (m : MethodId) : entryFrame m #[.ref x0, .ref x1] 2 = oF m 0 [.val (.ref x0), .val (.ref x1)] [] := by (first | (simp [entryFrame, oF, mkF, argsToLocals, Value.category]; done) | rfl)
theorem Ce (hw : Kh Z a0) (W : oW Z) (sb va a : Addr) (cnt : Int32) (bs : List Value) (ws : List Int32) (h0 : Heap) (F : XQ Z h0 sb va cnt bs) (G : QY Z h0 a ws) :
  KH l Z Fe jdk_68_method_71_code 2 none ⟨1, 0, 0, 20⟩ #[.ref sb, .ref a] h0 (fun a => h0.size ≤ a) (fun v h => v = none ∧ h0 = h) := by
 refine Q9 VP Gu fun p e s m below meth c C hs => ?_
 obtain ⟨cs, hcs, Sc⟩ := W.cs
 refine Ko 0 C (hw.g 109) Via.refl Sc (TX.g 0) ?_
 refine Qx 3 C 21 (TX.g 1) (fun hc3 => ?_) (fun hc3 => ?_)
 ·simp only [oC, Classical.not_not] at hc3
  exact absurd hc3 hcs
 ·simp only [oC, Classical.not_not] at hc3
  refine K0 6 C (TX.g 2) ?_
  refine KF 7 C (hw.g 114) Via.refl F.K (TX.g 3) ?_
  refine K0 10 C (TX.g 4) ?_
  refine KI 11 C (T1 hw W a ws _ G) (G.1) (hw.g 162) (hw.g 139) (QF (hw.g 141)) (hw.g 141) (hw.g 140) (hw.g 110) (hw.g 142) Hi (TX.g 5) (argsL := []) rfl rfl rfl rfl ?_
  rintro _ _ ⟨rfl, rfl⟩ -
  refine KU 14 C 21 (TX.g 6) ?_
  refine Ka 21 C (TX.g 7) (fun _ _ => ⟨rfl, rfl⟩)
def LV : MethodName := ⟨"java/lang/String", "getBytes", "([BIB)V"⟩
theorem Tk : plainFor LV = true := by decide +kernel
theorem FZ {x0 : Addr} {x1 : Addr} {x2 : Int32} {x3 : Int32} (m : MethodId) : entryFrame m #[.ref x0, .ref x1, .int x2, .int x3] 4 = oF m 0 [.val (.ref x0), .val (.ref x1), .val (.int x2), .val (.int x3)] [] := by (first | (simp [entryFrame, oF, mkF, argsToLocals, Value.category]; done) | rfl)
theorem Lr (hw : Kh Z a0) (W : oW Z) (va a : Addr) (i : Nat) (bs : List Value) (ws : List Int32) (h0 : Heap) (D : Kv Z h0 va .byte bs) (G : QY Z h0 a ws) (b1 : i + ws.length ≤ bs.length) (b2 : bs.length ≤ 100) (hya : Z.heap.size ≤ va) :
  KH l Z LV jdk_42_method_147_code 4 none ⟨1, 0, 0, 34⟩ #[.ref a, .ref va, .int (Int32.ofNat i), .int 0] h0 (fun x => x = va ∨ h0.size ≤ x) (fun v h => v = none ∧ Kv Z h va .byte (bs.take i ++ (ws.map QW ++ bs.drop (i + ws.length)))) := by
 refine Xr hya Tk FZ fun p e s m below meth c C hs => ?_
 have G0 := G
 obtain ⟨X, hu1, b_, V, K1, A⟩ := G
 refine K0 0 C (H0.g 0) ?_
 refine KI 1 C (T1 hw W a ws _ G0) (X) (hw.g 138) (hw.g 139) (QF (hw.g 141)) (hw.g 141) (hw.g 140) (hw.g 110) (hw.g 142) Hi (H0.g 1) (argsL := []) rfl rfl rfl rfl ?_
 rintro _ _ ⟨rfl, rfl⟩ -
 refine K8 4 C (H0.g 2) ?_
 refine KS 5 C (H0.g 3) ?_
 refine K0 8 C (H0.g 4) ?_
 refine KF 9 C (hw.g 137) Via.refl V (H0.g 5) ?_
 refine KD 12 C 0 (H0.g 6) ?_
 refine K0 13 C (H0.g 7) ?_
 refine K8 14 C (H0.g 8) ?_
 refine K8 15 C (H0.g 9) ?_
 refine XN 16 C (H0.g 10) ?_
 rw [YF]
 refine K0 17 C (H0.g 11) ?_
 refine KF 18 C (hw.g 137) Via.refl V (H0.g 12) ?_
 refine KZ 21 C A (H0.g 13) ?_
 rw [List.length_map]
 refine Yt 22 C 0 i ws.length A D rfl (Xk _ (by omega)) (Xk _ (by omega)) (by simp) b1 (fun v z => (YB.map z).fit) (Or.inl rfl) (hw.g 168) (hw.g 171) (hw.g 169) (hw.g 170) (H0.g 14) rfl (by decide) (by decide) ?_
 intro h2 K2 hs2 D2
 rw [List.drop_zero, show List.take ws.length (ws.map QW) = ws.map QW from List.take_of_length_le (by simp)] at D2
 refine KT 25 C 43 (H0.g 15) ?_
 refine Ka 43 C (H0.g 16) (fun _ _ => ⟨rfl, D2⟩)
def L8 : MethodName := ⟨"java/lang/AbstractStringBuilder", "putStringAt", "(ILjava/lang/String;)V"⟩
theorem Uy : plainFor L8 = true := by decide +kernel
theorem Li {x0 : Addr} {x1 : Int32} {x2 : Addr} (m : MethodId) : entryFrame m #[.ref x0, .int x1, .ref x2] 3 = oF m 0 [.val (.ref x0), .val (.int x1), .val (.ref x2)] [] := by (first | (simp [entryFrame, oF, mkF, argsToLocals, Value.category]; done) | rfl)
theorem Cr (hw : Kh Z a0) (W : oW Z) (sb va a : Addr) (cnt : Int32) (bs : List Value) (ws : List Int32) (h0 : Heap) (F : XQ Z h0 sb va cnt bs) (G : QY Z h0 a ws) (i : Nat) (b1 : i + ws.length ≤ bs.length) (b2 : bs.length ≤ 100) (hya : Z.heap.size ≤ va) :
  KH l Z L8 jdk_68_method_73_code 3 none ⟨2, 0, 0, 57⟩ #[.ref sb, .int (Int32.ofNat i), .ref a] h0 (fun x => x = va ∨ h0.size ≤ x) (fun v h => v = none ∧ XQ Z h sb va cnt (bs.take i ++ (ws.map QW ++ bs.drop (i + ws.length)))) := by
 refine Xr hya Uy Li fun p e s m below meth c C hs => ?_
 refine K0 0 C (JM.g 0) ?_
 refine K0 1 C (JM.g 1) ?_
 refine Kf 2 C (Ce hw W sb va a cnt bs ws _ F G) (F.X) (hw.g 157) (QB.of (hw.g 150 rfl) rfl) (hw.g 159) (hw.g 158) (hw.g 106) (hw.g 161) RJ (JM.g 2) (argsL := [_]) rfl rfl rfl rfl ?_
 rintro _ _ ⟨rfl, rfl⟩ -
 refine K0 5 C (JM.g 3) ?_
 refine K0 6 C (JM.g 4) ?_
 refine KF 7 C (hw.g 112) Via.refl F.V (JM.g 5) ?_
 refine K8 10 C (JM.g 6) ?_
 refine K0 11 C (JM.g 7) ?_
 refine KF 12 C (hw.g 114) Via.refl F.K (JM.g 8) ?_
 refine KI 15 C (Lr hw W va a i bs ws _ F.A.1 G b1 b2 hya) (G.1) (hw.g 163) (hw.g 164) (QF (hw.g 166)) (hw.g 166) (hw.g 165) (hw.g 110) (hw.g 167) Wi (JM.g 9) (argsL := [_, _, _]) rfl rfl rfl rfl (hP := (fun x q r => r.elim (fun z => z ▸ (Or.inl rfl)) (fun z => C.new x (Nat.le_trans q z)))) ?_
 rintro _ h2 ⟨rfl, D2⟩ K2
 have ns : ¬ (sb = va ∨ h0.size ≤ sb) := fun r => r.elim (fun z => KR F.X (hw.g 97) F.A.1 z) (fun z => absurd F.X.lt (Nat.not_lt.mpr z))
 have F2 : XQ Z h2 sb va cnt (bs.take i ++ (ws.map QW ++ bs.drop (i + ws.length))) := ⟨K2.exa F.X, K2.fld F.V ns, K2.fld F.K ns, K2.fld F.N ns, ⟨D2, K2.exa F.A.2⟩, fun v z => (List.mem_append.mp z).elim (fun z => F.B v (List.mem_of_mem_take z)) (fun z => (List.mem_append.mp z).elim YB.map (fun z => F.B v (List.mem_of_mem_drop z)))⟩
 refine Ka 18 C (JM.g 10) (fun _ _ => ⟨rfl, F2⟩)
theorem Hv {us ws : List Int32} {bs bs' : List Value} (h1 : bs.take us.length = us.map QW) (h2 : bs'.take bs.length = bs) (h3 : us.length ≤ bs.length) (h4 : us.length + ws.length ≤ bs'.length) : (bs'.take us.length ++ (ws.map QW ++ bs'.drop (us.length + ws.length))).take (us ++ ws).length = (us ++ ws).map QW := by
 have e : bs'.take us.length = us.map QW := by rw [← h1, ← h2, List.take_take, Nat.min_eq_left h3]
 rw [e, List.length_append, ← List.append_assoc, ← List.map_append, List.take_append_of_le_length (by simp), List.take_of_length_le (by simp)]
def Fx : MethodName := ⟨"java/lang/AbstractStringBuilder", "append", "(Ljava/lang/String;)Ljava/lang/AbstractStringBuilder;"⟩
theorem UM : plainFor Fx = true := by decide +kernel
theorem CD {x0 : Addr} {x1 : Addr} (m : MethodId) : entryFrame m #[.ref x0, .ref x1] 3 = oF m 0 [.val (.ref x0), .val (.ref x1), .unset] [] := by (first | (simp [entryFrame, oF, mkF, argsToLocals, Value.category]; done) | rfl)
theorem Cm (hw : Kh Z a0) (W : oW Z) (sb va a : Addr) (us ws : List Int32) (h0 : Heap) (F : XJ Z h0 sb va us) (G : QY Z h0 a ws) (b1 : us.length + ws.length ≤ 34) (hya : Z.heap.size ≤ sb) (hyb : Z.heap.size ≤ va) :
  KH l Z Fx jdk_68_method_22_code 3 (some (.object "java/lang/AbstractStringBuilder")) ⟨4, 1, 100, 91⟩ #[.ref sb, .ref a] h0 (fun x => x = sb ∨ x = va ∨ h0.size ≤ x) (fun v h => v = some (.ref sb) ∧ ∃ va', (va' = va ∨ h0.size ≤ va') ∧ XJ Z h sb va' (us ++ ws)) := by
 refine Gk hya hyb UM CD fun p e s m below meth c C hs => ?_
 obtain ⟨⟨bs, R0, e0, l0, l1, l2⟩, hC⟩ := F
 refine K0 0 C (Yl.g 0) ?_
 refine Yh 1 C 9 (Yl.g 1) ?_
 refine K0 9 C (Yl.g 2) ?_
 refine KI 10 C (RI hw W a ws _ G) (G.1) (hw.g 132) (hw.g 133) (QF (hw.g 135)) (hw.g 135) (hw.g 134) (hw.g 110) (hw.g 136) Qf (Yl.g 3) (argsL := []) rfl rfl rfl rfl ?_
 rintro _ _ ⟨rfl, rfl⟩ -
 refine KO 13 C (Ls' := [_, _, _]) (Yl.g 4) rfl ?_
 refine K0 14 C (Yl.g 5) ?_
 refine K0 15 C (Yl.g 6) ?_
 refine KF 16 C (hw.g 145) Via.refl R0.N (Yl.g 7) ?_
 refine K8 19 C (Yl.g 8) ?_
 refine Kg 20 C (Yl.g 9) ?_
 rw [← Int32.ofNat_add]
 refine Kf 21 C (TL hw W sb va _ bs (us.length + ws.length) b1 l2 l1 _ R0 hya) (R0.X) (hw.g 147) (QB.of (hw.g 150 rfl) rfl) (hw.g 149) (hw.g 148) (hw.g 106) (hw.g 151) XO (Yl.g 10) (argsL := [_]) rfl rfl rfl rfl (hP := (fun x q r => r.elim (fun z => z ▸ (Or.inl rfl)) (fun z => C.new x (Nat.le_trans q z)))) ?_
 rintro _ h1 ⟨rfl, va', bs', R1, hva, m1, m2, m3, m4⟩ K1
 replace G := G.kpX R0.X (by decide) (hw.g 97) K1
 have hPv : va' = sb ∨ va' = va ∨ h0.size ≤ va' := hva.elim (fun z => Or.inr (Or.inl z)) (fun z => Or.inr (Or.inr z))
 refine K0 24 C (Yl.g 11) ?_
 refine K0 25 C (Yl.g 12) ?_
 refine KF 26 C (hw.g 145) Via.refl R1.N (Yl.g 13) ?_
 refine K0 29 C (Yl.g 14) ?_
 refine Kf 30 C (Cr hw W sb va' a _ bs' ws _ R1 G us.length m1 (by omega) (C.young va' hPv)) (R1.X) (hw.g 152) (QB.of (hw.g 150 rfl) rfl) (hw.g 154) (hw.g 153) (hw.g 106) (hw.g 156) Bm (Yl.g 15) (argsL := [_, _]) rfl rfl rfl rfl (hP := (fun x q r => r.elim (fun z => z ▸ hPv) (fun z => C.new x (Nat.le_trans q z)))) ?_
 rintro _ h2 ⟨rfl, R2⟩ K2
 refine K0 33 C (Yl.g 16) ?_
 refine Ku 34 C (Yl.g 17) rfl ?_
 refine KF 35 C (hw.g 145) Via.refl R2.N (Yl.g 18) ?_
 refine K8 38 C (Yl.g 19) ?_
 refine Kg 39 C (Yl.g 20) ?_
 rw [← Int32.ofNat_add]
 rw [← List.length_append]
 refine Ke 40 C (hw.g 145) Via.refl R2.N R2.X (Or.inl (hw.g 146)) (hw.g 97) (ty := .int) (by decide) rfl rfl (Or.inl rfl) (Yl.g 21) ?_
 intro h3 W3
 have R3 : XQ Z h3 sb va' (Int32.ofNat (us ++ ws).length) (_) := ⟨R2.X.wr W3, (fo W3 R2.V (Or.inl (hw.g 113)) (Or.inl (hw.g 146))), (fo W3 R2.K (Or.inl (hw.g 115)) (Or.inl (hw.g 146))), Fld.same W3 R2.N, R2.A.other W3 (fun z => (KR R2.X (hw.g 97) R2.A.1) z.symm), R2.B⟩
 refine K0 43 C (Yl.g 22) ?_
 refine KL 44 C (Yl.g 23) (fun _ _ => ⟨rfl, va', hva, ⟨_, R3, Hv e0 m4 l0 m1, by simp; omega, by simp; omega, by simp; omega⟩, fun u z => (List.mem_append.mp z).elim (hC u) (G.2.1 u)⟩)
def FW : MethodName := ⟨"java/lang/StringBuilder", "append", "(Ljava/lang/String;)Ljava/lang/StringBuilder;"⟩
theorem Vi : plainFor FW = true := by decide +kernel
theorem XP (hw : Kh Z a0) (W : oW Z) (sb va a : Addr) (us ws : List Int32) (h0 : Heap) (F : XJ Z h0 sb va us) (G : QY Z h0 a ws) (b1 : us.length + ws.length ≤ 34) (hya : Z.heap.size ≤ sb) (hyb : Z.heap.size ≤ va) :
  KH l Z FW jdk_67_method_7_code 2 (some (.object "java/lang/StringBuilder")) ⟨5, 1, 100, 113⟩ #[.ref sb, .ref a] h0 (fun x => x = sb ∨ x = va ∨ h0.size ≤ x) (fun v h => v = some (.ref sb) ∧ ∃ va', (va' = va ∨ h0.size ≤ va') ∧ XJ Z h sb va' (us ++ ws)) := by
 refine Gk hya hyb Vi Gu fun p e s m below meth c C hs => ?_
 refine K0 0 C (WT.g 0) ?_
 refine K0 1 C (WT.g 1) ?_
 refine YD 2 C (Cm hw W sb va a us ws _ F G b1 hya hyb) (Ins.self F.X) (hw.g 127 rfl) (Wc (w := (⟨"java/lang/AbstractStringBuilder", "ensureCapacityInternal", "(I)V"⟩ : MethodName)) rfl (hw.g 150) (hw.g 128) (by decide)) (hw.g 128) (hw.g 129) (hw.g 106) (hw.g 131) Ji (WT.g 2) (argsL := [_]) rfl rfl rfl rfl (hP := (fun x q r => r.elim (fun z => z ▸ (Or.inl rfl)) (fun r => r.elim (fun z => z ▸ (Or.inr (Or.inl rfl))) (fun z => C.new x (Nat.le_trans q z))))) ?_
 rintro _ h1 ⟨rfl, va', hva, F1⟩ -
 refine QR 5 C (WT.g 3) rfl ?_
 refine K0 6 C (WT.g 4) ?_
 refine KL 7 C (WT.g 5) (fun _ _ => ⟨rfl, va', hva, F1⟩)
def LH : MethodName := ⟨"java/lang/StringBuilder", "append", "(Ljava/lang/String;)Ljava/lang/AbstractStringBuilder;"⟩
theorem VA : plainFor LH = true := by decide +kernel
theorem DU (hw : Kh Z a0) (W : oW Z) (sb va a : Addr) (us ws : List Int32) (h0 : Heap) (F : XJ Z h0 sb va us) (G : QY Z h0 a ws) (b1 : us.length + ws.length ≤ 34) (hya : Z.heap.size ≤ sb) (hyb : Z.heap.size ≤ va) :
  KH l Z LH jdk_67_method_80_code 2 (some (.object "java/lang/AbstractStringBuilder")) ⟨6, 1, 100, 134⟩ #[.ref sb, .ref a] h0 (fun x => x = sb ∨ x = va ∨ h0.size ≤ x) (fun v h => v = some (.ref sb) ∧ ∃ va', (va' = va ∨ h0.size ≤ va') ∧ XJ Z h sb va' (us ++ ws)) := by
 refine Gk hya hyb VA Gu fun p e s m below meth c C hs => ?_
 refine K0 0 C (Bw.g 0) ?_
 refine K0 1 C (Bw.g 1) ?_
 refine KI 2 C (XP hw W sb va a us ws _ F G b1 hya hyb) (F.X) (hw.g 500) (hw.g 123) (QF (hw.g 125)) (hw.g 125) (hw.g 124) (hw.g 98) (hw.g 126) QS (Bw.g 2) (argsL := [_]) rfl rfl rfl rfl (hP := (fun x q r => r.elim (fun z => z ▸ (Or.inl rfl)) (fun r => r.elim (fun z => z ▸ (Or.inr (Or.inl rfl))) (fun z => C.new x (Nat.le_trans q z))))) ?_
 rintro _ h1 ⟨rfl, va', hva, F1⟩ -
 refine KL 5 C (Bw.g 3) (fun _ _ => ⟨rfl, va', hva, F1⟩)
def La : MethodName := ⟨"java/lang/AbstractStringBuilder", "<init>", "(I)V"⟩
theorem Vz : plainFor La = true := by decide +kernel
theorem VV {x0 : Addr} {x1 : Int32} (m : MethodId) : entryFrame m #[.ref x0, .int x1] 2 = oF m 0 [.val (.ref x0), .val (.int x1)] [] := by (first | (simp [entryFrame, oF, mkF, argsToLocals, Value.category]; done) | rfl)
theorem A3 (hw : Kh Z a0) (W : oW Z) (sb : Addr) (t : Nat) (h0 : Heap) (b1 : 0 < t) (b2 : t ≤ 40) (hya : Z.heap.size ≤ sb) (X : Exa Z h0 sb "java/lang/StringBuilder") (FV : Fld Z h0 sb "java/lang/AbstractStringBuilder" "value" "[B" .null) (FC : Fld Z h0 sb "java/lang/AbstractStringBuilder" "coder" "B" (.int 0)) (FN : Fld Z h0 sb "java/lang/AbstractStringBuilder" "count" "I" (.int 0)) :
  KH l Z La jdk_68_method_2_code 2 none ⟨1, 1, 40, 34⟩ #[.ref sb, .int (Int32.ofNat t)] h0 (fun x => x = sb ∨ h0.size ≤ x) (fun v h => v = none ∧ ∃ va, h0.size ≤ va ∧ XJ Z h sb va []) := by
 refine Xr hya Vz VV fun p e s m below meth c C hs => ?_
 obtain ⟨cs, hcs, Sc⟩ := W.cs
 refine K0 0 C (J4.g 0) ?_
 refine X5 1 C (hw.g 108) (hw.g 8) (hw.g 9) (J4.g 1) rfl (by decide) (Nat.le_of_ble_eq_true rfl) ?_
 refine Ko 4 C (hw.g 109) Via.refl Sc (J4.g 2) ?_
 refine Qx 7 C 25 (J4.g 3) (fun hc7 => ?_) (fun hc7 => ?_)
 ·simp only [oC, Classical.not_not] at hc7
  exact absurd hc7 hcs
 ·simp only [oC, Classical.not_not] at hc7
  refine K0 10 C (J4.g 4) ?_
  refine K8 11 C (J4.g 5) ?_
  refine Q7 C (aty := .byte) (pc := 12) (ad := "[B") t 40 (hw.g 111) (J4.g 6) (Xk _ (by omega)) (by omega) (by decide) (by decide) (by decide) (by decide) ?_
  intro h1 va hq hPq E1 D1
  replace X := X.ext E1
  replace FV := FV.ext E1
  replace FC := FC.ext E1
  replace FN := FN.ext E1
  refine Ke 14 C (hw.g 112) Via.refl FV X (Or.inl (hw.g 113)) (hw.g 97) (ty := (.array .byte)) (by decide) rfl rfl (Or.inl rfl) (J4.g 7) ?_
  intro h2 W2
  replace FV := Fld.same W2 FV
  replace FC := (fo W2 FC (Or.inl (hw.g 115)) (Or.inl (hw.g 113)))
  replace FN := (fo W2 FN (Or.inl (hw.g 146)) (Or.inl (hw.g 113)))
  replace D1 := D1.other W2 (fun z => (KR X (hw.g 97) D1.1) z.symm)
  replace X := X.wr W2
  refine K0 17 C (J4.g 8) ?_
  refine KD 18 C 0 (J4.g 9) ?_
  refine YE 19 C (hw.g 114) Via.refl FC X (Or.inl (hw.g 115)) (hw.g 97) (ty := .byte) (by decide) rfl (fits_nar_byte _) (Or.inl rfl) (J4.g 10) ?_
  intro h3 W3
  replace FV := (fo W3 FV (Or.inl (hw.g 113)) (Or.inl (hw.g 115)))
  replace FC := Fld.same W3 FC
  replace FN := (fo W3 FN (Or.inl (hw.g 146)) (Or.inl (hw.g 115)))
  replace D1 := D1.other W3 (fun z => (KR X (hw.g 97) D1.1) z.symm)
  replace X := X.wr W3
  refine KT 22 C 38 (J4.g 11) ?_
  refine Ka 38 C (J4.g 12) (fun _ _ => ⟨rfl, va, Nat.le_of_eq hq.symm, ⟨_, ⟨X, FV, FC, FN, D1, fun v z => YB.rep z⟩, rfl, Nat.zero_le _, by simp; omega, by simp; omega⟩, fun u z => absurd z (List.not_mem_nil)⟩)
def FU : MethodName := ⟨"java/lang/StringBuilder", "<init>", "()V"⟩
theorem WB : plainFor FU = true := by decide +kernel
theorem YM (hw : Kh Z a0) (W : oW Z) (sb : Addr) (h0 : Heap) (hya : Z.heap.size ≤ sb) (X : Exa Z h0 sb "java/lang/StringBuilder") (FV : Fld Z h0 sb "java/lang/AbstractStringBuilder" "value" "[B" .null) (FC : Fld Z h0 sb "java/lang/AbstractStringBuilder" "coder" "B" (.int 0)) (FN : Fld Z h0 sb "java/lang/AbstractStringBuilder" "count" "I" (.int 0)) :
  KH l Z FU jdk_67_method_1_code 1 none ⟨2, 1, 40, 55⟩ #[.ref sb] h0 (fun x => x = sb ∨ h0.size ≤ x) (fun v h => v = none ∧ ∃ va, h0.size ≤ va ∧ XJ Z h sb va []) := by
 refine Xr hya WB YL fun p e s m below meth c C hs => ?_
 refine K0 0 C (C8.g 0) ?_
 refine KN 1 C 16 (C8.g 1) ?_
 refine KV 3 C (A3 hw W sb 16 _ (by decide) (by decide) hya X FV FC FN) (hw.g 102) (hw.g 103) (hw.g 106) (hw.g 107) XO (C8.g 2) (argsL := [_]) rfl rfl rfl rfl (hP := (fun x q r => r.elim (fun z => z ▸ (Or.inl rfl)) (fun z => C.new x (Nat.le_trans q z)))) ?_
 rintro _ h1 ⟨rfl, va, hv, F1⟩ -
 refine Ka 6 C (C8.g 3) (fun _ _ => ⟨rfl, va, hv, F1⟩)
def BR : MethodName := ⟨"java/lang/StringBuilder", "<init>", "(I)V"⟩
theorem T7 : plainFor BR = true := by decide +kernel
theorem CK (hw : Kh Z a0) (W : oW Z) (sb : Addr) (t : Nat) (h0 : Heap) (b1 : 0 < t) (b2 : t ≤ 40) (hya : Z.heap.size ≤ sb) (X : Exa Z h0 sb "java/lang/StringBuilder") (FV : Fld Z h0 sb "java/lang/AbstractStringBuilder" "value" "[B" .null) (FC : Fld Z h0 sb "java/lang/AbstractStringBuilder" "coder" "B" (.int 0)) (FN : Fld Z h0 sb "java/lang/AbstractStringBuilder" "count" "I" (.int 0)) :
  KH l Z BR jdk_67_method_2_code 2 none ⟨2, 1, 40, 55⟩ #[.ref sb, .int (Int32.ofNat t)] h0 (fun x => x = sb ∨ h0.size ≤ x) (fun v h => v = none ∧ ∃ va, h0.size ≤ va ∧ XJ Z h sb va []) := by
 refine Xr hya T7 VV fun p e s m below meth c C hs => ?_
 refine K0 0 C (Rh.g 0) ?_
 refine K8 1 C (Rh.g 1) ?_
 refine KV 2 C (A3 hw W sb t _ b1 b2 hya X FV FC FN) (hw.g 102) (hw.g 103) (hw.g 106) (hw.g 107) XO (Rh.g 2) (argsL := [_]) rfl rfl rfl rfl (hP := (fun x q r => r.elim (fun z => z ▸ (Or.inl rfl)) (fun z => C.new x (Nat.le_trans q z)))) ?_
 rintro _ h1 ⟨rfl, va, hv, F1⟩ -
 refine Ka 5 C (Rh.g 3) (fun _ _ => ⟨rfl, va, hv, F1⟩)
def Lf : MethodName := ⟨"java/util/Arrays", "checkLength", "(II)V"⟩
theorem Ua : plainFor Lf = true := by decide +kernel
theorem EZ (hw : Kh Z a0) (t : Nat) (h0 : Heap) (b1 : t ≤ 100) :
  KH l Z Lf jdk_65_method_131_code 2 none ⟨0, 0, 0, 0⟩ #[.int 0, .int (Int32.ofNat t)] h0 (fun a => h0.size ≤ a) (fun v h => v = none ∧ h0 = h) := by
 refine Q9 Ua We fun p e s m below meth c C hs => ?_
 refine K8 0 C (C9.g 0) ?_
 refine K8 1 C (C9.g 1) ?_
 refine QK 2 C 37 (C9.g 2) (fun hc2 => ?_) (fun hc2 => ?_)
 ·simp only [oC, Classical.not_not] at hc2
  refine Ka 37 C (C9.g 3) (fun _ _ => ⟨rfl, rfl⟩)
 ·simp only [oC, Classical.not_not] at hc2
  exact False.elim (by simp only [Int32.lt_iff_toInt_lt, ← Int32.toInt_inj, Int32.toInt_add, Int32.toInt_sub, Qm, Int32.reduceToInt, Int.bmod_def] at hc2; omega)
def FK : MethodName := ⟨"java/util/Arrays", "copyOfRangeByte", "([BII)[B"⟩
theorem VW : plainFor FK = true := by decide +kernel
theorem ES {x0 : Addr} {x1 : Int32} {x2 : Int32} (m : MethodId) : entryFrame m #[.ref x0, .int x1, .int x2] 5 = oF m 0 [.val (.ref x0), .val (.int x1), .val (.int x2), .unset, .unset] [] := by (first | (simp [entryFrame, oF, mkF, argsToLocals, Value.category]; done) | rfl)
theorem Dn (hw : Kh Z a0) (va : Addr) (t : Nat) (bs : List Value) (h0 : Heap) (b1 : t ≤ bs.length) (b2 : bs.length ≤ 70) (A : XE Z h0 va .byte "[B" bs) (hb0 : ∀ v ∈ bs, YB v) :
  KH l Z FK jdk_65_method_133_code 5 (some (.array .byte)) ⟨1, 1, 70, 34⟩ #[.ref va, .int 0, .int (Int32.ofNat t)] h0 (fun a => h0.size ≤ a) (fun v h => ∃ q, v = some (.ref q) ∧ h0.size ≤ q ∧ XE Z h q .byte "[B" (bs.take t)) := by
 refine Q9 VW ES fun p e s m below meth c C hs => ?_
 refine K8 0 C (Yy.g 0) ?_
 refine K8 1 C (Yy.g 1) ?_
 refine KK 2 C (EZ hw t _ (by omega)) (hw.g 234) (hw.g 235) (hw.g 229) (hw.g 236) HG (Yy.g 2) (argsL := [_, _]) rfl rfl rfl rfl ?_
 rintro _ _ ⟨rfl, rfl⟩ -
 refine K8 5 C (Yy.g 3) ?_
 refine K8 6 C (Yy.g 4) ?_
 refine Kt 7 C (Yy.g 5) ?_
 rw [show Int32.ofNat t - 0 = Int32.ofNat t from by simp]
 refine KO 8 C (Ls' := [_, _, _, _, _]) (Yy.g 6) rfl ?_
 refine K8 9 C (Yy.g 7) ?_
 refine Q7 C (aty := .byte) (pc := 10) (ad := "[B") t 70 (hw.g 111) (Yy.g 8) (Xk _ (by omega)) (by omega) (by decide) (by decide) (by decide) (by decide) ?_
 intro h1 q hq hPq E1 D1
 refine Kz 12 C (Ls' := [_, _, _, _, _]) (Yy.g 9) rfl rfl ?_
 refine K0 14 C (Yy.g 10) ?_
 refine K8 15 C (Yy.g 11) ?_
 refine Kb 16 C (Yy.g 12) ?_
 refine KD 18 C 0 (Yy.g 13) ?_
 refine K0 19 C (Yy.g 14) ?_
 refine KZ 20 C (A.ext E1).1 (Yy.g 15) ?_
 refine K8 21 C (Yy.g 16) ?_
 refine Kt 22 C (Yy.g 17) ?_
 rw [show Int32.ofNat bs.length - 0 = Int32.ofNat bs.length from by simp]
 refine K8 23 C (Yy.g 18) ?_
 refine KK 24 C (W9 hw bs.length t _ (by omega) (by omega)) (hw.g 237) (hw.g 238) (hw.g 239) (hw.g 240) XZ (Yy.g 19) (argsL := [_, _]) rfl rfl rfl rfl ?_
 rintro _ _ ⟨rfl, rfl⟩ -
 rw [Nat.min_eq_right (by omega)]
 refine Yt 27 C 0 0 t (A.ext E1).1 D1.1 rfl rfl (Xk _ (by omega)) (by omega) (by simp) (fun v z => (hb0 v z).fit) hPq (hw.g 241) (hw.g 171) (hw.g 169) (hw.g 170) (Yy.g 20) rfl (by decide) (by decide) ?_
 intro h2 K2 hs2 D2
 replace D2 : XE Z h2 q .byte "[B" (bs.take t) := ⟨D2.eq (by simp), K2.exa D1.2⟩
 refine Kb 30 C (Yy.g 21) ?_
 refine KL 32 C (Yy.g 22) (fun _ _ => ⟨q, rfl, Nat.le_of_eq hq.symm, D2⟩)
def LS : MethodName := ⟨"java/util/Arrays", "copyOfRange", "([BII)[B"⟩
theorem VR : plainFor LS = true := by decide +kernel
theorem J9 {x0 : Addr} {x1 : Int32} {x2 : Int32} (m : MethodId) : entryFrame m #[.ref x0, .int x1, .int x2] 3 = oF m 0 [.val (.ref x0), .val (.int x1), .val (.int x2)] [] := by (first | (simp [entryFrame, oF, mkF, argsToLocals, Value.category]; done) | rfl)
theorem DA (hw : Kh Z a0) (va : Addr) (t : Nat) (bs : List Value) (h0 : Heap) (b1 : t ≤ bs.length) (b2 : bs.length ≤ 70) (A : XE Z h0 va .byte "[B" bs) (hb0 : ∀ v ∈ bs, YB v) :
  KH l Z LS jdk_65_method_132_code 3 (some (.array .byte)) ⟨2, 1, 70, 58⟩ #[.ref va, .int 0, .int (Int32.ofNat t)] h0 (fun a => h0.size ≤ a) (fun v h => ∃ q, v = some (.ref q) ∧ h0.size ≤ q ∧ XE Z h q .byte "[B" (bs.take t)) := by
 refine Q9 VR J9 fun p e s m below meth c C hs => ?_
 refine K8 0 C (HV.g 0) ?_
 refine KW 1 C (HV.g 1) ?_
 refine K8 4 C (HV.g 2) ?_
 refine K0 5 C (HV.g 3) ?_
 refine KZ 6 C A.1 (HV.g 4) ?_
 refine QK 7 C 17 (HV.g 5) (fun hc7 => ?_) (fun hc7 => ?_)
 ·simp only [oC, Classical.not_not] at hc7
  refine K0 17 C (HV.g 6) ?_
  refine Hb 18 C (ad := "[B") 70 A.1 A.2 (fun v z => (hb0 v z).fit.1) (hw.g 334) (hw.g 335) (hw.g 339) (hw.g 337) (hw.g 338) (hw.g 340) (HV.g 7) rfl (by decide) (by decide) b2 (by decide) (by decide) ?_
  intro h2 E2 D2 X2
  refine Qe 21 C (hw.g 341) (Ins.self X2) (HV.g 8) ?_
  refine KL 24 C (HV.g 9) (fun _ _ => ⟨_, rfl, Nat.le_refl _, D2.eq (by rw [Td (by omega) (by omega)] at hc7; rw [hc7, List.take_length]), X2⟩)
 ·simp only [oC, Classical.not_not] at hc7
  refine K0 10 C (HV.g 10) ?_
  refine K8 11 C (HV.g 11) ?_
  refine K8 12 C (HV.g 12) ?_
  refine KK 13 C (Dn hw va t bs _ b1 b2 A hb0) (hw.g 231) (hw.g 232) (hw.g 229) (hw.g 233) JS (HV.g 13) (argsL := [_, _, _]) rfl rfl rfl rfl ?_
  rintro _ h2 ⟨q, rfl, hq, D2⟩ -
  refine KL 16 C (HV.g 14) (fun _ _ => ⟨q, rfl, hq, D2⟩)
def Le : MethodName := ⟨"java/lang/String", "<init>", "(Ljava/lang/AbstractStringBuilder;Ljava/lang/Void;)V"⟩
theorem Uw : plainFor Le = true := by decide +kernel
theorem EU {x0 : Addr} {x1 : Addr} (m : MethodId) : entryFrame m #[.ref x0, .ref x1, .null] 5 = oF m 0 [.val (.ref x0), .val (.ref x1), .val .null, .unset, .unset] [] := by (first | (simp [entryFrame, oF, mkF, argsToLocals, Value.category]; done) | rfl)
theorem Ca (hw : Kh Z a0) (W : oW Z) (a sb va : Addr) (us : List Int32) (h0 : Heap) (F : XJ Z h0 sb va us) (hya : Z.heap.size ≤ a) (X : Exa Z h0 a "java/lang/String") (FV : Fld Z h0 a "java/lang/String" "value" "[B" .null) (FC : Fld Z h0 a "java/lang/String" "coder" "B" (.int 0)) :
  KH l Z Le jdk_42_method_150_code 5 none ⟨3, 1, 70, 80⟩ #[.ref a, .ref sb, .null] h0 (fun x => x = a ∨ h0.size ≤ x) (fun v h => v = none ∧ QY Z h a us) := by
 refine Xr hya Uw EU fun p e s m below meth c C hs => ?_
 obtain ⟨⟨bs, R0, e0, l0, l1, l2⟩, hC⟩ := F
 refine K0 0 C (GG.g 0) ?_
 refine X5 1 C (hw.g 212) (hw.g 8) (hw.g 9) (GG.g 1) rfl (by decide) (Nat.le_of_ble_eq_true rfl) ?_
 refine K0 4 C (GG.g 2) ?_
 refine KI 5 C (Lm hw W sb va _ bs _ R0) (R0.X) (hw.g 213) (hw.g 214) (QF (hw.g 216)) (hw.g 216) (hw.g 215) (hw.g 106) (hw.g 217) Tm (GG.g 3) (argsL := []) rfl rfl rfl rfl ?_
 rintro _ _ ⟨rfl, rfl⟩ -
 refine KY 8 C (Ls' := [_, _, _, _, _]) (GG.g 4) rfl rfl ?_
 refine K0 9 C (GG.g 5) ?_
 refine KI 10 C (CV hw W sb va _ bs _ R0) (R0.X) (hw.g 218 rfl) (hw.g 219) (Am (w := (⟨"java/lang/AbstractStringBuilder", "ensureCapacityInternal", "(I)V"⟩ : MethodName)) rfl (hw.g 150)) (hw.g 221) (hw.g 222) (hw.g 98) (hw.g 223) Qf (GG.g 6) (argsL := []) rfl rfl rfl rfl ?_
 rintro _ _ ⟨rfl, rfl⟩ -
 refine KG 13 C (Ls' := [_, _, _, _, _]) (GG.g 7) rfl ?_
 refine K0 15 C (GG.g 8) ?_
 refine KI 16 C (T3 hw W sb va _ bs _ R0) (R0.X) (hw.g 226) (hw.g 189) (QF (hw.g 191)) (hw.g 191) (hw.g 190) (hw.g 106) (hw.g 192) GY (GG.g 9) (argsL := []) rfl rfl rfl rfl ?_
 rintro _ _ ⟨rfl, rfl⟩ -
 refine KW 19 C (GG.g 10) ?_
 refine K0 22 C (GG.g 11) ?_
 refine KD 23 C 0 (GG.g 12) ?_
 refine YE 24 C (hw.g 144) Via.refl FC X (Or.inr ⟨(hw.g 119), rfl, rfl⟩) (hw.g 117) (ty := .byte) (by decide) rfl (fits_nar_byte _) (Or.inl rfl) (GG.g 13) ?_
 intro h2 W2
 replace FC := Fld.same W2 FC
 replace FV := (fo W2 FV (Or.inr (hw.g 118)) (Or.inr (hw.g 119)))
 have A2 := R0.A.other W2 (fun z => (KR X (hw.g 117) R0.A.1) z.symm)
 replace X := X.wr W2
 refine K0 27 C (GG.g 14) ?_
 refine K0 28 C (GG.g 15) ?_
 refine KD 29 C 0 (GG.g 16) ?_
 refine KE 30 C (GG.g 17) ?_
 refine KK 32 C (DA hw va us.length bs _ l0 l1 A2 R0.B) (hw.g 227) (hw.g 228) (hw.g 229) (hw.g 230) JS (GG.g 18) (argsL := [_, _, _]) rfl rfl rfl rfl ?_
 rintro _ h3 ⟨q, rfl, hq, D3⟩ K3
 replace X := X.ext K3.ext
 replace FV := FV.ext K3.ext
 replace FC := FC.ext K3.ext
 refine Ke 35 C (hw.g 137) Via.refl FV X (Or.inr ⟨(hw.g 118), rfl, rfl⟩) (hw.g 117) (ty := (.array .byte)) (by decide) rfl rfl (Or.inl rfl) (GG.g 19) ?_
 intro h4 W4
 replace FV := Fld.same W4 FV
 replace FC := (fo W4 FC (Or.inr (hw.g 119)) (Or.inr (hw.g 118)))
 replace D3 := D3.other W4 (fun z => (KR X (hw.g 117) D3.1) z.symm)
 replace X := X.wr W4
 refine KT 38 C 97 (GG.g 20) ?_
 refine Ka 97 C (GG.g 21) (fun _ _ => ⟨rfl, X, hC, q, FV, FC, D3.1.eq e0⟩)
def FJ : MethodName := ⟨"java/lang/String", "<init>", "(Ljava/lang/StringBuilder;)V"⟩
theorem Up : plainFor FJ = true := by decide +kernel
theorem EY (hw : Kh Z a0) (W : oW Z) (a sb va : Addr) (us : List Int32) (h0 : Heap) (F : XJ Z h0 sb va us) (hya : Z.heap.size ≤ a) (X : Exa Z h0 a "java/lang/String") (FV : Fld Z h0 a "java/lang/String" "value" "[B" .null) (FC : Fld Z h0 a "java/lang/String" "coder" "B" (.int 0)) :
  KH l Z FJ jdk_42_method_53_code 2 none ⟨4, 1, 70, 104⟩ #[.ref a, .ref sb] h0 (fun x => x = a ∨ h0.size ≤ x) (fun v h => v = none ∧ QY Z h a us) := by
 refine Xr hya Up Gu fun p e s m below meth c C hs => ?_
 refine K0 0 C (Av.g 0) ?_
 refine K0 1 C (Av.g 1) ?_
 refine QC 2 C (Av.g 2) ?_
 refine KV 3 C (Ca hw W a sb va us _ F hya X FV FC) (hw.g 209) (hw.g 210) (hw.g 110) (hw.g 211) Tj (Av.g 3) (argsL := [_, _]) rfl rfl rfl rfl (hP := (fun x q r => r.elim (fun z => z ▸ (Or.inl rfl)) (fun z => C.new x (Nat.le_trans q z)))) ?_
 rintro _ h1 ⟨rfl, G⟩ -
 refine Ka 6 C (Av.g 4) (fun _ _ => ⟨rfl, G⟩)
def L3 : MethodName := ⟨"java/lang/StringBuilder", "toString", "()Ljava/lang/String;"⟩
theorem Un : plainFor L3 = true := by decide +kernel
theorem Y5 (hw : Kh Z a0) (W : oW Z) (sb va : Addr) (us : List Int32) (h0 : Heap) (F : XJ Z h0 sb va us) :
  KH l Z L3 jdk_67_method_42_code 1 (some (.object "java/lang/String")) ⟨5, 2, 74, 125⟩ #[.ref sb] h0 (fun a => h0.size ≤ a) (fun v h => ∃ a, v = some (.ref a) ∧ h0.size ≤ a ∧ QY Z h a us) := by
 refine Q9 Un YL fun p e s m below meth c C hs => ?_
 refine QE 0 C (hw.g 204) (hw.g 117) (hw.g 110) (Ak.g 0) ?_
 intro h1 a ha hPa E1 X1 D1
 have FV := D1 (Or.inr (hw.g 118)) (ty := (.array .byte)) (by decide)
 have FC := D1 (Or.inr (hw.g 119)) (ty := .byte) (by decide)
 refine Ku 3 C (Ak.g 1) rfl ?_
 refine K0 4 C (Ak.g 2) ?_
 refine KV 5 C (EY hw W a sb va us _ (F.ext E1) (C.young a hPa) X1 FV FC) (hw.g 205) (hw.g 206) (hw.g 110) (hw.g 208) Ug (Ak.g 3) (argsL := [_]) rfl rfl rfl rfl (hP := (fun x q r => r.elim (fun z => z ▸ hPa) (fun z => C.new x (Nat.le_trans q z)))) ?_
 rintro _ h2 ⟨rfl, G⟩ -
 refine KL 8 C (Ak.g 4) (fun _ _ => ⟨a, rfl, Nat.le_of_eq ha.symm, G⟩)
def CC : MethodName := ⟨"java/lang/Long", "stringSize", "(J)I"⟩
theorem HB : plainFor CC = true := by decide +kernel
theorem UD {x0 : Int64} (m : MethodId) : entryFrame m #[.long x0] 6 = oF m 0 [.val (.long x0), .second, .unset, .unset, .unset, .unset] [] := by (first | (simp [entryFrame, oF, mkF, argsToLocals, Value.category]; done) | rfl)
theorem AX (hw : Kh Z a0) (v_ : Nat) (h0 : Heap) (hv : v_ ≤ 2) :
  KH l Z CC jdk_35_method_15_code 6 (some .int) ⟨0, 0, 0, 0⟩ #[.long (Int64.ofNat v_)] h0 (fun a => h0.size ≤ a) (fun v h => v = some (.int 1) ∧ h0 = h) := by
 refine Q9 HB UD fun p e s m below meth c C hs => ?_
 rcases (show v_ = 0 ∨ v_ = 1 ∨ v_ = 2 by omega) with rfl | rfl | rfl <;> (
  refine KD 0 C 1 (Ks.g 0) ?_
  refine KO 1 C (Ls' := [_, _, _, _, _, _]) (Ks.g 1) rfl ?_
  refine KJ 2 C (Ks.g 2) ?_
  refine KX 3 C 0 (Ks.g 3) ?_
  refine Kc 4 C (Ks.g 4) ?_
  refine KW 5 C (Ks.g 5) ?_
  refine KD 8 C 0 (Ks.g 6) ?_
  refine KO 9 C (Ls' := [_, _, _, _, _, _]) (Ks.g 7) rfl ?_
  refine KJ 10 C (Ks.g 8) ?_
  refine Y8 11 C (Ks.g 9) ?_
  refine K_ 12 C (Ls' := [_, _, _, _, _, _]) (Ks.g 10) rfl ?_
  refine Kq 13 C (hw.g 187) (Ks.g 11) ?_
  refine K_ 16 C (Ls' := [_, _, _, _, _, _]) (Ks.g 12) rfl ?_
  refine KD 17 C 1 (Ks.g 13) ?_
  refine KG 18 C (Ls' := [_, _, _, _, _, _]) (Ks.g 14) rfl ?_
  refine KE 20 C (Ks.g 15) ?_
  refine KN 22 C 19 (Ks.g 16) ?_
  refine KS 24 C (Ks.g 17) ?_
  refine KJ 27 C (Ks.g 18) ?_
  refine KJ 28 C (Ks.g 19) ?_
  refine Kc 29 C (Ks.g 20) ?_
  refine KW 30 C (Ks.g 21) ?_
  refine KE 33 C (Ks.g 22) ?_
  refine K8 35 C (Ks.g 23) ?_
  refine Kg 36 C (Ks.g 24) ?_
  refine KP 37 C (Ks.g 25) rfl (fun _ _ => ⟨rfl, rfl⟩)
  )
theorem Dh (hw : Kh Z a0) (v_ : Int64) (h0 : Heap) (hv : v_ = 5000 ∨ v_ = 6667) :
  KH l Z CC jdk_35_method_15_code 6 (some .int) ⟨0, 0, 0, 0⟩ #[.long v_] h0 (fun a => h0.size ≤ a) (fun v h => v = some (.int 4) ∧ h0 = h) := by
 refine Q9 HB UD fun p e s m below meth c C hs => ?_
 rcases hv with rfl | rfl <;> (
  refine KD 0 C 1 (Ks.g 0) ?_
  refine KO 1 C (Ls' := [_, _, _, _, _, _]) (Ks.g 1) rfl ?_
  refine KJ 2 C (Ks.g 2) ?_
  refine KX 3 C 0 (Ks.g 3) ?_
  refine Kc 4 C (Ks.g 4) ?_
  refine KW 5 C (Ks.g 5) ?_
  refine KD 8 C 0 (Ks.g 6) ?_
  refine KO 9 C (Ls' := [_, _, _, _, _, _]) (Ks.g 7) rfl ?_
  refine KJ 10 C (Ks.g 8) ?_
  refine Y8 11 C (Ks.g 9) ?_
  refine K_ 12 C (Ls' := [_, _, _, _, _, _]) (Ks.g 10) rfl ?_
  refine Kq 13 C (hw.g 187) (Ks.g 11) ?_
  refine K_ 16 C (Ls' := [_, _, _, _, _, _]) (Ks.g 12) rfl ?_
  refine KD 17 C 1 (Ks.g 13) ?_
  refine KG 18 C (Ls' := [_, _, _, _, _, _]) (Ks.g 14) rfl ?_
  refine KE 20 C (Ks.g 15) ?_
  refine KN 22 C 19 (Ks.g 16) ?_
  refine KS 24 C (Ks.g 17) ?_
  refine KJ 27 C (Ks.g 18) ?_
  refine KJ 28 C (Ks.g 19) ?_
  refine Kc 29 C (Ks.g 20) ?_
  refine KQ 30 C 38 (Ks.g 21) ?_
  refine Kq 38 C (hw.g 466) (Ks.g 26) ?_
  refine KJ 41 C (Ks.g 27) ?_
  refine XG 42 C (Ks.g 28) ?_
  refine K_ 43 C (Ls' := [_, _, _, _, _, _]) (Ks.g 29) rfl ?_
  refine Q5 44 C (w := 1) (Ls' := [_, _, _, _, _, _]) (Ks.g 30) (by decide) rfl rfl ?_
  refine KT 47 C 20 (Ks.g 31) ?_
  refine KE 20 C (Ks.g 15) ?_
  refine KN 22 C 19 (Ks.g 16) ?_
  refine KS 24 C (Ks.g 17) ?_
  refine KJ 27 C (Ks.g 18) ?_
  refine KJ 28 C (Ks.g 19) ?_
  refine Kc 29 C (Ks.g 20) ?_
  refine KQ 30 C 38 (Ks.g 21) ?_
  refine Kq 38 C (hw.g 466) (Ks.g 26) ?_
  refine KJ 41 C (Ks.g 27) ?_
  refine XG 42 C (Ks.g 28) ?_
  refine K_ 43 C (Ls' := [_, _, _, _, _, _]) (Ks.g 29) rfl ?_
  refine Q5 44 C (w := 1) (Ls' := [_, _, _, _, _, _]) (Ks.g 30) (by decide) rfl rfl ?_
  refine KT 47 C 20 (Ks.g 31) ?_
  refine KE 20 C (Ks.g 15) ?_
  refine KN 22 C 19 (Ks.g 16) ?_
  refine KS 24 C (Ks.g 17) ?_
  refine KJ 27 C (Ks.g 18) ?_
  refine KJ 28 C (Ks.g 19) ?_
  refine Kc 29 C (Ks.g 20) ?_
  refine KQ 30 C 38 (Ks.g 21) ?_
  refine Kq 38 C (hw.g 466) (Ks.g 26) ?_
  refine KJ 41 C (Ks.g 27) ?_
  refine XG 42 C (Ks.g 28) ?_
  refine K_ 43 C (Ls' := [_, _, _, _, _, _]) (Ks.g 29) rfl ?_
  refine Q5 44 C (w := 1) (Ls' := [_, _, _, _, _, _]) (Ks.g 30) (by decide) rfl rfl ?_
  refine KT 47 C 20 (Ks.g 31) ?_
  refine KE 20 C (Ks.g 15) ?_
  refine KN 22 C 19 (Ks.g 16) ?_
  refine KS 24 C (Ks.g 17) ?_
  refine KJ 27 C (Ks.g 18) ?_
  refine KJ 28 C (Ks.g 19) ?_
  refine Kc 29 C (Ks.g 20) ?_
  refine KW 30 C (Ks.g 21) ?_
  refine KE 33 C (Ks.g 22) ?_
  refine K8 35 C (Ks.g 23) ?_
  refine Kg 36 C (Ks.g 24) ?_
  refine KP 37 C (Ks.g 25) rfl (fun _ _ => ⟨rfl, rfl⟩)
  )
theorem Ec (hw : Kh Z a0) (h0 : Heap) :
  KH l Z CC jdk_35_method_15_code 6 (some .int) ⟨0, 0, 0, 0⟩ #[.long 10000] h0 (fun a => h0.size ≤ a) (fun v h => v = some (.int 5) ∧ h0 = h) := by
 refine Q9 HB UD fun p e s m below meth c C hs => ?_
 refine KD 0 C 1 (Ks.g 0) ?_
 refine KO 1 C (Ls' := [_, _, _, _, _, _]) (Ks.g 1) rfl ?_
 refine KJ 2 C (Ks.g 2) ?_
 refine KX 3 C 0 (Ks.g 3) ?_
 refine Kc 4 C (Ks.g 4) ?_
 refine KW 5 C (Ks.g 5) ?_
 refine KD 8 C 0 (Ks.g 6) ?_
 refine KO 9 C (Ls' := [_, _, _, _, _, _]) (Ks.g 7) rfl ?_
 refine KJ 10 C (Ks.g 8) ?_
 refine Y8 11 C (Ks.g 9) ?_
 refine K_ 12 C (Ls' := [_, _, _, _, _, _]) (Ks.g 10) rfl ?_
 refine Kq 13 C (hw.g 187) (Ks.g 11) ?_
 refine K_ 16 C (Ls' := [_, _, _, _, _, _]) (Ks.g 12) rfl ?_
 refine KD 17 C 1 (Ks.g 13) ?_
 refine KG 18 C (Ls' := [_, _, _, _, _, _]) (Ks.g 14) rfl ?_
 refine KE 20 C (Ks.g 15) ?_
 refine KN 22 C 19 (Ks.g 16) ?_
 refine KS 24 C (Ks.g 17) ?_
 refine KJ 27 C (Ks.g 18) ?_
 refine KJ 28 C (Ks.g 19) ?_
 refine Kc 29 C (Ks.g 20) ?_
 refine KQ 30 C 38 (Ks.g 21) ?_
 refine Kq 38 C (hw.g 466) (Ks.g 26) ?_
 refine KJ 41 C (Ks.g 27) ?_
 refine XG 42 C (Ks.g 28) ?_
 refine K_ 43 C (Ls' := [_, _, _, _, _, _]) (Ks.g 29) rfl ?_
 refine Q5 44 C (w := 1) (Ls' := [_, _, _, _, _, _]) (Ks.g 30) (by decide) rfl rfl ?_
 refine KT 47 C 20 (Ks.g 31) ?_
 refine KE 20 C (Ks.g 15) ?_
 refine KN 22 C 19 (Ks.g 16) ?_
 refine KS 24 C (Ks.g 17) ?_
 refine KJ 27 C (Ks.g 18) ?_
 refine KJ 28 C (Ks.g 19) ?_
 refine Kc 29 C (Ks.g 20) ?_
 refine KQ 30 C 38 (Ks.g 21) ?_
 refine Kq 38 C (hw.g 466) (Ks.g 26) ?_
 refine KJ 41 C (Ks.g 27) ?_
 refine XG 42 C (Ks.g 28) ?_
 refine K_ 43 C (Ls' := [_, _, _, _, _, _]) (Ks.g 29) rfl ?_
 refine Q5 44 C (w := 1) (Ls' := [_, _, _, _, _, _]) (Ks.g 30) (by decide) rfl rfl ?_
 refine KT 47 C 20 (Ks.g 31) ?_
 refine KE 20 C (Ks.g 15) ?_
 refine KN 22 C 19 (Ks.g 16) ?_
 refine KS 24 C (Ks.g 17) ?_
 refine KJ 27 C (Ks.g 18) ?_
 refine KJ 28 C (Ks.g 19) ?_
 refine Kc 29 C (Ks.g 20) ?_
 refine KQ 30 C 38 (Ks.g 21) ?_
 refine Kq 38 C (hw.g 466) (Ks.g 26) ?_
 refine KJ 41 C (Ks.g 27) ?_
 refine XG 42 C (Ks.g 28) ?_
 refine K_ 43 C (Ls' := [_, _, _, _, _, _]) (Ks.g 29) rfl ?_
 refine Q5 44 C (w := 1) (Ls' := [_, _, _, _, _, _]) (Ks.g 30) (by decide) rfl rfl ?_
 refine KT 47 C 20 (Ks.g 31) ?_
 refine KE 20 C (Ks.g 15) ?_
 refine KN 22 C 19 (Ks.g 16) ?_
 refine KS 24 C (Ks.g 17) ?_
 refine KJ 27 C (Ks.g 18) ?_
 refine KJ 28 C (Ks.g 19) ?_
 refine Kc 29 C (Ks.g 20) ?_
 refine KQ 30 C 38 (Ks.g 21) ?_
 refine Kq 38 C (hw.g 466) (Ks.g 26) ?_
 refine KJ 41 C (Ks.g 27) ?_
 refine XG 42 C (Ks.g 28) ?_
 refine K_ 43 C (Ls' := [_, _, _, _, _, _]) (Ks.g 29) rfl ?_
 refine Q5 44 C (w := 1) (Ls' := [_, _, _, _, _, _]) (Ks.g 30) (by decide) rfl rfl ?_
 refine KT 47 C 20 (Ks.g 31) ?_
 refine KE 20 C (Ks.g 15) ?_
 refine KN 22 C 19 (Ks.g 16) ?_
 refine KS 24 C (Ks.g 17) ?_
 refine KJ 27 C (Ks.g 18) ?_
 refine KJ 28 C (Ks.g 19) ?_
 refine Kc 29 C (Ks.g 20) ?_
 refine KW 30 C (Ks.g 21) ?_
 refine KE 33 C (Ks.g 22) ?_
 refine K8 35 C (Ks.g 23) ?_
 refine Kg 36 C (Ks.g 24) ?_
 refine KP 37 C (Ks.g 25) rfl (fun _ _ => ⟨rfl, rfl⟩)
theorem Rp (t : Nat) : Int32.ofNat (t + 1) + -1 = Int32.ofNat t := by rw [Int32.ofNat_add, Int32.add_assoc, show Int32.ofNat 1 + -1 = 0 from by decide, Int32.add_zero]
def CB : MethodName := ⟨"java/lang/Long", "getChars", "(JI[B)I"⟩
theorem HD : plainFor CB = true := by decide +kernel
theorem VN {x0 : Int64} {x1 : Int32} {x2 : Addr} (m : MethodId) : entryFrame m #[.long x0, .int x1, .ref x2] 11 = oF m 0 [.val (.long x0), .second, .val (.int x1), .val (.ref x2), .unset, .unset, .unset, .unset, .unset, .unset, .unset] [] := by (first | (simp [entryFrame, oF, mkF, argsToLocals, Value.category]; done) | rfl)
theorem Ac (hw : Kh Z a0) (W : oW Z) (va : Addr) (t v_ : Nat) (bs : List Value) (h0 : Heap) (hv : v_ ≤ 2) (A : XE Z h0 va .byte "[B" bs) (b1 : t < bs.length) (b2 : bs.length ≤ 100) (hya : Z.heap.size ≤ va) :
  KH l Z CB jdk_35_method_14_code 11 (some .int) ⟨0, 0, 0, 0⟩ #[.long (Int64.ofNat v_), .int (Int32.ofNat (t + 1)), .ref va] h0 (fun x => x = va ∨ h0.size ≤ x) (fun v h => v = some (.int (Int32.ofNat t)) ∧ XE Z h va .byte "[B" (bs.set t (.int (Int32.ofNat (48 + v_))))) := by
 refine Xr hya HD VN fun p e s m below meth c C hs => ?_
 obtain ⟨d1, S1, A1⟩ := W.ones
 obtain ⟨d2, S2, A2⟩ := W.tens
 refine Qc C (fun hE hle _ => ?_)
 replace A1 := A1.ext hE
 replace A2 := A2.ext hE
 obtain ⟨c1, e_c1⟩ : ∃ c1, c1 = v_ := ⟨_, rfl⟩
 rcases (show v_ = 0 ∨ v_ = 1 ∨ v_ = 2 by omega) with rfl | rfl | rfl <;> (
  refine K8 0 C (Kk.g 0) ?_
  refine KG 1 C (Ls' := [_, _, _, _, _, _, _, _, _, _, _]) (Kk.g 1) rfl ?_
  refine KJ 3 C (Kk.g 2) ?_
  refine KX 4 C 0 (Kk.g 3) ?_
  refine Kc 5 C (Kk.g 4) ?_
  refine KQ 6 C 13 (Kk.g 5) ?_
  refine KD 13 C 0 (Kk.g 6) ?_
  refine KG 14 C (Ls' := [_, _, _, _, _, _, _, _, _, _, _]) (Kk.g 7) rfl ?_
  refine KE 16 C (Kk.g 8) ?_
  refine KW 18 C (Kk.g 9) ?_
  refine KJ 21 C (Kk.g 10) ?_
  refine Y8 22 C (Kk.g 11) ?_
  refine K_ 23 C (Ls' := [_, _, _, _, _, _, _, _, _, _, _]) (Kk.g 12) rfl ?_
  refine KJ 24 C (Kk.g 13) ?_
  refine Kq 25 C (hw.g 196) (Kk.g 14) ?_
  refine Kc 28 C (Kk.g 15) ?_
  refine KQ 29 C 82 (Kk.g 16) ?_
  refine KJ 82 C (Kk.g 17) ?_
  refine Xm 83 C (Kk.g 18) ?_
  refine KG 84 C (Ls' := [_, _, _, _, _, _, _, _, _, _, _]) (Kk.g 19) rfl ?_
  refine KE 86 C (Kk.g 20) ?_
  refine KN 88 C (-100) (Kk.g 21) ?_
  refine KU 90 C 143 (Kk.g 22) ?_
  refine K0 143 C (Kk.g 23) ?_
  refine Q5 144 C (w := (-1)) (Ls' := [_, _, _, _, _, _, _, _, _, _, _]) (Kk.g 24) (by decide) rfl rfl ?_
  rw [Rp]
  refine KE 147 C (Kk.g 25) ?_
  refine Ko 149 C (hw.g 197) Via.refl S1 (Kk.g 26) ?_
  refine KE 152 C (Kk.g 27) ?_
  refine GF 154 C (Kk.g 28) ?_
  refine QV 155 C (v := .int (Int32.ofNat (48 + c1 % 10))) c1 A1 (by rw [e_c1]; decide) (by rw [e_c1]; rfl) (Kk.g 29) ?_
  refine QD 156 C t A.1 (Xk _ (by omega)) b1 (Or.inl rfl) (Kk.g 30) ?_
  intro h1 W1 D1
  replace A := A.same W1
  rw [e_c1] at A
  refine KE 157 C (Kk.g 31) ?_
  refine KN 159 C (-9) (Kk.g 32) ?_
  refine KU 161 C 178 (Kk.g 33) ?_
  refine KE 178 C (Kk.g 34) ?_
  refine KQ 180 C 192 (Kk.g 35) ?_
  refine KE 192 C (Kk.g 36) ?_
  refine KP 194 C (Kk.g 37) rfl (fun _ _ => ⟨rfl, A⟩)
  )
def UF (v_ : Int64) : List Int32 := if v_ = 5000 then [53, 48, 48, 48] else [54, 54, 54, 55]
theorem EV (hw : Kh Z a0) (W : oW Z) (va : Addr) (v_ : Int64) (hv : v_ = 5000 ∨ v_ = 6667) (h0 : Heap) (A : XE Z h0 va .byte "[B" (List.replicate 4 (.int 0))) (hya : Z.heap.size ≤ va) :
  KH l Z CB jdk_35_method_14_code 11 (some .int) ⟨0, 0, 0, 0⟩ #[.long v_, .int 4, .ref va] h0 (fun x => x = va ∨ h0.size ≤ x) (fun v h => v = some (.int 0) ∧ XE Z h va .byte "[B" ((UF v_).map QW)) := by
 refine Xr hya HD VN fun p e s m below meth c C hs => ?_
 obtain ⟨d1, S1, A1⟩ := W.ones
 obtain ⟨d2, S2, A2⟩ := W.tens
 have hv1 : d1 ≠ va := fun z => Nat.lt_irrefl _ (Nat.lt_of_lt_of_le A1.lt (z ▸ hya))
 have hv2 : d2 ≠ va := fun z => Nat.lt_irrefl _ (Nat.lt_of_lt_of_le A2.lt (z ▸ hya))
 refine Qc C (fun hE hle _ => ?_)
 replace A1 := A1.ext hE
 replace A2 := A2.ext hE
 obtain ⟨c1, c2, hq⟩ : ∃ c1 c2 : Nat, (v_ = 5000 ∧ c1 = 0 ∧ c2 = 50) ∨ (v_ = 6667 ∧ c1 = 67 ∧ c2 = 66) := hv.elim (fun z => ⟨0, 50, Or.inl ⟨z, rfl, rfl⟩⟩) (fun z => ⟨67, 66, Or.inr ⟨z, rfl, rfl⟩⟩)
 clear hv
 rcases hq with ⟨rfl, e_c1, e_c2⟩ | ⟨rfl, e_c1, e_c2⟩ <;> (
  refine K8 0 C (Kk.g 0) ?_
  refine KG 1 C (Ls' := [_, _, _, _, _, _, _, _, _, _, _]) (Kk.g 1) rfl ?_
  refine KJ 3 C (Kk.g 2) ?_
  refine KX 4 C 0 (Kk.g 3) ?_
  refine Kc 5 C (Kk.g 4) ?_
  refine KQ 6 C 13 (Kk.g 5) ?_
  refine KD 13 C 0 (Kk.g 6) ?_
  refine KG 14 C (Ls' := [_, _, _, _, _, _, _, _, _, _, _]) (Kk.g 7) rfl ?_
  refine KE 16 C (Kk.g 8) ?_
  refine KW 18 C (Kk.g 9) ?_
  refine KJ 21 C (Kk.g 10) ?_
  refine Y8 22 C (Kk.g 11) ?_
  refine K_ 23 C (Ls' := [_, _, _, _, _, _, _, _, _, _, _]) (Kk.g 12) rfl ?_
  refine KJ 24 C (Kk.g 13) ?_
  refine Kq 25 C (hw.g 196) (Kk.g 14) ?_
  refine Kc 28 C (Kk.g 15) ?_
  refine KQ 29 C 82 (Kk.g 16) ?_
  refine KJ 82 C (Kk.g 17) ?_
  refine Xm 83 C (Kk.g 18) ?_
  refine KG 84 C (Ls' := [_, _, _, _, _, _, _, _, _, _, _]) (Kk.g 19) rfl ?_
  refine KE 86 C (Kk.g 20) ?_
  refine KN 88 C (-100) (Kk.g 21) ?_
  refine KS 90 C (Kk.g 22) ?_
  refine KE 93 C (Kk.g 38) ?_
  refine KN 95 C 100 (Kk.g 39) ?_
  refine HT 97 C (Kk.g 40) (by decide) ?_
  refine KG 98 C (Ls' := [_, _, _, _, _, _, _, _, _, _, _]) (Kk.g 41) rfl ?_
  refine KE 100 C (Kk.g 42) ?_
  refine KN 102 C 100 (Kk.g 43) ?_
  refine Xu 104 C (Kk.g 44) ?_
  refine KE 105 C (Kk.g 45) ?_
  refine Kt 107 C (Kk.g 46) ?_
  refine KG 108 C (Ls' := [_, _, _, _, _, _, _, _, _, _, _]) (Kk.g 47) rfl ?_
  refine KE 110 C (Kk.g 48) ?_
  refine KG 112 C (Ls' := [_, _, _, _, _, _, _, _, _, _, _]) (Kk.g 49) rfl ?_
  refine K0 114 C (Kk.g 50) ?_
  refine Q5 115 C (w := (-1)) (Ls' := [_, _, _, _, _, _, _, _, _, _, _]) (Kk.g 51) (by decide) rfl rfl ?_
  refine KE 118 C (Kk.g 52) ?_
  refine Ko 120 C (hw.g 197) Via.refl S1 (Kk.g 53) ?_
  refine KE 123 C (Kk.g 54) ?_
  refine QV 125 C (v := .int (Int32.ofNat (48 + c1 % 10))) c1 A1 (by rw [e_c1]; decide) (by rw [e_c1]; rfl) (Kk.g 55) ?_
  refine QD 126 C 3 A.1 (by decide) (by simp) (Or.inl rfl) (Kk.g 56) ?_
  intro h126_0 W1 D1
  replace A1 := A1.other W1 hv1
  replace A2 := A2.other W1 hv2
  replace A := A.same W1
  clear D1
  refine K0 127 C (Kk.g 57) ?_
  refine Q5 128 C (w := (-1)) (Ls' := [_, _, _, _, _, _, _, _, _, _, _]) (Kk.g 58) (by decide) rfl rfl ?_
  refine KE 131 C (Kk.g 59) ?_
  refine Ko 133 C (hw.g 469) Via.refl S2 (Kk.g 60) ?_
  refine KE 136 C (Kk.g 61) ?_
  refine QV 138 C (v := .int (Int32.ofNat (48 + c1 / 10))) c1 A2 (by rw [e_c1]; decide) (by rw [e_c1]; rfl) (Kk.g 62) ?_
  refine QD 139 C 2 A.1 (by decide) (by simp) (Or.inl rfl) (Kk.g 63) ?_
  intro h139_0 W1 D1
  replace A1 := A1.other W1 hv1
  replace A2 := A2.other W1 hv2
  replace A := A.same W1
  clear D1
  refine KT 140 C 86 (Kk.g 64) ?_
  refine KE 86 C (Kk.g 20) ?_
  refine KN 88 C (-100) (Kk.g 21) ?_
  refine KU 90 C 143 (Kk.g 22) ?_
  refine K0 143 C (Kk.g 23) ?_
  refine Q5 144 C (w := (-1)) (Ls' := [_, _, _, _, _, _, _, _, _, _, _]) (Kk.g 24) (by decide) rfl rfl ?_
  refine KE 147 C (Kk.g 25) ?_
  refine Ko 149 C (hw.g 197) Via.refl S1 (Kk.g 26) ?_
  refine KE 152 C (Kk.g 27) ?_
  refine GF 154 C (Kk.g 28) ?_
  refine QV 155 C (v := .int (Int32.ofNat (48 + c2 % 10))) c2 A1 (by rw [e_c2]; decide) (by rw [e_c2]; rfl) (Kk.g 29) ?_
  refine QD 156 C 1 A.1 (by decide) (by simp) (Or.inl rfl) (Kk.g 30) ?_
  intro h156_1 W1 D1
  replace A1 := A1.other W1 hv1
  replace A2 := A2.other W1 hv2
  replace A := A.same W1
  clear D1
  refine KE 157 C (Kk.g 31) ?_
  refine KN 159 C (-9) (Kk.g 32) ?_
  refine KS 161 C (Kk.g 33) ?_
  refine K0 164 C (Kk.g 65) ?_
  refine Q5 165 C (w := (-1)) (Ls' := [_, _, _, _, _, _, _, _, _, _, _]) (Kk.g 66) (by decide) rfl rfl ?_
  refine KE 168 C (Kk.g 67) ?_
  refine Ko 170 C (hw.g 469) Via.refl S2 (Kk.g 68) ?_
  refine KE 173 C (Kk.g 69) ?_
  refine GF 175 C (Kk.g 70) ?_
  refine QV 176 C (v := .int (Int32.ofNat (48 + c2 / 10))) c2 A2 (by rw [e_c2]; decide) (by rw [e_c2]; rfl) (Kk.g 71) ?_
  refine QD 177 C 0 A.1 (by decide) (by simp) (Or.inl rfl) (Kk.g 72) ?_
  intro h177_1 W1 D1
  replace A1 := A1.other W1 hv1
  replace A2 := A2.other W1 hv2
  replace A := A.same W1
  clear D1
  refine KE 178 C (Kk.g 34) ?_
  refine KQ 180 C 192 (Kk.g 35) ?_
  refine KE 192 C (Kk.g 36) ?_
  refine KP 194 C (Kk.g 37) rfl (fun _ _ => ⟨rfl, by rw [e_c1, e_c2] at A; exact A⟩)
  )
theorem D8 (hw : Kh Z a0) (W : oW Z) (va : Addr) (h0 : Heap) (A : XE Z h0 va .byte "[B" (List.replicate 5 (.int 0))) (hya : Z.heap.size ≤ va) :
  KH l Z CB jdk_35_method_14_code 11 (some .int) ⟨0, 0, 0, 0⟩ #[.long 10000, .int 5, .ref va] h0 (fun x => x = va ∨ h0.size ≤ x) (fun v h => v = some (.int 0) ∧ XE Z h va .byte "[B" (([49, 48, 48, 48, 48] : List Int32).map QW)) := by
 refine Xr hya HD VN fun p e s m below meth c C hs => ?_
 obtain ⟨d1, S1, A1⟩ := W.ones
 obtain ⟨d2, S2, A2⟩ := W.tens
 have hv1 : d1 ≠ va := fun z => Nat.lt_irrefl _ (Nat.lt_of_lt_of_le A1.lt (z ▸ hya))
 have hv2 : d2 ≠ va := fun z => Nat.lt_irrefl _ (Nat.lt_of_lt_of_le A2.lt (z ▸ hya))
 refine Qc C (fun hE hle _ => ?_)
 replace A1 := A1.ext hE
 replace A2 := A2.ext hE
 obtain ⟨c1, e_c1⟩ : ∃ c1 : Nat, c1 = 0 := ⟨_, rfl⟩
 obtain ⟨c2, e_c2⟩ : ∃ c2 : Nat, c2 = 1 := ⟨_, rfl⟩
 refine K8 0 C (Kk.g 0) ?_
 refine KG 1 C (Ls' := [_, _, _, _, _, _, _, _, _, _, _]) (Kk.g 1) rfl ?_
 refine KJ 3 C (Kk.g 2) ?_
 refine KX 4 C 0 (Kk.g 3) ?_
 refine Kc 5 C (Kk.g 4) ?_
 refine KQ 6 C 13 (Kk.g 5) ?_
 refine KD 13 C 0 (Kk.g 6) ?_
 refine KG 14 C (Ls' := [_, _, _, _, _, _, _, _, _, _, _]) (Kk.g 7) rfl ?_
 refine KE 16 C (Kk.g 8) ?_
 refine KW 18 C (Kk.g 9) ?_
 refine KJ 21 C (Kk.g 10) ?_
 refine Y8 22 C (Kk.g 11) ?_
 refine K_ 23 C (Ls' := [_, _, _, _, _, _, _, _, _, _, _]) (Kk.g 12) rfl ?_
 refine KJ 24 C (Kk.g 13) ?_
 refine Kq 25 C (hw.g 196) (Kk.g 14) ?_
 refine Kc 28 C (Kk.g 15) ?_
 refine KQ 29 C 82 (Kk.g 16) ?_
 refine KJ 82 C (Kk.g 17) ?_
 refine Xm 83 C (Kk.g 18) ?_
 refine KG 84 C (Ls' := [_, _, _, _, _, _, _, _, _, _, _]) (Kk.g 19) rfl ?_
 refine KE 86 C (Kk.g 20) ?_
 refine KN 88 C (-100) (Kk.g 21) ?_
 refine KS 90 C (Kk.g 22) ?_
 refine KE 93 C (Kk.g 38) ?_
 refine KN 95 C 100 (Kk.g 39) ?_
 refine HT 97 C (Kk.g 40) (by decide) ?_
 refine KG 98 C (Ls' := [_, _, _, _, _, _, _, _, _, _, _]) (Kk.g 41) rfl ?_
 refine KE 100 C (Kk.g 42) ?_
 refine KN 102 C 100 (Kk.g 43) ?_
 refine Xu 104 C (Kk.g 44) ?_
 refine KE 105 C (Kk.g 45) ?_
 refine Kt 107 C (Kk.g 46) ?_
 refine KG 108 C (Ls' := [_, _, _, _, _, _, _, _, _, _, _]) (Kk.g 47) rfl ?_
 refine KE 110 C (Kk.g 48) ?_
 refine KG 112 C (Ls' := [_, _, _, _, _, _, _, _, _, _, _]) (Kk.g 49) rfl ?_
 refine K0 114 C (Kk.g 50) ?_
 refine Q5 115 C (w := (-1)) (Ls' := [_, _, _, _, _, _, _, _, _, _, _]) (Kk.g 51) (by decide) rfl rfl ?_
 refine KE 118 C (Kk.g 52) ?_
 refine Ko 120 C (hw.g 197) Via.refl S1 (Kk.g 53) ?_
 refine KE 123 C (Kk.g 54) ?_
 refine QV 125 C (v := .int (Int32.ofNat (48 + c1 % 10))) c1 A1 (by rw [e_c1]; decide) (by rw [e_c1]; rfl) (Kk.g 55) ?_
 refine QD 126 C 4 A.1 (by decide) (by simp) (Or.inl rfl) (Kk.g 56) ?_
 intro h126_0 W1 D1
 replace A1 := A1.other W1 hv1
 replace A2 := A2.other W1 hv2
 replace A := A.same W1
 clear D1
 refine K0 127 C (Kk.g 57) ?_
 refine Q5 128 C (w := (-1)) (Ls' := [_, _, _, _, _, _, _, _, _, _, _]) (Kk.g 58) (by decide) rfl rfl ?_
 refine KE 131 C (Kk.g 59) ?_
 refine Ko 133 C (hw.g 469) Via.refl S2 (Kk.g 60) ?_
 refine KE 136 C (Kk.g 61) ?_
 refine QV 138 C (v := .int (Int32.ofNat (48 + c1 / 10))) c1 A2 (by rw [e_c1]; decide) (by rw [e_c1]; rfl) (Kk.g 62) ?_
 refine QD 139 C 3 A.1 (by decide) (by simp) (Or.inl rfl) (Kk.g 63) ?_
 intro h139_0 W1 D1
 replace A1 := A1.other W1 hv1
 replace A2 := A2.other W1 hv2
 replace A := A.same W1
 clear D1
 refine KT 140 C 86 (Kk.g 64) ?_
 refine KE 86 C (Kk.g 20) ?_
 refine KN 88 C (-100) (Kk.g 21) ?_
 refine KS 90 C (Kk.g 22) ?_
 refine KE 93 C (Kk.g 38) ?_
 refine KN 95 C 100 (Kk.g 39) ?_
 refine HT 97 C (Kk.g 40) (by decide) ?_
 refine KG 98 C (Ls' := [_, _, _, _, _, _, _, _, _, _, _]) (Kk.g 41) rfl ?_
 refine KE 100 C (Kk.g 42) ?_
 refine KN 102 C 100 (Kk.g 43) ?_
 refine Xu 104 C (Kk.g 44) ?_
 refine KE 105 C (Kk.g 45) ?_
 refine Kt 107 C (Kk.g 46) ?_
 refine KG 108 C (Ls' := [_, _, _, _, _, _, _, _, _, _, _]) (Kk.g 47) rfl ?_
 refine KE 110 C (Kk.g 48) ?_
 refine KG 112 C (Ls' := [_, _, _, _, _, _, _, _, _, _, _]) (Kk.g 49) rfl ?_
 refine K0 114 C (Kk.g 50) ?_
 refine Q5 115 C (w := (-1)) (Ls' := [_, _, _, _, _, _, _, _, _, _, _]) (Kk.g 51) (by decide) rfl rfl ?_
 refine KE 118 C (Kk.g 52) ?_
 refine Ko 120 C (hw.g 197) Via.refl S1 (Kk.g 53) ?_
 refine KE 123 C (Kk.g 54) ?_
 refine QV 125 C (v := .int (Int32.ofNat (48 + c1 % 10))) c1 A1 (by rw [e_c1]; decide) (by rw [e_c1]; rfl) (Kk.g 55) ?_
 refine QD 126 C 2 A.1 (by decide) (by simp) (Or.inl rfl) (Kk.g 56) ?_
 intro h126_1 W1 D1
 replace A1 := A1.other W1 hv1
 replace A2 := A2.other W1 hv2
 replace A := A.same W1
 clear D1
 refine K0 127 C (Kk.g 57) ?_
 refine Q5 128 C (w := (-1)) (Ls' := [_, _, _, _, _, _, _, _, _, _, _]) (Kk.g 58) (by decide) rfl rfl ?_
 refine KE 131 C (Kk.g 59) ?_
 refine Ko 133 C (hw.g 469) Via.refl S2 (Kk.g 60) ?_
 refine KE 136 C (Kk.g 61) ?_
 refine QV 138 C (v := .int (Int32.ofNat (48 + c1 / 10))) c1 A2 (by rw [e_c1]; decide) (by rw [e_c1]; rfl) (Kk.g 62) ?_
 refine QD 139 C 1 A.1 (by decide) (by simp) (Or.inl rfl) (Kk.g 63) ?_
 intro h139_1 W1 D1
 replace A1 := A1.other W1 hv1
 replace A2 := A2.other W1 hv2
 replace A := A.same W1
 clear D1
 refine KT 140 C 86 (Kk.g 64) ?_
 refine KE 86 C (Kk.g 20) ?_
 refine KN 88 C (-100) (Kk.g 21) ?_
 refine KU 90 C 143 (Kk.g 22) ?_
 refine K0 143 C (Kk.g 23) ?_
 refine Q5 144 C (w := (-1)) (Ls' := [_, _, _, _, _, _, _, _, _, _, _]) (Kk.g 24) (by decide) rfl rfl ?_
 refine KE 147 C (Kk.g 25) ?_
 refine Ko 149 C (hw.g 197) Via.refl S1 (Kk.g 26) ?_
 refine KE 152 C (Kk.g 27) ?_
 refine GF 154 C (Kk.g 28) ?_
 refine QV 155 C (v := .int (Int32.ofNat (48 + c2 % 10))) c2 A1 (by rw [e_c2]; decide) (by rw [e_c2]; rfl) (Kk.g 29) ?_
 refine QD 156 C 0 A.1 (by decide) (by simp) (Or.inl rfl) (Kk.g 30) ?_
 intro h156_2 W1 D1
 replace A1 := A1.other W1 hv1
 replace A2 := A2.other W1 hv2
 replace A := A.same W1
 clear D1
 refine KE 157 C (Kk.g 31) ?_
 refine KN 159 C (-9) (Kk.g 32) ?_
 refine KU 161 C 178 (Kk.g 33) ?_
 refine KE 178 C (Kk.g 34) ?_
 refine KQ 180 C 192 (Kk.g 35) ?_
 refine KE 192 C (Kk.g 36) ?_
 refine KP 194 C (Kk.g 37) rfl (fun _ _ => ⟨rfl, by rw [e_c1, e_c2] at A; exact A⟩)
def L1 : MethodName := ⟨"java/lang/String", "<init>", "([BB)V"⟩
theorem UW : plainFor L1 = true := by decide +kernel
theorem AU {x0 : Addr} {x1 : Addr} {x2 : Int32} (m : MethodId) : entryFrame m #[.ref x0, .ref x1, .int x2] 3 = oF m 0 [.val (.ref x0), .val (.ref x1), .val (.int x2)] [] := by (first | (simp [entryFrame, oF, mkF, argsToLocals, Value.category]; done) | rfl)
theorem VZ (hw : Kh Z a0) (a va : Addr) (us : List Int32) (h0 : Heap) (hc0 : ∀ u ∈ us, XW u ∧ QG u) (A : XE Z h0 va .byte "[B" (us.map QW)) (hya : Z.heap.size ≤ a) (X : Exa Z h0 a "java/lang/String") (FV : Fld Z h0 a "java/lang/String" "value" "[B" .null) (FC : Fld Z h0 a "java/lang/String" "coder" "B" (.int 0)) :
  KH l Z L1 jdk_42_method_151_code 3 none ⟨1, 0, 0, 34⟩ #[.ref a, .ref va, .int 0] h0 (fun x => x = a ∨ h0.size ≤ x) (fun v h => v = none ∧ QY Z h a us) := by
 refine Xr hya UW AU fun p e s m below meth c C hs => ?_
 refine K0 0 C (Ry.g 0) ?_
 refine X5 1 C (hw.g 212) (hw.g 8) (hw.g 9) (Ry.g 1) rfl (by decide) (Nat.le_of_ble_eq_true rfl) ?_
 refine K0 4 C (Ry.g 2) ?_
 refine K0 5 C (Ry.g 3) ?_
 refine Ke 6 C (hw.g 137) Via.refl FV X (Or.inr ⟨(hw.g 118), rfl, rfl⟩) (hw.g 117) (ty := (.array .byte)) (by decide) rfl rfl (Or.inl rfl) (Ry.g 4) ?_
 intro h2 W2
 replace FV := Fld.same W2 FV
 replace FC := (fo W2 FC (Or.inr (hw.g 119)) (Or.inr (hw.g 118)))
 replace A := A.other W2 (fun z => (KR X (hw.g 117) A.1) z.symm)
 replace X := X.wr W2
 refine K0 9 C (Ry.g 5) ?_
 refine K8 10 C (Ry.g 6) ?_
 refine YE 11 C (hw.g 144) Via.refl FC X (Or.inr ⟨(hw.g 119), rfl, rfl⟩) (hw.g 117) (ty := .byte) (by decide) rfl (fits_nar_byte _) (Or.inl rfl) (Ry.g 7) ?_
 intro h3 W3
 replace FC := Fld.same W3 FC
 replace FV := (fo W3 FV (Or.inr (hw.g 118)) (Or.inr (hw.g 119)))
 replace A := A.other W3 (fun z => (KR X (hw.g 117) A.1) z.symm)
 replace X := X.wr W3
 refine Ka 14 C (Ry.g 8) (fun _ _ => ⟨rfl, X, hc0, va, FV, FC, A.1⟩)
def Ar : MethodName := ⟨"java/lang/Long", "toString", "(J)Ljava/lang/String;"⟩
theorem HX : plainFor Ar = true := by decide +kernel
theorem Ue {x0 : Int64} (m : MethodId) : entryFrame m #[.long x0] 4 = oF m 0 [.val (.long x0), .second, .unset, .unset] [] := by (first | (simp [entryFrame, oF, mkF, argsToLocals, Value.category]; done) | rfl)
theorem BD (hw : Kh Z a0) (W : oW Z) (h0 : Heap) :
  KH l Z Ar jdk_35_method_12_code 4 (some (.object "java/lang/String")) ⟨2, 2, 10, 56⟩ #[.long 0] h0 (fun a => h0.size ≤ a) (fun v h => ∃ a, v = some (.ref a) ∧ h0.size ≤ a ∧ QY Z h a [48]) := by
 refine Q9 HX Ue fun p e s m below meth c C hs => ?_
 refine Qc C (fun hE hle _ => ?_)
 obtain ⟨cs, hcs, Sc⟩ := W.cs
 refine KJ 0 C (X7.g 0) ?_
 refine KK 1 C (AX hw 0 _ (by decide)) (hw.g 465) (hw.g 184) (hw.g 185) (hw.g 186) GE (X7.g 1) (argsL := [_]) rfl rfl rfl rfl ?_
 rintro _ _ ⟨rfl, rfl⟩ -
 refine KO 4 C (Ls' := [_, _, _, _]) (X7.g 2) rfl ?_
 refine Ko 5 C (hw.g 467) Via.refl Sc (X7.g 3) ?_
 refine Qx 8 C 32 (X7.g 4) (fun hc8 => ?_) (fun hc8 => ?_)
 ·simp only [oC, Classical.not_not] at hc8
  exact absurd hc8 hcs
 ·simp only [oC, Classical.not_not] at hc8
  refine K8 11 C (X7.g 5) ?_
  refine Q7 C (aty := .byte) (pc := 12) (ad := "[B") 1 5 (hw.g 111) (X7.g 6) (by decide) (by decide) (by decide) (by decide) (by decide) (by decide) ?_
  intro h1 va hq hPq E1 D1
  refine KY 14 C (Ls' := [_, _, _, _]) (X7.g 7) rfl rfl ?_
  refine KJ 15 C (X7.g 8) ?_
  refine K8 16 C (X7.g 9) ?_
  refine K0 17 C (X7.g 10) ?_
  refine KK 18 C (Ac hw W va 0 0 _ _ (by decide) D1 (by decide) (by decide) (C.young va hPq)) (hw.g 468) (hw.g 194) (hw.g 185) (hw.g 195) GX (X7.g 11) (argsL := [_, _, _]) rfl rfl rfl rfl (hP := (fun x q r => r.elim (fun z => z ▸ hPq) (fun z => C.new x (Nat.le_trans q z)))) ?_
  rintro _ h2 ⟨rfl, D2⟩ -
  refine QR 21 C (X7.g 12) rfl ?_
  refine QE 22 C (hw.g 470) (hw.g 117) (hw.g 110) (X7.g 13) ?_
  intro h3 a ha hPa E3 X3 D3
  have FV := D3 (Or.inr (hw.g 118)) (ty := (.array .byte)) (by decide)
  have FC := D3 (Or.inr (hw.g 119)) (ty := .byte) (by decide)
  refine Ku 25 C (X7.g 14) rfl ?_
  refine K0 26 C (X7.g 15) ?_
  refine KD 27 C 0 (X7.g 16) ?_
  refine KV 28 C (VZ hw a va [48] _ (by unfold XW QG; decide) (D2.ext E3) (C.young a hPa) X3 FV FC) (hw.g 471) (hw.g 472) (hw.g 110) (hw.g 473) HF (X7.g 17) (argsL := [_, _]) rfl rfl rfl rfl (hP := (fun x q r => r.elim (fun z => z ▸ hPa) (fun z => C.new x (Nat.le_trans q z)))) ?_
  rintro _ h4 ⟨rfl, G⟩ -
  refine KL 31 C (X7.g 18) (fun _ _ => ⟨a, rfl, by omega, G⟩)
theorem Tg (hw : Kh Z a0) (W : oW Z) (v_ : Int64) (hv : v_ = 5000 ∨ v_ = 6667) (h0 : Heap) :
  KH l Z Ar jdk_35_method_12_code 4 (some (.object "java/lang/String")) ⟨2, 2, 10, 56⟩ #[.long v_] h0 (fun a => h0.size ≤ a) (fun v h => ∃ a, v = some (.ref a) ∧ h0.size ≤ a ∧ QY Z h a (UF v_)) := by
 refine Q9 HX Ue fun p e s m below meth c C hs => ?_
 refine Qc C (fun hE hle _ => ?_)
 obtain ⟨cs, hcs, Sc⟩ := W.cs
 refine KJ 0 C (X7.g 0) ?_
 refine KK 1 C (Dh hw v_ _ hv) (hw.g 465) (hw.g 184) (hw.g 185) (hw.g 186) GE (X7.g 1) (argsL := [_]) rfl rfl rfl rfl ?_
 rintro _ _ ⟨rfl, rfl⟩ -
 refine KO 4 C (Ls' := [_, _, _, _]) (X7.g 2) rfl ?_
 refine Ko 5 C (hw.g 467) Via.refl Sc (X7.g 3) ?_
 refine Qx 8 C 32 (X7.g 4) (fun hc8 => ?_) (fun hc8 => ?_)
 ·simp only [oC, Classical.not_not] at hc8
  exact absurd hc8 hcs
 ·simp only [oC, Classical.not_not] at hc8
  refine K8 11 C (X7.g 5) ?_
  refine Q7 C (aty := .byte) (pc := 12) (ad := "[B") 4 5 (hw.g 111) (X7.g 6) (by decide) (by decide) (by decide) (by decide) (by decide) (by decide) ?_
  intro h1 va hq hPq E1 D1
  refine KY 14 C (Ls' := [_, _, _, _]) (X7.g 7) rfl rfl ?_
  refine KJ 15 C (X7.g 8) ?_
  refine K8 16 C (X7.g 9) ?_
  refine K0 17 C (X7.g 10) ?_
  refine KK 18 C (EV hw W va v_ hv _ D1 (C.young va hPq)) (hw.g 468) (hw.g 194) (hw.g 185) (hw.g 195) GX (X7.g 11) (argsL := [_, _, _]) rfl rfl rfl rfl (hP := (fun x q r => r.elim (fun z => z ▸ hPq) (fun z => C.new x (Nat.le_trans q z)))) ?_
  rintro _ h2 ⟨rfl, D2⟩ -
  refine QR 21 C (X7.g 12) rfl ?_
  refine QE 22 C (hw.g 470) (hw.g 117) (hw.g 110) (X7.g 13) ?_
  intro h3 a ha hPa E3 X3 D3
  have FV := D3 (Or.inr (hw.g 118)) (ty := (.array .byte)) (by decide)
  have FC := D3 (Or.inr (hw.g 119)) (ty := .byte) (by decide)
  refine Ku 25 C (X7.g 14) rfl ?_
  refine K0 26 C (X7.g 15) ?_
  refine KD 27 C 0 (X7.g 16) ?_
  refine KV 28 C (VZ hw a va (UF v_) _ (by rcases hv with rfl | rfl <;> (unfold XW QG; decide)) (D2.ext E3) (C.young a hPa) X3 FV FC) (hw.g 471) (hw.g 472) (hw.g 110) (hw.g 473) HF (X7.g 17) (argsL := [_, _]) rfl rfl rfl rfl (hP := (fun x q r => r.elim (fun z => z ▸ hPa) (fun z => C.new x (Nat.le_trans q z)))) ?_
  rintro _ h4 ⟨rfl, G⟩ -
  refine KL 31 C (X7.g 18) (fun _ _ => ⟨a, rfl, by omega, G⟩)
theorem BS (hw : Kh Z a0) (W : oW Z) (h0 : Heap) :
  KH l Z Ar jdk_35_method_12_code 4 (some (.object "java/lang/String")) ⟨2, 2, 10, 56⟩ #[.long 10000] h0 (fun a => h0.size ≤ a) (fun v h => ∃ a, v = some (.ref a) ∧ h0.size ≤ a ∧ QY Z h a [49, 48, 48, 48, 48]) := by
 refine Q9 HX Ue fun p e s m below meth c C hs => ?_
 refine Qc C (fun hE hle _ => ?_)
 obtain ⟨cs, hcs, Sc⟩ := W.cs
 refine KJ 0 C (X7.g 0) ?_
 refine KK 1 C (Ec hw _) (hw.g 465) (hw.g 184) (hw.g 185) (hw.g 186) GE (X7.g 1) (argsL := [_]) rfl rfl rfl rfl ?_
 rintro _ _ ⟨rfl, rfl⟩ -
 refine KO 4 C (Ls' := [_, _, _, _]) (X7.g 2) rfl ?_
 refine Ko 5 C (hw.g 467) Via.refl Sc (X7.g 3) ?_
 refine Qx 8 C 32 (X7.g 4) (fun hc8 => ?_) (fun hc8 => ?_)
 ·simp only [oC, Classical.not_not] at hc8
  exact absurd hc8 hcs
 ·simp only [oC, Classical.not_not] at hc8
  refine K8 11 C (X7.g 5) ?_
  refine Q7 C (aty := .byte) (pc := 12) (ad := "[B") 5 5 (hw.g 111) (X7.g 6) (by decide) (by decide) (by decide) (by decide) (by decide) (by decide) ?_
  intro h1 va hq hPq E1 D1
  refine KY 14 C (Ls' := [_, _, _, _]) (X7.g 7) rfl rfl ?_
  refine KJ 15 C (X7.g 8) ?_
  refine K8 16 C (X7.g 9) ?_
  refine K0 17 C (X7.g 10) ?_
  refine KK 18 C (D8 hw W va _ D1 (C.young va hPq)) (hw.g 468) (hw.g 194) (hw.g 185) (hw.g 195) GX (X7.g 11) (argsL := [_, _, _]) rfl rfl rfl rfl (hP := (fun x q r => r.elim (fun z => z ▸ hPq) (fun z => C.new x (Nat.le_trans q z)))) ?_
  rintro _ h2 ⟨rfl, D2⟩ -
  refine QR 21 C (X7.g 12) rfl ?_
  refine QE 22 C (hw.g 470) (hw.g 117) (hw.g 110) (X7.g 13) ?_
  intro h3 a ha hPa E3 X3 D3
  have FV := D3 (Or.inr (hw.g 118)) (ty := (.array .byte)) (by decide)
  have FC := D3 (Or.inr (hw.g 119)) (ty := .byte) (by decide)
  refine Ku 25 C (X7.g 14) rfl ?_
  refine K0 26 C (X7.g 15) ?_
  refine KD 27 C 0 (X7.g 16) ?_
  refine KV 28 C (VZ hw a va [49, 48, 48, 48, 48] _ (by unfold XW QG; decide) (D2.ext E3) (C.young a hPa) X3 FV FC) (hw.g 471) (hw.g 472) (hw.g 110) (hw.g 473) HF (X7.g 17) (argsL := [_, _]) rfl rfl rfl rfl (hP := (fun x q r => r.elim (fun z => z ▸ hPa) (fun z => C.new x (Nat.le_trans q z)))) ?_
  rintro _ h4 ⟨rfl, G⟩ -
  refine KL 31 C (X7.g 18) (fun _ _ => ⟨a, rfl, by omega, G⟩)
theorem Js {us : List Int32} {u : Int32} {bs bs' : List Value} (h1 : bs.take us.length = us.map QW) (h2 : bs'.take bs.length = bs) (h3 : us.length ≤ bs.length) (h4 : us.length + 1 ≤ bs'.length) : (bs'.set us.length (QW u)).take (us ++ [u]).length = (us ++ [u]).map QW := by
 have e := Hv (ws := [u]) h1 h2 h3 h4
 rw [List.set_eq_take_append_cons_drop, if_pos (by omega)]
 exact e
theorem GU {bs : List Value} {i : Nat} {w : Value} (h : ∀ v ∈ bs, YB v) (hw : YB w) : ∀ v ∈ bs.set i w, YB v := fun v z => (List.mem_or_eq_of_mem_set z).elim (h v) (fun e => e ▸ hw)
def oN (v : Nat) : List Int32 := [Int32.ofNat (48 + v)]
theorem UY {v_ : Nat} (hv : v_ ≤ 2) : Value.int (Int32.ofNat (48 + v_)) = QW (Int32.ofNat (48 + v_)) ∧ XW (Int32.ofNat (48 + v_)) ∧ QG (Int32.ofNat (48 + v_)) := by
 obtain rfl | rfl | rfl : v_ = 0 ∨ v_ = 1 ∨ v_ = 2 := by omega
 all_goals exact ⟨rfl, by unfold XW QG; decide⟩
def L2 : MethodName := ⟨"java/lang/AbstractStringBuilder", "append", "(J)Ljava/lang/AbstractStringBuilder;"⟩
theorem Vx : plainFor L2 = true := by decide +kernel
theorem Ez {x0 : Addr} {x1 : Int64} (m : MethodId) : entryFrame m #[.ref x0, .long x1] 5 = oF m 0 [.val (.ref x0), .val (.long x1), .second, .unset, .unset] [] := by (first | (simp [entryFrame, oF, mkF, argsToLocals, Value.category]; done) | rfl)
theorem DQ (hw : Kh Z a0) (W : oW Z) (sb va : Addr) (v_ : Nat) (us : List Int32) (h0 : Heap) (F : XJ Z h0 sb va us) (hv : v_ ≤ 2) (b1 : us.length + 1 ≤ 34) (hya : Z.heap.size ≤ sb) (hyb : Z.heap.size ≤ va) :
  KH l Z L2 jdk_68_method_33_code 5 (some (.object "java/lang/AbstractStringBuilder")) ⟨4, 1, 100, 91⟩ #[.ref sb, .long (Int64.ofNat v_)] h0 (fun x => x = sb ∨ x = va ∨ h0.size ≤ x) (fun v h => v = some (.ref sb) ∧ ∃ va', (va' = va ∨ h0.size ≤ va') ∧ XJ Z h sb va' (us ++ oN v_)) := by
 refine Gk hya hyb Vx Ez fun p e s m below meth c C hs => ?_
 obtain ⟨⟨bs, R0, e0, l0, l1, l2⟩, hC⟩ := F
 obtain ⟨eu, cu⟩ := UY hv
 refine K0 0 C (Yd.g 0) ?_
 refine KF 1 C (hw.g 145) Via.refl R0.N (Yd.g 1) ?_
 refine KO 4 C (Ls' := [_, _, _, _, _]) (Yd.g 2) rfl ?_
 refine K8 5 C (Yd.g 3) ?_
 refine KJ 6 C (Yd.g 4) ?_
 refine KK 7 C (AX hw v_ _ hv) (hw.g 183) (hw.g 184) (hw.g 185) (hw.g 186) GE (Yd.g 5) (argsL := [_]) rfl rfl rfl rfl ?_
 rintro _ _ ⟨rfl, rfl⟩ -
 refine Kg 10 C (Yd.g 6) ?_
 rw [J5]
 refine KG 11 C (Ls' := [_, _, _, _, _]) (Yd.g 7) rfl ?_
 refine K0 13 C (Yd.g 8) ?_
 refine KE 14 C (Yd.g 9) ?_
 refine Kf 16 C (TL hw W sb va _ bs (us.length + 1) b1 l2 l1 _ R0 hya) (R0.X) (hw.g 147) (QB.of (hw.g 150 rfl) rfl) (hw.g 149) (hw.g 148) (hw.g 106) (hw.g 151) XO (Yd.g 10) (argsL := [_]) rfl rfl rfl rfl (hP := (fun x q r => r.elim (fun z => z ▸ (Or.inl rfl)) (fun z => C.new x (Nat.le_trans q z)))) ?_
 rintro _ h1 ⟨rfl, va', bs', R1, hva, m1, m2, m3, m4⟩ K1
 have hPv : va' = sb ∨ va' = va ∨ h0.size ≤ va' := hva.elim (fun z => Or.inr (Or.inl z)) (fun z => Or.inr (Or.inr z))
 refine K0 19 C (Yd.g 11) ?_
 refine KI 20 C (T3 hw W sb va' _ bs' _ R1) (R1.X) (hw.g 188) (hw.g 189) (QF (hw.g 191)) (hw.g 191) (hw.g 190) (hw.g 106) (hw.g 192) GY (Yd.g 12) (argsL := []) rfl rfl rfl rfl ?_
 rintro _ _ ⟨rfl, rfl⟩ -
 refine KW 23 C (Yd.g 13) ?_
 refine KJ 26 C (Yd.g 14) ?_
 refine KE 27 C (Yd.g 15) ?_
 refine K0 29 C (Yd.g 16) ?_
 refine KF 30 C (hw.g 112) Via.refl R1.V (Yd.g 17) ?_
 refine KK 33 C (Ac hw W va' us.length v_ bs' _ hv R1.A m1 (by omega) (C.young va' hPv)) (hw.g 193) (hw.g 194) (hw.g 185) (hw.g 195) GX (Yd.g 18) (argsL := [_, _, _]) rfl rfl rfl rfl (hP := (fun x q r => r.elim (fun z => z ▸ hPv) (fun z => C.new x (Nat.le_trans q z)))) ?_
 rintro _ h2 ⟨rfl, D2⟩ K2
 rw [eu] at D2
 have ns : ¬ (sb = va' ∨ Array.size h1 ≤ sb) := fun r => r.elim (fun z => KR R1.X (hw.g 97) R1.A.1 z) (fun z => absurd R1.X.lt (Nat.not_lt.mpr z))
 have R2 : XQ Z h2 sb va' _ _ := ⟨K2.exa R1.X, K2.fld R1.V ns, K2.fld R1.K ns, K2.fld R1.N ns, D2, GU R1.B (YB.lv _)⟩
 refine QR 36 C (Yd.g 19) rfl ?_
 refine KT 37 C 52 (Yd.g 20) ?_
 refine K0 52 C (Yd.g 21) ?_
 refine KE 53 C (Yd.g 22) ?_
 rw [show us.length + 1 = (us ++ oN v_).length from by simp [oN]]
 refine Ke 55 C (hw.g 145) Via.refl R2.N R2.X (Or.inl (hw.g 146)) (hw.g 97) (ty := .int) (by decide) rfl rfl (Or.inl rfl) (Yd.g 23) ?_
 intro h3 W3
 have R3 : XQ Z h3 sb va' (Int32.ofNat (us ++ oN v_).length) (_) := ⟨R2.X.wr W3, (fo W3 R2.V (Or.inl (hw.g 113)) (Or.inl (hw.g 146))), (fo W3 R2.K (Or.inl (hw.g 115)) (Or.inl (hw.g 146))), Fld.same W3 R2.N, R2.A.other W3 (fun z => (KR R2.X (hw.g 97) R2.A.1) z.symm), R2.B⟩
 refine K0 58 C (Yd.g 24) ?_
 refine KL 59 C (Yd.g 25) (fun _ _ => ⟨rfl, va', hva, ⟨_, R3, Js (u := (Int32.ofNat (48 + v_))) e0 m4 l0 m1, by simp [oN]; omega, by simp; omega, by simp; omega⟩, fun u z => (List.mem_append.mp z).elim (hC u) (fun z => by rw [List.mem_singleton.mp z]; exact cu)⟩)
def LY : MethodName := ⟨"java/lang/StringBuilder", "append", "(J)Ljava/lang/StringBuilder;"⟩
theorem VM : plainFor LY = true := by decide +kernel
theorem EM {x0 : Addr} {x1 : Int64} (m : MethodId) : entryFrame m #[.ref x0, .long x1] 3 = oF m 0 [.val (.ref x0), .val (.long x1), .second] [] := by (first | (simp [entryFrame, oF, mkF, argsToLocals, Value.category]; done) | rfl)
theorem JC (hw : Kh Z a0) (W : oW Z) (sb va : Addr) (v_ : Nat) (us : List Int32) (h0 : Heap) (F : XJ Z h0 sb va us) (hv : v_ ≤ 2) (b1 : us.length + 1 ≤ 34) (hya : Z.heap.size ≤ sb) (hyb : Z.heap.size ≤ va) :
  KH l Z LY jdk_67_method_16_code 3 (some (.object "java/lang/StringBuilder")) ⟨5, 1, 100, 115⟩ #[.ref sb, .long (Int64.ofNat v_)] h0 (fun x => x = sb ∨ x = va ∨ h0.size ≤ x) (fun v h => v = some (.ref sb) ∧ ∃ va', (va' = va ∨ h0.size ≤ va') ∧ XJ Z h sb va' (us ++ oN v_)) := by
 refine Gk hya hyb VM EM fun p e s m below meth c C hs => ?_
 refine K0 0 C (WV.g 0) ?_
 refine KJ 1 C (WV.g 1) ?_
 refine YD 2 C (DQ hw W sb va v_ us _ F hv b1 hya hyb) (Ins.self F.X) (hw.g 179 rfl) (Wc (w := (⟨"java/lang/AbstractStringBuilder", "ensureCapacityInternal", "(I)V"⟩ : MethodName)) rfl (hw.g 150) (hw.g 180) (by decide)) (hw.g 180) (hw.g 129) (hw.g 106) (hw.g 182) Tn (WV.g 2) (argsL := [_]) rfl rfl rfl rfl (hP := (fun x q r => r.elim (fun z => z ▸ (Or.inl rfl)) (fun r => r.elim (fun z => z ▸ (Or.inr (Or.inl rfl))) (fun z => C.new x (Nat.le_trans q z))))) ?_
 rintro _ h1 ⟨rfl, va', hva, F1⟩ -
 refine QR 5 C (WV.g 3) rfl ?_
 refine K0 6 C (WV.g 4) ?_
 refine KL 7 C (WV.g 5) (fun _ _ => ⟨rfl, va', hva, F1⟩)
def Fn : MethodName := ⟨"java/lang/AbstractStringBuilder", "<init>", "(Ljava/lang/String;)V"⟩
theorem Vh : plainFor Fn = true := by decide +kernel
theorem Rx {x0 : Addr} {x1 : Addr} (m : MethodId) : entryFrame m #[.ref x0, .ref x1] 5 = oF m 0 [.val (.ref x0), .val (.ref x1), .unset, .unset, .unset] [] := by (first | (simp [entryFrame, oF, mkF, argsToLocals, Value.category]; done) | rfl)
theorem Ex (hw : Kh Z a0) (W : oW Z) (sb a : Addr) (ws : List Int32) (h0 : Heap) (G : QY Z h0 a ws) (b1 : ws.length ≤ 18) (hya : Z.heap.size ≤ sb) (X : Exa Z h0 sb "java/lang/StringBuilder") (FV : Fld Z h0 sb "java/lang/AbstractStringBuilder" "value" "[B" .null) (FC : Fld Z h0 sb "java/lang/AbstractStringBuilder" "coder" "B" (.int 0)) (FN : Fld Z h0 sb "java/lang/AbstractStringBuilder" "count" "I" (.int 0)) :
  KH l Z Fn jdk_68_method_3_code 5 none ⟨7, 2, 134, 155⟩ #[.ref sb, .ref a] h0 (fun x => x = sb ∨ h0.size ≤ x) (fun v h => v = none ∧ ∃ va, h0.size ≤ va ∧ XJ Z h sb va ws) := by
 refine Xr hya Vh Rx fun p e s m below meth c C hs => ?_
 refine K0 0 C (Y4.g 0) ?_
 refine X5 1 C (hw.g 108) (hw.g 8) (hw.g 9) (Y4.g 1) rfl (by decide) (Nat.le_of_ble_eq_true rfl) ?_
 refine K0 4 C (Y4.g 2) ?_
 refine KI 5 C (RI hw W a ws _ G) (G.1) (hw.g 132) (hw.g 133) (QF (hw.g 135)) (hw.g 135) (hw.g 134) (hw.g 110) (hw.g 136) Qf (Y4.g 3) (argsL := []) rfl rfl rfl rfl ?_
 rintro _ _ ⟨rfl, rfl⟩ -
 refine KO 8 C (Ls' := [_, _, _, _, _]) (Y4.g 4) rfl ?_
 refine K8 9 C (Y4.g 5) ?_
 refine XF 10 C (hw.g 495) (Y4.g 6) ?_
 refine QK 12 C 22 (Y4.g 7) (fun hc12 => ?_) (fun hc12 => ?_)
 ·simp only [oC, Classical.not_not] at hc12
  exact False.elim (by simp only [Int32.lt_iff_toInt_lt, ← Int32.toInt_inj, Int32.toInt_add, Int32.toInt_sub, Qm, Int32.reduceToInt, Int.bmod_def] at hc12; omega)
 ·simp only [oC, Classical.not_not] at hc12
  refine K8 15 C (Y4.g 8) ?_
  refine KN 16 C 16 (Y4.g 9) ?_
  refine Kg 18 C (Y4.g 10) ?_
  rw [show Int32.ofNat ws.length + 16 = Int32.ofNat (ws.length + 16) from (Int32.ofNat_add _ 16).symm]
  refine KT 19 C 24 (Y4.g 11) ?_
  refine KO 24 C (Ls' := [_, _, _, _, _]) (Y4.g 12) rfl ?_
  refine K0 25 C (Y4.g 13) ?_
  refine KI 26 C (T1 hw W a ws _ G) (G.1) (hw.g 162) (hw.g 139) (QF (hw.g 141)) (hw.g 141) (hw.g 140) (hw.g 110) (hw.g 142) Hi (Y4.g 14) (argsL := []) rfl rfl rfl rfl ?_
  rintro _ _ ⟨rfl, rfl⟩ -
  refine KG 29 C (Ls' := [_, _, _, _, _]) (Y4.g 15) rfl ?_
  refine K0 31 C (Y4.g 16) ?_
  refine KE 32 C (Y4.g 17) ?_
  refine YE 34 C (hw.g 114) Via.refl FC X (Or.inl (hw.g 115)) (hw.g 97) (ty := .byte) (by decide) rfl (fits_nar_byte _) (Or.inl rfl) (Y4.g 18) ?_
  intro h1 W1
  replace FV := (fo W1 FV (Or.inl (hw.g 113)) (Or.inl (hw.g 115)))
  replace FC := Fld.same W1 FC
  replace FN := (fo W1 FN (Or.inl (hw.g 146)) (Or.inl (hw.g 115)))
  replace G := G.wrX X (by decide) (hw.g 97) W1
  replace X := X.wr W1
  refine K0 37 C (Y4.g 19) ?_
  refine KE 38 C (Y4.g 20) ?_
  refine KW 40 C (Y4.g 21) ?_
  refine K8 43 C (Y4.g 22) ?_
  refine Q7 C (aty := .byte) (pc := 44) (ad := "[B") (ws.length + 16) 34 (hw.g 111) (Y4.g 23) (Xk _ (by omega)) (by omega) (by decide) (by decide) (by decide) (by decide) ?_
  intro h2 va hq hPq E2 D1
  replace X := X.ext E2
  replace FV := FV.ext E2
  replace FC := FC.ext E2
  replace FN := FN.ext E2
  replace G := G.ext E2
  refine KT 46 C 53 (Y4.g 24) ?_
  refine Ke 53 C (hw.g 112) Via.refl FV X (Or.inl (hw.g 113)) (hw.g 97) (ty := (.array .byte)) (by decide) rfl rfl (Or.inl rfl) (Y4.g 25) ?_
  intro h3 W3
  replace FV := Fld.same W3 FV
  replace FC := (fo W3 FC (Or.inl (hw.g 115)) (Or.inl (hw.g 113)))
  replace FN := (fo W3 FN (Or.inl (hw.g 146)) (Or.inl (hw.g 113)))
  replace D1 := D1.other W3 (fun z => (KR X (hw.g 97) D1.1) z.symm)
  replace G := G.wrX X (by decide) (hw.g 97) W3
  replace X := X.wr W3
  have F1 : XJ Z h3 sb va [] := ⟨⟨_, ⟨X, FV, FC, FN, D1, fun v z => YB.rep z⟩, rfl, Nat.zero_le _, by simp; omega, by simp⟩, fun u z => absurd z (List.not_mem_nil)⟩
  refine K0 56 C (Y4.g 26) ?_
  refine K0 57 C (Y4.g 27) ?_
  refine KI 58 C (DU hw W sb va a [] ws _ F1 G (by simp; omega) hya (C.young va hPq)) (X) (hw.g 496 rfl) (hw.g 130) (Am (w := (⟨"java/lang/AbstractStringBuilder", "ensureCapacityInternal", "(I)V"⟩ : MethodName)) rfl (hw.g 150)) (hw.g 497) (hw.g 498) (hw.g 98) (hw.g 499) Ji (Y4.g 28) (argsL := [_]) rfl rfl rfl rfl (hP := (fun x q r => r.elim (fun z => z ▸ (Or.inl rfl)) (fun r => r.elim (fun z => z ▸ hPq) (fun z => C.new x (Nat.le_trans q z))))) ?_
  rintro _ h4 ⟨rfl, va', hva, F2⟩ -
  have hva' : h0.size ≤ va' := hva.elim (fun z => by rw [z, hq, W1.size]; exact Nat.le_refl _) (fun z => Nat.le_trans (by rw [W3.size]; exact Nat.le_trans (Nat.le_of_eq W1.size.symm) E2.1) z)
  refine QR 61 C (Y4.g 29) rfl ?_
  refine Ka 62 C (Y4.g 30) (fun _ _ => ⟨rfl, va', hva', F2⟩)
def Fd : MethodName := ⟨"java/lang/StringBuilder", "<init>", "(Ljava/lang/String;)V"⟩
theorem UJ : plainFor Fd = true := by decide +kernel
theorem DE (hw : Kh Z a0) (W : oW Z) (sb a : Addr) (ws : List Int32) (h0 : Heap) (G : QY Z h0 a ws) (b1 : ws.length ≤ 18) (hya : Z.heap.size ≤ sb) (X : Exa Z h0 sb "java/lang/StringBuilder") (FV : Fld Z h0 sb "java/lang/AbstractStringBuilder" "value" "[B" .null) (FC : Fld Z h0 sb "java/lang/AbstractStringBuilder" "coder" "B" (.int 0)) (FN : Fld Z h0 sb "java/lang/AbstractStringBuilder" "count" "I" (.int 0)) :
  KH l Z Fd jdk_67_method_3_code 2 none ⟨8, 2, 134, 179⟩ #[.ref sb, .ref a] h0 (fun x => x = sb ∨ h0.size ≤ x) (fun v h => v = none ∧ ∃ va, h0.size ≤ va ∧ XJ Z h sb va ws) := by
 refine Xr hya UJ Gu fun p e s m below meth c C hs => ?_
 refine K0 0 C (C0.g 0) ?_
 refine K0 1 C (C0.g 1) ?_
 refine KV 2 C (Ex hw W sb a ws _ G b1 hya X FV FC FN) (hw.g 491) (hw.g 492) (hw.g 106) (hw.g 494) RJ (C0.g 2) (argsL := [_]) rfl rfl rfl rfl (hP := (fun x q r => r.elim (fun z => z ▸ (Or.inl rfl)) (fun z => C.new x (Nat.le_trans q z)))) ?_
 rintro _ h1 ⟨rfl, va, hv, F1⟩ -
 refine Ka 5 C (C0.g 3) (fun _ _ => ⟨rfl, va, hv, F1⟩)
theorem Gq {h h' : Heap} {P P' : Addr → Prop} (K : Km P h h') (q : ∀ x, P x → P' x) : Km P' h h' := ⟨K.1, fun x c hx => by obtain ⟨c', e1, e2, e3, e4, e5⟩ := K.2 x c hx; exact ⟨c', e1, e2, e3, e4, fun z => e5 fun r => z (q x r)⟩⟩
def E_ : MethodName := ⟨"jdk/internal/util/Preconditions", "checkFromToIndex", "(IIILjava/util/function/BiFunction;)I"⟩
theorem RD : plainFor E_ = true := by decide +kernel
theorem Et {x0 : Int32} {x1 : Int32} {x2 : Int32} {x3 : Value} (r3 : x3.isRef = true) (m : MethodId) : entryFrame m #[.int x0, .int x1, .int x2, x3] 4 = oF m 0 [.val (.int x0), .val (.int x1), .val (.int x2), .val x3] [] := by rcases ref_cases r3 with rfl | ⟨_, rfl⟩ <;> (first | (simp [entryFrame, oF, mkF, argsToLocals, Value.category]; done) | rfl)
theorem EE (hw : Kh Z a0) (fv : Value) (hr_fv : fv.isRef = true) (h0 : Heap) :
  KH l Z E_ jdk_41_method_12_code 4 (some .int) ⟨0, 0, 0, 0⟩ #[.int 1, .int 5, .int 5, fv] h0 (fun a => h0.size ≤ a) (fun v h => v = some (.int 1) ∧ h0 = h) := by
 refine Q9 RD (Et hr_fv) fun p e s m below meth c C hs => ?_
 refine K8 0 C (GS.g 0) ?_
 refine KW 1 C (GS.g 1) ?_
 refine K8 4 C (GS.g 2) ?_
 refine K8 5 C (GS.g 3) ?_
 refine KS 6 C (GS.g 4) ?_
 refine K8 9 C (GS.g 5) ?_
 refine K8 10 C (GS.g 6) ?_
 refine KU 11 C 22 (GS.g 7) ?_
 refine K8 22 C (GS.g 8) ?_
 refine KP 23 C (GS.g 9) rfl (fun _ _ => ⟨rfl, rfl⟩)
def LM : MethodName := ⟨"java/lang/String", "checkOffset", "(II)V"⟩
theorem VY : plainFor LM = true := by decide +kernel
theorem DO (hw : Kh Z a0) (W : oW Z) (h0 : Heap) :
  KH l Z LM jdk_42_method_156_code 2 none ⟨1, 0, 0, 23⟩ #[.int 1, .int 5] h0 (fun a => h0.size ≤ a) (fun v h => v = none ∧ h0 = h) := by
 refine Q9 VY We fun p e s m below meth c C hs => ?_
 obtain ⟨fv, hfv, Sv⟩ := W.sio
 refine K8 0 C (Uz.g 0) ?_
 refine K8 1 C (Uz.g 1) ?_
 refine K8 2 C (Uz.g 2) ?_
 refine Ko 3 C (hw.g 513) Via.refl Sv (Uz.g 3) ?_
 refine KK 6 C (EE hw fv hfv _) (hw.g 514) (hw.g 515) (hw.g 292) (hw.g 516) JQ (Uz.g 4) (argsL := [_, _, _, _]) rfl rfl rfl rfl ?_
 rintro _ _ ⟨rfl, rfl⟩ -
 refine QR 9 C (Uz.g 5) rfl ?_
 refine Ka 10 C (Uz.g 6) (fun _ _ => ⟨rfl, rfl⟩)
def Fg : MethodName := ⟨"java/lang/StringLatin1", "canEncode", "(C)Z"⟩
theorem VK : plainFor Fg = true := by decide +kernel
theorem GN {x0 : Int32} (m : MethodId) : entryFrame m #[.int x0] 1 = oF m 0 [.val (.int x0)] [] := by (first | (simp [entryFrame, oF, mkF, argsToLocals, Value.category]; done) | rfl)
theorem Br (hw : Kh Z a0) (u : Int32) (h0 : Heap) (b1 : ¬ 255 < u) :
  KH l Z Fg jdk_43_method_3_code 1 (some .boolean) ⟨0, 0, 0, 0⟩ #[.int u] h0 (fun a => h0.size ≤ a) (fun v h => v = some (.int 1) ∧ h0 = h) := by
 refine Q9 VK GN fun p e s m below meth c C hs => ?_
 refine K8 0 C (Wb.g 0) ?_
 refine Xe 1 C 255 (Wb.g 1) ?_
 refine QK 4 C 11 (Wb.g 2) (fun hc4 => ?_) (fun hc4 => ?_)
 ·simp only [oC, Classical.not_not] at hc4
  exact absurd hc4 b1
 ·simp only [oC, Classical.not_not] at hc4
  refine KD 7 C 1 (Wb.g 3) ?_
  refine KT 8 C 12 (Wb.g 4) ?_
  refine KP 12 C (Wb.g 5) (by first | rfl | decide) (fun _ _ => ⟨rfl, rfl⟩)
def Fy : MethodName := ⟨"java/lang/AbstractStringBuilder", "shift", "(II)V"⟩
theorem Um : plainFor Fy = true := by decide +kernel
theorem Df (hw : Kh Z a0) (W : oW Z) (sb va : Addr) (x : Value) (r : List Value) (h0 : Heap) (F : XQ Z h0 sb va 5 (QW 49 :: QW 48 :: QW 48 :: QW 48 :: QW 48 :: x :: r)) (b1 : r.length ≤ 100) (hya : Z.heap.size ≤ va) :
  KH l Z Fy jdk_68_method_43_code 3 none ⟨1, 0, 0, 34⟩ #[.ref sb, .int 1, .int 1] h0 (fun x => x = va ∨ h0.size ≤ x) (fun v h => v = none ∧ XQ Z h sb va 5 (QW 49 :: QW 48 :: QW 48 :: QW 48 :: QW 48 :: QW 48 :: r)) := by
 refine Xr hya Um J9 fun p e s m below meth c C hs => ?_
 refine K0 0 C (Yv.g 0) ?_
 refine KF 1 C (hw.g 112) Via.refl F.V (Yv.g 1) ?_
 refine K8 4 C (Yv.g 2) ?_
 refine K0 5 C (Yv.g 3) ?_
 refine KF 6 C (hw.g 114) Via.refl F.K (Yv.g 4) ?_
 refine XN 9 C (Yv.g 5) ?_
 refine K0 10 C (Yv.g 6) ?_
 refine KF 11 C (hw.g 112) Via.refl F.V (Yv.g 7) ?_
 refine K8 14 C (Yv.g 8) ?_
 refine K8 15 C (Yv.g 9) ?_
 refine Kg 16 C (Yv.g 10) ?_
 refine K0 17 C (Yv.g 11) ?_
 refine KF 18 C (hw.g 114) Via.refl F.K (Yv.g 12) ?_
 refine XN 21 C (Yv.g 13) ?_
 refine K0 22 C (Yv.g 14) ?_
 refine KF 23 C (hw.g 145) Via.refl F.N (Yv.g 15) ?_
 refine K8 26 C (Yv.g 16) ?_
 refine Kt 27 C (Yv.g 17) ?_
 refine K0 28 C (Yv.g 18) ?_
 refine KF 29 C (hw.g 114) Via.refl F.K (Yv.g 19) ?_
 refine XN 32 C (Yv.g 20) ?_
 refine Yt 33 C 1 2 4 F.A.1 F.A.1 (by decide) (by decide) (by decide) (by simp) (by simp) F.fit (Or.inl rfl) (hw.g 522) (hw.g 171) (hw.g 169) (hw.g 170) (Yv.g 21) rfl (by decide) (by decide) ?_
 intro h2 K2 hs2 D2
 have ns : ¬ (sb = va ∨ Array.size h0 ≤ sb) := fun q => q.elim (fun z => KR F.X (hw.g 97) F.A.1 z) (fun z => absurd F.X.lt (Nat.not_lt.mpr z))
 have K3 := Gq (P' := fun x => x = va ∨ h0.size ≤ x) K2 (fun x z => Or.inl z)
 have R2 : XQ Z h2 sb va 5 (QW 49 :: QW 48 :: QW 48 :: QW 48 :: QW 48 :: QW 48 :: r) := ⟨K3.exa F.X, K3.fld F.V ns, K3.fld F.K ns, K3.fld F.N ns, ⟨D2.eq rfl, K3.exa F.A.2⟩, fun v z => by simp only [List.mem_cons] at z; rcases z with rfl | rfl | rfl | rfl | rfl | rfl | z <;> first | exact YB.lv _ | exact F.B v (by simp [z])⟩
 refine Ka 36 C (Yv.g 22) (fun _ _ => ⟨rfl, R2⟩)
theorem Gy {bs bs' : List Value} {us : List Int32} {k : Nat} (h1 : bs.take us.length = us.map QW) (h2 : bs'.take bs.length = bs) (h3 : us.length ≤ bs.length) : bs' = us.map QW ++ bs'.drop us.length := by
 have e : bs'.take us.length = us.map QW := by rw [← h1, ← h2, List.take_take, Nat.min_eq_left h3]
 rw [← e, List.take_append_drop]
def LT : MethodName := ⟨"java/lang/AbstractStringBuilder", "insert", "(IC)Ljava/lang/AbstractStringBuilder;"⟩
theorem Tu : plainFor LT = true := by decide +kernel
theorem EJ (hw : Kh Z a0) (W : oW Z) (sb va : Addr) (h0 : Heap) (F : XJ Z h0 sb va [49, 48, 48, 48, 48]) (hya : Z.heap.size ≤ sb) (hyb : Z.heap.size ≤ va) :
  KH l Z LT jdk_68_method_51_code 3 (some (.object "java/lang/AbstractStringBuilder")) ⟨4, 1, 100, 91⟩ #[.ref sb, .int 1, .int 46] h0 (fun x => x = sb ∨ x = va ∨ h0.size ≤ x) (fun v h => v = some (.ref sb) ∧ ∃ va', (va' = va ∨ h0.size ≤ va') ∧ XJ Z h sb va' [49, 46, 48, 48, 48, 48]) := by
 refine Gk hya hyb Tu J9 fun p e s m below meth c C hs => ?_
 obtain ⟨⟨bs, R0, e0, l0, l1, l2⟩, hC⟩ := F
 replace R0 : XQ Z h0 sb va 5 bs := R0
 refine K8 0 C (Xs.g 0) ?_
 refine K0 1 C (Xs.g 1) ?_
 refine KF 2 C (hw.g 145) Via.refl R0.N (Xs.g 2) ?_
 refine KK 5 C (DO hw W _) (hw.g 510) (hw.g 511) (hw.g 110) (hw.g 512) HG (Xs.g 3) (argsL := [_, _]) rfl rfl rfl rfl ?_
 rintro _ _ ⟨rfl, rfl⟩ -
 refine K0 8 C (Xs.g 4) ?_
 refine K0 9 C (Xs.g 5) ?_
 refine KF 10 C (hw.g 145) Via.refl R0.N (Xs.g 6) ?_
 refine KD 13 C 1 (Xs.g 7) ?_
 refine Kg 14 C (Xs.g 8) ?_
 rw [show (5 : Int32) + 1 = Int32.ofNat 6 from by decide]
 refine Kf 15 C (TL hw W sb va _ bs 6 (by decide) l2 l1 _ R0 hya) (R0.X) (hw.g 147) (QB.of (hw.g 150 rfl) rfl) (hw.g 149) (hw.g 148) (hw.g 106) (hw.g 151) XO (Xs.g 9) (argsL := [_]) rfl rfl rfl rfl (hP := (fun x q r => r.elim (fun z => z ▸ (Or.inl rfl)) (fun z => C.new x (Nat.le_trans q z)))) ?_
 rintro _ h1 ⟨rfl, va', bs', R1, hva, m1, m2, m3, m4⟩ K1
 have hPv : va' = sb ∨ va' = va ∨ h0.size ≤ va' := hva.elim (fun z => Or.inr (Or.inl z)) (fun z => Or.inr (Or.inr z))
 have e5 := Gy (k := 0) e0 m4 l0
 obtain ⟨x, r, er⟩ : ∃ x r, bs'.drop 5 = x :: r := by
  match hq : bs'.drop 5 with
  | [] => exact absurd (congrArg List.length hq) (by simp; omega)
  | x :: r => exact ⟨x, r, rfl⟩
 replace e5 : bs' = QW 49 :: QW 48 :: QW 48 :: QW 48 :: QW 48 :: x :: r := by rw [e5]; exact congrArg _ er
 subst e5
 have hr : r.length ≤ 64 := by have := m2; simp at this; omega
 refine K0 18 C (Xs.g 10) ?_
 refine K8 19 C (Xs.g 11) ?_
 refine KD 20 C 1 (Xs.g 12) ?_
 refine Kf 21 C (Df hw W sb va' x r _ R1 (by omega) (C.young va' hPv)) (R1.X) (hw.g 517) (QB.of (hw.g 150 rfl) rfl) (hw.g 519) (hw.g 518) (hw.g 106) (hw.g 521) HG (Xs.g 13) (argsL := [_, _]) rfl rfl rfl rfl (hP := (fun x q r => r.elim (fun z => z ▸ hPv) (fun z => C.new x (Nat.le_trans q z)))) ?_
 rintro _ h2 ⟨rfl, R2⟩ -
 refine K0 24 C (Xs.g 14) ?_
 refine Ku 25 C (Xs.g 15) rfl ?_
 refine KF 26 C (hw.g 145) Via.refl R2.N (Xs.g 16) ?_
 refine KD 29 C 1 (Xs.g 17) ?_
 refine Kg 30 C (Xs.g 18) ?_
 refine Ke 31 C (hw.g 145) Via.refl R2.N R2.X (Or.inl (hw.g 146)) (hw.g 97) (ty := .int) (by decide) rfl rfl (Or.inl rfl) (Xs.g 19) ?_
 intro h3 W3
 have R3 : XQ Z h3 sb va' (6) ((QW 49 :: QW 48 :: QW 48 :: QW 48 :: QW 48 :: QW 48 :: r)) := ⟨R2.X.wr W3, (fo W3 R2.V (Or.inl (hw.g 113)) (Or.inl (hw.g 146))), (fo W3 R2.K (Or.inl (hw.g 115)) (Or.inl (hw.g 146))), Fld.same W3 R2.N, R2.A.other W3 (fun z => (KR R2.X (hw.g 97) R2.A.1) z.symm), R2.B⟩
 refine K0 34 C (Xs.g 20) ?_
 refine KI 35 C (T3 hw W sb va' _ _ _ R3) (R3.X) (hw.g 188) (hw.g 189) (QF (hw.g 191)) (hw.g 191) (hw.g 190) (hw.g 106) (hw.g 192) GY (Xs.g 21) (argsL := []) rfl rfl rfl rfl ?_
 rintro _ _ ⟨rfl, rfl⟩ -
 refine KW 38 C (Xs.g 22) ?_
 refine K8 41 C (Xs.g 23) ?_
 refine KK 42 C (Br hw 46 _ (by decide)) (hw.g 523) (hw.g 524) (hw.g 309) (hw.g 525) Jt (Xs.g 24) (argsL := [_]) rfl rfl rfl rfl ?_
 rintro _ _ ⟨rfl, rfl⟩ -
 refine KW 45 C (Xs.g 25) ?_
 refine K0 48 C (Xs.g 26) ?_
 refine KF 49 C (hw.g 112) Via.refl R3.V (Xs.g 27) ?_
 refine K8 52 C (Xs.g 28) ?_
 refine K8 53 C (Xs.g 29) ?_
 refine TU 54 C (Xs.g 30) ?_
 refine QD 55 C 1 R3.A.1 rfl (by simp) hPv (Xs.g 31) ?_
 intro h4 W4 D4
 have nv : sb ≠ va' := KR R3.X (hw.g 97) R3.A.1
 have R4 : XQ Z h4 sb va' 6 (QW 49 :: QW 46 :: QW 48 :: QW 48 :: QW 48 :: QW 48 :: r) := ⟨R3.X.wr W4, Fld.other W4 R3.V (Or.inl nv), Fld.other W4 R3.K (Or.inl nv), Fld.other W4 R3.N (Or.inl nv), R3.A.same W4, GU (i := 1) R3.B ⟨46, rfl⟩⟩
 refine KT 56 C 79 (Xs.g 32) ?_
 refine K0 79 C (Xs.g 33) ?_
 refine KL 80 C (Xs.g 34) (fun _ _ => ⟨rfl, va', hva, ⟨_, R4, rfl, by simp, by simp; omega, by simp⟩, by unfold XW QG; decide⟩)
def Fu : MethodName := ⟨"java/lang/StringBuilder", "insert", "(IC)Ljava/lang/StringBuilder;"⟩
theorem Ud : plainFor Fu = true := by decide +kernel
theorem DI (hw : Kh Z a0) (W : oW Z) (sb va : Addr) (h0 : Heap) (F : XJ Z h0 sb va [49, 48, 48, 48, 48]) (hya : Z.heap.size ≤ sb) (hyb : Z.heap.size ≤ va) :
  KH l Z Fu jdk_67_method_30_code 3 (some (.object "java/lang/StringBuilder")) ⟨5, 1, 100, 113⟩ #[.ref sb, .int 1, .int 46] h0 (fun x => x = sb ∨ x = va ∨ h0.size ≤ x) (fun v h => v = some (.ref sb) ∧ ∃ va', (va' = va ∨ h0.size ≤ va') ∧ XJ Z h sb va' [49, 46, 48, 48, 48, 48]) := by
 refine Gk hya hyb Ud J9 fun p e s m below meth c C hs => ?_
 refine K0 0 C (VU.g 0) ?_
 refine K8 1 C (VU.g 1) ?_
 refine K8 2 C (VU.g 2) ?_
 refine YD 3 C (EJ hw W sb va _ F hya hyb) (Ins.self F.X) (hw.g 506 rfl) (Wc (w := (⟨"java/lang/AbstractStringBuilder", "ensureCapacityInternal", "(I)V"⟩ : MethodName)) rfl (hw.g 150) (hw.g 507) (by decide)) (hw.g 507) (hw.g 129) (hw.g 106) (hw.g 509) Uo (VU.g 3) (argsL := [_, _]) rfl rfl rfl rfl (hP := (fun x q r => r.elim (fun z => z ▸ (Or.inl rfl)) (fun r => r.elim (fun z => z ▸ (Or.inr (Or.inl rfl))) (fun z => C.new x (Nat.le_trans q z))))) ?_
 rintro _ h1 ⟨rfl, va', hva, F1⟩ -
 refine QR 6 C (VU.g 4) rfl ?_
 refine K0 7 C (VU.g 5) ?_
 refine KL 8 C (VU.g 6) (fun _ _ => ⟨rfl, va', hva, F1⟩)
def BG : MethodName := ⟨"java/util/Arrays", "rangeCheck", "(III)V"⟩
theorem Rc : plainFor BG = true := by decide +kernel
theorem BX {x0 : Int32} {x1 : Int32} {x2 : Int32} (m : MethodId) : entryFrame m #[.int x0, .int x1, .int x2] 3 = oF m 0 [.val (.int x0), .val (.int x1), .val (.int x2)] [] := by (first | (simp [entryFrame, oF, mkF, argsToLocals, Value.category]; done) | rfl)
theorem DX (hw : Kh Z a0) (t : Nat) (h0 : Heap) (b1 : 5 ≤ t) (b2 : t ≤ 100) :
  KH l Z BG jdk_65_method_30_code 3 none ⟨0, 0, 0, 0⟩ #[.int (Int32.ofNat t), .int 2, .int 5] h0 (fun a => h0.size ≤ a) (fun v h => v = none ∧ h0 = h) := by
 refine Q9 Rc BX fun p e s m below meth c C hs => ?_
 refine K8 0 C (Gn.g 0) ?_
 refine K8 1 C (Gn.g 1) ?_
 refine KU 2 C 46 (Gn.g 2) ?_
 refine K8 46 C (Gn.g 3) ?_
 refine KQ 47 C 59 (Gn.g 4) ?_
 refine K8 59 C (Gn.g 5) ?_
 refine K8 60 C (Gn.g 6) ?_
 refine QK 61 C 73 (Gn.g 7) (fun hc61 => ?_) (fun hc61 => ?_)
 ·simp only [oC, Classical.not_not] at hc61
  refine Ka 73 C (Gn.g 8) (fun _ _ => ⟨rfl, rfl⟩)
 ·simp only [oC, Classical.not_not] at hc61
  exact False.elim (by simp only [Int32.lt_iff_toInt_lt, ← Int32.toInt_inj, Int32.toInt_add, Int32.toInt_sub, Qm, Int32.reduceToInt, Int.bmod_def] at hc61; omega)
def Wh : MethodName := ⟨"java/util/Arrays", "fill", "([BIIB)V"⟩
theorem TQ : plainFor Wh = true := by decide +kernel
theorem EC {x0 : Addr} {x1 : Int32} {x2 : Int32} {x3 : Int32} (m : MethodId) : entryFrame m #[.ref x0, .int x1, .int x2, .int x3] 5 = oF m 0 [.val (.ref x0), .val (.int x1), .val (.int x2), .val (.int x3), .unset] [] := by (first | (simp [entryFrame, oF, mkF, argsToLocals, Value.category]; done) | rfl)
theorem C_ (hw : Kh Z a0) (va : Addr) (x z1 z2 : Value) (r : List Value) (h0 : Heap) (A : XE Z h0 va .byte "[B" (QW 48 :: QW 46 :: x :: z1 :: z2 :: r)) (b1 : r.length ≤ 70) (hya : Z.heap.size ≤ va) :
  KH l Z Wh jdk_65_method_110_code 5 none ⟨1, 0, 0, 22⟩ #[.ref va, .int 2, .int 5, .int 48] h0 (fun x => x = va ∨ h0.size ≤ x) (fun v h => v = none ∧ XE Z h va .byte "[B" (QW 48 :: QW 46 :: QW 48 :: QW 48 :: QW 48 :: r)) := by
 refine Xr hya TQ EC fun p e s m below meth c C hs => ?_
 refine K0 0 C (Qg.g 0) ?_
 refine KZ 1 C A.1 (Qg.g 1) ?_
 refine K8 2 C (Qg.g 2) ?_
 refine K8 3 C (Qg.g 3) ?_
 refine KK 4 C (DX hw _ _ (by simp) (by simp; omega)) (hw.g 825) (hw.g 826) (hw.g 229) (hw.g 827) Vp (Qg.g 4) (argsL := [_, _, _]) rfl rfl rfl rfl ?_
 rintro _ _ ⟨rfl, rfl⟩ -
 refine K8 7 C (Qg.g 5) ?_
 refine KG 8 C (Ls' := [_, _, _, _, _]) (Qg.g 6) rfl ?_
 refine KE 10 C (Qg.g 7) ?_
 refine K8 12 C (Qg.g 8) ?_
 refine KS 13 C (Qg.g 9) ?_
 refine K0 16 C (Qg.g 10) ?_
 refine KE 17 C (Qg.g 11) ?_
 refine K8 19 C (Qg.g 12) ?_
 refine QD 20 C 2 A.1 rfl (by simp) (Or.inl rfl) (Qg.g 13) ?_
 intro h2 W0 D0
 replace A := A.same W0
 refine Q5 21 C (w := 1) (Ls' := [_, _, _, _, _]) (Qg.g 14) (by decide) rfl rfl ?_
 refine KT 24 C 10 (Qg.g 15) ?_
 refine KE 10 C (Qg.g 7) ?_
 refine K8 12 C (Qg.g 8) ?_
 refine KS 13 C (Qg.g 9) ?_
 refine K0 16 C (Qg.g 10) ?_
 refine KE 17 C (Qg.g 11) ?_
 refine K8 19 C (Qg.g 12) ?_
 refine QD 20 C 3 A.1 rfl (by simp) (Or.inl rfl) (Qg.g 13) ?_
 intro h3 W1 D1
 replace A := A.same W1
 refine Q5 21 C (w := 1) (Ls' := [_, _, _, _, _]) (Qg.g 14) (by decide) rfl rfl ?_
 refine KT 24 C 10 (Qg.g 15) ?_
 refine KE 10 C (Qg.g 7) ?_
 refine K8 12 C (Qg.g 8) ?_
 refine KS 13 C (Qg.g 9) ?_
 refine K0 16 C (Qg.g 10) ?_
 refine KE 17 C (Qg.g 11) ?_
 refine K8 19 C (Qg.g 12) ?_
 refine QD 20 C 4 A.1 rfl (by simp) (Or.inl rfl) (Qg.g 13) ?_
 intro h4 W2 D2
 replace A := A.same W2
 refine Q5 21 C (w := 1) (Ls' := [_, _, _, _, _]) (Qg.g 14) (by decide) rfl rfl ?_
 refine KT 24 C 10 (Qg.g 15) ?_
 refine KE 10 C (Qg.g 7) ?_
 refine K8 12 C (Qg.g 8) ?_
 refine KU 13 C 27 (Qg.g 9) ?_
 refine Ka 27 C (Qg.g 16) (fun _ _ => ⟨rfl, A⟩)
def BM : MethodName := ⟨"java/lang/AbstractStringBuilder", "repeat", "(CI)Ljava/lang/AbstractStringBuilder;"⟩
theorem Rv : plainFor BM = true := by decide +kernel
theorem CT {x0 : Addr} {x1 : Int32} {x2 : Int32} (m : MethodId) : entryFrame m #[.ref x0, .int x1, .int x2] 6 = oF m 0 [.val (.ref x0), .val (.int x1), .val (.int x2), .unset, .unset, .unset] [] := by (first | (simp [entryFrame, oF, mkF, argsToLocals, Value.category]; done) | rfl)
theorem CX (hw : Kh Z a0) (W : oW Z) (sb va : Addr) (h0 : Heap) (F : XJ Z h0 sb va [48, 46]) (hya : Z.heap.size ≤ sb) (hyb : Z.heap.size ≤ va) :
  KH l Z BM jdk_68_method_79_code 6 (some (.object "java/lang/AbstractStringBuilder")) ⟨4, 1, 100, 91⟩ #[.ref sb, .int 48, .int 3] h0 (fun x => x = sb ∨ x = va ∨ h0.size ≤ x) (fun v h => v = some (.ref sb) ∧ ∃ va', (va' = va ∨ h0.size ≤ va') ∧ XJ Z h sb va' [48, 46, 48, 48, 48]) := by
 refine Gk hya hyb Rv CT fun p e s m below meth c C hs => ?_
 obtain ⟨⟨bs, R0, e0, l0, l1, l2⟩, hC⟩ := F
 replace R0 : XQ Z h0 sb va 2 bs := R0
 refine K0 0 C (X4.g 0) ?_
 refine KF 1 C (hw.g 145) Via.refl R0.N (X4.g 1) ?_
 refine K8 4 C (X4.g 2) ?_
 refine Kg 5 C (X4.g 3) ?_
 rw [show (2 : Int32) + 3 = Int32.ofNat 5 from by decide]
 refine KO 6 C (Ls' := [_, _, _, _, _, _]) (X4.g 4) rfl ?_
 refine K0 7 C (X4.g 5) ?_
 refine K8 8 C (X4.g 6) ?_
 refine Kf 9 C (TL hw W sb va _ bs 5 (by decide) l2 l1 _ R0 hya) (R0.X) (hw.g 147) (QB.of (hw.g 150 rfl) rfl) (hw.g 149) (hw.g 148) (hw.g 106) (hw.g 151) XO (X4.g 7) (argsL := [_]) rfl rfl rfl rfl (hP := (fun x q r => r.elim (fun z => z ▸ (Or.inl rfl)) (fun z => C.new x (Nat.le_trans q z)))) ?_
 rintro _ h1 ⟨rfl, va', bs', R1, hva, m1, m2, m3, m4⟩ K1
 have hPv : va' = sb ∨ va' = va ∨ h0.size ≤ va' := hva.elim (fun z => Or.inr (Or.inl z)) (fun z => Or.inr (Or.inr z))
 have e5 := Gy (k := 0) e0 m4 l0
 obtain ⟨x, z1, z2, r, er⟩ : ∃ x z1 z2 r, bs'.drop 2 = x :: z1 :: z2 :: r := by
  match hq : bs'.drop 2 with
  | [] | [_] | [_, _] => exact absurd (congrArg List.length hq) (by simp; omega)
  | x :: z1 :: z2 :: r => exact ⟨x, z1, z2, r, rfl⟩
 replace e5 : bs' = (QW 48 :: QW 46 :: x :: z1 :: z2 :: r) := by rw [e5]; exact congrArg _ er
 subst e5
 have hr : r.length ≤ 65 := by have := m2; simp at this; omega
 refine K0 12 C (X4.g 8) ?_
 refine KI 13 C (T3 hw W sb va' _ _ _ R1) (R1.X) (hw.g 188) (hw.g 189) (QF (hw.g 191)) (hw.g 191) (hw.g 190) (hw.g 106) (hw.g 192) GY (X4.g 9) (argsL := []) rfl rfl rfl rfl ?_
 rintro _ _ ⟨rfl, rfl⟩ -
 refine KG 16 C (Ls' := [_, _, _, _, _, _]) (X4.g 10) rfl ?_
 refine KE 18 C (X4.g 11) ?_
 refine KW 20 C (X4.g 12) ?_
 refine K8 23 C (X4.g 13) ?_
 refine KK 24 C (Br hw 48 _ (by decide)) (hw.g 523) (hw.g 524) (hw.g 309) (hw.g 525) Jt (X4.g 14) (argsL := [_]) rfl rfl rfl rfl ?_
 rintro _ _ ⟨rfl, rfl⟩ -
 refine KW 27 C (X4.g 15) ?_
 refine K0 30 C (X4.g 16) ?_
 refine KF 31 C (hw.g 112) Via.refl R1.V (X4.g 17) ?_
 refine K0 34 C (X4.g 18) ?_
 refine KF 35 C (hw.g 145) Via.refl R1.N (X4.g 19) ?_
 refine K8 38 C (X4.g 20) ?_
 refine K8 39 C (X4.g 21) ?_
 refine TU 40 C (X4.g 22) ?_
 refine KK 41 C (C_ hw va' x z1 z2 r _ R1.A (by omega) (C.young va' hPv)) (hw.g 822) (hw.g 823) (hw.g 229) (hw.g 824) UH (X4.g 23) (argsL := [_, _, _, _]) rfl rfl rfl rfl (hP := (fun x q r => r.elim (fun z => z ▸ hPv) (fun z => C.new x (Nat.le_trans q z)))) ?_
 rintro _ h2 ⟨rfl, D2⟩ K2
 have ns : ¬ (sb = va' ∨ Array.size h1 ≤ sb) := fun q => q.elim (fun z => KR R1.X (hw.g 97) R1.A.1 z) (fun z => absurd R1.X.lt (Nat.not_lt.mpr z))
 have R2 : XQ Z h2 sb va' 2 (QW 48 :: QW 46 :: QW 48 :: QW 48 :: QW 48 :: r) := ⟨K2.exa R1.X, K2.fld R1.V ns, K2.fld R1.K ns, K2.fld R1.N ns, D2, fun v z => by simp only [List.mem_cons] at z; rcases z with rfl | rfl | rfl | rfl | rfl | z <;> first | exact YB.lv _ | exact R1.B v (by simp [z])⟩
 refine KT 44 C 84 (X4.g 24) ?_
 refine K0 84 C (X4.g 25) ?_
 refine K8 85 C (X4.g 26) ?_
 refine Ke 86 C (hw.g 145) Via.refl R2.N R2.X (Or.inl (hw.g 146)) (hw.g 97) (ty := .int) (by decide) rfl rfl (Or.inl rfl) (X4.g 27) ?_
 intro h3 W3
 have R3 : XQ Z h3 sb va' (5) ((QW 48 :: QW 46 :: QW 48 :: QW 48 :: QW 48 :: r)) := ⟨R2.X.wr W3, (fo W3 R2.V (Or.inl (hw.g 113)) (Or.inl (hw.g 146))), (fo W3 R2.K (Or.inl (hw.g 115)) (Or.inl (hw.g 146))), Fld.same W3 R2.N, R2.A.other W3 (fun z => (KR R2.X (hw.g 97) R2.A.1) z.symm), R2.B⟩
 refine K0 89 C (X4.g 28) ?_
 refine KL 90 C (X4.g 29) (fun _ _ => ⟨rfl, va', hva, ⟨_, R3, rfl, by simp, by simp; omega, by simp⟩, by unfold XW QG; decide⟩)
def Aa : MethodName := ⟨"java/lang/Character", "isBmpCodePoint", "(I)Z"⟩
theorem RU : plainFor Aa = true := by decide +kernel
theorem Cc (hw : Kh Z a0) (h0 : Heap) :
  KH l Z Aa jdk_89_method_12_code 1 (some .boolean) ⟨0, 0, 0, 0⟩ #[.int 48] h0 (fun a => h0.size ≤ a) (fun v h => v = some (.int 1) ∧ h0 = h) := by
 refine Q9 RU GN fun p e s m below meth c C hs => ?_
 refine K8 0 C (Ha.g 0) ?_
 refine KN 1 C 16 (Ha.g 1) ?_
 refine Q3 3 C (Ha.g 2) ?_
 refine KW 4 C (Ha.g 3) ?_
 refine KD 7 C 1 (Ha.g 4) ?_
 refine KT 8 C 12 (Ha.g 5) ?_
 refine KP 12 C (Ha.g 6) (by first | rfl | decide) (fun _ _ => ⟨rfl, rfl⟩)
def AM : MethodName := ⟨"java/lang/AbstractStringBuilder", "repeat", "(II)Ljava/lang/AbstractStringBuilder;"⟩
theorem Rn : plainFor AM = true := by decide +kernel
theorem Es (hw : Kh Z a0) (W : oW Z) (sb va : Addr) (h0 : Heap) (F : XJ Z h0 sb va [48, 46]) (hya : Z.heap.size ≤ sb) (hyb : Z.heap.size ≤ va) :
  KH l Z AM jdk_68_method_80_code 3 (some (.object "java/lang/AbstractStringBuilder")) ⟨5, 1, 100, 116⟩ #[.ref sb, .int 48, .int 3] h0 (fun x => x = sb ∨ x = va ∨ h0.size ≤ x) (fun v h => v = some (.ref sb) ∧ ∃ va', (va' = va ∨ h0.size ≤ va') ∧ XJ Z h sb va' [48, 46, 48, 48, 48]) := by
 refine Gk hya hyb Rn J9 fun p e s m below meth c C hs => ?_
 refine K8 0 C (Y0.g 0) ?_
 refine KQ 1 C 32 (Y0.g 1) ?_
 refine K8 32 C (Y0.g 2) ?_
 refine KQ 33 C 38 (Y0.g 3) ?_
 refine K8 38 C (Y0.g 4) ?_
 refine KK 39 C (Cc hw _) (hw.g 813) (hw.g 814) (hw.g 815) (hw.g 816) Vo (Y0.g 5) (argsL := [_]) rfl rfl rfl rfl ?_
 rintro _ _ ⟨rfl, rfl⟩ -
 refine KW 42 C (Y0.g 6) ?_
 refine K0 45 C (Y0.g 7) ?_
 refine K8 46 C (Y0.g 8) ?_
 refine W_ 47 C (Y0.g 9) ?_
 refine K8 48 C (Y0.g 10) ?_
 refine Kf 49 C (CX hw W sb va _ F hya hyb) (F.X) (hw.g 817) (QB.of (hw.g 150 rfl) rfl) (hw.g 819) (hw.g 818) (hw.g 106) (hw.g 821) Uj (Y0.g 11) (argsL := [_, _]) rfl rfl rfl rfl (hP := (fun x q r => r.elim (fun z => z ▸ (Or.inl rfl)) (fun r => r.elim (fun z => z ▸ (Or.inr (Or.inl rfl))) (fun z => C.new x (Nat.le_trans q z))))) ?_
 rintro _ h1 ⟨rfl, va', hva, F1⟩ -
 refine QR 52 C (Y0.g 12) rfl ?_
 refine KT 53 C 69 (Y0.g 13) ?_
 refine K0 69 C (Y0.g 14) ?_
 refine KL 70 C (Y0.g 15) (fun _ _ => ⟨rfl, va', hva, F1⟩)
def Ay : MethodName := ⟨"java/lang/StringBuilder", "repeat", "(II)Ljava/lang/StringBuilder;"⟩
theorem RW : plainFor Ay = true := by decide +kernel
theorem DB (hw : Kh Z a0) (W : oW Z) (sb va : Addr) (h0 : Heap) (F : XJ Z h0 sb va [48, 46]) (hya : Z.heap.size ≤ sb) (hyb : Z.heap.size ≤ va) :
  KH l Z Ay jdk_67_method_40_code 3 (some (.object "java/lang/StringBuilder")) ⟨6, 1, 100, 138⟩ #[.ref sb, .int 48, .int 3] h0 (fun x => x = sb ∨ x = va ∨ h0.size ≤ x) (fun v h => v = some (.ref sb) ∧ ∃ va', (va' = va ∨ h0.size ≤ va') ∧ XJ Z h sb va' [48, 46, 48, 48, 48]) := by
 refine Gk hya hyb RW J9 fun p e s m below meth c C hs => ?_
 refine K0 0 C (HI.g 0) ?_
 refine K8 1 C (HI.g 1) ?_
 refine K8 2 C (HI.g 2) ?_
 refine YD 3 C (Es hw W sb va _ F hya hyb) (Ins.self F.X) (hw.g 809 rfl) (Wc (w := (⟨"java/lang/AbstractStringBuilder", "ensureCapacityInternal", "(I)V"⟩ : MethodName)) rfl (hw.g 150) (hw.g 810) (by decide)) (hw.g 810) (hw.g 129) (hw.g 106) (hw.g 812) UU (HI.g 3) (argsL := [_, _]) rfl rfl rfl rfl (hP := (fun x q r => r.elim (fun z => z ▸ (Or.inl rfl)) (fun r => r.elim (fun z => z ▸ (Or.inr (Or.inl rfl))) (fun z => C.new x (Nat.le_trans q z))))) ?_
 rintro _ h1 ⟨rfl, va', hva, F1⟩ -
 refine QR 6 C (HI.g 4) rfl ?_
 refine K0 7 C (HI.g 5) ?_
 refine KL 8 C (HI.g 6) (fun _ _ => ⟨rfl, va', hva, F1⟩)
def Bi : MethodName := ⟨"java/lang/Integer", "numberOfTrailingZeros", "(I)I"⟩
theorem HS : plainFor Bi = true := by decide +kernel
theorem JB {x0 : Int32} (m : MethodId) : entryFrame m #[.int x0] 2 = oF m 0 [.val (.int x0), .unset] [] := by (first | (simp [entryFrame, oF, mkF, argsToLocals, Value.category]; done) | rfl)
theorem Hy (hw : Kh Z a0) (h0 : Heap) :
  KH l Z Bi jdk_33_method_48_code 2 (some .int) ⟨0, 0, 0, 0⟩ #[.int 1] h0 (fun a => h0.size ≤ a) (fun v h => v = some (.int 0) ∧ h0 = h) := by
 refine Q9 HS JB fun p e s m below meth c C hs => ?_
 refine K8 0 C (Qk.g 0) ?_
 refine KD 1 C (-1) (Qk.g 1) ?_
 refine HZ 2 C (Qk.g 2) ?_
 refine K8 3 C (Qk.g 3) ?_
 refine KD 4 C 1 (Qk.g 4) ?_
 refine Kt 5 C (Qk.g 5) ?_
 refine QA 6 C (Qk.g 6) ?_
 refine KO 7 C (Ls' := [_, _]) (Qk.g 7) rfl ?_
 refine K8 8 C (Qk.g 8) ?_
 refine KW 9 C (Qk.g 9) ?_
 refine K8 12 C (Qk.g 10) ?_
 refine KN 13 C 32 (Qk.g 11) ?_
 refine QA 15 C (Qk.g 12) ?_
 refine KP 16 C (Qk.g 13) rfl (fun _ _ => ⟨by first | rfl | decide, rfl⟩)
theorem Tf (hw : Kh Z a0) (h0 : Heap) :
  KH l Z Bi jdk_33_method_48_code 2 (some .int) ⟨0, 0, 0, 0⟩ #[.int 2] h0 (fun a => h0.size ≤ a) (fun v h => v = some (.int 1) ∧ h0 = h) := by
 refine Q9 HS JB fun p e s m below meth c C hs => ?_
 refine K8 0 C (Qk.g 0) ?_
 refine KD 1 C (-1) (Qk.g 1) ?_
 refine HZ 2 C (Qk.g 2) ?_
 refine K8 3 C (Qk.g 3) ?_
 refine KD 4 C 1 (Qk.g 4) ?_
 refine Kt 5 C (Qk.g 5) ?_
 refine QA 6 C (Qk.g 6) ?_
 refine KO 7 C (Ls' := [_, _]) (Qk.g 7) rfl ?_
 refine K8 8 C (Qk.g 8) ?_
 refine KQ 9 C 17 (Qk.g 9) ?_
 refine KD 17 C 1 (Qk.g 14) ?_
 refine KO 18 C (Ls' := [_, _]) (Qk.g 15) rfl ?_
 refine K8 19 C (Qk.g 16) ?_
 refine Qq 20 C (hw.g 588) (Qk.g 17) ?_
 refine KU 23 C 34 (Qk.g 18) ?_
 refine K8 34 C (Qk.g 19) ?_
 refine Xe 35 C 256 (Qk.g 20) ?_
 refine KU 38 C 49 (Qk.g 21) ?_
 refine K8 49 C (Qk.g 22) ?_
 refine KN 50 C 16 (Qk.g 23) ?_
 refine KU 52 C 62 (Qk.g 24) ?_
 refine K8 62 C (Qk.g 25) ?_
 refine KD 63 C 4 (Qk.g 26) ?_
 refine KU 64 C 74 (Qk.g 27) ?_
 refine K8 74 C (Qk.g 28) ?_
 refine K8 75 C (Qk.g 29) ?_
 refine KD 76 C 1 (Qk.g 30) ?_
 refine Q3 77 C (Qk.g 31) ?_
 refine Kg 78 C (Qk.g 32) ?_
 refine KP 79 C (Qk.g 33) rfl (fun _ _ => ⟨by first | rfl | decide, rfl⟩)
theorem BF (hw : Kh Z a0) (h0 : Heap) :
  KH l Z Bi jdk_33_method_48_code 2 (some .int) ⟨0, 0, 0, 0⟩ #[.int 4] h0 (fun a => h0.size ≤ a) (fun v h => v = some (.int 2) ∧ h0 = h) := by
 refine Q9 HS JB fun p e s m below meth c C hs => ?_
 refine K8 0 C (Qk.g 0) ?_
 refine KD 1 C (-1) (Qk.g 1) ?_
 refine HZ 2 C (Qk.g 2) ?_
 refine K8 3 C (Qk.g 3) ?_
 refine KD 4 C 1 (Qk.g 4) ?_
 refine Kt 5 C (Qk.g 5) ?_
 refine QA 6 C (Qk.g 6) ?_
 refine KO 7 C (Ls' := [_, _]) (Qk.g 7) rfl ?_
 refine K8 8 C (Qk.g 8) ?_
 refine KQ 9 C 17 (Qk.g 9) ?_
 refine KD 17 C 1 (Qk.g 14) ?_
 refine KO 18 C (Ls' := [_, _]) (Qk.g 15) rfl ?_
 refine K8 19 C (Qk.g 16) ?_
 refine Qq 20 C (hw.g 588) (Qk.g 17) ?_
 refine KU 23 C 34 (Qk.g 18) ?_
 refine K8 34 C (Qk.g 19) ?_
 refine Xe 35 C 256 (Qk.g 20) ?_
 refine KU 38 C 49 (Qk.g 21) ?_
 refine K8 49 C (Qk.g 22) ?_
 refine KN 50 C 16 (Qk.g 23) ?_
 refine KU 52 C 62 (Qk.g 24) ?_
 refine K8 62 C (Qk.g 25) ?_
 refine KD 63 C 4 (Qk.g 26) ?_
 refine KU 64 C 74 (Qk.g 27) ?_
 refine K8 74 C (Qk.g 28) ?_
 refine K8 75 C (Qk.g 29) ?_
 refine KD 76 C 1 (Qk.g 30) ?_
 refine Q3 77 C (Qk.g 31) ?_
 refine Kg 78 C (Qk.g 32) ?_
 refine KP 79 C (Qk.g 33) rfl (fun _ _ => ⟨by first | rfl | decide, rfl⟩)
def DK : MethodName := ⟨"java/lang/Integer", "bitCount", "(I)I"⟩
theorem Jg : plainFor DK = true := by decide +kernel
theorem CL (hw : Kh Z a0) (h0 : Heap) :
  KH l Z DK jdk_33_method_49_code 1 (some .int) ⟨0, 0, 0, 0⟩ #[.int 1] h0 (fun a => h0.size ≤ a) (fun v h => v = some (.int 1) ∧ h0 = h) := by
 refine Q9 Jg GN fun p e s m below meth c C hs => ?_
 refine K8 0 C (QZ.g 0) ?_
 refine K8 1 C (QZ.g 1) ?_
 refine KD 2 C 1 (QZ.g 2) ?_
 refine Q3 3 C (QZ.g 3) ?_
 refine Qq 4 C (hw.g 580) (QZ.g 4) ?_
 refine QA 7 C (QZ.g 5) ?_
 refine Kt 8 C (QZ.g 6) ?_
 refine KO 9 C (Ls' := [_]) (QZ.g 7) rfl ?_
 refine K8 10 C (QZ.g 8) ?_
 refine Qq 11 C (hw.g 581) (QZ.g 9) ?_
 refine QA 14 C (QZ.g 10) ?_
 refine K8 15 C (QZ.g 11) ?_
 refine KD 16 C 2 (QZ.g 12) ?_
 refine Q3 17 C (QZ.g 13) ?_
 refine Qq 18 C (hw.g 581) (QZ.g 14) ?_
 refine QA 21 C (QZ.g 15) ?_
 refine Kg 22 C (QZ.g 16) ?_
 refine KO 23 C (Ls' := [_]) (QZ.g 17) rfl ?_
 refine K8 24 C (QZ.g 18) ?_
 refine K8 25 C (QZ.g 19) ?_
 refine KD 26 C 4 (QZ.g 20) ?_
 refine Q3 27 C (QZ.g 21) ?_
 refine Kg 28 C (QZ.g 22) ?_
 refine Qq 29 C (hw.g 582) (QZ.g 23) ?_
 refine QA 32 C (QZ.g 24) ?_
 refine KO 33 C (Ls' := [_]) (QZ.g 25) rfl ?_
 refine K8 34 C (QZ.g 26) ?_
 refine K8 35 C (QZ.g 27) ?_
 refine KN 36 C 8 (QZ.g 28) ?_
 refine Q3 38 C (QZ.g 29) ?_
 refine Kg 39 C (QZ.g 30) ?_
 refine KO 40 C (Ls' := [_]) (QZ.g 31) rfl ?_
 refine K8 41 C (QZ.g 32) ?_
 refine K8 42 C (QZ.g 33) ?_
 refine KN 43 C 16 (QZ.g 34) ?_
 refine Q3 45 C (QZ.g 35) ?_
 refine Kg 46 C (QZ.g 36) ?_
 refine KO 47 C (Ls' := [_]) (QZ.g 37) rfl ?_
 refine K8 48 C (QZ.g 38) ?_
 refine KN 49 C 63 (QZ.g 39) ?_
 refine QA 51 C (QZ.g 40) ?_
 refine KP 52 C (QZ.g 41) rfl (fun _ _ => ⟨by first | rfl | decide, rfl⟩)
theorem Dx (hw : Kh Z a0) (h0 : Heap) :
  KH l Z DK jdk_33_method_49_code 1 (some .int) ⟨0, 0, 0, 0⟩ #[.int 2] h0 (fun a => h0.size ≤ a) (fun v h => v = some (.int 1) ∧ h0 = h) := by
 refine Q9 Jg GN fun p e s m below meth c C hs => ?_
 refine K8 0 C (QZ.g 0) ?_
 refine K8 1 C (QZ.g 1) ?_
 refine KD 2 C 1 (QZ.g 2) ?_
 refine Q3 3 C (QZ.g 3) ?_
 refine Qq 4 C (hw.g 580) (QZ.g 4) ?_
 refine QA 7 C (QZ.g 5) ?_
 refine Kt 8 C (QZ.g 6) ?_
 refine KO 9 C (Ls' := [_]) (QZ.g 7) rfl ?_
 refine K8 10 C (QZ.g 8) ?_
 refine Qq 11 C (hw.g 581) (QZ.g 9) ?_
 refine QA 14 C (QZ.g 10) ?_
 refine K8 15 C (QZ.g 11) ?_
 refine KD 16 C 2 (QZ.g 12) ?_
 refine Q3 17 C (QZ.g 13) ?_
 refine Qq 18 C (hw.g 581) (QZ.g 14) ?_
 refine QA 21 C (QZ.g 15) ?_
 refine Kg 22 C (QZ.g 16) ?_
 refine KO 23 C (Ls' := [_]) (QZ.g 17) rfl ?_
 refine K8 24 C (QZ.g 18) ?_
 refine K8 25 C (QZ.g 19) ?_
 refine KD 26 C 4 (QZ.g 20) ?_
 refine Q3 27 C (QZ.g 21) ?_
 refine Kg 28 C (QZ.g 22) ?_
 refine Qq 29 C (hw.g 582) (QZ.g 23) ?_
 refine QA 32 C (QZ.g 24) ?_
 refine KO 33 C (Ls' := [_]) (QZ.g 25) rfl ?_
 refine K8 34 C (QZ.g 26) ?_
 refine K8 35 C (QZ.g 27) ?_
 refine KN 36 C 8 (QZ.g 28) ?_
 refine Q3 38 C (QZ.g 29) ?_
 refine Kg 39 C (QZ.g 30) ?_
 refine KO 40 C (Ls' := [_]) (QZ.g 31) rfl ?_
 refine K8 41 C (QZ.g 32) ?_
 refine K8 42 C (QZ.g 33) ?_
 refine KN 43 C 16 (QZ.g 34) ?_
 refine Q3 45 C (QZ.g 35) ?_
 refine Kg 46 C (QZ.g 36) ?_
 refine KO 47 C (Ls' := [_]) (QZ.g 37) rfl ?_
 refine K8 48 C (QZ.g 38) ?_
 refine KN 49 C 63 (QZ.g 39) ?_
 refine QA 51 C (QZ.g 40) ?_
 refine KP 52 C (QZ.g 41) rfl (fun _ _ => ⟨by first | rfl | decide, rfl⟩)
def TE : MethodName := ⟨"java/lang/Integer", "numberOfLeadingZeros", "(I)I"⟩
theorem GW : plainFor TE = true := by decide +kernel
theorem AQ (hw : Kh Z a0) (h0 : Heap) :
  KH l Z TE jdk_33_method_47_code 2 (some .int) ⟨0, 0, 0, 0⟩ #[.int 1] h0 (fun a => h0.size ≤ a) (fun v h => v = some (.int 31) ∧ h0 = h) := by
 refine Q9 GW JB fun p e s m below meth c C hs => ?_
 refine K8 0 C (Q2.g 0) ?_
 refine KQ 1 C 15 (Q2.g 1) ?_
 refine KN 15 C 31 (Q2.g 2) ?_
 refine KO 17 C (Ls' := [_, _]) (Q2.g 3) rfl ?_
 refine K8 18 C (Q2.g 4) ?_
 refine Qq 19 C (hw.g 588) (Q2.g 5) ?_
 refine KU 22 C 33 (Q2.g 6) ?_
 refine K8 33 C (Q2.g 7) ?_
 refine Xe 34 C 256 (Q2.g 8) ?_
 refine KU 37 C 48 (Q2.g 9) ?_
 refine K8 48 C (Q2.g 10) ?_
 refine KN 49 C 16 (Q2.g 11) ?_
 refine KU 51 C 61 (Q2.g 12) ?_
 refine K8 61 C (Q2.g 13) ?_
 refine KD 62 C 4 (Q2.g 14) ?_
 refine KU 63 C 73 (Q2.g 15) ?_
 refine K8 73 C (Q2.g 16) ?_
 refine K8 74 C (Q2.g 17) ?_
 refine KD 75 C 1 (Q2.g 18) ?_
 refine Q3 76 C (Q2.g 19) ?_
 refine Kt 77 C (Q2.g 20) ?_
 refine KP 78 C (Q2.g 21) rfl (fun _ _ => ⟨by first | rfl | decide, rfl⟩)
def RC : MethodName := ⟨"java/math/BigInteger", "bitLengthForInt", "(I)I"⟩
theorem Gb : plainFor RC = true := by decide +kernel
theorem Ev (hw : Kh Z a0) (h0 : Heap) :
  KH l Z RC jdk_2097_method_74_code 1 (some .int) ⟨1, 0, 0, 21⟩ #[.int 1] h0 (fun a => h0.size ≤ a) (fun v h => v = some (.int 1) ∧ h0 = h) := by
 refine Q9 Gb GN fun p e s m below meth c C hs => ?_
 refine KN 0 C 32 (Y7.g 0) ?_
 refine K8 2 C (Y7.g 1) ?_
 refine KK 3 C (AQ hw _) (hw.g 729) (hw.g 730) (hw.g 198) (hw.g 731) XY (Y7.g 2) (argsL := [_]) rfl rfl rfl rfl ?_
 rintro _ _ ⟨rfl, rfl⟩ -
 refine Kt 6 C (Y7.g 3) ?_
 refine KP 7 C (Y7.g 4) rfl (fun _ _ => ⟨by first | rfl | decide, rfl⟩)
theorem BQ (hw : Kh Z a0) (h0 : Heap) :
  KH l Z TE jdk_33_method_47_code 2 (some .int) ⟨0, 0, 0, 0⟩ #[.int 2] h0 (fun a => h0.size ≤ a) (fun v h => v = some (.int 30) ∧ h0 = h) := by
 refine Q9 GW JB fun p e s m below meth c C hs => ?_
 refine K8 0 C (Q2.g 0) ?_
 refine KQ 1 C 15 (Q2.g 1) ?_
 refine KN 15 C 31 (Q2.g 2) ?_
 refine KO 17 C (Ls' := [_, _]) (Q2.g 3) rfl ?_
 refine K8 18 C (Q2.g 4) ?_
 refine Qq 19 C (hw.g 588) (Q2.g 5) ?_
 refine KU 22 C 33 (Q2.g 6) ?_
 refine K8 33 C (Q2.g 7) ?_
 refine Xe 34 C 256 (Q2.g 8) ?_
 refine KU 37 C 48 (Q2.g 9) ?_
 refine K8 48 C (Q2.g 10) ?_
 refine KN 49 C 16 (Q2.g 11) ?_
 refine KU 51 C 61 (Q2.g 12) ?_
 refine K8 61 C (Q2.g 13) ?_
 refine KD 62 C 4 (Q2.g 14) ?_
 refine KU 63 C 73 (Q2.g 15) ?_
 refine K8 73 C (Q2.g 16) ?_
 refine K8 74 C (Q2.g 17) ?_
 refine KD 75 C 1 (Q2.g 18) ?_
 refine Q3 76 C (Q2.g 19) ?_
 refine Kt 77 C (Q2.g 20) ?_
 refine KP 78 C (Q2.g 21) rfl (fun _ _ => ⟨by first | rfl | decide, rfl⟩)
theorem EN (hw : Kh Z a0) (h0 : Heap) :
  KH l Z RC jdk_2097_method_74_code 1 (some .int) ⟨1, 0, 0, 21⟩ #[.int 2] h0 (fun a => h0.size ≤ a) (fun v h => v = some (.int 2) ∧ h0 = h) := by
 refine Q9 Gb GN fun p e s m below meth c C hs => ?_
 refine KN 0 C 32 (Y7.g 0) ?_
 refine K8 2 C (Y7.g 1) ?_
 refine KK 3 C (BQ hw _) (hw.g 729) (hw.g 730) (hw.g 198) (hw.g 731) XY (Y7.g 2) (argsL := [_]) rfl rfl rfl rfl ?_
 rintro _ _ ⟨rfl, rfl⟩ -
 refine Kt 6 C (Y7.g 3) ?_
 refine KP 7 C (Y7.g 4) rfl (fun _ _ => ⟨by first | rfl | decide, rfl⟩)
theorem Wf (hw : Kh Z a0) (h0 : Heap) :
  KH l Z TE jdk_33_method_47_code 2 (some .int) ⟨0, 0, 0, 0⟩ #[.int 4] h0 (fun a => h0.size ≤ a) (fun v h => v = some (.int 29) ∧ h0 = h) := by
 refine Q9 GW JB fun p e s m below meth c C hs => ?_
 refine K8 0 C (Q2.g 0) ?_
 refine KQ 1 C 15 (Q2.g 1) ?_
 refine KN 15 C 31 (Q2.g 2) ?_
 refine KO 17 C (Ls' := [_, _]) (Q2.g 3) rfl ?_
 refine K8 18 C (Q2.g 4) ?_
 refine Qq 19 C (hw.g 588) (Q2.g 5) ?_
 refine KU 22 C 33 (Q2.g 6) ?_
 refine K8 33 C (Q2.g 7) ?_
 refine Xe 34 C 256 (Q2.g 8) ?_
 refine KU 37 C 48 (Q2.g 9) ?_
 refine K8 48 C (Q2.g 10) ?_
 refine KN 49 C 16 (Q2.g 11) ?_
 refine KU 51 C 61 (Q2.g 12) ?_
 refine K8 61 C (Q2.g 13) ?_
 refine KD 62 C 4 (Q2.g 14) ?_
 refine KS 63 C (Q2.g 15) ?_
 refine Q5 66 C (w := (-2)) (Ls' := [_, _]) (Q2.g 22) (by decide) rfl rfl ?_
 refine K8 69 C (Q2.g 23) ?_
 refine KD 70 C 2 (Q2.g 24) ?_
 refine Q3 71 C (Q2.g 25) ?_
 refine KO 72 C (Ls' := [_, _]) (Q2.g 26) rfl ?_
 refine K8 73 C (Q2.g 16) ?_
 refine K8 74 C (Q2.g 17) ?_
 refine KD 75 C 1 (Q2.g 18) ?_
 refine Q3 76 C (Q2.g 19) ?_
 refine Kt 77 C (Q2.g 20) ?_
 refine KP 78 C (Q2.g 21) rfl (fun _ _ => ⟨by first | rfl | decide, rfl⟩)
theorem Co (hw : Kh Z a0) (h0 : Heap) :
  KH l Z RC jdk_2097_method_74_code 1 (some .int) ⟨1, 0, 0, 21⟩ #[.int 4] h0 (fun a => h0.size ≤ a) (fun v h => v = some (.int 3) ∧ h0 = h) := by
 refine Q9 Gb GN fun p e s m below meth c C hs => ?_
 refine KN 0 C 32 (Y7.g 0) ?_
 refine K8 2 C (Y7.g 1) ?_
 refine KK 3 C (Wf hw _) (hw.g 729) (hw.g 730) (hw.g 198) (hw.g 731) XY (Y7.g 2) (argsL := [_]) rfl rfl rfl rfl ?_
 rintro _ _ ⟨rfl, rfl⟩ -
 refine Kt 6 C (Y7.g 3) ?_
 refine KP 7 C (Y7.g 4) rfl (fun _ _ => ⟨by first | rfl | decide, rfl⟩)
theorem ET (hw : Kh Z a0) (x_ r_ : Int32) (h0 : Heap) (hq : (x_ = 1 ∧ r_ = 0) ∨ (x_ = 2 ∧ r_ = 1) ∨ (x_ = 4 ∧ r_ = 2)) :
  KH l Z Bi jdk_33_method_48_code 2 (some .int) ⟨0, 0, 0, 0⟩ #[.int x_] h0 (fun a => h0.size ≤ a) (fun v h => v = some (.int r_) ∧ h0 = h) := by
 rcases hq with ⟨rfl, rfl⟩ | ⟨rfl, rfl⟩ | ⟨rfl, rfl⟩
 ·exact Hy hw h0
 ·exact Tf hw h0
 ·exact BF hw h0
theorem LO (hw : Kh Z a0) (x_ r_ : Int32) (h0 : Heap) (hq : (x_ = 1 ∧ r_ = 1) ∨ (x_ = 2 ∧ r_ = 2) ∨ (x_ = 4 ∧ r_ = 3)) :
  KH l Z RC jdk_2097_method_74_code 1 (some .int) ⟨1, 0, 0, 21⟩ #[.int x_] h0 (fun a => h0.size ≤ a) (fun v h => v = some (.int r_) ∧ h0 = h) := by
 rcases hq with ⟨rfl, rfl⟩ | ⟨rfl, rfl⟩ | ⟨rfl, rfl⟩
 ·exact Ev hw h0
 ·exact EN hw h0
 ·exact Co hw h0
def Fj : MethodName := ⟨"java/lang/Number", "<init>", "()V"⟩
theorem Ur : plainFor Fj = true := by decide +kernel
theorem Ux (hw : Kh Z a0) (a : Addr) (h0 : Heap) :
  KH l Z Fj jdk_18_method_1_code 1 none ⟨1, 0, 0, 34⟩ #[.ref a] h0 (fun a => h0.size ≤ a) (fun v h => v = none ∧ h0 = h) := by
 refine Q9 Ur YL fun p e s m below meth c C hs => ?_
 refine K0 0 C (D9.g 0) ?_
 refine X5 1 C (hw.g 391) (hw.g 8) (hw.g 9) (D9.g 1) rfl (by decide) (Nat.le_of_ble_eq_true rfl) ?_
 refine Ka 4 C (D9.g 2) (fun _ _ => ⟨rfl, rfl⟩)
def AL : MethodName := ⟨"java/math/BigInteger", "<init>", "([II)V"⟩
theorem Rm : plainFor AL = true := by decide +kernel
theorem Rf (hw : Kh Z a0) (a ma : Addr) (v_ : Nat) (h0 : Heap) (hv : v_ ≠ 0) (A : XE Z h0 ma .int "[I" (GZ v_)) (hya : Z.heap.size ≤ a) (X : Exa Z h0 a "java/math/BigInteger") (FS : Fld Z h0 a "java/math/BigInteger" "signum" "I" (.int 0)) (FM : Fld Z h0 a "java/math/BigInteger" "mag" "[I" .null) :
  KH l Z AL jdk_2097_method_25_code 3 none ⟨2, 0, 0, 54⟩ #[.ref a, .ref ma, .int 1] h0 (fun x => x = a ∨ h0.size ≤ x) (fun v h => v = none ∧ QQ Z h a v_) := by
 refine Xr hya Rm AU fun p e s m below meth c C hs => ?_
 have hl : (GZ v_).length = 1 := by simp [GZ, hv]
 refine K0 0 C (Xy.g 0) ?_
 refine KV 1 C (Ux hw a _) (hw.g 603) (hw.g 386) (hw.g 389) (hw.g 390) QL (Xy.g 1) (argsL := []) rfl rfl rfl rfl ?_
 rintro _ _ ⟨rfl, rfl⟩ -
 refine K0 4 C (Xy.g 2) ?_
 refine K0 5 C (Xy.g 3) ?_
 refine KZ 6 C A.1 (Xy.g 4) ?_
 rw [hl]
 refine KQ 7 C 14 (Xy.g 5) ?_
 refine K8 14 C (Xy.g 6) ?_
 refine Ke 15 C (hw.g 377) Via.refl FS X (Or.inr ⟨(hw.g 378), rfl, rfl⟩) (hw.g 584) (ty := .int) (by decide) rfl rfl (Or.inl rfl) (Xy.g 7) ?_
 intro h1 W1
 replace FS := Fld.same W1 FS
 replace FM := (fo W1 FM (Or.inr (hw.g 410)) (Or.inr (hw.g 378)))
 replace A := A.other W1 (fun z => (KR X (hw.g 584) A.1) z.symm)
 replace X := X.wr W1
 refine K0 18 C (Xy.g 8) ?_
 refine K0 19 C (Xy.g 9) ?_
 refine Ke 20 C (hw.g 573) Via.refl FM X (Or.inr ⟨(hw.g 410), rfl, rfl⟩) (hw.g 584) (ty := (.array .int)) (by decide) rfl rfl (Or.inl rfl) (Xy.g 10) ?_
 intro h2 W2
 replace FS := (fo W2 FS (Or.inr (hw.g 378)) (Or.inr (hw.g 410)))
 replace FM := Fld.same W2 FM
 replace A := A.other W2 (fun z => (KR X (hw.g 584) A.1) z.symm)
 replace X := X.wr W2
 refine K0 23 C (Xy.g 11) ?_
 refine KF 24 C (hw.g 573) Via.refl FM (Xy.g 12) ?_
 refine KZ 27 C A.1 (Xy.g 13) ?_
 rw [hl]
 refine XF 28 C (hw.g 605) (Xy.g 14) ?_
 refine KU 30 C 37 (Xy.g 15) ?_
 refine Ka 37 C (Xy.g 16) (fun _ _ => ⟨rfl, X, by rw [if_neg hv]; exact FS, ma, FM, A⟩)
def US : MethodName := ⟨"java/math/BigInteger", "valueOf", "(J)Ljava/math/BigInteger;"⟩
theorem GA : plainFor US = true := by decide +kernel
theorem Gw {x0 : Int64} (m : MethodId) : entryFrame m #[.long x0] 2 = oF m 0 [.val (.long x0), .second] [] := by (first | (simp [entryFrame, oF, mkF, argsToLocals, Value.category]; done) | rfl)
theorem Dw (hw : Kh Z a0) (W : oW Z) (h0 : Heap) :
  KH l Z US jdk_2097_method_29_code 2 (some (.object "java/math/BigInteger")) ⟨0, 0, 0, 0⟩ #[.long 0] h0 (fun a => h0.size ≤ a) (fun v h => ∃ a, v = some (.ref a) ∧ QQ Z h a 0 ∧ h0 = h) := by
 refine Q9 GA Gw fun p e s m below meth c C hs => ?_
 obtain ⟨q, Sq, Fq⟩ := W.zero
 refine Qc C (fun hE hle _ => ?_)
 refine KJ 0 C (Ql.g 0) ?_
 refine KX 1 C 0 (Ql.g 1) ?_
 refine Kc 2 C (Ql.g 2) ?_
 refine KW 3 C (Ql.g 3) ?_
 refine Ko 6 C (hw.g 550) Via.refl Sq (Ql.g 4) ?_
 refine KL 9 C (Ql.g 5) (fun _ _ => ⟨q, rfl, Fq.ext hE, rfl⟩)
theorem Do (hw : Kh Z a0) (W : oW Z) (h0 : Heap) :
  KH l Z US jdk_2097_method_29_code 2 (some (.object "java/math/BigInteger")) ⟨0, 0, 0, 0⟩ #[.long 1] h0 (fun a => h0.size ≤ a) (fun v h => ∃ a, v = some (.ref a) ∧ QQ Z h a 1 ∧ h0 = h) := by
 refine Q9 GA Gw fun p e s m below meth c C hs => ?_
 obtain ⟨d, vs, Sd, A, hvl, hvs⟩ := W.pos
 obtain ⟨q, hq, Fq⟩ := hvs 1 (by decide) (by decide)
 refine Qc C (fun hE hle _ => ?_)
 refine KJ 0 C (Ql.g 0) ?_
 refine KX 1 C 0 (Ql.g 1) ?_
 refine Kc 2 C (Ql.g 2) ?_
 refine KQ 3 C 10 (Ql.g 3) ?_
 refine KJ 10 C (Ql.g 6) ?_
 refine KX 11 C 0 (Ql.g 7) ?_
 refine Kc 12 C (Ql.g 8) ?_
 refine KW 13 C (Ql.g 9) ?_
 refine KJ 16 C (Ql.g 10) ?_
 refine Kq 17 C (hw.g 367) (Ql.g 11) ?_
 refine Kc 20 C (Ql.g 12) ?_
 refine KW 21 C (Ql.g 13) ?_
 refine Ko 24 C (hw.g 368) Via.refl Sd (Ql.g 14) ?_
 refine KJ 27 C (Ql.g 15) ?_
 refine Xm 28 C (Ql.g 16) ?_
 refine XM 29 C (v := .ref q) 1 (A.ext hE) rfl (by decide) hq (Ql.g 17) ?_
 refine KL 30 C (Ql.g 18) (fun _ _ => ⟨q, rfl, Fq.ext hE, rfl⟩)
theorem Cp (hw : Kh Z a0) (W : oW Z) (h0 : Heap) :
  KH l Z US jdk_2097_method_29_code 2 (some (.object "java/math/BigInteger")) ⟨0, 0, 0, 0⟩ #[.long 2] h0 (fun a => h0.size ≤ a) (fun v h => ∃ a, v = some (.ref a) ∧ QQ Z h a 2 ∧ h0 = h) := by
 refine Q9 GA Gw fun p e s m below meth c C hs => ?_
 obtain ⟨d, vs, Sd, A, hvl, hvs⟩ := W.pos
 obtain ⟨q, hq, Fq⟩ := hvs 2 (by decide) (by decide)
 refine Qc C (fun hE hle _ => ?_)
 refine KJ 0 C (Ql.g 0) ?_
 refine KX 1 C 0 (Ql.g 1) ?_
 refine Kc 2 C (Ql.g 2) ?_
 refine KQ 3 C 10 (Ql.g 3) ?_
 refine KJ 10 C (Ql.g 6) ?_
 refine KX 11 C 0 (Ql.g 7) ?_
 refine Kc 12 C (Ql.g 8) ?_
 refine KW 13 C (Ql.g 9) ?_
 refine KJ 16 C (Ql.g 10) ?_
 refine Kq 17 C (hw.g 367) (Ql.g 11) ?_
 refine Kc 20 C (Ql.g 12) ?_
 refine KW 21 C (Ql.g 13) ?_
 refine Ko 24 C (hw.g 368) Via.refl Sd (Ql.g 14) ?_
 refine KJ 27 C (Ql.g 15) ?_
 refine Xm 28 C (Ql.g 16) ?_
 refine XM 29 C (v := .ref q) 2 (A.ext hE) rfl (by decide) hq (Ql.g 17) ?_
 refine KL 30 C (Ql.g 18) (fun _ _ => ⟨q, rfl, Fq.ext hE, rfl⟩)
theorem E7 (hw : Kh Z a0) (W : oW Z) (h0 : Heap) :
  KH l Z US jdk_2097_method_29_code 2 (some (.object "java/math/BigInteger")) ⟨0, 0, 0, 0⟩ #[.long 3] h0 (fun a => h0.size ≤ a) (fun v h => ∃ a, v = some (.ref a) ∧ QQ Z h a 3 ∧ h0 = h) := by
 refine Q9 GA Gw fun p e s m below meth c C hs => ?_
 obtain ⟨d, vs, Sd, A, hvl, hvs⟩ := W.pos
 obtain ⟨q, hq, Fq⟩ := hvs 3 (by decide) (by decide)
 refine Qc C (fun hE hle _ => ?_)
 refine KJ 0 C (Ql.g 0) ?_
 refine KX 1 C 0 (Ql.g 1) ?_
 refine Kc 2 C (Ql.g 2) ?_
 refine KQ 3 C 10 (Ql.g 3) ?_
 refine KJ 10 C (Ql.g 6) ?_
 refine KX 11 C 0 (Ql.g 7) ?_
 refine Kc 12 C (Ql.g 8) ?_
 refine KW 13 C (Ql.g 9) ?_
 refine KJ 16 C (Ql.g 10) ?_
 refine Kq 17 C (hw.g 367) (Ql.g 11) ?_
 refine Kc 20 C (Ql.g 12) ?_
 refine KW 21 C (Ql.g 13) ?_
 refine Ko 24 C (hw.g 368) Via.refl Sd (Ql.g 14) ?_
 refine KJ 27 C (Ql.g 15) ?_
 refine Xm 28 C (Ql.g 16) ?_
 refine XM 29 C (v := .ref q) 3 (A.ext hE) rfl (by decide) hq (Ql.g 17) ?_
 refine KL 30 C (Ql.g 18) (fun _ _ => ⟨q, rfl, Fq.ext hE, rfl⟩)
theorem DJ (hw : Kh Z a0) (W : oW Z) (h0 : Heap) :
  KH l Z US jdk_2097_method_29_code 2 (some (.object "java/math/BigInteger")) ⟨0, 0, 0, 0⟩ #[.long 4] h0 (fun a => h0.size ≤ a) (fun v h => ∃ a, v = some (.ref a) ∧ QQ Z h a 4 ∧ h0 = h) := by
 refine Q9 GA Gw fun p e s m below meth c C hs => ?_
 obtain ⟨d, vs, Sd, A, hvl, hvs⟩ := W.pos
 obtain ⟨q, hq, Fq⟩ := hvs 4 (by decide) (by decide)
 refine Qc C (fun hE hle _ => ?_)
 refine KJ 0 C (Ql.g 0) ?_
 refine KX 1 C 0 (Ql.g 1) ?_
 refine Kc 2 C (Ql.g 2) ?_
 refine KQ 3 C 10 (Ql.g 3) ?_
 refine KJ 10 C (Ql.g 6) ?_
 refine KX 11 C 0 (Ql.g 7) ?_
 refine Kc 12 C (Ql.g 8) ?_
 refine KW 13 C (Ql.g 9) ?_
 refine KJ 16 C (Ql.g 10) ?_
 refine Kq 17 C (hw.g 367) (Ql.g 11) ?_
 refine Kc 20 C (Ql.g 12) ?_
 refine KW 21 C (Ql.g 13) ?_
 refine Ko 24 C (hw.g 368) Via.refl Sd (Ql.g 14) ?_
 refine KJ 27 C (Ql.g 15) ?_
 refine Xm 28 C (Ql.g 16) ?_
 refine XM 29 C (v := .ref q) 4 (A.ext hE) rfl (by decide) hq (Ql.g 17) ?_
 refine KL 30 C (Ql.g 18) (fun _ _ => ⟨q, rfl, Fq.ext hE, rfl⟩)
theorem Ee (hw : Kh Z a0) (W : oW Z) (v_ : Nat) (h0 : Heap) (hv : v_ ≤ 4) :
  KH l Z US jdk_2097_method_29_code 2 (some (.object "java/math/BigInteger")) ⟨0, 0, 0, 0⟩ #[.long (Int64.ofNat v_)] h0 (fun a => h0.size ≤ a) (fun v h => ∃ a, v = some (.ref a) ∧ QQ Z h a v_ ∧ h0 = h) := by
 match v_, hv with
 | 0, _ => exact Dw hw W h0
 | 1, _ => exact Do hw W h0
 | 2, _ => exact Cp hw W h0
 | 3, _ => exact E7 hw W h0
 | 4, _ => exact DJ hw W h0
def Lg : MethodName := ⟨"com/example/wardstream/wardstream/engine/Scorecard", "big", "(J)Ljava/math/BigInteger;"⟩
theorem VD : plainFor Lg = true := by decide +kernel
theorem Xx (hw : Kh Z a0) (W : oW Z) (v_ : Nat) (h0 : Heap) (hv : v_ ≤ 4) :
  KH l Z Lg prog_19_method_9_code 2 (some (.object "java/math/BigInteger")) ⟨1, 0, 0, 21⟩ #[.long (Int64.ofNat v_)] h0 (fun a => h0.size ≤ a) (fun v h => ∃ a, v = some (.ref a) ∧ QQ Z h a v_ ∧ h0 = h) := by
 refine Q9 VD Gw fun p e s m below meth c C hs => ?_
 refine KJ 0 C (CJ.g 0) ?_
 refine KK 1 C (Ee hw W v_ _ hv) (hw.g 363) (hw.g 364) (hw.g 365) (hw.g 366) Qj (CJ.g 1) (argsL := [_]) rfl rfl rfl rfl ?_
 rintro _ _ ⟨q, rfl, Fq, rfl⟩ -
 refine KL 4 C (CJ.g 2) (fun _ _ => ⟨q, rfl, Fq, rfl⟩)
def Fz : MethodName := ⟨"java/math/BigInteger", "signum", "()I"⟩
theorem Uv : plainFor Fz = true := by decide +kernel
theorem AC (hw : Kh Z a0) (a : Addr) (v_ : Nat) (h0 : Heap) (F : QQ Z h0 a v_) :
  KH l Z Fz jdk_2097_method_81_code 1 (some .int) ⟨0, 0, 0, 0⟩ #[.ref a] h0 (fun a => h0.size ≤ a) (fun v h => v = some (.int (if v_ = 0 then 0 else 1)) ∧ h0 = h) := by
 refine Q9 Uv YL fun p e s m below meth c C hs => ?_
 refine K0 0 C (En.g 0) ?_
 refine KF 1 C (hw.g 377) Via.refl F.2.1 (En.g 1) ?_
 refine KP 4 C (En.g 2) rfl (fun _ _ => ⟨rfl, rfl⟩)
theorem CP {x0 : Int32} {x1 : Int32} {x2 : Int32} (m : MethodId) : entryFrame m #[.int x0, .int x1, .int x2, .null] 4 = oF m 0 [.val (.int x0), .val (.int x1), .val (.int x2), .val .null] [] := by (first | (simp [entryFrame, oF, mkF, argsToLocals, Value.category]; done) | rfl)
theorem Eu (hw : Kh Z a0) (h0 : Heap) :
  KH l Z E_ jdk_41_method_12_code 4 (some .int) ⟨0, 0, 0, 0⟩ #[.int 0, .int 1, .int 1, .null] h0 (fun a => h0.size ≤ a) (fun v h => v = some (.int 0) ∧ h0 = h) := by
 refine Q9 RD CP fun p e s m below meth c C hs => ?_
 refine K8 0 C (GS.g 0) ?_
 refine KW 1 C (GS.g 1) ?_
 refine K8 4 C (GS.g 2) ?_
 refine K8 5 C (GS.g 3) ?_
 refine KS 6 C (GS.g 4) ?_
 refine K8 9 C (GS.g 5) ?_
 refine K8 10 C (GS.g 6) ?_
 refine KU 11 C 22 (GS.g 7) ?_
 refine K8 22 C (GS.g 8) ?_
 refine KP 23 C (GS.g 9) rfl (fun _ _ => ⟨rfl, rfl⟩)
def Fh : MethodName := ⟨"java/util/Objects", "checkFromToIndex", "(III)I"⟩
theorem UE : plainFor Fh = true := by decide +kernel
theorem BU (hw : Kh Z a0) (h0 : Heap) :
  KH l Z Fh jdk_31_method_18_code 3 (some .int) ⟨1, 0, 0, 23⟩ #[.int 0, .int 1, .int 1] h0 (fun a => h0.size ≤ a) (fun v h => v = some (.int 0) ∧ h0 = h) := by
 refine Q9 UE BX fun p e s m below meth c C hs => ?_
 refine K8 0 C (WW.g 0) ?_
 refine K8 1 C (WW.g 1) ?_
 refine K8 2 C (WW.g 2) ?_
 refine QC 3 C (WW.g 3) ?_
 refine KK 4 C (Eu hw _) (hw.g 596) (hw.g 515) (hw.g 292) (hw.g 516) JQ (WW.g 4) (argsL := [_, _, _, _]) rfl rfl rfl rfl ?_
 rintro _ _ ⟨rfl, rfl⟩ -
 refine KP 7 C (WW.g 5) rfl (fun _ _ => ⟨rfl, rfl⟩)
def A8 : MethodName := ⟨"java/math/BigInteger", "shiftLeftImplWorker", "([I[IIII)V"⟩
theorem TP : plainFor A8 = true := by decide +kernel
theorem CS {x0 : Addr} {x1 : Addr} {x2 : Int32} {x3 : Int32} {x4 : Int32} (m : MethodId) : entryFrame m #[.ref x0, .ref x1, .int x2, .int x3, .int x4] 7 = oF m 0 [.val (.ref x0), .val (.ref x1), .val (.int x2), .val (.int x3), .val (.int x4), .unset, .unset] [] := by (first | (simp [entryFrame, oF, mkF, argsToLocals, Value.category]; done) | rfl)
theorem Cf (hw : Kh Z a0) (na ma : Addr) (h0 : Heap) :
  KH l Z A8 jdk_2097_method_103_code 7 none ⟨0, 0, 0, 0⟩ #[.ref na, .ref ma, .int 0, .int 1, .int 0] h0 (fun a => h0.size ≤ a) (fun v h => v = none ∧ h0 = h) := by
 refine Q9 TP CS fun p e s m below meth c C hs => ?_
 refine KN 0 C 32 (GO.g 0) ?_
 refine K8 2 C (GO.g 1) ?_
 refine Kt 3 C (GO.g 2) ?_
 refine KG 4 C (Ls' := [_, _, _, _, _, _, _]) (GO.g 3) rfl ?_
 refine KD 6 C 0 (GO.g 4) ?_
 refine KG 7 C (Ls' := [_, _, _, _, _, _, _]) (GO.g 5) rfl ?_
 refine KE 9 C (GO.g 6) ?_
 refine KE 11 C (GO.g 7) ?_
 refine KU 13 C 42 (GO.g 8) ?_
 refine Ka 42 C (GO.g 9) (fun _ _ => ⟨rfl, rfl⟩)
def Ei : MethodName := ⟨"java/math/BigInteger", "shiftLeft", "([II)[I"⟩
theorem Jz : plainFor Ei = true := by decide +kernel
theorem AG {x0 : Addr} {x1 : Int32} (m : MethodId) : entryFrame m #[.ref x0, .int x1] 10 = oF m 0 [.val (.ref x0), .val (.int x1), .unset, .unset, .unset, .unset, .unset, .unset, .unset, .unset] [] := by (first | (simp [entryFrame, oF, mkF, argsToLocals, Value.category]; done) | rfl)
theorem AR (hw : Kh Z a0) (ma : Addr) (x_ : Int32) (h0 : Heap) (A : XE Z h0 ma .int "[I" [.int x_]) :
  KH l Z Ei jdk_2097_method_102_code 10 (some (.array .int)) ⟨2, 1, 1, 45⟩ #[.ref ma, .int 0] h0 (fun a => h0.size ≤ a) (fun v h => ∃ q, v = some (.ref q) ∧ h0.size ≤ q ∧ XE Z h q .int "[I" [.int x_]) := by
 refine Q9 Jz AG fun p e s m below meth c C hs => ?_
 refine K8 0 C (QN.g 0) ?_
 refine KD 1 C 5 (QN.g 1) ?_
 refine Q3 2 C (QN.g 2) ?_
 refine KO 3 C (Ls' := [_, _, _, _, _, _, _, _, _, _]) (QN.g 3) rfl ?_
 refine K8 4 C (QN.g 4) ?_
 refine KN 5 C 31 (QN.g 5) ?_
 refine QA 7 C (QN.g 6) ?_
 refine KO 8 C (Ls' := [_, _, _, _, _, _, _, _, _, _]) (QN.g 7) rfl ?_
 refine K0 9 C (QN.g 8) ?_
 refine KZ 10 C A.1 (QN.g 9) ?_
 rw [show Int32.ofNat (List.length [Value.int _]) = 1 from rfl]
 refine KG 11 C (Ls' := [_, _, _, _, _, _, _, _, _, _]) (QN.g 10) rfl ?_
 refine QC 13 C (QN.g 11) ?_
 refine Kz 14 C (Ls' := [_, _, _, _, _, _, _, _, _, _]) (QN.g 12) rfl rfl ?_
 refine K8 16 C (QN.g 13) ?_
 refine KW 17 C (QN.g 14) ?_
 refine KE 20 C (QN.g 15) ?_
 refine K8 22 C (QN.g 16) ?_
 refine Kg 23 C (QN.g 17) ?_
 refine Q7 C (aty := .int) (pc := 24) (ad := "[I") 1 1 (hw.g 592) (QN.g 18) rfl (by decide) (by decide) (by decide) (by decide) (by decide) ?_
 intro h1 q hq hPq E1 D1
 refine Kz 26 C (Ls' := [_, _, _, _, _, _, _, _, _, _]) (QN.g 19) rfl rfl ?_
 refine K0 28 C (QN.g 20) ?_
 refine KD 29 C 0 (QN.g 21) ?_
 refine Kb 30 C (QN.g 22) ?_
 refine KD 32 C 0 (QN.g 23) ?_
 refine KE 33 C (QN.g 24) ?_
 refine Yt 35 C 0 0 1 (A.ext E1).1 D1.1 rfl rfl rfl (Nat.le_refl 1) (by decide) (fun v z => by simp only [List.mem_cons, List.not_mem_nil, or_false] at z; subst z; exact ⟨rfl, fun _ z => nomatch z⟩) hPq (hw.g 624) (hw.g 171) (hw.g 169) (hw.g 170) (QN.g 25) rfl (by decide) (by decide) ?_
 intro h2 K2 hs2 D2
 replace D2 : XE Z h2 q .int "[I" [.int x_] := ⟨D2.eq rfl, K2.exa D1.2⟩
 refine KT 38 C 152 (QN.g 26) ?_
 refine Kb 152 C (QN.g 27) ?_
 refine KL 154 C (QN.g 28) (fun _ _ => ⟨q, rfl, Nat.le_of_eq hq.symm, D2⟩)
theorem AW (hw : Kh Z a0) (ma : Addr) (x_ : Int32) (h0 : Heap) (A : XE Z h0 ma .int "[I" [.int x_]) (r_ : Int32) (hx : (x_ = 1 ∧ r_ = 2) ∨ (x_ = 2 ∧ r_ = 4)) :
  KH l Z Ei jdk_2097_method_102_code 10 (some (.array .int)) ⟨2, 1, 1, 45⟩ #[.ref ma, .int 1] h0 (fun a => h0.size ≤ a) (fun v h => ∃ q, v = some (.ref q) ∧ h0.size ≤ q ∧ XE Z h q .int "[I" [.int r_]) := by
 refine Q9 Jz AG fun p e s m below meth c C hs => ?_
 rcases hx with ⟨rfl, rfl⟩ | ⟨rfl, rfl⟩ <;> (
  refine K8 0 C (QN.g 0) ?_
  refine KD 1 C 5 (QN.g 1) ?_
  refine Q3 2 C (QN.g 2) ?_
  refine KO 3 C (Ls' := [_, _, _, _, _, _, _, _, _, _]) (QN.g 3) rfl ?_
  refine K8 4 C (QN.g 4) ?_
  refine KN 5 C 31 (QN.g 5) ?_
  refine QA 7 C (QN.g 6) ?_
  refine KO 8 C (Ls' := [_, _, _, _, _, _, _, _, _, _]) (QN.g 7) rfl ?_
  refine K0 9 C (QN.g 8) ?_
  refine KZ 10 C A.1 (QN.g 9) ?_
  rw [show Int32.ofNat (List.length [Value.int _]) = 1 from rfl]
  refine KG 11 C (Ls' := [_, _, _, _, _, _, _, _, _, _]) (QN.g 10) rfl ?_
  refine QC 13 C (QN.g 11) ?_
  refine Kz 14 C (Ls' := [_, _, _, _, _, _, _, _, _, _]) (QN.g 12) rfl rfl ?_
  refine K8 16 C (QN.g 13) ?_
  refine KQ 17 C 41 (QN.g 14) ?_
  refine KD 41 C 0 (QN.g 29) ?_
  refine KG 42 C (Ls' := [_, _, _, _, _, _, _, _, _, _]) (QN.g 30) rfl ?_
  refine KN 44 C 32 (QN.g 31) ?_
  refine K8 46 C (QN.g 32) ?_
  refine Kt 47 C (QN.g 33) ?_
  refine KG 48 C (Ls' := [_, _, _, _, _, _, _, _, _, _]) (QN.g 34) rfl ?_
  refine K0 50 C (QN.g 35) ?_
  refine KD 51 C 0 (QN.g 36) ?_
  refine Kl 52 C (v := .int _) 0 A.1 rfl rfl (QN.g 37) ?_
  refine KE 53 C (QN.g 38) ?_
  refine Q3 55 C (QN.g 39) ?_
  refine KG 56 C (Ls' := [_, _, _, _, _, _, _, _, _, _]) (QN.g 40) rfl ?_
  refine KE 58 C (QN.g 41) ?_
  refine KQ 60 C 86 (QN.g 42) ?_
  refine KE 86 C (QN.g 43) ?_
  refine K8 88 C (QN.g 44) ?_
  refine Kg 89 C (QN.g 45) ?_
  refine Q7 C (aty := .int) (pc := 90) (ad := "[I") 1 1 (hw.g 592) (QN.g 46) rfl (by decide) (by decide) (by decide) (by decide) (by decide) ?_
  intro h1 q hq hPq E1 D1
  refine Kz 92 C (Ls' := [_, _, _, _, _, _, _, _, _, _]) (QN.g 47) rfl rfl ?_
  refine KE 94 C (QN.g 48) ?_
  refine KD 96 C 1 (QN.g 49) ?_
  refine Kt 97 C (QN.g 50) ?_
  refine KG 98 C (Ls' := [_, _, _, _, _, _, _, _, _, _]) (QN.g 51) rfl ?_
  refine KD 100 C 0 (QN.g 52) ?_
  refine KE 101 C (QN.g 53) ?_
  refine KD 103 C 1 (QN.g 54) ?_
  refine Kg 104 C (QN.g 55) ?_
  refine K0 105 C (QN.g 56) ?_
  refine KZ 106 C (A.ext E1).1 (QN.g 57) ?_
  rw [show Int32.ofNat (List.length [Value.int _]) = 1 from rfl]
  refine KK 107 C (BU hw _) (hw.g 593) (hw.g 594) (hw.g 288) (hw.g 595) Hr (QN.g 58) (argsL := [_, _, _]) rfl rfl rfl rfl ?_
  rintro _ _ ⟨rfl, rfl⟩ -
  refine QR 110 C (QN.g 59) rfl ?_
  refine KE 111 C (QN.g 60) ?_
  refine KE 113 C (QN.g 61) ?_
  refine KE 115 C (QN.g 62) ?_
  refine Kg 117 C (QN.g 63) ?_
  refine KD 118 C 1 (QN.g 64) ?_
  refine Kg 119 C (QN.g 65) ?_
  refine Kb 120 C (QN.g 66) ?_
  refine KZ 122 C D1.1 (QN.g 67) ?_
  rw [show Int32.ofNat (List.length (List.replicate 1 _)) = 1 from rfl]
  refine KK 123 C (BU hw _) (hw.g 593) (hw.g 594) (hw.g 288) (hw.g 595) Hr (QN.g 68) (argsL := [_, _, _]) rfl rfl rfl rfl ?_
  rintro _ _ ⟨rfl, rfl⟩ -
  refine QR 126 C (QN.g 69) rfl ?_
  refine Kb 127 C (QN.g 70) ?_
  refine K0 129 C (QN.g 71) ?_
  refine KE 130 C (QN.g 72) ?_
  refine K8 132 C (QN.g 73) ?_
  refine KE 133 C (QN.g 74) ?_
  refine KK 135 C (Cf hw q ma _) (hw.g 597) (hw.g 598) (hw.g 365) (hw.g 599) UR (QN.g 75) (argsL := [_, _, _, _, _]) rfl rfl rfl rfl ?_
  rintro _ _ ⟨rfl, rfl⟩ -
  refine Kb 138 C (QN.g 76) ?_
  refine KE 140 C (QN.g 77) ?_
  refine KE 142 C (QN.g 78) ?_
  refine Kg 144 C (QN.g 79) ?_
  refine K0 145 C (QN.g 80) ?_
  refine KE 146 C (QN.g 81) ?_
  refine Kl 148 C (v := .int _) 0 (A.ext E1).1 rfl rfl (QN.g 82) ?_
  refine K8 149 C (QN.g 83) ?_
  refine XN 150 C (QN.g 84) ?_
  refine QX 151 C 0 D1.1 rfl (by decide) hPq (QN.g 85) ?_
  intro h2 W2 D2
  refine Kb 152 C (QN.g 27) ?_
  refine KL 154 C (QN.g 28) (fun _ _ => ⟨q, rfl, Nat.le_of_eq hq.symm, D1.same W2⟩)
  )
def Da : MethodName := ⟨"java/math/BigInteger", "multiplyByInt", "([III)Ljava/math/BigInteger;"⟩
theorem JT : plainFor Da = true := by decide +kernel
theorem Ba {x0 : Addr} {x1 : Int32} {x2 : Int32} (m : MethodId) : entryFrame m #[.ref x0, .int x1, .int x2] 13 = oF m 0 [.val (.ref x0), .val (.int x1), .val (.int x2), .unset, .unset, .unset, .unset, .unset, .unset, .unset, .unset, .unset, .unset] [] := by (first | (simp [entryFrame, oF, mkF, argsToLocals, Value.category]; done) | rfl)
theorem Th (hw : Kh Z a0) (ma : Addr) (x : Nat) (h0 : Heap) (A : XE Z h0 ma .int "[I" [.int (Int32.ofNat x)]) (hx : x ≠ 0) :
  KH l Z Da jdk_2097_method_43_code 13 (some (.object "java/math/BigInteger")) ⟨3, 2, 7, 76⟩ #[.ref ma, .int 1, .int 1] h0 (fun a => h0.size ≤ a) (fun v h => ∃ r, v = some (.ref r) ∧ QQ Z h r (x * 1)) := by
 refine Q9 JT Ba fun p e s m below meth c C hs => ?_
 refine K8 0 C (Ye.g 0) ?_
 refine KK 1 C (CL hw _) (hw.g 577) (hw.g 578) (hw.g 198) (hw.g 579) XY (Ye.g 1) (argsL := [_]) rfl rfl rfl rfl ?_
 rintro _ _ ⟨rfl, rfl⟩ -
 refine KD 4 C 1 (Ye.g 2) ?_
 refine KS 5 C (Ye.g 3) ?_
 refine QE 8 C (hw.g 583) (hw.g 584) (hw.g 365) (Ye.g 4) ?_
 intro h1 a ha hPa E1 X1 D1
 have FS := D1 (Or.inr (hw.g 378)) (ty := .int) (by decide)
 have FM := D1 (Or.inr (hw.g 410)) (ty := (.array .int)) (by decide)
 refine Ku 11 C (Ye.g 5) rfl ?_
 refine K0 12 C (Ye.g 6) ?_
 refine K8 13 C (Ye.g 7) ?_
 refine KK 14 C (Hy hw _) (hw.g 585) (hw.g 586) (hw.g 198) (hw.g 587) XY (Ye.g 8) (argsL := [_]) rfl rfl rfl rfl ?_
 rintro _ _ ⟨rfl, rfl⟩ -
 refine KK 17 C (AR hw ma _ _ (A.ext E1)) (hw.g 589) (hw.g 590) (hw.g 365) (hw.g 591) HK (Ye.g 9) (argsL := [_, _]) rfl rfl rfl rfl ?_
 rintro _ h2 ⟨q, rfl, hq, D2⟩ K2
 refine K8 20 C (Ye.g 10) ?_
 refine KV 21 C (Rf hw a q (x * 1) _ (by omega) (D2.eq (by rw [GZ, if_neg (by omega), Nat.mul_one])) (C.young a hPa) (X1.ext K2.ext) (FS.ext K2.ext) (FM.ext K2.ext)) (hw.g 600) (hw.g 601) (hw.g 365) (hw.g 602) Gg (Ye.g 11) (argsL := [_, _]) rfl rfl rfl rfl (hP := (fun x q r => r.elim (fun z => z ▸ hPa) (fun z => C.new x (Nat.le_trans q z)))) ?_
 rintro _ h3 ⟨rfl, F3⟩ -
 refine KL 24 C (Ye.g 12) (fun _ _ => ⟨a, rfl, F3⟩)
def C3 : MethodName := ⟨"java/math/BigInteger", "multiply", "(Ljava/math/BigInteger;ZZI)Ljava/math/BigInteger;"⟩
theorem HU : plainFor C3 = true := by decide +kernel
theorem UN {x0 : Addr} {x1 : Addr} {x2 : Int32} {x3 : Int32} {x4 : Int32} (m : MethodId) : entryFrame m #[.ref x0, .ref x1, .int x2, .int x3, .int x4] 9 = oF m 0 [.val (.ref x0), .val (.ref x1), .val (.int x2), .val (.int x3), .val (.int x4), .unset, .unset, .unset, .unset] [] := by (first | (simp [entryFrame, oF, mkF, argsToLocals, Value.category]; done) | rfl)
theorem Be (hw : Kh Z a0) (W : oW Z) (a b_ : Addr) (x : Nat) (h0 : Heap) (F : QQ Z h0 a x) (G : QQ Z h0 b_ 1) (hx : x ≠ 0) :
  KH l Z C3 jdk_2097_method_42_code 9 (some (.object "java/math/BigInteger")) ⟨4, 2, 7, 108⟩ #[.ref a, .ref b_, .int 0, .int 0, .int 0] h0 (fun a => h0.size ≤ a) (fun v h => ∃ r, v = some (.ref r) ∧ QQ Z h r (x * 1)) := by
 refine Q9 HU UN fun p e s m below meth c C hs => ?_
 obtain ⟨m1, S1, M1, A1⟩ := F.p (by omega)
 obtain ⟨m2, S2, M2, A2⟩ := G.p (by decide)
 refine K0 0 C (Kx.g 0) ?_
 refine KF 1 C (hw.g 377) Via.refl S2 (Kx.g 1) ?_
 refine KW 4 C (Kx.g 2) ?_
 refine K0 7 C (Kx.g 3) ?_
 refine KF 8 C (hw.g 377) Via.refl S1 (Kx.g 4) ?_
 refine KQ 11 C 18 (Kx.g 5) ?_
 refine K0 18 C (Kx.g 6) ?_
 refine KF 19 C (hw.g 573) Via.refl M1 (Kx.g 7) ?_
 refine KZ 22 C A1.1 (Kx.g 8) ?_
 rw [show Int32.ofNat (List.length [Value.int _]) = 1 from rfl]
 refine KG 23 C (Ls' := [_, _, _, _, _, _, _, _, _]) (Kx.g 9) rfl ?_
 refine K0 25 C (Kx.g 10) ?_
 refine K0 26 C (Kx.g 11) ?_
 refine YA 27 C 46 (Kx.g 12) rfl rfl (fun hc27 => ?_) (fun hc27 => ?_)
 ·simp only [oA, Classical.not_not, Value.ref.injEq] at hc27
  refine K0 46 C (Kx.g 13) ?_
  refine KF 47 C (hw.g 573) Via.refl M2 (Kx.g 14) ?_
  refine KZ 50 C A2.1 (Kx.g 15) ?_
  rw [show Int32.ofNat (List.length [Value.int _]) = 1 from rfl]
  refine KG 51 C (Ls' := [_, _, _, _, _, _, _, _, _]) (Kx.g 16) rfl ?_
  refine KE 53 C (Kx.g 17) ?_
  refine KN 55 C 80 (Kx.g 18) ?_
  refine KU 57 C 67 (Kx.g 19) ?_
  refine K0 67 C (Kx.g 20) ?_
  refine KF 68 C (hw.g 377) Via.refl S1 (Kx.g 21) ?_
  refine K0 71 C (Kx.g 22) ?_
  refine KF 72 C (hw.g 377) Via.refl S2 (Kx.g 23) ?_
  refine KS 75 C (Kx.g 24) ?_
  refine KD 78 C 1 (Kx.g 25) ?_
  refine KT 79 C 83 (Kx.g 26) ?_
  refine KG 83 C (Ls' := [_, _, _, _, _, _, _, _, _]) (Kx.g 27) rfl ?_
  refine K0 85 C (Kx.g 28) ?_
  refine KF 86 C (hw.g 573) Via.refl M2 (Kx.g 29) ?_
  refine KZ 89 C A2.1 (Kx.g 30) ?_
  rw [show Int32.ofNat (List.length [Value.int _]) = 1 from rfl]
  refine KD 90 C 1 (Kx.g 31) ?_
  refine KS 91 C (Kx.g 32) ?_
  refine K0 94 C (Kx.g 33) ?_
  refine KF 95 C (hw.g 573) Via.refl M1 (Kx.g 34) ?_
  refine K0 98 C (Kx.g 35) ?_
  refine KF 99 C (hw.g 573) Via.refl M2 (Kx.g 36) ?_
  refine KD 102 C 0 (Kx.g 37) ?_
  refine Kl 103 C (v := .int 1) 0 A2.1 rfl rfl (Kx.g 38) ?_
  refine KE 104 C (Kx.g 39) ?_
  refine KK 106 C (Th hw m1 x _ A1 hx) (hw.g 574) (hw.g 575) (hw.g 365) (hw.g 576) Gh (Kx.g 40) (argsL := [_, _, _]) rfl rfl rfl rfl ?_
  rintro _ h2 ⟨q, rfl, F2⟩ -
  refine KL 109 C (Kx.g 41) (fun _ _ => ⟨q, rfl, F2⟩)
 ·simp only [oA, Classical.not_not, Value.ref.injEq] at hc27
  refine KE 30 C (Kx.g 42) ?_
  refine KN 32 C 20 (Kx.g 43) ?_
  refine KU 34 C 46 (Kx.g 44) ?_
  refine K0 46 C (Kx.g 13) ?_
  refine KF 47 C (hw.g 573) Via.refl M2 (Kx.g 14) ?_
  refine KZ 50 C A2.1 (Kx.g 15) ?_
  rw [show Int32.ofNat (List.length [Value.int _]) = 1 from rfl]
  refine KG 51 C (Ls' := [_, _, _, _, _, _, _, _, _]) (Kx.g 16) rfl ?_
  refine KE 53 C (Kx.g 17) ?_
  refine KN 55 C 80 (Kx.g 18) ?_
  refine KU 57 C 67 (Kx.g 19) ?_
  refine K0 67 C (Kx.g 20) ?_
  refine KF 68 C (hw.g 377) Via.refl S1 (Kx.g 21) ?_
  refine K0 71 C (Kx.g 22) ?_
  refine KF 72 C (hw.g 377) Via.refl S2 (Kx.g 23) ?_
  refine KS 75 C (Kx.g 24) ?_
  refine KD 78 C 1 (Kx.g 25) ?_
  refine KT 79 C 83 (Kx.g 26) ?_
  refine KG 83 C (Ls' := [_, _, _, _, _, _, _, _, _]) (Kx.g 27) rfl ?_
  refine K0 85 C (Kx.g 28) ?_
  refine KF 86 C (hw.g 573) Via.refl M2 (Kx.g 29) ?_
  refine KZ 89 C A2.1 (Kx.g 30) ?_
  rw [show Int32.ofNat (List.length [Value.int _]) = 1 from rfl]
  refine KD 90 C 1 (Kx.g 31) ?_
  refine KS 91 C (Kx.g 32) ?_
  refine K0 94 C (Kx.g 33) ?_
  refine KF 95 C (hw.g 573) Via.refl M1 (Kx.g 34) ?_
  refine K0 98 C (Kx.g 35) ?_
  refine KF 99 C (hw.g 573) Via.refl M2 (Kx.g 36) ?_
  refine KD 102 C 0 (Kx.g 37) ?_
  refine Kl 103 C (v := .int 1) 0 A2.1 rfl rfl (Kx.g 38) ?_
  refine KE 104 C (Kx.g 39) ?_
  refine KK 106 C (Th hw m1 x _ A1 hx) (hw.g 574) (hw.g 575) (hw.g 365) (hw.g 576) Gh (Kx.g 40) (argsL := [_, _, _]) rfl rfl rfl rfl ?_
  rintro _ h2 ⟨q, rfl, F2⟩ -
  refine KL 109 C (Kx.g 41) (fun _ _ => ⟨q, rfl, F2⟩)
theorem TZ (hw : Kh Z a0) (ma : Addr) (x : Nat) (h0 : Heap) (A : XE Z h0 ma .int "[I" [.int (Int32.ofNat x)]) (hx : x = 1 ∨ x = 2) :
  KH l Z Da jdk_2097_method_43_code 13 (some (.object "java/math/BigInteger")) ⟨3, 2, 7, 76⟩ #[.ref ma, .int 2, .int 1] h0 (fun a => h0.size ≤ a) (fun v h => ∃ r, v = some (.ref r) ∧ QQ Z h r (x * 2)) := by
 refine Q9 JT Ba fun p e s m below meth c C hs => ?_
 refine K8 0 C (Ye.g 0) ?_
 refine KK 1 C (Dx hw _) (hw.g 577) (hw.g 578) (hw.g 198) (hw.g 579) XY (Ye.g 1) (argsL := [_]) rfl rfl rfl rfl ?_
 rintro _ _ ⟨rfl, rfl⟩ -
 refine KD 4 C 1 (Ye.g 2) ?_
 refine KS 5 C (Ye.g 3) ?_
 refine QE 8 C (hw.g 583) (hw.g 584) (hw.g 365) (Ye.g 4) ?_
 intro h1 a ha hPa E1 X1 D1
 have FS := D1 (Or.inr (hw.g 378)) (ty := .int) (by decide)
 have FM := D1 (Or.inr (hw.g 410)) (ty := (.array .int)) (by decide)
 refine Ku 11 C (Ye.g 5) rfl ?_
 refine K0 12 C (Ye.g 6) ?_
 refine K8 13 C (Ye.g 7) ?_
 refine KK 14 C (Tf hw _) (hw.g 585) (hw.g 586) (hw.g 198) (hw.g 587) XY (Ye.g 8) (argsL := [_]) rfl rfl rfl rfl ?_
 rintro _ _ ⟨rfl, rfl⟩ -
 refine KK 17 C (AW hw ma _ _ (A.ext E1) (Int32.ofNat (x * 2)) (by rcases hx with rfl | rfl <;> decide)) (hw.g 589) (hw.g 590) (hw.g 365) (hw.g 591) HK (Ye.g 9) (argsL := [_, _]) rfl rfl rfl rfl ?_
 rintro _ h2 ⟨q, rfl, hq, D2⟩ K2
 refine K8 20 C (Ye.g 10) ?_
 refine KV 21 C (Rf hw a q (x * 2) _ (by omega) (D2.eq (by rw [GZ, if_neg (by omega)])) (C.young a hPa) (X1.ext K2.ext) (FS.ext K2.ext) (FM.ext K2.ext)) (hw.g 600) (hw.g 601) (hw.g 365) (hw.g 602) Gg (Ye.g 11) (argsL := [_, _]) rfl rfl rfl rfl (hP := (fun x q r => r.elim (fun z => z ▸ hPa) (fun z => C.new x (Nat.le_trans q z)))) ?_
 rintro _ h3 ⟨rfl, F3⟩ -
 refine KL 24 C (Ye.g 12) (fun _ _ => ⟨a, rfl, F3⟩)
theorem Ag (hw : Kh Z a0) (W : oW Z) (a b_ : Addr) (x : Nat) (h0 : Heap) (F : QQ Z h0 a x) (G : QQ Z h0 b_ 2) (hx : x = 1 ∨ x = 2) :
  KH l Z C3 jdk_2097_method_42_code 9 (some (.object "java/math/BigInteger")) ⟨4, 2, 7, 108⟩ #[.ref a, .ref b_, .int 0, .int 0, .int 0] h0 (fun a => h0.size ≤ a) (fun v h => ∃ r, v = some (.ref r) ∧ QQ Z h r (x * 2)) := by
 refine Q9 HU UN fun p e s m below meth c C hs => ?_
 obtain ⟨m1, S1, M1, A1⟩ := F.p (by omega)
 obtain ⟨m2, S2, M2, A2⟩ := G.p (by decide)
 refine K0 0 C (Kx.g 0) ?_
 refine KF 1 C (hw.g 377) Via.refl S2 (Kx.g 1) ?_
 refine KW 4 C (Kx.g 2) ?_
 refine K0 7 C (Kx.g 3) ?_
 refine KF 8 C (hw.g 377) Via.refl S1 (Kx.g 4) ?_
 refine KQ 11 C 18 (Kx.g 5) ?_
 refine K0 18 C (Kx.g 6) ?_
 refine KF 19 C (hw.g 573) Via.refl M1 (Kx.g 7) ?_
 refine KZ 22 C A1.1 (Kx.g 8) ?_
 rw [show Int32.ofNat (List.length [Value.int _]) = 1 from rfl]
 refine KG 23 C (Ls' := [_, _, _, _, _, _, _, _, _]) (Kx.g 9) rfl ?_
 refine K0 25 C (Kx.g 10) ?_
 refine K0 26 C (Kx.g 11) ?_
 refine YA 27 C 46 (Kx.g 12) rfl rfl (fun hc27 => ?_) (fun hc27 => ?_)
 ·simp only [oA, Classical.not_not, Value.ref.injEq] at hc27
  refine K0 46 C (Kx.g 13) ?_
  refine KF 47 C (hw.g 573) Via.refl M2 (Kx.g 14) ?_
  refine KZ 50 C A2.1 (Kx.g 15) ?_
  rw [show Int32.ofNat (List.length [Value.int _]) = 1 from rfl]
  refine KG 51 C (Ls' := [_, _, _, _, _, _, _, _, _]) (Kx.g 16) rfl ?_
  refine KE 53 C (Kx.g 17) ?_
  refine KN 55 C 80 (Kx.g 18) ?_
  refine KU 57 C 67 (Kx.g 19) ?_
  refine K0 67 C (Kx.g 20) ?_
  refine KF 68 C (hw.g 377) Via.refl S1 (Kx.g 21) ?_
  refine K0 71 C (Kx.g 22) ?_
  refine KF 72 C (hw.g 377) Via.refl S2 (Kx.g 23) ?_
  refine KS 75 C (Kx.g 24) ?_
  refine KD 78 C 1 (Kx.g 25) ?_
  refine KT 79 C 83 (Kx.g 26) ?_
  refine KG 83 C (Ls' := [_, _, _, _, _, _, _, _, _]) (Kx.g 27) rfl ?_
  refine K0 85 C (Kx.g 28) ?_
  refine KF 86 C (hw.g 573) Via.refl M2 (Kx.g 29) ?_
  refine KZ 89 C A2.1 (Kx.g 30) ?_
  rw [show Int32.ofNat (List.length [Value.int _]) = 1 from rfl]
  refine KD 90 C 1 (Kx.g 31) ?_
  refine KS 91 C (Kx.g 32) ?_
  refine K0 94 C (Kx.g 33) ?_
  refine KF 95 C (hw.g 573) Via.refl M1 (Kx.g 34) ?_
  refine K0 98 C (Kx.g 35) ?_
  refine KF 99 C (hw.g 573) Via.refl M2 (Kx.g 36) ?_
  refine KD 102 C 0 (Kx.g 37) ?_
  refine Kl 103 C (v := .int 2) 0 A2.1 rfl rfl (Kx.g 38) ?_
  refine KE 104 C (Kx.g 39) ?_
  refine KK 106 C (TZ hw m1 x _ A1 hx) (hw.g 574) (hw.g 575) (hw.g 365) (hw.g 576) Gh (Kx.g 40) (argsL := [_, _, _]) rfl rfl rfl rfl ?_
  rintro _ h2 ⟨q, rfl, F2⟩ -
  refine KL 109 C (Kx.g 41) (fun _ _ => ⟨q, rfl, F2⟩)
 ·simp only [oA, Classical.not_not, Value.ref.injEq] at hc27
  refine KE 30 C (Kx.g 42) ?_
  refine KN 32 C 20 (Kx.g 43) ?_
  refine KU 34 C 46 (Kx.g 44) ?_
  refine K0 46 C (Kx.g 13) ?_
  refine KF 47 C (hw.g 573) Via.refl M2 (Kx.g 14) ?_
  refine KZ 50 C A2.1 (Kx.g 15) ?_
  rw [show Int32.ofNat (List.length [Value.int _]) = 1 from rfl]
  refine KG 51 C (Ls' := [_, _, _, _, _, _, _, _, _]) (Kx.g 16) rfl ?_
  refine KE 53 C (Kx.g 17) ?_
  refine KN 55 C 80 (Kx.g 18) ?_
  refine KU 57 C 67 (Kx.g 19) ?_
  refine K0 67 C (Kx.g 20) ?_
  refine KF 68 C (hw.g 377) Via.refl S1 (Kx.g 21) ?_
  refine K0 71 C (Kx.g 22) ?_
  refine KF 72 C (hw.g 377) Via.refl S2 (Kx.g 23) ?_
  refine KS 75 C (Kx.g 24) ?_
  refine KD 78 C 1 (Kx.g 25) ?_
  refine KT 79 C 83 (Kx.g 26) ?_
  refine KG 83 C (Ls' := [_, _, _, _, _, _, _, _, _]) (Kx.g 27) rfl ?_
  refine K0 85 C (Kx.g 28) ?_
  refine KF 86 C (hw.g 573) Via.refl M2 (Kx.g 29) ?_
  refine KZ 89 C A2.1 (Kx.g 30) ?_
  rw [show Int32.ofNat (List.length [Value.int _]) = 1 from rfl]
  refine KD 90 C 1 (Kx.g 31) ?_
  refine KS 91 C (Kx.g 32) ?_
  refine K0 94 C (Kx.g 33) ?_
  refine KF 95 C (hw.g 573) Via.refl M1 (Kx.g 34) ?_
  refine K0 98 C (Kx.g 35) ?_
  refine KF 99 C (hw.g 573) Via.refl M2 (Kx.g 36) ?_
  refine KD 102 C 0 (Kx.g 37) ?_
  refine Kl 103 C (v := .int 2) 0 A2.1 rfl rfl (Kx.g 38) ?_
  refine KE 104 C (Kx.g 39) ?_
  refine KK 106 C (TZ hw m1 x _ A1 hx) (hw.g 574) (hw.g 575) (hw.g 365) (hw.g 576) Gh (Kx.g 40) (argsL := [_, _, _]) rfl rfl rfl rfl ?_
  rintro _ h2 ⟨q, rfl, F2⟩ -
  refine KL 109 C (Kx.g 41) (fun _ _ => ⟨q, rfl, F2⟩)
def WU : MethodName := ⟨"java/math/BigInteger", "multiply", "(Ljava/math/BigInteger;)Ljava/math/BigInteger;"⟩
theorem Ga : plainFor WU = true := by decide +kernel
theorem JU (hw : Kh Z a0) (W : oW Z) (a b_ : Addr) (x : Nat) (h0 : Heap) (F : QQ Z h0 a x) (G : QQ Z h0 b_ 1) (hx : x ≠ 0) :
  KH l Z WU jdk_2097_method_40_code 2 (some (.object "java/math/BigInteger")) ⟨5, 2, 7, 136⟩ #[.ref a, .ref b_] h0 (fun a => h0.size ≤ a) (fun v h => ∃ r, v = some (.ref r) ∧ QQ Z h r (x * 1)) := by
 refine Q9 Ga Gu fun p e s m below meth c C hs => ?_
 refine K0 0 C (YK.g 0) ?_
 refine K0 1 C (YK.g 1) ?_
 refine KD 2 C 0 (YK.g 2) ?_
 refine KD 3 C 0 (YK.g 3) ?_
 refine KD 4 C 0 (YK.g 4) ?_
 refine Kf 5 C (Be hw W a b_ x _ F G hx) (F.1) (hw.g 563) (QB.of (hw.g 375 rfl) rfl) (hw.g 565) (hw.g 564) (hw.g 365) (hw.g 567) Gd (YK.g 5) (argsL := [_, _, _, _]) rfl rfl rfl rfl ?_
 rintro _ h2 ⟨q, rfl, F2⟩ -
 refine KL 8 C (YK.g 6) (fun _ _ => ⟨q, rfl, F2⟩)
theorem Ta (hw : Kh Z a0) (W : oW Z) (a b_ : Addr) (x : Nat) (h0 : Heap) (F : QQ Z h0 a x) (G : QQ Z h0 b_ 2) (hx : x = 1 ∨ x = 2) :
  KH l Z WU jdk_2097_method_40_code 2 (some (.object "java/math/BigInteger")) ⟨5, 2, 7, 136⟩ #[.ref a, .ref b_] h0 (fun a => h0.size ≤ a) (fun v h => ∃ r, v = some (.ref r) ∧ QQ Z h r (x * 2)) := by
 refine Q9 Ga Gu fun p e s m below meth c C hs => ?_
 refine K0 0 C (YK.g 0) ?_
 refine K0 1 C (YK.g 1) ?_
 refine KD 2 C 0 (YK.g 2) ?_
 refine KD 3 C 0 (YK.g 3) ?_
 refine KD 4 C 0 (YK.g 4) ?_
 refine Kf 5 C (Ag hw W a b_ x _ F G hx) (F.1) (hw.g 563) (QB.of (hw.g 375 rfl) rfl) (hw.g 565) (hw.g 564) (hw.g 365) (hw.g 567) Gd (YK.g 5) (argsL := [_, _, _, _]) rfl rfl rfl rfl ?_
 rintro _ h2 ⟨q, rfl, F2⟩ -
 refine KL 8 C (YK.g 6) (fun _ _ => ⟨q, rfl, F2⟩)
theorem BZ (hw : Kh Z a0) (W : oW Z) (a b_ : Addr) (x w : Nat) (h0 : Heap) (F : QQ Z h0 a x) (G : QQ Z h0 b_ w) (hz : x = 0 ∨ w = 0) :
  KH l Z C3 jdk_2097_method_42_code 9 (some (.object "java/math/BigInteger")) ⟨0, 0, 0, 0⟩ #[.ref a, .ref b_, .int 0, .int 0, .int 0] h0 (fun a => h0.size ≤ a) (fun v h => ∃ r, v = some (.ref r) ∧ QQ Z h r 0 ∧ h0 = h) := by
 refine Q9 HU UN fun p e s m below meth c C hs => ?_
 obtain ⟨q, Sq, Fq⟩ := W.zero
 refine Qc C (fun hE hle _ => ?_)
 refine K0 0 C (Kx.g 0) ?_
 refine KF 1 C (hw.g 377) Via.refl G.2.1 (Kx.g 1) ?_
 refine Qx 4 C 14 (Kx.g 2) (fun hc4 => ?_) (fun hc4 => ?_)
 ·simp only [oC, Classical.not_not] at hc4
  refine Ko 14 C (hw.g 550) Via.refl Sq (Kx.g 45) ?_
  refine KL 17 C (Kx.g 46) (fun _ _ => ⟨q, rfl, Fq.ext hE, rfl⟩)
 ·simp only [oC, Classical.not_not] at hc4
  refine K0 7 C (Kx.g 3) ?_
  refine KF 8 C (hw.g 377) Via.refl F.2.1 (Kx.g 4) ?_
  refine Qx 11 C 18 (Kx.g 5) (fun hc11 => ?_) (fun hc11 => ?_)
  ·simp only [oC, Classical.not_not] at hc11
   exact False.elim (by rcases hz with rfl | rfl <;> first | exact hc11 rfl | exact hc4 rfl)
  ·simp only [oC, Classical.not_not] at hc11
   refine Ko 14 C (hw.g 550) Via.refl Sq (Kx.g 45) ?_
   refine KL 17 C (Kx.g 46) (fun _ _ => ⟨q, rfl, Fq.ext hE, rfl⟩)
theorem EF (hw : Kh Z a0) (W : oW Z) (a b_ : Addr) (x w : Nat) (h0 : Heap) (F : QQ Z h0 a x) (G : QQ Z h0 b_ w) (hz : x = 0 ∨ w = 0) :
  KH l Z WU jdk_2097_method_40_code 2 (some (.object "java/math/BigInteger")) ⟨1, 0, 0, 28⟩ #[.ref a, .ref b_] h0 (fun a => h0.size ≤ a) (fun v h => ∃ r, v = some (.ref r) ∧ QQ Z h r 0 ∧ h0 = h) := by
 refine Q9 Ga Gu fun p e s m below meth c C hs => ?_
 refine K0 0 C (YK.g 0) ?_
 refine K0 1 C (YK.g 1) ?_
 refine KD 2 C 0 (YK.g 2) ?_
 refine KD 3 C 0 (YK.g 3) ?_
 refine KD 4 C 0 (YK.g 4) ?_
 refine Kf 5 C (BZ hw W a b_ x w _ F G hz) (F.1) (hw.g 563) (QB.of (hw.g 375 rfl) rfl) (hw.g 565) (hw.g 564) (hw.g 365) (hw.g 567) Gd (YK.g 5) (argsL := [_, _, _, _]) rfl rfl rfl rfl ?_
 rintro _ _ ⟨q, rfl, Fq, rfl⟩ -
 refine KL 8 C (YK.g 6) (fun _ _ => ⟨q, rfl, Fq, rfl⟩)
theorem Ct (hw : Kh Z a0) (W : oW Z) (a b_ : Addr) (x w : Nat) (h0 : Heap) (F : QQ Z h0 a x) (G : QQ Z h0 b_ w) (hz : x = 0 ∨ w = 0) :
  KH l Z WU jdk_2097_method_40_code 2 (some (.object "java/math/BigInteger")) ⟨5, 2, 7, 136⟩ #[.ref a, .ref b_] h0 (fun a => h0.size ≤ a) (fun v h => ∃ r, v = some (.ref r) ∧ QQ Z h r (x * w)) := by
 refine Q9 Ga Gu fun p e s m below meth c C hs => ?_
 refine K0 0 C (YK.g 0) ?_
 refine K0 1 C (YK.g 1) ?_
 refine KD 2 C 0 (YK.g 2) ?_
 refine KD 3 C 0 (YK.g 3) ?_
 refine KD 4 C 0 (YK.g 4) ?_
 refine Kf 5 C (BZ hw W a b_ x w _ F G hz) (F.1) (hw.g 563) (QB.of (hw.g 375 rfl) rfl) (hw.g 565) (hw.g 564) (hw.g 365) (hw.g 567) Gd (YK.g 5) (argsL := [_, _, _, _]) rfl rfl rfl rfl ?_
 rintro _ _ ⟨q, rfl, Fq, rfl⟩ -
 refine KL 8 C (YK.g 6) (fun _ _ => ⟨q, rfl, by rcases hz with rfl | rfl <;> simpa using Fq⟩)
theorem Gv (hw : Kh Z a0) (W : oW Z) (a b_ : Addr) (x w : Nat) (h0 : Heap) (F : QQ Z h0 a x) (G : QQ Z h0 b_ w) (hz : (x = 0 ∨ w = 0) ∨ (x = 1 ∧ w = 1) ∨ (x = 1 ∧ w = 2) ∨ (x = 2 ∧ w = 1) ∨ (x = 2 ∧ w = 2) ∨ (x = 4 ∧ w = 1)) :
  KH l Z WU jdk_2097_method_40_code 2 (some (.object "java/math/BigInteger")) ⟨5, 2, 7, 136⟩ #[.ref a, .ref b_] h0 (fun a => h0.size ≤ a) (fun v h => ∃ r, v = some (.ref r) ∧ QQ Z h r (x * w)) := by
 rcases hz with hz | ⟨rfl, rfl⟩ | ⟨rfl, rfl⟩ | ⟨rfl, rfl⟩ | ⟨rfl, rfl⟩ | ⟨rfl, rfl⟩
 ·exact Ct hw W a b_ x w h0 F G hz
 ·exact JU hw W a b_ _ h0 F G (by decide)
 ·exact Ta hw W a b_ _ h0 F G (by decide)
 ·exact JU hw W a b_ _ h0 F G (by decide)
 ·exact Ta hw W a b_ _ h0 F G (by decide)
 ·exact JU hw W a b_ _ h0 F G (by decide)
def UV : MethodName := ⟨"java/math/BigInteger", "add", "(Ljava/math/BigInteger;)Ljava/math/BigInteger;"⟩
theorem GD : plainFor UV = true := by decide +kernel
theorem Jr {x0 : Addr} {x1 : Addr} (m : MethodId) : entryFrame m #[.ref x0, .ref x1] 4 = oF m 0 [.val (.ref x0), .val (.ref x1), .unset, .unset] [] := by (first | (simp [entryFrame, oF, mkF, argsToLocals, Value.category]; done) | rfl)
theorem EB (hw : Kh Z a0) (a b_ : Addr) (x : Nat) (h0 : Heap) (F : QQ Z h0 a x) (G : QQ Z h0 b_ 0) :
  KH l Z UV jdk_2097_method_32_code 4 (some (.object "java/math/BigInteger")) ⟨0, 0, 0, 0⟩ #[.ref a, .ref b_] h0 (fun a => h0.size ≤ a) (fun v h => v = some (.ref a) ∧ h0 = h) := by
 refine Q9 GD Jr fun p e s m below meth c C hs => ?_
 refine K0 0 C (XK.g 0) ?_
 refine KF 1 C (hw.g 377) Via.refl G.z (XK.g 1) ?_
 refine KW 4 C (XK.g 2) ?_
 refine K0 7 C (XK.g 3) ?_
 refine KL 8 C (XK.g 4) (fun _ _ => ⟨rfl, rfl⟩)
theorem DL (hw : Kh Z a0) (a b_ : Addr) (x : Nat) (h0 : Heap) (F : QQ Z h0 a 0) (G : QQ Z h0 b_ x) (hx : x ≠ 0) :
  KH l Z UV jdk_2097_method_32_code 4 (some (.object "java/math/BigInteger")) ⟨0, 0, 0, 0⟩ #[.ref a, .ref b_] h0 (fun a => h0.size ≤ a) (fun v h => v = some (.ref b_) ∧ h0 = h) := by
 refine Q9 GD Jr fun p e s m below meth c C hs => ?_
 obtain ⟨m2, S2, M2, A2⟩ := G.p hx
 refine K0 0 C (XK.g 0) ?_
 refine KF 1 C (hw.g 377) Via.refl S2 (XK.g 1) ?_
 refine KQ 4 C 9 (XK.g 2) ?_
 refine K0 9 C (XK.g 5) ?_
 refine KF 10 C (hw.g 377) Via.refl F.z (XK.g 6) ?_
 refine KW 13 C (XK.g 7) ?_
 refine K0 16 C (XK.g 8) ?_
 refine KL 17 C (XK.g 9) (fun _ _ => ⟨rfl, rfl⟩)
def A9 : MethodName := ⟨"java/math/BigInteger", "add", "([I[I)[I"⟩
theorem R_ : plainFor A9 = true := by decide +kernel
theorem DC {x0 : Addr} {x1 : Addr} (m : MethodId) : entryFrame m #[.ref x0, .ref x1] 9 = oF m 0 [.val (.ref x0), .val (.ref x1), .unset, .unset, .unset, .unset, .unset, .unset, .unset] [] := by (first | (simp [entryFrame, oF, mkF, argsToLocals, Value.category]; done) | rfl)
theorem DF (hw : Kh Z a0) (ma na : Addr) (h0 : Heap) (A : XE Z h0 ma .int "[I" [.int 2]) (D : XE Z h0 na .int "[I" [.int 2]) :
  KH l Z A9 jdk_2097_method_35_code 9 (some (.array .int)) ⟨0, 1, 1, 0⟩ #[.ref ma, .ref na] h0 (fun a => h0.size ≤ a) (fun v h => ∃ q, v = some (.ref q) ∧ h0.size ≤ q ∧ XE Z h q .int "[I" [.int 4]) := by
 refine Q9 R_ DC fun p e s m below meth c C hs => ?_
 refine K0 0 C (QH.g 0) ?_
 refine KZ 1 C A.1 (QH.g 1) ?_
 rw [show Int32.ofNat (List.length [Value.int _]) = 1 from rfl]
 refine K0 2 C (QH.g 2) ?_
 refine KZ 3 C D.1 (QH.g 3) ?_
 rw [show Int32.ofNat (List.length [Value.int _]) = 1 from rfl]
 refine KU 4 C 13 (QH.g 4) ?_
 refine K0 13 C (QH.g 5) ?_
 refine KZ 14 C A.1 (QH.g 6) ?_
 rw [show Int32.ofNat (List.length [Value.int _]) = 1 from rfl]
 refine KO 15 C (Ls' := [_, _, _, _, _, _, _, _, _]) (QH.g 7) rfl ?_
 refine K0 16 C (QH.g 8) ?_
 refine KZ 17 C D.1 (QH.g 9) ?_
 rw [show Int32.ofNat (List.length [Value.int _]) = 1 from rfl]
 refine KO 18 C (Ls' := [_, _, _, _, _, _, _, _, _]) (QH.g 10) rfl ?_
 refine K8 19 C (QH.g 11) ?_
 refine Q7 C (aty := .int) (pc := 20) (ad := "[I") 1 1 (hw.g 592) (QH.g 12) rfl (by decide) (by decide) (by decide) (by decide) (by decide) ?_
 intro h1 q hq hPq E1 D1
 refine Kz 22 C (Ls' := [_, _, _, _, _, _, _, _, _]) (QH.g 13) rfl rfl ?_
 refine KX 24 C 0 (QH.g 14) ?_
 refine Ky 25 C (Ls' := [_, _, _, _, _, _, _, _, _]) (QH.g 15) rfl ?_
 refine K8 27 C (QH.g 16) ?_
 refine KD 28 C 1 (QH.g 17) ?_
 refine KS 29 C (QH.g 18) ?_
 refine K0 32 C (QH.g 19) ?_
 refine Q5 33 C (w := (-1)) (Ls' := [_, _, _, _, _, _, _, _, _]) (QH.g 20) (by decide) rfl rfl ?_
 refine K8 36 C (QH.g 21) ?_
 refine Kl 37 C (v := .int 2) 0 (A.ext E1).1 rfl rfl (QH.g 22) ?_
 refine Xl 38 C (QH.g 23) ?_
 refine Kq 39 C (hw.g 725) (QH.g 24) ?_
 refine YP 42 C (QH.g 25) ?_
 refine K0 43 C (QH.g 26) ?_
 refine KD 44 C 0 (QH.g 27) ?_
 refine Kl 45 C (v := .int 2) 0 (D.ext E1).1 rfl rfl (QH.g 28) ?_
 refine Xl 46 C (QH.g 29) ?_
 refine Kq 47 C (hw.g 725) (QH.g 30) ?_
 refine YP 50 C (QH.g 31) ?_
 refine QT 51 C (QH.g 32) ?_
 refine Ky 52 C (Ls' := [_, _, _, _, _, _, _, _, _]) (QH.g 33) rfl ?_
 refine Kb 54 C (QH.g 34) ?_
 refine K8 56 C (QH.g 35) ?_
 refine Kw 57 C (QH.g 36) ?_
 refine Xm 59 C (QH.g 37) ?_
 refine QX 60 C 0 D1.1 (by decide) (by decide) hPq (QH.g 38) ?_
 intro h2 W2 D2
 refine KT 61 C 109 (QH.g 39) ?_
 refine Kw 109 C (QH.g 40) ?_
 refine KN 111 C 32 (QH.g 41) ?_
 refine Hh 113 C (QH.g 42) ?_
 refine KX 114 C 0 (QH.g 43) ?_
 refine Kc 115 C (QH.g 44) ?_
 refine KQ 116 C 123 (QH.g 45) ?_
 refine KD 123 C 0 (QH.g 46) ?_
 refine KG 124 C (Ls' := [_, _, _, _, _, _, _, _, _]) (QH.g 47) rfl ?_
 refine K8 126 C (QH.g 48) ?_
 refine KQ 127 C 161 (QH.g 49) ?_
 refine K8 161 C (QH.g 50) ?_
 refine KQ 162 C 178 (QH.g 51) ?_
 refine KE 178 C (QH.g 52) ?_
 refine KQ 180 C 212 (QH.g 53) ?_
 refine Kb 212 C (QH.g 54) ?_
 refine KL 214 C (QH.g 55) (fun _ _ => ⟨q, rfl, Nat.le_of_eq hq.symm, D1.same W2⟩)
theorem AE (hw : Kh Z a0) (a b_ : Addr) (h0 : Heap) (F : QQ Z h0 a 2) (G : QQ Z h0 b_ 2) :
  KH l Z UV jdk_2097_method_32_code 4 (some (.object "java/math/BigInteger")) ⟨3, 2, 7, 76⟩ #[.ref a, .ref b_] h0 (fun a => h0.size ≤ a) (fun v h => ∃ r, v = some (.ref r) ∧ QQ Z h r 4) := by
 refine Q9 GD Jr fun p e s m below meth c C hs => ?_
 obtain ⟨m1, S1, M1, A1⟩ := F.p (by decide)
 obtain ⟨m2, S2, M2, A2⟩ := G.p (by decide)
 refine K0 0 C (XK.g 0) ?_
 refine KF 1 C (hw.g 377) Via.refl S2 (XK.g 1) ?_
 refine KQ 4 C 9 (XK.g 2) ?_
 refine K0 9 C (XK.g 5) ?_
 refine KF 10 C (hw.g 377) Via.refl S1 (XK.g 6) ?_
 refine KQ 13 C 18 (XK.g 7) ?_
 refine K0 18 C (XK.g 10) ?_
 refine KF 19 C (hw.g 377) Via.refl S2 (XK.g 11) ?_
 refine K0 22 C (XK.g 12) ?_
 refine KF 23 C (hw.g 377) Via.refl S1 (XK.g 13) ?_
 refine KS 26 C (XK.g 14) ?_
 refine QE 29 C (hw.g 583) (hw.g 584) (hw.g 365) (XK.g 15) ?_
 intro h1 a1 ha hPa E1 X1 D1
 have FS := D1 (Or.inr (hw.g 378)) (ty := .int) (by decide)
 have FM := D1 (Or.inr (hw.g 410)) (ty := (.array .int)) (by decide)
 refine Ku 32 C (XK.g 16) rfl ?_
 refine K0 33 C (XK.g 17) ?_
 refine KF 34 C (hw.g 573) Via.refl (M1.ext E1) (XK.g 18) ?_
 refine K0 37 C (XK.g 19) ?_
 refine KF 38 C (hw.g 573) Via.refl (M2.ext E1) (XK.g 20) ?_
 refine KK 41 C (DF hw m1 m2 _ (A1.ext E1) (A2.ext E1)) (hw.g 722) (hw.g 723) (hw.g 365) (hw.g 724) Tp (XK.g 21) (argsL := [_, _]) rfl rfl rfl rfl ?_
 rintro _ h2 ⟨q, rfl, hq, D2⟩ K2
 refine K0 44 C (XK.g 22) ?_
 refine KF 45 C (hw.g 377) Via.refl ((S1.ext E1).ext K2.ext) (XK.g 23) ?_
 refine KV 48 C (Rf hw a1 q 4 _ (by decide) D2 (C.young a1 hPa) (X1.ext K2.ext) (FS.ext K2.ext) (FM.ext K2.ext)) (hw.g 600) (hw.g 601) (hw.g 365) (hw.g 602) Gg (XK.g 24) (argsL := [_, _]) rfl rfl rfl rfl (hP := (fun x q r => r.elim (fun z => z ▸ hPa) (fun z => C.new x (Nat.le_trans q z)))) ?_
 rintro _ h3 ⟨rfl, F3⟩ -
 refine KL 51 C (XK.g 25) (fun _ _ => ⟨a1, rfl, F3⟩)
theorem Dz (hw : Kh Z a0) (a b_ : Addr) (x w : Nat) (h0 : Heap) (F : QQ Z h0 a x) (G : QQ Z h0 b_ w) (hz : w = 0) :
  KH l Z UV jdk_2097_method_32_code 4 (some (.object "java/math/BigInteger")) ⟨3, 2, 7, 76⟩ #[.ref a, .ref b_] h0 (fun a => h0.size ≤ a) (fun v h => ∃ r, v = some (.ref r) ∧ QQ Z h r (x + w)) := by
 refine Q9 GD Jr fun p e s m below meth c C hs => ?_
 subst hz
 refine K0 0 C (XK.g 0) ?_
 refine KF 1 C (hw.g 377) Via.refl G.z (XK.g 1) ?_
 refine KW 4 C (XK.g 2) ?_
 refine K0 7 C (XK.g 3) ?_
 refine KL 8 C (XK.g 4) (fun _ _ => ⟨a, rfl, F⟩)
theorem Eg (hw : Kh Z a0) (a b_ : Addr) (x w : Nat) (h0 : Heap) (F : QQ Z h0 a x) (G : QQ Z h0 b_ w) (hz : x = 0) (hx : w ≠ 0) :
  KH l Z UV jdk_2097_method_32_code 4 (some (.object "java/math/BigInteger")) ⟨3, 2, 7, 76⟩ #[.ref a, .ref b_] h0 (fun a => h0.size ≤ a) (fun v h => ∃ r, v = some (.ref r) ∧ QQ Z h r (x + w)) := by
 refine Q9 GD Jr fun p e s m below meth c C hs => ?_
 subst hz
 obtain ⟨m2, S2, M2, A2⟩ := G.p hx
 refine K0 0 C (XK.g 0) ?_
 refine KF 1 C (hw.g 377) Via.refl S2 (XK.g 1) ?_
 refine KQ 4 C 9 (XK.g 2) ?_
 refine K0 9 C (XK.g 5) ?_
 refine KF 10 C (hw.g 377) Via.refl F.z (XK.g 6) ?_
 refine KW 13 C (XK.g 7) ?_
 refine K0 16 C (XK.g 8) ?_
 refine KL 17 C (XK.g 9) (fun _ _ => ⟨b_, rfl, by rw [Nat.zero_add]; exact G⟩)
theorem De (hw : Kh Z a0) (a b_ : Addr) (x w : Nat) (h0 : Heap) (F : QQ Z h0 a x) (G : QQ Z h0 b_ w) (hz : x = 0 ∨ w = 0 ∨ (x = 2 ∧ w = 2)) :
  KH l Z UV jdk_2097_method_32_code 4 (some (.object "java/math/BigInteger")) ⟨3, 2, 7, 76⟩ #[.ref a, .ref b_] h0 (fun a => h0.size ≤ a) (fun v h => ∃ r, v = some (.ref r) ∧ QQ Z h r (x + w)) := by
 by_cases h1 : w = 0
 ·exact Dz hw a b_ x w h0 F G h1
 ·rcases hz with hz | hz | ⟨rfl, rfl⟩
  ·exact Eg hw a b_ x w h0 F G hz h1
  ·exact absurd hz h1
  ·exact AE hw a b_ h0 F G
def Bj : MethodName := ⟨"java/math/MutableBigInteger", "<init>", "()V"⟩
theorem Re : plainFor Bj = true := by decide +kernel
theorem JW (hw : Kh Z a0) (a : Addr) (h0 : Heap) (hya : Z.heap.size ≤ a) (X : Exa Z h0 a "java/math/MutableBigInteger") (FV : Fld Z h0 a "java/math/MutableBigInteger" "value" "[I" .null) (FN : Fld Z h0 a "java/math/MutableBigInteger" "intLen" "I" (.int 0)) (FO : Fld Z h0 a "java/math/MutableBigInteger" "offset" "I" (.int 0)) :
  KH l Z Bj jdk_2101_method_1_code 1 none ⟨1, 1, 1, 34⟩ #[.ref a] h0 (fun x => x = a ∨ h0.size ≤ x) (fun v h => v = none ∧ ∃ va, h0.size ≤ va ∧ QO Z h a va 0 [.int 0]) := by
 refine Xr hya Re YL fun p e s m below meth c C hs => ?_
 refine K0 0 C (YO.g 0) ?_
 refine X5 1 C (hw.g 637) (hw.g 8) (hw.g 9) (YO.g 1) rfl (by decide) (Nat.le_of_ble_eq_true rfl) ?_
 refine K0 4 C (YO.g 2) ?_
 refine KD 5 C 0 (YO.g 3) ?_
 refine Ke 6 C (hw.g 638) Via.refl FO X (Or.inl (hw.g 639)) (hw.g 631) (ty := .int) (by decide) rfl rfl (Or.inl rfl) (YO.g 4) ?_
 intro h1 W1
 replace FV := (fo W1 FV (Or.inl (hw.g 653)) (Or.inl (hw.g 639)))
 replace FN := (fo W1 FN (Or.inl (hw.g 642)) (Or.inl (hw.g 639)))
 replace FO := Fld.same W1 FO
 replace X := X.wr W1
 refine K0 9 C (YO.g 5) ?_
 refine KD 10 C 1 (YO.g 6) ?_
 refine Q7 C (aty := .int) (pc := 11) (ad := "[I") 1 1 (hw.g 592) (YO.g 7) rfl (by decide) (by decide) (by decide) (by decide) (by decide) ?_
 intro h2 va hq hPq E2 D1
 replace X := X.ext E2
 replace FV := FV.ext E2
 replace FN := FN.ext E2
 replace FO := FO.ext E2
 refine Ke 13 C (hw.g 652) Via.refl FV X (Or.inl (hw.g 653)) (hw.g 631) (ty := (.array .int)) (by decide) rfl rfl (Or.inl rfl) (YO.g 8) ?_
 intro h3 W3
 replace FV := Fld.same W3 FV
 replace FN := (fo W3 FN (Or.inl (hw.g 642)) (Or.inl (hw.g 653)))
 replace FO := (fo W3 FO (Or.inl (hw.g 639)) (Or.inl (hw.g 653)))
 replace D1 := D1.other W3 (fun z => (KR X (hw.g 631) D1.1) z.symm)
 replace X := X.wr W3
 refine K0 16 C (YO.g 9) ?_
 refine KD 17 C 0 (YO.g 10) ?_
 refine Ke 18 C (hw.g 641) Via.refl FN X (Or.inl (hw.g 642)) (hw.g 631) (ty := .int) (by decide) rfl rfl (Or.inl rfl) (YO.g 11) ?_
 intro h4 W4
 replace FV := (fo W4 FV (Or.inl (hw.g 653)) (Or.inl (hw.g 642)))
 replace FN := Fld.same W4 FN
 replace FO := (fo W4 FO (Or.inl (hw.g 639)) (Or.inl (hw.g 642)))
 replace D1 := D1.other W4 (fun z => (KR X (hw.g 631) D1.1) z.symm)
 replace X := X.wr W4
 refine Ka 21 C (YO.g 12) (fun _ _ => ⟨rfl, va, Nat.le_of_eq (hq.trans W1.size).symm, X, FV, FN, FO, D1⟩)
def Al : MethodName := ⟨"java/util/Arrays", "copyOf", "([II)[I"⟩
theorem Rs : plainFor Al = true := by decide +kernel
theorem Er (hw : Kh Z a0) (ma : Addr) (x : Int32) (h0 : Heap) (A : XE Z h0 ma .int "[I" [.int x]) :
  KH l Z Al jdk_65_method_123_code 3 (some (.array .int)) ⟨1, 1, 1, 34⟩ #[.ref ma, .int 1] h0 (fun a => h0.size ≤ a) (fun v h => ∃ q, v = some (.ref q) ∧ h0.size ≤ q ∧ XE Z h q .int "[I" [.int x]) := by
 refine Q9 Rs CO fun p e s m below meth c C hs => ?_
 refine K8 0 C (H4.g 0) ?_
 refine K0 1 C (H4.g 1) ?_
 refine KZ 2 C A.1 (H4.g 2) ?_
 rw [show Int32.ofNat (List.length [Value.int _]) = 1 from rfl]
 refine KS 3 C (H4.g 3) ?_
 refine K0 6 C (H4.g 4) ?_
 refine Hb 7 C (ad := "[I") 1 A.1 A.2 (fun v z => by simp only [List.mem_cons, List.not_mem_nil, or_false] at z; subst z; rfl) (hw.g 646) (hw.g 647) (hw.g 339) (hw.g 337) (hw.g 648) (hw.g 649) (H4.g 5) rfl (by decide) (by decide) (by simp) (by decide) (by decide) ?_
 intro h2 E2 D2 X2
 refine Qe 10 C (hw.g 650) (Ins.self X2) (H4.g 6) ?_
 refine KL 13 C (H4.g 7) (fun _ _ => ⟨_, rfl, Nat.le_refl _, D2, X2⟩)
def AF : MethodName := ⟨"java/math/MutableBigInteger", "<init>", "(Ljava/math/BigInteger;)V"⟩
theorem Ro : plainFor AF = true := by decide +kernel
theorem BK (hw : Kh Z a0) (a b_ : Addr) (v_ : Nat) (h0 : Heap) (G : QQ Z h0 b_ v_) (hv : v_ ≠ 0) (hya : Z.heap.size ≤ a) (X : Exa Z h0 a "java/math/MutableBigInteger") (FV : Fld Z h0 a "java/math/MutableBigInteger" "value" "[I" .null) (FN : Fld Z h0 a "java/math/MutableBigInteger" "intLen" "I" (.int 0)) (FO : Fld Z h0 a "java/math/MutableBigInteger" "offset" "I" (.int 0)) :
  KH l Z AF jdk_2101_method_4_code 2 none ⟨2, 1, 1, 56⟩ #[.ref a, .ref b_] h0 (fun x => x = a ∨ h0.size ≤ x) (fun v h => v = none ∧ ∃ va, h0.size ≤ va ∧ QO Z h a va 1 [.int (Int32.ofNat v_)]) := by
 refine Xr hya Ro Gu fun p e s m below meth c C hs => ?_
 obtain ⟨m1, -, M1, A1⟩ := G.p hv
 have nb : b_ ≠ a := Exa.ne G.1 X (by decide)
 refine K0 0 C (Xq.g 0) ?_
 refine X5 1 C (hw.g 637) (hw.g 8) (hw.g 9) (Xq.g 1) rfl (by decide) (Nat.le_of_ble_eq_true rfl) ?_
 refine K0 4 C (Xq.g 2) ?_
 refine KD 5 C 0 (Xq.g 3) ?_
 refine Ke 6 C (hw.g 638) Via.refl FO X (Or.inl (hw.g 639)) (hw.g 631) (ty := .int) (by decide) rfl rfl (Or.inl rfl) (Xq.g 4) ?_
 intro h1 W1
 replace FV := (fo W1 FV (Or.inl (hw.g 653)) (Or.inl (hw.g 639)))
 replace FN := (fo W1 FN (Or.inl (hw.g 642)) (Or.inl (hw.g 639)))
 replace FO := Fld.same W1 FO
 replace A1 := A1.other W1 (fun z => (KR X (hw.g 631) A1.1) z.symm)
 replace M1 := Fld.other W1 M1 (Or.inl nb)
 replace X := X.wr W1
 refine K0 9 C (Xq.g 5) ?_
 refine K0 10 C (Xq.g 6) ?_
 refine KF 11 C (hw.g 640) Via.refl M1 (Xq.g 7) ?_
 refine KZ 14 C A1.1 (Xq.g 8) ?_
 rw [show Int32.ofNat (List.length [Value.int _]) = 1 from rfl]
 refine Ke 15 C (hw.g 641) Via.refl FN X (Or.inl (hw.g 642)) (hw.g 631) (ty := .int) (by decide) rfl rfl (Or.inl rfl) (Xq.g 9) ?_
 intro h2 W2
 replace FV := (fo W2 FV (Or.inl (hw.g 653)) (Or.inl (hw.g 642)))
 replace FN := Fld.same W2 FN
 replace FO := (fo W2 FO (Or.inl (hw.g 639)) (Or.inl (hw.g 642)))
 replace A1 := A1.other W2 (fun z => (KR X (hw.g 631) A1.1) z.symm)
 replace M1 := Fld.other W2 M1 (Or.inl nb)
 replace X := X.wr W2
 refine K0 18 C (Xq.g 10) ?_
 refine K0 19 C (Xq.g 11) ?_
 refine KF 20 C (hw.g 640) Via.refl M1 (Xq.g 12) ?_
 refine K0 23 C (Xq.g 13) ?_
 refine KF 24 C (hw.g 641) Via.refl FN (Xq.g 14) ?_
 refine KK 27 C (Er hw m1 (Int32.ofNat v_) _ A1) (hw.g 643) (hw.g 644) (hw.g 229) (hw.g 645) HK (Xq.g 15) (argsL := [_, _]) rfl rfl rfl rfl ?_
 rintro _ h3 ⟨q, rfl, hq, D3⟩ K3
 replace X := X.ext K3.ext
 replace FV := FV.ext K3.ext
 replace FN := FN.ext K3.ext
 replace FO := FO.ext K3.ext
 refine Ke 30 C (hw.g 652) Via.refl FV X (Or.inl (hw.g 653)) (hw.g 631) (ty := (.array .int)) (by decide) rfl rfl (Or.inl rfl) (Xq.g 16) ?_
 intro h4 W4
 replace FV := Fld.same W4 FV
 replace FN := (fo W4 FN (Or.inl (hw.g 642)) (Or.inl (hw.g 653)))
 replace FO := (fo W4 FO (Or.inl (hw.g 639)) (Or.inl (hw.g 653)))
 replace D3 := D3.other W4 (fun z => (KR X (hw.g 631) D3.1) z.symm)
 replace X := X.wr W4
 refine Ka 33 C (Xq.g 17) (fun _ _ => ⟨rfl, q, Nat.le_trans (Nat.le_of_eq (W2.size.trans W1.size).symm) hq, X, FV, FN, FO, D3⟩)
def AH : MethodName := ⟨"java/math/MutableBigInteger", "<init>", "([I)V"⟩
theorem TF : plainFor AH = true := by decide +kernel
theorem A6 (hw : Kh Z a0) (a ma : Addr) (x : Int32) (h0 : Heap) (A : XE Z h0 ma .int "[I" [.int x]) (hya : Z.heap.size ≤ a) (X : Exa Z h0 a "java/math/MutableBigInteger") (FV : Fld Z h0 a "java/math/MutableBigInteger" "value" "[I" .null) (FN : Fld Z h0 a "java/math/MutableBigInteger" "intLen" "I" (.int 0)) (FO : Fld Z h0 a "java/math/MutableBigInteger" "offset" "I" (.int 0)) :
  KH l Z AH jdk_2101_method_3_code 2 none ⟨1, 0, 0, 34⟩ #[.ref a, .ref ma] h0 (fun x => x = a ∨ h0.size ≤ x) (fun v h => v = none ∧ QO Z h a ma 1 [.int x]) := by
 refine Xr hya TF Gu fun p e s m below meth c C hs => ?_
 refine K0 0 C (YW.g 0) ?_
 refine X5 1 C (hw.g 637) (hw.g 8) (hw.g 9) (YW.g 1) rfl (by decide) (Nat.le_of_ble_eq_true rfl) ?_
 refine K0 4 C (YW.g 2) ?_
 refine KD 5 C 0 (YW.g 3) ?_
 refine Ke 6 C (hw.g 638) Via.refl FO X (Or.inl (hw.g 639)) (hw.g 631) (ty := .int) (by decide) rfl rfl (Or.inl rfl) (YW.g 4) ?_
 intro h1 W1
 replace FV := (fo W1 FV (Or.inl (hw.g 653)) (Or.inl (hw.g 639)))
 replace FN := (fo W1 FN (Or.inl (hw.g 642)) (Or.inl (hw.g 639)))
 replace FO := Fld.same W1 FO
 replace A := A.other W1 (fun z => (KR X (hw.g 631) A.1) z.symm)
 replace X := X.wr W1
 refine K0 9 C (YW.g 5) ?_
 refine K0 10 C (YW.g 6) ?_
 refine Ke 11 C (hw.g 652) Via.refl FV X (Or.inl (hw.g 653)) (hw.g 631) (ty := (.array .int)) (by decide) rfl rfl (Or.inl rfl) (YW.g 7) ?_
 intro h2 W2
 replace FV := Fld.same W2 FV
 replace FN := (fo W2 FN (Or.inl (hw.g 642)) (Or.inl (hw.g 653)))
 replace FO := (fo W2 FO (Or.inl (hw.g 639)) (Or.inl (hw.g 653)))
 replace A := A.other W2 (fun z => (KR X (hw.g 631) A.1) z.symm)
 replace X := X.wr W2
 refine K0 14 C (YW.g 8) ?_
 refine K0 15 C (YW.g 9) ?_
 refine KZ 16 C A.1 (YW.g 10) ?_
 rw [show Int32.ofNat (List.length [Value.int _]) = 1 from rfl]
 refine Ke 17 C (hw.g 641) Via.refl FN X (Or.inl (hw.g 642)) (hw.g 631) (ty := .int) (by decide) rfl rfl (Or.inl rfl) (YW.g 11) ?_
 intro h3 W3
 replace FV := (fo W3 FV (Or.inl (hw.g 653)) (Or.inl (hw.g 642)))
 replace FN := Fld.same W3 FN
 replace FO := (fo W3 FO (Or.inl (hw.g 639)) (Or.inl (hw.g 642)))
 replace A := A.other W3 (fun z => (KR X (hw.g 631) A.1) z.symm)
 replace X := X.wr W3
 refine Ka 20 C (YW.g 12) (fun _ _ => ⟨rfl, X, FV, FN, FO, A⟩)
def Bf : MethodName := ⟨"java/math/MutableBigInteger", "getLowestSetBit", "()I"⟩
theorem TK : plainFor Bf = true := by decide +kernel
theorem Ap {x0 : Addr} (m : MethodId) : entryFrame m #[.ref x0] 3 = oF m 0 [.val (.ref x0), .unset, .unset] [] := by (first | (simp [entryFrame, oF, mkF, argsToLocals, Value.category]; done) | rfl)
theorem Gl (hw : Kh Z a0) (a va : Addr) (x_ r_ : Int32) (h0 : Heap) (F : QO Z h0 a va 1 [.int x_]) (hq : (x_ = 1 ∧ r_ = 0) ∨ (x_ = 2 ∧ r_ = 1) ∨ (x_ = 4 ∧ r_ = 2)) :
  KH l Z Bf jdk_2101_method_18_code 3 (some .int) ⟨1, 0, 0, 21⟩ #[.ref a] h0 (fun a => h0.size ≤ a) (fun v h => v = some (.int r_) ∧ h0 = h) := by
 refine Q9 TK Ap fun p e s m below meth c C hs => ?_
 rcases hq with ⟨rfl, rfl⟩ | ⟨rfl, rfl⟩ | ⟨rfl, rfl⟩ <;> (
  refine K0 0 C (Qt.g 0) ?_
  refine KF 1 C (hw.g 641) Via.refl F.N (Qt.g 1) ?_
  refine KQ 4 C 9 (Qt.g 2) ?_
  refine K0 9 C (Qt.g 3) ?_
  refine KF 10 C (hw.g 641) Via.refl F.N (Qt.g 4) ?_
  refine KD 13 C 1 (Qt.g 5) ?_
  refine Kt 14 C (Qt.g 6) ?_
  refine KO 15 C (Ls' := [_, _, _]) (Qt.g 7) rfl ?_
  refine K8 16 C (Qt.g 8) ?_
  refine KQ 17 C 40 (Qt.g 9) ?_
  refine K0 40 C (Qt.g 10) ?_
  refine KF 41 C (hw.g 652) Via.refl F.V (Qt.g 11) ?_
  refine K8 44 C (Qt.g 12) ?_
  refine K0 45 C (Qt.g 13) ?_
  refine KF 46 C (hw.g 638) Via.refl F.O (Qt.g 14) ?_
  refine Kg 49 C (Qt.g 15) ?_
  refine Kl 50 C (v := .int _) 0 F.A.1 (by decide) rfl (Qt.g 16) ?_
  refine KO 51 C (Ls' := [_, _, _]) (Qt.g 17) rfl ?_
  refine K8 52 C (Qt.g 18) ?_
  refine KQ 53 C 58 (Qt.g 19) ?_
  refine K0 58 C (Qt.g 20) ?_
  refine KF 59 C (hw.g 641) Via.refl F.N (Qt.g 21) ?_
  refine KD 62 C 1 (Qt.g 22) ?_
  refine Kt 63 C (Qt.g 23) ?_
  refine K8 64 C (Qt.g 24) ?_
  refine Kt 65 C (Qt.g 25) ?_
  refine KD 66 C 5 (Qt.g 26) ?_
  refine XN 67 C (Qt.g 27) ?_
  refine K8 68 C (Qt.g 28) ?_
  refine KK 69 C (ET hw _ _ _ (by first | exact Or.inl ⟨rfl, rfl⟩ | exact Or.inr (Or.inl ⟨rfl, rfl⟩) | exact Or.inr (Or.inr ⟨rfl, rfl⟩))) (hw.g 676) (hw.g 586) (hw.g 198) (hw.g 587) XY (Qt.g 29) (argsL := [_]) rfl rfl rfl rfl ?_
  rintro _ _ ⟨rfl, rfl⟩ -
  refine Kg 72 C (Qt.g 30) ?_
  refine KP 73 C (Qt.g 31) rfl (fun _ _ => ⟨by first | rfl | decide, rfl⟩)
  )
def Bh : MethodName := ⟨"java/math/MutableBigInteger", "primitiveRightShift", "(I)V"⟩
theorem RT : plainFor Bh = true := by decide +kernel
theorem E0 {x0 : Addr} {x1 : Int32} (m : MethodId) : entryFrame m #[.ref x0, .int x1] 7 = oF m 0 [.val (.ref x0), .val (.int x1), .unset, .unset, .unset, .unset, .unset] [] := by (first | (simp [entryFrame, oF, mkF, argsToLocals, Value.category]; done) | rfl)
theorem Du (hw : Kh Z a0) (a va : Addr) (x_ r_ : Int32) (h0 : Heap) (F : QO Z h0 a va 1 [.int x_]) (hq : (x_ = 2 ∧ r_ = 1) ∨ (x_ = 4 ∧ r_ = 2)) (hya : Z.heap.size ≤ va) :
  KH l Z Bh jdk_2101_method_41_code 7 none ⟨0, 0, 0, 0⟩ #[.ref a, .int 1] h0 (fun x => x = va ∨ h0.size ≤ x) (fun v h => v = none ∧ QO Z h a va 1 [.int r_]) := by
 refine Xr hya RT E0 fun p e s m below meth c C hs => ?_
 rcases hq with ⟨rfl, rfl⟩ | ⟨rfl, rfl⟩ <;> (
  refine K0 0 C (Qs.g 0) ?_
  refine KF 1 C (hw.g 652) Via.refl F.V (Qs.g 1) ?_
  refine KY 4 C (Ls' := [_, _, _, _, _, _, _]) (Qs.g 2) rfl rfl ?_
  refine KN 5 C 32 (Qs.g 3) ?_
  refine K8 7 C (Qs.g 4) ?_
  refine Kt 8 C (Qs.g 5) ?_
  refine KO 9 C (Ls' := [_, _, _, _, _, _, _]) (Qs.g 6) rfl ?_
  refine K0 10 C (Qs.g 7) ?_
  refine KF 11 C (hw.g 638) Via.refl F.O (Qs.g 8) ?_
  refine K0 14 C (Qs.g 9) ?_
  refine KF 15 C (hw.g 641) Via.refl F.N (Qs.g 10) ?_
  refine Kg 18 C (Qs.g 11) ?_
  refine KD 19 C 1 (Qs.g 12) ?_
  refine Kt 20 C (Qs.g 13) ?_
  refine KG 21 C (Ls' := [_, _, _, _, _, _, _]) (Qs.g 14) rfl ?_
  refine K0 23 C (Qs.g 15) ?_
  refine KE 24 C (Qs.g 16) ?_
  refine Kl 26 C (v := .int _) 0 F.A.1 (by decide) rfl (Qs.g 17) ?_
  refine KG 27 C (Ls' := [_, _, _, _, _, _, _]) (Qs.g 18) rfl ?_
  refine KE 29 C (Qs.g 19) ?_
  refine K0 31 C (Qs.g 20) ?_
  refine KF 32 C (hw.g 638) Via.refl F.O (Qs.g 21) ?_
  refine KU 35 C 69 (Qs.g 22) ?_
  refine K0 69 C (Qs.g 23) ?_
  refine K0 70 C (Qs.g 24) ?_
  refine KF 71 C (hw.g 638) Via.refl F.O (Qs.g 25) ?_
  refine YN 74 C (Qs.g 26) rfl rfl ?_
  refine Kl 75 C (v := .int _) 0 F.A.1 (by decide) rfl (Qs.g 27) ?_
  refine K8 76 C (Qs.g 28) ?_
  refine Q3 77 C (Qs.g 29) ?_
  refine QX 78 C 0 F.A.1 (by decide) (by decide) (Or.inl rfl) (Qs.g 30) ?_
  intro h1 W1 _
  have F1 := F.set W1 (KR F.X (hw.g 631) F.A.1)
  refine Ka 79 C (Qs.g 31) (fun _ _ => ⟨rfl, F1⟩)
  )
def Wl : MethodName := ⟨"java/math/MutableBigInteger", "primitiveLeftShift", "(I)V"⟩
theorem Rj : plainFor Wl = true := by decide +kernel
theorem Wt {x0 : Addr} {x1 : Int32} (m : MethodId) : entryFrame m #[.ref x0, .int x1] 8 = oF m 0 [.val (.ref x0), .val (.int x1), .unset, .unset, .unset, .unset, .unset, .unset] [] := by (first | (simp [entryFrame, oF, mkF, argsToLocals, Value.category]; done) | rfl)
theorem Cs (hw : Kh Z a0) (a va : Addr) (h0 : Heap) (F : QO Z h0 a va 1 [.int 1]) (hya : Z.heap.size ≤ va) :
  KH l Z Wl jdk_2101_method_42_code 8 none ⟨0, 0, 0, 0⟩ #[.ref a, .int 1] h0 (fun x => x = va ∨ h0.size ≤ x) (fun v h => v = none ∧ QO Z h a va 1 [.int 2]) := by
 refine Xr hya Rj Wt fun p e s m below meth c C hs => ?_
 refine K0 0 C (Qh.g 0) ?_
 refine KF 1 C (hw.g 652) Via.refl F.V (Qh.g 1) ?_
 refine KY 4 C (Ls' := [_, _, _, _, _, _, _, _]) (Qh.g 2) rfl rfl ?_
 refine KN 5 C 32 (Qh.g 3) ?_
 refine K8 7 C (Qh.g 4) ?_
 refine Kt 8 C (Qh.g 5) ?_
 refine KO 9 C (Ls' := [_, _, _, _, _, _, _, _]) (Qh.g 6) rfl ?_
 refine K0 10 C (Qh.g 7) ?_
 refine KF 11 C (hw.g 638) Via.refl F.O (Qh.g 8) ?_
 refine KG 14 C (Ls' := [_, _, _, _, _, _, _, _]) (Qh.g 9) rfl ?_
 refine K0 16 C (Qh.g 10) ?_
 refine KE 17 C (Qh.g 11) ?_
 refine Kl 19 C (v := .int 1) 0 F.A.1 (by decide) rfl (Qh.g 12) ?_
 refine KG 20 C (Ls' := [_, _, _, _, _, _, _, _]) (Qh.g 13) rfl ?_
 refine KE 22 C (Qh.g 14) ?_
 refine K0 24 C (Qh.g 15) ?_
 refine KF 25 C (hw.g 641) Via.refl F.N (Qh.g 16) ?_
 refine Kg 28 C (Qh.g 17) ?_
 refine KD 29 C 1 (Qh.g 18) ?_
 refine Kt 30 C (Qh.g 19) ?_
 refine KG 31 C (Ls' := [_, _, _, _, _, _, _, _]) (Qh.g 20) rfl ?_
 refine KE 33 C (Qh.g 21) ?_
 refine KE 35 C (Qh.g 22) ?_
 refine KU 37 C 71 (Qh.g 23) ?_
 refine K0 71 C (Qh.g 24) ?_
 refine K0 72 C (Qh.g 25) ?_
 refine KF 73 C (hw.g 638) Via.refl F.O (Qh.g 26) ?_
 refine K0 76 C (Qh.g 27) ?_
 refine KF 77 C (hw.g 641) Via.refl F.N (Qh.g 28) ?_
 refine Kg 80 C (Qh.g 29) ?_
 refine KD 81 C 1 (Qh.g 30) ?_
 refine Kt 82 C (Qh.g 31) ?_
 refine YN 83 C (Qh.g 32) rfl rfl ?_
 refine Kl 84 C (v := .int 1) 0 F.A.1 (by decide) rfl (Qh.g 33) ?_
 refine K8 85 C (Qh.g 34) ?_
 refine XN 86 C (Qh.g 35) ?_
 refine QX 87 C 0 F.A.1 (by decide) Nat.one_pos (Or.inl rfl) (Qh.g 36) ?_
 intro h1 W1 _
 have F1 : QO Z h1 a va _ [.int 2] := F.set W1 (KR F.X (hw.g 631) F.A.1)
 refine Ka 88 C (Qh.g 37) (fun _ _ => ⟨rfl, F1⟩)
def VO : MethodName := ⟨"java/math/MutableBigInteger", "rightShift", "(I)V"⟩
theorem Hg : plainFor VO = true := by decide +kernel
theorem BN {x0 : Addr} {x1 : Int32} (m : MethodId) : entryFrame m #[.ref x0, .int x1] 5 = oF m 0 [.val (.ref x0), .val (.int x1), .unset, .unset, .unset] [] := by (first | (simp [entryFrame, oF, mkF, argsToLocals, Value.category]; done) | rfl)
theorem Tw (hw : Kh Z a0) (a va : Addr) (h0 : Heap) (F : QO Z h0 a va 1 [.int 1]) (hya : Z.heap.size ≤ a) (hyb : Z.heap.size ≤ va) :
  KH l Z VO jdk_2101_method_35_code 5 none ⟨0, 0, 0, 0⟩ #[.ref a, .int 0] h0 (fun x => x = a ∨ x = va ∨ h0.size ≤ x) (fun v h => v = none ∧ QO Z h a va 1 [.int 1]) := by
 refine Gk hya hyb Hg BN fun p e s m below meth c C hs => ?_
 refine K0 0 C (QJ.g 0) ?_
 refine KF 1 C (hw.g 641) Via.refl F.N (QJ.g 1) ?_
 refine KQ 4 C 8 (QJ.g 2) ?_
 refine K8 8 C (QJ.g 3) ?_
 refine KD 9 C 5 (QJ.g 4) ?_
 refine Q3 10 C (QJ.g 5) ?_
 refine KO 11 C (Ls' := [_, _, _, _, _]) (QJ.g 6) rfl ?_
 refine K8 12 C (QJ.g 7) ?_
 refine KN 13 C 31 (QJ.g 8) ?_
 refine QA 15 C (QJ.g 9) ?_
 refine KO 16 C (Ls' := [_, _, _, _, _]) (QJ.g 10) rfl ?_
 refine K0 17 C (QJ.g 11) ?_
 refine Ku 18 C (QJ.g 12) rfl ?_
 refine KF 19 C (hw.g 641) Via.refl F.N (QJ.g 13) ?_
 refine K8 22 C (QJ.g 14) ?_
 refine Kt 23 C (QJ.g 15) ?_
 refine Ke 24 C (hw.g 641) Via.refl F.N F.X (Or.inl (hw.g 642)) (hw.g 631) (ty := .int) (by decide) rfl rfl (Or.inl rfl) (QJ.g 16) ?_
 intro h1 W1
 have F1 : QO Z h1 a va 1 [.int 1] := ⟨F.X.wr W1, (fo W1 F.V (Or.inl (hw.g 653)) (Or.inl (hw.g 642))), Fld.same W1 F.N, (fo W1 F.O (Or.inl (hw.g 639)) (Or.inl (hw.g 642))), F.A.other W1 (fun z => (KR F.X (hw.g 631) F.A.1) z.symm)⟩
 refine K8 27 C (QJ.g 17) ?_
 refine KW 28 C (QJ.g 18) ?_
 refine Ka 31 C (QJ.g 19) (fun _ _ => ⟨rfl, F1⟩)
theorem Hs (hw : Kh Z a0) (a va : Addr) (x_ r_ : Int32) (h0 : Heap) (F : QO Z h0 a va 1 [.int x_]) (hq : (x_ = 2 ∧ r_ = 1) ∨ (x_ = 4 ∧ r_ = 2)) (hya : Z.heap.size ≤ a) (hyb : Z.heap.size ≤ va) :
  KH l Z VO jdk_2101_method_35_code 5 none ⟨2, 0, 0, 41⟩ #[.ref a, .int 1] h0 (fun x => x = a ∨ x = va ∨ h0.size ≤ x) (fun v h => v = none ∧ QO Z h a va 1 [.int r_]) := by
 refine Gk hya hyb Hg BN fun p e s m below meth c C hs => ?_
 have hq0 := hq; rcases hq with ⟨rfl, rfl⟩ | ⟨rfl, rfl⟩ <;> (
  refine K0 0 C (QJ.g 0) ?_
  refine KF 1 C (hw.g 641) Via.refl F.N (QJ.g 1) ?_
  refine KQ 4 C 8 (QJ.g 2) ?_
  refine K8 8 C (QJ.g 3) ?_
  refine KD 9 C 5 (QJ.g 4) ?_
  refine Q3 10 C (QJ.g 5) ?_
  refine KO 11 C (Ls' := [_, _, _, _, _]) (QJ.g 6) rfl ?_
  refine K8 12 C (QJ.g 7) ?_
  refine KN 13 C 31 (QJ.g 8) ?_
  refine QA 15 C (QJ.g 9) ?_
  refine KO 16 C (Ls' := [_, _, _, _, _]) (QJ.g 10) rfl ?_
  refine K0 17 C (QJ.g 11) ?_
  refine Ku 18 C (QJ.g 12) rfl ?_
  refine KF 19 C (hw.g 641) Via.refl F.N (QJ.g 13) ?_
  refine K8 22 C (QJ.g 14) ?_
  refine Kt 23 C (QJ.g 15) ?_
  refine Ke 24 C (hw.g 641) Via.refl F.N F.X (Or.inl (hw.g 642)) (hw.g 631) (ty := .int) (by decide) rfl rfl (Or.inl rfl) (QJ.g 16) ?_
  intro h1 W1
  have F1 : QO Z h1 a va 1 [.int _] := ⟨F.X.wr W1, (fo W1 F.V (Or.inl (hw.g 653)) (Or.inl (hw.g 642))), Fld.same W1 F.N, (fo W1 F.O (Or.inl (hw.g 639)) (Or.inl (hw.g 642))), F.A.other W1 (fun z => (KR F.X (hw.g 631) F.A.1) z.symm)⟩
  refine K8 27 C (QJ.g 17) ?_
  refine KQ 28 C 32 (QJ.g 18) ?_
  refine K0 32 C (QJ.g 20) ?_
  refine KF 33 C (hw.g 652) Via.refl F1.V (QJ.g 21) ?_
  refine K0 36 C (QJ.g 22) ?_
  refine KF 37 C (hw.g 638) Via.refl F1.O (QJ.g 23) ?_
  refine Kl 40 C (v := .int _) 0 F1.A.1 (by decide) rfl (QJ.g 24) ?_
  refine KK 41 C (LO hw _ _ _ (by first | exact Or.inr (Or.inl ⟨rfl, rfl⟩) | exact Or.inr (Or.inr ⟨rfl, rfl⟩))) (hw.g 726) (hw.g 727) (hw.g 365) (hw.g 728) XY (QJ.g 25) (argsL := [_]) rfl rfl rfl rfl ?_
  rintro _ _ ⟨rfl, rfl⟩ -
  refine KG 44 C (Ls' := [_, _, _, _, _]) (QJ.g 26) rfl ?_
  refine K8 46 C (QJ.g 27) ?_
  refine KE 47 C (QJ.g 28) ?_
  refine KU 49 C 73 (QJ.g 29) ?_
  refine K0 73 C (QJ.g 30) ?_
  refine K8 74 C (QJ.g 31) ?_
  refine Kf 75 C (Du hw a va _ _ _ F1 hq0 hyb) (F1.X) (hw.g 732) (QB.of (hw.g 657 rfl) rfl) (hw.g 734) (hw.g 733) (hw.g 632) (hw.g 736) XO (QJ.g 32) (argsL := [_]) rfl rfl rfl rfl (hP := (fun x q r => r.elim (fun z => z ▸ (Or.inr (Or.inl rfl))) (fun z => C.new x (Nat.le_trans q z)))) ?_
  rintro _ h2 ⟨rfl, F2⟩ -
  refine Ka 78 C (QJ.g 33) (fun _ _ => ⟨rfl, F2⟩)
  )
def Bu : MethodName := ⟨"java/math/MutableBigInteger", "leftShift", "(I)V"⟩
theorem Rb : plainFor Bu = true := by decide +kernel
theorem Lv (hw : Kh Z a0) (a va : Addr) (h0 : Heap) (F : QO Z h0 a va 1 [.int 1]) (hya : Z.heap.size ≤ a) (hyb : Z.heap.size ≤ va) :
  KH l Z Bu jdk_2101_method_37_code 8 none ⟨2, 0, 0, 41⟩ #[.ref a, .int 1] h0 (fun x => x = a ∨ x = va ∨ h0.size ≤ x) (fun v h => v = none ∧ QO Z h a va 1 [.int 2]) := by
 refine Gk hya hyb Rb Wt fun p e s m below meth c C hs => ?_
 refine K0 0 C (X8.g 0) ?_
 refine KF 1 C (hw.g 641) Via.refl F.N (X8.g 1) ?_
 refine KQ 4 C 8 (X8.g 2) ?_
 refine K8 8 C (X8.g 3) ?_
 refine KD 9 C 5 (X8.g 4) ?_
 refine Q3 10 C (X8.g 5) ?_
 refine KO 11 C (Ls' := [_, _, _, _, _, _, _, _]) (X8.g 6) rfl ?_
 refine K8 12 C (X8.g 7) ?_
 refine KN 13 C 31 (X8.g 8) ?_
 refine QA 15 C (X8.g 9) ?_
 refine KO 16 C (Ls' := [_, _, _, _, _, _, _, _]) (X8.g 10) rfl ?_
 refine K0 17 C (X8.g 11) ?_
 refine KF 18 C (hw.g 652) Via.refl F.V (X8.g 12) ?_
 refine K0 21 C (X8.g 13) ?_
 refine KF 22 C (hw.g 638) Via.refl F.O (X8.g 14) ?_
 refine Kl 25 C (v := .int 1) 0 F.A.1 (by decide) rfl (X8.g 15) ?_
 refine KK 26 C (LO hw _ _ _ (Or.inl ⟨rfl, rfl⟩)) (hw.g 726) (hw.g 727) (hw.g 365) (hw.g 728) XY (X8.g 16) (argsL := [_]) rfl rfl rfl rfl ?_
 rintro _ _ ⟨rfl, rfl⟩ -
 refine KG 29 C (Ls' := [_, _, _, _, _, _, _, _]) (X8.g 17) rfl ?_
 refine K8 31 C (X8.g 18) ?_
 refine KN 32 C 32 (X8.g 19) ?_
 refine KE 34 C (X8.g 20) ?_
 refine Kt 36 C (X8.g 21) ?_
 refine KS 37 C (X8.g 22) ?_
 refine K0 40 C (X8.g 23) ?_
 refine K8 41 C (X8.g 24) ?_
 refine Kf 42 C (Cs hw a va _ F hyb) (F.X) (hw.g 742) (QB.of (hw.g 657 rfl) rfl) (hw.g 744) (hw.g 743) (hw.g 632) (hw.g 746) XO (X8.g 25) (argsL := [_]) rfl rfl rfl rfl (hP := (fun x q r => r.elim (fun z => z ▸ (Or.inr (Or.inl rfl))) (fun z => C.new x (Nat.le_trans q z)))) ?_
 rintro _ h2 ⟨rfl, F2⟩ -
 refine Ka 45 C (X8.g 26) (fun _ _ => ⟨rfl, F2⟩)
def Bl : MethodName := ⟨"java/math/MutableBigInteger", "binaryGcd", "(II)I"⟩
theorem RY : plainFor Bl = true := by decide +kernel
theorem CE {x0 : Int32} {x1 : Int32} (m : MethodId) : entryFrame m #[.int x0, .int x1] 5 = oF m 0 [.val (.int x0), .val (.int x1), .unset, .unset, .unset] [] := by (first | (simp [entryFrame, oF, mkF, argsToLocals, Value.category]; done) | rfl)
theorem Vs (hw : Kh Z a0) (h0 : Heap) :
  KH l Z Bl jdk_2101_method_74_code 5 (some .int) ⟨1, 0, 0, 21⟩ #[.int 1, .int 1] h0 (fun a => h0.size ≤ a) (fun v h => v = some (.int 1) ∧ h0 = h) := by
 refine Q9 RY CE fun p e s m below meth c C hs => ?_
 refine K8 0 C (Qz.g 0) ?_
 refine KQ 1 C 6 (Qz.g 1) ?_
 refine K8 6 C (Qz.g 2) ?_
 refine KQ 7 C 12 (Qz.g 3) ?_
 refine K8 12 C (Qz.g 4) ?_
 refine KK 13 C (Hy hw _) (hw.g 676) (hw.g 586) (hw.g 198) (hw.g 587) XY (Qz.g 5) (argsL := [_]) rfl rfl rfl rfl ?_
 rintro _ _ ⟨rfl, rfl⟩ -
 refine KO 16 C (Ls' := [_, _, _, _, _]) (Qz.g 6) rfl ?_
 refine K8 17 C (Qz.g 7) ?_
 refine KK 18 C (Hy hw _) (hw.g 676) (hw.g 586) (hw.g 198) (hw.g 587) XY (Qz.g 8) (argsL := [_]) rfl rfl rfl rfl ?_
 rintro _ _ ⟨rfl, rfl⟩ -
 refine KO 21 C (Ls' := [_, _, _, _, _]) (Qz.g 9) rfl ?_
 refine K8 22 C (Qz.g 10) ?_
 refine K8 23 C (Qz.g 11) ?_
 refine Q3 24 C (Qz.g 12) ?_
 refine KO 25 C (Ls' := [_, _, _, _, _]) (Qz.g 13) rfl ?_
 refine K8 26 C (Qz.g 14) ?_
 refine K8 27 C (Qz.g 15) ?_
 refine Q3 28 C (Qz.g 16) ?_
 refine KO 29 C (Ls' := [_, _, _, _, _]) (Qz.g 17) rfl ?_
 refine K8 30 C (Qz.g 18) ?_
 refine K8 31 C (Qz.g 19) ?_
 refine KU 32 C 39 (Qz.g 20) ?_
 refine K8 39 C (Qz.g 21) ?_
 refine KG 40 C (Ls' := [_, _, _, _, _]) (Qz.g 22) rfl ?_
 refine K8 42 C (Qz.g 23) ?_
 refine K8 43 C (Qz.g 24) ?_
 refine KU 44 C 86 (Qz.g 25) ?_
 refine K8 86 C (Qz.g 26) ?_
 refine KE 87 C (Qz.g 27) ?_
 refine XN 89 C (Qz.g 28) ?_
 refine KP 90 C (Qz.g 29) rfl (fun _ _ => ⟨by first | rfl | decide, rfl⟩)
def Bs : MethodName := ⟨"java/lang/Math", "abs", "(I)I"⟩
theorem Rz : plainFor Bs = true := by decide +kernel
theorem Ws (hw : Kh Z a0) (h0 : Heap) :
  KH l Z Bs jdk_29_method_59_code 1 (some .int) ⟨0, 0, 0, 0⟩ #[.int 0] h0 (fun a => h0.size ≤ a) (fun v h => v = some (.int 0) ∧ h0 = h) := by
 refine Q9 Rz GN fun p e s m below meth c C hs => ?_
 refine K8 0 C (TR.g 0) ?_
 refine KQ 1 C 9 (TR.g 1) ?_
 refine K8 9 C (TR.g 2) ?_
 refine KP 10 C (TR.g 3) rfl (fun _ _ => ⟨by first | rfl | decide, rfl⟩)
def JV : MethodName := ⟨"java/math/MutableBigInteger", "binaryGCD", "(Ljava/math/MutableBigInteger;)Ljava/math/MutableBigInteger;"⟩
theorem Gc : plainFor JV = true := by decide +kernel
theorem Va {x0 : Addr} {x1 : Addr} (m : MethodId) : entryFrame m #[.ref x0, .ref x1] 13 = oF m 0 [.val (.ref x0), .val (.ref x1), .unset, .unset, .unset, .unset, .unset, .unset, .unset, .unset, .unset, .unset, .unset] [] := by (first | (simp [entryFrame, oF, mkF, argsToLocals, Value.category]; done) | rfl)
theorem Vj (hw : Kh Z a0) (u ua q qa : Addr) (h0 : Heap) (F : QO Z h0 u ua 1 [.int 1]) (G : QO Z h0 q qa 1 [.int 1]) (hn : u ≠ q) (hm : ua ≠ qa) (lo : Nat) (hl0 : lo ≤ h0.size) (hl1 : Z.heap.size ≤ lo) (y1 : lo ≤ u) (y2 : lo ≤ ua) (y3 : lo ≤ q) (y4 : lo ≤ qa) :
  KH l Z JV jdk_2101_method_73_code 13 (some (.object "java/math/MutableBigInteger")) ⟨3, 2, 4, 68⟩ #[.ref u, .ref q] h0 (fun x => lo ≤ x) (fun v h => ∃ r ra, v = some (.ref r) ∧ QO Z h r ra 1 [.int 1]) := by
 refine KH.of Gc (fun _ q => Nat.le_trans hl0 q) (fun _ _ q => Nat.le_trans hl1 q) Va ?_
 intro p e s m below meth c C hs
 refine K0 0 C (KM.g 0) ?_
 refine KY 1 C (Ls' := [_, _, _, _, _, _, _, _, _, _, _, _, _]) (KM.g 1) rfl rfl ?_
 refine QE 2 C (hw.g 659) (hw.g 631) (hw.g 632) (KM.g 2) ?_
 intro h1 r hr hPr E1 X1 D1
 have FV := D1 (Or.inl (hw.g 653)) (ty := (.array .int)) (by decide)
 have FN := D1 (Or.inl (hw.g 642)) (ty := .int) (by decide)
 have FO := D1 (Or.inl (hw.g 639)) (ty := .int) (by decide)
 refine Ku 5 C (KM.g 3) rfl ?_
 refine KV 6 C (JW hw r _ (C.young r hPr) X1 FV FN FO) (hw.g 660) (hw.g 661) (hw.g 632) (hw.g 662) QL (KM.g 4) (argsL := []) rfl rfl rfl rfl (hP := (fun x q r => r.elim (fun z => z ▸ hPr) (fun z => C.new x (Nat.le_trans q z)))) ?_
 rintro _ h2 ⟨rfl, ra, hra, R2⟩ K2
 have ER := Yb E1 K2 (fun x z => z.elim (fun z => z ▸ Nat.le_of_eq hr.symm) (fun z => Nat.le_trans E1.1 z))
 have l5 := Nat.le_of_eq hr.symm
 have l6 := Nat.le_trans E1.1 hra
 have n1 := Qd F.X.lt l5
 have n2 := Qd F.A.1.lt l6
 have n3 := Qd G.X.lt l5
 have n4 := Qd G.A.1.lt l6
 replace F := F.ext ER
 replace G := G.ext ER
 have y5 := Nat.le_trans hl0 l6
 refine KY 9 C (Ls' := [_, _, _, _, _, _, _, _, _, _, _, _, _]) (KM.g 5) rfl rfl ?_
 refine K0 10 C (KM.g 6) ?_
 refine Kf 11 C (Gl hw u ua _ 0 _ F (by decide)) (F.X) (hw.g 671) (QB.of (hw.g 657 rfl) rfl) (hw.g 673) (hw.g 672) (hw.g 632) (hw.g 675) Qf (KM.g 7) (argsL := []) rfl rfl rfl rfl ?_
 rintro _ _ ⟨rfl, rfl⟩ -
 refine KG 14 C (Ls' := [_, _, _, _, _, _, _, _, _, _, _, _, _]) (KM.g 8) rfl ?_
 refine K0 16 C (KM.g 9) ?_
 refine Kf 17 C (Gl hw q qa _ 0 _ G (by decide)) (G.X) (hw.g 671) (QB.of (hw.g 657 rfl) rfl) (hw.g 673) (hw.g 672) (hw.g 632) (hw.g 675) Qf (KM.g 10) (argsL := []) rfl rfl rfl rfl ?_
 rintro _ _ ⟨rfl, rfl⟩ -
 refine KG 20 C (Ls' := [_, _, _, _, _, _, _, _, _, _, _, _, _]) (KM.g 11) rfl ?_
 refine KE 22 C (KM.g 12) ?_
 refine KE 24 C (KM.g 13) ?_
 refine KU 26 C 34 (KM.g 14) ?_
 refine KE 34 C (KM.g 15) ?_
 refine KG 36 C (Ls' := [_, _, _, _, _, _, _, _, _, _, _, _, _]) (KM.g 16) rfl ?_
 refine KE 38 C (KM.g 17) ?_
 refine KQ 40 C 55 (KM.g 18) ?_
 refine KE 55 C (KM.g 19) ?_
 refine KE 57 C (KM.g 20) ?_
 refine KS 59 C (KM.g 21) ?_
 refine KD 62 C 1 (KM.g 22) ?_
 refine KT 63 C 67 (KM.g 23) ?_
 refine KG 67 C (Ls' := [_, _, _, _, _, _, _, _, _, _, _, _, _]) (KM.g 24) rfl ?_
 refine KE 69 C (KM.g 25) ?_
 refine KW 71 C (KM.g 26) ?_
 refine K0 74 C (KM.g 27) ?_
 refine KT 75 C 79 (KM.g 28) ?_
 refine Kz 79 C (Ls' := [_, _, _, _, _, _, _, _, _, _, _, _, _]) (KM.g 29) rfl rfl ?_
 refine KE 81 C (KM.g 30) ?_
 refine KW 83 C (KM.g 31) ?_
 refine KD 86 C (-1) (KM.g 32) ?_
 refine KT 87 C 91 (KM.g 33) ?_
 refine KG 91 C (Ls' := [_, _, _, _, _, _, _, _, _, _, _, _, _]) (KM.g 34) rfl ?_
 refine Kb 93 C (KM.g 35) ?_
 refine Kf 95 C (Gl hw q qa _ 0 _ G (by decide)) (G.X) (hw.g 671) (QB.of (hw.g 657 rfl) rfl) (hw.g 673) (hw.g 672) (hw.g 632) (hw.g 675) Qf (KM.g 36) (argsL := []) rfl rfl rfl rfl ?_
 rintro _ _ ⟨rfl, rfl⟩ -
 refine Ku 98 C (KM.g 37) rfl ?_
 refine KG 99 C (Ls' := [_, _, _, _, _, _, _, _, _, _, _, _, _]) (KM.g 38) rfl ?_
 refine KW 101 C (KM.g 39) ?_
 refine Kb 104 C (KM.g 40) ?_
 refine KE 106 C (KM.g 41) ?_
 refine KI 108 C (Tw hw q qa _ G (Nat.le_trans hl1 y3) (Nat.le_trans hl1 y4)) (G.X) (hw.g 677) (hw.g 678) (QF (hw.g 680)) (hw.g 680) (hw.g 679) (hw.g 632) (hw.g 681) XO (KM.g 42) (argsL := [_]) rfl rfl rfl rfl (hP := (fun x q r => r.elim (fun z => z ▸ y3) (fun r => r.elim (fun z => z ▸ y4) (fun z => C.new x (Nat.le_trans q z))))) ?_
 rintro _ h5 ⟨rfl, N5⟩ K5
 replace F := F.kp2 G (hw.g 631) hn hm K5
 replace R2 := R2.kp2 G (hw.g 631) n3 n4 K5
 replace G := N5
 refine KE 111 C (KM.g 43) ?_
 refine KQ 113 C 122 (KM.g 44) ?_
 refine Kb 122 C (KM.g 45) ?_
 refine KY 124 C (Ls' := [_, _, _, _, _, _, _, _, _, _, _, _, _]) (KM.g 46) rfl rfl ?_
 refine K0 125 C (KM.g 47) ?_
 refine KF 126 C (hw.g 641) Via.refl F.N (KM.g 48) ?_
 refine KD 129 C 2 (KM.g 49) ?_
 refine KS 130 C (KM.g 50) ?_
 refine K0 133 C (KM.g 51) ?_
 refine KF 134 C (hw.g 641) Via.refl G.N (KM.g 52) ?_
 refine KD 137 C 2 (KM.g 53) ?_
 refine KS 138 C (KM.g 54) ?_
 refine K0 141 C (KM.g 55) ?_
 refine KF 142 C (hw.g 652) Via.refl F.V (KM.g 56) ?_
 refine K0 145 C (KM.g 57) ?_
 refine KF 146 C (hw.g 638) Via.refl F.O (KM.g 58) ?_
 refine Kl 149 C (v := .int 1) 0 F.A.1 (by decide) rfl (KM.g 59) ?_
 refine KG 150 C (Ls' := [_, _, _, _, _, _, _, _, _, _, _, _, _]) (KM.g 60) rfl ?_
 refine K0 152 C (KM.g 61) ?_
 refine KF 153 C (hw.g 652) Via.refl G.V (KM.g 62) ?_
 refine K0 156 C (KM.g 63) ?_
 refine KF 157 C (hw.g 638) Via.refl G.O (KM.g 64) ?_
 refine Kl 160 C (v := .int 1) 0 G.A.1 (by decide) rfl (KM.g 65) ?_
 refine KG 161 C (Ls' := [_, _, _, _, _, _, _, _, _, _, _, _, _]) (KM.g 66) rfl ?_
 refine KE 163 C (KM.g 67) ?_
 refine KE 165 C (KM.g 68) ?_
 refine KK 167 C (Vs hw _) (hw.g 682) (hw.g 683) (hw.g 632) (hw.g 684) XZ (KM.g 69) (argsL := [_, _]) rfl rfl rfl rfl ?_
 rintro _ _ ⟨rfl, rfl⟩ -
 refine KG 170 C (Ls' := [_, _, _, _, _, _, _, _, _, _, _, _, _]) (KM.g 70) rfl ?_
 refine K0 172 C (KM.g 71) ?_
 refine KF 173 C (hw.g 652) Via.refl R2.V (KM.g 72) ?_
 refine KD 176 C 0 (KM.g 73) ?_
 refine KE 177 C (KM.g 74) ?_
 refine QX 179 C 0 R2.A.1 (by decide) Nat.one_pos y5 (KM.g 75) ?_
 intro h6 W6 _
 have R3 : QO Z h6 r ra _ [.int 1] := R2.set W6 (KR R2.X (hw.g 631) R2.A.1)
 refine K0 180 C (KM.g 76) ?_
 refine KD 181 C 1 (KM.g 77) ?_
 refine Ke 182 C (hw.g 641) Via.refl R3.N R3.X (Or.inl (hw.g 642)) (hw.g 631) (ty := .int) (by decide) rfl rfl hPr (KM.g 78) ?_
 intro h7 W7
 have R4 : QO Z h7 r ra 1 [.int 1] := ⟨R3.X.wr W7, (fo W7 R3.V (Or.inl (hw.g 653)) (Or.inl (hw.g 642))), Fld.same W7 R3.N, (fo W7 R3.O (Or.inl (hw.g 639)) (Or.inl (hw.g 642))), R3.A.other W7 (fun z => (KR R3.X (hw.g 631) R3.A.1) z.symm)⟩
 refine K0 185 C (KM.g 79) ?_
 refine KD 186 C 0 (KM.g 80) ?_
 refine Ke 187 C (hw.g 638) Via.refl R4.O R4.X (Or.inl (hw.g 639)) (hw.g 631) (ty := .int) (by decide) rfl rfl hPr (KM.g 81) ?_
 intro h8 W8
 have R5 : QO Z h8 r ra 1 [.int 1] := ⟨R4.X.wr W8, (fo W8 R4.V (Or.inl (hw.g 653)) (Or.inl (hw.g 639))), (fo W8 R4.N (Or.inl (hw.g 642)) (Or.inl (hw.g 639))), Fld.same W8 R4.O, R4.A.other W8 (fun z => (KR R4.X (hw.g 631) R4.A.1) z.symm)⟩
 refine KE 190 C (KM.g 82) ?_
 refine KQ 192 C 201 (KM.g 83) ?_
 refine K0 201 C (KM.g 84) ?_
 refine KL 202 C (KM.g 85) (fun _ _ => ⟨r, ra, rfl, R5⟩)
theorem Uk (hw : Kh Z a0) (u ua q qa : Addr) (h0 : Heap) (F : QO Z h0 u ua 1 [.int 4]) (G : QO Z h0 q qa 1 [.int 2]) (hn : u ≠ q) (hm : ua ≠ qa) (lo : Nat) (hl0 : lo ≤ h0.size) (hl1 : Z.heap.size ≤ lo) (y1 : lo ≤ u) (y2 : lo ≤ ua) (y3 : lo ≤ q) (y4 : lo ≤ qa) :
  KH l Z JV jdk_2101_method_73_code 13 (some (.object "java/math/MutableBigInteger")) ⟨3, 2, 4, 68⟩ #[.ref u, .ref q] h0 (fun x => lo ≤ x) (fun v h => ∃ r ra, v = some (.ref r) ∧ QO Z h r ra 1 [.int 2]) := by
 refine KH.of Gc (fun _ q => Nat.le_trans hl0 q) (fun _ _ q => Nat.le_trans hl1 q) Va ?_
 intro p e s m below meth c C hs
 refine K0 0 C (KM.g 0) ?_
 refine KY 1 C (Ls' := [_, _, _, _, _, _, _, _, _, _, _, _, _]) (KM.g 1) rfl rfl ?_
 refine QE 2 C (hw.g 659) (hw.g 631) (hw.g 632) (KM.g 2) ?_
 intro h1 r hr hPr E1 X1 D1
 have FV := D1 (Or.inl (hw.g 653)) (ty := (.array .int)) (by decide)
 have FN := D1 (Or.inl (hw.g 642)) (ty := .int) (by decide)
 have FO := D1 (Or.inl (hw.g 639)) (ty := .int) (by decide)
 refine Ku 5 C (KM.g 3) rfl ?_
 refine KV 6 C (JW hw r _ (C.young r hPr) X1 FV FN FO) (hw.g 660) (hw.g 661) (hw.g 632) (hw.g 662) QL (KM.g 4) (argsL := []) rfl rfl rfl rfl (hP := (fun x q r => r.elim (fun z => z ▸ hPr) (fun z => C.new x (Nat.le_trans q z)))) ?_
 rintro _ h2 ⟨rfl, ra, hra, R2⟩ K2
 have ER := Yb E1 K2 (fun x z => z.elim (fun z => z ▸ Nat.le_of_eq hr.symm) (fun z => Nat.le_trans E1.1 z))
 have l5 := Nat.le_of_eq hr.symm
 have l6 := Nat.le_trans E1.1 hra
 have n1 := Qd F.X.lt l5
 have n2 := Qd F.A.1.lt l6
 have n3 := Qd G.X.lt l5
 have n4 := Qd G.A.1.lt l6
 replace F := F.ext ER
 replace G := G.ext ER
 have y5 := Nat.le_trans hl0 l6
 refine KY 9 C (Ls' := [_, _, _, _, _, _, _, _, _, _, _, _, _]) (KM.g 5) rfl rfl ?_
 refine K0 10 C (KM.g 6) ?_
 refine Kf 11 C (Gl hw u ua _ 2 _ F (by decide)) (F.X) (hw.g 671) (QB.of (hw.g 657 rfl) rfl) (hw.g 673) (hw.g 672) (hw.g 632) (hw.g 675) Qf (KM.g 7) (argsL := []) rfl rfl rfl rfl ?_
 rintro _ _ ⟨rfl, rfl⟩ -
 refine KG 14 C (Ls' := [_, _, _, _, _, _, _, _, _, _, _, _, _]) (KM.g 8) rfl ?_
 refine K0 16 C (KM.g 9) ?_
 refine Kf 17 C (Gl hw q qa _ 1 _ G (by decide)) (G.X) (hw.g 671) (QB.of (hw.g 657 rfl) rfl) (hw.g 673) (hw.g 672) (hw.g 632) (hw.g 675) Qf (KM.g 10) (argsL := []) rfl rfl rfl rfl ?_
 rintro _ _ ⟨rfl, rfl⟩ -
 refine KG 20 C (Ls' := [_, _, _, _, _, _, _, _, _, _, _, _, _]) (KM.g 11) rfl ?_
 refine KE 22 C (KM.g 12) ?_
 refine KE 24 C (KM.g 13) ?_
 refine KU 26 C 34 (KM.g 14) ?_
 refine KE 34 C (KM.g 15) ?_
 refine KG 36 C (Ls' := [_, _, _, _, _, _, _, _, _, _, _, _, _]) (KM.g 16) rfl ?_
 refine KE 38 C (KM.g 17) ?_
 refine KW 40 C (KM.g 18) ?_
 refine K0 43 C (KM.g 86) ?_
 refine KE 44 C (KM.g 87) ?_
 refine KI 46 C (Hs hw u ua _ 2 _ F (by decide) (Nat.le_trans hl1 y1) (Nat.le_trans hl1 y2)) (F.X) (hw.g 677) (hw.g 678) (QF (hw.g 680)) (hw.g 680) (hw.g 679) (hw.g 632) (hw.g 681) XO (KM.g 88) (argsL := [_]) rfl rfl rfl rfl (hP := (fun x q r => r.elim (fun z => z ▸ y1) (fun r => r.elim (fun z => z ▸ y2) (fun z => C.new x (Nat.le_trans q z))))) ?_
 rintro _ h3 ⟨rfl, N3⟩ K3
 replace G := G.kp2 F (hw.g 631) hn.symm hm.symm K3
 replace R2 := R2.kp2 F (hw.g 631) n1 n2 K3
 replace F := N3
 refine K0 49 C (KM.g 89) ?_
 refine KE 50 C (KM.g 90) ?_
 refine KI 52 C (Hs hw q qa _ 1 _ G (by decide) (Nat.le_trans hl1 y3) (Nat.le_trans hl1 y4)) (G.X) (hw.g 677) (hw.g 678) (QF (hw.g 680)) (hw.g 680) (hw.g 679) (hw.g 632) (hw.g 681) XO (KM.g 91) (argsL := [_]) rfl rfl rfl rfl (hP := (fun x q r => r.elim (fun z => z ▸ y3) (fun r => r.elim (fun z => z ▸ y4) (fun z => C.new x (Nat.le_trans q z))))) ?_
 rintro _ h4 ⟨rfl, N4⟩ K4
 replace F := F.kp2 G (hw.g 631) hn hm K4
 replace R2 := R2.kp2 G (hw.g 631) n3 n4 K4
 replace G := N4
 refine KE 55 C (KM.g 19) ?_
 refine KE 57 C (KM.g 20) ?_
 refine KU 59 C 66 (KM.g 21) ?_
 refine KD 66 C 0 (KM.g 92) ?_
 refine KG 67 C (Ls' := [_, _, _, _, _, _, _, _, _, _, _, _, _]) (KM.g 24) rfl ?_
 refine KE 69 C (KM.g 25) ?_
 refine KQ 71 C 78 (KM.g 26) ?_
 refine K0 78 C (KM.g 93) ?_
 refine Kz 79 C (Ls' := [_, _, _, _, _, _, _, _, _, _, _, _, _]) (KM.g 29) rfl rfl ?_
 refine KE 81 C (KM.g 30) ?_
 refine KQ 83 C 90 (KM.g 31) ?_
 refine KD 90 C 1 (KM.g 94) ?_
 refine KG 91 C (Ls' := [_, _, _, _, _, _, _, _, _, _, _, _, _]) (KM.g 34) rfl ?_
 refine Kb 93 C (KM.g 35) ?_
 refine Kf 95 C (Gl hw u ua _ 1 _ F (by decide)) (F.X) (hw.g 671) (QB.of (hw.g 657 rfl) rfl) (hw.g 673) (hw.g 672) (hw.g 632) (hw.g 675) Qf (KM.g 36) (argsL := []) rfl rfl rfl rfl ?_
 rintro _ _ ⟨rfl, rfl⟩ -
 refine Ku 98 C (KM.g 37) rfl ?_
 refine KG 99 C (Ls' := [_, _, _, _, _, _, _, _, _, _, _, _, _]) (KM.g 38) rfl ?_
 refine KW 101 C (KM.g 39) ?_
 refine Kb 104 C (KM.g 40) ?_
 refine KE 106 C (KM.g 41) ?_
 refine KI 108 C (Hs hw u ua _ 1 _ F (by decide) (Nat.le_trans hl1 y1) (Nat.le_trans hl1 y2)) (F.X) (hw.g 677) (hw.g 678) (QF (hw.g 680)) (hw.g 680) (hw.g 679) (hw.g 632) (hw.g 681) XO (KM.g 42) (argsL := [_]) rfl rfl rfl rfl (hP := (fun x q r => r.elim (fun z => z ▸ y1) (fun r => r.elim (fun z => z ▸ y2) (fun z => C.new x (Nat.le_trans q z))))) ?_
 rintro _ h5 ⟨rfl, N5⟩ K5
 replace G := G.kp2 F (hw.g 631) hn.symm hm.symm K5
 replace R2 := R2.kp2 F (hw.g 631) n1 n2 K5
 replace F := N5
 refine KE 111 C (KM.g 43) ?_
 refine KW 113 C (KM.g 44) ?_
 refine Kb 116 C (KM.g 95) ?_
 refine KY 118 C (Ls' := [_, _, _, _, _, _, _, _, _, _, _, _, _]) (KM.g 96) rfl rfl ?_
 refine KT 119 C 125 (KM.g 97) ?_
 refine K0 125 C (KM.g 47) ?_
 refine KF 126 C (hw.g 641) Via.refl F.N (KM.g 48) ?_
 refine KD 129 C 2 (KM.g 49) ?_
 refine KS 130 C (KM.g 50) ?_
 refine K0 133 C (KM.g 51) ?_
 refine KF 134 C (hw.g 641) Via.refl G.N (KM.g 52) ?_
 refine KD 137 C 2 (KM.g 53) ?_
 refine KS 138 C (KM.g 54) ?_
 refine K0 141 C (KM.g 55) ?_
 refine KF 142 C (hw.g 652) Via.refl F.V (KM.g 56) ?_
 refine K0 145 C (KM.g 57) ?_
 refine KF 146 C (hw.g 638) Via.refl F.O (KM.g 58) ?_
 refine Kl 149 C (v := .int 1) 0 F.A.1 (by decide) rfl (KM.g 59) ?_
 refine KG 150 C (Ls' := [_, _, _, _, _, _, _, _, _, _, _, _, _]) (KM.g 60) rfl ?_
 refine K0 152 C (KM.g 61) ?_
 refine KF 153 C (hw.g 652) Via.refl G.V (KM.g 62) ?_
 refine K0 156 C (KM.g 63) ?_
 refine KF 157 C (hw.g 638) Via.refl G.O (KM.g 64) ?_
 refine Kl 160 C (v := .int 1) 0 G.A.1 (by decide) rfl (KM.g 65) ?_
 refine KG 161 C (Ls' := [_, _, _, _, _, _, _, _, _, _, _, _, _]) (KM.g 66) rfl ?_
 refine KE 163 C (KM.g 67) ?_
 refine KE 165 C (KM.g 68) ?_
 refine KK 167 C (Vs hw _) (hw.g 682) (hw.g 683) (hw.g 632) (hw.g 684) XZ (KM.g 69) (argsL := [_, _]) rfl rfl rfl rfl ?_
 rintro _ _ ⟨rfl, rfl⟩ -
 refine KG 170 C (Ls' := [_, _, _, _, _, _, _, _, _, _, _, _, _]) (KM.g 70) rfl ?_
 refine K0 172 C (KM.g 71) ?_
 refine KF 173 C (hw.g 652) Via.refl R2.V (KM.g 72) ?_
 refine KD 176 C 0 (KM.g 73) ?_
 refine KE 177 C (KM.g 74) ?_
 refine QX 179 C 0 R2.A.1 (by decide) Nat.one_pos y5 (KM.g 75) ?_
 intro h6 W6 _
 have R3 : QO Z h6 r ra _ [.int 1] := R2.set W6 (KR R2.X (hw.g 631) R2.A.1)
 refine K0 180 C (KM.g 76) ?_
 refine KD 181 C 1 (KM.g 77) ?_
 refine Ke 182 C (hw.g 641) Via.refl R3.N R3.X (Or.inl (hw.g 642)) (hw.g 631) (ty := .int) (by decide) rfl rfl hPr (KM.g 78) ?_
 intro h7 W7
 have R4 : QO Z h7 r ra 1 [.int 1] := ⟨R3.X.wr W7, (fo W7 R3.V (Or.inl (hw.g 653)) (Or.inl (hw.g 642))), Fld.same W7 R3.N, (fo W7 R3.O (Or.inl (hw.g 639)) (Or.inl (hw.g 642))), R3.A.other W7 (fun z => (KR R3.X (hw.g 631) R3.A.1) z.symm)⟩
 refine K0 185 C (KM.g 79) ?_
 refine KD 186 C 0 (KM.g 80) ?_
 refine Ke 187 C (hw.g 638) Via.refl R4.O R4.X (Or.inl (hw.g 639)) (hw.g 631) (ty := .int) (by decide) rfl rfl hPr (KM.g 81) ?_
 intro h8 W8
 have R5 : QO Z h8 r ra 1 [.int 1] := ⟨R4.X.wr W8, (fo W8 R4.V (Or.inl (hw.g 653)) (Or.inl (hw.g 639))), (fo W8 R4.N (Or.inl (hw.g 642)) (Or.inl (hw.g 639))), Fld.same W8 R4.O, R4.A.other W8 (fun z => (KR R4.X (hw.g 631) R4.A.1) z.symm)⟩
 refine KE 190 C (KM.g 82) ?_
 refine KW 192 C (KM.g 83) ?_
 refine K0 195 C (KM.g 98) ?_
 refine KE 196 C (KM.g 99) ?_
 refine KI 198 C (Lv hw r ra _ R5 (Nat.le_trans hl1 hPr) (Nat.le_trans hl1 y5)) (R5.X) (hw.g 737) (hw.g 738) (QF (hw.g 740)) (hw.g 740) (hw.g 739) (hw.g 632) (hw.g 741) XO (KM.g 100) (argsL := [_]) rfl rfl rfl rfl (hP := (fun x q r => r.elim (fun z => z ▸ hPr) (fun r => r.elim (fun z => z ▸ y5) (fun z => C.new x (Nat.le_trans q z))))) ?_
 rintro _ h9 ⟨rfl, R6⟩ -
 refine K0 201 C (KM.g 84) ?_
 refine KL 202 C (KM.g 85) (fun _ _ => ⟨r, ra, rfl, R6⟩)
theorem Vy (hw : Kh Z a0) (u ua q qa : Addr) (h0 : Heap) (F : QO Z h0 u ua 1 [.int 1]) (G : QO Z h0 q qa 1 [.int 2]) (hn : u ≠ q) (hm : ua ≠ qa) (lo : Nat) (hl0 : lo ≤ h0.size) (hl1 : Z.heap.size ≤ lo) (y1 : lo ≤ u) (y2 : lo ≤ ua) (y3 : lo ≤ q) (y4 : lo ≤ qa) :
  KH l Z JV jdk_2101_method_73_code 13 (some (.object "java/math/MutableBigInteger")) ⟨3, 2, 4, 68⟩ #[.ref u, .ref q] h0 (fun x => lo ≤ x) (fun v h => ∃ r ra, v = some (.ref r) ∧ QO Z h r ra 1 [.int 1]) := by
 refine KH.of Gc (fun _ q => Nat.le_trans hl0 q) (fun _ _ q => Nat.le_trans hl1 q) Va ?_
 intro p e s m below meth c C hs
 refine K0 0 C (KM.g 0) ?_
 refine KY 1 C (Ls' := [_, _, _, _, _, _, _, _, _, _, _, _, _]) (KM.g 1) rfl rfl ?_
 refine QE 2 C (hw.g 659) (hw.g 631) (hw.g 632) (KM.g 2) ?_
 intro h1 r hr hPr E1 X1 D1
 have FV := D1 (Or.inl (hw.g 653)) (ty := (.array .int)) (by decide)
 have FN := D1 (Or.inl (hw.g 642)) (ty := .int) (by decide)
 have FO := D1 (Or.inl (hw.g 639)) (ty := .int) (by decide)
 refine Ku 5 C (KM.g 3) rfl ?_
 refine KV 6 C (JW hw r _ (C.young r hPr) X1 FV FN FO) (hw.g 660) (hw.g 661) (hw.g 632) (hw.g 662) QL (KM.g 4) (argsL := []) rfl rfl rfl rfl (hP := (fun x q r => r.elim (fun z => z ▸ hPr) (fun z => C.new x (Nat.le_trans q z)))) ?_
 rintro _ h2 ⟨rfl, ra, hra, R2⟩ K2
 have ER := Yb E1 K2 (fun x z => z.elim (fun z => z ▸ Nat.le_of_eq hr.symm) (fun z => Nat.le_trans E1.1 z))
 have l5 := Nat.le_of_eq hr.symm
 have l6 := Nat.le_trans E1.1 hra
 have n1 := Qd F.X.lt l5
 have n2 := Qd F.A.1.lt l6
 have n3 := Qd G.X.lt l5
 have n4 := Qd G.A.1.lt l6
 replace F := F.ext ER
 replace G := G.ext ER
 have y5 := Nat.le_trans hl0 l6
 refine KY 9 C (Ls' := [_, _, _, _, _, _, _, _, _, _, _, _, _]) (KM.g 5) rfl rfl ?_
 refine K0 10 C (KM.g 6) ?_
 refine Kf 11 C (Gl hw u ua _ 0 _ F (by decide)) (F.X) (hw.g 671) (QB.of (hw.g 657 rfl) rfl) (hw.g 673) (hw.g 672) (hw.g 632) (hw.g 675) Qf (KM.g 7) (argsL := []) rfl rfl rfl rfl ?_
 rintro _ _ ⟨rfl, rfl⟩ -
 refine KG 14 C (Ls' := [_, _, _, _, _, _, _, _, _, _, _, _, _]) (KM.g 8) rfl ?_
 refine K0 16 C (KM.g 9) ?_
 refine Kf 17 C (Gl hw q qa _ 1 _ G (by decide)) (G.X) (hw.g 671) (QB.of (hw.g 657 rfl) rfl) (hw.g 673) (hw.g 672) (hw.g 632) (hw.g 675) Qf (KM.g 10) (argsL := []) rfl rfl rfl rfl ?_
 rintro _ _ ⟨rfl, rfl⟩ -
 refine KG 20 C (Ls' := [_, _, _, _, _, _, _, _, _, _, _, _, _]) (KM.g 11) rfl ?_
 refine KE 22 C (KM.g 12) ?_
 refine KE 24 C (KM.g 13) ?_
 refine KS 26 C (KM.g 14) ?_
 refine KE 29 C (KM.g 101) ?_
 refine KT 31 C 36 (KM.g 102) ?_
 refine KG 36 C (Ls' := [_, _, _, _, _, _, _, _, _, _, _, _, _]) (KM.g 16) rfl ?_
 refine KE 38 C (KM.g 17) ?_
 refine KQ 40 C 55 (KM.g 18) ?_
 refine KE 55 C (KM.g 19) ?_
 refine KE 57 C (KM.g 20) ?_
 refine KS 59 C (KM.g 21) ?_
 refine KD 62 C 1 (KM.g 22) ?_
 refine KT 63 C 67 (KM.g 23) ?_
 refine KG 67 C (Ls' := [_, _, _, _, _, _, _, _, _, _, _, _, _]) (KM.g 24) rfl ?_
 refine KE 69 C (KM.g 25) ?_
 refine KW 71 C (KM.g 26) ?_
 refine K0 74 C (KM.g 27) ?_
 refine KT 75 C 79 (KM.g 28) ?_
 refine Kz 79 C (Ls' := [_, _, _, _, _, _, _, _, _, _, _, _, _]) (KM.g 29) rfl rfl ?_
 refine KE 81 C (KM.g 30) ?_
 refine KW 83 C (KM.g 31) ?_
 refine KD 86 C (-1) (KM.g 32) ?_
 refine KT 87 C 91 (KM.g 33) ?_
 refine KG 91 C (Ls' := [_, _, _, _, _, _, _, _, _, _, _, _, _]) (KM.g 34) rfl ?_
 refine Kb 93 C (KM.g 35) ?_
 refine Kf 95 C (Gl hw q qa _ 1 _ G (by decide)) (G.X) (hw.g 671) (QB.of (hw.g 657 rfl) rfl) (hw.g 673) (hw.g 672) (hw.g 632) (hw.g 675) Qf (KM.g 36) (argsL := []) rfl rfl rfl rfl ?_
 rintro _ _ ⟨rfl, rfl⟩ -
 refine Ku 98 C (KM.g 37) rfl ?_
 refine KG 99 C (Ls' := [_, _, _, _, _, _, _, _, _, _, _, _, _]) (KM.g 38) rfl ?_
 refine KW 101 C (KM.g 39) ?_
 refine Kb 104 C (KM.g 40) ?_
 refine KE 106 C (KM.g 41) ?_
 refine KI 108 C (Hs hw q qa _ 1 _ G (by decide) (Nat.le_trans hl1 y3) (Nat.le_trans hl1 y4)) (G.X) (hw.g 677) (hw.g 678) (QF (hw.g 680)) (hw.g 680) (hw.g 679) (hw.g 632) (hw.g 681) XO (KM.g 42) (argsL := [_]) rfl rfl rfl rfl (hP := (fun x q r => r.elim (fun z => z ▸ y3) (fun r => r.elim (fun z => z ▸ y4) (fun z => C.new x (Nat.le_trans q z))))) ?_
 rintro _ h5 ⟨rfl, N5⟩ K5
 replace F := F.kp2 G (hw.g 631) hn hm K5
 replace R2 := R2.kp2 G (hw.g 631) n3 n4 K5
 replace G := N5
 refine KE 111 C (KM.g 43) ?_
 refine KQ 113 C 122 (KM.g 44) ?_
 refine Kb 122 C (KM.g 45) ?_
 refine KY 124 C (Ls' := [_, _, _, _, _, _, _, _, _, _, _, _, _]) (KM.g 46) rfl rfl ?_
 refine K0 125 C (KM.g 47) ?_
 refine KF 126 C (hw.g 641) Via.refl F.N (KM.g 48) ?_
 refine KD 129 C 2 (KM.g 49) ?_
 refine KS 130 C (KM.g 50) ?_
 refine K0 133 C (KM.g 51) ?_
 refine KF 134 C (hw.g 641) Via.refl G.N (KM.g 52) ?_
 refine KD 137 C 2 (KM.g 53) ?_
 refine KS 138 C (KM.g 54) ?_
 refine K0 141 C (KM.g 55) ?_
 refine KF 142 C (hw.g 652) Via.refl F.V (KM.g 56) ?_
 refine K0 145 C (KM.g 57) ?_
 refine KF 146 C (hw.g 638) Via.refl F.O (KM.g 58) ?_
 refine Kl 149 C (v := .int 1) 0 F.A.1 (by decide) rfl (KM.g 59) ?_
 refine KG 150 C (Ls' := [_, _, _, _, _, _, _, _, _, _, _, _, _]) (KM.g 60) rfl ?_
 refine K0 152 C (KM.g 61) ?_
 refine KF 153 C (hw.g 652) Via.refl G.V (KM.g 62) ?_
 refine K0 156 C (KM.g 63) ?_
 refine KF 157 C (hw.g 638) Via.refl G.O (KM.g 64) ?_
 refine Kl 160 C (v := .int 1) 0 G.A.1 (by decide) rfl (KM.g 65) ?_
 refine KG 161 C (Ls' := [_, _, _, _, _, _, _, _, _, _, _, _, _]) (KM.g 66) rfl ?_
 refine KE 163 C (KM.g 67) ?_
 refine KE 165 C (KM.g 68) ?_
 refine KK 167 C (Vs hw _) (hw.g 682) (hw.g 683) (hw.g 632) (hw.g 684) XZ (KM.g 69) (argsL := [_, _]) rfl rfl rfl rfl ?_
 rintro _ _ ⟨rfl, rfl⟩ -
 refine KG 170 C (Ls' := [_, _, _, _, _, _, _, _, _, _, _, _, _]) (KM.g 70) rfl ?_
 refine K0 172 C (KM.g 71) ?_
 refine KF 173 C (hw.g 652) Via.refl R2.V (KM.g 72) ?_
 refine KD 176 C 0 (KM.g 73) ?_
 refine KE 177 C (KM.g 74) ?_
 refine QX 179 C 0 R2.A.1 (by decide) Nat.one_pos y5 (KM.g 75) ?_
 intro h6 W6 _
 have R3 : QO Z h6 r ra _ [.int 1] := R2.set W6 (KR R2.X (hw.g 631) R2.A.1)
 refine K0 180 C (KM.g 76) ?_
 refine KD 181 C 1 (KM.g 77) ?_
 refine Ke 182 C (hw.g 641) Via.refl R3.N R3.X (Or.inl (hw.g 642)) (hw.g 631) (ty := .int) (by decide) rfl rfl hPr (KM.g 78) ?_
 intro h7 W7
 have R4 : QO Z h7 r ra 1 [.int 1] := ⟨R3.X.wr W7, (fo W7 R3.V (Or.inl (hw.g 653)) (Or.inl (hw.g 642))), Fld.same W7 R3.N, (fo W7 R3.O (Or.inl (hw.g 639)) (Or.inl (hw.g 642))), R3.A.other W7 (fun z => (KR R3.X (hw.g 631) R3.A.1) z.symm)⟩
 refine K0 185 C (KM.g 79) ?_
 refine KD 186 C 0 (KM.g 80) ?_
 refine Ke 187 C (hw.g 638) Via.refl R4.O R4.X (Or.inl (hw.g 639)) (hw.g 631) (ty := .int) (by decide) rfl rfl hPr (KM.g 81) ?_
 intro h8 W8
 have R5 : QO Z h8 r ra 1 [.int 1] := ⟨R4.X.wr W8, (fo W8 R4.V (Or.inl (hw.g 653)) (Or.inl (hw.g 639))), (fo W8 R4.N (Or.inl (hw.g 642)) (Or.inl (hw.g 639))), Fld.same W8 R4.O, R4.A.other W8 (fun z => (KR R4.X (hw.g 631) R4.A.1) z.symm)⟩
 refine KE 190 C (KM.g 82) ?_
 refine KQ 192 C 201 (KM.g 83) ?_
 refine K0 201 C (KM.g 84) ?_
 refine KL 202 C (KM.g 85) (fun _ _ => ⟨r, ra, rfl, R5⟩)
theorem Lu (hw : Kh Z a0) (u ua q qa : Addr) (x w r_ : Nat) (h0 : Heap) (F : QO Z h0 u ua 1 [.int (Int32.ofNat x)]) (G : QO Z h0 q qa 1 [.int (Int32.ofNat w)]) (hn : u ≠ q) (hm : ua ≠ qa) (lo : Nat) (hl0 : lo ≤ h0.size) (hl1 : Z.heap.size ≤ lo) (y1 : lo ≤ u) (y2 : lo ≤ ua) (y3 : lo ≤ q) (y4 : lo ≤ qa) (hz : (x = 1 ∧ w = 1 ∧ r_ = 1) ∨ (x = 4 ∧ w = 2 ∧ r_ = 2) ∨ (x = 1 ∧ w = 2 ∧ r_ = 1)) :
  KH l Z JV jdk_2101_method_73_code 13 (some (.object "java/math/MutableBigInteger")) ⟨3, 2, 4, 68⟩ #[.ref u, .ref q] h0 (fun x => lo ≤ x) (fun v h => ∃ r ra, v = some (.ref r) ∧ QO Z h r ra 1 [.int (Int32.ofNat r_)]) := by
 rcases hz with ⟨rfl, rfl, rfl⟩ | ⟨rfl, rfl, rfl⟩ | ⟨rfl, rfl, rfl⟩
 ·exact Vj hw u ua q qa h0 F G hn hm lo hl0 hl1 y1 y2 y3 y4
 ·exact Uk hw u ua q qa h0 F G hn hm lo hl0 hl1 y1 y2 y3 y4
 ·exact Vy hw u ua q qa h0 F G hn hm lo hl0 hl1 y1 y2 y3 y4
def AK : MethodName := ⟨"java/math/MutableBigInteger", "hybridGCD", "(Ljava/math/MutableBigInteger;)Ljava/math/MutableBigInteger;"⟩
theorem TG : plainFor AK = true := by decide +kernel
theorem Lx (hw : Kh Z a0) (u ua q qa : Addr) (x w r_ : Nat) (h0 : Heap) (F : QO Z h0 u ua 1 [.int (Int32.ofNat x)]) (G : QO Z h0 q qa 1 [.int (Int32.ofNat w)]) (hn : u ≠ q) (hm : ua ≠ qa) (lo : Nat) (hl0 : lo ≤ h0.size) (hl1 : Z.heap.size ≤ lo) (y1 : lo ≤ u) (y2 : lo ≤ ua) (y3 : lo ≤ q) (y4 : lo ≤ qa) (hz : (x = 1 ∧ w = 1 ∧ r_ = 1) ∨ (x = 4 ∧ w = 2 ∧ r_ = 2) ∨ (x = 1 ∧ w = 2 ∧ r_ = 1)) :
  KH l Z AK jdk_2101_method_72_code 5 (some (.object "java/math/MutableBigInteger")) ⟨4, 4, 8, 100⟩ #[.ref u, .ref q] h0 (fun x => lo ≤ x) (fun v h => ∃ r ra, v = some (.ref r) ∧ QO Z h r ra 1 [.int (Int32.ofNat r_)]) := by
 refine KH.of TG (fun _ q => Nat.le_trans hl0 q) (fun _ _ q => Nat.le_trans hl1 q) Rx ?_
 intro p e s m below meth c C hs
 refine K0 0 C (Xb.g 0) ?_
 refine KY 1 C (Ls' := [_, _, _, _, _]) (Xb.g 1) rfl rfl ?_
 refine QE 2 C (hw.g 659) (hw.g 631) (hw.g 632) (Xb.g 2) ?_
 intro h1 r hr hPr E1 X1 D1
 have FV := D1 (Or.inl (hw.g 653)) (ty := (.array .int)) (by decide)
 have FN := D1 (Or.inl (hw.g 642)) (ty := .int) (by decide)
 have FO := D1 (Or.inl (hw.g 639)) (ty := .int) (by decide)
 refine Ku 5 C (Xb.g 3) rfl ?_
 refine KV 6 C (JW hw r _ (C.young r hPr) X1 FV FN FO) (hw.g 660) (hw.g 661) (hw.g 632) (hw.g 662) QL (Xb.g 4) (argsL := []) rfl rfl rfl rfl (hP := (fun x q r => r.elim (fun z => z ▸ hPr) (fun z => C.new x (Nat.le_trans q z)))) ?_
 rintro _ h2 ⟨rfl, ra, hra, R2⟩ K2
 have ER := Yb E1 K2 (fun x z => z.elim (fun z => z ▸ Nat.le_of_eq hr.symm) (fun z => Nat.le_trans E1.1 z))
 replace F := F.ext ER
 replace G := G.ext ER
 refine KY 9 C (Ls' := [_, _, _, _, _]) (Xb.g 5) rfl rfl ?_
 refine K0 10 C (Xb.g 6) ?_
 refine KF 11 C (hw.g 641) Via.refl G.N (Xb.g 7) ?_
 refine KW 14 C (Xb.g 8) ?_
 refine K0 17 C (Xb.g 9) ?_
 refine KF 18 C (hw.g 641) Via.refl F.N (Xb.g 10) ?_
 refine K0 21 C (Xb.g 11) ?_
 refine KF 22 C (hw.g 641) Via.refl G.N (Xb.g 12) ?_
 refine Kt 25 C (Xb.g 13) ?_
 refine KK 26 C (Ws hw _) (hw.g 663) (hw.g 664) (hw.g 239) (hw.g 665) XY (Xb.g 14) (argsL := [_]) rfl rfl rfl rfl ?_
 rintro _ _ ⟨rfl, rfl⟩ -
 refine KD 29 C 2 (Xb.g 15) ?_
 refine KS 30 C (Xb.g 16) ?_
 refine K0 33 C (Xb.g 17) ?_
 refine K0 34 C (Xb.g 18) ?_
 refine Kf 35 C (Lu hw u ua q qa x w r_ _ F G hn hm lo (Nat.le_trans hl0 ER.1) hl1 y1 y2 y3 y4 hz) (F.X) (hw.g 666) (QB.of (hw.g 657 rfl) rfl) (hw.g 668) (hw.g 667) (hw.g 632) (hw.g 670) Jm (Xb.g 19) (argsL := [_]) rfl rfl rfl rfl (hP := (fun a q r => r)) ?_
 rintro _ h3 ⟨r, ra, rfl, R3⟩ -
 refine KL 38 C (Xb.g 20) (fun _ _ => ⟨r, ra, rfl, R3⟩)
def AV : MethodName := ⟨"java/math/MutableBigInteger", "getMagnitudeArray", "()[I"⟩
theorem T2 : plainFor AV = true := by decide +kernel
theorem Cb {x0 : Addr} (m : MethodId) : entryFrame m #[.ref x0] 2 = oF m 0 [.val (.ref x0), .unset] [] := by (first | (simp [entryFrame, oF, mkF, argsToLocals, Value.category]; done) | rfl)
theorem DH (hw : Kh Z a0) (a va : Addr) (x_ : Int32) (h0 : Heap) (F : QO Z h0 a va 1 [.int x_]) :
  KH l Z AV jdk_2101_method_7_code 2 (some (.array .int)) ⟨0, 0, 0, 0⟩ #[.ref a] h0 (fun a => h0.size ≤ a) (fun v h => v = some (.ref va) ∧ h0 = h) := by
 refine Q9 T2 Cb fun p e s m below meth c C hs => ?_
 refine K0 0 C (Yf.g 0) ?_
 refine KF 1 C (hw.g 638) Via.refl F.O (Yf.g 1) ?_
 refine KW 4 C (Yf.g 2) ?_
 refine K0 7 C (Yf.g 3) ?_
 refine KF 8 C (hw.g 652) Via.refl F.V (Yf.g 4) ?_
 refine KZ 11 C F.A.1 (Yf.g 5) ?_
 rw [show Int32.ofNat (List.length [Value.int _]) = 1 from rfl]
 refine K0 12 C (Yf.g 6) ?_
 refine KF 13 C (hw.g 641) Via.refl F.N (Yf.g 7) ?_
 refine KU 16 C 64 (Yf.g 8) ?_
 refine K0 64 C (Yf.g 9) ?_
 refine KF 65 C (hw.g 652) Via.refl F.V (Yf.g 10) ?_
 refine KL 68 C (Yf.g 11) (fun _ _ => ⟨rfl, rfl⟩)
def A7 : MethodName := ⟨"java/math/MutableBigInteger", "toBigInteger", "(I)Ljava/math/BigInteger;"⟩
theorem T5 : plainFor A7 = true := by decide +kernel
theorem B0 (hw : Kh Z a0) (a va : Addr) (x : Nat) (h0 : Heap) (F : QO Z h0 a va 1 [.int (Int32.ofNat x)]) (hx : x ≠ 0) :
  KH l Z A7 jdk_2101_method_9_code 2 (some (.object "java/math/BigInteger")) ⟨3, 1, 6, 76⟩ #[.ref a, .int 1] h0 (fun a => h0.size ≤ a) (fun v h => ∃ r, v = some (.ref r) ∧ QQ Z h r x) := by
 refine Q9 T5 VV fun p e s m below meth c C hs => ?_
 refine K0 0 C (Yi.g 0) ?_
 refine KF 1 C (hw.g 641) Via.refl F.N (Yi.g 1) ?_
 refine KW 4 C (Yi.g 2) ?_
 refine K8 7 C (Yi.g 3) ?_
 refine KQ 8 C 15 (Yi.g 4) ?_
 refine QE 15 C (hw.g 690) (hw.g 584) (hw.g 365) (Yi.g 5) ?_
 intro h1 q ha hPa E1 X1 D1
 have FS := D1 (Or.inr (hw.g 378)) (ty := .int) (by decide)
 have FM := D1 (Or.inr (hw.g 410)) (ty := (.array .int)) (by decide)
 refine Ku 18 C (Yi.g 6) rfl ?_
 refine K0 19 C (Yi.g 7) ?_
 refine Kf 20 C (DH hw a va _ _ (F.ext E1)) ((F.ext E1).X) (hw.g 691) (QB.of (hw.g 657 rfl) rfl) (hw.g 693) (hw.g 692) (hw.g 632) (hw.g 695) Vl (Yi.g 8) (argsL := []) rfl rfl rfl rfl ?_
 rintro _ _ ⟨rfl, rfl⟩ -
 refine K8 23 C (Yi.g 9) ?_
 refine KV 24 C (Rf hw q va x _ hx ((F.ext E1).A.eq (by rw [GZ, if_neg hx])) (C.young q hPa) X1 FS FM) (hw.g 696) (hw.g 601) (hw.g 365) (hw.g 602) Gg (Yi.g 10) (argsL := [_, _]) rfl rfl rfl rfl (hP := (fun x q r => r.elim (fun z => z ▸ hPa) (fun z => C.new x (Nat.le_trans q z)))) ?_
 rintro _ h3 ⟨rfl, F3⟩ -
 refine KL 27 C (Yi.g 11) (fun _ _ => ⟨q, rfl, F3⟩)
def Bb : MethodName := ⟨"java/math/BigInteger", "gcd", "(Ljava/math/BigInteger;)Ljava/math/BigInteger;"⟩
theorem TB : plainFor Bb = true := by decide +kernel
theorem Dr (hw : Kh Z a0) (a b_ : Addr) (x w r_ : Nat) (h0 : Heap) (F : QQ Z h0 a x) (G : QQ Z h0 b_ w) (hz : (x = 1 ∧ w = 1 ∧ r_ = 1) ∨ (x = 4 ∧ w = 2 ∧ r_ = 2) ∨ (x = 1 ∧ w = 2 ∧ r_ = 1)) :
  KH l Z Bb jdk_2097_method_73_code 5 (some (.object "java/math/BigInteger")) ⟨5, 9, 22, 124⟩ #[.ref a, .ref b_] h0 (fun a => h0.size ≤ a) (fun v h => ∃ r, v = some (.ref r) ∧ QQ Z h r r_) := by
 refine Q9 TB Rx fun p e s m below meth c C hs => ?_
 have nx : x ≠ 0 := by omega
 have nw : w ≠ 0 := by omega
 have SA := F.2.1
 have SB := G.2.1
 rw [if_neg nx] at SA
 rw [if_neg nw] at SB
 refine K0 0 C (XH.g 0) ?_
 refine KF 1 C (hw.g 377) Via.refl SB (XH.g 1) ?_
 refine KQ 4 C 12 (XH.g 2) ?_
 refine K0 12 C (XH.g 3) ?_
 refine KF 13 C (hw.g 377) Via.refl SA (XH.g 4) ?_
 refine KQ 16 C 24 (XH.g 5) ?_
 refine QE 24 C (hw.g 630) (hw.g 631) (hw.g 632) (XH.g 6) ?_
 intro h1 u hu hPu E1 X1 D1
 have FV := D1 (Or.inl (hw.g 653)) (ty := (.array .int)) (by decide)
 have FN := D1 (Or.inl (hw.g 642)) (ty := .int) (by decide)
 have FO := D1 (Or.inl (hw.g 639)) (ty := .int) (by decide)
 refine Ku 27 C (XH.g 7) rfl ?_
 refine K0 28 C (XH.g 8) ?_
 refine KV 29 C (BK hw u a x _ (F.ext E1) nx (C.young u hPu) X1 FV FN FO) (hw.g 633) (hw.g 634) (hw.g 632) (hw.g 636) Go (XH.g 9) (argsL := [_]) rfl rfl rfl rfl (hP := (fun x q r => r.elim (fun z => z ▸ hPu) (fun z => C.new x (Nat.le_trans q z)))) ?_
 rintro _ h2 ⟨rfl, ua, hua, U2⟩ K2
 have E2 := Yb E1 K2 (fun x z => z.elim (fun z => z ▸ Nat.le_of_eq hu.symm) (fun z => Nat.le_trans E1.1 z))
 have l1 := U2.X.lt
 have l2 := U2.A.1.lt
 refine KY 32 C (Ls' := [_, _, _, _, _]) (XH.g 10) rfl rfl ?_
 refine QE 33 C (hw.g 630) (hw.g 631) (hw.g 632) (XH.g 11) ?_
 intro h3 q hq hPq E3 X1 D3
 have FV := D3 (Or.inl (hw.g 653)) (ty := (.array .int)) (by decide)
 have FN := D3 (Or.inl (hw.g 642)) (ty := .int) (by decide)
 have FO := D3 (Or.inl (hw.g 639)) (ty := .int) (by decide)
 refine Ku 36 C (XH.g 12) rfl ?_
 refine K0 37 C (XH.g 13) ?_
 refine KV 38 C (BK hw q b_ w _ (G.ext (Ki.tr E2 E3)) nw (C.young q hPq) X1 FV FN FO) (hw.g 633) (hw.g 634) (hw.g 632) (hw.g 636) Go (XH.g 14) (argsL := [_]) rfl rfl rfl rfl (hP := (fun x q r => r.elim (fun z => z ▸ hPq) (fun z => C.new x (Nat.le_trans q z)))) ?_
 rintro _ h4 ⟨rfl, qa, hqa, V4⟩ K4
 have E4 := Yb E3 K4 (fun x z => z.elim (fun z => z ▸ Nat.le_of_eq hq.symm) (fun z => Nat.le_trans E3.1 z))
 replace U2 := U2.ext E4
 have s1 := E1.1
 have s2 := E2.1
 have s3 := E3.1
 have s4 := E4.1
 refine KY 41 C (Ls' := [_, _, _, _, _]) (XH.g 15) rfl rfl ?_
 refine K0 42 C (XH.g 16) ?_
 refine K0 43 C (XH.g 17) ?_
 refine KI 44 C (Lx hw u ua q qa x w r_ _ U2 V4 (Qd l1 (Nat.le_of_eq hq.symm)).symm (Qd l2 (Nat.le_trans s3 hqa)).symm h0.size (Nat.le_trans s2 s4) (C.young h0.size (Nat.le_refl _)) hPu (Nat.le_trans s1 hua) hPq (Nat.le_trans (Nat.le_trans s2 s3) hqa) hz) (U2.X) (hw.g 654) (hw.g 655) (QF (hw.g 657)) (hw.g 657) (hw.g 656) (hw.g 632) (hw.g 658) Jm (XH.g 18) (argsL := [_]) rfl rfl rfl rfl (hP := (fun a q r => r)) ?_
 rintro _ h5 ⟨r, ra, rfl, R5⟩ -
 refine Kz 47 C (Ls' := [_, _, _, _, _]) (XH.g 19) rfl rfl ?_
 refine Kb 49 C (XH.g 20) ?_
 refine KD 51 C 1 (XH.g 21) ?_
 refine KI 52 C (B0 hw r ra r_ _ R5 (by omega)) (R5.X) (hw.g 685) (hw.g 686) (QF (hw.g 688)) (hw.g 688) (hw.g 687) (hw.g 632) (hw.g 689) Jb (XH.g 22) (argsL := [_]) rfl rfl rfl rfl ?_
 rintro _ h6 ⟨r2, rfl, F6⟩ -
 refine KL 55 C (XH.g 23) (fun _ _ => ⟨r2, rfl, F6⟩)
def Aj : MethodName := ⟨"java/math/MutableBigInteger", "clear", "()V"⟩
theorem TA : plainFor Aj = true := by decide +kernel
theorem Dp (hw : Kh Z a0) (a va : Addr) (n_ x_ : Int32) (h0 : Heap) (F : QO Z h0 a va n_ [.int x_]) (hya : Z.heap.size ≤ a) (hyb : Z.heap.size ≤ va) :
  KH l Z Aj jdk_2101_method_13_code 3 none ⟨0, 0, 0, 0⟩ #[.ref a] h0 (fun x => x = a ∨ x = va ∨ h0.size ≤ x) (fun v h => v = none ∧ QO Z h a va 0 [.int 0]) := by
 refine Gk hya hyb TA Ap fun p e s m below meth c C hs => ?_
 refine K0 0 C (XD.g 0) ?_
 refine K0 1 C (XD.g 1) ?_
 refine KD 2 C 0 (XD.g 2) ?_
 refine YG 3 C (XD.g 3) rfl rfl ?_
 refine Ke 4 C (hw.g 641) Via.refl F.N F.X (Or.inl (hw.g 642)) (hw.g 631) (ty := .int) (by decide) rfl rfl (Or.inl rfl) (XD.g 4) ?_
 intro h1 W1
 have F1 : QO Z h1 a va 0 [.int x_] := ⟨F.X.wr W1, (fo W1 F.V (Or.inl (hw.g 653)) (Or.inl (hw.g 642))), Fld.same W1 F.N, (fo W1 F.O (Or.inl (hw.g 639)) (Or.inl (hw.g 642))), F.A.other W1 (fun z => (KR F.X (hw.g 631) F.A.1) z.symm)⟩
 refine Ke 7 C (hw.g 638) Via.refl F1.O F1.X (Or.inl (hw.g 639)) (hw.g 631) (ty := .int) (by decide) rfl rfl (Or.inl rfl) (XD.g 5) ?_
 intro h2 W2
 have F2 : QO Z h2 a va 0 [.int x_] := ⟨F1.X.wr W2, (fo W2 F1.V (Or.inl (hw.g 653)) (Or.inl (hw.g 639))), (fo W2 F1.N (Or.inl (hw.g 642)) (Or.inl (hw.g 639))), Fld.same W2 F1.O, F1.A.other W2 (fun z => (KR F1.X (hw.g 631) F1.A.1) z.symm)⟩
 refine KD 10 C 0 (XD.g 6) ?_
 refine KO 11 C (Ls' := [_, _, _]) (XD.g 7) rfl ?_
 refine K0 12 C (XD.g 8) ?_
 refine KF 13 C (hw.g 652) Via.refl F2.V (XD.g 9) ?_
 refine KZ 16 C F2.A.1 (XD.g 10) ?_
 rw [show Int32.ofNat (List.length [Value.int _]) = 1 from rfl]
 refine KO 17 C (Ls' := [_, _, _]) (XD.g 11) rfl ?_
 refine K8 18 C (XD.g 12) ?_
 refine K8 19 C (XD.g 13) ?_
 refine KS 20 C (XD.g 14) ?_
 refine K0 23 C (XD.g 15) ?_
 refine KF 24 C (hw.g 652) Via.refl F2.V (XD.g 16) ?_
 refine K8 27 C (XD.g 17) ?_
 refine KD 28 C 0 (XD.g 18) ?_
 refine QX 29 C 0 F2.A.1 (by decide) Nat.one_pos (Or.inr (Or.inl rfl)) (XD.g 19) ?_
 intro h3 W3 _
 have F3 : QO Z h3 a va _ [.int 0] := F2.set W3 (KR F2.X (hw.g 631) F2.A.1)
 refine Q5 30 C (w := 1) (Ls' := [_, _, _]) (XD.g 20) (by decide) rfl rfl ?_
 refine KT 33 C 18 (XD.g 21) ?_
 refine K8 18 C (XD.g 12) ?_
 refine K8 19 C (XD.g 13) ?_
 refine KU 20 C 36 (XD.g 14) ?_
 refine Ka 36 C (XD.g 22) (fun _ _ => ⟨rfl, F3⟩)
def Ah : MethodName := ⟨"java/math/MutableBigInteger", "divideOneWord", "(ILjava/math/MutableBigInteger;)I"⟩
theorem TM : plainFor Ah = true := by decide +kernel
theorem F4 {x0 : Addr} {x1 : Int32} {x2 : Addr} (m : MethodId) : entryFrame m #[.ref x0, .int x1, .ref x2] 15 = oF m 0 [.val (.ref x0), .val (.int x1), .val (.ref x2), .unset, .unset, .unset, .unset, .unset, .unset, .unset, .unset, .unset, .unset, .unset, .unset] [] := by (first | (simp [entryFrame, oF, mkF, argsToLocals, Value.category]; done) | rfl)
theorem DM (hw : Kh Z a0) (a ma : Addr) (x w : Nat) (h0 : Heap) (F : QO Z h0 a ma 1 [.int (Int32.ofNat x)]) (hz : (x = 4 ∧ w = 2) ∨ (x = 2 ∧ w = 1)) (c_ ca : Addr) (n_ x_ : Int32) (H : QO Z h0 c_ ca n_ [.int x_]) (n1 : a ≠ c_) (n2 : ma ≠ ca) (hya : Z.heap.size ≤ c_) (hyb : Z.heap.size ≤ ca) :
  KH l Z Ah jdk_2101_method_53_code 15 (some .int) ⟨0, 0, 0, 0⟩ #[.ref a, .int (Int32.ofNat w), .ref c_] h0 (fun x => x = c_ ∨ x = ca ∨ h0.size ≤ x) (fun v h => v = some (.int 0) ∧ QO Z h c_ ca 1 [.int (Int32.ofNat (x / w))]) := by
 refine Gk hya hyb TM F4 fun p e s m below meth c C hs => ?_
 rcases hz with ⟨rfl, rfl⟩ | ⟨rfl, rfl⟩ <;> (
  refine K8 0 C (QU.g 0) ?_
  refine Xl 1 C (QU.g 1) ?_
  refine Kq 2 C (hw.g 757) (QU.g 2) ?_
  refine YP 5 C (QU.g 3) ?_
  refine K_ 6 C (Ls' := [_, _, _, _, _, _, _, _, _, _, _, _, _, _, _]) (QU.g 4) rfl ?_
  refine K0 7 C (QU.g 5) ?_
  refine KF 8 C (hw.g 641) Via.refl F.N (QU.g 6) ?_
  refine KD 11 C 1 (QU.g 7) ?_
  refine KS 12 C (QU.g 8) ?_
  refine K0 15 C (QU.g 9) ?_
  refine KF 16 C (hw.g 652) Via.refl F.V (QU.g 10) ?_
  refine K0 19 C (QU.g 11) ?_
  refine KF 20 C (hw.g 638) Via.refl F.O (QU.g 12) ?_
  refine Kl 23 C (v := .int _) 0 F.A.1 (by decide) rfl (QU.g 13) ?_
  refine Xl 24 C (QU.g 14) ?_
  refine Kq 25 C (hw.g 757) (QU.g 15) ?_
  refine YP 28 C (QU.g 16) ?_
  refine Ky 29 C (Ls' := [_, _, _, _, _, _, _, _, _, _, _, _, _, _, _]) (QU.g 17) rfl ?_
  refine Kw 31 C (QU.g 18) ?_
  refine KJ 33 C (QU.g 19) ?_
  refine HE 34 C (QU.g 20) (by decide) ?_
  refine Xm 35 C (QU.g 21) ?_
  refine KG 36 C (Ls' := [_, _, _, _, _, _, _, _, _, _, _, _, _, _, _]) (QU.g 22) rfl ?_
  refine Kw 38 C (QU.g 23) ?_
  refine KE 40 C (QU.g 24) ?_
  refine Xl 42 C (QU.g 25) ?_
  refine KJ 43 C (QU.g 26) ?_
  refine XG 44 C (QU.g 27) ?_
  refine Jh 45 C (QU.g 28) ?_
  refine Xm 46 C (QU.g 29) ?_
  refine KG 47 C (Ls' := [_, _, _, _, _, _, _, _, _, _, _, _, _, _, _]) (QU.g 30) rfl ?_
  refine K0 49 C (QU.g 31) ?_
  refine KF 50 C (hw.g 652) Via.refl H.V (QU.g 32) ?_
  refine KD 53 C 0 (QU.g 33) ?_
  refine KE 54 C (QU.g 34) ?_
  refine QX 56 C 0 H.A.1 (by decide) Nat.one_pos (Or.inr (Or.inl rfl)) (QU.g 35) ?_
  intro h1 W1 _
  have H1 := H.set W1 (KR H.X (hw.g 631) H.A.1)
  refine K0 57 C (QU.g 36) ?_
  refine KE 58 C (QU.g 37) ?_
  refine KQ 60 C 67 (QU.g 38) ?_
  refine KD 67 C 1 (QU.g 39) ?_
  refine Ke 68 C (hw.g 641) Via.refl H1.N H1.X (Or.inl (hw.g 642)) (hw.g 631) (ty := .int) (by decide) rfl rfl (Or.inl rfl) (QU.g 40) ?_
  intro h2 W2
  have H2 : QO Z h2 c_ ca 1 [.int _] := ⟨H1.X.wr W2, (fo W2 H1.V (Or.inl (hw.g 653)) (Or.inl (hw.g 642))), Fld.same W2 H1.N, (fo W2 H1.O (Or.inl (hw.g 639)) (Or.inl (hw.g 642))), H1.A.other W2 (fun z => (KR H1.X (hw.g 631) H1.A.1) z.symm)⟩
  refine K0 71 C (QU.g 41) ?_
  refine KD 72 C 0 (QU.g 42) ?_
  refine Ke 73 C (hw.g 638) Via.refl H2.O H2.X (Or.inl (hw.g 639)) (hw.g 631) (ty := .int) (by decide) rfl rfl (Or.inl rfl) (QU.g 43) ?_
  intro h3 W3
  have H3 : QO Z h3 c_ ca 1 [.int _] := ⟨H2.X.wr W3, (fo W3 H2.V (Or.inl (hw.g 653)) (Or.inl (hw.g 639))), (fo W3 H2.N (Or.inl (hw.g 642)) (Or.inl (hw.g 639))), Fld.same W3 H2.O, H2.A.other W3 (fun z => (KR H2.X (hw.g 631) H2.A.1) z.symm)⟩
  refine KE 76 C (QU.g 44) ?_
  refine KP 78 C (QU.g 45) rfl (fun _ _ => ⟨by first | rfl | decide, H3⟩)
  )
def VB : MethodName := ⟨"java/math/MutableBigInteger", "compare", "(Ljava/math/MutableBigInteger;)I"⟩
theorem Hd : plainFor VB = true := by decide +kernel
theorem BP {x0 : Addr} {x1 : Addr} (m : MethodId) : entryFrame m #[.ref x0, .ref x1] 8 = oF m 0 [.val (.ref x0), .val (.ref x1), .unset, .unset, .unset, .unset, .unset, .unset] [] := by (first | (simp [entryFrame, oF, mkF, argsToLocals, Value.category]; done) | rfl)
theorem Aw (hw : Kh Z a0) (a ma b_ mb : Addr) (x w : Nat) (h0 : Heap) (F : QO Z h0 a ma 1 [.int (Int32.ofNat x)]) (G : QO Z h0 b_ mb 1 [.int (Int32.ofNat w)]) (hz : (x = 1 ∧ w = 1) ∨ (x = 2 ∧ w = 2)) :
  KH l Z VB jdk_2101_method_15_code 8 (some .int) ⟨0, 0, 0, 0⟩ #[.ref a, .ref b_] h0 (fun a => h0.size ≤ a) (fun v h => v = some (.int 0) ∧ h0 = h) := by
 refine Q9 Hd BP fun p e s m below meth c C hs => ?_
 rcases hz with ⟨rfl, rfl⟩ | ⟨rfl, rfl⟩ <;> (
  refine K0 0 C (Kj.g 0) ?_
  refine KF 1 C (hw.g 641) Via.refl G.N (Kj.g 1) ?_
  refine KO 4 C (Ls' := [_, _, _, _, _, _, _, _]) (Kj.g 2) rfl ?_
  refine K0 5 C (Kj.g 3) ?_
  refine KF 6 C (hw.g 641) Via.refl F.N (Kj.g 4) ?_
  refine K8 9 C (Kj.g 5) ?_
  refine KU 10 C 15 (Kj.g 6) ?_
  refine K0 15 C (Kj.g 7) ?_
  refine KF 16 C (hw.g 641) Via.refl F.N (Kj.g 8) ?_
  refine K8 19 C (Kj.g 9) ?_
  refine KU 20 C 25 (Kj.g 10) ?_
  refine K0 25 C (Kj.g 11) ?_
  refine KF 26 C (hw.g 652) Via.refl G.V (Kj.g 12) ?_
  refine KY 29 C (Ls' := [_, _, _, _, _, _, _, _]) (Kj.g 13) rfl rfl ?_
  refine K0 30 C (Kj.g 14) ?_
  refine KF 31 C (hw.g 638) Via.refl F.O (Kj.g 15) ?_
  refine KG 34 C (Ls' := [_, _, _, _, _, _, _, _]) (Kj.g 16) rfl ?_
  refine K0 36 C (Kj.g 17) ?_
  refine KF 37 C (hw.g 638) Via.refl G.O (Kj.g 18) ?_
  refine KG 40 C (Ls' := [_, _, _, _, _, _, _, _]) (Kj.g 19) rfl ?_
  refine KE 42 C (Kj.g 20) ?_
  refine K0 44 C (Kj.g 21) ?_
  refine KF 45 C (hw.g 641) Via.refl F.N (Kj.g 22) ?_
  refine K0 48 C (Kj.g 23) ?_
  refine KF 49 C (hw.g 638) Via.refl F.O (Kj.g 24) ?_
  refine Kg 52 C (Kj.g 25) ?_
  refine KS 53 C (Kj.g 26) ?_
  refine K0 56 C (Kj.g 27) ?_
  refine KF 57 C (hw.g 652) Via.refl F.V (Kj.g 28) ?_
  refine KE 60 C (Kj.g 29) ?_
  refine Kl 62 C (v := .int _) 0 F.A.1 (by decide) rfl (Kj.g 30) ?_
  refine XF 63 C (hw.g 721) (Kj.g 31) ?_
  refine Kg 65 C (Kj.g 32) ?_
  refine KG 66 C (Ls' := [_, _, _, _, _, _, _, _]) (Kj.g 33) rfl ?_
  refine K0 68 C (Kj.g 34) ?_
  refine KE 69 C (Kj.g 35) ?_
  refine Kl 71 C (v := .int _) 0 G.A.1 (by decide) rfl (Kj.g 36) ?_
  refine XF 72 C (hw.g 721) (Kj.g 37) ?_
  refine Kg 74 C (Kj.g 38) ?_
  refine KG 75 C (Ls' := [_, _, _, _, _, _, _, _]) (Kj.g 39) rfl ?_
  refine KE 77 C (Kj.g 40) ?_
  refine KE 79 C (Kj.g 41) ?_
  refine KU 81 C 86 (Kj.g 42) ?_
  refine KE 86 C (Kj.g 43) ?_
  refine KE 88 C (Kj.g 44) ?_
  refine KU 90 C 95 (Kj.g 45) ?_
  refine Q5 95 C (w := 1) (Ls' := [_, _, _, _, _, _, _, _]) (Kj.g 46) (by decide) rfl rfl ?_
  refine Q5 98 C (w := 1) (Ls' := [_, _, _, _, _, _, _, _]) (Kj.g 47) (by decide) rfl rfl ?_
  refine KT 101 C 42 (Kj.g 48) ?_
  refine KE 42 C (Kj.g 20) ?_
  refine K0 44 C (Kj.g 21) ?_
  refine KF 45 C (hw.g 641) Via.refl F.N (Kj.g 22) ?_
  refine K0 48 C (Kj.g 23) ?_
  refine KF 49 C (hw.g 638) Via.refl F.O (Kj.g 24) ?_
  refine Kg 52 C (Kj.g 25) ?_
  refine KU 53 C 104 (Kj.g 26) ?_
  refine KD 104 C 0 (Kj.g 49) ?_
  refine KP 105 C (Kj.g 50) rfl (fun _ _ => ⟨by first | rfl | decide, rfl⟩)
  )
def Rd : MethodName := ⟨"java/math/MutableBigInteger", "divideKnuth", "(Ljava/math/MutableBigInteger;Ljava/math/MutableBigInteger;Z)Ljava/math/MutableBigInteger;"⟩
theorem He : plainFor Rd = true := by decide +kernel
theorem AD {x0 : Addr} {x1 : Addr} {x2 : Addr} {x3 : Int32} (m : MethodId) : entryFrame m #[.ref x0, .ref x1, .ref x2, .int x3] 8 = oF m 0 [.val (.ref x0), .val (.ref x1), .val (.ref x2), .val (.int x3), .unset, .unset, .unset, .unset] [] := by (first | (simp [entryFrame, oF, mkF, argsToLocals, Value.category]; done) | rfl)
theorem EK (hw : Kh Z a0) (a ma b_ mb : Addr) (x w : Nat) (h0 : Heap) (F : QO Z h0 a ma 1 [.int (Int32.ofNat x)]) (G : QO Z h0 b_ mb 1 [.int (Int32.ofNat w)]) (c_ ca : Addr) (n_ x_ : Int32) (H : QO Z h0 c_ ca n_ [.int x_]) (n1 : a ≠ c_) (n2 : ma ≠ ca) (n3 : b_ ≠ c_) (n4 : mb ≠ ca) (hya : Z.heap.size ≤ c_) (hyb : Z.heap.size ≤ ca) (hz : (x = 1 ∧ w = 1) ∨ (x = 2 ∧ w = 2)) :
  KH l Z Rd jdk_2101_method_57_code 8 (some (.object "java/math/MutableBigInteger")) ⟨1, 0, 0, 34⟩ #[.ref a, .ref b_, .ref c_, .int 0] h0 (fun x => x = c_ ∨ x = ca ∨ h0.size ≤ x) (fun v h => v = some .null ∧ QO Z h c_ ca 1 [.int (Int32.ofNat (x / w))]) := by
 refine Gk hya hyb He AD fun p e s m below meth c C hs => ?_
 refine K0 0 C (Q6.g 0) ?_
 refine KF 1 C (hw.g 641) Via.refl G.N (Q6.g 1) ?_
 refine KQ 4 C 17 (Q6.g 2) ?_
 refine K0 17 C (Q6.g 3) ?_
 refine KF 18 C (hw.g 641) Via.refl F.N (Q6.g 4) ?_
 refine KQ 21 C 50 (Q6.g 5) ?_
 refine K0 50 C (Q6.g 6) ?_
 refine K0 51 C (Q6.g 7) ?_
 refine KI 52 C (Aw hw a ma b_ mb x w _ F G hz) (F.X) (hw.g 716) (hw.g 717) (QF (hw.g 719)) (hw.g 719) (hw.g 718) (hw.g 632) (hw.g 720) JZ (Q6.g 8) (argsL := [_]) rfl rfl rfl rfl ?_
 rintro _ _ ⟨rfl, rfl⟩ -
 refine KG 55 C (Ls' := [_, _, _, _, _, _, _, _]) (Q6.g 9) rfl ?_
 refine KE 57 C (Q6.g 10) ?_
 refine KQ 59 C 89 (Q6.g 11) ?_
 refine KE 89 C (Q6.g 12) ?_
 refine KW 91 C (Q6.g 13) ?_
 refine K0 94 C (Q6.g 14) ?_
 refine KF 95 C (hw.g 652) Via.refl H.V (Q6.g 15) ?_
 refine KD 98 C 0 (Q6.g 16) ?_
 refine K0 99 C (Q6.g 17) ?_
 refine KD 100 C 1 (Q6.g 18) ?_
 refine YG 101 C (Q6.g 19) rfl rfl ?_
 refine Ke 102 C (hw.g 641) Via.refl H.N H.X (Or.inl (hw.g 642)) (hw.g 631) (ty := .int) (by decide) rfl rfl (Or.inl rfl) (Q6.g 20) ?_
 intro h1 W1
 have H1 : QO Z h1 c_ ca 1 [.int x_] := ⟨H.X.wr W1, (fo W1 H.V (Or.inl (hw.g 653)) (Or.inl (hw.g 642))), Fld.same W1 H.N, (fo W1 H.O (Or.inl (hw.g 639)) (Or.inl (hw.g 642))), H.A.other W1 (fun z => (KR H.X (hw.g 631) H.A.1) z.symm)⟩
 refine QX 105 C 0 H1.A.1 (by decide) Nat.one_pos (Or.inr (Or.inl rfl)) (Q6.g 21) ?_
 intro h2 W2 _
 have H2 : QO Z h2 c_ ca _ [.int 1] := H1.set W2 (KR H1.X (hw.g 631) H1.A.1)
 refine K0 106 C (Q6.g 22) ?_
 refine KD 107 C 0 (Q6.g 23) ?_
 refine Ke 108 C (hw.g 638) Via.refl H2.O H2.X (Or.inl (hw.g 639)) (hw.g 631) (ty := .int) (by decide) rfl rfl (Or.inl rfl) (Q6.g 24) ?_
 intro h3 W3
 have H3 : QO Z h3 c_ ca 1 [.int 1] := ⟨H2.X.wr W3, (fo W3 H2.V (Or.inl (hw.g 653)) (Or.inl (hw.g 639))), (fo W3 H2.N (Or.inl (hw.g 642)) (Or.inl (hw.g 639))), Fld.same W3 H2.O, H2.A.other W3 (fun z => (KR H2.X (hw.g 631) H2.A.1) z.symm)⟩
 refine K8 111 C (Q6.g 25) ?_
 refine KQ 112 C 125 (Q6.g 26) ?_
 refine QC 125 C (Q6.g 27) ?_
 refine KL 126 C (Q6.g 28) (fun _ _ => ⟨rfl, by rcases hz with ⟨rfl, rfl⟩ | ⟨rfl, rfl⟩ <;> exact H3⟩)
theorem A4 (hw : Kh Z a0) (a ma b_ mb : Addr) (x w : Nat) (h0 : Heap) (F : QO Z h0 a ma 1 [.int (Int32.ofNat x)]) (G : QO Z h0 b_ mb 1 [.int (Int32.ofNat w)]) (hz : (x = 4 ∧ w = 2) ∨ (x = 2 ∧ w = 1)) :
  KH l Z VB jdk_2101_method_15_code 8 (some .int) ⟨0, 0, 0, 0⟩ #[.ref a, .ref b_] h0 (fun a => h0.size ≤ a) (fun v h => v = some (.int 1) ∧ h0 = h) := by
 refine Q9 Hd BP fun p e s m below meth c C hs => ?_
 rcases hz with ⟨rfl, rfl⟩ | ⟨rfl, rfl⟩ <;> (
  refine K0 0 C (Kj.g 0) ?_
  refine KF 1 C (hw.g 641) Via.refl G.N (Kj.g 1) ?_
  refine KO 4 C (Ls' := [_, _, _, _, _, _, _, _]) (Kj.g 2) rfl ?_
  refine K0 5 C (Kj.g 3) ?_
  refine KF 6 C (hw.g 641) Via.refl F.N (Kj.g 4) ?_
  refine K8 9 C (Kj.g 5) ?_
  refine KU 10 C 15 (Kj.g 6) ?_
  refine K0 15 C (Kj.g 7) ?_
  refine KF 16 C (hw.g 641) Via.refl F.N (Kj.g 8) ?_
  refine K8 19 C (Kj.g 9) ?_
  refine KU 20 C 25 (Kj.g 10) ?_
  refine K0 25 C (Kj.g 11) ?_
  refine KF 26 C (hw.g 652) Via.refl G.V (Kj.g 12) ?_
  refine KY 29 C (Ls' := [_, _, _, _, _, _, _, _]) (Kj.g 13) rfl rfl ?_
  refine K0 30 C (Kj.g 14) ?_
  refine KF 31 C (hw.g 638) Via.refl F.O (Kj.g 15) ?_
  refine KG 34 C (Ls' := [_, _, _, _, _, _, _, _]) (Kj.g 16) rfl ?_
  refine K0 36 C (Kj.g 17) ?_
  refine KF 37 C (hw.g 638) Via.refl G.O (Kj.g 18) ?_
  refine KG 40 C (Ls' := [_, _, _, _, _, _, _, _]) (Kj.g 19) rfl ?_
  refine KE 42 C (Kj.g 20) ?_
  refine K0 44 C (Kj.g 21) ?_
  refine KF 45 C (hw.g 641) Via.refl F.N (Kj.g 22) ?_
  refine K0 48 C (Kj.g 23) ?_
  refine KF 49 C (hw.g 638) Via.refl F.O (Kj.g 24) ?_
  refine Kg 52 C (Kj.g 25) ?_
  refine KS 53 C (Kj.g 26) ?_
  refine K0 56 C (Kj.g 27) ?_
  refine KF 57 C (hw.g 652) Via.refl F.V (Kj.g 28) ?_
  refine KE 60 C (Kj.g 29) ?_
  refine Kl 62 C (v := .int _) 0 F.A.1 (by decide) rfl (Kj.g 30) ?_
  refine XF 63 C (hw.g 721) (Kj.g 31) ?_
  refine Kg 65 C (Kj.g 32) ?_
  refine KG 66 C (Ls' := [_, _, _, _, _, _, _, _]) (Kj.g 33) rfl ?_
  refine K0 68 C (Kj.g 34) ?_
  refine KE 69 C (Kj.g 35) ?_
  refine Kl 71 C (v := .int _) 0 G.A.1 (by decide) rfl (Kj.g 36) ?_
  refine XF 72 C (hw.g 721) (Kj.g 37) ?_
  refine Kg 74 C (Kj.g 38) ?_
  refine KG 75 C (Ls' := [_, _, _, _, _, _, _, _]) (Kj.g 39) rfl ?_
  refine KE 77 C (Kj.g 40) ?_
  refine KE 79 C (Kj.g 41) ?_
  refine KU 81 C 86 (Kj.g 42) ?_
  refine KE 86 C (Kj.g 43) ?_
  refine KE 88 C (Kj.g 44) ?_
  refine KS 90 C (Kj.g 45) ?_
  refine KD 93 C 1 (Kj.g 51) ?_
  refine KP 94 C (Kj.g 52) rfl (fun _ _ => ⟨by first | rfl | decide, rfl⟩)
  )
theorem CR (hw : Kh Z a0) (a ma b_ mb : Addr) (x w : Nat) (h0 : Heap) (F : QO Z h0 a ma 1 [.int (Int32.ofNat x)]) (G : QO Z h0 b_ mb 1 [.int (Int32.ofNat w)]) (c_ ca : Addr) (n_ x_ : Int32) (H : QO Z h0 c_ ca n_ [.int x_]) (n1 : a ≠ c_) (n2 : ma ≠ ca) (n3 : b_ ≠ c_) (n4 : mb ≠ ca) (hya : Z.heap.size ≤ c_) (hyb : Z.heap.size ≤ ca) (hz : (x = 4 ∧ w = 2) ∨ (x = 2 ∧ w = 1)) :
  KH l Z Rd jdk_2101_method_57_code 8 (some (.object "java/math/MutableBigInteger")) ⟨1, 0, 0, 34⟩ #[.ref a, .ref b_, .ref c_, .int 0] h0 (fun x => x = c_ ∨ x = ca ∨ h0.size ≤ x) (fun v h => v = some .null ∧ QO Z h c_ ca 1 [.int (Int32.ofNat (x / w))]) := by
 refine Gk hya hyb He AD fun p e s m below meth c C hs => ?_
 refine K0 0 C (Q6.g 0) ?_
 refine KF 1 C (hw.g 641) Via.refl G.N (Q6.g 1) ?_
 refine KQ 4 C 17 (Q6.g 2) ?_
 refine K0 17 C (Q6.g 3) ?_
 refine KF 18 C (hw.g 641) Via.refl F.N (Q6.g 4) ?_
 refine KQ 21 C 50 (Q6.g 5) ?_
 refine K0 50 C (Q6.g 6) ?_
 refine K0 51 C (Q6.g 7) ?_
 refine KI 52 C (A4 hw a ma b_ mb x w _ F G hz) (F.X) (hw.g 716) (hw.g 717) (QF (hw.g 719)) (hw.g 719) (hw.g 718) (hw.g 632) (hw.g 720) JZ (Q6.g 8) (argsL := [_]) rfl rfl rfl rfl ?_
 rintro _ _ ⟨rfl, rfl⟩ -
 refine KG 55 C (Ls' := [_, _, _, _, _, _, _, _]) (Q6.g 9) rfl ?_
 refine KE 57 C (Q6.g 10) ?_
 refine KQ 59 C 89 (Q6.g 11) ?_
 refine KE 89 C (Q6.g 12) ?_
 refine KQ 91 C 127 (Q6.g 13) ?_
 refine K0 127 C (Q6.g 29) ?_
 refine KI 128 C (Dp hw c_ ca n_ x_ _ H hya hyb) (H.X) (hw.g 747) (hw.g 748) (QF (hw.g 750)) (hw.g 750) (hw.g 749) (hw.g 632) (hw.g 751) QL (Q6.g 30) (argsL := []) rfl rfl rfl rfl (hP := (fun x q r => r.elim (fun z => z ▸ (Or.inl rfl)) (fun r => r.elim (fun z => z ▸ (Or.inr (Or.inl rfl))) (fun z => C.new x (Nat.le_trans q z))))) ?_
 rintro _ h1 ⟨rfl, H1⟩ K1
 replace F := F.kp2 H (hw.g 631) n1 n2 K1
 replace G := G.kp2 H (hw.g 631) n3 n4 K1
 refine K0 131 C (Q6.g 31) ?_
 refine KF 132 C (hw.g 641) Via.refl G.N (Q6.g 32) ?_
 refine KD 135 C 1 (Q6.g 33) ?_
 refine KS 136 C (Q6.g 34) ?_
 refine K0 139 C (Q6.g 35) ?_
 refine K0 140 C (Q6.g 36) ?_
 refine KF 141 C (hw.g 652) Via.refl G.V (Q6.g 37) ?_
 refine K0 144 C (Q6.g 38) ?_
 refine KF 145 C (hw.g 638) Via.refl G.O (Q6.g 39) ?_
 refine Kl 148 C (v := .int _) 0 G.A.1 (by decide) rfl (Q6.g 40) ?_
 refine K0 149 C (Q6.g 41) ?_
 refine KI 150 C (DM hw a ma x w _ F hz c_ ca _ _ H1 n1 n2 hya hyb) (F.X) (hw.g 752) (hw.g 753) (QF (hw.g 755)) (hw.g 755) (hw.g 754) (hw.g 632) (hw.g 756) V8 (Q6.g 42) (argsL := [_, _]) rfl rfl rfl rfl (hP := (fun x q r => r.elim (fun z => z ▸ (Or.inl rfl)) (fun r => r.elim (fun z => z ▸ (Or.inr (Or.inl rfl))) (fun z => C.new x (Nat.le_trans q z))))) ?_
 rintro _ h2 ⟨rfl, H2⟩ -
 refine KG 153 C (Ls' := [_, _, _, _, _, _, _, _]) (Q6.g 43) rfl ?_
 refine K8 155 C (Q6.g 44) ?_
 refine KQ 156 C 182 (Q6.g 45) ?_
 refine QC 182 C (Q6.g 46) ?_
 refine KL 183 C (Q6.g 47) (fun _ _ => ⟨rfl, H2⟩)
theorem Lw (hw : Kh Z a0) (a ma b_ mb : Addr) (x w : Nat) (h0 : Heap) (F : QO Z h0 a ma 1 [.int (Int32.ofNat x)]) (G : QO Z h0 b_ mb 1 [.int (Int32.ofNat w)]) (c_ ca : Addr) (n_ x_ : Int32) (H : QO Z h0 c_ ca n_ [.int x_]) (n1 : a ≠ c_) (n2 : ma ≠ ca) (n3 : b_ ≠ c_) (n4 : mb ≠ ca) (hya : Z.heap.size ≤ c_) (hyb : Z.heap.size ≤ ca) (hz : ((x = 1 ∧ w = 1) ∨ (x = 2 ∧ w = 2)) ∨ ((x = 4 ∧ w = 2) ∨ (x = 2 ∧ w = 1))) :
  KH l Z Rd jdk_2101_method_57_code 8 (some (.object "java/math/MutableBigInteger")) ⟨1, 0, 0, 34⟩ #[.ref a, .ref b_, .ref c_, .int 0] h0 (fun x => x = c_ ∨ x = ca ∨ h0.size ≤ x) (fun v h => v = some .null ∧ QO Z h c_ ca 1 [.int (Int32.ofNat (x / w))]) := by
 rcases hz with hz | hz
 ·exact EK hw a ma b_ mb x w h0 F G c_ ca n_ x_ H n1 n2 n3 n4 hya hyb hz
 ·exact CR hw a ma b_ mb x w h0 F G c_ ca n_ x_ H n1 n2 n3 n4 hya hyb hz
def Wm : MethodName := ⟨"java/math/BigInteger", "divideKnuth", "(Ljava/math/BigInteger;)Ljava/math/BigInteger;"⟩
theorem T9 : plainFor Wm = true := by decide +kernel
theorem Dc (hw : Kh Z a0) (a b_ : Addr) (x w : Nat) (h0 : Heap) (F : QQ Z h0 a x) (G : QQ Z h0 b_ w) (hz : ((x = 1 ∧ w = 1) ∨ (x = 2 ∧ w = 2)) ∨ ((x = 4 ∧ w = 2) ∨ (x = 2 ∧ w = 1))) :
  KH l Z Wm jdk_2097_method_62_code 5 (some (.object "java/math/BigInteger")) ⟨4, 5, 16, 97⟩ #[.ref a, .ref b_] h0 (fun a => h0.size ≤ a) (fun v h => ∃ r, v = some (.ref r) ∧ QQ Z h r (x / w)) := by
 refine Q9 T9 Rx fun p e s m below meth c C hs => ?_
 have nx : x ≠ 0 := by omega
 have nw : w ≠ 0 := by omega
 have nr : x / w ≠ 0 := by rcases hz with (⟨rfl, rfl⟩ | ⟨rfl, rfl⟩) | (⟨rfl, rfl⟩ | ⟨rfl, rfl⟩) <;> decide
 obtain ⟨m1, S1, M1, A1⟩ := F.p nx
 obtain ⟨m2, S2, M2, A2⟩ := G.p nw
 have l1 := A1.1.lt
 have l2 := A2.1.lt
 have fx := F.1
 have gx := G.1
 refine QE 0 C (hw.g 630) (hw.g 631) (hw.g 632) (Q_.g 0) ?_
 intro h1 c_ hc hPc E1 X1 D1
 have FV := D1 (Or.inl (hw.g 653)) (ty := (.array .int)) (by decide)
 have FN := D1 (Or.inl (hw.g 642)) (ty := .int) (by decide)
 have FO := D1 (Or.inl (hw.g 639)) (ty := .int) (by decide)
 refine Ku 3 C (Q_.g 1) rfl ?_
 refine KV 4 C (JW hw c_ _ (C.young c_ hPc) X1 FV FN FO) (hw.g 707) (hw.g 661) (hw.g 632) (hw.g 662) QL (Q_.g 2) (argsL := []) rfl rfl rfl rfl (hP := (fun x q r => r.elim (fun z => z ▸ hPc) (fun z => C.new x (Nat.le_trans q z)))) ?_
 rintro _ h2 ⟨rfl, ca, hca, H2⟩ K2
 have E2 := Yb E1 K2 (fun x z => z.elim (fun z => z ▸ Nat.le_of_eq hc.symm) (fun z => Nat.le_trans E1.1 z))
 have l3 := H2.X.lt
 have hca0 := Nat.le_trans E1.1 hca
 refine KY 7 C (Ls' := [_, _, _, _, _]) (Q_.g 3) rfl rfl ?_
 refine QE 8 C (hw.g 630) (hw.g 631) (hw.g 632) (Q_.g 4) ?_
 intro h3 u hu hPu E3 X1 D3
 have FV := D3 (Or.inl (hw.g 653)) (ty := (.array .int)) (by decide)
 have FN := D3 (Or.inl (hw.g 642)) (ty := .int) (by decide)
 have FO := D3 (Or.inl (hw.g 639)) (ty := .int) (by decide)
 refine Ku 11 C (Q_.g 5) rfl ?_
 refine K0 12 C (Q_.g 6) ?_
 refine KF 13 C (hw.g 573) Via.refl (M1.ext (Ki.tr E2 E3)) (Q_.g 7) ?_
 refine KV 16 C (A6 hw u m1 _ _ (A1.ext (Ki.tr E2 E3)) (C.young u hPu) X1 FV FN FO) (hw.g 708) (hw.g 709) (hw.g 632) (hw.g 710) Je (Q_.g 8) (argsL := [_]) rfl rfl rfl rfl (hP := (fun x q r => r.elim (fun z => z ▸ hPu) (fun z => C.new x (Nat.le_trans q z)))) ?_
 rintro _ h4 ⟨rfl, U4⟩ K4
 replace E3 := Yb E3 K4 (fun x z => z.elim (fun z => z ▸ Nat.le_of_eq hu.symm) (fun z => Nat.le_trans E3.1 z))
 replace H2 := H2.ext E3
 have E4 := Ki.tr E2 E3
 refine KY 19 C (Ls' := [_, _, _, _, _]) (Q_.g 9) rfl rfl ?_
 refine QE 20 C (hw.g 630) (hw.g 631) (hw.g 632) (Q_.g 10) ?_
 intro h5 q hq hPq E5 X1 D5
 have FV := D5 (Or.inl (hw.g 653)) (ty := (.array .int)) (by decide)
 have FN := D5 (Or.inl (hw.g 642)) (ty := .int) (by decide)
 have FO := D5 (Or.inl (hw.g 639)) (ty := .int) (by decide)
 refine Ku 23 C (Q_.g 11) rfl ?_
 refine K0 24 C (Q_.g 12) ?_
 refine KF 25 C (hw.g 573) Via.refl (M2.ext (Ki.tr E4 E5)) (Q_.g 13) ?_
 refine KV 28 C (A6 hw q m2 _ _ (A2.ext (Ki.tr E4 E5)) (C.young q hPq) X1 FV FN FO) (hw.g 708) (hw.g 709) (hw.g 632) (hw.g 710) Je (Q_.g 14) (argsL := [_]) rfl rfl rfl rfl (hP := (fun x q r => r.elim (fun z => z ▸ hPq) (fun z => C.new x (Nat.le_trans q z)))) ?_
 rintro _ h6 ⟨rfl, V6⟩ K6
 replace E5 := Yb E5 K6 (fun x z => z.elim (fun z => z ▸ Nat.le_of_eq hq.symm) (fun z => Nat.le_trans E5.1 z))
 replace H2 := H2.ext E5
 replace U4 := U4.ext E5
 replace E4 := Ki.tr E4 E5
 have s3 := E3.1
 refine Kz 31 C (Ls' := [_, _, _, _, _]) (Q_.g 15) rfl rfl ?_
 refine K0 33 C (Q_.g 16) ?_
 refine Kb 34 C (Q_.g 17) ?_
 refine K0 36 C (Q_.g 18) ?_
 refine KD 37 C 0 (Q_.g 19) ?_
 refine KI 38 C (Lw hw u m1 q m2 x w _ U4 V6 c_ ca _ _ H2 (Qd l3 (Nat.le_of_eq hu.symm)) (Qd l1 hca0).symm (Qd (Nat.lt_of_lt_of_le l3 s3) (Nat.le_of_eq hq.symm)) (Qd l2 hca0).symm (C.young c_ hPc) (C.young ca hca0) hz) (U4.X) (hw.g 711) (hw.g 712) (QF (hw.g 714)) (hw.g 714) (hw.g 713) (hw.g 632) (hw.g 715) UT (Q_.g 20) (argsL := [_, _, _]) rfl rfl rfl rfl (hP := (fun x q r => r.elim (fun z => z ▸ hPc) (fun r => r.elim (fun z => z ▸ hca0) (fun z => C.new x (Nat.le_trans q z))))) ?_
 rintro _ h7 ⟨rfl, H7⟩ K7
 have nf : ∀ x, x < h0.size → ¬ (x = c_ ∨ x = ca ∨ h6.size ≤ x) := fun x z r => r.elim (fun e => absurd (e ▸ z) (Nat.not_lt.mpr hPc)) (fun r => r.elim (fun e => absurd (e ▸ z) (Nat.not_lt.mpr hca0)) (fun e => absurd z (Nat.not_lt.mpr (Nat.le_trans E4.1 e))))
 replace S1 := K7.fld (S1.ext E4) (nf _ fx.lt)
 replace S2 := K7.fld (S2.ext E4) (nf _ gx.lt)
 refine QR 41 C (Q_.g 21) rfl ?_
 refine K0 42 C (Q_.g 22) ?_
 refine K0 43 C (Q_.g 23) ?_
 refine KF 44 C (hw.g 377) Via.refl S1 (Q_.g 24) ?_
 refine K0 47 C (Q_.g 25) ?_
 refine KF 48 C (hw.g 377) Via.refl S2 (Q_.g 26) ?_
 refine Xu 51 C (Q_.g 27) ?_
 refine KI 52 C (B0 hw c_ ca (x / w) _ H7 nr) (H7.X) (hw.g 685) (hw.g 686) (QF (hw.g 688)) (hw.g 688) (hw.g 687) (hw.g 632) (hw.g 689) Jb (Q_.g 28) (argsL := [_]) rfl rfl rfl rfl ?_
 rintro _ h8 ⟨r2, rfl, F8⟩ -
 refine KL 55 C (Q_.g 29) (fun _ _ => ⟨r2, rfl, F8⟩)
def Wg : MethodName := ⟨"java/math/BigInteger", "divide", "(Ljava/math/BigInteger;)Ljava/math/BigInteger;"⟩
theorem RV : plainFor Wg = true := by decide +kernel
theorem Bc (hw : Kh Z a0) (a b_ : Addr) (x w : Nat) (h0 : Heap) (F : QQ Z h0 a x) (G : QQ Z h0 b_ w) (hz : ((x = 1 ∧ w = 1) ∨ (x = 2 ∧ w = 2)) ∨ ((x = 4 ∧ w = 2) ∨ (x = 2 ∧ w = 1))) (r_ : Nat) (hr : x / w = r_) :
  KH l Z Wg jdk_2097_method_61_code 2 (some (.object "java/math/BigInteger")) ⟨5, 5, 16, 121⟩ #[.ref a, .ref b_] h0 (fun a => h0.size ≤ a) (fun v h => ∃ r, v = some (.ref r) ∧ QQ Z h r r_) := by
 refine Q9 RV Gu fun p e s m below meth c C hs => ?_
 subst hr
 obtain ⟨m2, S2, M2, A2⟩ := G.p (by omega)
 refine K0 0 C (GV.g 0) ?_
 refine KF 1 C (hw.g 573) Via.refl M2 (GV.g 1) ?_
 refine KZ 4 C A2.1 (GV.g 2) ?_
 rw [show Int32.ofNat (List.length [Value.int _]) = 1 from rfl]
 refine KN 5 C 80 (GV.g 3) ?_
 refine KU 7 C 26 (GV.g 4) ?_
 refine K0 26 C (GV.g 5) ?_
 refine K0 27 C (GV.g 6) ?_
 refine Kf 28 C (Dc hw a b_ x w _ F G hz) (F.1) (hw.g 702) (QB.of (hw.g 375 rfl) rfl) (hw.g 704) (hw.g 703) (hw.g 365) (hw.g 706) Qn (GV.g 7) (argsL := [_]) rfl rfl rfl rfl ?_
 rintro _ h2 ⟨r, rfl, F2⟩ -
 refine KL 31 C (GV.g 8) (fun _ _ => ⟨r, rfl, F2⟩)
def F_ : MethodName := ⟨"java/lang/Math", "abs", "(J)J"⟩
theorem UA : plainFor F_ = true := by decide +kernel
theorem Wo (hw : Kh Z a0) (q_ : Int64) (h0 : Heap) (hq : q_ = 0 ∨ q_ = 2 ∨ q_ = 4 ∨ q_ = 5000 ∨ q_ = 6667 ∨ q_ = 10000) :
  KH l Z F_ jdk_29_method_61_code 2 (some .long) ⟨0, 0, 0, 0⟩ #[.long q_] h0 (fun a => h0.size ≤ a) (fun v h => v = some (.long q_) ∧ h0 = h) := by
 refine Q9 UA Gw fun p e s m below meth c C hs => ?_
 rcases hq with rfl | rfl | rfl | rfl | rfl | rfl <;> (
  refine KJ 0 C (Wd.g 0) ?_
  refine KX 1 C 0 (Wd.g 1) ?_
  refine Kc 2 C (Wd.g 2) ?_
  refine KQ 3 C 11 (Wd.g 3) ?_
  refine KJ 11 C (Wd.g 4) ?_
  refine XB 12 C (Wd.g 5) (fun _ _ => ⟨rfl, rfl⟩)
  )
def F5 : MethodName := ⟨"java/math/BigDecimal", "checkScale", "(JJ)I"⟩
theorem Ut : plainFor F5 = true := by decide +kernel
theorem Cd {x0 : Int64} {x1 : Int64} (m : MethodId) : entryFrame m #[.long x0, .long x1] 5 = oF m 0 [.val (.long x0), .second, .val (.long x1), .second, .unset] [] := by (first | (simp [entryFrame, oF, mkF, argsToLocals, Value.category]; done) | rfl)
theorem Ai (hw : Kh Z a0) (n_ x_ : Int64) (h0 : Heap) (hx : x_ = 4) :
  KH l Z F5 jdk_17_method_113_code 5 (some .int) ⟨0, 0, 0, 0⟩ #[.long n_, .long x_] h0 (fun a => h0.size ≤ a) (fun v h => v = some (.int 4) ∧ h0 = h) := by
 refine Q9 Ut Cd fun p e s m below meth c C hs => ?_
 subst hx
 refine KJ 0 C (RQ.g 0) ?_
 refine Xm 1 C (RQ.g 1) ?_
 refine KG 2 C (Ls' := [_, _, _, _, _]) (RQ.g 2) rfl ?_
 refine KE 4 C (RQ.g 3) ?_
 refine Xl 6 C (RQ.g 4) ?_
 refine KJ 7 C (RQ.g 5) ?_
 refine Kc 8 C (RQ.g 6) ?_
 refine KQ 9 C 59 (RQ.g 7) ?_
 refine KE 59 C (RQ.g 8) ?_
 refine KP 61 C (RQ.g 9) rfl (fun _ _ => ⟨by first | rfl | decide, rfl⟩)
def Ax : MethodName := ⟨"java/math/BigDecimal", "longMultiplyPowerTen", "(JI)J"⟩
theorem HQ : plainFor Ax = true := by decide +kernel
theorem T_ {x0 : Int64} {x1 : Int32} (m : MethodId) : entryFrame m #[.long x0, .int x1] 7 = oF m 0 [.val (.long x0), .second, .val (.int x1), .unset, .unset, .unset, .unset] [] := by (first | (simp [entryFrame, oF, mkF, argsToLocals, Value.category]; done) | rfl)
theorem AA (hw : Kh Z a0) (W : oW Z) (n_ : Int64) (h0 : Heap) (hq : n_ = 0) :
  KH l Z Ax jdk_17_method_97_code 7 (some .long) ⟨1, 0, 0, 21⟩ #[.long n_, .int 4] h0 (fun a => h0.size ≤ a) (fun v h => v = some (.long (n_ * 10000)) ∧ h0 = h) := by
 refine Q9 HQ T_ fun p e s m below meth c C hs => ?_
 subst hq
 refine KJ 0 C (Qo.g 0) ?_
 refine KX 1 C 0 (Qo.g 1) ?_
 refine Kc 2 C (Qo.g 2) ?_
 refine KQ 3 C 10 (Qo.g 3) ?_
 refine KJ 10 C (Qo.g 4) ?_
 refine XB 11 C (Qo.g 5) (fun _ _ => ⟨by first | rfl | decide, rfl⟩)
theorem Wp (hw : Kh Z a0) (W : oW Z) (n_ : Int64) (h0 : Heap) (hq : n_ = 1) :
  KH l Z Ax jdk_17_method_97_code 7 (some .long) ⟨1, 0, 0, 21⟩ #[.long n_, .int 4] h0 (fun a => h0.size ≤ a) (fun v h => v = some (.long (n_ * 10000)) ∧ h0 = h) := by
 refine Q9 HQ T_ fun p e s m below meth c C hs => ?_
 subst hq
 obtain ⟨d1, vs1, S1, A1, l1, t1⟩ := W.ltp
 obtain ⟨d2, vs2, S2, A2, l2, t2⟩ := W.thr
 refine Qc C (fun hE hle _ => ?_)
 replace A1 := A1.ext hE
 replace A2 := A2.ext hE
 refine KJ 0 C (Qo.g 0) ?_
 refine KX 1 C 0 (Qo.g 1) ?_
 refine Kc 2 C (Qo.g 2) ?_
 refine KW 3 C (Qo.g 3) ?_
 refine K8 6 C (Qo.g 6) ?_
 refine KQ 7 C 12 (Qo.g 7) ?_
 refine Ko 12 C (hw.g 436) Via.refl S1 (Qo.g 8) ?_
 refine KY 15 C (Ls' := [_, _, _, _, _, _, _]) (Qo.g 9) rfl rfl ?_
 refine Ko 16 C (hw.g 440) Via.refl S2 (Qo.g 10) ?_
 refine Kz 19 C (Ls' := [_, _, _, _, _, _, _]) (Qo.g 11) rfl rfl ?_
 refine K8 21 C (Qo.g 12) ?_
 refine K0 22 C (Qo.g 13) ?_
 refine KZ 23 C A1 (Qo.g 14) ?_
 rw [l1]
 refine KS 24 C (Qo.g 15) ?_
 refine K8 27 C (Qo.g 16) ?_
 refine Kb 28 C (Qo.g 17) ?_
 refine KZ 30 C A2 (Qo.g 18) ?_
 rw [l2]
 refine KS 31 C (Qo.g 19) ?_
 refine K0 34 C (Qo.g 20) ?_
 refine K8 35 C (Qo.g 21) ?_
 refine Q8 36 C (v := .long 10000) 4 A1 rfl t1 (Qo.g 22) ?_
 refine Ky 37 C (Ls' := [_, _, _, _, _, _, _]) (Qo.g 23) rfl ?_
 refine KJ 39 C (Qo.g 24) ?_
 refine KX 40 C 1 (Qo.g 25) ?_
 refine Kc 41 C (Qo.g 26) ?_
 refine KW 42 C (Qo.g 27) ?_
 refine Kw 45 C (Qo.g 28) ?_
 refine XB 47 C (Qo.g 29) (fun _ _ => ⟨by first | rfl | decide, rfl⟩)
theorem Tc (hw : Kh Z a0) (W : oW Z) (n_ : Int64) (h0 : Heap) (hq : n_ = 2 ∨ n_ = 4) :
  KH l Z Ax jdk_17_method_97_code 7 (some .long) ⟨1, 0, 0, 21⟩ #[.long n_, .int 4] h0 (fun a => h0.size ≤ a) (fun v h => v = some (.long (n_ * 10000)) ∧ h0 = h) := by
 refine Q9 HQ T_ fun p e s m below meth c C hs => ?_
 obtain ⟨d1, vs1, S1, A1, l1, t1⟩ := W.ltp
 obtain ⟨d2, vs2, S2, A2, l2, t2⟩ := W.thr
 refine Qc C (fun hE hle _ => ?_)
 replace A1 := A1.ext hE
 replace A2 := A2.ext hE
 rcases hq with rfl | rfl <;> (
  refine KJ 0 C (Qo.g 0) ?_
  refine KX 1 C 0 (Qo.g 1) ?_
  refine Kc 2 C (Qo.g 2) ?_
  refine KW 3 C (Qo.g 3) ?_
  refine K8 6 C (Qo.g 6) ?_
  refine KQ 7 C 12 (Qo.g 7) ?_
  refine Ko 12 C (hw.g 436) Via.refl S1 (Qo.g 8) ?_
  refine KY 15 C (Ls' := [_, _, _, _, _, _, _]) (Qo.g 9) rfl rfl ?_
  refine Ko 16 C (hw.g 440) Via.refl S2 (Qo.g 10) ?_
  refine Kz 19 C (Ls' := [_, _, _, _, _, _, _]) (Qo.g 11) rfl rfl ?_
  refine K8 21 C (Qo.g 12) ?_
  refine K0 22 C (Qo.g 13) ?_
  refine KZ 23 C A1 (Qo.g 14) ?_
  rw [l1]
  refine KS 24 C (Qo.g 15) ?_
  refine K8 27 C (Qo.g 16) ?_
  refine Kb 28 C (Qo.g 17) ?_
  refine KZ 30 C A2 (Qo.g 18) ?_
  rw [l2]
  refine KS 31 C (Qo.g 19) ?_
  refine K0 34 C (Qo.g 20) ?_
  refine K8 35 C (Qo.g 21) ?_
  refine Q8 36 C (v := .long 10000) 4 A1 rfl t1 (Qo.g 22) ?_
  refine Ky 37 C (Ls' := [_, _, _, _, _, _, _]) (Qo.g 23) rfl ?_
  refine KJ 39 C (Qo.g 24) ?_
  refine KX 40 C 1 (Qo.g 25) ?_
  refine Kc 41 C (Qo.g 26) ?_
  refine KQ 42 C 48 (Qo.g 27) ?_
  refine KJ 48 C (Qo.g 30) ?_
  refine KK 49 C (Wo hw _ _ (by decide)) (hw.g 459) (hw.g 460) (hw.g 239) (hw.g 461) Jk (Qo.g 31) (argsL := [_]) rfl rfl rfl rfl ?_
  rintro _ _ ⟨rfl, rfl⟩ -
  refine Kb 52 C (Qo.g 32) ?_
  refine K8 54 C (Qo.g 33) ?_
  refine Q8 55 C (v := .long 922337203685477) 4 A2 rfl t2 (Qo.g 34) ?_
  refine Kc 56 C (Qo.g 35) ?_
  refine KW 57 C (Qo.g 36) ?_
  refine KJ 60 C (Qo.g 37) ?_
  refine Kw 61 C (Qo.g 38) ?_
  refine XG 63 C (Qo.g 39) ?_
  refine XB 64 C (Qo.g 40) (fun _ _ => ⟨by first | rfl | decide, rfl⟩)
  )
theorem Wu (hw : Kh Z a0) (W : oW Z) (n_ : Int64) (h0 : Heap) (hq : n_ = 0 ∨ n_ = 1 ∨ n_ = 2 ∨ n_ = 4) :
  KH l Z Ax jdk_17_method_97_code 7 (some .long) ⟨1, 0, 0, 21⟩ #[.long n_, .int 4] h0 (fun a => h0.size ≤ a) (fun v h => v = some (.long (n_ * 10000)) ∧ h0 = h) := by
 rcases hq with q | q | q | q
 ·exact AA hw W n_ h0 q
 ·exact Wp hw W n_ h0 q
 ·exact Tc hw W n_ h0 (Or.inl q)
 ·exact Tc hw W n_ h0 (Or.inr q)
def F9 : MethodName := ⟨"java/lang/Long", "compare", "(JJ)I"⟩
theorem UX : plainFor F9 = true := by decide +kernel
theorem Ww {x0 : Int64} {x1 : Int64} (m : MethodId) : entryFrame m #[.long x0, .long x1] 4 = oF m 0 [.val (.long x0), .second, .val (.long x1), .second] [] := by (first | (simp [entryFrame, oF, mkF, argsToLocals, Value.category]; done) | rfl)
theorem Dq (hw : Kh Z a0) (x_ w_ : Int64) (h0 : Heap) (h1 : x_ = 4) (h2 : w_ = 3) :
  KH l Z F9 jdk_35_method_42_code 4 (some .int) ⟨0, 0, 0, 0⟩ #[.long x_, .long w_] h0 (fun a => h0.size ≤ a) (fun v h => v = some (.int 1) ∧ h0 = h) := by
 refine Q9 UX Ww fun p e s m below meth c C hs => ?_
 subst h1 h2
 refine KJ 0 C (RN.g 0) ?_
 refine KJ 1 C (RN.g 1) ?_
 refine Kc 2 C (RN.g 2) ?_
 refine KQ 3 C 10 (RN.g 3) ?_
 refine KJ 10 C (RN.g 4) ?_
 refine KJ 11 C (RN.g 5) ?_
 refine Kc 12 C (RN.g 6) ?_
 refine KQ 13 C 20 (RN.g 7) ?_
 refine KD 20 C 1 (RN.g 8) ?_
 refine KP 21 C (RN.g 9) rfl (fun _ _ => ⟨by first | rfl | decide, rfl⟩)
def L9 : MethodName := ⟨"java/math/BigDecimal", "longCompareMagnitude", "(JJ)I"⟩
theorem V_ : plainFor L9 = true := by decide +kernel
theorem Dg (hw : Kh Z a0) (x_ w_ : Int64) (h0 : Heap) (h1 : x_ = 4) (h2 : w_ = 3) :
  KH l Z L9 jdk_17_method_108_code 4 (some .int) ⟨1, 0, 0, 23⟩ #[.long x_, .long w_] h0 (fun a => h0.size ≤ a) (fun v h => v = some (.int 1) ∧ h0 = h) := by
 refine Q9 V_ Ww fun p e s m below meth c C hs => ?_
 subst h1 h2
 refine KJ 0 C (JE.g 0) ?_
 refine KX 1 C 0 (JE.g 1) ?_
 refine Kc 2 C (JE.g 2) ?_
 refine KQ 3 C 9 (JE.g 3) ?_
 refine KJ 9 C (JE.g 4) ?_
 refine KX 10 C 0 (JE.g 5) ?_
 refine Kc 11 C (JE.g 6) ?_
 refine KQ 12 C 18 (JE.g 7) ?_
 refine KJ 18 C (JE.g 8) ?_
 refine KJ 19 C (JE.g 9) ?_
 refine KK 20 C (Dq hw _ _ _ (by decide) (by decide)) (hw.g 543) (hw.g 544) (hw.g 185) (hw.g 545) Gm (JE.g 10) (argsL := [_, _]) rfl rfl rfl rfl ?_
 rintro _ _ ⟨rfl, rfl⟩ -
 refine KP 23 C (JE.g 11) rfl (fun _ _ => ⟨by first | rfl | decide, rfl⟩)
def Fw : MethodName := ⟨"java/math/BigDecimal", "commonNeedIncrement", "(IIIZ)Z"⟩
theorem Ui : plainFor Fw = true := by decide +kernel
theorem Dm {x0 : Int32} {x1 : Int32} {x2 : Int32} {x3 : Int32} (m : MethodId) : entryFrame m #[.int x0, .int x1, .int x2, .int x3] 4 = oF m 0 [.val (.int x0), .val (.int x1), .val (.int x2), .val (.int x3)] [] := by (first | (simp [entryFrame, oF, mkF, argsToLocals, Value.category]; done) | rfl)
theorem CF (hw : Kh Z a0) (W : oW Z) (h0 : Heap) :
  KH l Z Fw jdk_17_method_121_code 4 (some .boolean) ⟨0, 0, 0, 0⟩ #[.int 4, .int 1, .int 1, .int 0] h0 (fun a => h0.size ≤ a) (fun v h => v = some (.int 1) ∧ h0 = h) := by
 refine Q9 Ui Dm fun p e s m below meth c C hs => ?_
 refine K8 0 C (RR.g 0) ?_
 refine R9 1 C 83 (RR.g 1) (by decide) rfl (by decide) (by decide) ?_
 refine Ko 83 C (hw.g 536) Via.refl W.asr (RR.g 2) ?_
 refine KQ 86 C 131 (RR.g 3) ?_
 refine K8 131 C (RR.g 4) ?_
 refine KQ 132 C 137 (RR.g 5) ?_
 refine K8 137 C (RR.g 6) ?_
 refine KW 138 C (RR.g 7) ?_
 refine KD 141 C 1 (RR.g 8) ?_
 refine KP 142 C (RR.g 9) (by first | rfl | decide) (fun _ _ => ⟨by first | rfl | decide, rfl⟩)
def LX : MethodName := ⟨"java/math/BigDecimal", "needIncrement", "(JIIJJ)Z"⟩
theorem UO : plainFor LX = true := by decide +kernel
theorem DP {x0 : Int64} {x1 : Int32} {x2 : Int32} {x3 : Int64} {x4 : Int64} (m : MethodId) : entryFrame m #[.long x0, .int x1, .int x2, .long x3, .long x4] 9 = oF m 0 [.val (.long x0), .second, .val (.int x1), .val (.int x2), .val (.long x3), .second, .val (.long x4), .second, .unset] [] := by (first | (simp [entryFrame, oF, mkF, argsToLocals, Value.category]; done) | rfl)
theorem Ll (hw : Kh Z a0) (W : oW Z) (d_ q_ r_ : Int64) (h0 : Heap) (h1 : d_ = 3) (h2 : q_ = 6666) (h3 : r_ = 2) :
  KH l Z LX jdk_17_method_122_code 9 (some .boolean) ⟨2, 0, 0, 46⟩ #[.long d_, .int 4, .int 1, .long q_, .long r_] h0 (fun a => h0.size ≤ a) (fun v h => v = some (.int 1) ∧ h0 = h) := by
 refine Q9 UO DP fun p e s m below meth c C hs => ?_
 subst h1 h2 h3
 refine Ko 0 C (hw.g 536) Via.refl W.asr (YJ.g 0) ?_
 refine KQ 3 C 21 (YJ.g 1) ?_
 refine Kw 21 C (YJ.g 2) ?_
 refine Kq 23 C (hw.g 537) (YJ.g 3) ?_
 refine Kc 26 C (YJ.g 4) ?_
 refine KW 27 C (YJ.g 5) ?_
 refine Kw 30 C (YJ.g 6) ?_
 refine Kq 32 C (hw.g 538) (YJ.g 7) ?_
 refine Kc 35 C (YJ.g 8) ?_
 refine KQ 36 C 45 (YJ.g 9) ?_
 refine Kq 45 C (hw.g 539) (YJ.g 10) ?_
 refine Kw 48 C (YJ.g 11) ?_
 refine XG 50 C (YJ.g 12) ?_
 refine KJ 51 C (YJ.g 13) ?_
 refine KK 52 C (Dg hw _ _ _ (by decide) (by decide)) (hw.g 540) (hw.g 541) (hw.g 381) (hw.g 542) Gm (YJ.g 14) (argsL := [_, _]) rfl rfl rfl rfl ?_
 rintro _ _ ⟨rfl, rfl⟩ -
 refine KG 55 C (Ls' := [_, _, _, _, _, _, _, _, _]) (YJ.g 15) rfl ?_
 refine K8 57 C (YJ.g 16) ?_
 refine K8 58 C (YJ.g 17) ?_
 refine KE 59 C (YJ.g 18) ?_
 refine Kw 61 C (YJ.g 19) ?_
 refine KX 63 C 1 (YJ.g 20) ?_
 refine YP 64 C (YJ.g 21) ?_
 refine KX 65 C 0 (YJ.g 22) ?_
 refine Kc 66 C (YJ.g 23) ?_
 refine KQ 67 C 74 (YJ.g 24) ?_
 refine KD 74 C 0 (YJ.g 25) ?_
 refine KK 75 C (CF hw W _) (hw.g 546) (hw.g 547) (hw.g 381) (hw.g 548) U5 (YJ.g 26) (argsL := [_, _, _, _]) rfl rfl rfl rfl ?_
 rintro _ _ ⟨rfl, rfl⟩ -
 refine KP 78 C (YJ.g 27) (by first | rfl | decide) (fun _ _ => ⟨by first | rfl | decide, rfl⟩)
def LW : MethodName := ⟨"java/math/BigDecimal", "<init>", "(Ljava/math/BigInteger;JII)V"⟩
theorem Tx : plainFor LW = true := by decide +kernel
theorem Cx {x0 : Addr} {x2 : Int64} {x3 : Int32} {x4 : Int32} (m : MethodId) : entryFrame m #[.ref x0, .null, .long x2, .int x3, .int x4] 6 = oF m 0 [.val (.ref x0), .val .null, .val (.long x2), .second, .val (.int x3), .val (.int x4)] [] := by (first | (simp [entryFrame, oF, mkF, argsToLocals, Value.category]; done) | rfl)
theorem CH (hw : Kh Z a0) (a : Addr) (q_ : Int64) (h0 : Heap) (hya : Z.heap.size ≤ a) (X : Exa Z h0 a "java/math/BigDecimal") (FS : Fld Z h0 a "java/math/BigDecimal" "scale" "I" (.int 0)) (FP : Fld Z h0 a "java/math/BigDecimal" "precision" "I" (.int 0)) (FI : Fld Z h0 a "java/math/BigDecimal" "intCompact" "J" (.long 0)) (FV : Fld Z h0 a "java/math/BigDecimal" "intVal" "Ljava/math/BigInteger;" .null) :
  KH l Z LW jdk_17_method_1_code 6 none ⟨2, 0, 0, 54⟩ #[.ref a, .null, .long q_, .int 4, .int 0] h0 (fun x => x = a ∨ h0.size ≤ x) (fun v h => v = none ∧ YR Z h a q_ 4) := by
 refine Xr hya Tx Cx fun p e s m below meth c C hs => ?_
 refine K0 0 C (HJ.g 0) ?_
 refine KV 1 C (Ux hw a _) (hw.g 385) (hw.g 386) (hw.g 389) (hw.g 390) QL (HJ.g 1) (argsL := []) rfl rfl rfl rfl ?_
 rintro _ _ ⟨rfl, rfl⟩ -
 refine K0 4 C (HJ.g 2) ?_
 refine KE 5 C (HJ.g 3) ?_
 refine Ke 7 C (hw.g 392) Via.refl FS X (Or.inr ⟨(hw.g 393), rfl, rfl⟩) (hw.g 380) (ty := .int) (by decide) rfl rfl (Or.inl rfl) (HJ.g 4) ?_
 intro h1 W1
 replace FS := Fld.same W1 FS
 replace FP := (fo W1 FP (Or.inl (hw.g 453)) (Or.inr (hw.g 393)))
 replace FI := (fo W1 FI (Or.inr (hw.g 414)) (Or.inr (hw.g 393)))
 replace FV := (fo W1 FV (Or.inr (hw.g 405)) (Or.inr (hw.g 393)))
 replace X := X.wr W1
 refine K0 10 C (HJ.g 5) ?_
 refine KE 11 C (HJ.g 6) ?_
 refine Ke 13 C (hw.g 452) Via.refl FP X (Or.inl (hw.g 453)) (hw.g 380) (ty := .int) (by decide) rfl rfl (Or.inl rfl) (HJ.g 7) ?_
 intro h2 W2
 replace FS := (fo W2 FS (Or.inr (hw.g 393)) (Or.inl (hw.g 453)))
 replace FP := Fld.same W2 FP
 replace FI := (fo W2 FI (Or.inr (hw.g 414)) (Or.inl (hw.g 453)))
 replace FV := (fo W2 FV (Or.inr (hw.g 405)) (Or.inl (hw.g 453)))
 replace X := X.wr W2
 refine K0 16 C (HJ.g 8) ?_
 refine KJ 17 C (HJ.g 9) ?_
 refine Ke 18 C (hw.g 413) Via.refl FI X (Or.inr ⟨(hw.g 414), rfl, rfl⟩) (hw.g 380) (ty := .long) (by decide) rfl rfl (Or.inl rfl) (HJ.g 10) ?_
 intro h3 W3
 replace FS := (fo W3 FS (Or.inr (hw.g 393)) (Or.inr (hw.g 414)))
 replace FP := (fo W3 FP (Or.inl (hw.g 453)) (Or.inr (hw.g 414)))
 replace FI := Fld.same W3 FI
 replace FV := (fo W3 FV (Or.inr (hw.g 405)) (Or.inr (hw.g 414)))
 replace X := X.wr W3
 refine K0 21 C (HJ.g 11) ?_
 refine K0 22 C (HJ.g 12) ?_
 refine Ke 23 C (hw.g 404) Via.refl FV X (Or.inr ⟨(hw.g 405), rfl, rfl⟩) (hw.g 380) (ty := (.object "java/math/BigInteger")) (by decide) rfl rfl (Or.inl rfl) (HJ.g 13) ?_
 intro h4 W4
 replace FS := (fo W4 FS (Or.inr (hw.g 393)) (Or.inr (hw.g 405)))
 replace FP := (fo W4 FP (Or.inl (hw.g 453)) (Or.inr (hw.g 405)))
 replace FI := (fo W4 FI (Or.inr (hw.g 414)) (Or.inr (hw.g 405)))
 replace FV := Fld.same W4 FV
 replace X := X.wr W4
 refine Ka 26 C (HJ.g 14) (fun _ _ => ⟨rfl, X, FI, FS⟩)
def Bg : MethodName := ⟨"java/math/BigDecimal", "zeroValueOf", "(I)Ljava/math/BigDecimal;"⟩
theorem Rk : plainFor Bg = true := by decide +kernel
theorem CY (hw : Kh Z a0) (W : oW Z) (h0 : Heap) :
  KH l Z Bg jdk_17_method_24_code 1 (some (.object "java/math/BigDecimal")) ⟨0, 0, 0, 0⟩ #[.int 4] h0 (fun a => h0.size ≤ a) (fun v h => ∃ a, v = some (.ref a) ∧ YR Z h a 0 4) := by
 refine Q9 Rk GN fun p e s m below meth c C hs => ?_
 obtain ⟨d1, vs, S1, A1, l1, q, t1, F1⟩ := W.zsb
 refine Qc C (fun hE hle _ => ?_)
 replace A1 := A1.ext hE
 refine K8 0 C (GK.g 0) ?_
 refine KW 1 C (GK.g 1) ?_
 refine K8 4 C (GK.g 2) ?_
 refine Ko 5 C (hw.g 800) Via.refl S1 (GK.g 3) ?_
 refine KZ 8 C A1 (GK.g 4) ?_
 rw [l1]
 refine KS 9 C (GK.g 5) ?_
 refine Ko 12 C (hw.g 800) Via.refl S1 (GK.g 6) ?_
 refine K8 15 C (GK.g 7) ?_
 refine XM 16 C (v := .ref q) 4 A1 rfl rfl t1 (GK.g 8) ?_
 refine KL 17 C (GK.g 9) (fun _ _ => ⟨q, rfl, F1.ext hE⟩)
def C4 : MethodName := ⟨"java/math/BigDecimal", "valueOf", "(JI)Ljava/math/BigDecimal;"⟩
theorem JG : plainFor C4 = true := by decide +kernel
theorem Af {x0 : Int64} {x1 : Int32} (m : MethodId) : entryFrame m #[.long x0, .int x1] 3 = oF m 0 [.val (.long x0), .second, .val (.int x1)] [] := by (first | (simp [entryFrame, oF, mkF, argsToLocals, Value.category]; done) | rfl)
theorem Dd (hw : Kh Z a0) (W : oW Z) (q_ : Int64) (h0 : Heap) (hq : q_ = 0) :
  KH l Z C4 jdk_17_method_20_code 3 (some (.object "java/math/BigDecimal")) ⟨3, 1, 5, 79⟩ #[.long q_, .int 4] h0 (fun a => h0.size ≤ a) (fun v h => ∃ a, v = some (.ref a) ∧ YR Z h a q_ 4) := by
 refine Q9 JG Af fun p e s m below meth c C hs => ?_
 subst hq
 refine K8 0 C (YV.g 0) ?_
 refine KQ 1 C 9 (YV.g 1) ?_
 refine KJ 9 C (YV.g 2) ?_
 refine KX 10 C 0 (YV.g 3) ?_
 refine Kc 11 C (YV.g 4) ?_
 refine KW 12 C (YV.g 5) ?_
 refine K8 15 C (YV.g 6) ?_
 refine KK 16 C (CY hw W _) (hw.g 797) (hw.g 798) (hw.g 381) (hw.g 799) Tt (YV.g 7) (argsL := [_]) rfl rfl rfl rfl ?_
 rintro _ h2 ⟨a, rfl, F2⟩ -
 refine KL 19 C (YV.g 8) (fun _ _ => ⟨a, rfl, F2⟩)
theorem EQ (hw : Kh Z a0) (W : oW Z) (q_ : Int64) (h0 : Heap) (hq : q_ = 5000 ∨ q_ = 6667 ∨ q_ = 10000) :
  KH l Z C4 jdk_17_method_20_code 3 (some (.object "java/math/BigDecimal")) ⟨3, 1, 5, 79⟩ #[.long q_, .int 4] h0 (fun a => h0.size ≤ a) (fun v h => ∃ a, v = some (.ref a) ∧ YR Z h a q_ 4) := by
 refine Q9 JG Af fun p e s m below meth c C hs => ?_
 rcases hq with rfl | rfl | rfl <;> (
  refine K8 0 C (YV.g 0) ?_
  refine KQ 1 C 9 (YV.g 1) ?_
  refine KJ 9 C (YV.g 2) ?_
  refine KX 10 C 0 (YV.g 3) ?_
  refine Kc 11 C (YV.g 4) ?_
  refine KQ 12 C 20 (YV.g 5) ?_
  refine QE 20 C (hw.g 447) (hw.g 380) (hw.g 381) (YV.g 9) ?_
  intro h1 a ha hPa E1 X1 D1
  have FS := D1 (Or.inr (hw.g 393)) (ty := .int) (by decide)
  have FP := D1 (Or.inl (hw.g 453)) (ty := .int) (by decide)
  have FI := D1 (Or.inr (hw.g 414)) (ty := .long) (by decide)
  have FV := D1 (Or.inr (hw.g 405)) (ty := (.object "java/math/BigInteger")) (by decide)
  refine Ku 23 C (YV.g 10) rfl ?_
  refine KJ 24 C (YV.g 11) ?_
  refine Kq 25 C (hw.g 429) (YV.g 12) ?_
  refine Kc 28 C (YV.g 13) ?_
  refine KQ 29 C 38 (YV.g 14) ?_
  refine QC 38 C (YV.g 15) ?_
  refine KJ 39 C (YV.g 16) ?_
  refine K8 40 C (YV.g 17) ?_
  refine KD 41 C 0 (YV.g 18) ?_
  refine KV 42 C (CH hw a _ _ (C.young a hPa) X1 FS FP FI FV) (hw.g 448) (hw.g 449) (hw.g 381) (hw.g 451) VH (YV.g 19) (argsL := [_, _, _, _]) rfl rfl rfl rfl (hP := (fun x q r => r.elim (fun z => z ▸ hPa) (fun z => C.new x (Nat.le_trans q z)))) ?_
  rintro _ h2 ⟨rfl, F2⟩ -
  refine KL 45 C (YV.g 20) (fun _ _ => ⟨a, rfl, F2⟩)
  )
theorem LG (hw : Kh Z a0) (W : oW Z) (q_ : Int64) (h0 : Heap) (hq : q_ = 0 ∨ q_ = 5000 ∨ q_ = 6667 ∨ q_ = 10000) :
  KH l Z C4 jdk_17_method_20_code 3 (some (.object "java/math/BigDecimal")) ⟨3, 1, 5, 79⟩ #[.long q_, .int 4] h0 (fun a => h0.size ≤ a) (fun v h => ∃ a, v = some (.ref a) ∧ YR Z h a q_ 4) := by
 rcases hq with q | q
 ·exact Dd hw W q_ h0 q
 ·exact EQ hw W q_ h0 q
def Eh : MethodName := ⟨"java/math/BigDecimal", "divideAndRound", "(JJIII)Ljava/math/BigDecimal;"⟩
theorem RH : plainFor Eh = true := by decide +kernel
theorem Wq {x0 : Int64} {x1 : Int64} {x2 : Int32} {x3 : Int32} {x4 : Int32} (m : MethodId) : entryFrame m #[.long x0, .long x1, .int x2, .int x3, .int x4] 13 = oF m 0 [.val (.long x0), .second, .val (.long x1), .second, .val (.int x2), .val (.int x3), .val (.int x4), .unset, .unset, .unset, .unset, .unset, .unset] [] := by (first | (simp [entryFrame, oF, mkF, argsToLocals, Value.category]; done) | rfl)
theorem DV (hw : Kh Z a0) (W : oW Z) (x_ d_ : Int64) (h0 : Heap) (hq : (x_ = 0 ∧ d_ = 1) ∨ (x_ = 0 ∧ d_ = 2) ∨ (x_ = 0 ∧ d_ = 3) ∨ (x_ = 0 ∧ d_ = 4) ∨ (x_ = 10000 ∧ d_ = 1) ∨ (x_ = 20000 ∧ d_ = 2) ∨ (x_ = 40000 ∧ d_ = 4) ∨ (x_ = 10000 ∧ d_ = 2) ∨ (x_ = 20000 ∧ d_ = 4)) :
  KH l Z Eh jdk_17_method_119_code 13 (some (.object "java/math/BigDecimal")) ⟨4, 1, 5, 101⟩ #[.long x_, .long d_, .int 4, .int 4, .int 4] h0 (fun a => h0.size ≤ a) (fun v h => ∃ a, v = some (.ref a) ∧ YR Z h a (x_ / d_) 4) := by
 refine Q9 RH Wq fun p e s m below meth c C hs => ?_
 rcases hq with ⟨rfl, rfl⟩ | ⟨rfl, rfl⟩ | ⟨rfl, rfl⟩ | ⟨rfl, rfl⟩ | ⟨rfl, rfl⟩ | ⟨rfl, rfl⟩ | ⟨rfl, rfl⟩ | ⟨rfl, rfl⟩ | ⟨rfl, rfl⟩ <;> (
  refine KJ 0 C (Qb.g 0) ?_
  refine KJ 1 C (Qb.g 1) ?_
  refine HE 2 C (Qb.g 2) (by decide) ?_
  refine Ky 3 C (Ls' := [_, _, _, _, _, _, _, _, _, _, _, _, _]) (Qb.g 3) rfl ?_
  refine KE 5 C (Qb.g 4) ?_
  refine KD 7 C 1 (Qb.g 5) ?_
  refine KU 8 C 26 (Qb.g 6) ?_
  refine KJ 26 C (Qb.g 7) ?_
  refine KJ 27 C (Qb.g 8) ?_
  refine J_ 28 C (Qb.g 9) (by decide) ?_
  refine Ky 29 C (Ls' := [_, _, _, _, _, _, _, _, _, _, _, _, _]) (Qb.g 10) rfl ?_
  refine KJ 31 C (Qb.g 11) ?_
  refine KX 32 C 0 (Qb.g 12) ?_
  refine Kc 33 C (Qb.g 13) ?_
  refine KQ 34 C 41 (Qb.g 14) ?_
  refine KD 41 C 0 (Qb.g 15) ?_
  refine KJ 42 C (Qb.g 16) ?_
  refine KX 43 C 0 (Qb.g 17) ?_
  refine Kc 44 C (Qb.g 18) ?_
  refine KQ 45 C 52 (Qb.g 19) ?_
  refine KD 52 C 0 (Qb.g 20) ?_
  refine KS 53 C (Qb.g 21) ?_
  refine KD 56 C 1 (Qb.g 22) ?_
  refine KT 57 C 61 (Qb.g 23) ?_
  refine KG 61 C (Ls' := [_, _, _, _, _, _, _, _, _, _, _, _, _]) (Qb.g 24) rfl ?_
  refine Kw 63 C (Qb.g 25) ?_
  refine KX 65 C 0 (Qb.g 26) ?_
  refine Kc 66 C (Qb.g 27) ?_
  refine KQ 67 C 106 (Qb.g 28) ?_
  refine KE 106 C (Qb.g 29) ?_
  refine KE 108 C (Qb.g 30) ?_
  refine KU 110 C 124 (Qb.g 31) ?_
  refine Kw 124 C (Qb.g 32) ?_
  refine KE 126 C (Qb.g 33) ?_
  refine KK 128 C (LG hw W _ _ (by decide)) (hw.g 444) (hw.g 445) (hw.g 381) (hw.g 446) Jc (Qb.g 34) (argsL := [_, _]) rfl rfl rfl rfl ?_
  rintro _ h2 ⟨a, rfl, F2⟩ -
  refine KL 131 C (Qb.g 35) (fun _ _ => ⟨a, rfl, F2⟩)
  )
theorem Eb (hw : Kh Z a0) (W : oW Z) (x_ d_ : Int64) (h0 : Heap) (h1 : x_ = 20000) (h2 : d_ = 3) :
  KH l Z Eh jdk_17_method_119_code 13 (some (.object "java/math/BigDecimal")) ⟨4, 1, 5, 101⟩ #[.long x_, .long d_, .int 4, .int 4, .int 4] h0 (fun a => h0.size ≤ a) (fun v h => ∃ a, v = some (.ref a) ∧ YR Z h a 6667 4) := by
 refine Q9 RH Wq fun p e s m below meth c C hs => ?_
 subst h1 h2
 refine KJ 0 C (Qb.g 0) ?_
 refine KJ 1 C (Qb.g 1) ?_
 refine HE 2 C (Qb.g 2) (by decide) ?_
 refine Ky 3 C (Ls' := [_, _, _, _, _, _, _, _, _, _, _, _, _]) (Qb.g 3) rfl ?_
 refine KE 5 C (Qb.g 4) ?_
 refine KD 7 C 1 (Qb.g 5) ?_
 refine KU 8 C 26 (Qb.g 6) ?_
 refine KJ 26 C (Qb.g 7) ?_
 refine KJ 27 C (Qb.g 8) ?_
 refine J_ 28 C (Qb.g 9) (by decide) ?_
 refine Ky 29 C (Ls' := [_, _, _, _, _, _, _, _, _, _, _, _, _]) (Qb.g 10) rfl ?_
 refine KJ 31 C (Qb.g 11) ?_
 refine KX 32 C 0 (Qb.g 12) ?_
 refine Kc 33 C (Qb.g 13) ?_
 refine KQ 34 C 41 (Qb.g 14) ?_
 refine KD 41 C 0 (Qb.g 15) ?_
 refine KJ 42 C (Qb.g 16) ?_
 refine KX 43 C 0 (Qb.g 17) ?_
 refine Kc 44 C (Qb.g 18) ?_
 refine KQ 45 C 52 (Qb.g 19) ?_
 refine KD 52 C 0 (Qb.g 20) ?_
 refine KS 53 C (Qb.g 21) ?_
 refine KD 56 C 1 (Qb.g 22) ?_
 refine KT 57 C 61 (Qb.g 23) ?_
 refine KG 61 C (Ls' := [_, _, _, _, _, _, _, _, _, _, _, _, _]) (Qb.g 24) rfl ?_
 refine Kw 63 C (Qb.g 25) ?_
 refine KX 65 C 0 (Qb.g 26) ?_
 refine Kc 66 C (Qb.g 27) ?_
 refine KW 67 C (Qb.g 28) ?_
 refine KJ 70 C (Qb.g 36) ?_
 refine KE 71 C (Qb.g 37) ?_
 refine KE 73 C (Qb.g 38) ?_
 refine Kw 75 C (Qb.g 39) ?_
 refine Kw 77 C (Qb.g 40) ?_
 refine KK 79 C (Ll hw W _ _ _ _ (by decide) (by decide) (by decide)) (hw.g 533) (hw.g 534) (hw.g 381) (hw.g 535) WE (Qb.g 41) (argsL := [_, _, _, _, _]) rfl rfl rfl rfl ?_
 rintro _ _ ⟨rfl, rfl⟩ -
 refine KG 82 C (Ls' := [_, _, _, _, _, _, _, _, _, _, _, _, _]) (Qb.g 42) rfl ?_
 refine KE 84 C (Qb.g 43) ?_
 refine KW 86 C (Qb.g 44) ?_
 refine Kw 89 C (Qb.g 45) ?_
 refine KE 91 C (Qb.g 46) ?_
 refine Xl 93 C (Qb.g 47) ?_
 refine QT 94 C (Qb.g 48) ?_
 refine KT 95 C 100 (Qb.g 49) ?_
 refine KE 100 C (Qb.g 50) ?_
 refine KK 102 C (LG hw W _ _ (by decide)) (hw.g 444) (hw.g 445) (hw.g 381) (hw.g 446) Jc (Qb.g 51) (argsL := [_, _]) rfl rfl rfl rfl ?_
 rintro _ h2 ⟨a, rfl, F2⟩ -
 refine KL 105 C (Qb.g 52) (fun _ _ => ⟨a, rfl, F2.eq (by decide)⟩)
def JD (n_ d_ q_ : Int64) : Prop := (n_ = 0 ∧ d_ = 1 ∧ q_ = 0) ∨ (n_ = 0 ∧ d_ = 2 ∧ q_ = 0) ∨ (n_ = 0 ∧ d_ = 3 ∧ q_ = 0) ∨ (n_ = 0 ∧ d_ = 4 ∧ q_ = 0) ∨ (n_ = 1 ∧ d_ = 1 ∧ q_ = 10000) ∨ (n_ = 2 ∧ d_ = 2 ∧ q_ = 10000) ∨ (n_ = 4 ∧ d_ = 4 ∧ q_ = 10000) ∨ (n_ = 1 ∧ d_ = 2 ∧ q_ = 5000) ∨ (n_ = 2 ∧ d_ = 4 ∧ q_ = 5000) ∨ (n_ = 2 ∧ d_ = 3 ∧ q_ = 6667)
def C7 : MethodName := ⟨"java/math/BigDecimal", "divide", "(JIJIII)Ljava/math/BigDecimal;"⟩
theorem Jv : plainFor C7 = true := by decide +kernel
theorem Wy {x0 : Int64} {x1 : Int32} {x2 : Int64} {x3 : Int32} {x4 : Int32} {x5 : Int32} (m : MethodId) : entryFrame m #[.long x0, .int x1, .long x2, .int x3, .int x4, .int x5] 13 = oF m 0 [.val (.long x0), .second, .val (.int x1), .val (.long x2), .second, .val (.int x3), .val (.int x4), .val (.int x5), .unset, .unset, .unset, .unset, .unset] [] := by (first | (simp [entryFrame, oF, mkF, argsToLocals, Value.category]; done) | rfl)
theorem Ch (hw : Kh Z a0) (W : oW Z) (n_ d_ q_ : Int64) (h0 : Heap) (hq : (n_ = 0 ∧ d_ = 1 ∧ q_ = 0) ∨ (n_ = 0 ∧ d_ = 2 ∧ q_ = 0) ∨ (n_ = 0 ∧ d_ = 3 ∧ q_ = 0) ∨ (n_ = 0 ∧ d_ = 4 ∧ q_ = 0) ∨ (n_ = 1 ∧ d_ = 1 ∧ q_ = 10000) ∨ (n_ = 2 ∧ d_ = 2 ∧ q_ = 10000) ∨ (n_ = 4 ∧ d_ = 4 ∧ q_ = 10000) ∨ (n_ = 1 ∧ d_ = 2 ∧ q_ = 5000) ∨ (n_ = 2 ∧ d_ = 4 ∧ q_ = 5000)) :
  KH l Z C7 jdk_17_method_166_code 13 (some (.object "java/math/BigDecimal")) ⟨5, 1, 5, 133⟩ #[.long n_, .int 0, .long d_, .int 0, .int 4, .int 4] h0 (fun a => h0.size ≤ a) (fun v h => ∃ a, v = some (.ref a) ∧ YR Z h a q_ 4) := by
 refine Q9 Jv Wy fun p e s m below meth c C hs => ?_
 obtain ⟨d1, vs1, S1, A1, l1, t1⟩ := W.ltp
 refine Qc C (fun hE hle _ => ?_)
 replace A1 := A1.ext hE
 rcases hq with ⟨rfl, rfl, rfl⟩ | ⟨rfl, rfl, rfl⟩ | ⟨rfl, rfl, rfl⟩ | ⟨rfl, rfl, rfl⟩ | ⟨rfl, rfl, rfl⟩ | ⟨rfl, rfl, rfl⟩ | ⟨rfl, rfl, rfl⟩ | ⟨rfl, rfl, rfl⟩ | ⟨rfl, rfl, rfl⟩ <;> (
  refine KJ 0 C (Qi.g 0) ?_
  refine KE 1 C (Qi.g 1) ?_
  refine Xl 3 C (Qi.g 2) ?_
  refine KE 4 C (Qi.g 3) ?_
  refine Xl 6 C (Qi.g 4) ?_
  refine QT 7 C (Qi.g 5) ?_
  refine KK 8 C (Ai hw _ _ _ (by decide)) (hw.g 433) (hw.g 434) (hw.g 381) (hw.g 435) Gm (Qi.g 6) (argsL := [_, _]) rfl rfl rfl rfl ?_
  rintro _ _ ⟨rfl, rfl⟩ -
  refine K8 11 C (Qi.g 7) ?_
  refine KS 12 C (Qi.g 8) ?_
  refine KE 15 C (Qi.g 9) ?_
  refine KE 17 C (Qi.g 10) ?_
  refine Kg 19 C (Qi.g 11) ?_
  refine KG 20 C (Ls' := [_, _, _, _, _, _, _, _, _, _, _, _, _]) (Qi.g 12) rfl ?_
  refine KE 22 C (Qi.g 13) ?_
  refine K8 24 C (Qi.g 14) ?_
  refine Kt 25 C (Qi.g 15) ?_
  refine KG 26 C (Ls' := [_, _, _, _, _, _, _, _, _, _, _, _, _]) (Qi.g 16) rfl ?_
  refine KE 28 C (Qi.g 17) ?_
  refine Ko 30 C (hw.g 436) Via.refl S1 (Qi.g 18) ?_
  refine KZ 33 C A1 (Qi.g 19) ?_
  rw [l1]
  refine KS 34 C (Qi.g 20) ?_
  refine KJ 37 C (Qi.g 21) ?_
  refine Ky 38 C (Ls' := [_, _, _, _, _, _, _, _, _, _, _, _, _]) (Qi.g 22) rfl ?_
  refine Kw 40 C (Qi.g 23) ?_
  refine KE 42 C (Qi.g 24) ?_
  refine KK 44 C (Wu hw W _ _ (by decide)) (hw.g 437) (hw.g 438) (hw.g 381) (hw.g 439) JY (Qi.g 25) (argsL := [_, _]) rfl rfl rfl rfl ?_
  rintro _ _ ⟨rfl, rfl⟩ -
  refine Hf 47 C (Qi.g 26) ?_
  refine Ky 48 C (Ls' := [_, _, _, _, _, _, _, _, _, _, _, _, _]) (Qi.g 27) rfl ?_
  refine Kq 50 C (hw.g 429) (Qi.g 28) ?_
  refine Kc 53 C (Qi.g 29) ?_
  refine KW 54 C (Qi.g 30) ?_
  refine Kw 57 C (Qi.g 31) ?_
  refine KJ 59 C (Qi.g 32) ?_
  refine KE 60 C (Qi.g 33) ?_
  refine KE 62 C (Qi.g 34) ?_
  refine KE 64 C (Qi.g 35) ?_
  refine KK 66 C (DV hw W _ _ _ (by decide)) (hw.g 441) (hw.g 442) (hw.g 381) (hw.g 443) Jo (Qi.g 36) (argsL := [_, _, _, _, _]) rfl rfl rfl rfl ?_
  rintro _ h2 ⟨a, rfl, F2⟩ -
  refine KL 69 C (Qi.g 37) (fun _ _ => ⟨a, rfl, F2.eq (by decide)⟩)
  )
theorem Cj (hw : Kh Z a0) (W : oW Z) (n_ d_ q_ : Int64) (h0 : Heap) (h1 : n_ = 2) (h2 : d_ = 3) (h3 : q_ = 6667) :
  KH l Z C7 jdk_17_method_166_code 13 (some (.object "java/math/BigDecimal")) ⟨5, 1, 5, 133⟩ #[.long n_, .int 0, .long d_, .int 0, .int 4, .int 4] h0 (fun a => h0.size ≤ a) (fun v h => ∃ a, v = some (.ref a) ∧ YR Z h a q_ 4) := by
 refine Q9 Jv Wy fun p e s m below meth c C hs => ?_
 subst h1 h2 h3
 obtain ⟨d1, vs1, S1, A1, l1, t1⟩ := W.ltp
 refine Qc C (fun hE hle _ => ?_)
 replace A1 := A1.ext hE
 refine KJ 0 C (Qi.g 0) ?_
 refine KE 1 C (Qi.g 1) ?_
 refine Xl 3 C (Qi.g 2) ?_
 refine KE 4 C (Qi.g 3) ?_
 refine Xl 6 C (Qi.g 4) ?_
 refine QT 7 C (Qi.g 5) ?_
 refine KK 8 C (Ai hw _ _ _ (by decide)) (hw.g 433) (hw.g 434) (hw.g 381) (hw.g 435) Gm (Qi.g 6) (argsL := [_, _]) rfl rfl rfl rfl ?_
 rintro _ _ ⟨rfl, rfl⟩ -
 refine K8 11 C (Qi.g 7) ?_
 refine KS 12 C (Qi.g 8) ?_
 refine KE 15 C (Qi.g 9) ?_
 refine KE 17 C (Qi.g 10) ?_
 refine Kg 19 C (Qi.g 11) ?_
 refine KG 20 C (Ls' := [_, _, _, _, _, _, _, _, _, _, _, _, _]) (Qi.g 12) rfl ?_
 refine KE 22 C (Qi.g 13) ?_
 refine K8 24 C (Qi.g 14) ?_
 refine Kt 25 C (Qi.g 15) ?_
 refine KG 26 C (Ls' := [_, _, _, _, _, _, _, _, _, _, _, _, _]) (Qi.g 16) rfl ?_
 refine KE 28 C (Qi.g 17) ?_
 refine Ko 30 C (hw.g 436) Via.refl S1 (Qi.g 18) ?_
 refine KZ 33 C A1 (Qi.g 19) ?_
 rw [l1]
 refine KS 34 C (Qi.g 20) ?_
 refine KJ 37 C (Qi.g 21) ?_
 refine Ky 38 C (Ls' := [_, _, _, _, _, _, _, _, _, _, _, _, _]) (Qi.g 22) rfl ?_
 refine Kw 40 C (Qi.g 23) ?_
 refine KE 42 C (Qi.g 24) ?_
 refine KK 44 C (Wu hw W _ _ (by decide)) (hw.g 437) (hw.g 438) (hw.g 381) (hw.g 439) JY (Qi.g 25) (argsL := [_, _]) rfl rfl rfl rfl ?_
 rintro _ _ ⟨rfl, rfl⟩ -
 refine Hf 47 C (Qi.g 26) ?_
 refine Ky 48 C (Ls' := [_, _, _, _, _, _, _, _, _, _, _, _, _]) (Qi.g 27) rfl ?_
 refine Kq 50 C (hw.g 429) (Qi.g 28) ?_
 refine Kc 53 C (Qi.g 29) ?_
 refine KW 54 C (Qi.g 30) ?_
 refine Kw 57 C (Qi.g 31) ?_
 refine KJ 59 C (Qi.g 32) ?_
 refine KE 60 C (Qi.g 33) ?_
 refine KE 62 C (Qi.g 34) ?_
 refine KE 64 C (Qi.g 35) ?_
 refine KK 66 C (Eb hw W _ _ _ (by decide) (by decide)) (hw.g 441) (hw.g 442) (hw.g 381) (hw.g 443) Jo (Qi.g 36) (argsL := [_, _, _, _, _]) rfl rfl rfl rfl ?_
 rintro _ h2 ⟨a, rfl, F2⟩ -
 refine KL 69 C (Qi.g 37) (fun _ _ => ⟨a, rfl, F2⟩)
theorem Ln (hw : Kh Z a0) (W : oW Z) (n_ d_ q_ : Int64) (h0 : Heap) (hq : JD n_ d_ q_) :
  KH l Z C7 jdk_17_method_166_code 13 (some (.object "java/math/BigDecimal")) ⟨5, 1, 5, 133⟩ #[.long n_, .int 0, .long d_, .int 0, .int 4, .int 4] h0 (fun a => h0.size ≤ a) (fun v h => ∃ a, v = some (.ref a) ∧ YR Z h a q_ 4) := by
 by_cases h3 : n_ = 2 ∧ d_ = 3 ∧ q_ = 6667
 ·exact Cj hw W n_ d_ q_ h0 h3.1 h3.2.1 h3.2.2
 ·exact Ch hw W n_ d_ q_ h0 (by unfold JD at hq; simp only [h3, or_false] at hq; exact hq)
theorem RA {n_ d_ q_ : Int64} (hq : JD n_ d_ q_) : (n_ = 0 ∨ n_ = 1 ∨ n_ = 2 ∨ n_ = 4) ∧ (d_ = 1 ∨ d_ = 2 ∨ d_ = 3 ∨ d_ = 4) ∧ (q_ = 0 ∨ q_ = 5000 ∨ q_ = 6667 ∨ q_ = 10000) := by
 unfold JD at hq
 rcases hq with ⟨rfl, rfl, rfl⟩ | ⟨rfl, rfl, rfl⟩ | ⟨rfl, rfl, rfl⟩ | ⟨rfl, rfl, rfl⟩ | ⟨rfl, rfl, rfl⟩ | ⟨rfl, rfl, rfl⟩ | ⟨rfl, rfl, rfl⟩ | ⟨rfl, rfl, rfl⟩ | ⟨rfl, rfl, rfl⟩ | ⟨rfl, rfl, rfl⟩ <;> decide
def Fb : MethodName := ⟨"java/math/BigDecimal", "divide", "(Ljava/math/BigDecimal;II)Ljava/math/BigDecimal;"⟩
theorem WM : plainFor Fb = true := by decide +kernel
theorem Cg (hw : Kh Z a0) (W : oW Z) (a b_ : Addr) (n_ d_ q_ : Int64) (h0 : Heap) (hq : JD n_ d_ q_) (F : YR Z h0 a n_ 0) (G : YR Z h0 b_ d_ 0) :
  KH l Z Fb jdk_17_method_33_code 4 (some (.object "java/math/BigDecimal")) ⟨6, 1, 5, 165⟩ #[.ref a, .ref b_, .int 4, .int 4] h0 (fun a => h0.size ≤ a) (fun v h => ∃ a, v = some (.ref a) ∧ YR Z h a q_ 4) := by
 refine Q9 WM FZ fun p e s m below meth c C hs => ?_
 obtain ⟨q1, q2, -⟩ := RA hq
 refine K8 0 C (YT.g 0) ?_
 refine KW 1 C (YT.g 1) ?_
 refine K8 4 C (YT.g 2) ?_
 refine KN 5 C 7 (YT.g 3) ?_
 refine KU 7 C 21 (YT.g 4) ?_
 refine K0 21 C (YT.g 5) ?_
 refine KF 22 C (hw.g 413) Via.refl F.2.1 (YT.g 6) ?_
 refine Kq 25 C (hw.g 429) (YT.g 7) ?_
 refine Kc 28 C (YT.g 8) ?_
 refine Qx 29 C 87 (YT.g 9) (fun hc29 => ?_) (fun hc29 => ?_)
 ·simp only [oC, Classical.not_not] at hc29
  exact absurd hc29 (by rcases q1 with rfl | rfl | rfl | rfl <;> decide)
 ·simp only [oC, Classical.not_not] at hc29
  refine K0 32 C (YT.g 10) ?_
  refine KF 33 C (hw.g 413) Via.refl G.2.1 (YT.g 11) ?_
  refine Kq 36 C (hw.g 429) (YT.g 12) ?_
  refine Kc 39 C (YT.g 13) ?_
  refine Qx 40 C 65 (YT.g 14) (fun hc40 => ?_) (fun hc40 => ?_)
  ·simp only [oC, Classical.not_not] at hc40
   exact absurd hc40 (by rcases q2 with rfl | rfl | rfl | rfl <;> decide)
  ·simp only [oC, Classical.not_not] at hc40
   refine K0 43 C (YT.g 15) ?_
   refine KF 44 C (hw.g 413) Via.refl F.2.1 (YT.g 16) ?_
   refine K0 47 C (YT.g 17) ?_
   refine KF 48 C (hw.g 392) Via.refl F.2.2 (YT.g 18) ?_
   refine K0 51 C (YT.g 19) ?_
   refine KF 52 C (hw.g 413) Via.refl G.2.1 (YT.g 20) ?_
   refine K0 55 C (YT.g 21) ?_
   refine KF 56 C (hw.g 392) Via.refl G.2.2 (YT.g 22) ?_
   refine K8 59 C (YT.g 23) ?_
   refine K8 60 C (YT.g 24) ?_
   refine KK 61 C (Ln hw W n_ d_ q_ _ hq) (hw.g 430) (hw.g 431) (hw.g 381) (hw.g 432) Vc (YT.g 25) (argsL := [_, _, _, _, _, _]) rfl rfl rfl rfl ?_
   rintro _ h2 ⟨a, rfl, F2⟩ -
   refine KL 64 C (YT.g 26) (fun _ _ => ⟨a, rfl, F2⟩)
def Fi : MethodName := ⟨"java/math/BigDecimal", "divide", "(Ljava/math/BigDecimal;ILjava/math/RoundingMode;)Ljava/math/BigDecimal;"⟩
theorem WP : plainFor Fi = true := by decide +kernel
theorem DZ {x0 : Addr} {x1 : Addr} {x2 : Int32} {x3 : Addr} (m : MethodId) : entryFrame m #[.ref x0, .ref x1, .int x2, .ref x3] 4 = oF m 0 [.val (.ref x0), .val (.ref x1), .val (.int x2), .val (.ref x3)] [] := by (first | (simp [entryFrame, oF, mkF, argsToLocals, Value.category]; done) | rfl)
theorem Ew (hw : Kh Z a0) (W : oW Z) (a b_ : Addr) (n_ d_ q_ : Int64) (h0 : Heap) (hq : JD n_ d_ q_) (F : YR Z h0 a n_ 0) (G : YR Z h0 b_ d_ 0) (r_ : Addr) (O : Fld Z h0 r_ "java/math/RoundingMode" "oldMode" "I" (.int 4)) :
  KH l Z Fi jdk_17_method_34_code 4 (some (.object "java/math/BigDecimal")) ⟨7, 1, 5, 188⟩ #[.ref a, .ref b_, .int 4, .ref r_] h0 (fun a => h0.size ≤ a) (fun v h => ∃ a, v = some (.ref a) ∧ YR Z h a q_ 4) := by
 refine Q9 WP DZ fun p e s m below meth c C hs => ?_
 refine K0 0 C (Vq.g 0) ?_
 refine K0 1 C (Vq.g 1) ?_
 refine K8 2 C (Vq.g 2) ?_
 refine K0 3 C (Vq.g 3) ?_
 refine KF 4 C (hw.g 422) Via.refl O (Vq.g 4) ?_
 refine KI 7 C (Cg hw W a b_ n_ d_ q_ _ hq F G) (F.1) (hw.g 424) (hw.g 425) (QF (hw.g 427)) (hw.g 427) (hw.g 426) (hw.g 381) (hw.g 428) VL (Vq.g 5) (argsL := [_, _, _]) rfl rfl rfl rfl ?_
 rintro _ h2 ⟨a, rfl, F2⟩ -
 refine KL 10 C (Vq.g 6) (fun _ _ => ⟨a, rfl, F2⟩)
def LC : MethodName := ⟨"java/math/BigDecimal", "toStrictBigInteger", "(Ljava/math/BigInteger;)Ljava/math/BigInteger;"⟩
theorem VI : plainFor LC = true := by decide +kernel
theorem Cv (hw : Kh Z a0) (W : oW Z) (a : Addr) (v_ : Nat) (h0 : Heap) (F : QQ Z h0 a v_) :
  KH l Z LC jdk_17_method_11_code 1 (some (.object "java/math/BigInteger")) ⟨1, 0, 0, 34⟩ #[.ref a] h0 (fun a => h0.size ≤ a) (fun v h => v = some (.ref a) ∧ h0 = h) := by
 refine Q9 VI YL fun p e s m below meth c C hs => ?_
 obtain ⟨mr, M⟩ := W.mbi
 refine K0 0 C (V7.g 0) ?_
 refine Yw 1 C M F.1 (hw.g 397) (hw.g 401) (hw.g 399) (hw.g 400) (V7.g 1) rfl (by decide) (Nat.le_of_ble_eq_true rfl) ?_
 refine JX 4 C M (hw.g 403) (V7.g 2) ?_
 refine YA 6 C 13 (V7.g 3) rfl rfl (fun hc6 => ?_) (fun hc6 => ?_)
 ·simp only [oA, Classical.not_not, Value.ref.injEq] at hc6
  exact absurd trivial hc6
 ·simp only [oA, Classical.not_not, Value.ref.injEq] at hc6
  refine K0 9 C (V7.g 4) ?_
  refine KT 10 C 30 (V7.g 5) ?_
  refine KL 30 C (V7.g 6) (fun _ _ => ⟨rfl, rfl⟩)
def Bv : MethodName := ⟨"java/math/BigDecimal", "compactValFor", "(Ljava/math/BigInteger;)J"⟩
theorem Jd : plainFor Bv = true := by decide +kernel
theorem Vf {x0 : Addr} (m : MethodId) : entryFrame m #[.ref x0] 6 = oF m 0 [.val (.ref x0), .unset, .unset, .unset, .unset, .unset] [] := by (first | (simp [entryFrame, oF, mkF, argsToLocals, Value.category]; done) | rfl)
theorem Dl (hw : Kh Z a0) (a : Addr) (v_ : Nat) (h0 : Heap) (F : QQ Z h0 a v_) (hq : v_ = 0) :
  KH l Z Bv jdk_17_method_107_code 6 (some .long) ⟨0, 0, 0, 0⟩ #[.ref a] h0 (fun a => h0.size ≤ a) (fun v h => v = some (.long (Int64.ofNat v_)) ∧ h0 = h) := by
 refine Q9 Jd Vf fun p e s m below meth c C hs => ?_
 subst hq
 obtain ⟨-, S1, m1, M1, A1⟩ := F
 refine K0 0 C (Xd.g 0) ?_
 refine KF 1 C (hw.g 409) Via.refl M1 (Xd.g 1) ?_
 refine KY 4 C (Ls' := [_, _, _, _, _, _]) (Xd.g 2) rfl rfl ?_
 refine K0 5 C (Xd.g 3) ?_
 refine KZ 6 C A1.1 (Xd.g 4) ?_
 rw [show (GZ 0).length = 0 from rfl]
 refine KO 7 C (Ls' := [_, _, _, _, _, _]) (Xd.g 5) rfl ?_
 refine K8 8 C (Xd.g 6) ?_
 refine KW 9 C (Xd.g 7) ?_
 refine KX 12 C 0 (Xd.g 8) ?_
 refine XB 13 C (Xd.g 9) (fun _ _ => ⟨by first | rfl | decide, rfl⟩)
theorem DW (hw : Kh Z a0) (a : Addr) (v_ : Nat) (h0 : Heap) (F : QQ Z h0 a v_) (hq : v_ = 1 ∨ v_ = 2 ∨ v_ = 3 ∨ v_ = 4) :
  KH l Z Bv jdk_17_method_107_code 6 (some .long) ⟨0, 0, 0, 0⟩ #[.ref a] h0 (fun a => h0.size ≤ a) (fun v h => v = some (.long (Int64.ofNat v_)) ∧ h0 = h) := by
 refine Q9 Jd Vf fun p e s m below meth c C hs => ?_
 rcases hq with rfl | rfl | rfl | rfl <;> obtain ⟨m1, S1, M1, A1⟩ := F.p (by decide) <;> (
  refine K0 0 C (Xd.g 0) ?_
  refine KF 1 C (hw.g 409) Via.refl M1 (Xd.g 1) ?_
  refine KY 4 C (Ls' := [_, _, _, _, _, _]) (Xd.g 2) rfl rfl ?_
  refine K0 5 C (Xd.g 3) ?_
  refine KZ 6 C A1.1 (Xd.g 4) ?_
  rw [show Int32.ofNat (List.length [Value.int _]) = 1 from rfl]
  refine KO 7 C (Ls' := [_, _, _, _, _, _]) (Xd.g 5) rfl ?_
  refine K8 8 C (Xd.g 6) ?_
  refine KQ 9 C 14 (Xd.g 7) ?_
  refine K0 14 C (Xd.g 10) ?_
  refine KD 15 C 0 (Xd.g 11) ?_
  refine Kl 16 C (v := .int _) 0 A1.1 rfl rfl (Xd.g 12) ?_
  refine KO 17 C (Ls' := [_, _, _, _, _, _]) (Xd.g 13) rfl ?_
  refine K8 18 C (Xd.g 14) ?_
  refine KD 19 C 2 (Xd.g 15) ?_
  refine KS 20 C (Xd.g 16) ?_
  refine K8 23 C (Xd.g 17) ?_
  refine KD 24 C 2 (Xd.g 18) ?_
  refine KU 25 C 36 (Xd.g 19) ?_
  refine K8 36 C (Xd.g 20) ?_
  refine KD 37 C 2 (Xd.g 21) ?_
  refine KU 38 C 58 (Xd.g 22) ?_
  refine K8 58 C (Xd.g 23) ?_
  refine Xl 59 C (Xd.g 24) ?_
  refine Kq 60 C (hw.g 411) (Xd.g 25) ?_
  refine YP 63 C (Xd.g 26) ?_
  refine Ky 64 C (Ls' := [_, _, _, _, _, _]) (Xd.g 27) rfl ?_
  refine K0 66 C (Xd.g 28) ?_
  refine KF 67 C (hw.g 412) Via.refl S1 (Xd.g 29) ?_
  refine KQ 70 C 79 (Xd.g 30) ?_
  refine Kw 79 C (Xd.g 31) ?_
  refine XB 81 C (Xd.g 32) (fun _ _ => ⟨by first | rfl | decide, rfl⟩)
  )
theorem Ej (hw : Kh Z a0) (a : Addr) (v_ : Nat) (h0 : Heap) (F : QQ Z h0 a v_) (hq : v_ ≤ 4) :
  KH l Z Bv jdk_17_method_107_code 6 (some .long) ⟨0, 0, 0, 0⟩ #[.ref a] h0 (fun a => h0.size ≤ a) (fun v h => v = some (.long (Int64.ofNat v_)) ∧ h0 = h) := by
 by_cases h1 : v_ = 0
 ·exact Dl hw a v_ h0 F h1
 ·exact DW hw a v_ h0 F (by omega)
def LN : MethodName := ⟨"java/math/BigDecimal", "<init>", "(Ljava/math/BigInteger;)V"⟩
theorem UZ : plainFor LN = true := by decide +kernel
theorem BW (hw : Kh Z a0) (W : oW Z) (a b_ : Addr) (v_ : Nat) (h0 : Heap) (G : QQ Z h0 b_ v_) (hv : v_ ≤ 4) (hya : Z.heap.size ≤ a) (X : Exa Z h0 a "java/math/BigDecimal") (FS : Fld Z h0 a "java/math/BigDecimal" "scale" "I" (.int 0)) (FP : Fld Z h0 a "java/math/BigDecimal" "precision" "I" (.int 0)) (FI : Fld Z h0 a "java/math/BigDecimal" "intCompact" "J" (.long 0)) (FV : Fld Z h0 a "java/math/BigDecimal" "intVal" "Ljava/math/BigInteger;" .null) :
  KH l Z LN jdk_17_method_12_code 2 none ⟨2, 0, 0, 54⟩ #[.ref a, .ref b_] h0 (fun x => x = a ∨ h0.size ≤ x) (fun v h => v = none ∧ YR Z h a (Int64.ofNat v_) 0) := by
 refine Xr hya UZ Gu fun p e s m below meth c C hs => ?_
 refine K0 0 C (HN.g 0) ?_
 refine KV 1 C (Ux hw a _) (hw.g 385) (hw.g 386) (hw.g 389) (hw.g 390) QL (HN.g 1) (argsL := []) rfl rfl rfl rfl ?_
 rintro _ _ ⟨rfl, rfl⟩ -
 refine K0 4 C (HN.g 2) ?_
 refine KD 5 C 0 (HN.g 3) ?_
 refine Ke 6 C (hw.g 392) Via.refl FS X (Or.inr ⟨(hw.g 393), rfl, rfl⟩) (hw.g 380) (ty := .int) (by decide) rfl rfl (Or.inl rfl) (HN.g 4) ?_
 intro h1 W1
 replace FS := Fld.same W1 FS
 replace FP := (fo W1 FP (Or.inl (hw.g 453)) (Or.inr (hw.g 393)))
 replace FI := (fo W1 FI (Or.inr (hw.g 414)) (Or.inr (hw.g 393)))
 replace FV := (fo W1 FV (Or.inr (hw.g 405)) (Or.inr (hw.g 393)))
 replace G := G.wrX X (by decide) (hw.g 380) W1
 replace X := X.wr W1
 refine K0 9 C (HN.g 5) ?_
 refine K0 10 C (HN.g 6) ?_
 refine KK 11 C (Cv hw W b_ v_ _ G) (hw.g 394) (hw.g 395) (hw.g 381) (hw.g 396) Qn (HN.g 7) (argsL := [_]) rfl rfl rfl rfl ?_
 rintro _ _ ⟨rfl, rfl⟩ -
 refine Ke 14 C (hw.g 404) Via.refl FV X (Or.inr ⟨(hw.g 405), rfl, rfl⟩) (hw.g 380) (ty := (.object "java/math/BigInteger")) (by decide) rfl rfl (Or.inl rfl) (HN.g 8) ?_
 intro h2 W2
 replace FS := (fo W2 FS (Or.inr (hw.g 393)) (Or.inr (hw.g 405)))
 replace FP := (fo W2 FP (Or.inl (hw.g 453)) (Or.inr (hw.g 405)))
 replace FI := (fo W2 FI (Or.inr (hw.g 414)) (Or.inr (hw.g 405)))
 replace FV := Fld.same W2 FV
 replace G := G.wrX X (by decide) (hw.g 380) W2
 replace X := X.wr W2
 refine K0 17 C (HN.g 9) ?_
 refine K0 18 C (HN.g 10) ?_
 refine KF 19 C (hw.g 404) Via.refl FV (HN.g 11) ?_
 refine KK 22 C (Ej hw b_ v_ _ G hv) (hw.g 406) (hw.g 407) (hw.g 381) (hw.g 408) VE (HN.g 12) (argsL := [_]) rfl rfl rfl rfl ?_
 rintro _ _ ⟨rfl, rfl⟩ -
 refine Ke 25 C (hw.g 413) Via.refl FI X (Or.inr ⟨(hw.g 414), rfl, rfl⟩) (hw.g 380) (ty := .long) (by decide) rfl rfl (Or.inl rfl) (HN.g 13) ?_
 intro h3 W3
 replace FS := (fo W3 FS (Or.inr (hw.g 393)) (Or.inr (hw.g 414)))
 replace FP := (fo W3 FP (Or.inl (hw.g 453)) (Or.inr (hw.g 414)))
 replace FI := Fld.same W3 FI
 replace FV := (fo W3 FV (Or.inr (hw.g 405)) (Or.inr (hw.g 414)))
 replace X := X.wr W3
 refine Ka 28 C (HN.g 14) (fun _ _ => ⟨rfl, X, FI, FS⟩)
def LK : MethodName := ⟨"java/lang/Long", "signum", "(J)I"⟩
theorem Uh : plainFor LK = true := by decide +kernel
theorem ED (hw : Kh Z a0) (q_ : Int64) (h0 : Heap) (hq : q_ = 0 ∨ q_ = 5000 ∨ q_ = 6667 ∨ q_ = 10000) :
  KH l Z LK jdk_35_method_57_code 2 (some .int) ⟨0, 0, 0, 0⟩ #[.long q_] h0 (fun a => h0.size ≤ a) (fun v h => v = some (.int (if q_ = 0 then 0 else 1)) ∧ h0 = h) := by
 refine Q9 Uh Gw fun p e s m below meth c C hs => ?_
 rcases hq with rfl | rfl | rfl | rfl <;> (
  refine KJ 0 C (RO.g 0) ?_
  refine KN 1 C 63 (RO.g 1) ?_
  refine V3 3 C (RO.g 2) ?_
  refine KJ 4 C (RO.g 3) ?_
  refine Y8 5 C (RO.g 4) ?_
  refine KN 6 C 63 (RO.g 5) ?_
  refine Hh 8 C (RO.g 6) ?_
  refine Az 9 C (RO.g 7) ?_
  refine Xm 10 C (RO.g 8) ?_
  refine KP 11 C (RO.g 9) rfl (fun _ _ => ⟨by first | rfl | decide, rfl⟩)
  )
def LF : MethodName := ⟨"java/math/BigDecimal", "signum", "()I"⟩
theorem U9 : plainFor LF = true := by decide +kernel
theorem DT (hw : Kh Z a0) (a : Addr) (q_ : Int64) (h0 : Heap) (F : YR Z h0 a q_ 4) (hq : q_ = 0 ∨ q_ = 5000 ∨ q_ = 6667 ∨ q_ = 10000) :
  KH l Z LF jdk_17_method_58_code 1 (some .int) ⟨1, 0, 0, 21⟩ #[.ref a] h0 (fun a => h0.size ≤ a) (fun v h => v = some (.int (if q_ = 0 then 0 else 1)) ∧ h0 = h) := by
 refine Q9 U9 YL fun p e s m below meth c C hs => ?_
 refine K0 0 C (RP.g 0) ?_
 refine KF 1 C (hw.g 413) Via.refl F.2.1 (RP.g 1) ?_
 refine Kq 4 C (hw.g 429) (RP.g 2) ?_
 refine Kc 7 C (RP.g 3) ?_
 refine Qx 8 C 21 (RP.g 4) (fun hc8 => ?_) (fun hc8 => ?_)
 ·simp only [oC, Classical.not_not] at hc8
  exact absurd hc8 (by rcases hq with rfl | rfl | rfl | rfl <;> decide)
 ·simp only [oC, Classical.not_not] at hc8
  refine K0 11 C (RP.g 5) ?_
  refine KF 12 C (hw.g 413) Via.refl F.2.1 (RP.g 6) ?_
  refine KK 15 C (ED hw q_ _ hq) (hw.g 479) (hw.g 480) (hw.g 185) (hw.g 481) GE (RP.g 7) (argsL := [_]) rfl rfl rfl rfl ?_
  rintro _ _ ⟨rfl, rfl⟩ -
  refine KT 18 C 28 (RP.g 8) ?_
  refine KP 28 C (RP.g 9) rfl (fun _ _ => ⟨rfl, rfl⟩)
def Ft : MethodName := ⟨"java/util/AbstractCollection", "<init>", "()V"⟩
theorem Vv : plainFor Ft = true := by decide +kernel
theorem Cz (hw : Kh Z a0) (a : Addr) (h0 : Heap) :
  KH l Z Ft jdk_22_method_1_code 1 none ⟨1, 0, 0, 34⟩ #[.ref a] h0 (fun a => h0.size ≤ a) (fun v h => v = none ∧ h0 = h) := by
 refine Q9 Vv YL fun p e s m below meth c C hs => ?_
 refine K0 0 C (DS.g 0) ?_
 refine X5 1 C (hw.g 90) (hw.g 8) (hw.g 9) (DS.g 1) rfl (by decide) (Nat.le_of_ble_eq_true rfl) ?_
 refine Ka 4 C (DS.g 2) (fun _ _ => ⟨rfl, rfl⟩)
def LP : MethodName := ⟨"java/util/AbstractList", "<init>", "()V"⟩
theorem VT : plainFor LP = true := by decide +kernel
theorem Ed (hw : Kh Z a0) (a : Addr) (h0 : Heap) (hya : Z.heap.size ≤ a) (X : Exa Z h0 a "java/util/ArrayList") (FM : Fld Z h0 a "java/util/AbstractList" "modCount" "I" (.int 0)) (FN : Fld Z h0 a "java/util/ArrayList" "size" "I" (.int 0)) (FD : Fld Z h0 a "java/util/ArrayList" "elementData" "[Ljava/lang/Object;" .null) :
  KH l Z LP jdk_39_method_1_code 1 none ⟨2, 0, 0, 54⟩ #[.ref a] h0 (fun x => x = a ∨ h0.size ≤ x) (fun v h => v = none ∧ Exa Z h a "java/util/ArrayList" ∧ Fld Z h a "java/util/AbstractList" "modCount" "I" (.int 0) ∧ Fld Z h a "java/util/ArrayList" "size" "I" (.int 0) ∧ Fld Z h a "java/util/ArrayList" "elementData" "[Ljava/lang/Object;" .null) := by
 refine Xr hya VT YL fun p e s m below meth c C hs => ?_
 refine K0 0 C (WZ.g 0) ?_
 refine KV 1 C (Cz hw a _) (hw.g 84) (hw.g 85) (hw.g 88) (hw.g 89) QL (WZ.g 1) (argsL := []) rfl rfl rfl rfl ?_
 rintro _ _ ⟨rfl, rfl⟩ -
 refine K0 4 C (WZ.g 2) ?_
 refine KD 5 C 0 (WZ.g 3) ?_
 refine Ke 6 C (hw.g 91) Via.refl FM X (Or.inl (hw.g 92)) (hw.g 73) (ty := .int) (by decide) rfl rfl (Or.inl rfl) (WZ.g 4) ?_
 intro h1 W1
 replace FM := Fld.same W1 FM
 replace FN := (fo W1 FN (Or.inl (hw.g 254)) (Or.inl (hw.g 92)))
 replace FD := (fo W1 FD (Or.inl (hw.g 95)) (Or.inl (hw.g 92)))
 replace X := X.wr W1
 refine Ka 9 C (WZ.g 5) (fun _ _ => ⟨rfl, X, FM, FN, FD⟩)
def LB : MethodName := ⟨"java/util/ArrayList", "<init>", "()V"⟩
theorem Vb : plainFor LB = true := by decide +kernel
theorem Db (hw : Kh Z a0) (W : oW Z) (a : Addr) (h0 : Heap) (hya : Z.heap.size ≤ a) (X : Exa Z h0 a "java/util/ArrayList") (FM : Fld Z h0 a "java/util/AbstractList" "modCount" "I" (.int 0)) (FN : Fld Z h0 a "java/util/ArrayList" "size" "I" (.int 0)) (FD : Fld Z h0 a "java/util/ArrayList" "elementData" "[Ljava/lang/Object;" .null) :
  KH l Z LB jdk_38_method_2_code 1 none ⟨3, 0, 0, 74⟩ #[.ref a] h0 (fun x => x = a ∨ h0.size ≤ x) (fun v h => v = none ∧ ∃ d, Sta Z Z.heap "java/util/ArrayList" "DEFAULTCAPACITY_EMPTY_ELEMENTDATA" "[Ljava/lang/Object;" (.ref d) ∧ Kv Z Z.heap d (.object "java/lang/Object") [] ∧ Exa Z h a "java/util/ArrayList" ∧ Fld Z h a "java/util/AbstractList" "modCount" "I" (.int 0) ∧ Fld Z h a "java/util/ArrayList" "size" "I" (.int 0) ∧ Fld Z h a "java/util/ArrayList" "elementData" "[Ljava/lang/Object;" (.ref d)) := by
 refine Xr hya Vb YL fun p e s m below meth c C hs => ?_
 obtain ⟨d, Sd, Ad⟩ := W.dce
 refine K0 0 C (Wa.g 0) ?_
 refine KV 1 C (Ed hw a _ hya X FM FN FD) (hw.g 78) (hw.g 79) (hw.g 82) (hw.g 83) QL (Wa.g 1) (argsL := []) rfl rfl rfl rfl (hP := (fun x q r => r.elim (fun z => z ▸ (Or.inl rfl)) (fun z => C.new x (Nat.le_trans q z)))) ?_
 rintro _ h2 ⟨rfl, X, FM, FN, FD⟩ -
 refine K0 4 C (Wa.g 2) ?_
 refine Ko 5 C (hw.g 93) Via.refl Sd (Wa.g 3) ?_
 refine Ke 8 C (hw.g 94) Via.refl FD X (Or.inl (hw.g 95)) (hw.g 73) (ty := (.array (.object "java/lang/Object"))) (by decide) rfl rfl (Or.inl rfl) (Wa.g 4) ?_
 intro h3 W3
 replace FM := (fo W3 FM (Or.inl (hw.g 92)) (Or.inl (hw.g 95)))
 replace FN := (fo W3 FN (Or.inl (hw.g 254)) (Or.inl (hw.g 95)))
 replace FD := Fld.same W3 FD
 replace X := X.wr W3
 refine Ka 11 C (Wa.g 5) (fun _ _ => ⟨rfl, d, Sd, Ad, X, FM, FN, FD⟩)
def Ek : MethodName := ⟨"java/util/ArrayList", "grow", "(I)[Ljava/lang/Object;"⟩
theorem R8 : plainFor Ek = true := by decide +kernel
theorem BV {x0 : Addr} {x1 : Int32} (m : MethodId) : entryFrame m #[.ref x0, .int x1] 4 = oF m 0 [.val (.ref x0), .val (.int x1), .unset, .unset] [] := by (first | (simp [entryFrame, oF, mkF, argsToLocals, Value.category]; done) | rfl)
theorem E9 (hw : Kh Z a0) (a d : Addr) (mc : Int32) (h0 : Heap) (hya : Z.heap.size ≤ a) (Sd : Sta Z Z.heap "java/util/ArrayList" "DEFAULTCAPACITY_EMPTY_ELEMENTDATA" "[Ljava/lang/Object;" (.ref d)) (Ad : Kv Z Z.heap d (.object "java/lang/Object") []) (X : Exa Z h0 a "java/util/ArrayList") (FM : Fld Z h0 a "java/util/AbstractList" "modCount" "I" (.int mc)) (FN : Fld Z h0 a "java/util/ArrayList" "size" "I" (.int 0)) (FD : Fld Z h0 a "java/util/ArrayList" "elementData" "[Ljava/lang/Object;" (.ref d)) :
  KH l Z Ek jdk_38_method_6_code 4 (some (.array (.object "java/lang/Object"))) ⟨1, 1, 10, 21⟩ #[.ref a, .int 1] h0 (fun x => x = a ∨ h0.size ≤ x) (fun v h => ∃ q, v = some (.ref q) ∧ h0.size ≤ q ∧ Xc Z h a q 0 (List.replicate 10 .null)) := by
 refine Xr hya R8 BV fun p e s m below meth c C hs => ?_
 refine Qc C (fun hE hle _ => ?_)
 refine K0 0 C (Xh.g 0) ?_
 refine KF 1 C (hw.g 94) Via.refl FD (Xh.g 1) ?_
 refine KZ 4 C (Ad.ext hE) (Xh.g 2) ?_
 rw [show Int32.ofNat (List.length ([] : List Value)) = 0 from rfl]
 refine KO 5 C (Ls' := [_, _, _, _]) (Xh.g 3) rfl ?_
 refine K8 6 C (Xh.g 4) ?_
 refine KW 7 C (Xh.g 5) ?_
 refine K0 10 C (Xh.g 6) ?_
 refine KF 11 C (hw.g 94) Via.refl FD (Xh.g 7) ?_
 refine Ko 14 C (hw.g 93) Via.refl Sd (Xh.g 8) ?_
 refine YA 17 C 45 (Xh.g 9) rfl rfl (fun hc17 => ?_) (fun hc17 => ?_)
 ·simp only [oA, Classical.not_not, Value.ref.injEq] at hc17
  refine K0 45 C (Xh.g 10) ?_
  refine KN 46 C 10 (Xh.g 11) ?_
  refine K8 48 C (Xh.g 12) ?_
  refine KK 49 C (Wj hw 10 1 _ (by decide) (by decide)) (hw.g 270) (hw.g 271) (hw.g 239) (hw.g 272) XZ (Xh.g 13) (argsL := [_, _]) rfl rfl rfl rfl ?_
  rintro _ _ ⟨rfl, rfl⟩ -
  refine YH 52 C (ad := "[Ljava/lang/Object;") 10 10 (hw.g 273) (hw.g 274) (Xh.g 14) (by decide) (by decide) (by decide) (by decide) (by decide) (by decide) ?_
  intro h1 q hq hPq E1 A1 Y1
  refine YG 55 C (Xh.g 15) rfl rfl ?_
  refine Ke 56 C (hw.g 94) Via.refl (FD.ext E1) (X.ext E1) (Or.inl (hw.g 95)) (hw.g 73) (ty := (.array (.object "java/lang/Object"))) (by decide) rfl rfl (Or.inl rfl) (Xh.g 16) ?_
  intro h2 W2
  have F2 : Xc Z h2 a q 0 (List.replicate 10 .null) := ⟨(X.ext E1).wr W2, Fld.same W2 (FD.ext E1), (fo W2 (FN.ext E1) (Or.inl (hw.g 254)) (Or.inl (hw.g 95))), ⟨_, (fo W2 (FM.ext E1) (Or.inl (hw.g 92)) (Or.inl (hw.g 95)))⟩, A1.other W2 (fun z => (KR (X.ext E1) (hw.g 73) A1.arr) z.symm), Y1.wr W2⟩
  refine KL 59 C (Xh.g 17) (fun _ _ => ⟨q, rfl, Nat.le_of_eq hq.symm, F2⟩)
 ·simp only [oA, Classical.not_not, Value.ref.injEq] at hc17
  exact absurd trivial hc17
def Dy : MethodName := ⟨"java/util/ArrayList", "grow", "()[Ljava/lang/Object;"⟩
theorem RB : plainFor Dy = true := by decide +kernel
theorem Ds (hw : Kh Z a0) (a d : Addr) (mc : Int32) (h0 : Heap) (hya : Z.heap.size ≤ a) (Sd : Sta Z Z.heap "java/util/ArrayList" "DEFAULTCAPACITY_EMPTY_ELEMENTDATA" "[Ljava/lang/Object;" (.ref d)) (Ad : Kv Z Z.heap d (.object "java/lang/Object") []) (X : Exa Z h0 a "java/util/ArrayList") (FM : Fld Z h0 a "java/util/AbstractList" "modCount" "I" (.int mc)) (FN : Fld Z h0 a "java/util/ArrayList" "size" "I" (.int 0)) (FD : Fld Z h0 a "java/util/ArrayList" "elementData" "[Ljava/lang/Object;" (.ref d)) :
  KH l Z Dy jdk_38_method_7_code 1 (some (.array (.object "java/lang/Object"))) ⟨2, 1, 10, 44⟩ #[.ref a] h0 (fun x => x = a ∨ h0.size ≤ x) (fun v h => ∃ q, v = some (.ref q) ∧ h0.size ≤ q ∧ Xc Z h a q 0 (List.replicate 10 .null)) := by
 refine Xr hya RB YL fun p e s m below meth c C hs => ?_
 refine K0 0 C (Ht.g 0) ?_
 refine K0 1 C (Ht.g 1) ?_
 refine KF 2 C (hw.g 253) Via.refl FN (Ht.g 2) ?_
 refine KD 5 C 1 (Ht.g 3) ?_
 refine Kg 6 C (Ht.g 4) ?_
 refine Kf 7 C (E9 hw a d mc _ hya Sd Ad X FM FN FD) (X) (hw.g 265) (QB.of (hw.g 258 rfl) rfl) (hw.g 267) (hw.g 266) (hw.g 74) (hw.g 269) JR (Ht.g 5) (argsL := [_]) rfl rfl rfl rfl (hP := (fun x q r => r.elim (fun z => z ▸ (Or.inl rfl)) (fun z => C.new x (Nat.le_trans q z)))) ?_
 rintro _ h2 ⟨q, rfl, hq, F2⟩ -
 refine KL 10 C (Ht.g 6) (fun _ _ => ⟨q, rfl, hq, F2⟩)
def Bk : MethodName := ⟨"java/util/Arrays", "copyOf", "([Ljava/lang/Object;ILjava/lang/Class;)[Ljava/lang/Object;"⟩
theorem TC : plainFor Bk = true := by decide +kernel
theorem Dt {x0 : Addr} {x1 : Int32} {x2 : Addr} (m : MethodId) : entryFrame m #[.ref x0, .int x1, .ref x2] 4 = oF m 0 [.val (.ref x0), .val (.int x1), .val (.ref x2), .unset] [] := by (first | (simp [entryFrame, oF, mkF, argsToLocals, Value.category]; done) | rfl)
theorem Cq (hw : Kh Z a0) (ea : Addr) (vs : List Value) (h0 : Heap) (hn : vs.length = 10) (A : X6 Z h0 ea "java/lang/Object" vs) (hvs : ∀ v ∈ vs, ∃ x, v = .ref x ∧ Exa Z h0 x "java/lang/String") (r_ : Addr) (M : Ys Z "[Ljava/lang/Object;" r_) :
  KH l Z Bk jdk_65_method_120_code 4 (some (.array (.object "java/lang/Object"))) ⟨1, 1, 15, 34⟩ #[.ref ea, .int 15, .ref r_] h0 (fun a => h0.size ≤ a) (fun v h => ∃ q, v = some (.ref q) ∧ h0.size ≤ q ∧ X6 Z h q "java/lang/Object" (vs ++ List.replicate 5 .null) ∧ Exa Z h q "[Ljava/lang/Object;") := by
 refine Q9 TC Dt fun p e s m below meth c C hs => ?_
 refine K0 0 C (Xp.g 0) ?_
 refine JX 1 C M (hw.g 616) (Xp.g 1) ?_
 refine YA 3 C 13 (Xp.g 2) rfl rfl (fun hc3 => ?_) (fun hc3 => ?_)
 ·simp only [oA, Classical.not_not, Value.ref.injEq] at hc3
  exact absurd trivial hc3
 ·simp only [oA, Classical.not_not, Value.ref.injEq] at hc3
  refine K8 6 C (Xp.g 3) ?_
  refine YH 7 C (ad := "[Ljava/lang/Object;") 15 15 (hw.g 617) (hw.g 274) (Xp.g 4) (by decide) (by decide) (by decide) (by decide) (by decide) (by decide) ?_
  intro h1 q hq hPq E1 A1 Y1
  refine KT 10 C 24 (Xp.g 5) ?_
  refine KY 24 C (Ls' := [_, _, _, _]) (Xp.g 6) rfl rfl ?_
  refine K0 25 C (Xp.g 7) ?_
  refine KD 26 C 0 (Xp.g 8) ?_
  refine K0 27 C (Xp.g 9) ?_
  refine KD 28 C 0 (Xp.g 10) ?_
  refine K0 29 C (Xp.g 11) ?_
  refine KZ 30 C (A.ext E1).arr (Xp.g 12) ?_
  rw [hn]
  refine K8 31 C (Xp.g 13) ?_
  refine KK 32 C (W9 hw 10 15 _ (by decide) (by decide)) (hw.g 237) (hw.g 238) (hw.g 239) (hw.g 240) XZ (Xp.g 14) (argsL := [_, _]) rfl rfl rfl rfl ?_
  rintro _ _ ⟨rfl, rfl⟩ -
  refine TJ 35 C 0 0 vs.length (A.ext E1) A1 rfl rfl (by rw [hn]; decide) (by omega) (by simp; omega) (fun v z => by rcases hvs v z with ⟨x, rfl, I⟩; exact Or.inr ⟨x, rfl, Ins.of_exa (I.ext E1) (hw.g 275)⟩) hPq (hw.g 241) (hw.g 171) (hw.g 169) (hw.g 170) (Xp.g 15) rfl (by decide) (by decide) ?_
  intro h2 K2 hs2 A2
  replace A2 : X6 Z h2 q "java/lang/Object" (vs ++ List.replicate 5 .null) := by
   rw [GP (by simp; omega)] at A2
   simpa [hn] using A2
  refine K0 38 C (Xp.g 16) ?_
  refine KL 39 C (Xp.g 17) (fun _ _ => ⟨q, rfl, Nat.le_of_eq hq.symm, A2, K2.exa Y1⟩)
def Ao : MethodName := ⟨"java/util/Arrays", "copyOf", "([Ljava/lang/Object;I)[Ljava/lang/Object;"⟩
theorem Ra : plainFor Ao = true := by decide +kernel
theorem EP (hw : Kh Z a0) (W : oW Z) (ea : Addr) (vs : List Value) (h0 : Heap) (hn : vs.length = 10) (A : X6 Z h0 ea "java/lang/Object" vs) (hvs : ∀ v ∈ vs, ∃ x, v = .ref x ∧ Exa Z h0 x "java/lang/String") (Y : Exa Z h0 ea "[Ljava/lang/Object;") :
  KH l Z Ao jdk_65_method_119_code 2 (some (.array (.object "java/lang/Object"))) ⟨2, 1, 15, 57⟩ #[.ref ea, .int 15] h0 (fun a => h0.size ≤ a) (fun v h => ∃ q, v = some (.ref q) ∧ h0.size ≤ q ∧ X6 Z h q "java/lang/Object" (vs ++ List.replicate 5 .null) ∧ Exa Z h q "[Ljava/lang/Object;") := by
 refine Q9 Ra VV fun p e s m below meth c C hs => ?_
 obtain ⟨mr, M⟩ := W.mob
 refine K0 0 C (H_.g 0) ?_
 refine K8 1 C (H_.g 1) ?_
 refine K0 2 C (H_.g 2) ?_
 refine Yw 3 C M Y (hw.g 610) (hw.g 401) (hw.g 399) (hw.g 611) (H_.g 3) rfl (by decide) (Nat.le_of_ble_eq_true rfl) ?_
 refine KK 6 C (Cq hw ea vs _ hn A hvs mr M) (hw.g 613) (hw.g 614) (hw.g 229) (hw.g 615) Tq (H_.g 4) (argsL := [_, _, _]) rfl rfl rfl rfl ?_
 rintro _ h2 ⟨q, rfl, hq, A2, Y2⟩ -
 refine KL 9 C (H_.g 5) (fun _ _ => ⟨q, rfl, hq, A2, Y2⟩)
theorem E8 (hw : Kh Z a0) (W : oW Z) (a ea : Addr) (vs : List Value) (h0 : Heap) (F : Xc Z h0 a ea 10 vs) (hn : vs.length = 10) (hvs : ∀ v ∈ vs, ∃ x, v = .ref x ∧ Exa Z h0 x "java/lang/String") (hya : Z.heap.size ≤ a) :
  KH l Z Ek jdk_38_method_6_code 4 (some (.array (.object "java/lang/Object"))) ⟨3, 1, 15, 78⟩ #[.ref a, .int 11] h0 (fun x => x = a ∨ h0.size ≤ x) (fun v h => ∃ q, v = some (.ref q) ∧ h0.size ≤ q ∧ Xc Z h a q 10 (vs ++ List.replicate 5 .null)) := by
 refine Xr hya R8 BV fun p e s m below meth c C hs => ?_
 refine K0 0 C (Xh.g 0) ?_
 refine KF 1 C (hw.g 94) Via.refl F.D (Xh.g 1) ?_
 refine KZ 4 C F.A.arr (Xh.g 2) ?_
 rw [hn]
 refine KO 5 C (Ls' := [_, _, _, _]) (Xh.g 3) rfl ?_
 refine K8 6 C (Xh.g 4) ?_
 refine KQ 7 C 20 (Xh.g 5) ?_
 refine K8 20 C (Xh.g 18) ?_
 refine K8 21 C (Xh.g 19) ?_
 refine K8 22 C (Xh.g 20) ?_
 refine Kt 23 C (Xh.g 21) ?_
 refine K8 24 C (Xh.g 22) ?_
 refine KD 25 C 1 (Xh.g 23) ?_
 refine Gi 26 C (Xh.g 24) ?_
 refine KK 27 C (Fm hw 10 1 5 _ (by decide) (by decide)) (hw.g 606) (hw.g 350) (hw.g 351) (hw.g 352) Hr (Xh.g 25) (argsL := [_, _, _]) rfl rfl rfl rfl ?_
 rintro _ _ ⟨rfl, rfl⟩ -
 refine KO 30 C (Ls' := [_, _, _, _]) (Xh.g 26) rfl ?_
 refine K0 31 C (Xh.g 27) ?_
 refine K0 32 C (Xh.g 28) ?_
 refine KF 33 C (hw.g 94) Via.refl F.D (Xh.g 29) ?_
 refine K8 36 C (Xh.g 30) ?_
 refine KK 37 C (EP hw W ea vs _ hn F.A hvs F.Y) (hw.g 607) (hw.g 608) (hw.g 229) (hw.g 609) WA (Xh.g 31) (argsL := [_, _]) rfl rfl rfl rfl ?_
 rintro _ h1 ⟨q, rfl, hq, A1, Y1⟩ K1
 have F1 := F.ext K1.ext
 refine YG 40 C (Xh.g 32) rfl rfl ?_
 obtain ⟨mc, Mq⟩ := F1.M
 refine Ke 41 C (hw.g 94) Via.refl F1.D F1.X (Or.inl (hw.g 95)) (hw.g 73) (ty := (.array (.object "java/lang/Object"))) (by decide) rfl rfl (Or.inl rfl) (Xh.g 33) ?_
 intro h2 W2
 have F2 : Xc Z h2 a q 10 _ := ⟨F1.X.wr W2, Fld.same W2 F1.D, (fo W2 F1.N (Or.inl (hw.g 254)) (Or.inl (hw.g 95))), ⟨_, (fo W2 Mq (Or.inl (hw.g 92)) (Or.inl (hw.g 95)))⟩, A1.other W2 (fun z => (KR F1.X (hw.g 73) A1.arr) z.symm), Y1.wr W2⟩
 refine KL 44 C (Xh.g 34) (fun _ _ => ⟨q, rfl, hq, F2⟩)
theorem BO (hw : Kh Z a0) (W : oW Z) (a ea : Addr) (vs : List Value) (h0 : Heap) (F : Xc Z h0 a ea 10 vs) (hn : vs.length = 10) (hvs : ∀ v ∈ vs, ∃ x, v = .ref x ∧ Exa Z h0 x "java/lang/String") (hya : Z.heap.size ≤ a) :
  KH l Z Dy jdk_38_method_7_code 1 (some (.array (.object "java/lang/Object"))) ⟨4, 1, 15, 101⟩ #[.ref a] h0 (fun x => x = a ∨ h0.size ≤ x) (fun v h => ∃ q, v = some (.ref q) ∧ h0.size ≤ q ∧ Xc Z h a q 10 (vs ++ List.replicate 5 .null)) := by
 refine Xr hya RB YL fun p e s m below meth c C hs => ?_
 refine K0 0 C (Ht.g 0) ?_
 refine K0 1 C (Ht.g 1) ?_
 refine KF 2 C (hw.g 253) Via.refl F.N (Ht.g 2) ?_
 refine KD 5 C 1 (Ht.g 3) ?_
 refine Kg 6 C (Ht.g 4) ?_
 refine Kf 7 C (E8 hw W a ea vs _ F hn hvs hya) (F.X) (hw.g 265) (QB.of (hw.g 258 rfl) rfl) (hw.g 267) (hw.g 266) (hw.g 74) (hw.g 269) JR (Ht.g 5) (argsL := [_]) rfl rfl rfl rfl (hP := (fun x q r => r.elim (fun z => z ▸ (Or.inl rfl)) (fun z => C.new x (Nat.le_trans q z)))) ?_
 rintro _ h2 ⟨q, rfl, hq, F2⟩ -
 refine KL 10 C (Ht.g 6) (fun _ _ => ⟨q, rfl, hq, F2⟩)
def C6 : MethodName := ⟨"java/util/ArrayList", "add", "(Ljava/lang/Object;[Ljava/lang/Object;I)V"⟩
theorem HO : plainFor C6 = true := by decide +kernel
theorem Vg {x0 : Addr} {x1 : Addr} {x2 : Addr} {x3 : Int32} (m : MethodId) : entryFrame m #[.ref x0, .ref x1, .ref x2, .int x3] 4 = oF m 0 [.val (.ref x0), .val (.ref x1), .val (.ref x2), .val (.int x3)] [] := by (first | (simp [entryFrame, oF, mkF, argsToLocals, Value.category]; done) | rfl)
theorem EO (hw : Kh Z a0) (a ea s_ : Addr) (n_ : Nat) (vs : List Value) (h0 : Heap) (F : Xc Z h0 a ea n_ vs) (G : Exa Z h0 s_ "java/lang/String") (hl : vs.length ≤ 15) (hn : n_ < vs.length) (hya : Z.heap.size ≤ a) (hyb : Z.heap.size ≤ ea) :
  KH l Z C6 jdk_38_method_24_code 4 none ⟨0, 0, 0, 0⟩ #[.ref a, .ref s_, .ref ea, .int (Int32.ofNat n_)] h0 (fun x => x = a ∨ x = ea ∨ h0.size ≤ x) (fun v h => v = none ∧ Xc Z h a ea (n_ + 1) (vs.set n_ (.ref s_))) := by
 refine Gk hya hyb HO Vg fun p e s m below meth c C hs => ?_
 refine K8 0 C (XI.g 0) ?_
 refine K0 1 C (XI.g 1) ?_
 refine KZ 2 C F.A.arr (XI.g 2) ?_
 refine QK 3 C 11 (XI.g 3) (fun hc3 => ?_) (fun hc3 => ?_)
 ·simp only [oC, Classical.not_not] at hc3
  refine K0 11 C (XI.g 4) ?_
  refine K8 12 C (XI.g 5) ?_
  refine K0 13 C (XI.g 6) ?_
  refine Y6 14 C n_ F.A (Xk _ (by omega)) hn (Ins.of_exa G (hw.g 275)) (Or.inr (Or.inl rfl)) (XI.g 7) ?_
  intro h1 W1 An
  have nv : a ≠ ea := KR F.X (hw.g 73) F.A.arr
  obtain ⟨mc0, M0⟩ := F.M
  have F1 : Xc Z h1 a ea n_ _ := ⟨F.X.wr W1, Fld.other W1 F.D (Or.inl nv), Fld.other W1 F.N (Or.inl nv), ⟨_, Fld.other W1 M0 (Or.inl nv)⟩, An, F.Y.wr W1⟩
  refine K0 15 C (XI.g 8) ?_
  refine K8 16 C (XI.g 9) ?_
  refine KD 17 C 1 (XI.g 10) ?_
  refine Kg 18 C (XI.g 11) ?_
  rw [J5]
  obtain ⟨mc, Mq⟩ := F1.M
  refine Ke 19 C (hw.g 253) Via.refl F1.N F1.X (Or.inl (hw.g 254)) (hw.g 73) (ty := .int) (by decide) rfl rfl (Or.inl rfl) (XI.g 12) ?_
  intro h2 W2
  have F2 : Xc Z h2 a ea (n_ + 1) _ := ⟨F1.X.wr W2, (fo W2 F1.D (Or.inl (hw.g 95)) (Or.inl (hw.g 254))), Fld.same W2 F1.N, ⟨_, (fo W2 Mq (Or.inl (hw.g 92)) (Or.inl (hw.g 254)))⟩, F1.A.other W2 (fun z => (KR F1.X (hw.g 73) F1.A.arr) z.symm), F1.Y.wr W2⟩
  refine Ka 22 C (XI.g 13) (fun _ _ => ⟨rfl, F2⟩)
 ·simp only [oC, Classical.not_not] at hc3
  exact False.elim (by simp only [Int32.lt_iff_toInt_lt, ← Int32.toInt_inj, Int32.toInt_add, Int32.toInt_sub, Qm, Int32.reduceToInt, Int.bmod_def] at hc3; omega)
theorem Ci (hw : Kh Z a0) (a d s_ : Addr) (mc : Int32) (h0 : Heap) (hya : Z.heap.size ≤ a) (Sd : Sta Z Z.heap "java/util/ArrayList" "DEFAULTCAPACITY_EMPTY_ELEMENTDATA" "[Ljava/lang/Object;" (.ref d)) (Ad : Kv Z Z.heap d (.object "java/lang/Object") []) (X : Exa Z h0 a "java/util/ArrayList") (FM : Fld Z h0 a "java/util/AbstractList" "modCount" "I" (.int mc)) (FN : Fld Z h0 a "java/util/ArrayList" "size" "I" (.int 0)) (FD : Fld Z h0 a "java/util/ArrayList" "elementData" "[Ljava/lang/Object;" (.ref d)) (G : Exa Z h0 s_ "java/lang/String") :
  KH l Z C6 jdk_38_method_24_code 4 none ⟨3, 1, 10, 64⟩ #[.ref a, .ref s_, .ref d, .int 0] h0 (fun x => x = a ∨ h0.size ≤ x) (fun v h => v = none ∧ ∃ q, h0.size ≤ q ∧ Xc Z h a q 1 (.ref s_ :: List.replicate 9 .null)) := by
 refine Xr hya HO Vg fun p e s m below meth c C hs => ?_
 refine Qc C (fun hE hle _ => ?_)
 refine K8 0 C (XI.g 0) ?_
 refine K0 1 C (XI.g 1) ?_
 refine KZ 2 C (Ad.ext hE) (XI.g 2) ?_
 rw [show Int32.ofNat (List.length ([] : List Value)) = 0 from rfl]
 refine KS 3 C (XI.g 3) ?_
 refine K0 6 C (XI.g 14) ?_
 refine Kf 7 C (Ds hw a d mc _ hya Sd Ad X FM FN FD) (X) (hw.g 260) (QB.of (hw.g 258 rfl) rfl) (hw.g 262) (hw.g 261) (hw.g 74) (hw.g 264) JO (XI.g 15) (argsL := []) rfl rfl rfl rfl (hP := (fun x q r => r.elim (fun z => z ▸ (Or.inl rfl)) (fun z => C.new x (Nat.le_trans q z)))) ?_
 rintro _ h1 ⟨q, rfl, hq, F1⟩ K1
 refine KY 10 C (Ls' := [_, _, _, _]) (XI.g 16) rfl rfl ?_
 refine K0 11 C (XI.g 4) ?_
 refine K8 12 C (XI.g 5) ?_
 refine K0 13 C (XI.g 6) ?_
 refine Y6 14 C 0 F1.A rfl (by simp) (Ins.of_exa (K1.exa G) (hw.g 275)) (Or.inr hq) (XI.g 7) ?_
 intro h2 W2 An
 have nv : a ≠ q := KR F1.X (hw.g 73) F1.A.arr
 obtain ⟨mc0, M0⟩ := F1.M
 have F2 : Xc Z h2 a q 0 _ := ⟨F1.X.wr W2, Fld.other W2 F1.D (Or.inl nv), Fld.other W2 F1.N (Or.inl nv), ⟨_, Fld.other W2 M0 (Or.inl nv)⟩, An, F1.Y.wr W2⟩
 refine K0 15 C (XI.g 8) ?_
 refine K8 16 C (XI.g 9) ?_
 refine KD 17 C 1 (XI.g 10) ?_
 refine Kg 18 C (XI.g 11) ?_
 obtain ⟨mc, Mq⟩ := F2.M
 refine Ke 19 C (hw.g 253) Via.refl F2.N F2.X (Or.inl (hw.g 254)) (hw.g 73) (ty := .int) (by decide) rfl rfl (Or.inl rfl) (XI.g 12) ?_
 intro h3 W3
 have F3 : Xc Z h3 a q 1 _ := ⟨F2.X.wr W3, (fo W3 F2.D (Or.inl (hw.g 95)) (Or.inl (hw.g 254))), Fld.same W3 F2.N, ⟨_, (fo W3 Mq (Or.inl (hw.g 92)) (Or.inl (hw.g 254)))⟩, F2.A.other W3 (fun z => (KR F2.X (hw.g 73) F2.A.arr) z.symm), F2.Y.wr W3⟩
 refine Ka 22 C (XI.g 13) (fun _ _ => ⟨rfl, q, hq, F3⟩)
theorem Ck (hw : Kh Z a0) (W : oW Z) (a ea : Addr) (vs : List Value) (h0 : Heap) (F : Xc Z h0 a ea 10 vs) (hn : vs.length = 10) (hvs : ∀ v ∈ vs, ∃ x, v = .ref x ∧ Exa Z h0 x "java/lang/String") (hya : Z.heap.size ≤ a) (s_ : Addr) (G : Exa Z h0 s_ "java/lang/String") :
  KH l Z C6 jdk_38_method_24_code 4 none ⟨5, 1, 15, 121⟩ #[.ref a, .ref s_, .ref ea, .int 10] h0 (fun x => x = a ∨ h0.size ≤ x) (fun v h => v = none ∧ ∃ q, h0.size ≤ q ∧ Xc Z h a q 11 ((vs ++ List.replicate 5 Value.null).set 10 (.ref s_))) := by
 refine Xr hya HO Vg fun p e s m below meth c C hs => ?_
 refine K8 0 C (XI.g 0) ?_
 refine K0 1 C (XI.g 1) ?_
 refine KZ 2 C F.A.arr (XI.g 2) ?_
 rw [hn]
 refine KS 3 C (XI.g 3) ?_
 refine K0 6 C (XI.g 14) ?_
 refine Kf 7 C (BO hw W a ea vs _ F hn hvs hya) (F.X) (hw.g 260) (QB.of (hw.g 258 rfl) rfl) (hw.g 262) (hw.g 261) (hw.g 74) (hw.g 264) JO (XI.g 15) (argsL := []) rfl rfl rfl rfl (hP := (fun x q r => r.elim (fun z => z ▸ (Or.inl rfl)) (fun z => C.new x (Nat.le_trans q z)))) ?_
 rintro _ h1 ⟨q, rfl, hq, F1⟩ K1
 refine KY 10 C (Ls' := [_, _, _, _]) (XI.g 16) rfl rfl ?_
 refine K0 11 C (XI.g 4) ?_
 refine K8 12 C (XI.g 5) ?_
 refine K0 13 C (XI.g 6) ?_
 refine Y6 14 C 10 F1.A rfl (by simp; omega) (Ins.of_exa (K1.exa G) (hw.g 275)) (Or.inr hq) (XI.g 7) ?_
 intro h2 W2 An
 have nv : a ≠ q := KR F1.X (hw.g 73) F1.A.arr
 obtain ⟨mc0, M0⟩ := F1.M
 have F2 : Xc Z h2 a q 10 _ := ⟨F1.X.wr W2, Fld.other W2 F1.D (Or.inl nv), Fld.other W2 F1.N (Or.inl nv), ⟨_, Fld.other W2 M0 (Or.inl nv)⟩, An, F1.Y.wr W2⟩
 refine K0 15 C (XI.g 8) ?_
 refine K8 16 C (XI.g 9) ?_
 refine KD 17 C 1 (XI.g 10) ?_
 refine Kg 18 C (XI.g 11) ?_
 obtain ⟨mc, Mq⟩ := F2.M
 refine Ke 19 C (hw.g 253) Via.refl F2.N F2.X (Or.inl (hw.g 254)) (hw.g 73) (ty := .int) (by decide) rfl rfl (Or.inl rfl) (XI.g 12) ?_
 intro h3 W3
 have F3 : Xc Z h3 a q 11 _ := ⟨F2.X.wr W3, (fo W3 F2.D (Or.inl (hw.g 95)) (Or.inl (hw.g 254))), Fld.same W3 F2.N, ⟨_, (fo W3 Mq (Or.inl (hw.g 92)) (Or.inl (hw.g 254)))⟩, F2.A.other W3 (fun z => (KR F2.X (hw.g 73) F2.A.arr) z.symm), F2.Y.wr W3⟩
 refine Ka 22 C (XI.g 13) (fun _ _ => ⟨rfl, q, hq, F3⟩)
theorem GQ {ps : List (Addr × List Int32)} {s_ : Addr} {us : List Int32} {cap : Nat} (h : ps.length < cap) : (ps.map (fun p => Value.ref p.1) ++ List.replicate (cap - ps.length) Value.null).set ps.length (.ref s_) = (ps ++ [(s_, us)]).map (fun p => Value.ref p.1) ++ List.replicate (cap - (ps ++ [(s_, us)]).length) Value.null := by
 obtain ⟨k, hk⟩ : ∃ k, cap - ps.length = k + 1 := ⟨cap - ps.length - 1, by omega⟩
 have e2 : cap - (ps ++ [(s_, us)]).length = k := by simp; omega
 rw [hk, e2, List.set_append_right _ _ (by simp)]
 simp [List.replicate_succ]
def C5 : MethodName := ⟨"java/util/ArrayList", "add", "(Ljava/lang/Object;)Z"⟩
theorem HP : plainFor C5 = true := by decide +kernel
theorem GH (hw : Kh Z a0) (a ea s_ : Addr) (cap : Nat) (ps : List (Addr × List Int32)) (us : List Int32) (h0 : Heap) (F : Gr Z h0 a ea cap ps) (G : QY Z h0 s_ us) (hc : ps.length < cap) (hl : cap ≤ 15) (hya : Z.heap.size ≤ a) (hyb : Z.heap.size ≤ ea) :
  KH l Z C5 jdk_38_method_25_code 2 (some .boolean) ⟨1, 0, 0, 23⟩ #[.ref a, .ref s_] h0 (fun x => x = a ∨ x = ea ∨ h0.size ≤ x) (fun v h => v = some (.int 1) ∧ Gr Z h a ea cap (ps ++ [(s_, us)])) := by
 refine Gk hya hyb HP Gu fun p e s m below meth c C hs => ?_
 have R0 := F.R
 obtain ⟨mc1, M1⟩ := R0.M
 refine K0 0 C (XV.g 0) ?_
 refine Ku 1 C (XV.g 1) rfl ?_
 refine KF 2 C (hw.g 251) (Via.of (hw.g 252)) M1 (XV.g 2) ?_
 refine KD 5 C 1 (XV.g 3) ?_
 refine Kg 6 C (XV.g 4) ?_
 obtain ⟨mc, Mq⟩ := R0.M
 refine Ke 7 C (hw.g 251) (Via.of (hw.g 252)) Mq R0.X (Or.inl (hw.g 92)) (hw.g 73) (ty := .int) (by decide) rfl rfl (Or.inl rfl) (XV.g 5) ?_
 intro h1 W1
 have R1 : Xc Z h1 a ea _ _ := ⟨R0.X.wr W1, (fo W1 R0.D (Or.inl (hw.g 95)) (Or.inl (hw.g 92))), (fo W1 R0.N (Or.inl (hw.g 254)) (Or.inl (hw.g 92))), ⟨_, Fld.same W1 Mq⟩, R0.A.other W1 (fun z => (KR R0.X (hw.g 73) R0.A.arr) z.symm), R0.Y.wr W1⟩
 refine K0 10 C (XV.g 6) ?_
 refine K0 11 C (XV.g 7) ?_
 refine K0 12 C (XV.g 8) ?_
 refine KF 13 C (hw.g 94) Via.refl R1.D (XV.g 9) ?_
 refine K0 16 C (XV.g 10) ?_
 refine KF 17 C (hw.g 253) Via.refl R1.N (XV.g 11) ?_
 refine Kf 20 C (EO hw a ea s_ ps.length _ _ R1 (G.1.wr W1) (by simp; omega) (by simp; omega) hya hyb) (R1.X) (hw.g 255) (QB.of (hw.g 258 rfl) rfl) (hw.g 257) (hw.g 256) (hw.g 74) (hw.g 259) HY (XV.g 12) (argsL := [_, _, _]) rfl rfl rfl rfl (hP := (fun x q r => r.elim (fun z => z ▸ (Or.inl rfl)) (fun r => r.elim (fun z => z ▸ (Or.inr (Or.inl rfl))) (fun z => C.new x (Nat.le_trans q z))))) ?_
 rintro _ h2 ⟨rfl, R2⟩ -
 refine KD 23 C 1 (XV.g 13) ?_
 refine Qc C (fun _ _ hKK => ?_)
 rw [hs] at hKK
 refine KP 24 C (XV.g 14) (by first | rfl | decide) (fun _ _ => ⟨rfl, R2.eq (by simp) (GQ hc), fun p z => (List.mem_append.mp z).elim (fun z => (F.T p z).kpL F.R.X (hw.g 73) F.R.A F.R.Y hKK) (fun z => by rw [List.mem_singleton.mp z]; exact G.kpL F.R.X (hw.g 73) F.R.A F.R.Y hKK), by simp; omega⟩)
theorem BE (hw : Kh Z a0) (a d s_ : Addr) (h0 : Heap) (hya : Z.heap.size ≤ a) (Sd : Sta Z Z.heap "java/util/ArrayList" "DEFAULTCAPACITY_EMPTY_ELEMENTDATA" "[Ljava/lang/Object;" (.ref d)) (Ad : Kv Z Z.heap d (.object "java/lang/Object") []) (X : Exa Z h0 a "java/util/ArrayList") (FM : Fld Z h0 a "java/util/AbstractList" "modCount" "I" (.int 0)) (FN : Fld Z h0 a "java/util/ArrayList" "size" "I" (.int 0)) (FD : Fld Z h0 a "java/util/ArrayList" "elementData" "[Ljava/lang/Object;" (.ref d)) (us : List Int32) (G : QY Z h0 s_ us) :
  KH l Z C5 jdk_38_method_25_code 2 (some .boolean) ⟨4, 1, 10, 87⟩ #[.ref a, .ref s_] h0 (fun x => x = a ∨ h0.size ≤ x) (fun v h => v = some (.int 1) ∧ ∃ q, h0.size ≤ q ∧ Gr Z h a q 10 [(s_, us)]) := by
 refine Xr hya HP Gu fun p e s m below meth c C hs => ?_
 have X0 := X
 refine K0 0 C (XV.g 0) ?_
 refine Ku 1 C (XV.g 1) rfl ?_
 refine KF 2 C (hw.g 251) (Via.of (hw.g 252)) FM (XV.g 2) ?_
 refine KD 5 C 1 (XV.g 3) ?_
 refine Kg 6 C (XV.g 4) ?_
 refine Ke 7 C (hw.g 251) (Via.of (hw.g 252)) FM X (Or.inl (hw.g 92)) (hw.g 73) (ty := .int) (by decide) rfl rfl (Or.inl rfl) (XV.g 5) ?_
 intro h1 W1
 replace FM := Fld.same W1 FM
 replace FN := (fo W1 FN (Or.inl (hw.g 254)) (Or.inl (hw.g 92)))
 replace FD := (fo W1 FD (Or.inl (hw.g 95)) (Or.inl (hw.g 92)))
 replace X := X.wr W1
 refine K0 10 C (XV.g 6) ?_
 refine K0 11 C (XV.g 7) ?_
 refine K0 12 C (XV.g 8) ?_
 refine KF 13 C (hw.g 94) Via.refl FD (XV.g 9) ?_
 refine K0 16 C (XV.g 10) ?_
 refine KF 17 C (hw.g 253) Via.refl FN (XV.g 11) ?_
 refine Kf 20 C (Ci hw a d s_ _ _ hya Sd Ad X FM FN FD (G.1.wr W1)) (X) (hw.g 255) (QB.of (hw.g 258 rfl) rfl) (hw.g 257) (hw.g 256) (hw.g 74) (hw.g 259) HY (XV.g 12) (argsL := [_, _, _]) rfl rfl rfl rfl (hP := (fun x q r => r.elim (fun z => z ▸ (Or.inl rfl)) (fun z => C.new x (Nat.le_trans q z)))) ?_
 rintro _ h2 ⟨rfl, q, hq, R2⟩ -
 refine KD 23 C 1 (XV.g 13) ?_
 refine Qc C (fun _ _ hKK => ?_)
 rw [hs] at hKK
 refine KP 24 C (XV.g 14) (by first | rfl | decide) (fun _ _ => ⟨rfl, q, W1.size ▸ hq, R2, fun p z => by rw [List.mem_singleton.mp z]; exact G.kpX X0 (by decide) (hw.g 73) hKK, by simp⟩)
theorem WI (hw : Kh Z a0) (W : oW Z) (a ea s_ : Addr) (ps : List (Addr × List Int32)) (us : List Int32) (h0 : Heap) (F : Gr Z h0 a ea 10 ps) (G : QY Z h0 s_ us) (hc : ps.length = 10) (hya : Z.heap.size ≤ a) :
  KH l Z C5 jdk_38_method_25_code 2 (some .boolean) ⟨6, 1, 15, 144⟩ #[.ref a, .ref s_] h0 (fun x => x = a ∨ h0.size ≤ x) (fun v h => v = some (.int 1) ∧ ∃ q, h0.size ≤ q ∧ Gr Z h a q 15 (ps ++ [(s_, us)])) := by
 refine Xr hya HP Gu fun p e s m below meth c C hs => ?_
 have R0 := F.R
 rw [hc] at R0
 obtain ⟨mc1, M1⟩ := R0.M
 refine K0 0 C (XV.g 0) ?_
 refine Ku 1 C (XV.g 1) rfl ?_
 refine KF 2 C (hw.g 251) (Via.of (hw.g 252)) M1 (XV.g 2) ?_
 refine KD 5 C 1 (XV.g 3) ?_
 refine Kg 6 C (XV.g 4) ?_
 obtain ⟨mc, Mq⟩ := R0.M
 refine Ke 7 C (hw.g 251) (Via.of (hw.g 252)) Mq R0.X (Or.inl (hw.g 92)) (hw.g 73) (ty := .int) (by decide) rfl rfl (Or.inl rfl) (XV.g 5) ?_
 intro h1 W1
 have R1 : Xc Z h1 a ea _ _ := ⟨R0.X.wr W1, (fo W1 R0.D (Or.inl (hw.g 95)) (Or.inl (hw.g 92))), (fo W1 R0.N (Or.inl (hw.g 254)) (Or.inl (hw.g 92))), ⟨_, Fld.same W1 Mq⟩, R0.A.other W1 (fun z => (KR R0.X (hw.g 73) R0.A.arr) z.symm), R0.Y.wr W1⟩
 refine K0 10 C (XV.g 6) ?_
 refine K0 11 C (XV.g 7) ?_
 refine K0 12 C (XV.g 8) ?_
 refine KF 13 C (hw.g 94) Via.refl R1.D (XV.g 9) ?_
 refine K0 16 C (XV.g 10) ?_
 refine KF 17 C (hw.g 253) Via.refl R1.N (XV.g 11) ?_
 refine Kf 20 C (Ck hw W a ea _ _ R1 (by simp [hc]) (fun v z => by simp only [Nat.sub_self, List.replicate_zero, List.append_nil, List.mem_map] at z; obtain ⟨p, z1, rfl⟩ := z; exact ⟨_, rfl, (F.T p z1).1.wr W1⟩) hya s_ (G.1.wr W1)) (R1.X) (hw.g 255) (QB.of (hw.g 258 rfl) rfl) (hw.g 257) (hw.g 256) (hw.g 74) (hw.g 259) HY (XV.g 12) (argsL := [_, _, _]) rfl rfl rfl rfl (hP := (fun x q r => r.elim (fun z => z ▸ (Or.inl rfl)) (fun z => C.new x (Nat.le_trans q z)))) ?_
 rintro _ h2 ⟨rfl, q, hq, R2⟩ -
 refine KD 23 C 1 (XV.g 13) ?_
 refine Qc C (fun _ _ hKK => ?_)
 rw [hs] at hKK
 refine KP 24 C (XV.g 14) (by first | rfl | decide) (fun _ _ => ⟨rfl, q, W1.size ▸ hq, R2.eq (by simp [hc]) (by rw [← GQ (us := us) (cap := 15) (by omega), hc]; simp), fun p z => (List.mem_append.mp z).elim (fun z => (F.T p z).kpL F.R.X (hw.g 73) F.R.A F.R.Y (Gq hKK (fun x z => z.imp id Or.inr))) (fun z => by rw [List.mem_singleton.mp z]; exact G.kpL F.R.X (hw.g 73) F.R.A F.R.Y (Gq hKK (fun x z => z.imp id Or.inr))), by simp; omega⟩)
def LI : MethodName := ⟨"jdk/internal/util/Preconditions", "checkIndex", "(IILjava/util/function/BiFunction;)I"⟩
theorem U0 : plainFor LI = true := by decide +kernel
theorem D_ {x0 : Int32} {x1 : Int32} (m : MethodId) : entryFrame m #[.int x0, .int x1, .null] 3 = oF m 0 [.val (.int x0), .val (.int x1), .val .null] [] := by (first | (simp [entryFrame, oF, mkF, argsToLocals, Value.category]; done) | rfl)
theorem El (hw : Kh Z a0) (i n_ : Nat) (h0 : Heap) (hi : i < n_) (hn : n_ ≤ 15) :
  KH l Z LI jdk_41_method_11_code 3 (some .int) ⟨0, 0, 0, 0⟩ #[.int (Int32.ofNat i), .int (Int32.ofNat n_), .null] h0 (fun a => h0.size ≤ a) (fun v h => v = some (.int (Int32.ofNat i)) ∧ h0 = h) := by
 refine Q9 U0 D_ fun p e s m below meth c C hs => ?_
 refine K8 0 C (VJ.g 0) ?_
 refine Qx 1 C 9 (VJ.g 1) (fun hc1 => ?_) (fun hc1 => ?_)
 ·simp only [oC, Classical.not_not] at hc1
  exact False.elim (by simp only [Int32.lt_iff_toInt_lt, ← Int32.toInt_inj, Int32.toInt_add, Int32.toInt_sub, Qm, Int32.reduceToInt, Int.bmod_def] at hc1; omega)
 ·simp only [oC, Classical.not_not] at hc1
  refine K8 4 C (VJ.g 2) ?_
  refine K8 5 C (VJ.g 3) ?_
  refine QK 6 C 16 (VJ.g 4) (fun hc6 => ?_) (fun hc6 => ?_)
  ·simp only [oC, Classical.not_not] at hc6
   refine K8 16 C (VJ.g 5) ?_
   refine KP 17 C (VJ.g 6) rfl (fun _ _ => ⟨rfl, rfl⟩)
  ·simp only [oC, Classical.not_not] at hc6
   exact False.elim (by simp only [Int32.lt_iff_toInt_lt, ← Int32.toInt_inj, Int32.toInt_add, Int32.toInt_sub, Qm, Int32.reduceToInt, Int.bmod_def] at hc6; omega)
def Fs : MethodName := ⟨"java/util/Objects", "checkIndex", "(II)I"⟩
theorem UC : plainFor Fs = true := by decide +kernel
theorem Ey (hw : Kh Z a0) (i n_ : Nat) (h0 : Heap) (hi : i < n_) (hn : n_ ≤ 15) :
  KH l Z Fs jdk_31_method_17_code 2 (some .int) ⟨1, 0, 0, 22⟩ #[.int (Int32.ofNat i), .int (Int32.ofNat n_)] h0 (fun a => h0.size ≤ a) (fun v h => v = some (.int (Int32.ofNat i)) ∧ h0 = h) := by
 refine Q9 UC We fun p e s m below meth c C hs => ?_
 refine K8 0 C (BL.g 0) ?_
 refine K8 1 C (BL.g 1) ?_
 refine QC 2 C (BL.g 2) ?_
 refine KK 3 C (El hw i n_ _ hi hn) (hw.g 290) (hw.g 291) (hw.g 292) (hw.g 293) Vn (BL.g 3) (argsL := [_, _, _]) rfl rfl rfl rfl ?_
 rintro _ _ ⟨rfl, rfl⟩ -
 refine KP 6 C (BL.g 4) rfl (fun _ _ => ⟨rfl, rfl⟩)
def Fk : MethodName := ⟨"java/util/ArrayList", "elementData", "(I)Ljava/lang/Object;"⟩
theorem VC : plainFor Fk = true := by decide +kernel
theorem Cy (hw : Kh Z a0) (a ea : Addr) (cap i : Nat) (ps : List (Addr × List Int32)) (s_ : Addr) (us : List Int32) (h0 : Heap) (F : Gr Z h0 a ea cap ps) (hi : ps[i]? = some (s_, us)) (hl : cap ≤ 15) :
  KH l Z Fk jdk_38_method_18_code 2 (some (.object "java/lang/Object")) ⟨0, 0, 0, 0⟩ #[.ref a, .int (Int32.ofNat i)] h0 (fun a => h0.size ≤ a) (fun v h => v = some (.ref s_) ∧ h0 = h) := by
 refine Q9 VC VV fun p e s m below meth c C hs => ?_
 have hb : i < ps.length := (List.getElem?_eq_some_iff.mp hi).1
 have hc := F.C
 refine K0 0 C (AS.g 0) ?_
 refine KF 1 C (hw.g 94) Via.refl F.R.D (AS.g 1) ?_
 refine K8 4 C (AS.g 2) ?_
 refine XM 5 C (v := .ref s_) i F.R.A.arr rfl (Xk _ (by omega)) (by rw [List.getElem?_append_left (by simpa using hb), List.getElem?_map, hi]; rfl) (AS.g 3) ?_
 refine KL 6 C (AS.g 4) (fun _ _ => ⟨rfl, rfl⟩)
def FX : MethodName := ⟨"java/util/ArrayList", "get", "(I)Ljava/lang/Object;"⟩
theorem V0 : plainFor FX = true := by decide +kernel
theorem Yg (hw : Kh Z a0) (a ea : Addr) (cap i : Nat) (ps : List (Addr × List Int32)) (s_ : Addr) (us : List Int32) (h0 : Heap) (F : Gr Z h0 a ea cap ps) (hi : ps[i]? = some (s_, us)) (hl : cap ≤ 15) :
  KH l Z FX jdk_38_method_20_code 2 (some (.object "java/lang/Object")) ⟨2, 0, 0, 43⟩ #[.ref a, .int (Int32.ofNat i)] h0 (fun a => h0.size ≤ a) (fun v h => v = some (.ref s_) ∧ h0 = h) := by
 refine Q9 V0 VV fun p e s m below meth c C hs => ?_
 have hb : i < ps.length := (List.getElem?_eq_some_iff.mp hi).1
 have hc := F.C
 refine K8 0 C (TH.g 0) ?_
 refine K0 1 C (TH.g 1) ?_
 refine KF 2 C (hw.g 253) Via.refl F.R.N (TH.g 2) ?_
 refine KK 5 C (Ey hw i ps.length _ hb (by omega)) (hw.g 286) (hw.g 287) (hw.g 288) (hw.g 289) XZ (TH.g 3) (argsL := [_, _]) rfl rfl rfl rfl ?_
 rintro _ _ ⟨rfl, rfl⟩ -
 refine QR 8 C (TH.g 4) rfl ?_
 refine K0 9 C (TH.g 5) ?_
 refine K8 10 C (TH.g 6) ?_
 refine KI 11 C (Cy hw a ea cap i ps s_ us _ F hi hl) (F.R.X) (hw.g 294) (hw.g 295) (QF (hw.g 297)) (hw.g 297) (hw.g 296) (hw.g 74) (hw.g 298) X9 (TH.g 7) (argsL := [_]) rfl rfl rfl rfl ?_
 rintro _ _ ⟨rfl, rfl⟩ -
 refine KL 14 C (TH.g 8) (fun _ _ => ⟨rfl, rfl⟩)
def Fa : MethodName := ⟨"java/util/ArrayList", "size", "()I"⟩
theorem WH : plainFor Fa = true := by decide +kernel
theorem Wz (hw : Kh Z a0) (a ea : Addr) (cap : Nat) (ps : List (Addr × List Int32)) (h0 : Heap) (F : Gr Z h0 a ea cap ps) :
  KH l Z Fa jdk_38_method_8_code 1 (some .int) ⟨0, 0, 0, 0⟩ #[.ref a] h0 (fun a => h0.size ≤ a) (fun v h => v = some (.int (Int32.ofNat ps.length)) ∧ h0 = h) := by
 refine Q9 WH YL fun p e s m below meth c C hs => ?_
 refine K0 0 C (Dv.g 0) ?_
 refine KF 1 C (hw.g 253) Via.refl F.R.N (Dv.g 1) ?_
 refine KP 4 C (Dv.g 2) rfl (fun _ _ => ⟨rfl, rfl⟩)
def Kr : List (String × Nat) := [("com/example/wardstream/wardstream/engine/Scorecard", 60), ("com/example/wardstream/wardstream/engine/Scorecard", 79), ("com/example/wardstream/wardstream/engine/Scorecard", 81), ("com/example/wardstream/wardstream/engine/ScorecardCountEvaluatedPinLaw", 40), ("com/example/wardstream/wardstream/engine/ScorecardCountEvaluatedPinLaw", 46), ("com/example/wardstream/wardstream/engine/ScorecardCountEvaluatedPinLaw", 48), ("com/example/wardstream/wardstream/engine/ScorecardCountEvaluatedPinLaw", 50), ("com/example/wardstream/wardstream/engine/ScorecardCountEvaluatedPinLaw", 52), ("com/example/wardstream/wardstream/engine/Scorecard", 87), ("com/example/wardstream/wardstream/engine/Scorecard", 89), ("com/example/wardstream/wardstream/engine/Scorecard", 91), ("com/example/wardstream/wardstream/engine/Scorecard", 93), ("com/example/wardstream/wardstream/engine/Scorecard", 103), ("java/math/BigDecimal", 675), ("com/example/wardstream/wardstream/engine/Scorecard", 105), ("com/example/wardstream/wardstream/engine/Scorecard", 109), ("com/example/wardstream/wardstream/engine/Scorecard", 147), ("com/example/wardstream/wardstream/engine/Scorecard", 111), ("com/example/wardstream/wardstream/engine/Scorecard", 117), ("com/example/wardstream/wardstream/engine/ScorecardCountEvaluatedPinLaw", 62), ("com/example/wardstream/wardstream/engine/ScorecardCountEvaluatedPinLaw", 64), ("com/example/wardstream/wardstream/engine/ScorecardCountEvaluatedPinLaw", 66), ("com/example/wardstream/wardstream/engine/ScorecardCountEvaluatedPinLaw", 68), ("com/example/wardstream/wardstream/engine/ScorecardCountEvaluatedPinLaw", 70), ("com/example/wardstream/wardstream/engine/ScorecardCountEvaluatedPinLaw", 72), ("com/example/wardstream/wardstream/engine/ScorecardCountEvaluatedPinLaw", 74), ("com/example/wardstream/wardstream/engine/ScorecardCountEvaluatedPinLaw", 76), ("com/example/wardstream/wardstream/engine/ScorecardCountEvaluatedPinLaw", 78), ("com/example/wardstream/wardstream/engine/ScorecardCountEvaluatedPinLaw", 84), ("com/example/wardstream/wardstream/engine/ScorecardCountEvaluatedPinLaw", 86), ("com/example/wardstream/wardstream/engine/ScorecardCountEvaluatedPinLaw", 88), ("com/example/wardstream/wardstream/engine/ScorecardCountEvaluatedPinLaw", 90), ("com/example/wardstream/wardstream/engine/ScorecardCountEvaluatedPinLaw", 96), ("com/example/wardstream/wardstream/engine/ScorecardCountEvaluatedPinLaw", 98), ("com/example/wardstream/wardstream/engine/ScorecardCountEvaluatedPinLaw", 100), ("com/example/wardstream/wardstream/engine/ScorecardCountEvaluatedPinLaw", 102), ("com/example/wardstream/wardstream/engine/ScorecardCountEvaluatedPinLaw", 104), ("com/example/wardstream/wardstream/engine/ScorecardCountEvaluatedPinLaw", 106), ("com/example/wardstream/wardstream/engine/ScorecardCountEvaluatedPinLaw", 108), ("com/example/wardstream/wardstream/engine/ScorecardCountEvaluatedPinLaw", 110), ("com/example/wardstream/wardstream/engine/ScorecardCountEvaluatedPinLaw", 112), ("com/example/wardstream/wardstream/engine/ScorecardCountEvaluatedPinLaw", 114), ("com/example/wardstream/wardstream/engine/ScorecardCountEvaluatedPinLaw", 116), ("com/example/wardstream/wardstream/engine/ScorecardCountEvaluatedPinLaw", 118), ("com/example/wardstream/wardstream/engine/ScorecardCountEvaluatedPinLaw", 120), ("com/example/wardstream/wardstream/engine/ScorecardCountEvaluatedPinLaw", 122), ("com/example/wardstream/wardstream/engine/ScorecardCountEvaluatedPinLaw", 124), ("com/example/wardstream/wardstream/engine/ScorecardCountEvaluatedPinLaw", 126), ("com/example/wardstream/wardstream/engine/ScorecardCountEvaluatedPinLaw", 128), ("com/example/wardstream/wardstream/engine/ScorecardCountEvaluatedPinLaw", 130), ("com/example/wardstream/wardstream/engine/ScorecardCountEvaluatedPinLaw", 132), ("com/example/wardstream/wardstream/engine/ScorecardCountEvaluatedPinLaw", 134)]
theorem QM {Z : State} {a0 : Array Value} (hw : Kh Z a0) : EW Z a0 Kr := EW.cons (hw.g 116) (by decide) (EW.cons (hw.g 276) (by decide) (EW.cons (hw.g 277) (by decide) (EW.cons (hw.g 300) (by decide) (EW.cons (hw.g 311) (by decide) (EW.cons (hw.g 312) (by decide) (EW.cons (hw.g 313) (by decide) (EW.cons (hw.g 314) (by decide) (EW.cons (hw.g 332) (by decide) (EW.cons (hw.g 333) (by decide) (EW.cons (hw.g 343) (by decide) (EW.cons (hw.g 359) (by decide) (EW.cons (hw.g 527) (by decide) (EW.cons (hw.g 529) (by decide) (EW.cons (hw.g 531) (by decide) (EW.cons (hw.g 549) (by decide) (EW.cons (hw.g 551) (by decide) (EW.cons (hw.g 552) (by decide) (EW.cons (hw.g 618) (by decide) (EW.cons (hw.g 758) (by decide) (EW.cons (hw.g 759) (by decide) (EW.cons (hw.g 760) (by decide) (EW.cons (hw.g 761) (by decide) (EW.cons (hw.g 762) (by decide) (EW.cons (hw.g 763) (by decide) (EW.cons (hw.g 764) (by decide) (EW.cons (hw.g 765) (by decide) (EW.cons (hw.g 766) (by decide) (EW.cons (hw.g 770) (by decide) (EW.cons (hw.g 771) (by decide) (EW.cons (hw.g 772) (by decide) (EW.cons (hw.g 773) (by decide) (EW.cons (hw.g 777) (by decide) (EW.cons (hw.g 778) (by decide) (EW.cons (hw.g 779) (by decide) (EW.cons (hw.g 780) (by decide) (EW.cons (hw.g 781) (by decide) (EW.cons (hw.g 782) (by decide) (EW.cons (hw.g 783) (by decide) (EW.cons (hw.g 784) (by decide) (EW.cons (hw.g 785) (by decide) (EW.cons (hw.g 786) (by decide) (EW.cons (hw.g 787) (by decide) (EW.cons (hw.g 788) (by decide) (EW.cons (hw.g 789) (by decide) (EW.cons (hw.g 790) (by decide) (EW.cons (hw.g 791) (by decide) (EW.cons (hw.g 792) (by decide) (EW.cons (hw.g 793) (by decide) (EW.cons (hw.g 794) (by decide) (EW.cons (hw.g 795) (by decide) (EW.cons (hw.g 796) (by decide) (EW.nil))))))))))))))))))))))))))))))))))))))))))))))))))))
theorem LR {Z : State} {a0 : Array Value} (hw : Kh Z a0) : ∀ a ∈ Bundle.stringAtoms, a.before a0 Z = true := by
 intro a ha
 simp only [Bundle.stringAtoms, List.mem_cons, List.not_mem_nil, or_false] at ha
 rcases ha with rfl | rfl | rfl | rfl | rfl | rfl | rfl
 ·exact (hw.g 110)
 ·exact (hw.g 117)
 ·exact (hw.g 111)
 ·exact (hw.g 118)
 ·exact (hw.g 119)
 ·exact (hw.g 120)
 ·exact (hw.g 121)
theorem kJ (hw : Kh Z a0) {b : Bool} {p : Program} {l : Launch} {e : Env} {R : Room} {s : State} {m : MethodId} {args : Array Value} {below : List Frame} {meth : Method} {c : Code} {P : Addr → Prop} {Q : Option Value → Heap → Vm → Prop} {J : Vm → Prop} {h h' : Heap} {k n : Nat} {g : JFrame} {xs : List Addr} (hJ : ∀ vm, J vm → oH Z Kr h' xs vm) (K : Kd b p l e R s m args below meth c P Q (oH Z Kr h' xs) h k n g) : Kd b p l e R s m args below meth c P Q J h k n g := Lo hJ (oH.js (QM hw)) K
theorem G_ : ∀ n : Nat, n < 128 → Value.int (Jvm.Lit.byteI n.toUInt16) = QW (Int32.ofNat n) ∧ XW (Int32.ofNat n) ∧ QG (Int32.ofNat n) := by unfold XW QG; decide
theorem RE {t : String} (h : ∀ c ∈ t.toList, c.toNat < 128) : t.toList.map (fun c => Value.int (Jvm.Lit.byteI c.toNat.toUInt16)) = (oU t).map QW := by
 unfold oU
 rw [List.map_map]
 exact List.map_congr_left fun c hc => (G_ _ (h c hc)).1
theorem Yk {t : String} (h : ∀ c ∈ t.toList, c.toNat < 128) : ∀ u ∈ oU t, XW u ∧ QG u := by
 intro u hu
 obtain ⟨c, hc, rfl⟩ := List.mem_map.mp hu
 exact (G_ _ (h c hc)).2
theorem kL (hw : Kh Z a0) {p : Program} {l : Launch} {e : Env} {R : Room} {s : State} {m : MethodId} {args : Array Value} {below : List Frame} {meth : Method} {c : Code} {P : Addr → Prop} {Q : Option Value → Heap → Vm → Prop} {h : Heap} {k n : Nat} {y : MethodName} {B : ByteArray} {ml : Nat} {rt : Option FieldType} {Ls : List Slot} {S : List Value} {xs : List Addr} (pc : Nat) (C : Q0 p s m meth c P Z y B ml rt) {idx : Nat} {text : String} (j nn : Nat) (w : (Jvm.Cond.stringLink y.cls idx text).before a0 Z = true) (hd : decode B pc = .ok (.ldc idx, 2)) (K : ∀ a h', Ext h h' → QY Z h' a (oU text) → Kd true p l e R s m args below meth c P Q (oH Z Kr h' xs) h' (k + 2) (n + (nn + 4)) (oF m (pc + 2) Ls (.ref a :: S))) (hm : Kr[j]? = some (y.cls, idx) := by exact rfl) (ha : ∀ c ∈ text.toList, c.toNat < 128 := by decide) (h4 : 4 * text.toList.length ≤ nn := by decide) (hb : nn ≤ 4000 := by decide) (hk : k + 2 ≤ R.cells := by decide) (hn : n + (nn + 4) ≤ R.slots := by decide) : Kd true p l e R s m args below meth c P Q (oH Z Kr h xs) h k n (oF m pc Ls S) :=
 Tr pc C (oU text) w (LR hw) (QM hw) (List.mem_of_getElem? hm) hd (fun c q => Nat.lt_trans (ha c q) (by decide)) (RE ha) h4 (by omega) (by unfold oU; rw [List.length_map]; omega) (Yk ha) hk hn fun a h' E S => K a h' E (QY.of S fun u q => (Yk ha u q).2)
theorem Ld (hw : Kh Z a0) {p : Program} {l : Launch} {e : Env} {R : Room} {s : State} {m : MethodId} {args : Array Value} {below : List Frame} {meth : Method} {c : Code} {P : Addr → Prop} {Q : Option Value → Heap → Vm → Prop} {h : Heap} {k n : Nat} {y : MethodName} {B : ByteArray} {ml : Nat} {rt : Option FieldType} {Ls : List Slot} {S : List Value} {xs : List Addr} (pc : Nat) (C : Q0 p s m meth c P Z y B ml rt) {idx : Nat} {text : String} (j nn : Nat) (w : (Jvm.Cond.stringLink y.cls idx text).before a0 Z = true) (hd : decode B pc = .ok (.ldc_w idx, 3)) (K : ∀ a h', Ext h h' → QY Z h' a (oU text) → Kd true p l e R s m args below meth c P Q (oH Z Kr h' xs) h' (k + 2) (n + (nn + 4)) (oF m (pc + 3) Ls (.ref a :: S))) (hm : Kr[j]? = some (y.cls, idx) := by exact rfl) (ha : ∀ c ∈ text.toList, c.toNat < 128 := by decide) (h4 : 4 * text.toList.length ≤ nn := by decide) (hb : nn ≤ 4000 := by decide) (hk : k + 2 ≤ R.cells := by decide) (hn : n + (nn + 4) ≤ R.slots := by decide) : Kd true p l e R s m args below meth c P Q (oH Z Kr h xs) h k n (oF m pc Ls S) :=
 TD pc C (oU text) w (LR hw) (QM hw) (List.mem_of_getElem? hm) hd (fun c q => Nat.lt_trans (ha c q) (by decide)) (RE ha) h4 (by omega) (by unfold oU; rw [List.length_map]; omega) (Yk ha) hk hn fun a h' E S => K a h' E (QY.of S fun u q => (Yk ha u q).2)
def LD (q_ : Int64) : List Int32 := if q_ = 0 then [48] else if q_ = 5000 then [53, 48, 48, 48] else if q_ = 6667 then [54, 54, 54, 55] else [49, 48, 48, 48, 48]
def Xn (q_ : Int64) : List Int32 := if q_ = 0 then oU "0.0000" else if q_ = 5000 then oU "0.5000" else if q_ = 6667 then oU "0.6667" else oU "1.0000"
theorem EI (hw : Kh Z a0) (W : oW Z) (q_ : Int64) (h0 : Heap) (hq : q_ = 0 ∨ q_ = 5000 ∨ q_ = 6667 ∨ q_ = 10000) :
  KH l Z Ar jdk_35_method_12_code 4 (some (.object "java/lang/String")) ⟨2, 2, 10, 56⟩ #[.long q_] h0 (fun a => h0.size ≤ a) (fun v h => ∃ a, v = some (.ref a) ∧ h0.size ≤ a ∧ QY Z h a (LD q_)) := by
 rcases hq with rfl | rfl | rfl | rfl
 ·exact BD hw W h0
 ·exact Tg hw W _ (by decide) h0
 ·exact Tg hw W _ (by decide) h0
 ·exact BS hw W h0
def Ae : MethodName := ⟨"java/math/BigDecimal", "getValueString", "(ILjava/lang/String;I)Ljava/lang/String;"⟩
theorem HW : plainFor Ae = true := by decide +kernel
theorem Us {x0 : Int32} {x1 : Addr} {x2 : Int32} (m : MethodId) : entryFrame m #[.int x0, .ref x1, .int x2] 6 = oF m 0 [.val (.int x0), .val (.ref x1), .val (.int x2), .unset, .unset, .unset] [] := by (first | (simp [entryFrame, oF, mkF, argsToLocals, Value.category]; done) | rfl)
theorem Wx (hw : Kh Z a0) (W : oW Z) (s_ : Addr) (ws : List Int32) (xs : List Addr) (h0 : Heap) (G : QY Z h0 s_ ws) (hl : ws.length = 4) :
  Q1 l Z Ae jdk_17_method_79_code 6 (some (.object "java/lang/String")) ⟨9, 10, 470, 200⟩ #[.int 1, .ref s_, .int 4] h0 (fun a => h0.size ≤ a) (oH Z Kr h0 xs) (fun v h vm => ∃ r, v = some (.ref r) ∧ QY Z h r (oU "0." ++ ws) ∧ oH Z Kr h xs vm) := by
 refine Q1.of HW (fun _ q => q) (fun E _ q => Nat.le_trans E.1 q) Us (oH.js (QM hw)) ?_
 intro p e s m below meth c C hs
 refine K0 0 C (Qa.g 0) ?_
 refine KI 1 C (RI hw W s_ _ _ G) (G.1) (hw.g 485) (hw.g 133) (QF (hw.g 135)) (hw.g 135) (hw.g 134) (hw.g 110) (hw.g 136) Qf (Qa.g 1) (argsL := []) rfl rfl rfl rfl ?_
 rintro _ _ ⟨rfl, rfl⟩ -
 rw [hl]
 refine K8 4 C (Qa.g 2) ?_
 refine Kt 5 C (Qa.g 3) ?_
 refine KG 6 C (Ls' := [_, _, _, _, _, _]) (Qa.g 4) rfl ?_
 refine KE 8 C (Qa.g 5) ?_
 refine KW 10 C (Qa.g 6) ?_
 refine QE 13 C (hw.g 486) (hw.g 97) (hw.g 98) (Qa.g 7) ?_
 intro h1 sb hsb hPs E1 X1 D1
 have FV := D1 (Or.inl (hw.g 113)) (ty := (.array .byte)) (by decide)
 have FC := D1 (Or.inl (hw.g 115)) (ty := .byte) (by decide)
 have FN := D1 (Or.inl (hw.g 146)) (ty := .int) (by decide)
 have E := E1
 refine kJ hw (fun _ H => H.ext E1) ?_
 refine Ku 16 C (Qa.g 8) rfl ?_
 refine KV 17 C (YM hw W sb _ (C.young sb hPs) X1 FV FC FN) (hw.g 528) (hw.g 100) (hw.g 98) (hw.g 101) QL (Qa.g 9) (argsL := []) rfl rfl rfl rfl (hP := (fun x q r => r.elim (fun z => z ▸ hPs) (fun z => C.new x (Nat.le_trans q z)))) ?_
 rintro _ h2 ⟨rfl, va, hva, F⟩ K2
 have hPv : h0.size ≤ va := Nat.le_trans E.1 hva
 replace E := Km.e1 E K2 hPs
 refine kJ hw (fun _ H => H.sb0 X1 K2 hva F) ?_
 refine K8 20 C (Qa.g 10) ?_
 refine KQ 21 C 30 (Qa.g 11) ?_
 refine Ld hw 30 C 13 8 (hw.g 529) (Qa.g 12) ?_
 intro z h3 E3 S3
 replace F := F.ext E3
 replace E := Ki.tr E E3
 have EL4 := E.1
 refine KI 33 C (XP hw W sb va z _ _ _ F S3 (by decide) (C.young sb hPs) (C.young _ hPv)) (F.X) (hw.g 530) (hw.g 123) (QF (hw.g 125)) (hw.g 125) (hw.g 124) (hw.g 98) (hw.g 126) QS (Qa.g 13) (argsL := [_]) rfl rfl rfl rfl (hP := (fun x q r => r.elim (fun z => z ▸ hPs) (fun r => r.elim (fun z => z ▸ hPv) (fun z => C.new x (Nat.le_trans q z))))) ?_
 rintro _ h4 ⟨rfl, va', hv', F'⟩ K4
 replace E := Km.e2 E K4 hPs hPv
 replace hPv : h0.size ≤ va' := hv'.elim (fun z => z ▸ hPv) (fun z => Nat.le_trans EL4 z)
 refine kJ hw (fun _ H => H.sbk F K4 hv' F') ?_
 replace F := F'
 clear F' hv'
 refine K0 36 C (Qa.g 14) ?_
 have EL5 := E.1
 refine KI 37 C (XP hw W sb _ s_ _ ws _ F (G.ext E) (by rw [List.length_append, hl]; decide) (C.young sb hPs) (C.young _ hPv)) (F.X) (hw.g 530) (hw.g 123) (QF (hw.g 125)) (hw.g 125) (hw.g 124) (hw.g 98) (hw.g 126) QS (Qa.g 15) (argsL := [_]) rfl rfl rfl rfl (hP := (fun x q r => r.elim (fun z => z ▸ hPs) (fun r => r.elim (fun z => z ▸ hPv) (fun z => C.new x (Nat.le_trans q z))))) ?_
 rintro _ h5 ⟨rfl, va', hv', F'⟩ K5
 replace E := Km.e2 E K5 hPs hPv
 replace hPv : h0.size ≤ va' := hv'.elim (fun z => z ▸ hPv) (fun z => Nat.le_trans EL5 z)
 refine kJ hw (fun _ H => H.sbk F K5 hv' F') ?_
 replace F := F'
 clear F' hv'
 refine KI 40 C (Y5 hw W sb _ _ _ F) (F.X) (hw.g 526) (hw.g 200) (QF (hw.g 202)) (hw.g 202) (hw.g 201) (hw.g 98) (hw.g 203) Qr (Qa.g 16) (argsL := []) rfl rfl rfl rfl ?_
 rintro _ h6 ⟨q, rfl, hq, S6⟩ K6
 refine kJ hw (fun _ H => (H.fr K6).tl) ?_
 refine KL 43 C (Qa.g 17) (fun _ H => ⟨q, rfl, S6.eq (by simp), H⟩)
theorem Ep (hw : Kh Z a0) (W : oW Z) (s_ : Addr) (xs : List Addr) (h0 : Heap) (G : QY Z h0 s_ [49, 48, 48, 48, 48]) :
  Q1 l Z Ae jdk_17_method_79_code 6 (some (.object "java/lang/String")) ⟨9, 10, 470, 200⟩ #[.int 1, .ref s_, .int 4] h0 (fun a => h0.size ≤ a) (oH Z Kr h0 xs) (fun v h vm => ∃ r, v = some (.ref r) ∧ QY Z h r (oU "1.0000") ∧ oH Z Kr h xs vm) := by
 refine Q1.of HW (fun _ q => q) (fun E _ q => Nat.le_trans E.1 q) Us (oH.js (QM hw)) ?_
 intro p e s m below meth c C hs
 refine K0 0 C (Qa.g 0) ?_
 refine KI 1 C (RI hw W s_ _ _ G) (G.1) (hw.g 485) (hw.g 133) (QF (hw.g 135)) (hw.g 135) (hw.g 134) (hw.g 110) (hw.g 136) Qf (Qa.g 1) (argsL := []) rfl rfl rfl rfl ?_
 rintro _ _ ⟨rfl, rfl⟩ -
 refine K8 4 C (Qa.g 2) ?_
 refine Kt 5 C (Qa.g 3) ?_
 rw [show Int32.ofNat (List.length [(49 : Int32), 48, 48, 48, 48]) - 4 = 1 from by decide]
 refine KG 6 C (Ls' := [_, _, _, _, _, _]) (Qa.g 4) rfl ?_
 refine KE 8 C (Qa.g 5) ?_
 refine KQ 10 C 44 (Qa.g 6) ?_
 refine KE 44 C (Qa.g 18) ?_
 refine KW 46 C (Qa.g 19) ?_
 refine QE 49 C (hw.g 486) (hw.g 97) (hw.g 98) (Qa.g 20) ?_
 intro h1 sb hsb hPs E1 X1 D1
 have FV := D1 (Or.inl (hw.g 113)) (ty := (.array .byte)) (by decide)
 have FC := D1 (Or.inl (hw.g 115)) (ty := .byte) (by decide)
 have FN := D1 (Or.inl (hw.g 146)) (ty := .int) (by decide)
 have E := E1
 refine kJ hw (fun _ H => H.ext E1) ?_
 refine Ku 52 C (Qa.g 21) rfl ?_
 refine K0 53 C (Qa.g 22) ?_
 refine KV 54 C (DE hw W sb s_ _ _ (G.ext E1) (by decide) (C.young sb hPs) X1 FV FC FN) (hw.g 487) (hw.g 488) (hw.g 98) (hw.g 490) RJ (Qa.g 23) (argsL := [_]) rfl rfl rfl rfl (hP := (fun x q r => r.elim (fun z => z ▸ hPs) (fun z => C.new x (Nat.le_trans q z)))) ?_
 rintro _ h2 ⟨rfl, va, hva, F⟩ K2
 have hPv : h0.size ≤ va := Nat.le_trans E.1 hva
 replace E := Km.e1 E K2 hPs
 refine kJ hw (fun _ H => H.sb0 X1 K2 hva F) ?_
 refine KY 57 C (Ls' := [_, _, _, _, _, _]) (Qa.g 24) rfl rfl ?_
 refine K0 58 C (Qa.g 25) ?_
 refine KE 59 C (Qa.g 26) ?_
 refine KN 61 C 46 (Qa.g 27) ?_
 have EL4 := E.1
 refine KI 63 C (DI hw W sb va _ F (C.young sb hPs) (C.young _ hPv)) (F.X) (hw.g 501) (hw.g 502) (QF (hw.g 504)) (hw.g 504) (hw.g 503) (hw.g 98) (hw.g 505) WR (Qa.g 28) (argsL := [_, _]) rfl rfl rfl rfl (hP := (fun x q r => r.elim (fun z => z ▸ hPs) (fun r => r.elim (fun z => z ▸ hPv) (fun z => C.new x (Nat.le_trans q z))))) ?_
 rintro _ h4 ⟨rfl, va', hv', F'⟩ K4
 replace E := Km.e2 E K4 hPs hPv
 replace hPv : h0.size ≤ va' := hv'.elim (fun z => z ▸ hPv) (fun z => Nat.le_trans EL4 z)
 refine kJ hw (fun _ H => H.sbk F K4 hv' F') ?_
 replace F := F'
 clear F' hv'
 refine QR 66 C (Qa.g 29) rfl ?_
 refine K8 67 C (Qa.g 30) ?_
 refine KQ 68 C 155 (Qa.g 31) ?_
 refine K0 155 C (Qa.g 32) ?_
 refine KI 156 C (Y5 hw W sb _ _ _ F) (F.X) (hw.g 526) (hw.g 200) (QF (hw.g 202)) (hw.g 202) (hw.g 201) (hw.g 98) (hw.g 203) Qr (Qa.g 33) (argsL := []) rfl rfl rfl rfl ?_
 rintro _ h6 ⟨q, rfl, hq, S6⟩ K6
 refine kJ hw (fun _ H => (H.fr K6).tl) ?_
 refine KL 159 C (Qa.g 34) (fun _ H => ⟨q, rfl, S6.eq (by decide), H⟩)
theorem CG (hw : Kh Z a0) (W : oW Z) (s_ : Addr) (xs : List Addr) (h0 : Heap) (G : QY Z h0 s_ [48]) :
  Q1 l Z Ae jdk_17_method_79_code 6 (some (.object "java/lang/String")) ⟨9, 10, 470, 200⟩ #[.int 0, .ref s_, .int 4] h0 (fun a => h0.size ≤ a) (oH Z Kr h0 xs) (fun v h vm => ∃ r, v = some (.ref r) ∧ QY Z h r (oU "0.0000") ∧ oH Z Kr h xs vm) := by
 refine Q1.of HW (fun _ q => q) (fun E _ q => Nat.le_trans E.1 q) Us (oH.js (QM hw)) ?_
 intro p e s m below meth c C hs
 refine K0 0 C (Qa.g 0) ?_
 refine KI 1 C (RI hw W s_ _ _ G) (G.1) (hw.g 485) (hw.g 133) (QF (hw.g 135)) (hw.g 135) (hw.g 134) (hw.g 110) (hw.g 136) Qf (Qa.g 1) (argsL := []) rfl rfl rfl rfl ?_
 rintro _ _ ⟨rfl, rfl⟩ -
 refine K8 4 C (Qa.g 2) ?_
 refine Kt 5 C (Qa.g 3) ?_
 rw [show Int32.ofNat (List.length [(48 : Int32)]) - 4 = -3 from by decide]
 refine KG 6 C (Ls' := [_, _, _, _, _, _]) (Qa.g 4) rfl ?_
 refine KE 8 C (Qa.g 5) ?_
 refine KQ 10 C 44 (Qa.g 6) ?_
 refine KE 44 C (Qa.g 18) ?_
 refine KQ 46 C 82 (Qa.g 19) ?_
 refine K8 82 C (Qa.g 35) ?_
 refine KQ 83 C 90 (Qa.g 36) ?_
 refine KD 90 C 2 (Qa.g 37) ?_
 refine K8 91 C (Qa.g 38) ?_
 refine Kg 92 C (Qa.g 39) ?_
 rw [show (2 : Int32) + 4 = Int32.ofNat 6 from by decide]
 refine KG 93 C (Ls' := [_, _, _, _, _, _]) (Qa.g 40) rfl ?_
 refine KE 95 C (Qa.g 41) ?_
 refine KQ 97 C 111 (Qa.g 42) ?_
 refine QE 111 C (hw.g 486) (hw.g 97) (hw.g 98) (Qa.g 43) ?_
 intro h1 sb hsb hPs E1 X1 D1
 have FV := D1 (Or.inl (hw.g 113)) (ty := (.array .byte)) (by decide)
 have FC := D1 (Or.inl (hw.g 115)) (ty := .byte) (by decide)
 have FN := D1 (Or.inl (hw.g 146)) (ty := .int) (by decide)
 have E := E1
 refine kJ hw (fun _ H => H.ext E1) ?_
 refine Ku 114 C (Qa.g 44) rfl ?_
 refine KE 115 C (Qa.g 45) ?_
 refine KV 117 C (CK hw W sb 6 _ (by decide) (by decide) (C.young sb hPs) X1 FV FC FN) (hw.g 801) (hw.g 802) (hw.g 98) (hw.g 803) XO (Qa.g 46) (argsL := [_]) rfl rfl rfl rfl (hP := (fun x q r => r.elim (fun z => z ▸ hPs) (fun z => C.new x (Nat.le_trans q z)))) ?_
 rintro _ h2 ⟨rfl, va, hva, F⟩ K2
 have hPv : h0.size ≤ va := Nat.le_trans E.1 hva
 replace E := Km.e1 E K2 hPs
 refine kJ hw (fun _ H => H.sb0 X1 K2 hva F) ?_
 refine KY 120 C (Ls' := [_, _, _, _, _, _]) (Qa.g 47) rfl rfl ?_
 refine K0 121 C (Qa.g 48) ?_
 refine K8 122 C (Qa.g 49) ?_
 refine KQ 123 C 132 (Qa.g 50) ?_
 refine Ld hw 132 C 13 8 (hw.g 529) (Qa.g 51) ?_
 intro z h3 E3 S3
 replace F := F.ext E3
 replace E := Ki.tr E E3
 have EL4 := E.1
 refine KI 135 C (XP hw W sb va z _ _ _ F S3 (by decide) (C.young sb hPs) (C.young _ hPv)) (F.X) (hw.g 530) (hw.g 123) (QF (hw.g 125)) (hw.g 125) (hw.g 124) (hw.g 98) (hw.g 126) QS (Qa.g 52) (argsL := [_]) rfl rfl rfl rfl (hP := (fun x q r => r.elim (fun z => z ▸ hPs) (fun r => r.elim (fun z => z ▸ hPv) (fun z => C.new x (Nat.le_trans q z))))) ?_
 rintro _ h4 ⟨rfl, va', hv', F'⟩ K4
 replace E := Km.e2 E K4 hPs hPv
 replace hPv : h0.size ≤ va' := hv'.elim (fun z => z ▸ hPv) (fun z => Nat.le_trans EL4 z)
 refine kJ hw (fun _ H => H.sbk F K4 hv' F') ?_
 replace F := F'
 clear F' hv'
 refine QR 138 C (Qa.g 53) rfl ?_
 refine K0 139 C (Qa.g 54) ?_
 refine KN 140 C 48 (Qa.g 55) ?_
 refine KE 142 C (Qa.g 56) ?_
 refine GF 144 C (Qa.g 57) ?_
 rw [show -(-3 : Int32) = 3 from by decide]
 replace F := F.eq (ws := [48, 46]) (by decide)
 have EL5 := E.1
 refine KI 145 C (DB hw W sb _ _ F (C.young sb hPs) (C.young _ hPv)) (F.X) (hw.g 804) (hw.g 805) (QF (hw.g 807)) (hw.g 807) (hw.g 806) (hw.g 98) (hw.g 808) Ve (Qa.g 58) (argsL := [_, _]) rfl rfl rfl rfl (hP := (fun x q r => r.elim (fun z => z ▸ hPs) (fun r => r.elim (fun z => z ▸ hPv) (fun z => C.new x (Nat.le_trans q z))))) ?_
 rintro _ h5 ⟨rfl, va', hv', F'⟩ K5
 replace E := Km.e2 E K5 hPs hPv
 replace hPv : h0.size ≤ va' := hv'.elim (fun z => z ▸ hPv) (fun z => Nat.le_trans EL5 z)
 refine kJ hw (fun _ H => H.sbk F K5 hv' F') ?_
 replace F := F'
 clear F' hv'
 refine QR 148 C (Qa.g 59) rfl ?_
 refine K0 149 C (Qa.g 60) ?_
 refine K0 150 C (Qa.g 61) ?_
 have EL6 := E.1
 refine KI 151 C (XP hw W sb _ s_ _ _ _ F (G.ext E) (by decide) (C.young sb hPs) (C.young _ hPv)) (F.X) (hw.g 530) (hw.g 123) (QF (hw.g 125)) (hw.g 125) (hw.g 124) (hw.g 98) (hw.g 126) QS (Qa.g 62) (argsL := [_]) rfl rfl rfl rfl (hP := (fun x q r => r.elim (fun z => z ▸ hPs) (fun r => r.elim (fun z => z ▸ hPv) (fun z => C.new x (Nat.le_trans q z))))) ?_
 rintro _ h6 ⟨rfl, va', hv', F'⟩ K6
 replace E := Km.e2 E K6 hPs hPv
 replace hPv : h0.size ≤ va' := hv'.elim (fun z => z ▸ hPv) (fun z => Nat.le_trans EL6 z)
 refine kJ hw (fun _ H => H.sbk F K6 hv' F') ?_
 replace F := F'
 clear F' hv'
 refine QR 154 C (Qa.g 63) rfl ?_
 refine K0 155 C (Qa.g 32) ?_
 refine KI 156 C (Y5 hw W sb _ _ _ F) (F.X) (hw.g 526) (hw.g 200) (QF (hw.g 202)) (hw.g 202) (hw.g 201) (hw.g 98) (hw.g 203) Qr (Qa.g 33) (argsL := []) rfl rfl rfl rfl ?_
 rintro _ h7 ⟨q, rfl, hq, S7⟩ K7
 refine kJ hw (fun _ H => (H.fr K7).tl) ?_
 refine KL 159 C (Qa.g 34) (fun _ H => ⟨q, rfl, S7.eq (by decide), H⟩)
theorem Ef (hw : Kh Z a0) (W : oW Z) (s_ : Addr) (q_ : Int64) (xs : List Addr) (h0 : Heap) (G : QY Z h0 s_ (LD q_)) (hq : q_ = 0 ∨ q_ = 5000 ∨ q_ = 6667 ∨ q_ = 10000) :
  Q1 l Z Ae jdk_17_method_79_code 6 (some (.object "java/lang/String")) ⟨9, 10, 470, 200⟩ #[.int (if q_ = 0 then 0 else 1), .ref s_, .int 4] h0 (fun a => h0.size ≤ a) (oH Z Kr h0 xs) (fun v h vm => ∃ r, v = some (.ref r) ∧ QY Z h r (Xn q_) ∧ oH Z Kr h xs vm) := by
 rcases hq with rfl | rfl | rfl | rfl
 ·exact CG hw W s_ xs h0 G
 ·exact Wx hw W s_ _ xs h0 G rfl
 ·exact Wx hw W s_ _ xs h0 G rfl
 ·exact Ep hw W s_ xs h0 G
def Lb : MethodName := ⟨"java/math/BigDecimal", "toPlainString", "()Ljava/lang/String;"⟩
theorem WS : plainFor Lb = true := by decide +kernel
theorem Cl {x0 : Addr} (m : MethodId) : entryFrame m #[.ref x0] 5 = oF m 0 [.val (.ref x0), .unset, .unset, .unset, .unset] [] := by (first | (simp [entryFrame, oF, mkF, argsToLocals, Value.category]; done) | rfl)
theorem E6 (hw : Kh Z a0) (W : oW Z) (a : Addr) (q_ : Int64) (xs : List Addr) (h0 : Heap) (F : YR Z h0 a q_ 4) (hq : q_ = 0 ∨ q_ = 5000 ∨ q_ = 6667 ∨ q_ = 10000) :
  Q1 l Z Lb jdk_17_method_78_code 5 (some (.object "java/lang/String")) ⟨10, 12, 480, 225⟩ #[.ref a] h0 (fun a => h0.size ≤ a) (oH Z Kr h0 xs) (fun v h vm => ∃ r, v = some (.ref r) ∧ QY Z h r (Xn q_) ∧ oH Z Kr h xs vm) := by
 refine Q1.of WS (fun _ q => q) (fun E _ q => Nat.le_trans E.1 q) Cl (oH.js (QM hw)) ?_
 intro p e s m below meth c C hs
 refine K0 0 C (Yp.g 0) ?_
 refine KF 1 C (hw.g 392) Via.refl F.2.2 (Yp.g 1) ?_
 refine KQ 4 C 34 (Yp.g 2) ?_
 refine K0 34 C (Yp.g 3) ?_
 refine KF 35 C (hw.g 392) Via.refl F.2.2 (Yp.g 4) ?_
 refine KQ 38 C 145 (Yp.g 5) ?_
 refine K0 145 C (Yp.g 6) ?_
 refine KF 146 C (hw.g 413) Via.refl F.2.1 (Yp.g 7) ?_
 refine Kq 149 C (hw.g 429) (Yp.g 8) ?_
 refine Kc 152 C (Yp.g 9) ?_
 refine Qx 153 C 170 (Yp.g 10) (fun hc153 => ?_) (fun hc153 => ?_)
 ·simp only [oC, Classical.not_not] at hc153
  exact absurd hc153 (by rcases hq with rfl | rfl | rfl | rfl <;> decide)
 ·simp only [oC, Classical.not_not] at hc153
  refine K0 156 C (Yp.g 11) ?_
  refine KF 157 C (hw.g 413) Via.refl F.2.1 (Yp.g 12) ?_
  refine KK 160 C (Wo hw q_ _ (by rcases hq with q | q | q | q <;> simp [q])) (hw.g 459) (hw.g 460) (hw.g 239) (hw.g 461) Jk (Yp.g 13) (argsL := [_]) rfl rfl rfl rfl ?_
  rintro _ _ ⟨rfl, rfl⟩ -
  refine KK 163 C (EI hw W q_ _ hq) (hw.g 462) (hw.g 463) (hw.g 185) (hw.g 464) Jf (Yp.g 14) (argsL := [_]) rfl rfl rfl rfl ?_
  rintro _ h1 ⟨z, rfl, hz, S1⟩ K1
  refine kJ hw (fun _ H => H.fr K1) ?_
  replace F := F.ext K1.ext
  refine KY 166 C (Ls' := [_, _, _, _, _]) (Yp.g 15) rfl rfl ?_
  refine KT 167 C 181 (Yp.g 16) ?_
  refine K0 181 C (Yp.g 17) ?_
  refine KI 182 C (DT hw a q_ _ F hq) (F.1) (hw.g 474) (hw.g 475) (QF (hw.g 477)) (hw.g 477) (hw.g 476) (hw.g 381) (hw.g 478) Qf (Yp.g 18) (argsL := []) rfl rfl rfl rfl ?_
  rintro _ _ ⟨rfl, rfl⟩ -
  refine K0 185 C (Yp.g 19) ?_
  refine K0 186 C (Yp.g 20) ?_
  refine KF 187 C (hw.g 392) Via.refl F.2.2 (Yp.g 21) ?_
  refine XC 190 C (Ef hw W z q_ xs _ S1 hq) (fun _ H => H) (hw.g 482) (hw.g 483) (hw.g 381) (hw.g 484) WD (Yp.g 22) (argsL := [_, _, _]) rfl rfl rfl rfl ?_
  rintro _ h2 _ ⟨r, rfl, S2, H2⟩ -
  refine ⟨_, H2, (oH.js (QM hw)), ?_⟩
  refine KL 193 C (Yp.g 23) (fun _ H => ⟨r, rfl, S2, H⟩)
def CA : MethodName := ⟨"com/example/wardstream/wardstream/engine/Scorecard", "ratio", "(Ljava/math/BigInteger;Ljava/math/BigInteger;)Ljava/lang/String;"⟩
theorem JP : plainFor CA = true := by decide +kernel
theorem Bp (hw : Kh Z a0) (W : oW Z) (a b_ : Addr) (v1 v2 : Nat) (q_ : Int64) (xs : List Addr) (h0 : Heap) (F : QQ Z h0 a v1) (G : QQ Z h0 b_ v2) (hv1 : v1 ≤ 4) (hv2 : v2 ≤ 4) (h2 : v2 = 0) (h3 : q_ = 0) :
  Q1 l Z CA prog_19_method_7_code 2 (some (.object "java/lang/String")) ⟨11, 15, 523, 249⟩ #[.ref a, .ref b_] h0 (fun a => h0.size ≤ a) (oH Z Kr h0 xs) (fun v h vm => ∃ r, v = some (.ref r) ∧ QY Z h r (Xn q_) ∧ oH Z Kr h xs vm) := by
 refine Q1.of JP (fun _ q => q) (fun E _ q => Nat.le_trans E.1 q) Gu (oH.js (QM hw)) ?_
 intro p e s m below meth c C hs
 subst h2 h3
 refine K0 0 C (GM.g 0) ?_
 refine KI 1 C (AC hw b_ _ _ G) (G.1) (hw.g 372) (hw.g 373) (QF (hw.g 375)) (hw.g 375) (hw.g 374) (hw.g 365) (hw.g 376) Qf (GM.g 1) (argsL := []) rfl rfl rfl rfl ?_
 rintro _ _ ⟨rfl, rfl⟩ -
 refine KW 4 C (GM.g 2) ?_
 refine kL hw 7 C 16 24 (hw.g 551) (GM.g 3) ?_
 intro z h3 E3 S3
 refine KL 9 C (GM.g 4) (fun _ H => ⟨z, rfl, S3, H⟩)
theorem AY (hw : Kh Z a0) (W : oW Z) (a b_ : Addr) (v1 v2 : Nat) (q_ : Int64) (xs : List Addr) (h0 : Heap) (F : QQ Z h0 a v1) (G : QQ Z h0 b_ v2) (hv1 : v1 ≤ 4) (hv2 : v2 ≤ 4) (h2 : v2 ≠ 0) (hq : JD (Int64.ofNat v1) (Int64.ofNat v2) q_) :
  Q1 l Z CA prog_19_method_7_code 2 (some (.object "java/lang/String")) ⟨11, 15, 523, 249⟩ #[.ref a, .ref b_] h0 (fun a => h0.size ≤ a) (oH Z Kr h0 xs) (fun v h vm => ∃ r, v = some (.ref r) ∧ QY Z h r (Xn q_) ∧ oH Z Kr h xs vm) := by
 refine Q1.of JP (fun _ q => q) (fun E _ q => Nat.le_trans E.1 q) Gu (oH.js (QM hw)) ?_
 intro p e s m below meth c C hs
 obtain ⟨ru, Sr, Or_⟩ := W.up
 refine K0 0 C (GM.g 0) ?_
 refine KI 1 C (AC hw b_ _ _ G) (G.1) (hw.g 372) (hw.g 373) (QF (hw.g 375)) (hw.g 375) (hw.g 374) (hw.g 365) (hw.g 376) Qf (GM.g 1) (argsL := []) rfl rfl rfl rfl ?_
 rintro _ _ ⟨rfl, rfl⟩ -
 refine Qx 4 C 10 (GM.g 2) (fun hc4 => ?_) (fun hc4 => ?_)
 ·simp only [oC, Classical.not_not] at hc4
  refine QE 10 C (hw.g 379) (hw.g 380) (hw.g 381) (GM.g 5) ?_
  intro h1 d1 hd1 hPd E1 X1 D1
  have FS := D1 (Or.inr (hw.g 393)) (ty := .int) (by decide)
  have FP := D1 (Or.inl (hw.g 453)) (ty := .int) (by decide)
  have FI := D1 (Or.inr (hw.g 414)) (ty := .long) (by decide)
  have FV := D1 (Or.inr (hw.g 405)) (ty := (.object "java/math/BigInteger")) (by decide)
  refine kJ hw (fun _ H => H.ext E1) ?_
  refine Ku 13 C (GM.g 6) rfl ?_
  refine K0 14 C (GM.g 7) ?_
  refine KV 15 C (BW hw W d1 a v1 _ (F.ext E1) hv1 (C.young d1 hPd) X1 FS FP FI FV) (hw.g 382) (hw.g 383) (hw.g 381) (hw.g 384) Go (GM.g 8) (argsL := [_]) rfl rfl rfl rfl (hP := (fun x q r => r.elim (fun z => z ▸ hPd) (fun z => C.new x (Nat.le_trans q z)))) ?_
  rintro _ h2 ⟨rfl, B2⟩ K2
  refine kJ hw (fun _ H => H.o1 X1 (by decide) (by decide) K2) ?_
  have E := Km.e1 E1 K2 hPd
  refine QE 18 C (hw.g 379) (hw.g 380) (hw.g 381) (GM.g 9) ?_
  intro h3 d2 hd2 hPe E3 X3 D3
  have FS := D3 (Or.inr (hw.g 393)) (ty := .int) (by decide)
  have FP := D3 (Or.inl (hw.g 453)) (ty := .int) (by decide)
  have FI := D3 (Or.inr (hw.g 414)) (ty := .long) (by decide)
  have FV := D3 (Or.inr (hw.g 405)) (ty := (.object "java/math/BigInteger")) (by decide)
  refine kJ hw (fun _ H => H.ext E3) ?_
  refine Ku 21 C (GM.g 10) rfl ?_
  refine K0 22 C (GM.g 11) ?_
  refine KV 23 C (BW hw W d2 b_ v2 _ (G.ext (Ki.tr E E3)) hv2 (C.young d2 hPe) X3 FS FP FI FV) (hw.g 382) (hw.g 383) (hw.g 381) (hw.g 384) Go (GM.g 12) (argsL := [_]) rfl rfl rfl rfl (hP := (fun x q r => r.elim (fun z => z ▸ hPe) (fun z => C.new x (Nat.le_trans q z)))) ?_
  rintro _ h4 ⟨rfl, B4⟩ K4
  refine kJ hw (fun _ H => H.o1 X3 (by decide) (by decide) K4) ?_
  replace B2 := B2.ext (Km.e1 E3 K4 (Nat.le_of_eq hd2.symm))
  refine Qc C (fun hE hle _ => ?_)
  refine KD 26 C 4 (GM.g 13) ?_
  refine Ko 27 C (hw.g 415) Via.refl Sr (GM.g 14) ?_
  refine KI 30 C (Ew hw W d1 d2 _ _ q_ _ hq B2 B4 ru (Or_.ext hE)) (B2.1) (hw.g 417) (hw.g 418) (QF (hw.g 420)) (hw.g 420) (hw.g 419) (hw.g 381) (hw.g 421) Vd (GM.g 15) (argsL := [_, _, _]) rfl rfl rfl rfl ?_
  rintro _ h5 ⟨d3, rfl, B5⟩ K5
  refine kJ hw (fun _ H => H.fr K5) ?_
  refine Yu 33 C (E6 hw W d3 q_ xs _ B5 (RA hq).2.2) (fun _ H => H) (B5.1) (hw.g 454) (hw.g 455) (QF (hw.g 457)) (hw.g 457) (hw.g 456) (hw.g 381) (hw.g 458) Qr (GM.g 16) (argsL := []) rfl rfl rfl rfl ?_
  rintro _ h6 _ ⟨r, rfl, S6, H6⟩ -
  refine ⟨_, H6, (oH.js (QM hw)), ?_⟩
  refine KL 36 C (GM.g 17) (fun _ H => ⟨r, rfl, S6, H⟩)
 ·simp only [oC, Classical.not_not] at hc4
  exact absurd hc4 (by rw [if_neg h2]; decide)
theorem J3 (hw : Kh Z a0) (W : oW Z) (a b_ : Addr) (v1 v2 : Nat) (q_ : Int64) (xs : List Addr) (h0 : Heap) (F : QQ Z h0 a v1) (G : QQ Z h0 b_ v2) (hv1 : v1 ≤ 4) (hv2 : v2 ≤ 4) (hq : v2 = 0 ∧ q_ = 0 ∨ v2 ≠ 0 ∧ JD (Int64.ofNat v1) (Int64.ofNat v2) q_) :
  Q1 l Z CA prog_19_method_7_code 2 (some (.object "java/lang/String")) ⟨11, 15, 523, 249⟩ #[.ref a, .ref b_] h0 (fun a => h0.size ≤ a) (oH Z Kr h0 xs) (fun v h vm => ∃ r, v = some (.ref r) ∧ QY Z h r (Xn q_) ∧ oH Z Kr h xs vm) := by
 rcases hq with ⟨h2, h3⟩ | ⟨h2, h3⟩
 ·exact Bp hw W a b_ v1 v2 q_ xs h0 F G hv1 hv2 h2 h3
 ·exact AY hw W a b_ v1 v2 q_ xs h0 F G hv1 hv2 h2 h3
def XX (x1 s1 x2 s2 i : Nat) : Nat := (if i = s1 then x1 else 0) + (if i = s2 then x2 else 0)
def H9 (F : Nat → Nat) : Nat → Nat
 | 0 => 0
 | i + 1 => H9 F i + F i
theorem HR {F : Nat → Nat} {x1 s1 x2 s2 : Nat} (h : ∀ i, F i = XX x1 s1 x2 s2 i) (i : Nat) : H9 F i = (if s1 < i then x1 else 0) + (if s2 < i then x2 else 0) := by
 induction i with
 | zero => simp [H9]
 | succ n ih =>
  unfold H9
  rw [ih, h]
  unfold XX
  (repeat' split) <;> omega
def Ym (F G : Nat → Nat) : Nat → Nat
 | 0 => 0
 | i + 1 => Ym F G i + F i * (2 * H9 G i + G i)
theorem Yr {F G : Nat → Nat} {x1 s1 x2 s2 : Nat} (h1 : x1 ≤ 1) (h2 : x2 ≤ 1) (hF : ∀ i, F i = XX x1 s1 x2 s2 i) (hG : ∀ i, G i = XX (1 - x1) s1 (1 - x2) s2 i) (i : Nat) : Ym F G i = (if x1 = 1 ∧ x2 = 0 ∧ s1 < i then (if s2 < s1 then 2 else if s2 = s1 then 1 else 0) else 0) + (if x2 = 1 ∧ x1 = 0 ∧ s2 < i then (if s1 < s2 then 2 else if s1 = s2 then 1 else 0) else 0) := by
 obtain rfl | rfl : x1 = 0 ∨ x1 = 1 := by omega
 all_goals obtain rfl | rfl : x2 = 0 ∨ x2 = 1 := by omega
 all_goals
  induction i with
  | zero => simp [Ym]
  | succ n ih =>
   unfold Ym
   rw [ih, HR hG, hF, hG]
   unfold XX
   simp only [Nat.sub_self, Nat.sub_zero, Nat.zero_ne_one, Nat.one_ne_zero, false_and, and_false, true_and, if_false, ite_self, Nat.add_zero, Nat.zero_add, Nat.zero_mul, Nat.mul_zero]
   try ((repeat' split) <;> omega)
def Qy (x1 s1 x2 s2 i : Nat) : Nat := (if i ≤ s1 then x1 else 0) + (if i ≤ s2 then x2 else 0)
def Vr (x1 s1 s2 i : Nat) : Nat := if x1 = 1 ∧ i ≤ s1 then (if s1 ≤ s2 then 2 else 1) else (if s2 ≤ s1 then 2 else 1)
def Y_ (x1 s1 x2 s2 i nv dv e : Nat) : Prop := (Qy x1 s1 x2 s2 i = 0 ∧ nv = 0 ∧ dv = 1 ∧ e = 0) ∨ (Qy x1 s1 x2 s2 i = 1 ∧ nv = 1 ∧ dv = Vr x1 s1 s2 i ∧ e = 1) ∨ (Qy x1 s1 x2 s2 i = 2 ∧ nv = 2 ∧ dv = 1 ∧ 1 ≤ e ∧ e ≤ 2)
theorem Uc {x1 s1 x2 s2 i nv dv e : Nat} (h1 : x1 ≤ 1) (h2 : x2 ≤ 1) (h : Y_ x1 s1 x2 s2 (i + 1) nv dv e) :
  (XX x1 s1 x2 s2 i = 0 ∧ Y_ x1 s1 x2 s2 i nv dv e) ∨ (nv = 0 ∧ dv = 1 ∧ e = 0 ∧ ((XX x1 s1 x2 s2 i = 1 ∧ Qy x1 s1 x2 s2 i = 1 ∧ Qy 1 s1 1 s2 i = 1 ∧ Y_ x1 s1 x2 s2 i 1 1 1) ∨ (XX x1 s1 x2 s2 i = 1 ∧ Qy x1 s1 x2 s2 i = 1 ∧ Qy 1 s1 1 s2 i = 2 ∧ Y_ x1 s1 x2 s2 i 1 2 1) ∨ (XX x1 s1 x2 s2 i = 2 ∧ Qy x1 s1 x2 s2 i = 2 ∧ Qy 1 s1 1 s2 i = 2 ∧ Y_ x1 s1 x2 s2 i 2 1 1))) ∨ (nv = 1 ∧ dv = 1 ∧ e = 1 ∧ XX x1 s1 x2 s2 i = 1 ∧ Qy x1 s1 x2 s2 i = 2 ∧ Qy 1 s1 1 s2 i = 2 ∧ Y_ x1 s1 x2 s2 i 2 1 2) := by
 unfold Y_ XX Qy Vr at *
 have t1 : i < s1 ∨ i = s1 ∨ s1 < i := by omega
 have t2 : i < s2 ∨ i = s2 ∨ s2 < i := by omega
 have t3 : s1 < s2 ∨ s1 = s2 ∨ s2 < s1 := by omega
 obtain rfl | rfl : x1 = 0 ∨ x1 = 1 := by omega
 all_goals obtain rfl | rfl : x2 = 0 ∨ x2 = 1 := by omega
 all_goals rcases t1 with t1 | t1 | t1 <;> rcases t2 with t2 | t2 | t2 <;> rcases t3 with t3 | t3 | t3 <;> first | (exfalso; omega) | (simp (disch := omega) only [if_pos, if_neg, if_false, if_true, Nat.zero_ne_one, Nat.one_ne_zero, false_and, and_false, false_or, or_false, true_and, and_true, ite_self, Nat.add_zero, Nat.zero_add, eq_self, reduceCtorEq, Nat.reduceAdd, Nat.reduceEqDiff, not_true_eq_false, Nat.succ_ne_self, Nat.reduceLeDiff] at h ⊢ <;> omega)
theorem Tv {F G : Nat → Nat} {x1 s1 x2 s2 : Nat} (h1 : x1 ≤ 1) (h2 : x2 ≤ 1) (hF : ∀ i, F i = XX x1 s1 x2 s2 i) (hG : ∀ i, G i = XX (1 - x1) s1 (1 - x2) s2 i) (i : Nat) : F i ≤ 2 ∧ 2 * H9 G i + G i ≤ 4 ∧ (F i * (2 * H9 G i + G i) = 0 ∨ (F i = 1 ∧ (2 * H9 G i + G i = 1 ∨ 2 * H9 G i + G i = 2) ∧ Ym F G i = 0)) := by
 rw [Yr h1 h2 hF hG, HR hG, hF, hG]
 unfold XX
 have t1 : i < s1 ∨ i = s1 ∨ s1 < i := by omega
 have t2 : i < s2 ∨ i = s2 ∨ s2 < i := by omega
 obtain rfl | rfl : x1 = 0 ∨ x1 = 1 := by omega
 all_goals obtain rfl | rfl : x2 = 0 ∨ x2 = 1 := by omega
 all_goals rcases t1 with t1 | t1 | t1 <;> rcases t2 with t2 | t2 | t2 <;> (simp (disch := omega) only [if_pos, if_neg]; simp <;> omega)
theorem Jn {F G : Nat → Nat} {x1 s1 x2 s2 : Nat} (h1 : x1 ≤ 1) (h2 : x2 ≤ 1) (hF : ∀ i, F i = XX x1 s1 x2 s2 i) (hG : ∀ i, G i = XX (1 - x1) s1 (1 - x2) s2 i) (i : Nat) : Ym F G i ≤ 2 := by
 rw [Yr h1 h2 hF hG]
 (repeat' split) <;> omega
theorem WN {x1 s1 x2 s2 i : Nat} (h1 : x1 ≤ 1) (h2 : x2 ≤ 1) : XX x1 s1 x2 s2 i ≤ 2 := by
 unfold XX
 (repeat' split) <;> omega
theorem JK {x1 s1 x2 s2 i : Nat} (h1 : x1 ≤ 1) (h2 : x2 ≤ 1) : Qy x1 s1 x2 s2 i ≤ 2 := by
 unfold Qy
 (repeat' split) <;> omega
theorem TS {x1 s1 x2 s2 i : Nat} : Qy x1 s1 x2 s2 (i + 1) + XX x1 s1 x2 s2 i = Qy x1 s1 x2 s2 i := by
 unfold Qy XX
 (repeat' split) <;> omega
theorem Rg {x1 s1 x2 s2 i : Nat} (h1 : x1 ≤ 1) (h2 : x2 ≤ 1) : Qy 1 s1 1 s2 (i + 1) + (XX x1 s1 x2 s2 i + XX (1 - x1) s1 (1 - x2) s2 i) = Qy 1 s1 1 s2 i := by
 unfold Qy XX
 (repeat' split) <;> omega
theorem TI {x1 s1 x2 s2 : Nat} : Qy x1 s1 x2 s2 0 = x1 + x2 := by simp [Qy]
theorem Hq {x1 s1 x2 s2 : Nat} (h1 : s1 < 101) (h2 : s2 < 101) : Qy x1 s1 x2 s2 101 = 0 := by
 unfold Qy
 rw [if_neg (by omega), if_neg (by omega)]
def YQ (a b : Nat) : Int64 := if b = 0 ∨ a = 0 then 0 else if a = b then 10000 else if 2 * a = b then 5000 else 6667
def GJ (a b : Nat) : Nat := if b = 0 ∨ a = 0 then 0 else if a = b then 3 else if 2 * a = b then 1 else if 3 * a = 2 * b then 2 else 4
def B_ (c : Nat) : List Int32 := if c = 0 then oU "0.0000" else if c = 1 then oU "0.5000" else if c = 2 then oU "0.6667" else oU "1.0000"
def JF (a b : Nat) : Prop := a ≤ 4 ∧ b ≤ 4 ∧ (b = 0 ∨ a = 0 ∨ (a = b ∧ a ≠ 3) ∨ 2 * a = b ∨ (a = 2 ∧ b = 3))
theorem QI {a b : Nat} (h : JF a b) : (b = 0 ∧ YQ a b = 0 ∨ b ≠ 0 ∧ JD (Int64.ofNat a) (Int64.ofNat b) (YQ a b)) ∧ Xn (YQ a b) = B_ (GJ a b) ∧ GJ a b ≤ 3 ∧ (Xn (YQ a b)).length = 6 := by
 obtain ⟨h1, h2, h3⟩ := h
 have ha : a = 0 ∨ a = 1 ∨ a = 2 ∨ a = 3 ∨ a = 4 := by omega
 have hb : b = 0 ∨ b = 1 ∨ b = 2 ∨ b = 3 ∨ b = 4 := by omega
 rcases ha with rfl | rfl | rfl | rfl | rfl <;> rcases hb with rfl | rfl | rfl | rfl | rfl <;> first | (exfalso; omega) | (unfold JD; decide)
theorem Xt (n : Nat) : Int64.ofNat n + 1 = Int64.ofNat (n + 1) := (Int64.ofNat_add n 1).symm
theorem Ju (n : Nat) : Int64.ofNat n + 0 = Int64.ofNat n := Int64.add_zero _
theorem Rw (hw : Kh Z a0) {sc fa ga : Addr} {lab : Int32} {ev fl tp fp : Nat} {Ff Gf : Nat → Nat} {h h' : Heap} {x : Nat} (S : XR Z h sc fa ga lab ev fl tp fp Ff Gf) (W : Wr h h' sc (RoadKit.slotOf Z "com/example/wardstream/wardstream/engine/Scorecard" "evaluated" "J") (.long (Int64.ofNat x))) : XR Z h' sc fa ga lab x fl tp fp Ff Gf := ⟨S.X.wr W, (fo W S.L (Or.inr (hw.g 16)) (Or.inl (hw.g 48))), (fo W S.H (Or.inl (hw.g 173)) (Or.inl (hw.g 48))), Fld.same W S.E, (fo W S.G (Or.inl (hw.g 57)) (Or.inl (hw.g 48))), (fo W S.T (Or.inl (hw.g 327)) (Or.inl (hw.g 48))), (fo W S.Q (Or.inl (hw.g 64)) (Or.inl (hw.g 48))), (fo W S.A (Or.inr (hw.g 12)) (Or.inl (hw.g 48))), (fo W S.B (Or.inr (hw.g 14)) (Or.inl (hw.g 48))), S.VF.other W (fun z => (KR S.X (hw.g 2) S.VF) z.symm), S.VG.other W (fun z => (KR S.X (hw.g 2) S.VG) z.symm), S.N⟩
theorem TN (hw : Kh Z a0) {sc fa ga : Addr} {lab : Int32} {ev fl tp fp : Nat} {Ff Gf : Nat → Nat} {h h' : Heap} {x : Nat} (S : XR Z h sc fa ga lab ev fl tp fp Ff Gf) (W : Wr h h' sc (RoadKit.slotOf Z "com/example/wardstream/wardstream/engine/Scorecard" "flagged" "J") (.long (Int64.ofNat x))) : XR Z h' sc fa ga lab ev x tp fp Ff Gf := ⟨S.X.wr W, (fo W S.L (Or.inr (hw.g 16)) (Or.inl (hw.g 57))), (fo W S.H (Or.inl (hw.g 173)) (Or.inl (hw.g 57))), (fo W S.E (Or.inl (hw.g 48)) (Or.inl (hw.g 57))), Fld.same W S.G, (fo W S.T (Or.inl (hw.g 327)) (Or.inl (hw.g 57))), (fo W S.Q (Or.inl (hw.g 64)) (Or.inl (hw.g 57))), (fo W S.A (Or.inr (hw.g 12)) (Or.inl (hw.g 57))), (fo W S.B (Or.inr (hw.g 14)) (Or.inl (hw.g 57))), S.VF.other W (fun z => (KR S.X (hw.g 2) S.VF) z.symm), S.VG.other W (fun z => (KR S.X (hw.g 2) S.VG) z.symm), S.N⟩
theorem Hk (hw : Kh Z a0) {sc fa ga : Addr} {lab : Int32} {ev fl tp fp : Nat} {Ff Gf : Nat → Nat} {h h' : Heap} {x : Nat} (S : XR Z h sc fa ga lab ev fl tp fp Ff Gf) (W : Wr h h' sc (RoadKit.slotOf Z "com/example/wardstream/wardstream/engine/Scorecard" "truePositives" "J") (.long (Int64.ofNat x))) : XR Z h' sc fa ga lab ev fl x fp Ff Gf := ⟨S.X.wr W, (fo W S.L (Or.inr (hw.g 16)) (Or.inl (hw.g 327))), (fo W S.H (Or.inl (hw.g 173)) (Or.inl (hw.g 327))), (fo W S.E (Or.inl (hw.g 48)) (Or.inl (hw.g 327))), (fo W S.G (Or.inl (hw.g 57)) (Or.inl (hw.g 327))), Fld.same W S.T, (fo W S.Q (Or.inl (hw.g 64)) (Or.inl (hw.g 327))), (fo W S.A (Or.inr (hw.g 12)) (Or.inl (hw.g 327))), (fo W S.B (Or.inr (hw.g 14)) (Or.inl (hw.g 327))), S.VF.other W (fun z => (KR S.X (hw.g 2) S.VF) z.symm), S.VG.other W (fun z => (KR S.X (hw.g 2) S.VG) z.symm), S.N⟩
theorem Hp (hw : Kh Z a0) {sc fa ga : Addr} {lab : Int32} {ev fl tp fp : Nat} {Ff Gf : Nat → Nat} {h h' : Heap} {x : Nat} (S : XR Z h sc fa ga lab ev fl tp fp Ff Gf) (W : Wr h h' sc (RoadKit.slotOf Z "com/example/wardstream/wardstream/engine/Scorecard" "falsePositives" "J") (.long (Int64.ofNat x))) : XR Z h' sc fa ga lab ev fl tp x Ff Gf := ⟨S.X.wr W, (fo W S.L (Or.inr (hw.g 16)) (Or.inl (hw.g 64))), (fo W S.H (Or.inl (hw.g 173)) (Or.inl (hw.g 64))), (fo W S.E (Or.inl (hw.g 48)) (Or.inl (hw.g 64))), (fo W S.G (Or.inl (hw.g 57)) (Or.inl (hw.g 64))), (fo W S.T (Or.inl (hw.g 327)) (Or.inl (hw.g 64))), Fld.same W S.Q, (fo W S.A (Or.inr (hw.g 12)) (Or.inl (hw.g 64))), (fo W S.B (Or.inr (hw.g 14)) (Or.inl (hw.g 64))), S.VF.other W (fun z => (KR S.X (hw.g 2) S.VF) z.symm), S.VG.other W (fun z => (KR S.X (hw.g 2) S.VG) z.symm), S.N⟩
theorem Hw (hw : Kh Z a0) {sc fa ga : Addr} {lab : Int32} {ev fl tp fp : Nat} {Ff Gf : Nat → Nat} {h h' : Heap} {i : Nat} {v : Value} {H : Nat → Nat} (S : XR Z h sc fa ga lab ev fl tp fp Ff Gf) (W : Wr h h' fa i v) (A : Kv Z h' fa .long (XU H)) : XR Z h' sc fa ga lab ev fl tp fp H Gf := by
 have n : sc ≠ fa := KR S.X (hw.g 2) S.VF
 exact ⟨S.X.wr W, Fld.other W S.L (Or.inl n), Fld.other W S.H (Or.inl n), Fld.other W S.E (Or.inl n), Fld.other W S.G (Or.inl n), Fld.other W S.T (Or.inl n), Fld.other W S.Q (Or.inl n), Fld.other W S.A (Or.inl n), Fld.other W S.B (Or.inl n), A, S.VG.other W (Ne.symm S.N), S.N⟩
theorem Hc (hw : Kh Z a0) {sc fa ga : Addr} {lab : Int32} {ev fl tp fp : Nat} {Ff Gf : Nat → Nat} {h h' : Heap} {i : Nat} {v : Value} {H : Nat → Nat} (S : XR Z h sc fa ga lab ev fl tp fp Ff Gf) (W : Wr h h' ga i v) (A : Kv Z h' ga .long (XU H)) : XR Z h' sc fa ga lab ev fl tp fp Ff H := by
 have n : sc ≠ ga := KR S.X (hw.g 2) S.VG
 exact ⟨S.X.wr W, Fld.other W S.L (Or.inl n), Fld.other W S.H (Or.inl n), Fld.other W S.E (Or.inl n), Fld.other W S.G (Or.inl n), Fld.other W S.T (Or.inl n), Fld.other W S.Q (Or.inl n), Fld.other W S.A (Or.inl n), Fld.other W S.B (Or.inl n), S.VF.other W S.N, A, S.N⟩
def y1 : MethodName := ⟨"com/example/wardstream/wardstream/engine/Scorecard", "<init>", "(Z)V"⟩
theorem A5 : plainFor y1 = true := by decide +kernel
theorem EA (hw : Kh Z a0) (a : Addr) (lab : Int32) (h0 : Heap) (hl : lab = 0 ∨ lab = 1) (hya : Z.heap.size ≤ a) (X : Exa Z h0 a "com/example/wardstream/wardstream/engine/Scorecard") (FL : Fld Z h0 a "com/example/wardstream/wardstream/engine/Scorecard" "labelled" "Z" (.int 0)) (FH : Fld Z h0 a "com/example/wardstream/wardstream/engine/Scorecard" "history" "J" (.long 0)) (FE : Fld Z h0 a "com/example/wardstream/wardstream/engine/Scorecard" "evaluated" "J" (.long 0)) (FG : Fld Z h0 a "com/example/wardstream/wardstream/engine/Scorecard" "flagged" "J" (.long 0)) (FT : Fld Z h0 a "com/example/wardstream/wardstream/engine/Scorecard" "truePositives" "J" (.long 0)) (FQ : Fld Z h0 a "com/example/wardstream/wardstream/engine/Scorecard" "falsePositives" "J" (.long 0)) (FA : Fld Z h0 a "com/example/wardstream/wardstream/engine/Scorecard" "fraudsAt" "[J" .null) (FB : Fld Z h0 a "com/example/wardstream/wardstream/engine/Scorecard" "genuineAt" "[J" .null) :
  KH l Z y1 prog_19_method_1_code 2 none ⟨1, 2, 202, 34⟩ #[.ref a, .int lab] h0 (fun x => x = a ∨ h0.size ≤ x) (fun v h => v = none ∧ ∃ fa ga, h0.size ≤ fa ∧ h0.size ≤ ga ∧ XR Z h a fa ga lab 0 0 0 0 (fun _ => 0) (fun _ => 0)) := by
 refine Xr hya A5 VV fun p e s m below meth c C hs => ?_
 refine K0 0 C (d1.g 0) ?_
 refine X5 1 C (hw.g 7) (hw.g 8) (hw.g 9) (d1.g 1) rfl (by decide) (Nat.le_of_ble_eq_true rfl) ?_
 refine K0 4 C (d1.g 2) ?_
 refine KN 5 C 101 (d1.g 3) ?_
 refine Q7 C (aty := .long) (pc := 7) (ad := "[J") 101 101 (hw.g 10) (d1.g 4) rfl (by decide) (by decide) (by decide) (by decide) (by decide) ?_
 intro h1 fa hfa hPf E1 D1
 replace X := X.ext E1
 replace FL := FL.ext E1
 replace FH := FH.ext E1
 replace FE := FE.ext E1
 replace FG := FG.ext E1
 replace FT := FT.ext E1
 replace FQ := FQ.ext E1
 replace FA := FA.ext E1
 replace FB := FB.ext E1
 refine Ke 9 C (hw.g 11) Via.refl FA X (Or.inr ⟨(hw.g 12), rfl, rfl⟩) (hw.g 2) (ty := (.array .long)) (by decide) rfl rfl (Or.inl rfl) (d1.g 5) ?_
 intro h2 W2
 replace FL := (fo W2 FL (Or.inr (hw.g 16)) (Or.inr (hw.g 12)))
 replace FH := (fo W2 FH (Or.inl (hw.g 173)) (Or.inr (hw.g 12)))
 replace FE := (fo W2 FE (Or.inl (hw.g 48)) (Or.inr (hw.g 12)))
 replace FG := (fo W2 FG (Or.inl (hw.g 57)) (Or.inr (hw.g 12)))
 replace FT := (fo W2 FT (Or.inl (hw.g 327)) (Or.inr (hw.g 12)))
 replace FQ := (fo W2 FQ (Or.inl (hw.g 64)) (Or.inr (hw.g 12)))
 replace FA := Fld.same W2 FA
 replace FB := (fo W2 FB (Or.inr (hw.g 14)) (Or.inr (hw.g 12)))
 replace D1 := D1.other W2 (fun z => (KR X (hw.g 2) D1.1) z.symm)
 replace X := X.wr W2
 have lfa := D1.1.lt
 refine K0 12 C (d1.g 6) ?_
 refine KN 13 C 101 (d1.g 7) ?_
 refine Q7 C (aty := .long) (pc := 15) (ad := "[J") 101 101 (hw.g 10) (d1.g 8) rfl (by decide) (by decide) (by decide) (by decide) (by decide) ?_
 intro h3 ga hga hPg E3 D3
 replace X := X.ext E3
 replace FL := FL.ext E3
 replace FH := FH.ext E3
 replace FE := FE.ext E3
 replace FG := FG.ext E3
 replace FT := FT.ext E3
 replace FQ := FQ.ext E3
 replace FA := FA.ext E3
 replace FB := FB.ext E3
 replace D1 := D1.ext E3
 refine Ke 17 C (hw.g 13) Via.refl FB X (Or.inr ⟨(hw.g 14), rfl, rfl⟩) (hw.g 2) (ty := (.array .long)) (by decide) rfl rfl (Or.inl rfl) (d1.g 9) ?_
 intro h4 W4
 replace FL := (fo W4 FL (Or.inr (hw.g 16)) (Or.inr (hw.g 14)))
 replace FH := (fo W4 FH (Or.inl (hw.g 173)) (Or.inr (hw.g 14)))
 replace FE := (fo W4 FE (Or.inl (hw.g 48)) (Or.inr (hw.g 14)))
 replace FG := (fo W4 FG (Or.inl (hw.g 57)) (Or.inr (hw.g 14)))
 replace FT := (fo W4 FT (Or.inl (hw.g 327)) (Or.inr (hw.g 14)))
 replace FQ := (fo W4 FQ (Or.inl (hw.g 64)) (Or.inr (hw.g 14)))
 replace FA := (fo W4 FA (Or.inr (hw.g 12)) (Or.inr (hw.g 14)))
 replace FB := Fld.same W4 FB
 replace D1 := D1.other W4 (fun z => (KR X (hw.g 2) D1.1) z.symm)
 replace D3 := D3.other W4 (fun z => (KR X (hw.g 2) D3.1) z.symm)
 replace X := X.wr W4
 refine K0 20 C (d1.g 10) ?_
 refine K8 21 C (d1.g 11) ?_
 refine YE 22 C (hw.g 15) Via.refl FL X (Or.inr ⟨(hw.g 16), rfl, rfl⟩) (hw.g 2) (ty := .boolean) (by decide) rfl (fits_nar_bool _) (Or.inl rfl) (d1.g 12) ?_
 intro h5 W5
 replace FL := Fld.same W5 FL
 replace FH := (fo W5 FH (Or.inl (hw.g 173)) (Or.inr (hw.g 16)))
 replace FE := (fo W5 FE (Or.inl (hw.g 48)) (Or.inr (hw.g 16)))
 replace FG := (fo W5 FG (Or.inl (hw.g 57)) (Or.inr (hw.g 16)))
 replace FT := (fo W5 FT (Or.inl (hw.g 327)) (Or.inr (hw.g 16)))
 replace FQ := (fo W5 FQ (Or.inl (hw.g 64)) (Or.inr (hw.g 16)))
 replace FA := (fo W5 FA (Or.inr (hw.g 12)) (Or.inr (hw.g 16)))
 replace FB := (fo W5 FB (Or.inr (hw.g 14)) (Or.inr (hw.g 16)))
 replace D1 := D1.other W5 (fun z => (KR X (hw.g 2) D1.1) z.symm)
 replace D3 := D3.other W5 (fun z => (KR X (hw.g 2) D3.1) z.symm)
 replace X := X.wr W5
 have e5 : narrow .boolean (Value.int lab) = .int lab := by rcases hl with rfl | rfl <;> rfl
 rw [e5] at FL
 have hfg := (Qd lfa (Nat.le_of_eq hga.symm)).symm
 refine Ka 25 C (d1.g 13) (fun _ _ => ⟨rfl, fa, ga, Nat.le_of_eq hfa.symm, Nat.le_trans E1.1 (Nat.le_of_eq (W2.size.symm.trans hga.symm)), X, FL, FH, FE, FG, FT, FQ, FA, FB, D1.1.eq rfl, D3.1.eq rfl, fun z => hfg z⟩)
def y3 : MethodName := ⟨"com/example/wardstream/wardstream/engine/ScorecardCountEvaluatedPinLaw", "decision", "(I)Lcom/example/wardstream/wardstream/engine/Decision;"⟩
theorem Au : plainFor y3 = true := by decide +kernel
theorem AZ (hw : Kh Z a0) (ap aa bl : Addr) (k_ : Nat) (h0 : Heap) (hk : k_ < 3) (Sap : Sta Z Z.heap "com/example/wardstream/wardstream/engine/Decision" "APPROVE" "Lcom/example/wardstream/wardstream/engine/Decision;" (.ref ap)) (Saa : Sta Z Z.heap "com/example/wardstream/wardstream/engine/Decision" "ADDITIONAL_AUTH_REQUIRED" "Lcom/example/wardstream/wardstream/engine/Decision;" (.ref aa)) (Sbl : Sta Z Z.heap "com/example/wardstream/wardstream/engine/Decision" "BLOCKED" "Lcom/example/wardstream/wardstream/engine/Decision;" (.ref bl)) (n1 : aa ≠ ap) (n2 : bl ≠ ap) :
  KH l Z y3 method_3_code 1 (some (.object "com/example/wardstream/wardstream/engine/Decision")) ⟨0, 0, 0, 0⟩ #[.int (Int32.ofNat k_)] h0 (fun a => h0.size ≤ a) (fun v h => ∃ d, v = some (.ref d) ∧ (d = ap ↔ k_ = 0) ∧ h0 = h) := by
 refine Q9 Au GN fun p e s m below meth c C hs => ?_
 refine K8 0 C (d3.g 0) ?_
 refine Qx 1 C 8 (d3.g 1) (fun hc1 => ?_) (fun hc1 => ?_)
 ·simp only [oC, Classical.not_not] at hc1
  refine K8 8 C (d3.g 2) ?_
  refine KD 9 C 1 (d3.g 3) ?_
  refine QK 10 C 17 (d3.g 4) (fun hc10 => ?_) (fun hc10 => ?_)
  ·simp only [oC, Classical.not_not] at hc10
   refine Ko 17 C (hw.g 24) Via.refl Sbl (d3.g 5) ?_
   refine KL 20 C (d3.g 6) (fun _ _ => ⟨bl, rfl, ⟨fun z => absurd z n2, fun z => by subst z; exact absurd rfl hc1⟩, rfl⟩)
  ·simp only [oC, Classical.not_not] at hc10
   refine Ko 13 C (hw.g 65) Via.refl Saa (d3.g 7) ?_
   refine KL 16 C (d3.g 8) (fun _ _ => ⟨aa, rfl, ⟨fun z => absurd z n1, fun z => by subst z; exact absurd rfl hc1⟩, rfl⟩)
 ·simp only [oC, Classical.not_not] at hc1
  refine Ko 4 C (hw.g 328) Via.refl Sap (d3.g 9) ?_
  refine KL 7 C (d3.g 10) (fun _ _ => ⟨ap, rfl, ⟨fun _ => by simp only [Int32.lt_iff_toInt_lt, ← Int32.toInt_inj, Int32.toInt_add, Int32.toInt_sub, Qm, Int32.reduceToInt, Int.bmod_def] at hc1; omega, fun _ => rfl⟩, rfl⟩)
def y5 : MethodName := ⟨"java/lang/Record", "<init>", "()V"⟩
theorem AP : plainFor y5 = true := by decide +kernel
theorem Di (hw : Kh Z a0) (a : Addr) (h0 : Heap) :
  KH l Z y5 jdk_30_method_1_code 1 none ⟨1, 0, 0, 34⟩ #[.ref a] h0 (fun a => h0.size ≤ a) (fun v h => v = none ∧ h0 = h) := by
 refine Q9 AP YL fun p e s m below meth c C hs => ?_
 refine K0 0 C (d5.g 0) ?_
 refine X5 1 C (hw.g 35) (hw.g 8) (hw.g 9) (d5.g 1) rfl (by decide) (Nat.le_of_ble_eq_true rfl) ?_
 refine Ka 4 C (d5.g 2) (fun _ _ => ⟨rfl, rfl⟩)
def y4 : MethodName := ⟨"com/example/wardstream/wardstream/engine/Assessment", "<init>", "(ILcom/example/wardstream/wardstream/engine/Decision;Ljava/util/List;)V"⟩
theorem Wn : plainFor y4 = true := by decide +kernel
theorem Ea {x0 : Addr} {x1 : Int32} {x2 : Addr} (m : MethodId) : entryFrame m #[.ref x0, .int x1, .ref x2, .null] 4 = oF m 0 [.val (.ref x0), .val (.int x1), .val (.ref x2), .val .null] [] := by (first | (simp [entryFrame, oF, mkF, argsToLocals, Value.category]; done) | rfl)
theorem BT (hw : Kh Z a0) (a d_ : Addr) (s_ : Int32) (h0 : Heap) (hya : Z.heap.size ≤ a) (X : Exa Z h0 a "com/example/wardstream/wardstream/engine/Assessment") (FR : Fld Z h0 a "com/example/wardstream/wardstream/engine/Assessment" "riskScore" "I" (.int 0)) (FD : Fld Z h0 a "com/example/wardstream/wardstream/engine/Assessment" "decision" "Lcom/example/wardstream/wardstream/engine/Decision;" .null) (FF : Fld Z h0 a "com/example/wardstream/wardstream/engine/Assessment" "factors" "Ljava/util/List;" .null) :
  KH l Z y4 prog_2_method_1_code 4 none ⟨2, 0, 0, 54⟩ #[.ref a, .int s_, .ref d_, .null] h0 (fun x => x = a ∨ h0.size ≤ x) (fun v h => v = none ∧ Exa Z h a "com/example/wardstream/wardstream/engine/Assessment" ∧ Fld Z h a "com/example/wardstream/wardstream/engine/Assessment" "riskScore" "I" (.int s_) ∧ Fld Z h a "com/example/wardstream/wardstream/engine/Assessment" "decision" "Lcom/example/wardstream/wardstream/engine/Decision;" (.ref d_)) := by
 refine Xr hya Wn Ea fun p e s m below meth c C hs => ?_
 refine K0 0 C (d4.g 0) ?_
 refine KV 1 C (Di hw a _) (hw.g 30) (hw.g 31) (hw.g 33) (hw.g 34) QL (d4.g 1) (argsL := []) rfl rfl rfl rfl ?_
 rintro _ _ ⟨rfl, rfl⟩ -
 refine K0 4 C (d4.g 2) ?_
 refine K8 5 C (d4.g 3) ?_
 refine Ke 6 C (hw.g 36) Via.refl FR X (Or.inr ⟨(hw.g 37), rfl, rfl⟩) (hw.g 18) (ty := .int) (by decide) rfl rfl (Or.inl rfl) (d4.g 4) ?_
 intro h1 W1
 replace FR := Fld.same W1 FR
 replace FD := (fo W1 FD (Or.inr (hw.g 39)) (Or.inr (hw.g 37)))
 replace FF := (fo W1 FF (Or.inr (hw.g 41)) (Or.inr (hw.g 37)))
 replace X := X.wr W1
 refine K0 9 C (d4.g 5) ?_
 refine K0 10 C (d4.g 6) ?_
 refine Ke 11 C (hw.g 38) Via.refl FD X (Or.inr ⟨(hw.g 39), rfl, rfl⟩) (hw.g 18) (ty := (.object "com/example/wardstream/wardstream/engine/Decision")) (by decide) rfl rfl (Or.inl rfl) (d4.g 7) ?_
 intro h2 W2
 replace FR := (fo W2 FR (Or.inr (hw.g 37)) (Or.inr (hw.g 39)))
 replace FD := Fld.same W2 FD
 replace FF := (fo W2 FF (Or.inr (hw.g 41)) (Or.inr (hw.g 39)))
 replace X := X.wr W2
 refine K0 14 C (d4.g 8) ?_
 refine K0 15 C (d4.g 9) ?_
 refine Ke 16 C (hw.g 40) Via.refl FF X (Or.inr ⟨(hw.g 41), rfl, rfl⟩) (hw.g 18) (ty := (.object "java/util/List")) (by decide) rfl rfl (Or.inl rfl) (d4.g 10) ?_
 intro h3 W3
 replace FR := (fo W3 FR (Or.inr (hw.g 37)) (Or.inr (hw.g 41)))
 replace FD := (fo W3 FD (Or.inr (hw.g 39)) (Or.inr (hw.g 41)))
 replace FF := Fld.same W3 FF
 replace X := X.wr W3
 refine Ka 19 C (d4.g 11) (fun _ _ => ⟨rfl, X, FR, FD⟩)
def y7 : MethodName := ⟨"com/example/wardstream/wardstream/engine/Assessment", "decision", "()Lcom/example/wardstream/wardstream/engine/Decision;"⟩
theorem BJ : plainFor y7 = true := by decide +kernel
theorem CU (hw : Kh Z a0) (a d_ : Addr) (h0 : Heap) (F : Fld Z h0 a "com/example/wardstream/wardstream/engine/Assessment" "decision" "Lcom/example/wardstream/wardstream/engine/Decision;" (.ref d_)) :
  KH l Z y7 prog_2_method_6_code 1 (some (.object "com/example/wardstream/wardstream/engine/Decision")) ⟨0, 0, 0, 0⟩ #[.ref a] h0 (fun a => h0.size ≤ a) (fun v h => v = some (.ref d_) ∧ h0 = h) := by
 refine Q9 BJ YL fun p e s m below meth c C hs => ?_
 refine K0 0 C (d7.g 0) ?_
 refine KF 1 C (hw.g 38) Via.refl F (d7.g 1) ?_
 refine KL 4 C (d7.g 2) (fun _ _ => ⟨rfl, rfl⟩)
def y8 : MethodName := ⟨"com/example/wardstream/wardstream/engine/Assessment", "riskScore", "()I"⟩
theorem Wk : plainFor y8 = true := by decide +kernel
theorem RS (hw : Kh Z a0) (a : Addr) (s_ : Int32) (h0 : Heap) (F : Fld Z h0 a "com/example/wardstream/wardstream/engine/Assessment" "riskScore" "I" (.int s_)) :
  KH l Z y8 prog_2_method_5_code 1 (some .int) ⟨0, 0, 0, 0⟩ #[.ref a] h0 (fun a => h0.size ≤ a) (fun v h => v = some (.int s_) ∧ h0 = h) := by
 refine Q9 Wk YL fun p e s m below meth c C hs => ?_
 refine K0 0 C (d8.g 0) ?_
 refine KF 1 C (hw.g 36) Via.refl F (d8.g 1) ?_
 refine KP 4 C (d8.g 2) rfl (fun _ _ => ⟨rfl, rfl⟩)
def y6 : MethodName := ⟨"com/example/wardstream/wardstream/engine/Scorecard", "countEvaluated", "(Lcom/example/wardstream/wardstream/engine/Assessment;Z)V"⟩
theorem Wv : plainFor y6 = true := by decide +kernel
theorem DY {x0 : Addr} {x1 : Addr} {x2 : Int32} (m : MethodId) : entryFrame m #[.ref x0, .ref x1, .int x2] 4 = oF m 0 [.val (.ref x0), .val (.ref x1), .val (.int x2), .unset] [] := by (first | (simp [entryFrame, oF, mkF, argsToLocals, Value.category]; done) | rfl)
theorem As (hw : Kh Z a0) (sc fa ga a d_ ap : Addr) (lab x_ : Int32) (ev fl tp fp s_ xb fb : Nat) (Ff Gf : Nat → Nat) (h0 : Heap) (S : XR Z h0 sc fa ga lab ev fl tp fp Ff Gf) (XA : Exa Z h0 a "com/example/wardstream/wardstream/engine/Assessment") (FR : Fld Z h0 a "com/example/wardstream/wardstream/engine/Assessment" "riskScore" "I" (.int (Int32.ofNat s_))) (FD : Fld Z h0 a "com/example/wardstream/wardstream/engine/Assessment" "decision" "Lcom/example/wardstream/wardstream/engine/Decision;" (.ref d_)) (Sap : Sta Z Z.heap "com/example/wardstream/wardstream/engine/Decision" "APPROVE" "Lcom/example/wardstream/wardstream/engine/Decision;" (.ref ap)) (hs1 : s_ < 101) (hx : x_ = 0 ∧ xb = 0 ∨ x_ = 1 ∧ xb = 1) (hf : d_ = ap ∧ fb = 0 ∨ d_ ≠ ap ∧ fb = 1) (y1 : Z.heap.size ≤ sc) (y2 : Z.heap.size ≤ fa) (y3 : Z.heap.size ≤ ga) :
  KH l Z y6 prog_19_method_3_code 4 none ⟨1, 0, 0, 20⟩ #[.ref sc, .ref a, .int x_] h0 (fun x => x = sc ∨ x = fa ∨ x = ga ∨ h0.size ≤ x) (fun v h => v = none ∧ XR Z h sc fa ga lab (ev + 1) (fl + fb) (tp + xb * fb) (fp + (1 - xb) * fb) (fun i => Ff i + if i = s_ then xb else 0) (fun i => Gf i + if i = s_ then 1 - xb else 0)) := by
 refine KH.of Wv (fun _ q => Or.inr (Or.inr (Or.inr q))) (fun E x q => q.elim (fun r => r ▸ y1) (fun q => q.elim (fun r => r ▸ y2) (fun q => q.elim (fun r => r ▸ y3) (fun r => Nat.le_trans E.1 r)))) DY ?_
 intro p e s m below meth c C hs
 have nas : a ≠ sc := Exa.ne XA S.X (by decide)
 refine K0 0 C (d6.g 0) ?_
 refine Ku 1 C (d6.g 1) rfl ?_
 refine KF 2 C (hw.g 47) Via.refl S.E (d6.g 2) ?_
 refine KX 5 C 1 (d6.g 3) ?_
 refine QT 6 C (d6.g 4) ?_
 rw [Xt]
 refine Ke 7 C (hw.g 47) Via.refl S.E S.X (Or.inl (hw.g 48)) (hw.g 2) (ty := .long) (by decide) rfl rfl (Or.inl rfl) (d6.g 5) ?_
 intro h1 W1
 replace S := Rw hw S W1
 replace XA := XA.wr W1
 replace FR := Fld.other W1 FR (Or.inl nas)
 replace FD := Fld.other W1 FD (Or.inl nas)
 refine K0 10 C (d6.g 6) ?_
 refine KI 11 C (CU hw a d_ _ FD) (XA) (hw.g 49) (hw.g 50) (QF (hw.g 52)) (hw.g 52) (hw.g 51) (hw.g 19) (hw.g 53) V5 (d6.g 7) (argsL := []) rfl rfl rfl rfl ?_
 rintro _ _ ⟨rfl, rfl⟩ -
 refine Ko 14 C (hw.g 54) Via.refl Sap (d6.g 8) ?_
 refine YA 17 C 24 (d6.g 9) rfl rfl (fun hc17 => ?_) (fun hc17 => ?_)
 ·simp only [oA, Classical.not_not, Value.ref.injEq] at hc17
  refine KD 24 C 0 (d6.g 10) ?_
  refine KO 25 C (Ls' := [_, _, _, _]) (d6.g 11) rfl ?_
  refine K8 26 C (d6.g 12) ?_
  refine KQ 27 C 40 (d6.g 13) ?_
  refine K8 40 C (d6.g 14) ?_
  refine Qx 41 C 78 (d6.g 15) (fun hc41 => ?_) (fun hc41 => ?_)
  ·simp only [oC, Classical.not_not] at hc41
   refine K0 78 C (d6.g 16) ?_
   refine KF 79 C (hw.g 13) Via.refl S.B (d6.g 17) ?_
   refine K0 82 C (d6.g 18) ?_
   refine KI 83 C (RS hw a _ _ FR) (XA) (hw.g 58) (hw.g 59) (QF (hw.g 61)) (hw.g 61) (hw.g 60) (hw.g 19) (hw.g 62) Qf (d6.g 19) (argsL := []) rfl rfl rfl rfl ?_
   rintro _ _ ⟨rfl, rfl⟩ -
   refine YN 86 C (d6.g 20) rfl rfl ?_
   refine Q8 87 C s_ S.VG (Xk _ (by omega)) (XU.get hs1) (d6.g 21) ?_
   refine KX 88 C 1 (d6.g 22) ?_
   refine QT 89 C (d6.g 23) ?_
   rw [Xt]
   refine Xj 90 C s_ S.VG (Xk _ (by omega)) (by rw [XU.len]; exact hs1) (Or.inr (Or.inr (Or.inl rfl))) (d6.g 24) ?_
   intro h3 W3 A_
   rw [XU.set] at A_
   replace S := Hc hw S W3 A_
   refine K0 91 C (d6.g 25) ?_
   refine Ku 92 C (d6.g 26) rfl ?_
   refine KF 93 C (hw.g 63) Via.refl S.Q (d6.g 27) ?_
   refine K8 96 C (d6.g 28) ?_
   refine KQ 97 C 104 (d6.g 29) ?_
   refine KX 104 C 0 (d6.g 30) ?_
   refine QT 105 C (d6.g 31) ?_
   rw [Ju]
   refine Ke 106 C (hw.g 63) Via.refl S.Q S.X (Or.inl (hw.g 64)) (hw.g 2) (ty := .long) (by decide) rfl rfl (Or.inl rfl) (d6.g 32) ?_
   intro h4 W4
   replace S := Hp hw S W4
   obtain ⟨rfl, rfl⟩ : xb = 0 ∧ fb = 0 := ⟨by rcases hx with ⟨z, e⟩ | ⟨z, e⟩ <;> first | exact e | (rw [z] at hc41; first | exact absurd hc41 (by decide) | exact absurd rfl hc41), by rcases hf with ⟨z, e⟩ | ⟨z, e⟩ <;> first | exact e | exact absurd hc17 z | exact absurd z hc17⟩
   refine Ka 109 C (d6.g 33) (fun _ _ => ⟨rfl, by simpa using S⟩)
  ·simp only [oC, Classical.not_not] at hc41
   refine K0 44 C (d6.g 34) ?_
   refine KF 45 C (hw.g 11) Via.refl S.A (d6.g 35) ?_
   refine K0 48 C (d6.g 36) ?_
   refine KI 49 C (RS hw a _ _ FR) (XA) (hw.g 58) (hw.g 59) (QF (hw.g 61)) (hw.g 61) (hw.g 60) (hw.g 19) (hw.g 62) Qf (d6.g 37) (argsL := []) rfl rfl rfl rfl ?_
   rintro _ _ ⟨rfl, rfl⟩ -
   refine YN 52 C (d6.g 38) rfl rfl ?_
   refine Q8 53 C s_ S.VF (Xk _ (by omega)) (XU.get hs1) (d6.g 39) ?_
   refine KX 54 C 1 (d6.g 40) ?_
   refine QT 55 C (d6.g 41) ?_
   rw [Xt]
   refine Xj 56 C s_ S.VF (Xk _ (by omega)) (by rw [XU.len]; exact hs1) (Or.inr (Or.inl rfl)) (d6.g 42) ?_
   intro h3 W3 A_
   rw [XU.set] at A_
   replace S := Hw hw S W3 A_
   refine K0 57 C (d6.g 43) ?_
   refine Ku 58 C (d6.g 44) rfl ?_
   refine KF 59 C (hw.g 326) Via.refl S.T (d6.g 45) ?_
   refine K8 62 C (d6.g 46) ?_
   refine KQ 63 C 70 (d6.g 47) ?_
   refine KX 70 C 0 (d6.g 48) ?_
   refine QT 71 C (d6.g 49) ?_
   rw [Ju]
   refine Ke 72 C (hw.g 326) Via.refl S.T S.X (Or.inl (hw.g 327)) (hw.g 2) (ty := .long) (by decide) rfl rfl (Or.inl rfl) (d6.g 50) ?_
   intro h4 W4
   replace S := Hk hw S W4
   refine KT 75 C 109 (d6.g 51) ?_
   obtain ⟨rfl, rfl⟩ : xb = 1 ∧ fb = 0 := ⟨by rcases hx with ⟨z, e⟩ | ⟨z, e⟩ <;> first | exact e | (rw [z] at hc41; first | exact absurd hc41 (by decide) | exact absurd rfl hc41), by rcases hf with ⟨z, e⟩ | ⟨z, e⟩ <;> first | exact e | exact absurd hc17 z | exact absurd z hc17⟩
   refine Ka 109 C (d6.g 33) (fun _ _ => ⟨rfl, by simpa using S⟩)
 ·simp only [oA, Classical.not_not, Value.ref.injEq] at hc17
  refine KD 20 C 1 (d6.g 52) ?_
  refine KT 21 C 25 (d6.g 53) ?_
  refine KO 25 C (Ls' := [_, _, _, _]) (d6.g 11) rfl ?_
  refine K8 26 C (d6.g 12) ?_
  refine KW 27 C (d6.g 13) ?_
  refine K0 30 C (d6.g 54) ?_
  refine Ku 31 C (d6.g 55) rfl ?_
  refine KF 32 C (hw.g 56) Via.refl S.G (d6.g 56) ?_
  refine KX 35 C 1 (d6.g 57) ?_
  refine QT 36 C (d6.g 58) ?_
  rw [Xt]
  refine Ke 37 C (hw.g 56) Via.refl S.G S.X (Or.inl (hw.g 57)) (hw.g 2) (ty := .long) (by decide) rfl rfl (Or.inl rfl) (d6.g 59) ?_
  intro h2 W2
  replace S := TN hw S W2
  replace XA := XA.wr W2
  replace FR := Fld.other W2 FR (Or.inl nas)
  replace FD := Fld.other W2 FD (Or.inl nas)
  refine K8 40 C (d6.g 14) ?_
  refine Qx 41 C 78 (d6.g 15) (fun hc41 => ?_) (fun hc41 => ?_)
  ·simp only [oC, Classical.not_not] at hc41
   refine K0 78 C (d6.g 16) ?_
   refine KF 79 C (hw.g 13) Via.refl S.B (d6.g 17) ?_
   refine K0 82 C (d6.g 18) ?_
   refine KI 83 C (RS hw a _ _ FR) (XA) (hw.g 58) (hw.g 59) (QF (hw.g 61)) (hw.g 61) (hw.g 60) (hw.g 19) (hw.g 62) Qf (d6.g 19) (argsL := []) rfl rfl rfl rfl ?_
   rintro _ _ ⟨rfl, rfl⟩ -
   refine YN 86 C (d6.g 20) rfl rfl ?_
   refine Q8 87 C s_ S.VG (Xk _ (by omega)) (XU.get hs1) (d6.g 21) ?_
   refine KX 88 C 1 (d6.g 22) ?_
   refine QT 89 C (d6.g 23) ?_
   rw [Xt]
   refine Xj 90 C s_ S.VG (Xk _ (by omega)) (by rw [XU.len]; exact hs1) (Or.inr (Or.inr (Or.inl rfl))) (d6.g 24) ?_
   intro h3 W3 A_
   rw [XU.set] at A_
   replace S := Hc hw S W3 A_
   refine K0 91 C (d6.g 25) ?_
   refine Ku 92 C (d6.g 26) rfl ?_
   refine KF 93 C (hw.g 63) Via.refl S.Q (d6.g 27) ?_
   refine K8 96 C (d6.g 28) ?_
   refine KW 97 C (d6.g 29) ?_
   refine KX 100 C 1 (d6.g 60) ?_
   refine KT 101 C 105 (d6.g 61) ?_
   refine QT 105 C (d6.g 31) ?_
   rw [Xt]
   refine Ke 106 C (hw.g 63) Via.refl S.Q S.X (Or.inl (hw.g 64)) (hw.g 2) (ty := .long) (by decide) rfl rfl (Or.inl rfl) (d6.g 32) ?_
   intro h4 W4
   replace S := Hp hw S W4
   obtain ⟨rfl, rfl⟩ : xb = 0 ∧ fb = 1 := ⟨by rcases hx with ⟨z, e⟩ | ⟨z, e⟩ <;> first | exact e | (rw [z] at hc41; first | exact absurd hc41 (by decide) | exact absurd rfl hc41), by rcases hf with ⟨z, e⟩ | ⟨z, e⟩ <;> first | exact e | exact absurd hc17 z | exact absurd z hc17⟩
   refine Ka 109 C (d6.g 33) (fun _ _ => ⟨rfl, by simpa using S⟩)
  ·simp only [oC, Classical.not_not] at hc41
   refine K0 44 C (d6.g 34) ?_
   refine KF 45 C (hw.g 11) Via.refl S.A (d6.g 35) ?_
   refine K0 48 C (d6.g 36) ?_
   refine KI 49 C (RS hw a _ _ FR) (XA) (hw.g 58) (hw.g 59) (QF (hw.g 61)) (hw.g 61) (hw.g 60) (hw.g 19) (hw.g 62) Qf (d6.g 37) (argsL := []) rfl rfl rfl rfl ?_
   rintro _ _ ⟨rfl, rfl⟩ -
   refine YN 52 C (d6.g 38) rfl rfl ?_
   refine Q8 53 C s_ S.VF (Xk _ (by omega)) (XU.get hs1) (d6.g 39) ?_
   refine KX 54 C 1 (d6.g 40) ?_
   refine QT 55 C (d6.g 41) ?_
   rw [Xt]
   refine Xj 56 C s_ S.VF (Xk _ (by omega)) (by rw [XU.len]; exact hs1) (Or.inr (Or.inl rfl)) (d6.g 42) ?_
   intro h3 W3 A_
   rw [XU.set] at A_
   replace S := Hw hw S W3 A_
   refine K0 57 C (d6.g 43) ?_
   refine Ku 58 C (d6.g 44) rfl ?_
   refine KF 59 C (hw.g 326) Via.refl S.T (d6.g 45) ?_
   refine K8 62 C (d6.g 46) ?_
   refine KW 63 C (d6.g 47) ?_
   refine KX 66 C 1 (d6.g 62) ?_
   refine KT 67 C 71 (d6.g 63) ?_
   refine QT 71 C (d6.g 49) ?_
   rw [Xt]
   refine Ke 72 C (hw.g 326) Via.refl S.T S.X (Or.inl (hw.g 327)) (hw.g 2) (ty := .long) (by decide) rfl rfl (Or.inl rfl) (d6.g 50) ?_
   intro h4 W4
   replace S := Hk hw S W4
   refine KT 75 C 109 (d6.g 51) ?_
   obtain ⟨rfl, rfl⟩ : xb = 1 ∧ fb = 1 := ⟨by rcases hx with ⟨z, e⟩ | ⟨z, e⟩ <;> first | exact e | (rw [z] at hc41; first | exact absurd hc41 (by decide) | exact absurd rfl hc41), by rcases hf with ⟨z, e⟩ | ⟨z, e⟩ <;> first | exact e | exact absurd hc17 z | exact absurd z hc17⟩
   refine Ka 109 C (d6.g 33) (fun _ _ => ⟨rfl, by simpa using S⟩)
theorem HH {cd : ClassFile.Cond} {x w : Int32} (h : ¬ oC cd x w) : if_icmp.holds cd x w = false := (Yz cd x w).elim (fun q => absurd q.2 h) (fun q => q.1)
def LU : MethodName := ⟨"com/example/wardstream/wardstream/engine/Scorecard", "sum", "([J)J"⟩
theorem U8 : plainFor LU = true := by decide +kernel
theorem CW {x0 : Addr} (m : MethodId) : entryFrame m #[.ref x0] 8 = oF m 0 [.val (.ref x0), .unset, .unset, .unset, .unset, .unset, .unset, .unset] [] := by (first | (simp [entryFrame, oF, mkF, argsToLocals, Value.category]; done) | rfl)
theorem Dj (hw : Kh Z a0) (fa : Addr) (Ff : Nat → Nat) (h0 : Heap) (A : Kv Z h0 fa .long (XU Ff)) :
  KH l Z LU prog_19_method_8_code 8 (some .long) ⟨0, 0, 0, 0⟩ #[.ref fa] h0 (fun a => h0.size ≤ a) (fun v h => v = some (.long (Int64.ofNat (H9 Ff 101))) ∧ h0 = h) := by
 refine Q9 U8 CW fun p e s m below meth c C hs => ?_
 have loop : ∀ (d i : Nat) (s6 s7 : Slot), i + d = 101 → (s6 = .unset ∧ s7 = .unset ∨ ∃ v, s6 = .val (.long v) ∧ s7 = .second) → Kd false p l e ({ frames := 0, cells := 0, slots := 0, locals := 0 } : Room) s m #[.ref fa] below meth c (fun a => h0.size ≤ a) (fun v h _ => ((fun v h => v = some (.long (Int64.ofNat (H9 Ff 101))) ∧ h0 = h)) v h) oT h0 0 0 (oF m 11 [.val (.ref fa), .val (.long (Int64.ofNat (H9 Ff i))), .second, .val (.ref fa), .val (.int (Int32.ofNat 101)), .val (.int (Int32.ofNat i)), s6, s7] []) := by
  intro d
  induction d with
  | zero =>
   intro i s6 s7 hi _
   obtain rfl : i = 101 := by omega
   refine KE 11 C (YS.g 0) ?_
   refine KE 13 C (YS.g 1) ?_
   refine KU 15 C 35 (YS.g 2) ?_
   refine KJ 35 C (YS.g 3) ?_
   refine XB 36 C (YS.g 4) (fun _ _ => ⟨rfl, rfl⟩)
  | succ d ih =>
   intro i s6 s7 hi hs6
   rcases hs6 with ⟨rfl, rfl⟩ | ⟨v6, rfl, rfl⟩ <;> (
    refine KE 11 C (YS.g 0) ?_
    refine KE 13 C (YS.g 1) ?_
    refine KS 15 C (YS.g 2) ?_ (h1 := HH (by simp only [oC, Classical.not_not, Int32.lt_iff_toInt_lt, ← Int32.toInt_inj, Int32.toInt_add, Int32.toInt_sub, Qm, Int32.reduceToInt, Int.bmod_def]; omega))
    refine K0 18 C (YS.g 5) ?_
    refine KE 19 C (YS.g 6) ?_
    refine Q8 21 C i A (Xk _ (by omega)) (XU.get (by omega)) (YS.g 7) ?_
    refine Ky 22 C (Ls' := [_, _, _, _, _, _, _, _]) (YS.g 8) rfl ?_
    refine KJ 24 C (YS.g 9) ?_
    refine Kw 25 C (YS.g 10) ?_
    refine QT 27 C (YS.g 11) ?_
    rw [← Int64.ofNat_add]
    refine K_ 28 C (Ls' := [_, _, _, _, _, _, _, _]) (YS.g 12) rfl ?_
    refine Q5 29 C (w := 1) (Ls' := [_, _, _, _, _, _, _, _]) (YS.g 13) (by decide) rfl rfl ?_
    rw [J5]
    refine KT 32 C 11 (YS.g 14) ?_
    exact ih (i + 1) _ _ (by omega) (Or.inr ⟨_, rfl, rfl⟩)
    )
 refine KX 0 C 0 (YS.g 15) ?_
 refine K_ 1 C (Ls' := [_, _, _, _, _, _, _, _]) (YS.g 16) rfl ?_
 refine K0 2 C (YS.g 17) ?_
 refine KY 3 C (Ls' := [_, _, _, _, _, _, _, _]) (YS.g 18) rfl rfl ?_
 refine K0 4 C (YS.g 19) ?_
 refine KZ 5 C A (YS.g 20) ?_
 rw [XU.len]
 refine KG 6 C (Ls' := [_, _, _, _, _, _, _, _]) (YS.g 21) rfl ?_
 refine KD 8 C 0 (YS.g 22) ?_
 refine KG 9 C (Ls' := [_, _, _, _, _, _, _, _]) (YS.g 23) rfl ?_
 exact loop 101 0 _ _ (by omega) (Or.inl ⟨rfl, rfl⟩)
def Bt : MethodName := ⟨"com/example/wardstream/wardstream/engine/ScorecardCountEvaluatedPinLaw", "pick3", "(ILjava/lang/String;Ljava/lang/String;Ljava/lang/String;)Ljava/lang/String;"⟩
theorem HM : plainFor Bt = true := by decide +kernel
theorem UB {x0 : Int32} {x1 : Addr} {x2 : Addr} {x3 : Addr} (m : MethodId) : entryFrame m #[.int x0, .ref x1, .ref x2, .ref x3] 4 = oF m 0 [.val (.int x0), .val (.ref x1), .val (.ref x2), .val (.ref x3)] [] := by (first | (simp [entryFrame, oF, mkF, argsToLocals, Value.category]; done) | rfl)
theorem U_ (hw : Kh Z a0) (a1 a2 a3 : Addr) (h0 : Heap) :
  KH l Z Bt method_4_code 4 (some (.object "java/lang/String")) ⟨0, 0, 0, 0⟩ #[.int (Int32.ofNat 0), .ref a1, .ref a2, .ref a3] h0 (fun a => h0.size ≤ a) (fun v h => v = some (.ref a1) ∧ h0 = h) := by
 refine Q9 HM UB fun p e s m below meth c C hs => ?_
 refine K8 0 C (GL.g 0) ?_
 refine KW 1 C (GL.g 1) ?_
 refine K0 4 C (GL.g 2) ?_
 refine KL 5 C (GL.g 3) (fun _ _ => ⟨rfl, rfl⟩)
theorem UK (hw : Kh Z a0) (a1 a2 a3 : Addr) (h0 : Heap) :
  KH l Z Bt method_4_code 4 (some (.object "java/lang/String")) ⟨0, 0, 0, 0⟩ #[.int (Int32.ofNat 1), .ref a1, .ref a2, .ref a3] h0 (fun a => h0.size ≤ a) (fun v h => v = some (.ref a2) ∧ h0 = h) := by
 refine Q9 HM UB fun p e s m below meth c C hs => ?_
 refine K8 0 C (GL.g 0) ?_
 refine KQ 1 C 6 (GL.g 1) ?_
 refine K8 6 C (GL.g 4) ?_
 refine KD 7 C 1 (GL.g 5) ?_
 refine KS 8 C (GL.g 6) ?_
 refine K0 11 C (GL.g 7) ?_
 refine KL 12 C (GL.g 8) (fun _ _ => ⟨rfl, rfl⟩)
theorem UQ (hw : Kh Z a0) (a1 a2 a3 : Addr) (h0 : Heap) :
  KH l Z Bt method_4_code 4 (some (.object "java/lang/String")) ⟨0, 0, 0, 0⟩ #[.int (Int32.ofNat 2), .ref a1, .ref a2, .ref a3] h0 (fun a => h0.size ≤ a) (fun v h => v = some (.ref a3) ∧ h0 = h) := by
 refine Q9 HM UB fun p e s m below meth c C hs => ?_
 refine K8 0 C (GL.g 0) ?_
 refine KQ 1 C 6 (GL.g 1) ?_
 refine K8 6 C (GL.g 4) ?_
 refine KD 7 C 1 (GL.g 5) ?_
 refine KU 8 C 13 (GL.g 6) ?_
 refine K8 13 C (GL.g 9) ?_
 refine KD 14 C 2 (GL.g 10) ?_
 refine KS 15 C (GL.g 11) ?_
 refine K0 18 C (GL.g 12) ?_
 refine KL 19 C (GL.g 13) (fun _ _ => ⟨rfl, rfl⟩)
theorem RZ (hw : Kh Z a0) (a1 a2 a3 : Addr) (r_ : Addr) (us : List Int32) (k_ : Nat) (h0 : Heap) (hk : k_ < 3) (hr : (k_ = 0 ∧ r_ = a1) ∨ (k_ = 1 ∧ r_ = a2) ∨ (k_ = 2 ∧ r_ = a3)) :
  KH l Z Bt method_4_code 4 (some (.object "java/lang/String")) ⟨0, 0, 0, 0⟩ #[.int (Int32.ofNat k_), .ref a1, .ref a2, .ref a3] h0 (fun a => h0.size ≤ a) (fun v h => v = some (.ref r_) ∧ h0 = h) := by
 rcases hr with ⟨rfl, e⟩ | ⟨rfl, e⟩ | ⟨rfl, e⟩
 ·rw [e]; exact U_ hw a1 a2 a3 h0
 ·rw [e]; exact UK hw a1 a2 a3 h0
 ·rw [e]; exact UQ hw a1 a2 a3 h0
def JA : MethodName := ⟨"com/example/wardstream/wardstream/engine/ScorecardCountEvaluatedPinLaw", "pickR", "(ILjava/lang/String;Ljava/lang/String;Ljava/lang/String;Ljava/lang/String;)Ljava/lang/String;"⟩
theorem Yn : plainFor JA = true := by decide +kernel
theorem T4 {x0 : Int32} {x1 : Addr} {x2 : Addr} {x3 : Addr} {x4 : Addr} (m : MethodId) : entryFrame m #[.int x0, .ref x1, .ref x2, .ref x3, .ref x4] 5 = oF m 0 [.val (.int x0), .val (.ref x1), .val (.ref x2), .val (.ref x3), .val (.ref x4)] [] := by (first | (simp [entryFrame, oF, mkF, argsToLocals, Value.category]; done) | rfl)
theorem Ub (hw : Kh Z a0) (a1 a2 a3 a4 : Addr) (h0 : Heap) :
  KH l Z JA method_6_code 5 (some (.object "java/lang/String")) ⟨0, 0, 0, 0⟩ #[.int (Int32.ofNat 0), .ref a1, .ref a2, .ref a3, .ref a4] h0 (fun a => h0.size ≤ a) (fun v h => v = some (.ref a1) ∧ h0 = h) := by
 refine Q9 Yn T4 fun p e s m below meth c C hs => ?_
 refine K8 0 C (Qp.g 0) ?_
 refine KW 1 C (Qp.g 1) ?_
 refine K0 4 C (Qp.g 2) ?_
 refine KL 5 C (Qp.g 3) (fun _ _ => ⟨rfl, rfl⟩)
theorem Ul (hw : Kh Z a0) (a1 a2 a3 a4 : Addr) (h0 : Heap) :
  KH l Z JA method_6_code 5 (some (.object "java/lang/String")) ⟨0, 0, 0, 0⟩ #[.int (Int32.ofNat 1), .ref a1, .ref a2, .ref a3, .ref a4] h0 (fun a => h0.size ≤ a) (fun v h => v = some (.ref a2) ∧ h0 = h) := by
 refine Q9 Yn T4 fun p e s m below meth c C hs => ?_
 refine K8 0 C (Qp.g 0) ?_
 refine KQ 1 C 6 (Qp.g 1) ?_
 refine K8 6 C (Qp.g 4) ?_
 refine KD 7 C 1 (Qp.g 5) ?_
 refine KS 8 C (Qp.g 6) ?_
 refine K0 11 C (Qp.g 7) ?_
 refine KL 12 C (Qp.g 8) (fun _ _ => ⟨rfl, rfl⟩)
theorem V9 (hw : Kh Z a0) (a1 a2 a3 a4 : Addr) (h0 : Heap) :
  KH l Z JA method_6_code 5 (some (.object "java/lang/String")) ⟨0, 0, 0, 0⟩ #[.int (Int32.ofNat 2), .ref a1, .ref a2, .ref a3, .ref a4] h0 (fun a => h0.size ≤ a) (fun v h => v = some (.ref a3) ∧ h0 = h) := by
 refine Q9 Yn T4 fun p e s m below meth c C hs => ?_
 refine K8 0 C (Qp.g 0) ?_
 refine KQ 1 C 6 (Qp.g 1) ?_
 refine K8 6 C (Qp.g 4) ?_
 refine KD 7 C 1 (Qp.g 5) ?_
 refine KU 8 C 13 (Qp.g 6) ?_
 refine K8 13 C (Qp.g 9) ?_
 refine KD 14 C 2 (Qp.g 10) ?_
 refine KS 15 C (Qp.g 11) ?_
 refine K0 18 C (Qp.g 12) ?_
 refine KL 19 C (Qp.g 13) (fun _ _ => ⟨rfl, rfl⟩)
theorem UI (hw : Kh Z a0) (a1 a2 a3 a4 : Addr) (h0 : Heap) :
  KH l Z JA method_6_code 5 (some (.object "java/lang/String")) ⟨0, 0, 0, 0⟩ #[.int (Int32.ofNat 3), .ref a1, .ref a2, .ref a3, .ref a4] h0 (fun a => h0.size ≤ a) (fun v h => v = some (.ref a4) ∧ h0 = h) := by
 refine Q9 Yn T4 fun p e s m below meth c C hs => ?_
 refine K8 0 C (Qp.g 0) ?_
 refine KQ 1 C 6 (Qp.g 1) ?_
 refine K8 6 C (Qp.g 4) ?_
 refine KD 7 C 1 (Qp.g 5) ?_
 refine KU 8 C 13 (Qp.g 6) ?_
 refine K8 13 C (Qp.g 9) ?_
 refine KD 14 C 2 (Qp.g 10) ?_
 refine KU 15 C 20 (Qp.g 11) ?_
 refine K8 20 C (Qp.g 14) ?_
 refine KD 21 C 3 (Qp.g 15) ?_
 refine KS 22 C (Qp.g 16) ?_
 refine Kb 25 C (Qp.g 17) ?_
 refine KL 27 C (Qp.g 18) (fun _ _ => ⟨rfl, rfl⟩)
theorem J7 (hw : Kh Z a0) (a1 a2 a3 a4 : Addr) (r_ : Addr) (us : List Int32) (k_ : Nat) (h0 : Heap) (hk : k_ < 4) (hr : (k_ = 0 ∧ r_ = a1) ∨ (k_ = 1 ∧ r_ = a2) ∨ (k_ = 2 ∧ r_ = a3) ∨ (k_ = 3 ∧ r_ = a4)) :
  KH l Z JA method_6_code 5 (some (.object "java/lang/String")) ⟨0, 0, 0, 0⟩ #[.int (Int32.ofNat k_), .ref a1, .ref a2, .ref a3, .ref a4] h0 (fun a => h0.size ≤ a) (fun v h => v = some (.ref r_) ∧ h0 = h) := by
 rcases hr with ⟨rfl, e⟩ | ⟨rfl, e⟩ | ⟨rfl, e⟩ | ⟨rfl, e⟩
 ·rw [e]; exact Ub hw a1 a2 a3 a4 h0
 ·rw [e]; exact Ul hw a1 a2 a3 a4 h0
 ·rw [e]; exact V9 hw a1 a2 a3 a4 h0
 ·rw [e]; exact UI hw a1 a2 a3 a4 h0
def Aq : MethodName := ⟨"com/example/wardstream/wardstream/engine/ScorecardCountEvaluatedPinLaw", "code", "(II)I"⟩
theorem T8 : plainFor Aq = true := by decide +kernel
theorem RK (hw : Kh Z a0) (i j : Nat) (h0 : Heap) (hi : i = 0 ∨ i = 1 ∨ i = 2 ∨ i = 3 ∨ i = 4) (hj : j = 0 ∨ j = 1 ∨ j = 2 ∨ j = 3 ∨ j = 4) :
  KH l Z Aq method_5_code 2 (some .int) ⟨0, 0, 0, 0⟩ #[.int (Int32.ofNat i), .int (Int32.ofNat j)] h0 (fun a => h0.size ≤ a) (fun v h => v = some (.int (Int32.ofNat (GJ i j))) ∧ h0 = h) := by
 refine Q9 T8 We fun p e s m below meth c C hs => ?_
 refine K8 0 C (Qw.g 0) ?_
 refine Qx 1 C 8 (Qw.g 1) (fun hc1 => ?_) (fun hc1 => ?_)
 ·simp only [oC, Classical.not_not] at hc1
  refine KD 8 C 0 (Qw.g 2) ?_
  refine KP 9 C (Qw.g 3) rfl (fun _ _ => ⟨?_, rfl⟩)
  refine congrArg some (congrArg Value.int ?_)
  unfold GJ
  rcases hi with rfl | rfl | rfl | rfl | rfl <;> rcases hj with rfl | rfl | rfl | rfl | rfl <;> first | rfl | (exfalso; revert hc1; decide)
 ·simp only [oC, Classical.not_not] at hc1
  refine K8 4 C (Qw.g 4) ?_
  refine Qx 5 C 10 (Qw.g 5) (fun hc5 => ?_) (fun hc5 => ?_)
  ·simp only [oC, Classical.not_not] at hc5
   refine K8 10 C (Qw.g 6) ?_
   refine K8 11 C (Qw.g 7) ?_
   refine QK 12 C 17 (Qw.g 8) (fun hc12 => ?_) (fun hc12 => ?_)
   ·simp only [oC, Classical.not_not] at hc12
    refine KD 17 C 2 (Qw.g 9) ?_
    refine K8 18 C (Qw.g 10) ?_
    refine Xu 19 C (Qw.g 11) ?_
    refine K8 20 C (Qw.g 12) ?_
    refine QK 21 C 26 (Qw.g 13) (fun hc21 => ?_) (fun hc21 => ?_)
    ·simp only [oC, Classical.not_not] at hc21
     refine KD 26 C 3 (Qw.g 14) ?_
     refine K8 27 C (Qw.g 15) ?_
     refine Xu 28 C (Qw.g 16) ?_
     refine KD 29 C 2 (Qw.g 17) ?_
     refine K8 30 C (Qw.g 18) ?_
     refine Xu 31 C (Qw.g 19) ?_
     refine QK 32 C 37 (Qw.g 20) (fun hc32 => ?_) (fun hc32 => ?_)
     ·simp only [oC, Classical.not_not] at hc32
      refine KD 37 C 4 (Qw.g 21) ?_
      refine KP 38 C (Qw.g 22) rfl (fun _ _ => ⟨?_, rfl⟩)
      refine congrArg some (congrArg Value.int ?_)
      unfold GJ
      rcases hi with rfl | rfl | rfl | rfl | rfl <;> rcases hj with rfl | rfl | rfl | rfl | rfl <;> first | rfl | (exfalso; revert hc1 hc12 hc21 hc32 hc5; decide)
     ·simp only [oC, Classical.not_not] at hc32
      refine KD 35 C 2 (Qw.g 23) ?_
      refine KP 36 C (Qw.g 24) rfl (fun _ _ => ⟨?_, rfl⟩)
      refine congrArg some (congrArg Value.int ?_)
      unfold GJ
      rcases hi with rfl | rfl | rfl | rfl | rfl <;> rcases hj with rfl | rfl | rfl | rfl | rfl <;> first | rfl | (exfalso; revert hc1 hc12 hc21 hc32 hc5; decide)
    ·simp only [oC, Classical.not_not] at hc21
     refine KD 24 C 1 (Qw.g 25) ?_
     refine KP 25 C (Qw.g 26) rfl (fun _ _ => ⟨?_, rfl⟩)
     refine congrArg some (congrArg Value.int ?_)
     unfold GJ
     rcases hi with rfl | rfl | rfl | rfl | rfl <;> rcases hj with rfl | rfl | rfl | rfl | rfl <;> first | rfl | (exfalso; revert hc1 hc12 hc21 hc5; decide)
   ·simp only [oC, Classical.not_not] at hc12
    refine KD 15 C 3 (Qw.g 27) ?_
    refine KP 16 C (Qw.g 28) rfl (fun _ _ => ⟨?_, rfl⟩)
    refine congrArg some (congrArg Value.int ?_)
    unfold GJ
    rcases hi with rfl | rfl | rfl | rfl | rfl <;> rcases hj with rfl | rfl | rfl | rfl | rfl <;> first | rfl | (exfalso; revert hc1 hc12 hc5; decide)
  ·simp only [oC, Classical.not_not] at hc5
   refine KD 8 C 0 (Qw.g 2) ?_
   refine KP 9 C (Qw.g 3) rfl (fun _ _ => ⟨?_, rfl⟩)
   refine congrArg some (congrArg Value.int ?_)
   unfold GJ
   rcases hi with rfl | rfl | rfl | rfl | rfl <;> rcases hj with rfl | rfl | rfl | rfl | rfl <;> first | rfl | (exfalso; revert hc1 hc5; decide)
def Fl : MethodName := ⟨"java/lang/StringLatin1", "equals", "([B[B)Z"⟩
theorem Vw : plainFor Fl = true := by decide +kernel
theorem EX (hw : Kh Z a0) (x z : Addr) (bs cs : List Int32) (h0 : Heap) (hb : bs.length < 2 ^ 31) (hc : cs.length < 2 ^ 31) (A : Kv Z h0 x .byte (bs.map Value.int)) (D : Kv Z h0 z .byte (cs.map Value.int)) :
  KH l Z Fl jdk_43_method_13_code 3 (some .boolean) ⟨0, 0, 0, 0⟩ #[.ref x, .ref z] h0 (fun a => h0.size ≤ a) (fun v h => v = some (.int (if bs = cs then 1 else 0)) ∧ h0 = h) := by
 refine Q9 Vw CD fun p e s m below meth c C hs => ?_
 refine K0 0 C (YC.g 0) ?_
 refine KZ 1 C A (YC.g 1) ?_
 rw [List.length_map]
 refine K0 2 C (YC.g 2) ?_
 refine KZ 3 C D (YC.g 3) ?_
 rw [List.length_map]
 refine QK 4 C 34 (YC.g 4) (fun hc4 => ?_) (fun hc4 => ?_)
 ·simp only [oC, Classical.not_not] at hc4
  refine KD 34 C 0 (YC.g 5) ?_
  refine KP 35 C (YC.g 6) (z' := 0) (by decide) (fun _ _ => ⟨?_, rfl⟩)
  rw [if_neg]; intro q; exact hc4 (by rw [q])
 ·simp only [oC, Classical.not_not] at hc4
  rw [Td hb hc] at hc4
  have loop : ∀ (k i : Nat), i + k = bs.length → bs.take i = cs.take i → Kd false p l e ({ frames := 0, cells := 0, slots := 0, locals := 0 } : Room) s m #[.ref x, .ref z] below meth c (fun a => h0.size ≤ a) (fun v h _ => ((fun v h => v = some (.int (if bs = cs then 1 else 0)) ∧ h0 = h)) v h) oT h0 0 0 (oF m 9 [.val (.ref x), .val (.ref z), .val (.int (Int32.ofNat i))] []) := by
   intro k
   induction k with
   | zero =>
    intro i hik ht
    obtain rfl : i = bs.length := by omega
    refine K8 9 C (YC.g 7) ?_
    refine K0 10 C (YC.g 8) ?_
    refine KZ 11 C A (YC.g 9) ?_
    rw [List.length_map]
    refine QK 12 C 32 (YC.g 10) (fun hc12 => ?_) (fun hc12 => ?_)
    ·simp only [oC, Classical.not_not] at hc12
     refine KD 32 C 1 (YC.g 11) ?_
     refine KP 33 C (YC.g 12) (z' := 1) (by decide) (fun _ _ => ⟨?_, rfl⟩)
     rw [if_pos]
     rw [List.take_length, hc4, List.take_length] at ht; exact ht
    ·simp only [oC, Classical.not_not] at hc12
     exact absurd hc12 (by rw [GR hb hb]; omega)
   | succ k ih =>
    intro i hik ht
    have hi : i < bs.length := by omega
    have hi' : i < cs.length := by omega
    refine K8 9 C (YC.g 7) ?_
    refine K0 10 C (YC.g 8) ?_
    refine KZ 11 C A (YC.g 9) ?_
    rw [List.length_map]
    refine QK 12 C 32 (YC.g 10) (fun hc12 => ?_) (fun hc12 => ?_)
    ·simp only [oC, Classical.not_not] at hc12
     exact absurd ((GR (by omega) hb).mpr hi) hc12
    ·simp only [oC, Classical.not_not] at hc12
     refine K0 15 C (YC.g 13) ?_
     refine K8 16 C (YC.g 14) ?_
     refine QV 17 C (v := .int bs[i]) i A (Xk i (by omega)) (by simp [hi]) (YC.g 15) ?_
     refine K0 18 C (YC.g 16) ?_
     refine K8 19 C (YC.g 17) ?_
     refine QV 20 C (v := .int cs[i]) i D (Xk i (by omega)) (by simp [hi']) (YC.g 18) ?_
     refine QK 21 C 26 (YC.g 19) (fun hc21 => ?_) (fun hc21 => ?_)
     ·simp only [oC, Classical.not_not] at hc21
      refine Q5 26 C (w := 1) (Ls' := [_, _, _]) (YC.g 20) (by decide) rfl rfl ?_
      refine KT 29 C 9 (YC.g 21) ?_
      rw [J5]
      refine ih (i + 1) (by omega) ?_
      rw [List.take_add_one, List.take_add_one, ht, List.getElem?_eq_getElem hi, List.getElem?_eq_getElem hi', hc21]
     ·simp only [oC, Classical.not_not] at hc21
      refine KD 24 C 0 (YC.g 22) ?_
      refine KP 25 C (YC.g 23) (z' := 0) (by decide) (fun _ _ => ⟨?_, rfl⟩)
      rw [if_neg]; intro q; subst q; exact hc21 rfl
  refine KD 7 C 0 (YC.g 24) ?_
  refine KO 8 C (Ls' := [_, _, _]) (YC.g 25) rfl ?_
  exact loop bs.length 0 (by omega) rfl
def Cu : MethodName := ⟨"java/lang/String", "equals", "(Ljava/lang/Object;)Z"⟩
theorem Tl : plainFor Cu = true := by decide +kernel
theorem Lq (hw : Kh Z a0) (x z : Addr) (us ws : List Int32) (h0 : Heap) (hlu : us.length < 2 ^ 31) (hlw : ws.length < 2 ^ 31) (su : ∀ u ∈ us, QG u) (sw : ∀ u ∈ ws, QG u) (F : Xo Z h0 x us) (G : Xo Z h0 z ws) (cs : Int32) (hcs : cs ≠ 0) (S_COMPACT_STRINGS : Sta Z Z.heap "java/lang/String" "COMPACT_STRINGS" "Z" (.int cs)) :
  KH l Z Cu jdk_42_method_66_code 3 (some .boolean) ⟨1, 0, 0, 20⟩ #[.ref x, .ref z] h0 (fun a => h0.size ≤ a) (fun v h => v = some (.int (if us = ws then 1 else 0)) ∧ h0 = h) := by
 refine Q9 Tl CD fun p e s m below meth c C hs => ?_
 refine K0 0 C (YI.g 0) ?_
 refine K0 1 C (YI.g 1) ?_
 refine YA 2 C 7 (YI.g 2) rfl rfl (fun hc2 => ?_) (fun hc2 => ?_)
 ·simp only [oA, Classical.not_not, Value.ref.injEq] at hc2
  refine K0 7 C (YI.g 3) ?_
  refine RX 8 C (hw.g 306) (Ins.self G.1) (YI.g 4) ?_
  refine Qx 11 C 54 (YI.g 5) (fun hc11 => ?_) (fun hc11 => ?_)
  ·simp only [oC, Classical.not_not] at hc11
   exact absurd hc11 (by decide)
  ·simp only [oC, Classical.not_not] at hc11
   refine K0 14 C (YI.g 6) ?_
   refine Qe 15 C (hw.g 306) (Ins.self G.1) (YI.g 7) ?_
   refine KY 18 C (Ls' := [_, _, _]) (YI.g 8) rfl rfl ?_
   refine Ko 19 C (hw.g 143) Via.refl S_COMPACT_STRINGS (YI.g 9) ?_
   refine Qx 22 C 36 (YI.g 10) (fun hc22 => ?_) (fun hc22 => ?_)
   ·simp only [oC, Classical.not_not] at hc22
    exact absurd hc22 hcs
   ·simp only [oC, Classical.not_not] at hc22
    obtain ⟨X1, hu, b1, c1, l1, V1, K1, A1, e1⟩ := F
    obtain ⟨X2, hw', b2, c2, l2, V2, K2, A2, e2⟩ := G
    obtain ⟨rfl, -, rfl⟩ := e1.resolve_right (fun q => by obtain ⟨u, q1, q2⟩ := q.2.1; exact q2 (su u q1))
    obtain ⟨rfl, -, rfl⟩ := e2.resolve_right (fun q => by obtain ⟨u, q1, q2⟩ := q.2.1; exact q2 (sw u q1))
    refine K0 25 C (YI.g 11) ?_
    refine KF 26 C (hw.g 144) Via.refl K1 (YI.g 12) ?_
    refine K0 29 C (YI.g 13) ?_
    refine KF 30 C (hw.g 144) Via.refl K2 (YI.g 14) ?_
    refine QK 33 C 54 (YI.g 15) (fun hc33 => ?_) (fun hc33 => ?_)
    ·simp only [oC, Classical.not_not] at hc33
     exact absurd hc33 (by simp)
    ·simp only [oC, Classical.not_not] at hc33
     refine K0 36 C (YI.g 16) ?_
     refine KF 37 C (hw.g 137) Via.refl V1 (YI.g 17) ?_
     refine K0 40 C (YI.g 18) ?_
     refine KF 41 C (hw.g 137) Via.refl V2 (YI.g 19) ?_
     refine KK 44 C (EX hw b1 b2 (us.map Xw) (ws.map Xw) _ (by simpa using hlu) (by simpa using hlw) (A1.eq (by simp [QW])) (A2.eq (by simp [QW]))) (hw.g 307) (hw.g 308) (hw.g 309) (hw.g 310) Vt (YI.g 20) (argsL := [_, _]) rfl rfl rfl rfl ?_
     rintro _ h1 ⟨rfl, rfl⟩ -
     dsimp only [Option.toList, List.cons_append, List.nil_append]
     have hiff : us.map Xw = ws.map Xw ↔ us = ws := Hl hu hw' su sw
     refine Qx 47 C 54 (YI.g 21) (fun hc47 => ?_) (fun hc47 => ?_)
     ·simp only [oC, Classical.not_not] at hc47
      refine KD 54 C 0 (YI.g 22) ?_
      refine KP 55 C (YI.g 23) (z' := 0) (by decide) (fun _ _ => ⟨?_, rfl⟩)
      simp only [hiff] at hc47
      split at hc47
      ·exact absurd hc47 (by decide)
      ·rename_i q; rw [if_neg q]
     ·simp only [oC, Classical.not_not] at hc47
      refine KD 50 C 1 (YI.g 24) ?_
      refine KT 51 C 55 (YI.g 25) ?_
      refine KP 55 C (YI.g 23) (z' := 1) (by decide) (fun _ _ => ⟨?_, rfl⟩)
      simp only [hiff] at hc47
      split at hc47
      ·rename_i q; rw [if_pos q]
      ·exact absurd hc47 (by simp)
 ·simp only [oA, Classical.not_not, Value.ref.injEq] at hc2
  refine KD 5 C 1 (YI.g 26) ?_
  refine KP 6 C (YI.g 27) (z' := 1) (by decide) (fun _ _ => ⟨?_, rfl⟩)
  subst hc2; rw [if_pos (Xo.inj F G su sw)]
theorem JL (n : Nat) : (2 : Int64) * Int64.ofNat n = Int64.ofNat (2 * n) := (Int64.ofNat_mul 2 n).symm
theorem Xv {Ff Gf : Nat → Nat} {x1 s1 x2 s2 : Nat} (h1 : x1 ≤ 1) (h2 : x2 ≤ 1) (hF : ∀ i, Ff i = XX x1 s1 x2 s2 i) (hG : ∀ i, Gf i = XX (1 - x1) s1 (1 - x2) s2 i) : JF (Ym Ff Gf 101) (2 * (x1 + x2) * (2 - (x1 + x2))) := by
 have h3 := Jn h1 h2 hF hG 101
 obtain rfl | rfl : x1 = 0 ∨ x1 = 1 := by omega
 all_goals obtain rfl | rfl : x2 = 0 ∨ x2 = 1 := by omega
 all_goals (unfold JF; simp; omega)
theorem Uf {i : Nat} (h : i ≤ 100) : if_icmp.holds .gt (Int32.ofNat i) 100 = false := HH (by simp only [oC, Int32.lt_iff_toInt_lt, ← Int32.toInt_inj, Int32.toInt_add, Int32.toInt_sub, Qm, Int32.reduceToInt, Int.bmod_def]; omega)
def L4 : MethodName := ⟨"com/example/wardstream/wardstream/engine/Scorecard", "auc", "(JJ)Ljava/lang/String;"⟩
theorem U6 : plainFor L4 = true := by decide +kernel
theorem EH {x0 : Addr} {x1 : Int64} {x2 : Int64} (m : MethodId) : entryFrame m #[.ref x0, .long x1, .long x2] 11 = oF m 0 [.val (.ref x0), .val (.long x1), .second, .val (.long x2), .second, .unset, .unset, .unset, .unset, .unset, .unset] [] := by (first | (simp [entryFrame, oF, mkF, argsToLocals, Value.category]; done) | rfl)
theorem Eo (hw : Kh Z a0) (W : oW Z) (sc fa ga : Addr) (lab : Int32) (ev fl tp fp x1 s1 x2 s2 : Nat) (Ff Gf : Nat → Nat) (xs : List Addr) (h0 : Heap) (S : XR Z h0 sc fa ga lab ev fl tp fp Ff Gf) (hF : ∀ i, Ff i = XX x1 s1 x2 s2 i) (hG : ∀ i, Gf i = XX (1 - x1) s1 (1 - x2) s2 i) (h1 : x1 ≤ 1) (h2 : x2 ≤ 1) (t1 : s1 < 101) (t2 : s2 < 101) :
  Q1 l Z L4 prog_19_method_5_code 11 (some (.object "java/lang/String")) ⟨12, 21, 544, 270⟩ #[.ref sc, .long (Int64.ofNat (x1 + x2)), .long (Int64.ofNat (2 - (x1 + x2)))] h0 (fun a => h0.size ≤ a) (oH Z Kr h0 xs) (fun v h vm => ∃ r, v = some (.ref r) ∧ QY Z h r (Xn (YQ (Ym Ff Gf 101) (2 * (x1 + x2) * (2 - (x1 + x2))))) ∧ oH Z Kr h xs vm) := by
 refine Q1.of U6 (fun _ q => q) (fun E _ q => Nat.le_trans E.1 q) EH (oH.js (QM hw)) ?_
 intro p e s m below meth c C hs
 have loop : ∀ (d i : Nat) (h : Heap) (q : Addr) (s9 s10 : Slot) (k nn : Nat), i + d = 101 → Ext h0 h → QQ Z h q (Ym Ff Gf i) → (s9 = .unset ∧ s10 = .unset ∨ ∃ v, s9 = .val (.long v) ∧ s10 = .second) → (Ym Ff Gf i = 0 ∧ k = 0 ∧ nn = 0 ∨ Ym Ff Gf i ≠ 0 ∧ k = 2 ∧ nn = 7) → Kd true p l e ({ frames := 12, cells := 21, slots := 544, locals := 270 } : Room) s m #[.ref sc, .long (Int64.ofNat (x1 + x2)), .long (Int64.ofNat (2 - (x1 + x2)))] below meth c (fun a => h0.size ≤ a) (fun v h vm => ∃ r, v = some (.ref r) ∧ QY Z h r (Xn (YQ (Ym Ff Gf 101) (2 * (x1 + x2) * (2 - (x1 + x2))))) ∧ oH Z Kr h xs vm) (oH Z Kr h xs) h k nn (oF m 11 [.val (.ref sc), .val (.long (Int64.ofNat (x1 + x2))), .second, .val (.long (Int64.ofNat (2 - (x1 + x2)))), .second, .val (.ref q), .val (.long (Int64.ofNat (H9 Gf i))), .second, .val (.int (Int32.ofNat i)), s9, s10] []) := by
  intro d
  induction d with
  | zero =>
   intro i h q s9 s10 k nn hi E Bq hs9 hkn
   obtain rfl : i = 101 := by omega
   have hk2 : k ≤ 2 ∧ nn ≤ 7 := by omega
   refine Jl (k' := 2) (n' := 7) hk2.1 hk2.2 ?_
   refine KE 11 C (Qv.g 0) ?_
   refine KN 13 C 100 (Qv.g 1) ?_
   refine KU 15 C 77 (Qv.g 2) ?_
   refine Kb 77 C (Qv.g 3) ?_
   refine Kq 79 C (hw.g 532) (Qv.g 4) ?_
   refine KK 82 C (Xx hw W 2 _ (by decide)) (hw.g 360) (hw.g 361) (hw.g 3) (hw.g 362) Qj (Qv.g 5) (argsL := [_]) rfl rfl rfl rfl ?_
   rintro _ _ ⟨r1, rfl, Br1, rfl⟩ -
   refine KJ 85 C (Qv.g 6) ?_
   refine KK 86 C (Xx hw W (x1 + x2) _ (by omega)) (hw.g 360) (hw.g 361) (hw.g 3) (hw.g 362) Qj (Qv.g 7) (argsL := [_]) rfl rfl rfl rfl ?_
   rintro _ _ ⟨r2, rfl, Br2, rfl⟩ -
   refine KI 89 C (Gv hw W r1 r2 2 (x1 + x2) _ Br1 Br2 (by omega)) (Br1.1) (hw.g 558) (hw.g 559) (QF (hw.g 561)) (hw.g 561) (hw.g 560) (hw.g 365) (hw.g 562) Qn (Qv.g 8) (argsL := [_]) rfl rfl rfl rfl ?_
   rintro _ h3 ⟨r3, rfl, B3⟩ K3
   refine kJ hw (fun _ H => H.fr K3) ?_
   replace Bq := Bq.ext K3.ext
   refine KJ 92 C (Qv.g 9) ?_
   refine KK 93 C (Xx hw W (2 - (x1 + x2)) _ (by omega)) (hw.g 360) (hw.g 361) (hw.g 3) (hw.g 362) Qj (Qv.g 10) (argsL := [_]) rfl rfl rfl rfl ?_
   rintro _ _ ⟨r4, rfl, Br4, rfl⟩ -
   refine KI 96 C (Gv hw W r3 r4 _ (2 - (x1 + x2)) _ B3 Br4 (by omega)) (B3.1) (hw.g 558) (hw.g 559) (QF (hw.g 561)) (hw.g 561) (hw.g 560) (hw.g 365) (hw.g 562) Qn (Qv.g 11) (argsL := [_]) rfl rfl rfl rfl ?_
   rintro _ h5 ⟨r5, rfl, B5⟩ K5
   refine kJ hw (fun _ H => H.fr K5) ?_
   replace Bq := Bq.ext K5.ext
   refine XC 99 C (J3 hw W q r5 _ _ _ xs _ Bq B5 (Xv h1 h2 hF hG).1 (Xv h1 h2 hF hG).2.1 (QI (Xv h1 h2 hF hG)).1) (fun _ H => H) (hw.g 369) (hw.g 370) (hw.g 3) (hw.g 371) YU (Qv.g 12) (argsL := [_, _]) rfl rfl rfl rfl ?_
   rintro _ h6 _ ⟨r, rfl, S6, H6⟩ -
   refine ⟨_, H6, (oH.js (QM hw)), ?_⟩
   refine KL 102 C (Qv.g 13) (fun _ H => ⟨r, rfl, S6, H⟩)
  | succ d ih =>
   intro i h q s9 s10 k nn hi E Bq hs9 hkn
   obtain ⟨v1, v2, hev⟩ := Tv h1 h2 hF hG i
   have eH : Ym Ff Gf (i + 1) = Ym Ff Gf i + Ff i * (2 * H9 Gf i + Gf i) := rfl
   have S0 := S
   replace S := S.ext E
   rcases hs9 with ⟨rfl, rfl⟩ | ⟨v9, rfl, rfl⟩ <;> rcases hkn with ⟨ho, rfl, rfl⟩ | ⟨ho, rfl, rfl⟩ <;> (
    refine KE 11 C (Qv.g 0) ?_
    refine KN 13 C 100 (Qv.g 1) ?_
    refine KS 15 C (Qv.g 2) ?_ (h1 := Uf (by omega))
    refine Kq 18 C (hw.g 532) (Qv.g 14) ?_
    refine Kw 21 C (Qv.g 15) ?_
    refine XG 23 C (Qv.g 16) ?_
    rw [JL]
    refine K0 24 C (Qv.g 17) ?_
    refine KF 25 C (hw.g 13) Via.refl S.B (Qv.g 18) ?_
    refine KE 28 C (Qv.g 19) ?_
    refine Q8 30 C i S.VG (Xk _ (by omega)) (XU.get (by omega)) (Qv.g 20) ?_
    refine QT 31 C (Qv.g 21) ?_
    rw [← Int64.ofNat_add]
    refine Ky 32 C (Ls' := [_, _, _, _, _, _, _, _, _, _, _]) (Qv.g 22) rfl ?_
    refine Kb 34 C (Qv.g 23) ?_
    refine K0 36 C (Qv.g 24) ?_
    refine KF 37 C (hw.g 11) Via.refl S.A (Qv.g 25) ?_
    refine KE 40 C (Qv.g 26) ?_
    refine Q8 42 C i S.VF (Xk _ (by omega)) (XU.get (by omega)) (Qv.g 27) ?_
    refine KK 43 C (Xx hw W (Ff i) _ (by omega)) (hw.g 360) (hw.g 361) (hw.g 3) (hw.g 362) Qj (Qv.g 28) (argsL := [_]) rfl rfl rfl rfl ?_
    rintro _ _ ⟨r1, rfl, Br1, rfl⟩ -
    refine Kw 46 C (Qv.g 29) ?_
    refine KK 48 C (Xx hw W (2 * H9 Gf i + Gf i) _ v2) (hw.g 360) (hw.g 361) (hw.g 3) (hw.g 362) Qj (Qv.g 30) (argsL := [_]) rfl rfl rfl rfl ?_
    rintro _ _ ⟨r2, rfl, Br2, rfl⟩ -
    rcases hev with hz | ⟨f1, f2, f3⟩
    ·refine KI 51 C (EF hw W r1 r2 _ _ _ Br1 Br2 (Nat.mul_eq_zero.mp hz)) (Br1.1) (hw.g 558) (hw.g 559) (QF (hw.g 561)) (hw.g 561) (hw.g 560) (hw.g 365) (hw.g 562) Qn (Qv.g 31) (argsL := [_]) rfl rfl rfl rfl ?_
     rintro _ _ ⟨r3, rfl, B3, rfl⟩ -
     refine KI 54 C (EB hw q r3 _ _ Bq B3) (Bq.1) (hw.g 568) (hw.g 569) (QF (hw.g 571)) (hw.g 571) (hw.g 570) (hw.g 365) (hw.g 572) Qn (Qv.g 32) (argsL := [_]) rfl rfl rfl rfl ?_
     rintro _ _ ⟨rfl, rfl⟩ -
     refine Kz 57 C (Ls' := [_, _, _, _, _, _, _, _, _, _, _]) (Qv.g 33) rfl rfl ?_
     refine Kw 59 C (Qv.g 34) ?_
     refine K0 61 C (Qv.g 35) ?_
     refine KF 62 C (hw.g 13) Via.refl S.B (Qv.g 36) ?_
     refine KE 65 C (Qv.g 37) ?_
     refine Q8 67 C i S.VG (Xk _ (by omega)) (XU.get (by omega)) (Qv.g 38) ?_
     refine QT 68 C (Qv.g 39) ?_
     rw [← Int64.ofNat_add]
     refine Ky 69 C (Ls' := [_, _, _, _, _, _, _, _, _, _, _]) (Qv.g 40) rfl ?_
     refine Q5 71 C (w := 1) (Ls' := [_, _, _, _, _, _, _, _, _, _, _]) (Qv.g 41) (by decide) rfl rfl ?_
     rw [J5]
     refine KT 74 C 11 (Qv.g 42) ?_
     exact ih (i + 1) _ _ _ _ _ _ (by omega) E (by rw [eH, hz, Nat.add_zero]; exact Bq) (Or.inr ⟨_, rfl, rfl⟩) (by rw [eH, hz, Nat.add_zero]; simp [ho])
    ·first | exact absurd f3 ho | (
      have hne : Ff i * (2 * H9 Gf i + Gf i) ≠ 0 := by rw [f1]; omega
      rw [f3] at Bq
      refine KI 51 C (Gv hw W r1 r2 _ _ _ Br1 Br2 (by omega)) (Br1.1) (hw.g 558) (hw.g 559) (QF (hw.g 561)) (hw.g 561) (hw.g 560) (hw.g 365) (hw.g 562) Qn (Qv.g 31) (argsL := [_]) rfl rfl rfl rfl ?_
      rintro _ h3 ⟨r3, rfl, B3⟩ K3
      refine kJ hw (fun _ H => H.fr K3) ?_
      replace Bq := Bq.ext K3.ext
      replace S := S.ext K3.ext
      replace E := Ki.tr E K3.ext
      refine KI 54 C (DL hw q r3 _ _ Bq B3 hne) (Bq.1) (hw.g 568) (hw.g 569) (QF (hw.g 571)) (hw.g 571) (hw.g 570) (hw.g 365) (hw.g 572) Qn (Qv.g 32) (argsL := [_]) rfl rfl rfl rfl ?_
      rintro _ _ ⟨rfl, rfl⟩ -
      refine Kz 57 C (Ls' := [_, _, _, _, _, _, _, _, _, _, _]) (Qv.g 33) rfl rfl ?_
      refine Kw 59 C (Qv.g 34) ?_
      refine K0 61 C (Qv.g 35) ?_
      refine KF 62 C (hw.g 13) Via.refl S.B (Qv.g 36) ?_
      refine KE 65 C (Qv.g 37) ?_
      refine Q8 67 C i S.VG (Xk _ (by omega)) (XU.get (by omega)) (Qv.g 38) ?_
      refine QT 68 C (Qv.g 39) ?_
      rw [← Int64.ofNat_add]
      refine Ky 69 C (Ls' := [_, _, _, _, _, _, _, _, _, _, _]) (Qv.g 40) rfl ?_
      refine Q5 71 C (w := 1) (Ls' := [_, _, _, _, _, _, _, _, _, _, _]) (Qv.g 41) (by decide) rfl rfl ?_
      rw [J5]
      refine KT 74 C 11 (Qv.g 42) ?_
      exact ih (i + 1) _ _ _ _ _ _ (by omega) E (by rw [eH, f3, Nat.zero_add]; exact B3) (Or.inr ⟨_, rfl, rfl⟩) (Or.inr ⟨by rw [eH, f3, Nat.zero_add]; exact hne, rfl, rfl⟩)
      )
    )
 obtain ⟨zq, Sz, Bz⟩ := W.zero
 refine Qc C (fun hE hle _ => ?_)
 refine Ko 0 C (hw.g 557) Via.refl Sz (Qv.g 43) ?_
 refine Kz 3 C (Ls' := [_, _, _, _, _, _, _, _, _, _, _]) (Qv.g 44) rfl rfl ?_
 refine KX 5 C 0 (Qv.g 45) ?_
 refine Ky 6 C (Ls' := [_, _, _, _, _, _, _, _, _, _, _]) (Qv.g 46) rfl ?_
 refine KD 8 C 0 (Qv.g 47) ?_
 refine KG 9 C (Ls' := [_, _, _, _, _, _, _, _, _, _, _]) (Qv.g 48) rfl ?_
 exact loop 101 0 _ zq _ _ 0 0 (by omega) ⟨Nat.le_refl _, fun _ _ q => q⟩ (Bz.ext hE) (Or.inl ⟨rfl, rfl⟩) (Or.inl ⟨rfl, rfl, rfl⟩)
def Gs (x1 s1 x2 s2 : Nat) : Int64 := if x1 + x2 = 0 then 0 else if x1 + x2 = 2 then 10000 else if Vr x1 s1 s2 0 = 1 then 10000 else 5000
theorem RM {x1 s1 x2 s2 nv dv e : Nat} (h1 : x1 ≤ 1) (h2 : x2 ≤ 1) (h : Y_ x1 s1 x2 s2 0 nv dv e) : nv ≤ 4 ∧ ((dv = 0 ∨ x1 + x2 = 0) ∨ (dv = 1 ∧ x1 + x2 = 1) ∨ (dv = 1 ∧ x1 + x2 = 2) ∨ (dv = 2 ∧ x1 + x2 = 1) ∨ (dv = 2 ∧ x1 + x2 = 2) ∨ (dv = 4 ∧ x1 + x2 = 1)) ∧ dv * (x1 + x2) ≤ 4 ∧ (dv * (x1 + x2) = 0 ∧ Gs x1 s1 x2 s2 = 0 ∨ dv * (x1 + x2) ≠ 0 ∧ JD (Int64.ofNat nv) (Int64.ofNat (dv * (x1 + x2))) (Gs x1 s1 x2 s2)) := by
 unfold Y_ at h
 rw [TI] at h
 have h3 : Vr x1 s1 s2 0 = 1 ∨ Vr x1 s1 s2 0 = 2 := by unfold Vr; (repeat' split) <;> omega
 unfold Gs JD
 obtain rfl | rfl : x1 = 0 ∨ x1 = 1 := by omega
 all_goals obtain rfl | rfl : x2 = 0 ∨ x2 = 1 := by omega
 all_goals rcases h with ⟨h4, rfl, rfl, rfl⟩ | ⟨h4, rfl, rfl, rfl⟩ | ⟨h4, rfl, rfl, -, -⟩ <;> first | (exfalso; omega) | decide | (rcases h3 with h3 | h3 <;> rw [h3] <;> decide)
theorem R7 {i : Nat} : Int32.ofNat (i + 1) - 1 = Int32.ofNat i := by rw [Int32.ofNat_add, show Int32.ofNat 1 = 1 from rfl, Int32.add_sub_cancel]
theorem Gz {i : Nat} : Int32.ofNat i + -1 = Int32.ofNat i - 1 := by rw [Int32.sub_eq_add_neg]
theorem U1 {i : Nat} (h : i ≤ 100) : if_icmp.holds .lt (Int32.ofNat i) 0 = false := HH (by simp only [oC, Int32.lt_iff_toInt_lt, ← Int32.toInt_inj, Int32.toInt_add, Int32.toInt_sub, Qm, Int32.reduceToInt, Int.bmod_def]; omega)
theorem Vu {k : Nat} (h : k ≠ 0) (h2 : k ≤ 2) : if_icmp.holds .ne (XT.cmpL (Int64.ofNat k) 0) 0 = true := by
 obtain rfl | rfl : k = 1 ∨ k = 2 := by omega
 all_goals decide
def AI : MethodName := ⟨"com/example/wardstream/wardstream/engine/Scorecard", "averagePrecision", "(J)Ljava/lang/String;"⟩
theorem Rr : plainFor AI = true := by decide +kernel
theorem Dk {x0 : Addr} {x1 : Int64} (m : MethodId) : entryFrame m #[.ref x0, .long x1] 13 = oF m 0 [.val (.ref x0), .val (.long x1), .second, .unset, .unset, .unset, .unset, .unset, .unset, .unset, .unset, .unset, .unset] [] := by (first | (simp [entryFrame, oF, mkF, argsToLocals, Value.category]; done) | rfl)
theorem CZ (hw : Kh Z a0) (W : oW Z) (sc fa ga : Addr) (lab : Int32) (ev fl tp fp x1 s1 x2 s2 : Nat) (Ff Gf : Nat → Nat) (xs : List Addr) (h0 : Heap) (S : XR Z h0 sc fa ga lab ev fl tp fp Ff Gf) (hF : ∀ i, Ff i = XX x1 s1 x2 s2 i) (hG : ∀ i, Gf i = XX (1 - x1) s1 (1 - x2) s2 i) (h1 : x1 ≤ 1) (h2 : x2 ≤ 1) (t1 : s1 < 101) (t2 : s2 < 101) :
  Q1 l Z AI prog_19_method_6_code 13 (some (.object "java/lang/String")) ⟨12, 75, 708, 270⟩ #[.ref sc, .long (Int64.ofNat (x1 + x2))] h0 (fun a => h0.size ≤ a) (oH Z Kr h0 xs) (fun v h vm => ∃ r, v = some (.ref r) ∧ QY Z h r (Xn (Gs x1 s1 x2 s2)) ∧ oH Z Kr h xs vm) := by
 refine Q1.of Rr (fun _ q => q) (fun E _ q => Nat.le_trans E.1 q) Dk (oH.js (QM hw)) ?_
 intro p e s m below meth c C hs
 have loop : ∀ (i : Nat) (h : Heap) (nu de : Addr) (nv dv ec : Nat) (s10 s11 s12 : Slot), i ≤ 101 → Ext h0 h → QQ Z h nu nv → QQ Z h de dv → Y_ x1 s1 x2 s2 i nv dv ec → (ec = 0 ∧ s10 = .unset ∧ s11 = .unset ∧ s12 = .unset ∨ ec ≠ 0 ∧ ∃ u1 u2 u3, s10 = .val (.ref u1) ∧ s11 = .val (.ref u2) ∧ s12 = .val (.ref u3)) → Kd true p l e ({ frames := 12, cells := 75, slots := 708, locals := 270 } : Room) s m #[.ref sc, .long (Int64.ofNat (x1 + x2))] below meth c (fun a => h0.size ≤ a) (fun v h vm => ∃ r, v = some (.ref r) ∧ QY Z h r (Xn (Gs x1 s1 x2 s2)) ∧ oH Z Kr h xs vm) (oH Z Kr h xs) h (29 * ec) (89 * ec) (oF m 19 [.val (.ref sc), .val (.long (Int64.ofNat (x1 + x2))), .second, .val (.ref nu), .val (.ref de), .val (.long (Int64.ofNat (Qy x1 s1 x2 s2 i))), .second, .val (.long (Int64.ofNat (Qy 1 s1 1 s2 i))), .second, .val (.int (Int32.ofNat i - 1)), s10, s11, s12] []) := by
  intro i
  induction i with
  | zero =>
   intro h nu de nv dv ec s10 s11 s12 hi E Bn Bd hI hs10
   obtain ⟨a1, a2, a3, a4⟩ := RM h1 h2 hI
   have he : ec ≤ 2 := by rcases hI with z | z | z <;> omega
   refine Jl (k' := 58) (n' := 178) (by omega) (by omega) ?_
   refine KE 19 C (Kp.g 0) ?_
   refine KQ 21 C 154 (Kp.g 1) ?_
   refine K0 154 C (Kp.g 2) ?_
   refine Kb 155 C (Kp.g 3) ?_
   refine KJ 157 C (Kp.g 4) ?_
   refine KK 158 C (Xx hw W (x1 + x2) _ (by omega)) (hw.g 360) (hw.g 361) (hw.g 3) (hw.g 362) Qj (Kp.g 5) (argsL := [_]) rfl rfl rfl rfl ?_
   rintro _ _ ⟨r2, rfl, Br2, rfl⟩ -
   refine KI 161 C (Gv hw W de r2 _ _ _ Bd Br2 (by omega)) (Bd.1) (hw.g 558) (hw.g 559) (QF (hw.g 561)) (hw.g 561) (hw.g 560) (hw.g 365) (hw.g 562) Qn (Kp.g 6) (argsL := [_]) rfl rfl rfl rfl ?_
   rintro _ h3 ⟨r3, rfl, B3⟩ K3
   refine kJ hw (fun _ H => H.fr K3) ?_
   replace Bn := Bn.ext K3.ext
   refine XC 164 C (J3 hw W nu r3 _ _ _ xs _ Bn B3 a1 a3 a4) (fun _ H => H) (hw.g 369) (hw.g 370) (hw.g 3) (hw.g 371) YU (Kp.g 7) (argsL := [_, _]) rfl rfl rfl rfl ?_
   rintro _ h6 _ ⟨r, rfl, S6, H6⟩ -
   refine ⟨_, H6, (oH.js (QM hw)), ?_⟩
   refine KL 167 C (Kp.g 8) (fun _ H => ⟨r, rfl, S6, H⟩)
  | succ i ih =>
   intro h nu de nv dv ec s10 s11 s12 hi E Bn Bd hI hs10
   have hap := Uc h1 h2 hI
   have f2 := WN (s1 := s1) (s2 := s2) (i := i) h1 h2
   have c2 := JK (s1 := s1) (s2 := s2) (i := i) h1 h2
   have c3 := JK (x1 := 1) (s1 := s1) (x2 := 1) (s2 := s2) (i := i) (by decide) (by decide)
   replace S := S.ext E
   rw [R7]
   refine KE 19 C (Kp.g 0) ?_
   refine KW 21 C (Kp.g 1) ?_ (h1 := U1 (by omega))
   refine Kw 24 C (Kp.g 9) ?_
   refine K0 26 C (Kp.g 10) ?_
   refine KF 27 C (hw.g 11) Via.refl S.A (Kp.g 11) ?_
   refine KE 30 C (Kp.g 12) ?_
   refine Q8 32 C i S.VF (Xk _ (by omega)) (XU.get (by omega)) (Kp.g 13) ?_
   refine QT 33 C (Kp.g 14) ?_
   rw [← Int64.ofNat_add, hF, TS]
   refine Ky 34 C (Ls' := [_, _, _, _, _, _, _, _, _, _, _, _, _]) (Kp.g 15) rfl ?_
   refine Kw 36 C (Kp.g 16) ?_
   refine K0 38 C (Kp.g 17) ?_
   refine KF 39 C (hw.g 11) Via.refl S.A (Kp.g 18) ?_
   refine KE 42 C (Kp.g 19) ?_
   refine Q8 44 C i S.VF (Xk _ (by omega)) (XU.get (by omega)) (Kp.g 20) ?_
   refine K0 45 C (Kp.g 21) ?_
   refine KF 46 C (hw.g 13) Via.refl S.B (Kp.g 22) ?_
   refine KE 49 C (Kp.g 23) ?_
   refine Q8 51 C i S.VG (Xk _ (by omega)) (XU.get (by omega)) (Kp.g 24) ?_
   refine QT 52 C (Kp.g 25) ?_
   rw [← Int64.ofNat_add]
   refine QT 53 C (Kp.g 26) ?_
   rw [← Int64.ofNat_add, hF, hG, Rg h1 h2]
   refine Ky 54 C (Ls' := [_, _, _, _, _, _, _, _, _, _, _, _, _]) (Kp.g 27) rfl ?_
   refine K0 56 C (Kp.g 28) ?_
   refine KF 57 C (hw.g 11) Via.refl S.A (Kp.g 29) ?_
   refine KE 60 C (Kp.g 30) ?_
   refine Q8 62 C i S.VF (Xk _ (by omega)) (XU.get (by omega)) (Kp.g 31) ?_
   rw [hF]
   refine KX 63 C 0 (Kp.g 32) ?_
   refine Kc 64 C (Kp.g 33) ?_
   rcases hap with ⟨f0, hI'⟩ | hap
   ·rw [f0]
    refine KW 65 C (Kp.g 34) ?_
    refine KT 68 C 148 (Kp.g 35) ?_
    refine Q5 148 C (w := (-1)) (Ls' := [_, _, _, _, _, _, _, _, _, _, _, _, _]) (Kp.g 36) (by decide) rfl rfl ?_
    rw [Gz]
    refine KT 151 C 19 (Kp.g 37) ?_
    exact ih h nu de nv dv ec s10 s11 s12 (by omega) E Bn Bd hI' hs10
   ·obtain ⟨nv', dv', tn, gc, q0, q1, q2, q3, q4, q5, q6, q7, q8, q9, hI'⟩ : ∃ nv' dv' tn gc, XX x1 s1 x2 s2 i ≠ 0 ∧ ((XX x1 s1 x2 s2 i = 0 ∨ Qy x1 s1 x2 s2 i = 0) ∨ (XX x1 s1 x2 s2 i = 1 ∧ Qy x1 s1 x2 s2 i = 1) ∨ (XX x1 s1 x2 s2 i = 1 ∧ Qy x1 s1 x2 s2 i = 2) ∨ (XX x1 s1 x2 s2 i = 2 ∧ Qy x1 s1 x2 s2 i = 1) ∨ (XX x1 s1 x2 s2 i = 2 ∧ Qy x1 s1 x2 s2 i = 2) ∨ (XX x1 s1 x2 s2 i = 4 ∧ Qy x1 s1 x2 s2 i = 1)) ∧ tn = XX x1 s1 x2 s2 i * Qy x1 s1 x2 s2 i ∧ ((nv = 0 ∨ Qy 1 s1 1 s2 i = 0) ∨ (nv = 1 ∧ Qy 1 s1 1 s2 i = 1) ∨ (nv = 1 ∧ Qy 1 s1 1 s2 i = 2) ∨ (nv = 2 ∧ Qy 1 s1 1 s2 i = 1) ∨ (nv = 2 ∧ Qy 1 s1 1 s2 i = 2) ∨ (nv = 4 ∧ Qy 1 s1 1 s2 i = 1)) ∧ ((tn = 0 ∨ dv = 0) ∨ (tn = 1 ∧ dv = 1) ∨ (tn = 1 ∧ dv = 2) ∨ (tn = 2 ∧ dv = 1) ∨ (tn = 2 ∧ dv = 2) ∨ (tn = 4 ∧ dv = 1)) ∧ (nv * Qy 1 s1 1 s2 i = 0 ∨ tn * dv = 0 ∨ (nv * Qy 1 s1 1 s2 i = 2 ∧ tn * dv = 2)) ∧ ((dv = 0 ∨ Qy 1 s1 1 s2 i = 0) ∨ (dv = 1 ∧ Qy 1 s1 1 s2 i = 1) ∨ (dv = 1 ∧ Qy 1 s1 1 s2 i = 2) ∨ (dv = 2 ∧ Qy 1 s1 1 s2 i = 1) ∨ (dv = 2 ∧ Qy 1 s1 1 s2 i = 2) ∨ (dv = 4 ∧ Qy 1 s1 1 s2 i = 1)) ∧ ((nv * Qy 1 s1 1 s2 i + tn * dv = 1 ∧ dv * Qy 1 s1 1 s2 i = 1 ∧ gc = 1) ∨ (nv * Qy 1 s1 1 s2 i + tn * dv = 4 ∧ dv * Qy 1 s1 1 s2 i = 2 ∧ gc = 2) ∨ (nv * Qy 1 s1 1 s2 i + tn * dv = 1 ∧ dv * Qy 1 s1 1 s2 i = 2 ∧ gc = 1)) ∧ ((nv * Qy 1 s1 1 s2 i + tn * dv = 1 ∧ gc = 1 ∧ nv' = 1) ∨ (nv * Qy 1 s1 1 s2 i + tn * dv = 2 ∧ gc = 2 ∧ nv' = 1) ∨ (nv * Qy 1 s1 1 s2 i + tn * dv = 4 ∧ gc = 2 ∧ nv' = 2) ∨ (nv * Qy 1 s1 1 s2 i + tn * dv = 2 ∧ gc = 1 ∧ nv' = 2)) ∧ ((dv * Qy 1 s1 1 s2 i = 1 ∧ gc = 1 ∧ dv' = 1) ∨ (dv * Qy 1 s1 1 s2 i = 2 ∧ gc = 2 ∧ dv' = 1) ∨ (dv * Qy 1 s1 1 s2 i = 4 ∧ gc = 2 ∧ dv' = 2) ∨ (dv * Qy 1 s1 1 s2 i = 2 ∧ gc = 1 ∧ dv' = 2)) ∧ Y_ x1 s1 x2 s2 i nv' dv' (ec + 1) := by
     rcases hap with ⟨rfl, rfl, rfl, ⟨c4, c5, c6, c7⟩ | ⟨c4, c5, c6, c7⟩ | ⟨c4, c5, c6, c7⟩⟩ | ⟨rfl, rfl, rfl, c4, c5, c6, c7⟩
     ·exact ⟨1, 1, 1, 1, by rw [c4]; decide, by rw [c4, c5]; decide, by rw [c4, c5], by rw [c6]; decide, by decide, by rw [c6]; decide, by rw [c6]; decide, by rw [c6]; decide, by rw [c6]; decide, by rw [c6]; decide, c7⟩
     ·exact ⟨1, 2, 1, 1, by rw [c4]; decide, by rw [c4, c5]; decide, by rw [c4, c5], by rw [c6]; decide, by decide, by rw [c6]; decide, by rw [c6]; decide, by rw [c6]; decide, by rw [c6]; decide, by rw [c6]; decide, c7⟩
     ·exact ⟨2, 1, 4, 2, by rw [c4]; decide, by rw [c4, c5]; decide, by rw [c4, c5], by rw [c6]; decide, by decide, by rw [c6]; decide, by rw [c6]; decide, by rw [c6]; decide, by rw [c6]; decide, by rw [c6]; decide, c7⟩
     ·exact ⟨2, 1, 2, 2, by rw [c4]; decide, by rw [c4, c5]; decide, by rw [c4, c5], by rw [c6]; decide, by decide, by rw [c6]; decide, by rw [c6]; decide, by rw [c6]; decide, by rw [c6]; decide, by rw [c6]; decide, c7⟩
    have he : ec = 0 ∨ ec = 1 := by rcases hI' with z | z | z <;> omega
    subst q2
    refine KQ 65 C 71 (Kp.g 34) ?_ (h1 := Vu q0 (by omega))
    rcases he with rfl | rfl <;> rcases hs10 with ⟨z0, rfl, rfl, rfl⟩ | ⟨z0, u1, u2, u3, rfl, rfl, rfl⟩ <;> first | exact absurd z0 (by decide) | exact absurd rfl z0 | skip
    all_goals (
     refine K0 71 C (Kp.g 38) ?_
     refine KF 72 C (hw.g 11) Via.refl S.A (Kp.g 39) ?_
     refine KE 75 C (Kp.g 40) ?_
     refine Q8 77 C i S.VF (Xk _ (by omega)) (XU.get (by omega)) (Kp.g 41) ?_
     rw [hF]
     refine KK 78 C (Xx hw W (XX x1 s1 x2 s2 i) _ (by omega)) (hw.g 360) (hw.g 361) (hw.g 3) (hw.g 362) Qj (Kp.g 42) (argsL := [_]) rfl rfl rfl rfl ?_
     rintro _ _ ⟨r1, rfl, Br1, rfl⟩ -
     refine Kw 81 C (Kp.g 43) ?_
     refine KK 83 C (Xx hw W (Qy x1 s1 x2 s2 i) _ (by omega)) (hw.g 360) (hw.g 361) (hw.g 3) (hw.g 362) Qj (Kp.g 44) (argsL := [_]) rfl rfl rfl rfl ?_
     rintro _ _ ⟨r2, rfl, Br2, rfl⟩ -
     refine KI 86 C (Gv hw W r1 r2 _ _ _ Br1 Br2 q1) (Br1.1) (hw.g 558) (hw.g 559) (QF (hw.g 561)) (hw.g 561) (hw.g 560) (hw.g 365) (hw.g 562) Qn (Kp.g 45) (argsL := [_]) rfl rfl rfl rfl ?_
     rintro _ h3 ⟨r3, rfl, B3⟩ K3
     refine kJ hw (fun _ H => H.fr K3) ?_
     replace Bn := Bn.ext K3.ext
     replace Bd := Bd.ext K3.ext
     replace E := Ki.tr E K3.ext
     refine Kz 89 C (Ls' := [_, _, _, _, _, _, _, _, _, _, _, _, _]) (Kp.g 46) rfl rfl ?_
     refine Kw 91 C (Kp.g 47) ?_
     refine KK 93 C (Xx hw W (Qy 1 s1 1 s2 i) _ (by omega)) (hw.g 360) (hw.g 361) (hw.g 3) (hw.g 362) Qj (Kp.g 48) (argsL := [_]) rfl rfl rfl rfl ?_
     rintro _ _ ⟨r4, rfl, Br4, rfl⟩ -
     refine Kz 96 C (Ls' := [_, _, _, _, _, _, _, _, _, _, _, _, _]) (Kp.g 49) rfl rfl ?_
     refine K0 98 C (Kp.g 50) ?_
     refine Kb 99 C (Kp.g 51) ?_
     refine KI 101 C (Gv hw W nu r4 _ _ _ Bn Br4 q3) (Bn.1) (hw.g 558) (hw.g 559) (QF (hw.g 561)) (hw.g 561) (hw.g 560) (hw.g 365) (hw.g 562) Qn (Kp.g 52) (argsL := [_]) rfl rfl rfl rfl ?_
     rintro _ h5 ⟨r5, rfl, B5⟩ K5
     refine kJ hw (fun _ H => H.fr K5) ?_
     replace Bd := Bd.ext K5.ext
     replace B3 := B3.ext K5.ext
     replace Br4 := Br4.ext K5.ext
     replace E := Ki.tr E K5.ext
     refine Kb 104 C (Kp.g 53) ?_
     refine Kb 106 C (Kp.g 54) ?_
     refine KI 108 C (Gv hw W r3 de _ _ _ B3 Bd q4) (B3.1) (hw.g 558) (hw.g 559) (QF (hw.g 561)) (hw.g 561) (hw.g 560) (hw.g 365) (hw.g 562) Qn (Kp.g 55) (argsL := [_]) rfl rfl rfl rfl ?_
     rintro _ h6 ⟨r6, rfl, B6⟩ K6
     refine kJ hw (fun _ H => H.fr K6) ?_
     replace Bd := Bd.ext K6.ext
     replace Br4 := Br4.ext K6.ext
     replace B5 := B5.ext K6.ext
     replace E := Ki.tr E K6.ext
     refine KI 111 C (De hw r5 r6 _ _ _ B5 B6 q5) (B5.1) (hw.g 568) (hw.g 569) (QF (hw.g 571)) (hw.g 571) (hw.g 570) (hw.g 365) (hw.g 572) Qn (Kp.g 56) (argsL := [_]) rfl rfl rfl rfl ?_
     rintro _ h7 ⟨r7, rfl, B7⟩ K7
     refine kJ hw (fun _ H => H.fr K7) ?_
     replace Bd := Bd.ext K7.ext
     replace Br4 := Br4.ext K7.ext
     replace E := Ki.tr E K7.ext
     refine KY 114 C (Ls' := [_, _, _, _, _, _, _, _, _, _, _, _, _]) (Kp.g 57) rfl rfl ?_
     refine Kb 115 C (Kp.g 58) ?_
     refine Kb 117 C (Kp.g 59) ?_
     refine KI 119 C (Gv hw W de r4 _ _ _ Bd Br4 q6) (Bd.1) (hw.g 558) (hw.g 559) (QF (hw.g 561)) (hw.g 561) (hw.g 560) (hw.g 365) (hw.g 562) Qn (Kp.g 60) (argsL := [_]) rfl rfl rfl rfl ?_
     rintro _ h9 ⟨r8, rfl, B8⟩ K9
     refine kJ hw (fun _ H => H.fr K9) ?_
     replace B7 := B7.ext K9.ext
     replace E := Ki.tr E K9.ext
     refine Kz 122 C (Ls' := [_, _, _, _, _, _, _, _, _, _, _, _, _]) (Kp.g 61) rfl rfl ?_
     refine K0 124 C (Kp.g 62) ?_
     refine Kb 125 C (Kp.g 63) ?_
     refine KI 127 C (Dr hw r7 r8 _ _ gc _ B7 B8 q7) (B7.1) (hw.g 625) (hw.g 626) (QF (hw.g 628)) (hw.g 628) (hw.g 627) (hw.g 365) (hw.g 629) Qn (Kp.g 64) (argsL := [_]) rfl rfl rfl rfl ?_
     rintro _ hA ⟨rA, rfl, BA⟩ KA
     refine kJ hw (fun _ H => H.fr KA) ?_
     replace B7 := B7.ext KA.ext
     replace B8 := B8.ext KA.ext
     replace E := Ki.tr E KA.ext
     refine Kz 130 C (Ls' := [_, _, _, _, _, _, _, _, _, _, _, _, _]) (Kp.g 65) rfl rfl ?_
     refine K0 132 C (Kp.g 66) ?_
     refine Kb 133 C (Kp.g 67) ?_
     refine KI 135 C (Bc hw r7 rA _ _ _ B7 BA (by omega) nv' (by rcases q8 with ⟨z1, z2, z3⟩ | ⟨z1, z2, z3⟩ | ⟨z1, z2, z3⟩ | ⟨z1, z2, z3⟩ <;> rw [z1, z2, z3])) (B7.1) (hw.g 697) (hw.g 698) (QF (hw.g 700)) (hw.g 700) (hw.g 699) (hw.g 365) (hw.g 701) Qn (Kp.g 68) (argsL := [_]) rfl rfl rfl rfl ?_
     rintro _ hB ⟨rB, rfl, BB⟩ KB
     refine kJ hw (fun _ H => H.fr KB) ?_
     replace B8 := B8.ext KB.ext
     replace BA := BA.ext KB.ext
     replace E := Ki.tr E KB.ext
     refine KY 138 C (Ls' := [_, _, _, _, _, _, _, _, _, _, _, _, _]) (Kp.g 69) rfl rfl ?_
     refine Kb 139 C (Kp.g 70) ?_
     refine Kb 141 C (Kp.g 71) ?_
     refine KI 143 C (Bc hw r8 rA _ _ _ B8 BA (by omega) dv' (by rcases q9 with ⟨z1, z2, z3⟩ | ⟨z1, z2, z3⟩ | ⟨z1, z2, z3⟩ | ⟨z1, z2, z3⟩ <;> rw [z1, z2, z3])) (B8.1) (hw.g 697) (hw.g 698) (QF (hw.g 700)) (hw.g 700) (hw.g 699) (hw.g 365) (hw.g 701) Qn (Kp.g 72) (argsL := [_]) rfl rfl rfl rfl ?_
     rintro _ hC ⟨rC, rfl, BC⟩ KC
     refine kJ hw (fun _ H => H.fr KC) ?_
     replace BB := BB.ext KC.ext
     replace E := Ki.tr E KC.ext
     refine Kz 146 C (Ls' := [_, _, _, _, _, _, _, _, _, _, _, _, _]) (Kp.g 73) rfl rfl ?_
     refine Q5 148 C (w := (-1)) (Ls' := [_, _, _, _, _, _, _, _, _, _, _, _, _]) (Kp.g 36) (by decide) rfl rfl ?_
     rw [Gz]
     refine KT 151 C 19 (Kp.g 37) ?_
     exact ih _ rB rC nv' dv' _ _ _ _ (by omega) E BB BC hI' (Or.inr ⟨by decide, _, _, _, rfl, rfl, rfl⟩)
     )
 obtain ⟨zq, Sz, Bz⟩ := W.zero
 obtain ⟨oq, So, Bo⟩ := W.one
 refine Qc C (fun hE hle _ => ?_)
 refine Ko 0 C (hw.g 557) Via.refl Sz (Kp.g 74) ?_
 refine KY 3 C (Ls' := [_, _, _, _, _, _, _, _, _, _, _, _, _]) (Kp.g 75) rfl rfl ?_
 refine Ko 4 C (hw.g 623) Via.refl So (Kp.g 76) ?_
 refine Kz 7 C (Ls' := [_, _, _, _, _, _, _, _, _, _, _, _, _]) (Kp.g 77) rfl rfl ?_
 refine KX 9 C 0 (Kp.g 78) ?_
 refine Ky 10 C (Ls' := [_, _, _, _, _, _, _, _, _, _, _, _, _]) (Kp.g 79) rfl ?_
 refine KX 12 C 0 (Kp.g 80) ?_
 refine Ky 13 C (Ls' := [_, _, _, _, _, _, _, _, _, _, _, _, _]) (Kp.g 81) rfl ?_
 refine KN 15 C 100 (Kp.g 82) ?_
 refine KG 17 C (Ls' := [_, _, _, _, _, _, _, _, _, _, _, _, _]) (Kp.g 83) rfl ?_
 have e1 := Hq (x1 := x1) (x2 := x2) t1 t2
 have e2 := Hq (x1 := 1) (x2 := 1) t1 t2
 have lp := loop 101 h0 zq oq 0 1 0 .unset .unset .unset (by decide) ⟨Nat.le_refl _, fun _ _ q => q⟩ (Bz.ext hE) (Bo.ext hE) (Or.inl ⟨e1, rfl, rfl, rfl⟩) (Or.inl ⟨rfl, rfl, rfl, rfl⟩)
 rw [e1, e2] at lp
 exact lp
theorem X_ (t : String) {us : List Int32} {k : Nat} (h : us.length = k) (e : (oU t).length + k ≤ 34) : ([] ++ oU t).length + us.length ≤ 34 := by rw [List.nil_append, h]; exact e
theorem Rl {x1 x2 : Nat} (h1 : x1 ≤ 1) (h2 : x2 ≤ 1) : Int64.ofNat 2 - Int64.ofNat (x1 + x2) = Int64.ofNat (2 - (x1 + x2)) := by
 obtain rfl | rfl : x1 = 0 ∨ x1 = 1 := by omega
 all_goals obtain rfl | rfl : x2 = 0 ∨ x2 = 1 := by omega
 all_goals decide
theorem Hx (x1 s1 x2 s2 : Nat) : (Xn (Gs x1 s1 x2 s2)).length = 6 := by
 unfold Gs
 (repeat' split) <;> decide
def y9 : MethodName := ⟨"com/example/wardstream/wardstream/engine/Scorecard", "summary", "()Ljava/util/List;"⟩
theorem Ab : plainFor y9 = true := by decide +kernel
theorem D6 (hw : Kh Z a0) (W : oW Z) (sc fa ga : Addr) (lab : Int32) (fl tp fp x1 s1 x2 s2 : Nat) (Ff Gf : Nat → Nat) (xs : List Addr) (h0 : Heap) (S : XR Z h0 sc fa ga lab 2 fl tp fp Ff Gf) (hF : ∀ i, Ff i = XX x1 s1 x2 s2 i) (hG : ∀ i, Gf i = XX (1 - x1) s1 (1 - x2) s2 i) (h1 : x1 ≤ 1) (h2 : x2 ≤ 1) (t1 : s1 < 101) (t2 : s2 < 101) (hlab : lab = 0 ∨ lab = 1) (k1 : fl ≤ 2) (k2 : tp ≤ 2) (k3 : fp ≤ 2) (o1 : JF tp fl) (o2 : JF tp (x1 + x2)) (o3 : JF (2 * tp) (fl + (x1 + x2))) (o4 : JF fp (2 - (x1 + x2))) :
  Q1 l Z y9 prog_19_method_4_code 6 (some (.object "java/util/List")) ⟨13, 255, 7760, 302⟩ #[.ref sc] h0 (fun a => h0.size ≤ a) (oH Z Kr h0 xs) (fun v h vm => ∃ a ea cap ps, v = some (.ref a) ∧ Gr Z h a ea cap ps ∧ cap ≤ 15 ∧ (lab = 0 ∧ ps.map Prod.snd = [oU "transactions " ++ oN 2, oU "evaluated " ++ oN 2, oU "flagged " ++ oN fl] ∨ lab = 1 ∧ ps.map Prod.snd = [oU "transactions " ++ oN 2, oU "evaluated " ++ oN 2, oU "flagged " ++ oN fl, oU "frauds " ++ oN (x1 + x2), oU "true_positives " ++ oN tp, oU "false_positives " ++ oN fp, oU "precision " ++ Xn (YQ tp fl), oU "recall " ++ Xn (YQ tp (x1 + x2)), oU "f1 " ++ Xn (YQ (2 * tp) (fl + (x1 + x2))), oU "false_positive_rate " ++ Xn (YQ fp (2 - (x1 + x2))), oU "auc " ++ Xn (YQ (Ym Ff Gf 101) (2 * (x1 + x2) * (2 - (x1 + x2)))), oU "average_precision " ++ Xn (Gs x1 s1 x2 s2)]) ∧ oH Z Kr h xs vm) := by
 refine Q1.of Ab (fun _ q => q) (fun E _ q => Nat.le_trans E.1 q) Vf (oH.js (QM hw)) ?_
 intro p e s m below meth c C hs
 have u1 := h1
 have u2 := h2
 refine QE 0 C (hw.g 72) (hw.g 73) (hw.g 74) (d9.g 0) ?_
 intro h1 a ha hPa E1 XL D1
 have FM := D1 (Or.inl (hw.g 92)) (ty := .int) (by decide)
 have FN := D1 (Or.inl (hw.g 254)) (ty := .int) (by decide)
 have FD := D1 (Or.inl (hw.g 95)) (ty := (.array (.object "java/lang/Object"))) (by decide)
 refine kJ hw (fun _ H => H.ext E1) ?_
 have E := E1
 refine Ku 3 C (d9.g 1) rfl ?_
 refine KV 4 C (Db hw W a _ (C.young a hPa) XL FM FN FD) (hw.g 75) (hw.g 76) (hw.g 74) (hw.g 77) QL (d9.g 2) (argsL := []) rfl rfl rfl rfl (hP := (fun x q r => r.elim (fun z => z ▸ hPa) (fun z => C.new x (Nat.le_trans q z)))) ?_
 rintro _ h2 ⟨rfl, d, Sd, Ad, XL', FM, FNl, FD⟩ K2
 refine kJ hw (fun _ H => H.o1 XL (by decide) (by decide) K2) ?_
 replace E := Km.e1 E K2 hPa
 replace XL := XL'
 clear XL' K2 E1 D1 FN
 refine KY 7 C (Ls' := [_, _, _, _, _, _]) (d9.g 3) rfl rfl ?_
 refine K0 8 C (d9.g 4) ?_
 refine QE 9 C (hw.g 96) (hw.g 97) (hw.g 98) (d9.g 5) ?_
 intro h1 sb hsb hPs E1 X1 D1
 have FV := D1 (Or.inl (hw.g 113)) (ty := (.array .byte)) (by decide)
 have FC := D1 (Or.inl (hw.g 115)) (ty := .byte) (by decide)
 have FN := D1 (Or.inl (hw.g 146)) (ty := .int) (by decide)
 refine kJ hw (fun _ H => H.ext E1) ?_
 have LE := E1
 have hls := Nat.le_of_eq hsb.symm
 replace E := Ki.tr E E1
 refine Ku 12 C (d9.g 6) rfl ?_
 refine KV 13 C (YM hw W sb _ (C.young sb hPs) X1 FV FC FN) (hw.g 99) (hw.g 100) (hw.g 98) (hw.g 101) QL (d9.g 7) (argsL := []) rfl rfl rfl rfl (hP := (fun x q r => r.elim (fun z => z ▸ hPs) (fun z => C.new x (Nat.le_trans q z)))) ?_
 rintro _ h2 ⟨rfl, va, hva, F⟩ K2
 have hPv := Nat.le_trans E.1 hva
 have hlv := Nat.le_trans LE.1 hva
 replace E := Km.e1 E K2 hPs
 replace LE := Km.e1 LE K2 hls
 refine kJ hw (fun _ H => H.sb0 X1 K2 hva F) ?_
 refine kL hw 16 C 0 52 (hw.g 116) (d9.g 8) ?_
 intro z h3 E3 S3
 replace F := F.ext E3
 replace E := Ki.tr E E3
 replace LE := Ki.tr LE E3
 have e1 := E.1
 have e2 := LE.1
 refine KI 18 C (XP hw W sb _ z [] _ _ F S3 (by decide) (C.young sb hPs) (C.young _ hPv)) (F.X) (hw.g 122) (hw.g 123) (QF (hw.g 125)) (hw.g 125) (hw.g 124) (hw.g 98) (hw.g 126) QS (d9.g 9) (argsL := [_]) rfl rfl rfl rfl (hP := (fun x q r => r.elim (fun z => z ▸ hPs) (fun r => r.elim (fun z => z ▸ hPv) (fun z => C.new x (Nat.le_trans q z))))) ?_
 rintro _ h4 ⟨rfl, va', hv', F'⟩ K4
 replace E := Km.e2 E K4 hPs hPv
 replace LE := Km.e2 LE K4 hls hlv
 replace hPv := hv'.elim (fun z => z ▸ hPv) (fun z => Nat.le_trans e1 z)
 replace hlv := hv'.elim (fun z => z ▸ hlv) (fun z => Nat.le_trans e2 z)
 refine kJ hw (fun _ H => H.sbk F K4 hv' F') ?_
 replace F := F'
 clear F' hv' e1 e2 K4
 refine K0 21 C (d9.g 10) ?_
 refine KF 22 C (hw.g 172) Via.refl (S.ext E).H (d9.g 11) ?_
 refine K0 25 C (d9.g 12) ?_
 refine KF 26 C (hw.g 47) Via.refl (S.ext E).E (d9.g 13) ?_
 refine QT 29 C (d9.g 14) ?_
 rw [show (0 : Int64) + Int64.ofNat 2 = Int64.ofNat 2 from by decide]
 have e1 := E.1
 have e2 := LE.1
 refine KI 30 C (JC hw W sb _ _ _ _ F (by decide) (by decide) (C.young sb hPs) (C.young _ hPv)) (F.X) (hw.g 174) (hw.g 175) (QF (hw.g 177)) (hw.g 177) (hw.g 176) (hw.g 98) (hw.g 178) YX (d9.g 15) (argsL := [_]) rfl rfl rfl rfl (hP := (fun x q r => r.elim (fun z => z ▸ hPs) (fun r => r.elim (fun z => z ▸ hPv) (fun z => C.new x (Nat.le_trans q z))))) ?_
 rintro _ h4 ⟨rfl, va', hv', F'⟩ K4
 replace E := Km.e2 E K4 hPs hPv
 replace LE := Km.e2 LE K4 hls hlv
 replace hPv := hv'.elim (fun z => z ▸ hPv) (fun z => Nat.le_trans e1 z)
 replace hlv := hv'.elim (fun z => z ▸ hlv) (fun z => Nat.le_trans e2 z)
 refine kJ hw (fun _ H => H.sbk F K4 hv' F') ?_
 replace F := F'
 clear F' hv' e1 e2 K4
 refine KI 33 C (Y5 hw W sb _ _ _ F) (F.X) (hw.g 199) (hw.g 200) (QF (hw.g 202)) (hw.g 202) (hw.g 201) (hw.g 98) (hw.g 203) Qr (d9.g 16) (argsL := []) rfl rfl rfl rfl ?_
 rintro _ h6 ⟨q0, rfl, hq, Sq⟩ K6
 refine kJ hw (fun _ H => (H.fr K6).tl) ?_
 replace E := Km.e0 E K6
 replace LE := Km.e0 LE K6
 replace Sq := Sq.eq (ws := oU "transactions " ++ oN 2) rfl
 refine Q4 36 C (BE hw a d q0 _ (C.young a hPa) Sd Ad (XL.ext LE) (FM.ext LE) (FNl.ext LE) (FD.ext LE) _ Sq) (XL.ext LE) (hw.g 242) (hw.g 243) (hw.g 244) (hw.g 245) (hw.g 246) (hw.g 247) (hw.g 248) (hw.g 249) (hw.g 74) (hw.g 250) QP (d9.g 17) (argsL := [_]) rfl rfl rfl rfl (hP := (fun x q r => r.elim (fun z => z ▸ hPa) (fun z => C.new x (Nat.le_trans q z)))) ?_
 rintro _ h7 ⟨rfl, ea, hea, LL⟩ K7
 have hPe := Nat.le_trans E.1 hea
 refine kJ hw (fun _ H => H.o1 (XL.ext LE) (by decide) (by decide) K7) ?_
 replace E := Km.e1 E K7 hPa
 refine QR 41 C (d9.g 18) rfl ?_
 clear LE hls hPs X1 D1 FV FC FN K2 hva S3 E3 F K6 Sq K7 hsb E1 hq hPv hlv
 refine K0 42 C (d9.g 19) ?_
 refine QE 43 C (hw.g 96) (hw.g 97) (hw.g 98) (d9.g 20) ?_
 intro h1 sb hsb hPs E1 X1 D1
 have FV := D1 (Or.inl (hw.g 113)) (ty := (.array .byte)) (by decide)
 have FC := D1 (Or.inl (hw.g 115)) (ty := .byte) (by decide)
 have FN := D1 (Or.inl (hw.g 146)) (ty := .int) (by decide)
 refine kJ hw (fun _ H => H.ext E1) ?_
 have LE := E1
 have hls := Nat.le_of_eq hsb.symm
 replace E := Ki.tr E E1
 refine Ku 46 C (d9.g 21) rfl ?_
 refine KV 47 C (YM hw W sb _ (C.young sb hPs) X1 FV FC FN) (hw.g 99) (hw.g 100) (hw.g 98) (hw.g 101) QL (d9.g 22) (argsL := []) rfl rfl rfl rfl (hP := (fun x q r => r.elim (fun z => z ▸ hPs) (fun z => C.new x (Nat.le_trans q z)))) ?_
 rintro _ h2 ⟨rfl, va, hva, F⟩ K2
 have hPv := Nat.le_trans E.1 hva
 have hlv := Nat.le_trans LE.1 hva
 replace E := Km.e1 E K2 hPs
 replace LE := Km.e1 LE K2 hls
 refine kJ hw (fun _ H => H.sb0 X1 K2 hva F) ?_
 refine kL hw 50 C 1 40 (hw.g 276) (d9.g 23) ?_
 intro z h3 E3 S3
 replace F := F.ext E3
 replace E := Ki.tr E E3
 replace LE := Ki.tr LE E3
 have e1 := E.1
 have e2 := LE.1
 refine KI 52 C (XP hw W sb _ z [] _ _ F S3 (by decide) (C.young sb hPs) (C.young _ hPv)) (F.X) (hw.g 122) (hw.g 123) (QF (hw.g 125)) (hw.g 125) (hw.g 124) (hw.g 98) (hw.g 126) QS (d9.g 24) (argsL := [_]) rfl rfl rfl rfl (hP := (fun x q r => r.elim (fun z => z ▸ hPs) (fun r => r.elim (fun z => z ▸ hPv) (fun z => C.new x (Nat.le_trans q z))))) ?_
 rintro _ h4 ⟨rfl, va', hv', F'⟩ K4
 replace E := Km.e2 E K4 hPs hPv
 replace LE := Km.e2 LE K4 hls hlv
 replace hPv := hv'.elim (fun z => z ▸ hPv) (fun z => Nat.le_trans e1 z)
 replace hlv := hv'.elim (fun z => z ▸ hlv) (fun z => Nat.le_trans e2 z)
 refine kJ hw (fun _ H => H.sbk F K4 hv' F') ?_
 replace F := F'
 clear F' hv' e1 e2 K4
 refine K0 55 C (d9.g 25) ?_
 refine KF 56 C (hw.g 47) Via.refl (S.ext E).E (d9.g 26) ?_
 have e1 := E.1
 have e2 := LE.1
 refine KI 59 C (JC hw W sb _ _ _ _ F (by decide) (by decide) (C.young sb hPs) (C.young _ hPv)) (F.X) (hw.g 174) (hw.g 175) (QF (hw.g 177)) (hw.g 177) (hw.g 176) (hw.g 98) (hw.g 178) YX (d9.g 27) (argsL := [_]) rfl rfl rfl rfl (hP := (fun x q r => r.elim (fun z => z ▸ hPs) (fun r => r.elim (fun z => z ▸ hPv) (fun z => C.new x (Nat.le_trans q z))))) ?_
 rintro _ h4 ⟨rfl, va', hv', F'⟩ K4
 replace E := Km.e2 E K4 hPs hPv
 replace LE := Km.e2 LE K4 hls hlv
 replace hPv := hv'.elim (fun z => z ▸ hPv) (fun z => Nat.le_trans e1 z)
 replace hlv := hv'.elim (fun z => z ▸ hlv) (fun z => Nat.le_trans e2 z)
 refine kJ hw (fun _ H => H.sbk F K4 hv' F') ?_
 replace F := F'
 clear F' hv' e1 e2 K4
 refine KI 62 C (Y5 hw W sb _ _ _ F) (F.X) (hw.g 199) (hw.g 200) (QF (hw.g 202)) (hw.g 202) (hw.g 201) (hw.g 98) (hw.g 203) Qr (d9.g 28) (argsL := []) rfl rfl rfl rfl ?_
 rintro _ h6 ⟨q1, rfl, hq, Sq⟩ K6
 refine kJ hw (fun _ H => (H.fr K6).tl) ?_
 replace E := Km.e0 E K6
 replace LE := Km.e0 LE K6
 replace Sq := Sq.eq (ws := oU "evaluated " ++ oN 2) rfl
 refine Q4 65 C (GH hw a ea q1 _ _ _ _ (LL.ext LE) Sq (by simp) (by decide) (C.young a hPa) (C.young _ hPe)) ((LL.ext LE).R.X) (hw.g 242) (hw.g 243) (hw.g 244) (hw.g 245) (hw.g 246) (hw.g 247) (hw.g 248) (hw.g 249) (hw.g 74) (hw.g 250) QP (d9.g 29) (argsL := [_]) rfl rfl rfl rfl (hP := (fun x q r => r.elim (fun z => z ▸ hPa) (fun r => r.elim (fun z => z ▸ hPe) (fun z => C.new x (Nat.le_trans q z))))) ?_
 rintro _ h7 ⟨rfl, LL'⟩ K7
 refine kJ hw (fun _ H => H.al (LL.ext LE).R K7) ?_
 replace E := Km.e2 E K7 hPa hPe
 replace LL := LL'
 refine QR 70 C (d9.g 30) rfl ?_
 clear LE hls hPs X1 D1 FV FC FN K2 hva S3 E3 F K6 Sq K7 hsb E1 hq hPv hlv
 refine K0 71 C (d9.g 31) ?_
 refine QE 72 C (hw.g 96) (hw.g 97) (hw.g 98) (d9.g 32) ?_
 intro h1 sb hsb hPs E1 X1 D1
 have FV := D1 (Or.inl (hw.g 113)) (ty := (.array .byte)) (by decide)
 have FC := D1 (Or.inl (hw.g 115)) (ty := .byte) (by decide)
 have FN := D1 (Or.inl (hw.g 146)) (ty := .int) (by decide)
 refine kJ hw (fun _ H => H.ext E1) ?_
 have LE := E1
 have hls := Nat.le_of_eq hsb.symm
 replace E := Ki.tr E E1
 refine Ku 75 C (d9.g 33) rfl ?_
 refine KV 76 C (YM hw W sb _ (C.young sb hPs) X1 FV FC FN) (hw.g 99) (hw.g 100) (hw.g 98) (hw.g 101) QL (d9.g 34) (argsL := []) rfl rfl rfl rfl (hP := (fun x q r => r.elim (fun z => z ▸ hPs) (fun z => C.new x (Nat.le_trans q z)))) ?_
 rintro _ h2 ⟨rfl, va, hva, F⟩ K2
 have hPv := Nat.le_trans E.1 hva
 have hlv := Nat.le_trans LE.1 hva
 replace E := Km.e1 E K2 hPs
 replace LE := Km.e1 LE K2 hls
 refine kJ hw (fun _ H => H.sb0 X1 K2 hva F) ?_
 refine kL hw 79 C 2 32 (hw.g 277) (d9.g 35) ?_
 intro z h3 E3 S3
 replace F := F.ext E3
 replace E := Ki.tr E E3
 replace LE := Ki.tr LE E3
 have e1 := E.1
 have e2 := LE.1
 refine KI 81 C (XP hw W sb _ z [] _ _ F S3 (by decide) (C.young sb hPs) (C.young _ hPv)) (F.X) (hw.g 122) (hw.g 123) (QF (hw.g 125)) (hw.g 125) (hw.g 124) (hw.g 98) (hw.g 126) QS (d9.g 36) (argsL := [_]) rfl rfl rfl rfl (hP := (fun x q r => r.elim (fun z => z ▸ hPs) (fun r => r.elim (fun z => z ▸ hPv) (fun z => C.new x (Nat.le_trans q z))))) ?_
 rintro _ h4 ⟨rfl, va', hv', F'⟩ K4
 replace E := Km.e2 E K4 hPs hPv
 replace LE := Km.e2 LE K4 hls hlv
 replace hPv := hv'.elim (fun z => z ▸ hPv) (fun z => Nat.le_trans e1 z)
 replace hlv := hv'.elim (fun z => z ▸ hlv) (fun z => Nat.le_trans e2 z)
 refine kJ hw (fun _ H => H.sbk F K4 hv' F') ?_
 replace F := F'
 clear F' hv' e1 e2 K4
 refine K0 84 C (d9.g 37) ?_
 refine KF 85 C (hw.g 56) Via.refl (S.ext E).G (d9.g 38) ?_
 have e1 := E.1
 have e2 := LE.1
 refine KI 88 C (JC hw W sb _ _ _ _ F k1 (by decide) (C.young sb hPs) (C.young _ hPv)) (F.X) (hw.g 174) (hw.g 175) (QF (hw.g 177)) (hw.g 177) (hw.g 176) (hw.g 98) (hw.g 178) YX (d9.g 39) (argsL := [_]) rfl rfl rfl rfl (hP := (fun x q r => r.elim (fun z => z ▸ hPs) (fun r => r.elim (fun z => z ▸ hPv) (fun z => C.new x (Nat.le_trans q z))))) ?_
 rintro _ h4 ⟨rfl, va', hv', F'⟩ K4
 replace E := Km.e2 E K4 hPs hPv
 replace LE := Km.e2 LE K4 hls hlv
 replace hPv := hv'.elim (fun z => z ▸ hPv) (fun z => Nat.le_trans e1 z)
 replace hlv := hv'.elim (fun z => z ▸ hlv) (fun z => Nat.le_trans e2 z)
 refine kJ hw (fun _ H => H.sbk F K4 hv' F') ?_
 replace F := F'
 clear F' hv' e1 e2 K4
 refine KI 91 C (Y5 hw W sb _ _ _ F) (F.X) (hw.g 199) (hw.g 200) (QF (hw.g 202)) (hw.g 202) (hw.g 201) (hw.g 98) (hw.g 203) Qr (d9.g 40) (argsL := []) rfl rfl rfl rfl ?_
 rintro _ h6 ⟨q2, rfl, hq, Sq⟩ K6
 refine kJ hw (fun _ H => (H.fr K6).tl) ?_
 replace E := Km.e0 E K6
 replace LE := Km.e0 LE K6
 replace Sq := Sq.eq (ws := oU "flagged " ++ oN fl) rfl
 refine Q4 94 C (GH hw a ea q2 _ _ _ _ (LL.ext LE) Sq (by simp) (by decide) (C.young a hPa) (C.young _ hPe)) ((LL.ext LE).R.X) (hw.g 242) (hw.g 243) (hw.g 244) (hw.g 245) (hw.g 246) (hw.g 247) (hw.g 248) (hw.g 249) (hw.g 74) (hw.g 250) QP (d9.g 41) (argsL := [_]) rfl rfl rfl rfl (hP := (fun x q r => r.elim (fun z => z ▸ hPa) (fun r => r.elim (fun z => z ▸ hPe) (fun z => C.new x (Nat.le_trans q z))))) ?_
 rintro _ h7 ⟨rfl, LL'⟩ K7
 refine kJ hw (fun _ H => H.al (LL.ext LE).R K7) ?_
 replace E := Km.e2 E K7 hPa hPe
 replace LL := LL'
 refine QR 99 C (d9.g 42) rfl ?_
 clear LE hls hPs X1 D1 FV FC FN K2 hva S3 E3 F K6 Sq K7 hsb E1 hq hPv hlv
 refine K0 100 C (d9.g 43) ?_
 refine KF 101 C (hw.g 15) Via.refl (S.ext E).L (d9.g 44) ?_
 rcases hlab with rfl | rfl
 ·refine KW 104 C (d9.g 45) ?_
  refine K0 107 C (d9.g 46) ?_
  refine KL 108 C (d9.g 47) (fun _ H => ⟨a, ea, _, _, rfl, LL, by decide, Or.inl ⟨rfl, rfl⟩, H⟩)
 ·refine KQ 104 C 109 (d9.g 45) ?_
  refine K0 109 C (d9.g 48) ?_
  refine KF 110 C (hw.g 11) Via.refl (S.ext E).A (d9.g 49) ?_
  refine KK 113 C (Dj hw fa Ff _ (S.ext E).VF) (hw.g 329) (hw.g 330) (hw.g 3) (hw.g 331) VX (d9.g 50) (argsL := [_]) rfl rfl rfl rfl ?_
  rintro _ _ ⟨rfl, rfl⟩ -
  rw [HR hF, if_pos t1, if_pos t2]
  refine K_ 116 C (Ls' := [_, _, _, _, _, _]) (d9.g 51) rfl ?_
  refine K0 117 C (d9.g 52) ?_
  refine KF 118 C (hw.g 47) Via.refl (S.ext E).E (d9.g 53) ?_
  refine KJ 121 C (d9.g 54) ?_
  refine Jh 122 C (d9.g 55) ?_
  rw [Rl u1 u2]
  refine Ky 123 C (Ls' := [_, _, _, _, _, _]) (d9.g 56) rfl ?_
  refine K0 125 C (d9.g 57) ?_
  refine QE 126 C (hw.g 96) (hw.g 97) (hw.g 98) (d9.g 58) ?_
  intro h1 sb hsb hPs E1 X1 D1
  have FV := D1 (Or.inl (hw.g 113)) (ty := (.array .byte)) (by decide)
  have FC := D1 (Or.inl (hw.g 115)) (ty := .byte) (by decide)
  have FN := D1 (Or.inl (hw.g 146)) (ty := .int) (by decide)
  refine kJ hw (fun _ H => H.ext E1) ?_
  have LE := E1
  have hls := Nat.le_of_eq hsb.symm
  replace E := Ki.tr E E1
  refine Ku 129 C (d9.g 59) rfl ?_
  refine KV 130 C (YM hw W sb _ (C.young sb hPs) X1 FV FC FN) (hw.g 99) (hw.g 100) (hw.g 98) (hw.g 101) QL (d9.g 60) (argsL := []) rfl rfl rfl rfl (hP := (fun x q r => r.elim (fun z => z ▸ hPs) (fun z => C.new x (Nat.le_trans q z)))) ?_
  rintro _ h2 ⟨rfl, va, hva, F⟩ K2
  have hPv := Nat.le_trans E.1 hva
  have hlv := Nat.le_trans LE.1 hva
  replace E := Km.e1 E K2 hPs
  replace LE := Km.e1 LE K2 hls
  refine kJ hw (fun _ H => H.sb0 X1 K2 hva F) ?_
  refine kL hw 133 C 8 28 (hw.g 332) (d9.g 61) ?_
  intro z h3 E3 S3
  replace F := F.ext E3
  replace E := Ki.tr E E3
  replace LE := Ki.tr LE E3
  have e1 := E.1
  have e2 := LE.1
  refine KI 135 C (XP hw W sb _ z [] _ _ F S3 (by decide) (C.young sb hPs) (C.young _ hPv)) (F.X) (hw.g 122) (hw.g 123) (QF (hw.g 125)) (hw.g 125) (hw.g 124) (hw.g 98) (hw.g 126) QS (d9.g 62) (argsL := [_]) rfl rfl rfl rfl (hP := (fun x q r => r.elim (fun z => z ▸ hPs) (fun r => r.elim (fun z => z ▸ hPv) (fun z => C.new x (Nat.le_trans q z))))) ?_
  rintro _ h4 ⟨rfl, va', hv', F'⟩ K4
  replace E := Km.e2 E K4 hPs hPv
  replace LE := Km.e2 LE K4 hls hlv
  replace hPv := hv'.elim (fun z => z ▸ hPv) (fun z => Nat.le_trans e1 z)
  replace hlv := hv'.elim (fun z => z ▸ hlv) (fun z => Nat.le_trans e2 z)
  refine kJ hw (fun _ H => H.sbk F K4 hv' F') ?_
  replace F := F'
  clear F' hv' e1 e2 K4
  refine KJ 138 C (d9.g 63) ?_
  have e1 := E.1
  have e2 := LE.1
  refine KI 139 C (JC hw W sb _ _ _ _ F (by omega) (by decide) (C.young sb hPs) (C.young _ hPv)) (F.X) (hw.g 174) (hw.g 175) (QF (hw.g 177)) (hw.g 177) (hw.g 176) (hw.g 98) (hw.g 178) YX (d9.g 64) (argsL := [_]) rfl rfl rfl rfl (hP := (fun x q r => r.elim (fun z => z ▸ hPs) (fun r => r.elim (fun z => z ▸ hPv) (fun z => C.new x (Nat.le_trans q z))))) ?_
  rintro _ h4 ⟨rfl, va', hv', F'⟩ K4
  replace E := Km.e2 E K4 hPs hPv
  replace LE := Km.e2 LE K4 hls hlv
  replace hPv := hv'.elim (fun z => z ▸ hPv) (fun z => Nat.le_trans e1 z)
  replace hlv := hv'.elim (fun z => z ▸ hlv) (fun z => Nat.le_trans e2 z)
  refine kJ hw (fun _ H => H.sbk F K4 hv' F') ?_
  replace F := F'
  clear F' hv' e1 e2 K4
  refine KI 142 C (Y5 hw W sb _ _ _ F) (F.X) (hw.g 199) (hw.g 200) (QF (hw.g 202)) (hw.g 202) (hw.g 201) (hw.g 98) (hw.g 203) Qr (d9.g 65) (argsL := []) rfl rfl rfl rfl ?_
  rintro _ h6 ⟨q3, rfl, hq, Sq⟩ K6
  refine kJ hw (fun _ H => (H.fr K6).tl) ?_
  replace E := Km.e0 E K6
  replace LE := Km.e0 LE K6
  replace Sq := Sq.eq (ws := oU "frauds " ++ oN (x1 + x2)) rfl
  refine Q4 145 C (GH hw a ea q3 _ _ _ _ (LL.ext LE) Sq (by simp) (by decide) (C.young a hPa) (C.young _ hPe)) ((LL.ext LE).R.X) (hw.g 242) (hw.g 243) (hw.g 244) (hw.g 245) (hw.g 246) (hw.g 247) (hw.g 248) (hw.g 249) (hw.g 74) (hw.g 250) QP (d9.g 66) (argsL := [_]) rfl rfl rfl rfl (hP := (fun x q r => r.elim (fun z => z ▸ hPa) (fun r => r.elim (fun z => z ▸ hPe) (fun z => C.new x (Nat.le_trans q z))))) ?_
  rintro _ h7 ⟨rfl, LL'⟩ K7
  refine kJ hw (fun _ H => H.al (LL.ext LE).R K7) ?_
  replace E := Km.e2 E K7 hPa hPe
  replace LL := LL'
  refine QR 150 C (d9.g 67) rfl ?_
  clear LE hls hPs X1 D1 FV FC FN K2 hva S3 E3 F K6 Sq K7 hsb E1 hq hPv hlv
  refine K0 151 C (d9.g 68) ?_
  refine QE 152 C (hw.g 96) (hw.g 97) (hw.g 98) (d9.g 69) ?_
  intro h1 sb hsb hPs E1 X1 D1
  have FV := D1 (Or.inl (hw.g 113)) (ty := (.array .byte)) (by decide)
  have FC := D1 (Or.inl (hw.g 115)) (ty := .byte) (by decide)
  have FN := D1 (Or.inl (hw.g 146)) (ty := .int) (by decide)
  refine kJ hw (fun _ H => H.ext E1) ?_
  have LE := E1
  have hls := Nat.le_of_eq hsb.symm
  replace E := Ki.tr E E1
  refine Ku 155 C (d9.g 70) rfl ?_
  refine KV 156 C (YM hw W sb _ (C.young sb hPs) X1 FV FC FN) (hw.g 99) (hw.g 100) (hw.g 98) (hw.g 101) QL (d9.g 71) (argsL := []) rfl rfl rfl rfl (hP := (fun x q r => r.elim (fun z => z ▸ hPs) (fun z => C.new x (Nat.le_trans q z)))) ?_
  rintro _ h2 ⟨rfl, va, hva, F⟩ K2
  have hPv := Nat.le_trans E.1 hva
  have hlv := Nat.le_trans LE.1 hva
  replace E := Km.e1 E K2 hPs
  replace LE := Km.e1 LE K2 hls
  refine kJ hw (fun _ H => H.sb0 X1 K2 hva F) ?_
  refine kL hw 159 C 9 60 (hw.g 333) (d9.g 72) ?_
  intro z h3 E3 S3
  replace F := F.ext E3
  replace E := Ki.tr E E3
  replace LE := Ki.tr LE E3
  have e1 := E.1
  have e2 := LE.1
  refine KI 161 C (XP hw W sb _ z [] _ _ F S3 (by decide) (C.young sb hPs) (C.young _ hPv)) (F.X) (hw.g 122) (hw.g 123) (QF (hw.g 125)) (hw.g 125) (hw.g 124) (hw.g 98) (hw.g 126) QS (d9.g 73) (argsL := [_]) rfl rfl rfl rfl (hP := (fun x q r => r.elim (fun z => z ▸ hPs) (fun r => r.elim (fun z => z ▸ hPv) (fun z => C.new x (Nat.le_trans q z))))) ?_
  rintro _ h4 ⟨rfl, va', hv', F'⟩ K4
  replace E := Km.e2 E K4 hPs hPv
  replace LE := Km.e2 LE K4 hls hlv
  replace hPv := hv'.elim (fun z => z ▸ hPv) (fun z => Nat.le_trans e1 z)
  replace hlv := hv'.elim (fun z => z ▸ hlv) (fun z => Nat.le_trans e2 z)
  refine kJ hw (fun _ H => H.sbk F K4 hv' F') ?_
  replace F := F'
  clear F' hv' e1 e2 K4
  refine K0 164 C (d9.g 74) ?_
  refine KF 165 C (hw.g 326) Via.refl (S.ext E).T (d9.g 75) ?_
  have e1 := E.1
  have e2 := LE.1
  refine KI 168 C (JC hw W sb _ _ _ _ F k2 (by decide) (C.young sb hPs) (C.young _ hPv)) (F.X) (hw.g 174) (hw.g 175) (QF (hw.g 177)) (hw.g 177) (hw.g 176) (hw.g 98) (hw.g 178) YX (d9.g 76) (argsL := [_]) rfl rfl rfl rfl (hP := (fun x q r => r.elim (fun z => z ▸ hPs) (fun r => r.elim (fun z => z ▸ hPv) (fun z => C.new x (Nat.le_trans q z))))) ?_
  rintro _ h4 ⟨rfl, va', hv', F'⟩ K4
  replace E := Km.e2 E K4 hPs hPv
  replace LE := Km.e2 LE K4 hls hlv
  replace hPv := hv'.elim (fun z => z ▸ hPv) (fun z => Nat.le_trans e1 z)
  replace hlv := hv'.elim (fun z => z ▸ hlv) (fun z => Nat.le_trans e2 z)
  refine kJ hw (fun _ H => H.sbk F K4 hv' F') ?_
  replace F := F'
  clear F' hv' e1 e2 K4
  refine KI 171 C (Y5 hw W sb _ _ _ F) (F.X) (hw.g 199) (hw.g 200) (QF (hw.g 202)) (hw.g 202) (hw.g 201) (hw.g 98) (hw.g 203) Qr (d9.g 77) (argsL := []) rfl rfl rfl rfl ?_
  rintro _ h6 ⟨q4, rfl, hq, Sq⟩ K6
  refine kJ hw (fun _ H => (H.fr K6).tl) ?_
  replace E := Km.e0 E K6
  replace LE := Km.e0 LE K6
  replace Sq := Sq.eq (ws := oU "true_positives " ++ oN tp) rfl
  refine Q4 174 C (GH hw a ea q4 _ _ _ _ (LL.ext LE) Sq (by simp) (by decide) (C.young a hPa) (C.young _ hPe)) ((LL.ext LE).R.X) (hw.g 242) (hw.g 243) (hw.g 244) (hw.g 245) (hw.g 246) (hw.g 247) (hw.g 248) (hw.g 249) (hw.g 74) (hw.g 250) QP (d9.g 78) (argsL := [_]) rfl rfl rfl rfl (hP := (fun x q r => r.elim (fun z => z ▸ hPa) (fun r => r.elim (fun z => z ▸ hPe) (fun z => C.new x (Nat.le_trans q z))))) ?_
  rintro _ h7 ⟨rfl, LL'⟩ K7
  refine kJ hw (fun _ H => H.al (LL.ext LE).R K7) ?_
  replace E := Km.e2 E K7 hPa hPe
  replace LL := LL'
  refine QR 179 C (d9.g 79) rfl ?_
  clear LE hls hPs X1 D1 FV FC FN K2 hva S3 E3 F K6 Sq K7 hsb E1 hq hPv hlv
  refine K0 180 C (d9.g 80) ?_
  refine QE 181 C (hw.g 96) (hw.g 97) (hw.g 98) (d9.g 81) ?_
  intro h1 sb hsb hPs E1 X1 D1
  have FV := D1 (Or.inl (hw.g 113)) (ty := (.array .byte)) (by decide)
  have FC := D1 (Or.inl (hw.g 115)) (ty := .byte) (by decide)
  have FN := D1 (Or.inl (hw.g 146)) (ty := .int) (by decide)
  refine kJ hw (fun _ H => H.ext E1) ?_
  have LE := E1
  have hls := Nat.le_of_eq hsb.symm
  replace E := Ki.tr E E1
  refine Ku 184 C (d9.g 82) rfl ?_
  refine KV 185 C (YM hw W sb _ (C.young sb hPs) X1 FV FC FN) (hw.g 99) (hw.g 100) (hw.g 98) (hw.g 101) QL (d9.g 83) (argsL := []) rfl rfl rfl rfl (hP := (fun x q r => r.elim (fun z => z ▸ hPs) (fun z => C.new x (Nat.le_trans q z)))) ?_
  rintro _ h2 ⟨rfl, va, hva, F⟩ K2
  have hPv := Nat.le_trans E.1 hva
  have hlv := Nat.le_trans LE.1 hva
  replace E := Km.e1 E K2 hPs
  replace LE := Km.e1 LE K2 hls
  refine kJ hw (fun _ H => H.sb0 X1 K2 hva F) ?_
  refine kL hw 188 C 10 64 (hw.g 343) (d9.g 84) ?_
  intro z h3 E3 S3
  replace F := F.ext E3
  replace E := Ki.tr E E3
  replace LE := Ki.tr LE E3
  have e1 := E.1
  have e2 := LE.1
  refine KI 190 C (XP hw W sb _ z [] _ _ F S3 (by decide) (C.young sb hPs) (C.young _ hPv)) (F.X) (hw.g 122) (hw.g 123) (QF (hw.g 125)) (hw.g 125) (hw.g 124) (hw.g 98) (hw.g 126) QS (d9.g 85) (argsL := [_]) rfl rfl rfl rfl (hP := (fun x q r => r.elim (fun z => z ▸ hPs) (fun r => r.elim (fun z => z ▸ hPv) (fun z => C.new x (Nat.le_trans q z))))) ?_
  rintro _ h4 ⟨rfl, va', hv', F'⟩ K4
  replace E := Km.e2 E K4 hPs hPv
  replace LE := Km.e2 LE K4 hls hlv
  replace hPv := hv'.elim (fun z => z ▸ hPv) (fun z => Nat.le_trans e1 z)
  replace hlv := hv'.elim (fun z => z ▸ hlv) (fun z => Nat.le_trans e2 z)
  refine kJ hw (fun _ H => H.sbk F K4 hv' F') ?_
  replace F := F'
  clear F' hv' e1 e2 K4
  refine K0 193 C (d9.g 86) ?_
  refine KF 194 C (hw.g 63) Via.refl (S.ext E).Q (d9.g 87) ?_
  have e1 := E.1
  have e2 := LE.1
  refine KI 197 C (JC hw W sb _ _ _ _ F k3 (by decide) (C.young sb hPs) (C.young _ hPv)) (F.X) (hw.g 174) (hw.g 175) (QF (hw.g 177)) (hw.g 177) (hw.g 176) (hw.g 98) (hw.g 178) YX (d9.g 88) (argsL := [_]) rfl rfl rfl rfl (hP := (fun x q r => r.elim (fun z => z ▸ hPs) (fun r => r.elim (fun z => z ▸ hPv) (fun z => C.new x (Nat.le_trans q z))))) ?_
  rintro _ h4 ⟨rfl, va', hv', F'⟩ K4
  replace E := Km.e2 E K4 hPs hPv
  replace LE := Km.e2 LE K4 hls hlv
  replace hPv := hv'.elim (fun z => z ▸ hPv) (fun z => Nat.le_trans e1 z)
  replace hlv := hv'.elim (fun z => z ▸ hlv) (fun z => Nat.le_trans e2 z)
  refine kJ hw (fun _ H => H.sbk F K4 hv' F') ?_
  replace F := F'
  clear F' hv' e1 e2 K4
  refine KI 200 C (Y5 hw W sb _ _ _ F) (F.X) (hw.g 199) (hw.g 200) (QF (hw.g 202)) (hw.g 202) (hw.g 201) (hw.g 98) (hw.g 203) Qr (d9.g 89) (argsL := []) rfl rfl rfl rfl ?_
  rintro _ h6 ⟨q5, rfl, hq, Sq⟩ K6
  refine kJ hw (fun _ H => (H.fr K6).tl) ?_
  replace E := Km.e0 E K6
  replace LE := Km.e0 LE K6
  replace Sq := Sq.eq (ws := oU "false_positives " ++ oN fp) rfl
  refine Q4 203 C (GH hw a ea q5 _ _ _ _ (LL.ext LE) Sq (by simp) (by decide) (C.young a hPa) (C.young _ hPe)) ((LL.ext LE).R.X) (hw.g 242) (hw.g 243) (hw.g 244) (hw.g 245) (hw.g 246) (hw.g 247) (hw.g 248) (hw.g 249) (hw.g 74) (hw.g 250) QP (d9.g 90) (argsL := [_]) rfl rfl rfl rfl (hP := (fun x q r => r.elim (fun z => z ▸ hPa) (fun r => r.elim (fun z => z ▸ hPe) (fun z => C.new x (Nat.le_trans q z))))) ?_
  rintro _ h7 ⟨rfl, LL'⟩ K7
  refine kJ hw (fun _ H => H.al (LL.ext LE).R K7) ?_
  replace E := Km.e2 E K7 hPa hPe
  replace LL := LL'
  refine QR 208 C (d9.g 91) rfl ?_
  clear LE hls hPs X1 D1 FV FC FN K2 hva S3 E3 F K6 Sq K7 hsb E1 hq hPv hlv
  refine K0 209 C (d9.g 96) ?_
  refine QE 210 C (hw.g 96) (hw.g 97) (hw.g 98) (d9.g 97) ?_
  intro h1 sb hsb hPs E1 X1 D1
  have FV := D1 (Or.inl (hw.g 113)) (ty := (.array .byte)) (by decide)
  have FC := D1 (Or.inl (hw.g 115)) (ty := .byte) (by decide)
  have FN := D1 (Or.inl (hw.g 146)) (ty := .int) (by decide)
  refine kJ hw (fun _ H => H.ext E1) ?_
  have LE := E1
  have hls := Nat.le_of_eq hsb.symm
  replace E := Ki.tr E E1
  refine Ku 213 C (d9.g 98) rfl ?_
  refine KV 214 C (YM hw W sb _ (C.young sb hPs) X1 FV FC FN) (hw.g 99) (hw.g 100) (hw.g 98) (hw.g 101) QL (d9.g 99) (argsL := []) rfl rfl rfl rfl (hP := (fun x q r => r.elim (fun z => z ▸ hPs) (fun z => C.new x (Nat.le_trans q z)))) ?_
  rintro _ h2 ⟨rfl, va, hva, F⟩ K2
  have hPv := Nat.le_trans E.1 hva
  have hlv := Nat.le_trans LE.1 hva
  replace E := Km.e1 E K2 hPs
  replace LE := Km.e1 LE K2 hls
  refine kJ hw (fun _ H => H.sb0 X1 K2 hva F) ?_
  refine kL hw 217 C 11 40 (hw.g 359) (d9.g 100) ?_
  intro z h3 E3 S3
  replace F := F.ext E3
  replace E := Ki.tr E E3
  replace LE := Ki.tr LE E3
  have e1 := E.1
  have e2 := LE.1
  refine KI 219 C (XP hw W sb _ z [] _ _ F S3 (by decide) (C.young sb hPs) (C.young _ hPv)) (F.X) (hw.g 122) (hw.g 123) (QF (hw.g 125)) (hw.g 125) (hw.g 124) (hw.g 98) (hw.g 126) QS (d9.g 101) (argsL := [_]) rfl rfl rfl rfl (hP := (fun x q r => r.elim (fun z => z ▸ hPs) (fun r => r.elim (fun z => z ▸ hPv) (fun z => C.new x (Nat.le_trans q z))))) ?_
  rintro _ h4 ⟨rfl, va', hv', F'⟩ K4
  replace E := Km.e2 E K4 hPs hPv
  replace LE := Km.e2 LE K4 hls hlv
  replace hPv := hv'.elim (fun z => z ▸ hPv) (fun z => Nat.le_trans e1 z)
  replace hlv := hv'.elim (fun z => z ▸ hlv) (fun z => Nat.le_trans e2 z)
  refine kJ hw (fun _ H => H.sbk F K4 hv' F') ?_
  replace F := F'
  clear F' hv' e1 e2 K4
  refine K0 222 C (d9.g 92) ?_
  refine KF 223 C (hw.g 326) Via.refl (S.ext E).T (d9.g 93) ?_
  refine KK 226 C (Xx hw W tp _ (o1).1) (hw.g 360) (hw.g 361) (hw.g 3) (hw.g 362) Qj (d9.g 102) (argsL := [_]) rfl rfl rfl rfl ?_
  rintro _ _ ⟨b1, rfl, Bb1, rfl⟩ -
  refine K0 229 C (d9.g 94) ?_
  refine KF 230 C (hw.g 56) Via.refl (S.ext E).G (d9.g 95) ?_
  refine KK 233 C (Xx hw W fl _ (o1).2.1) (hw.g 360) (hw.g 361) (hw.g 3) (hw.g 362) Qj (d9.g 103) (argsL := [_]) rfl rfl rfl rfl ?_
  rintro _ _ ⟨b2, rfl, Bb2, rfl⟩ -
  refine XC 236 C (J3 hw W b1 b2 _ _ _ (_ :: xs) _ Bb1 Bb2 (o1).1 (o1).2.1 (QI o1).1) (fun _ H => H) (hw.g 369) (hw.g 370) (hw.g 3) (hw.g 371) YU (d9.g 104) (argsL := [_, _]) rfl rfl rfl rfl ?_
  rintro _ h5 _ ⟨r, rfl, Sr, H5⟩ K5
  refine ⟨_, H5, (oH.js (QM hw)), ?_⟩
  replace F := F.ext K5.ext
  replace E := Ki.tr E K5.ext
  replace LE := Ki.tr LE K5.ext
  clear K5
  have e1 := E.1
  have e2 := LE.1
  refine KI 239 C (XP hw W sb _ r _ _ _ F Sr (X_ _ (QI o1).2.2.2 (by decide)) (C.young sb hPs) (C.young _ hPv)) (F.X) (hw.g 122) (hw.g 123) (QF (hw.g 125)) (hw.g 125) (hw.g 124) (hw.g 98) (hw.g 126) QS (d9.g 105) (argsL := [_]) rfl rfl rfl rfl (hP := (fun x q r => r.elim (fun z => z ▸ hPs) (fun r => r.elim (fun z => z ▸ hPv) (fun z => C.new x (Nat.le_trans q z))))) ?_
  rintro _ h4 ⟨rfl, va', hv', F'⟩ K4
  replace E := Km.e2 E K4 hPs hPv
  replace LE := Km.e2 LE K4 hls hlv
  replace hPv := hv'.elim (fun z => z ▸ hPv) (fun z => Nat.le_trans e1 z)
  replace hlv := hv'.elim (fun z => z ▸ hlv) (fun z => Nat.le_trans e2 z)
  refine kJ hw (fun _ H => H.sbk F K4 hv' F') ?_
  replace F := F'
  clear F' hv' e1 e2 K4
  refine KI 242 C (Y5 hw W sb _ _ _ F) (F.X) (hw.g 199) (hw.g 200) (QF (hw.g 202)) (hw.g 202) (hw.g 201) (hw.g 98) (hw.g 203) Qr (d9.g 106) (argsL := []) rfl rfl rfl rfl ?_
  rintro _ h6 ⟨q6, rfl, hq, Sq⟩ K6
  refine kJ hw (fun _ H => (H.fr K6).tl) ?_
  replace E := Km.e0 E K6
  replace LE := Km.e0 LE K6
  replace Sq := Sq.eq (ws := oU "precision " ++ Xn (YQ tp fl)) rfl
  refine Q4 245 C (GH hw a ea q6 _ _ _ _ (LL.ext LE) Sq (by simp) (by decide) (C.young a hPa) (C.young _ hPe)) ((LL.ext LE).R.X) (hw.g 242) (hw.g 243) (hw.g 244) (hw.g 245) (hw.g 246) (hw.g 247) (hw.g 248) (hw.g 249) (hw.g 74) (hw.g 250) QP (d9.g 107) (argsL := [_]) rfl rfl rfl rfl (hP := (fun x q r => r.elim (fun z => z ▸ hPa) (fun r => r.elim (fun z => z ▸ hPe) (fun z => C.new x (Nat.le_trans q z))))) ?_
  rintro _ h7 ⟨rfl, LL'⟩ K7
  refine kJ hw (fun _ H => H.al (LL.ext LE).R K7) ?_
  replace E := Km.e2 E K7 hPa hPe
  replace LL := LL'
  refine QR 250 C (d9.g 108) rfl ?_
  clear LE hls hPs X1 D1 FV FC FN K2 hva S3 E3 F K6 Sq K7 hsb E1 hq hPv hlv
  refine K0 251 C (d9.g 112) ?_
  refine QE 252 C (hw.g 96) (hw.g 97) (hw.g 98) (d9.g 113) ?_
  intro h1 sb hsb hPs E1 X1 D1
  have FV := D1 (Or.inl (hw.g 113)) (ty := (.array .byte)) (by decide)
  have FC := D1 (Or.inl (hw.g 115)) (ty := .byte) (by decide)
  have FN := D1 (Or.inl (hw.g 146)) (ty := .int) (by decide)
  refine kJ hw (fun _ H => H.ext E1) ?_
  have LE := E1
  have hls := Nat.le_of_eq hsb.symm
  replace E := Ki.tr E E1
  refine Ku 255 C (d9.g 114) rfl ?_
  refine KV 256 C (YM hw W sb _ (C.young sb hPs) X1 FV FC FN) (hw.g 99) (hw.g 100) (hw.g 98) (hw.g 101) QL (d9.g 115) (argsL := []) rfl rfl rfl rfl (hP := (fun x q r => r.elim (fun z => z ▸ hPs) (fun z => C.new x (Nat.le_trans q z)))) ?_
  rintro _ h2 ⟨rfl, va, hva, F⟩ K2
  have hPv := Nat.le_trans E.1 hva
  have hlv := Nat.le_trans LE.1 hva
  replace E := Km.e1 E K2 hPs
  replace LE := Km.e1 LE K2 hls
  refine kJ hw (fun _ H => H.sb0 X1 K2 hva F) ?_
  refine kL hw 259 C 12 28 (hw.g 527) (d9.g 116) ?_
  intro z h3 E3 S3
  replace F := F.ext E3
  replace E := Ki.tr E E3
  replace LE := Ki.tr LE E3
  have e1 := E.1
  have e2 := LE.1
  refine KI 261 C (XP hw W sb _ z [] _ _ F S3 (by decide) (C.young sb hPs) (C.young _ hPv)) (F.X) (hw.g 122) (hw.g 123) (QF (hw.g 125)) (hw.g 125) (hw.g 124) (hw.g 98) (hw.g 126) QS (d9.g 117) (argsL := [_]) rfl rfl rfl rfl (hP := (fun x q r => r.elim (fun z => z ▸ hPs) (fun r => r.elim (fun z => z ▸ hPv) (fun z => C.new x (Nat.le_trans q z))))) ?_
  rintro _ h4 ⟨rfl, va', hv', F'⟩ K4
  replace E := Km.e2 E K4 hPs hPv
  replace LE := Km.e2 LE K4 hls hlv
  replace hPv := hv'.elim (fun z => z ▸ hPv) (fun z => Nat.le_trans e1 z)
  replace hlv := hv'.elim (fun z => z ▸ hlv) (fun z => Nat.le_trans e2 z)
  refine kJ hw (fun _ H => H.sbk F K4 hv' F') ?_
  replace F := F'
  clear F' hv' e1 e2 K4
  refine K0 264 C (d9.g 109) ?_
  refine KF 265 C (hw.g 326) Via.refl (S.ext E).T (d9.g 110) ?_
  refine KK 268 C (Xx hw W tp _ (o2).1) (hw.g 360) (hw.g 361) (hw.g 3) (hw.g 362) Qj (d9.g 118) (argsL := [_]) rfl rfl rfl rfl ?_
  rintro _ _ ⟨b1, rfl, Bb1, rfl⟩ -
  refine KJ 271 C (d9.g 111) ?_
  refine KK 272 C (Xx hw W (x1 + x2) _ (o2).2.1) (hw.g 360) (hw.g 361) (hw.g 3) (hw.g 362) Qj (d9.g 119) (argsL := [_]) rfl rfl rfl rfl ?_
  rintro _ _ ⟨b2, rfl, Bb2, rfl⟩ -
  refine XC 275 C (J3 hw W b1 b2 _ _ _ (_ :: xs) _ Bb1 Bb2 (o2).1 (o2).2.1 (QI o2).1) (fun _ H => H) (hw.g 369) (hw.g 370) (hw.g 3) (hw.g 371) YU (d9.g 120) (argsL := [_, _]) rfl rfl rfl rfl ?_
  rintro _ h5 _ ⟨r, rfl, Sr, H5⟩ K5
  refine ⟨_, H5, (oH.js (QM hw)), ?_⟩
  replace F := F.ext K5.ext
  replace E := Ki.tr E K5.ext
  replace LE := Ki.tr LE K5.ext
  clear K5
  have e1 := E.1
  have e2 := LE.1
  refine KI 278 C (XP hw W sb _ r _ _ _ F Sr (X_ _ (QI o2).2.2.2 (by decide)) (C.young sb hPs) (C.young _ hPv)) (F.X) (hw.g 122) (hw.g 123) (QF (hw.g 125)) (hw.g 125) (hw.g 124) (hw.g 98) (hw.g 126) QS (d9.g 121) (argsL := [_]) rfl rfl rfl rfl (hP := (fun x q r => r.elim (fun z => z ▸ hPs) (fun r => r.elim (fun z => z ▸ hPv) (fun z => C.new x (Nat.le_trans q z))))) ?_
  rintro _ h4 ⟨rfl, va', hv', F'⟩ K4
  replace E := Km.e2 E K4 hPs hPv
  replace LE := Km.e2 LE K4 hls hlv
  replace hPv := hv'.elim (fun z => z ▸ hPv) (fun z => Nat.le_trans e1 z)
  replace hlv := hv'.elim (fun z => z ▸ hlv) (fun z => Nat.le_trans e2 z)
  refine kJ hw (fun _ H => H.sbk F K4 hv' F') ?_
  replace F := F'
  clear F' hv' e1 e2 K4
  refine KI 281 C (Y5 hw W sb _ _ _ F) (F.X) (hw.g 199) (hw.g 200) (QF (hw.g 202)) (hw.g 202) (hw.g 201) (hw.g 98) (hw.g 203) Qr (d9.g 122) (argsL := []) rfl rfl rfl rfl ?_
  rintro _ h6 ⟨q7, rfl, hq, Sq⟩ K6
  refine kJ hw (fun _ H => (H.fr K6).tl) ?_
  replace E := Km.e0 E K6
  replace LE := Km.e0 LE K6
  replace Sq := Sq.eq (ws := oU "recall " ++ Xn (YQ tp (x1 + x2))) rfl
  refine Q4 284 C (GH hw a ea q7 _ _ _ _ (LL.ext LE) Sq (by simp) (by decide) (C.young a hPa) (C.young _ hPe)) ((LL.ext LE).R.X) (hw.g 242) (hw.g 243) (hw.g 244) (hw.g 245) (hw.g 246) (hw.g 247) (hw.g 248) (hw.g 249) (hw.g 74) (hw.g 250) QP (d9.g 123) (argsL := [_]) rfl rfl rfl rfl (hP := (fun x q r => r.elim (fun z => z ▸ hPa) (fun r => r.elim (fun z => z ▸ hPe) (fun z => C.new x (Nat.le_trans q z))))) ?_
  rintro _ h7 ⟨rfl, LL'⟩ K7
  refine kJ hw (fun _ H => H.al (LL.ext LE).R K7) ?_
  replace E := Km.e2 E K7 hPa hPe
  replace LL := LL'
  refine QR 289 C (d9.g 124) rfl ?_
  clear LE hls hPs X1 D1 FV FC FN K2 hva S3 E3 F K6 Sq K7 hsb E1 hq hPv hlv
  refine K0 290 C (d9.g 133) ?_
  refine QE 291 C (hw.g 96) (hw.g 97) (hw.g 98) (d9.g 134) ?_
  intro h1 sb hsb hPs E1 X1 D1
  have FV := D1 (Or.inl (hw.g 113)) (ty := (.array .byte)) (by decide)
  have FC := D1 (Or.inl (hw.g 115)) (ty := .byte) (by decide)
  have FN := D1 (Or.inl (hw.g 146)) (ty := .int) (by decide)
  refine kJ hw (fun _ H => H.ext E1) ?_
  have LE := E1
  have hls := Nat.le_of_eq hsb.symm
  replace E := Ki.tr E E1
  refine Ku 294 C (d9.g 135) rfl ?_
  refine KV 295 C (YM hw W sb _ (C.young sb hPs) X1 FV FC FN) (hw.g 99) (hw.g 100) (hw.g 98) (hw.g 101) QL (d9.g 136) (argsL := []) rfl rfl rfl rfl (hP := (fun x q r => r.elim (fun z => z ▸ hPs) (fun z => C.new x (Nat.le_trans q z)))) ?_
  rintro _ h2 ⟨rfl, va, hva, F⟩ K2
  have hPv := Nat.le_trans E.1 hva
  have hlv := Nat.le_trans LE.1 hva
  replace E := Km.e1 E K2 hPs
  replace LE := Km.e1 LE K2 hls
  refine kJ hw (fun _ H => H.sb0 X1 K2 hva F) ?_
  refine kL hw 298 C 14 12 (hw.g 531) (d9.g 137) ?_
  intro z h3 E3 S3
  replace F := F.ext E3
  replace E := Ki.tr E E3
  replace LE := Ki.tr LE E3
  have e1 := E.1
  have e2 := LE.1
  refine KI 300 C (XP hw W sb _ z [] _ _ F S3 (by decide) (C.young sb hPs) (C.young _ hPv)) (F.X) (hw.g 122) (hw.g 123) (QF (hw.g 125)) (hw.g 125) (hw.g 124) (hw.g 98) (hw.g 126) QS (d9.g 138) (argsL := [_]) rfl rfl rfl rfl (hP := (fun x q r => r.elim (fun z => z ▸ hPs) (fun r => r.elim (fun z => z ▸ hPv) (fun z => C.new x (Nat.le_trans q z))))) ?_
  rintro _ h4 ⟨rfl, va', hv', F'⟩ K4
  replace E := Km.e2 E K4 hPs hPv
  replace LE := Km.e2 LE K4 hls hlv
  replace hPv := hv'.elim (fun z => z ▸ hPv) (fun z => Nat.le_trans e1 z)
  replace hlv := hv'.elim (fun z => z ▸ hlv) (fun z => Nat.le_trans e2 z)
  refine kJ hw (fun _ H => H.sbk F K4 hv' F') ?_
  replace F := F'
  clear F' hv' e1 e2 K4
  refine Kq 303 C (hw.g 532) (d9.g 125) ?_
  refine K0 306 C (d9.g 126) ?_
  refine KF 307 C (hw.g 326) Via.refl (S.ext E).T (d9.g 127) ?_
  refine XG 310 C (d9.g 128) ?_
  rw [JL]
  refine KK 311 C (Xx hw W (2 * tp) _ (o3).1) (hw.g 360) (hw.g 361) (hw.g 3) (hw.g 362) Qj (d9.g 139) (argsL := [_]) rfl rfl rfl rfl ?_
  rintro _ _ ⟨b1, rfl, Bb1, rfl⟩ -
  refine K0 314 C (d9.g 129) ?_
  refine KF 315 C (hw.g 56) Via.refl (S.ext E).G (d9.g 130) ?_
  refine KJ 318 C (d9.g 131) ?_
  refine QT 319 C (d9.g 132) ?_
  rw [← Int64.ofNat_add]
  refine KK 320 C (Xx hw W (fl + (x1 + x2)) _ (o3).2.1) (hw.g 360) (hw.g 361) (hw.g 3) (hw.g 362) Qj (d9.g 140) (argsL := [_]) rfl rfl rfl rfl ?_
  rintro _ _ ⟨b2, rfl, Bb2, rfl⟩ -
  refine XC 323 C (J3 hw W b1 b2 _ _ _ (_ :: xs) _ Bb1 Bb2 (o3).1 (o3).2.1 (QI o3).1) (fun _ H => H) (hw.g 369) (hw.g 370) (hw.g 3) (hw.g 371) YU (d9.g 141) (argsL := [_, _]) rfl rfl rfl rfl ?_
  rintro _ h5 _ ⟨r, rfl, Sr, H5⟩ K5
  refine ⟨_, H5, (oH.js (QM hw)), ?_⟩
  replace F := F.ext K5.ext
  replace E := Ki.tr E K5.ext
  replace LE := Ki.tr LE K5.ext
  clear K5
  have e1 := E.1
  have e2 := LE.1
  refine KI 326 C (XP hw W sb _ r _ _ _ F Sr (X_ _ (QI o3).2.2.2 (by decide)) (C.young sb hPs) (C.young _ hPv)) (F.X) (hw.g 122) (hw.g 123) (QF (hw.g 125)) (hw.g 125) (hw.g 124) (hw.g 98) (hw.g 126) QS (d9.g 142) (argsL := [_]) rfl rfl rfl rfl (hP := (fun x q r => r.elim (fun z => z ▸ hPs) (fun r => r.elim (fun z => z ▸ hPv) (fun z => C.new x (Nat.le_trans q z))))) ?_
  rintro _ h4 ⟨rfl, va', hv', F'⟩ K4
  replace E := Km.e2 E K4 hPs hPv
  replace LE := Km.e2 LE K4 hls hlv
  replace hPv := hv'.elim (fun z => z ▸ hPv) (fun z => Nat.le_trans e1 z)
  replace hlv := hv'.elim (fun z => z ▸ hlv) (fun z => Nat.le_trans e2 z)
  refine kJ hw (fun _ H => H.sbk F K4 hv' F') ?_
  replace F := F'
  clear F' hv' e1 e2 K4
  refine KI 329 C (Y5 hw W sb _ _ _ F) (F.X) (hw.g 199) (hw.g 200) (QF (hw.g 202)) (hw.g 202) (hw.g 201) (hw.g 98) (hw.g 203) Qr (d9.g 143) (argsL := []) rfl rfl rfl rfl ?_
  rintro _ h6 ⟨q8, rfl, hq, Sq⟩ K6
  refine kJ hw (fun _ H => (H.fr K6).tl) ?_
  replace E := Km.e0 E K6
  replace LE := Km.e0 LE K6
  replace Sq := Sq.eq (ws := oU "f1 " ++ Xn (YQ (2 * tp) (fl + (x1 + x2)))) rfl
  refine Q4 332 C (GH hw a ea q8 _ _ _ _ (LL.ext LE) Sq (by simp) (by decide) (C.young a hPa) (C.young _ hPe)) ((LL.ext LE).R.X) (hw.g 242) (hw.g 243) (hw.g 244) (hw.g 245) (hw.g 246) (hw.g 247) (hw.g 248) (hw.g 249) (hw.g 74) (hw.g 250) QP (d9.g 144) (argsL := [_]) rfl rfl rfl rfl (hP := (fun x q r => r.elim (fun z => z ▸ hPa) (fun r => r.elim (fun z => z ▸ hPe) (fun z => C.new x (Nat.le_trans q z))))) ?_
  rintro _ h7 ⟨rfl, LL'⟩ K7
  refine kJ hw (fun _ H => H.al (LL.ext LE).R K7) ?_
  replace E := Km.e2 E K7 hPa hPe
  replace LL := LL'
  refine QR 337 C (d9.g 145) rfl ?_
  clear LE hls hPs X1 D1 FV FC FN K2 hva S3 E3 F K6 Sq K7 hsb E1 hq hPv hlv
  refine K0 338 C (d9.g 149) ?_
  refine QE 339 C (hw.g 96) (hw.g 97) (hw.g 98) (d9.g 150) ?_
  intro h1 sb hsb hPs E1 X1 D1
  have FV := D1 (Or.inl (hw.g 113)) (ty := (.array .byte)) (by decide)
  have FC := D1 (Or.inl (hw.g 115)) (ty := .byte) (by decide)
  have FN := D1 (Or.inl (hw.g 146)) (ty := .int) (by decide)
  refine kJ hw (fun _ H => H.ext E1) ?_
  have LE := E1
  have hls := Nat.le_of_eq hsb.symm
  replace E := Ki.tr E E1
  refine Ku 342 C (d9.g 151) rfl ?_
  refine KV 343 C (YM hw W sb _ (C.young sb hPs) X1 FV FC FN) (hw.g 99) (hw.g 100) (hw.g 98) (hw.g 101) QL (d9.g 152) (argsL := []) rfl rfl rfl rfl (hP := (fun x q r => r.elim (fun z => z ▸ hPs) (fun z => C.new x (Nat.le_trans q z)))) ?_
  rintro _ h2 ⟨rfl, va, hva, F⟩ K2
  have hPv := Nat.le_trans E.1 hva
  have hlv := Nat.le_trans LE.1 hva
  replace E := Km.e1 E K2 hPs
  replace LE := Km.e1 LE K2 hls
  refine kJ hw (fun _ H => H.sb0 X1 K2 hva F) ?_
  refine kL hw 346 C 15 80 (hw.g 549) (d9.g 153) ?_
  intro z h3 E3 S3
  replace F := F.ext E3
  replace E := Ki.tr E E3
  replace LE := Ki.tr LE E3
  have e1 := E.1
  have e2 := LE.1
  refine KI 348 C (XP hw W sb _ z [] _ _ F S3 (by decide) (C.young sb hPs) (C.young _ hPv)) (F.X) (hw.g 122) (hw.g 123) (QF (hw.g 125)) (hw.g 125) (hw.g 124) (hw.g 98) (hw.g 126) QS (d9.g 154) (argsL := [_]) rfl rfl rfl rfl (hP := (fun x q r => r.elim (fun z => z ▸ hPs) (fun r => r.elim (fun z => z ▸ hPv) (fun z => C.new x (Nat.le_trans q z))))) ?_
  rintro _ h4 ⟨rfl, va', hv', F'⟩ K4
  replace E := Km.e2 E K4 hPs hPv
  replace LE := Km.e2 LE K4 hls hlv
  replace hPv := hv'.elim (fun z => z ▸ hPv) (fun z => Nat.le_trans e1 z)
  replace hlv := hv'.elim (fun z => z ▸ hlv) (fun z => Nat.le_trans e2 z)
  refine kJ hw (fun _ H => H.sbk F K4 hv' F') ?_
  replace F := F'
  clear F' hv' e1 e2 K4
  refine K0 351 C (d9.g 146) ?_
  refine KF 352 C (hw.g 63) Via.refl (S.ext E).Q (d9.g 147) ?_
  refine KK 355 C (Xx hw W fp _ (o4).1) (hw.g 360) (hw.g 361) (hw.g 3) (hw.g 362) Qj (d9.g 155) (argsL := [_]) rfl rfl rfl rfl ?_
  rintro _ _ ⟨b1, rfl, Bb1, rfl⟩ -
  refine Kw 358 C (d9.g 148) ?_
  refine KK 360 C (Xx hw W (2 - (x1 + x2)) _ (o4).2.1) (hw.g 360) (hw.g 361) (hw.g 3) (hw.g 362) Qj (d9.g 156) (argsL := [_]) rfl rfl rfl rfl ?_
  rintro _ _ ⟨b2, rfl, Bb2, rfl⟩ -
  refine XC 363 C (J3 hw W b1 b2 _ _ _ (_ :: xs) _ Bb1 Bb2 (o4).1 (o4).2.1 (QI o4).1) (fun _ H => H) (hw.g 369) (hw.g 370) (hw.g 3) (hw.g 371) YU (d9.g 157) (argsL := [_, _]) rfl rfl rfl rfl ?_
  rintro _ h5 _ ⟨r, rfl, Sr, H5⟩ K5
  refine ⟨_, H5, (oH.js (QM hw)), ?_⟩
  replace F := F.ext K5.ext
  replace E := Ki.tr E K5.ext
  replace LE := Ki.tr LE K5.ext
  clear K5
  have e1 := E.1
  have e2 := LE.1
  refine KI 366 C (XP hw W sb _ r _ _ _ F Sr (X_ _ (QI o4).2.2.2 (by decide)) (C.young sb hPs) (C.young _ hPv)) (F.X) (hw.g 122) (hw.g 123) (QF (hw.g 125)) (hw.g 125) (hw.g 124) (hw.g 98) (hw.g 126) QS (d9.g 158) (argsL := [_]) rfl rfl rfl rfl (hP := (fun x q r => r.elim (fun z => z ▸ hPs) (fun r => r.elim (fun z => z ▸ hPv) (fun z => C.new x (Nat.le_trans q z))))) ?_
  rintro _ h4 ⟨rfl, va', hv', F'⟩ K4
  replace E := Km.e2 E K4 hPs hPv
  replace LE := Km.e2 LE K4 hls hlv
  replace hPv := hv'.elim (fun z => z ▸ hPv) (fun z => Nat.le_trans e1 z)
  replace hlv := hv'.elim (fun z => z ▸ hlv) (fun z => Nat.le_trans e2 z)
  refine kJ hw (fun _ H => H.sbk F K4 hv' F') ?_
  replace F := F'
  clear F' hv' e1 e2 K4
  refine KI 369 C (Y5 hw W sb _ _ _ F) (F.X) (hw.g 199) (hw.g 200) (QF (hw.g 202)) (hw.g 202) (hw.g 201) (hw.g 98) (hw.g 203) Qr (d9.g 159) (argsL := []) rfl rfl rfl rfl ?_
  rintro _ h6 ⟨q9, rfl, hq, Sq⟩ K6
  refine kJ hw (fun _ H => (H.fr K6).tl) ?_
  replace E := Km.e0 E K6
  replace LE := Km.e0 LE K6
  replace Sq := Sq.eq (ws := oU "false_positive_rate " ++ Xn (YQ fp (2 - (x1 + x2)))) rfl
  refine Q4 372 C (GH hw a ea q9 _ _ _ _ (LL.ext LE) Sq (by simp) (by decide) (C.young a hPa) (C.young _ hPe)) ((LL.ext LE).R.X) (hw.g 242) (hw.g 243) (hw.g 244) (hw.g 245) (hw.g 246) (hw.g 247) (hw.g 248) (hw.g 249) (hw.g 74) (hw.g 250) QP (d9.g 160) (argsL := [_]) rfl rfl rfl rfl (hP := (fun x q r => r.elim (fun z => z ▸ hPa) (fun r => r.elim (fun z => z ▸ hPe) (fun z => C.new x (Nat.le_trans q z))))) ?_
  rintro _ h7 ⟨rfl, LL'⟩ K7
  refine kJ hw (fun _ H => H.al (LL.ext LE).R K7) ?_
  replace E := Km.e2 E K7 hPa hPe
  replace LL := LL'
  refine QR 377 C (d9.g 161) rfl ?_
  clear LE hls hPs X1 D1 FV FC FN K2 hva S3 E3 F K6 Sq K7 hsb E1 hq hPv hlv
  refine K0 378 C (d9.g 162) ?_
  refine QE 379 C (hw.g 96) (hw.g 97) (hw.g 98) (d9.g 163) ?_
  intro h1 sb hsb hPs E1 X1 D1
  have FV := D1 (Or.inl (hw.g 113)) (ty := (.array .byte)) (by decide)
  have FC := D1 (Or.inl (hw.g 115)) (ty := .byte) (by decide)
  have FN := D1 (Or.inl (hw.g 146)) (ty := .int) (by decide)
  refine kJ hw (fun _ H => H.ext E1) ?_
  have LE := E1
  have hls := Nat.le_of_eq hsb.symm
  replace E := Ki.tr E E1
  refine Ku 382 C (d9.g 164) rfl ?_
  refine KV 383 C (YM hw W sb _ (C.young sb hPs) X1 FV FC FN) (hw.g 99) (hw.g 100) (hw.g 98) (hw.g 101) QL (d9.g 165) (argsL := []) rfl rfl rfl rfl (hP := (fun x q r => r.elim (fun z => z ▸ hPs) (fun z => C.new x (Nat.le_trans q z)))) ?_
  rintro _ h2 ⟨rfl, va, hva, F⟩ K2
  have hPv := Nat.le_trans E.1 hva
  have hlv := Nat.le_trans LE.1 hva
  replace E := Km.e1 E K2 hPs
  replace LE := Km.e1 LE K2 hls
  refine kJ hw (fun _ H => H.sb0 X1 K2 hva F) ?_
  refine kL hw 386 C 17 16 (hw.g 552) (d9.g 166) ?_
  intro z h3 E3 S3
  replace F := F.ext E3
  replace E := Ki.tr E E3
  replace LE := Ki.tr LE E3
  have e1 := E.1
  have e2 := LE.1
  refine KI 388 C (XP hw W sb _ z [] _ _ F S3 (by decide) (C.young sb hPs) (C.young _ hPv)) (F.X) (hw.g 122) (hw.g 123) (QF (hw.g 125)) (hw.g 125) (hw.g 124) (hw.g 98) (hw.g 126) QS (d9.g 167) (argsL := [_]) rfl rfl rfl rfl (hP := (fun x q r => r.elim (fun z => z ▸ hPs) (fun r => r.elim (fun z => z ▸ hPv) (fun z => C.new x (Nat.le_trans q z))))) ?_
  rintro _ h4 ⟨rfl, va', hv', F'⟩ K4
  replace E := Km.e2 E K4 hPs hPv
  replace LE := Km.e2 LE K4 hls hlv
  replace hPv := hv'.elim (fun z => z ▸ hPv) (fun z => Nat.le_trans e1 z)
  replace hlv := hv'.elim (fun z => z ▸ hlv) (fun z => Nat.le_trans e2 z)
  refine kJ hw (fun _ H => H.sbk F K4 hv' F') ?_
  replace F := F'
  clear F' hv' e1 e2 K4
  refine K0 391 C (d9.g 168) ?_
  refine KJ 392 C (d9.g 169) ?_
  refine Kw 393 C (d9.g 170) ?_
  refine GB 395 C (Eo hw W sc fa ga _ _ _ _ _ x1 s1 x2 s2 Ff Gf (_ :: xs) _ (S.ext E) hF hG u1 u2 t1 t2) (fun _ H => H) ((S.ext E).X) (hw.g 553) (QB.of (hw.g 45 rfl) rfl) (hw.g 555) (hw.g 554) (hw.g 3) (hw.g 556) Uq (d9.g 171) (argsL := [_, _]) rfl rfl rfl rfl ?_
  rintro _ h5 _ ⟨r, rfl, Sr, H5⟩ K5
  refine ⟨_, H5, (oH.js (QM hw)), ?_⟩
  replace F := F.ext K5.ext
  replace E := Ki.tr E K5.ext
  replace LE := Ki.tr LE K5.ext
  clear K5
  have e1 := E.1
  have e2 := LE.1
  refine KI 398 C (XP hw W sb _ r _ _ _ F Sr (X_ _ (QI (Xv u1 u2 hF hG)).2.2.2 (by decide)) (C.young sb hPs) (C.young _ hPv)) (F.X) (hw.g 122) (hw.g 123) (QF (hw.g 125)) (hw.g 125) (hw.g 124) (hw.g 98) (hw.g 126) QS (d9.g 172) (argsL := [_]) rfl rfl rfl rfl (hP := (fun x q r => r.elim (fun z => z ▸ hPs) (fun r => r.elim (fun z => z ▸ hPv) (fun z => C.new x (Nat.le_trans q z))))) ?_
  rintro _ h4 ⟨rfl, va', hv', F'⟩ K4
  replace E := Km.e2 E K4 hPs hPv
  replace LE := Km.e2 LE K4 hls hlv
  replace hPv := hv'.elim (fun z => z ▸ hPv) (fun z => Nat.le_trans e1 z)
  replace hlv := hv'.elim (fun z => z ▸ hlv) (fun z => Nat.le_trans e2 z)
  refine kJ hw (fun _ H => H.sbk F K4 hv' F') ?_
  replace F := F'
  clear F' hv' e1 e2 K4
  refine KI 401 C (Y5 hw W sb _ _ _ F) (F.X) (hw.g 199) (hw.g 200) (QF (hw.g 202)) (hw.g 202) (hw.g 201) (hw.g 98) (hw.g 203) Qr (d9.g 173) (argsL := []) rfl rfl rfl rfl ?_
  rintro _ h6 ⟨q10, rfl, hq, Sq⟩ K6
  refine kJ hw (fun _ H => (H.fr K6).tl) ?_
  replace E := Km.e0 E K6
  replace LE := Km.e0 LE K6
  replace Sq := Sq.eq (ws := oU "auc " ++ Xn (YQ (Ym Ff Gf 101) (2 * (x1 + x2) * (2 - (x1 + x2))))) rfl
  refine Q4 404 C (WI hw W a ea q10 _ _ _ (LL.ext LE) Sq (by simp) (C.young a hPa)) ((LL.ext LE).R.X) (hw.g 242) (hw.g 243) (hw.g 244) (hw.g 245) (hw.g 246) (hw.g 247) (hw.g 248) (hw.g 249) (hw.g 74) (hw.g 250) QP (d9.g 174) (argsL := [_]) rfl rfl rfl rfl (hP := (fun x q r => r.elim (fun z => z ▸ hPa) (fun z => C.new x (Nat.le_trans q z)))) ?_
  rintro _ h7 ⟨rfl, ea', hea, LL'⟩ K7
  replace hPe := Nat.le_trans E.1 hea
  refine kJ hw (fun _ H => H.o1 (LL.ext LE).R.X (by decide) (by decide) K7) ?_
  replace E := Km.e1 E K7 hPa
  replace LL := LL'
  refine QR 409 C (d9.g 175) rfl ?_
  clear LE hls hPs X1 D1 FV FC FN K2 hva S3 E3 F K6 Sq K7 hsb E1 hq hPv hlv
  refine K0 410 C (d9.g 176) ?_
  refine QE 411 C (hw.g 96) (hw.g 97) (hw.g 98) (d9.g 177) ?_
  intro h1 sb hsb hPs E1 X1 D1
  have FV := D1 (Or.inl (hw.g 113)) (ty := (.array .byte)) (by decide)
  have FC := D1 (Or.inl (hw.g 115)) (ty := .byte) (by decide)
  have FN := D1 (Or.inl (hw.g 146)) (ty := .int) (by decide)
  refine kJ hw (fun _ H => H.ext E1) ?_
  have LE := E1
  have hls := Nat.le_of_eq hsb.symm
  replace E := Ki.tr E E1
  refine Ku 414 C (d9.g 178) rfl ?_
  refine KV 415 C (YM hw W sb _ (C.young sb hPs) X1 FV FC FN) (hw.g 99) (hw.g 100) (hw.g 98) (hw.g 101) QL (d9.g 179) (argsL := []) rfl rfl rfl rfl (hP := (fun x q r => r.elim (fun z => z ▸ hPs) (fun z => C.new x (Nat.le_trans q z)))) ?_
  rintro _ h2 ⟨rfl, va, hva, F⟩ K2
  have hPv := Nat.le_trans E.1 hva
  have hlv := Nat.le_trans LE.1 hva
  replace E := Km.e1 E K2 hPs
  replace LE := Km.e1 LE K2 hls
  refine kJ hw (fun _ H => H.sb0 X1 K2 hva F) ?_
  refine kL hw 418 C 18 72 (hw.g 618) (d9.g 180) ?_
  intro z h3 E3 S3
  replace F := F.ext E3
  replace E := Ki.tr E E3
  replace LE := Ki.tr LE E3
  have e1 := E.1
  have e2 := LE.1
  refine KI 420 C (XP hw W sb _ z [] _ _ F S3 (by decide) (C.young sb hPs) (C.young _ hPv)) (F.X) (hw.g 122) (hw.g 123) (QF (hw.g 125)) (hw.g 125) (hw.g 124) (hw.g 98) (hw.g 126) QS (d9.g 181) (argsL := [_]) rfl rfl rfl rfl (hP := (fun x q r => r.elim (fun z => z ▸ hPs) (fun r => r.elim (fun z => z ▸ hPv) (fun z => C.new x (Nat.le_trans q z))))) ?_
  rintro _ h4 ⟨rfl, va', hv', F'⟩ K4
  replace E := Km.e2 E K4 hPs hPv
  replace LE := Km.e2 LE K4 hls hlv
  replace hPv := hv'.elim (fun z => z ▸ hPv) (fun z => Nat.le_trans e1 z)
  replace hlv := hv'.elim (fun z => z ▸ hlv) (fun z => Nat.le_trans e2 z)
  refine kJ hw (fun _ H => H.sbk F K4 hv' F') ?_
  replace F := F'
  clear F' hv' e1 e2 K4
  refine K0 423 C (d9.g 182) ?_
  refine KJ 424 C (d9.g 183) ?_
  refine GB 425 C (CZ hw W sc fa ga _ _ _ _ _ x1 s1 x2 s2 Ff Gf (_ :: xs) _ (S.ext E) hF hG u1 u2 t1 t2) (fun _ H => H) ((S.ext E).X) (hw.g 619) (QB.of (hw.g 45 rfl) rfl) (hw.g 621) (hw.g 620) (hw.g 3) (hw.g 622) Jf (d9.g 184) (argsL := [_]) rfl rfl rfl rfl ?_
  rintro _ h5 _ ⟨r, rfl, Sr, H5⟩ K5
  refine ⟨_, H5, (oH.js (QM hw)), ?_⟩
  replace F := F.ext K5.ext
  replace E := Ki.tr E K5.ext
  replace LE := Ki.tr LE K5.ext
  clear K5
  have e1 := E.1
  have e2 := LE.1
  refine KI 428 C (XP hw W sb _ r _ _ _ F Sr (X_ _ (Hx x1 s1 x2 s2) (by decide)) (C.young sb hPs) (C.young _ hPv)) (F.X) (hw.g 122) (hw.g 123) (QF (hw.g 125)) (hw.g 125) (hw.g 124) (hw.g 98) (hw.g 126) QS (d9.g 185) (argsL := [_]) rfl rfl rfl rfl (hP := (fun x q r => r.elim (fun z => z ▸ hPs) (fun r => r.elim (fun z => z ▸ hPv) (fun z => C.new x (Nat.le_trans q z))))) ?_
  rintro _ h4 ⟨rfl, va', hv', F'⟩ K4
  replace E := Km.e2 E K4 hPs hPv
  replace LE := Km.e2 LE K4 hls hlv
  replace hPv := hv'.elim (fun z => z ▸ hPv) (fun z => Nat.le_trans e1 z)
  replace hlv := hv'.elim (fun z => z ▸ hlv) (fun z => Nat.le_trans e2 z)
  refine kJ hw (fun _ H => H.sbk F K4 hv' F') ?_
  replace F := F'
  clear F' hv' e1 e2 K4
  refine KI 431 C (Y5 hw W sb _ _ _ F) (F.X) (hw.g 199) (hw.g 200) (QF (hw.g 202)) (hw.g 202) (hw.g 201) (hw.g 98) (hw.g 203) Qr (d9.g 186) (argsL := []) rfl rfl rfl rfl ?_
  rintro _ h6 ⟨q11, rfl, hq, Sq⟩ K6
  refine kJ hw (fun _ H => (H.fr K6).tl) ?_
  replace E := Km.e0 E K6
  replace LE := Km.e0 LE K6
  replace Sq := Sq.eq (ws := oU "average_precision " ++ Xn (Gs x1 s1 x2 s2)) rfl
  refine Q4 434 C (GH hw a ea' q11 _ _ _ _ (LL.ext LE) Sq (by simp) (by decide) (C.young a hPa) (C.young _ hPe)) ((LL.ext LE).R.X) (hw.g 242) (hw.g 243) (hw.g 244) (hw.g 245) (hw.g 246) (hw.g 247) (hw.g 248) (hw.g 249) (hw.g 74) (hw.g 250) QP (d9.g 187) (argsL := [_]) rfl rfl rfl rfl (hP := (fun x q r => r.elim (fun z => z ▸ hPa) (fun r => r.elim (fun z => z ▸ hPe) (fun z => C.new x (Nat.le_trans q z))))) ?_
  rintro _ h7 ⟨rfl, LL'⟩ K7
  refine kJ hw (fun _ H => H.al (LL.ext LE).R K7) ?_
  replace E := Km.e2 E K7 hPa hPe
  replace LL := LL'
  refine QR 439 C (d9.g 188) rfl ?_
  clear LE hls hPs X1 D1 FV FC FN K2 hva S3 E3 F K6 Sq K7 hsb E1 hq hPv hlv
  refine K0 440 C (d9.g 189) ?_
  refine KL 441 C (d9.g 190) (fun _ H => ⟨a, ea', _, _, rfl, LL, by decide, Or.inr ⟨rfl, rfl⟩, H⟩)
theorem Yj (hw : Kh Z a0) (W : oW Z) (x z : Addr) (us : List Int32) (h0 : Heap) (F : QY Z h0 x us) (G : QY Z h0 z us) (hl : us.length ≤ 40) :
  KH l Z Cu jdk_42_method_66_code 3 (some .boolean) ⟨1, 0, 0, 20⟩ #[.ref x, .ref z] h0 (fun a => h0.size ≤ a) (fun v h => v = some (.int (if us = us then 1 else 0)) ∧ h0 = h) := by
 obtain ⟨cs, hcs, Sc⟩ := W.cs
 exact Lq hw x z us us h0 (by omega) (by omega) (fun u q => (F.2.1 u q).2) (fun u q => (F.2.1 u q).2) F.str G.str cs hcs Sc
theorem Qu {ps : List (Addr × List Int32)} {i : Nat} {u : List Int32} (h : (ps.map Prod.snd)[i]? = some u) : ∃ s_, ps[i]? = some (s_, u) := by
 rw [List.getElem?_map] at h
 obtain ⟨⟨s_, w⟩, h1, h2⟩ := Option.map_eq_some_iff.mp h
 exact ⟨s_, by rw [h1]; simp at h2; rw [h2]⟩
theorem Y3 {i : Nat} (h : i ≤ 4) : i = 0 ∨ i = 1 ∨ i = 2 ∨ i = 3 ∨ i = 4 := by omega
theorem UG (k : Nat) : (2 : Int32) * Int32.ofNat k = Int32.ofNat (2 * k) := (Int32.ofNat_mul 2 k).symm
theorem Xf (t : String) (k : Nat) : (oU t ++ oN k).length = (oU t).length + 1 := by simp [oN]
theorem Xg (t : String) {us : List Int32} (h : us.length = 6) : (oU t ++ us).length = (oU t).length + 6 := by rw [List.length_append, h]
theorem Yo {h : Heap} {a1 a2 a3 : Addr} {us : List Int32} {k : Nat} (hk : k ≤ 2) (S1 : QY Z h a1 (us ++ oN 0)) (S2 : QY Z h a2 (us ++ oN 1)) (S3 : QY Z h a3 (us ++ oN 2)) : ∃ r, ((k = 0 ∧ r = a1) ∨ (k = 1 ∧ r = a2) ∨ (k = 2 ∧ r = a3)) ∧ QY Z h r (us ++ oN k) := by
 match k, hk with
 | 0, _ => exact ⟨a1, Or.inl ⟨rfl, rfl⟩, S1⟩
 | 1, _ => exact ⟨a2, Or.inr (Or.inl ⟨rfl, rfl⟩), S2⟩
 | 2, _ => exact ⟨a3, Or.inr (Or.inr ⟨rfl, rfl⟩), S3⟩
theorem Xz {h : Heap} {a1 a2 a3 a4 : Addr} {us ws : List Int32} {k : Nat} (hk : k ≤ 3) (e : ws = B_ k) (S1 : QY Z h a1 (us ++ oU "0.0000")) (S2 : QY Z h a2 (us ++ oU "0.5000")) (S3 : QY Z h a3 (us ++ oU "0.6667")) (S4 : QY Z h a4 (us ++ oU "1.0000")) : ∃ r, ((k = 0 ∧ r = a1) ∨ (k = 1 ∧ r = a2) ∨ (k = 2 ∧ r = a3) ∨ (k = 3 ∧ r = a4)) ∧ QY Z h r (us ++ ws) := by
 subst e
 match k, hk with
 | 0, _ => exact ⟨a1, Or.inl ⟨rfl, rfl⟩, S1⟩
 | 1, _ => exact ⟨a2, Or.inr (Or.inl ⟨rfl, rfl⟩), S2⟩
 | 2, _ => exact ⟨a3, Or.inr (Or.inr (Or.inl ⟨rfl, rfl⟩)), S3⟩
 | 3, _ => exact ⟨a4, Or.inr (Or.inr (Or.inr ⟨rfl, rfl⟩)), S4⟩
theorem Rt {x1 x2 f1 f2 : Nat} (h1 : x1 ≤ 1) (h2 : x2 ≤ 1) (g1 : f1 ≤ 1) (g2 : f2 ≤ 1) : f1 + f2 ≤ 2 ∧ x1 * f1 + x2 * f2 ≤ 2 ∧ (1 - x1) * f1 + (1 - x2) * f2 ≤ 2 ∧ JF (x1 * f1 + x2 * f2) (f1 + f2) ∧ JF (x1 * f1 + x2 * f2) (x1 + x2) ∧ JF (2 * (x1 * f1 + x2 * f2)) (f1 + f2 + (x1 + x2)) ∧ JF ((1 - x1) * f1 + (1 - x2) * f2) (2 - (x1 + x2)) := by
 obtain rfl | rfl : x1 = 0 ∨ x1 = 1 := by omega
 all_goals obtain rfl | rfl : x2 = 0 ∨ x2 = 1 := by omega
 all_goals obtain rfl | rfl : f1 = 0 ∨ f1 = 1 := by omega
 all_goals obtain rfl | rfl : f2 = 0 ∨ f2 = 1 := by omega
 all_goals (unfold JF; decide)
theorem JN {a b : Nat} (ha : a < 101) (hb : b < 101) : (Int32.ofNat a < Int32.ofNat b ↔ a < b) ∧ (Int32.ofNat a = Int32.ofNat b ↔ a = b) := by
 simp only [Int32.lt_iff_toInt_lt, ← Int32.toInt_inj, Qm, Int.bmod_def]
 omega
theorem YY {Ff Gf : Nat → Nat} {x1 s1 x2 s2 p n : Nat} (u : x1 = 1 ∧ x2 = 0 ∧ p = s1 ∧ n = s2 ∨ x1 = 0 ∧ x2 = 1 ∧ p = s2 ∧ n = s1) (hF : ∀ i, Ff i = XX x1 s1 x2 s2 i) (hG : ∀ i, Gf i = XX (1 - x1) s1 (1 - x2) s2 i) (t1 : s1 < 101) (t2 : s2 < 101) : (Int32.ofNat n < Int32.ofNat p → Ym Ff Gf 101 = 2 ∧ Gs x1 s1 x2 s2 = 10000) ∧ (Int32.ofNat p = Int32.ofNat n → Ym Ff Gf 101 = 1 ∧ Gs x1 s1 x2 s2 = 5000) ∧ (¬ Int32.ofNat n < Int32.ofNat p → ¬ Int32.ofNat p = Int32.ofNat n → Ym Ff Gf 101 = 0 ∧ Gs x1 s1 x2 s2 = 5000) := by
 rw [Yr (by omega) (by omega) hF hG]
 clear hF hG
 rw [(JN (a := n) (b := p) (by omega) (by omega)).1, (JN (a := p) (b := n) (by omega) (by omega)).2]
 unfold Gs Vr
 rcases u with ⟨rfl, rfl, rfl, rfl⟩ | ⟨rfl, rfl, rfl, rfl⟩ <;> refine ⟨fun h => ?_, fun h => ?_, fun h g => ?_⟩ <;> simp (disch := omega) only [if_pos, if_neg, if_true, if_false, true_and, false_and, and_true, Nat.zero_ne_one, Nat.one_ne_zero, and_self, Nat.zero_le, Nat.reduceAdd, Nat.reduceEqDiff]
theorem JH {k : Nat} (h : k ≤ 1) : (Int32.ofNat k = 0 → k = 0) ∧ (Int32.ofNat k = 1 → k = 1) := by
 obtain rfl | rfl : k = 0 ∨ k = 1 := by omega
 all_goals decide
theorem Ti {k : Nat} (h : k ≤ 1) : Int32.ofNat k = 0 ∨ Int32.ofNat k = 1 := by
 obtain rfl | rfl : k = 0 ∨ k = 1 := by omega
 ·exact Or.inl rfl
 ·exact Or.inr rfl
theorem Te {k : Nat} (h : k ≤ 1) : Int32.ofNat k = 0 ∧ k = 0 ∨ Int32.ofNat k = 1 ∧ k = 1 := by
 obtain rfl | rfl : k = 0 ∨ k = 1 := by omega
 ·exact Or.inl ⟨rfl, rfl⟩
 ·exact Or.inr ⟨rfl, rfl⟩
theorem TT {d ap : Addr} {k : Nat} (h : d = ap ↔ k = 0) : d = ap ∧ (if k = 0 then 0 else 1) = 0 ∨ d ≠ ap ∧ (if k = 0 then 0 else 1) = 1 := by
 by_cases hk : k = 0
 ·exact Or.inl ⟨h.mpr hk, if_pos hk⟩
 ·exact Or.inr ⟨fun z => hk (h.mp z), if_neg hk⟩
theorem AO : plainFor x = true := by decide +kernel
theorem B9 {x0 : Int32} {x1 : Int32} {x2 : Int32} {x3 : Int32} {x4 : Int32} (m : MethodId) : entryFrame m #[.int x0, .int x1, .int x2, .int x3, .int x4] maxLocals = oF m 0 [.val (.int x0), .val (.int x1), .val (.int x2), .val (.int x3), .val (.int x4), .unset, .unset, .unset, .unset, .unset, .unset, .unset, .unset, .unset, .unset, .unset, .unset, .unset, .unset, .unset, .unset, .unset, .unset, .unset, .unset, .unset, .unset] [] := by (first | (simp [entryFrame, oF, mkF, argsToLocals, Value.category, maxLocals]; done) | rfl)
theorem m0 (hw : Kh Z a0) (W : oW Z) (ap aa bl : Addr) (q1 q2 q3 q4 q5 : Int32) (h0 : Heap) (Sap : Sta Z Z.heap "com/example/wardstream/wardstream/engine/Decision" "APPROVE" "Lcom/example/wardstream/wardstream/engine/Decision;" (.ref ap)) (Saa : Sta Z Z.heap "com/example/wardstream/wardstream/engine/Decision" "ADDITIONAL_AUTH_REQUIRED" "Lcom/example/wardstream/wardstream/engine/Decision;" (.ref aa)) (Sbl : Sta Z Z.heap "com/example/wardstream/wardstream/engine/Decision" "BLOCKED" "Lcom/example/wardstream/wardstream/engine/Decision;" (.ref bl)) (n1 : aa ≠ ap) (n2 : bl ≠ ap) :
  Q1 l Z x code maxLocals ret room_1 #[.int q1, .int q2, .int q3, .int q4, .int q5] h0 (fun a => h0.size ≤ a) (oH Z Kr h0 []) (fun v h vm => v = some (.int 1)) := by
 refine Q1.of AO (fun _ q => q) (fun E _ q => Nat.le_trans E.1 q) B9 (oH.js (QM hw)) ?_
 intro p e s m below meth c C hs
 have J42 : ∀ lab x1 x2 : Nat, lab ≤ 1 → x1 ≤ 1 → x2 ≤ 1 → Kd true p l e room_1 s m #[.int q1, .int q2, .int q3, .int q4, .int q5] below meth c (fun a => h0.size ≤ a) (fun v h vm => v = some (.int 1)) (oH Z Kr h0 []) h0 0 0 (oF m 42 [.val (.int q1), .val (.int q2), .val (.int q3), .val (.int q4), .val (.int q5), .val (.int (Int32.ofNat lab)), .val (.int (Int32.ofNat x1)), .val (.int (Int32.ofNat x2)), .unset, .unset, .unset, .unset, .unset, .unset, .unset, .unset, .unset, .unset, .unset, .unset, .unset, .unset, .unset, .unset, .unset, .unset, .unset] []) := by
  intro lab x1 x2 hl u1 u2
  obtain ⟨s1, t1, e1⟩ := T0 q1 101 (by decide) (by decide)
  obtain ⟨s2, t2, e2⟩ := T0 q2 101 (by decide) (by decide)
  obtain ⟨k1, r1, e3⟩ := T0 q3 3 (by decide) (by decide)
  obtain ⟨k2, r2, e4⟩ := T0 q4 3 (by decide) (by decide)
  refine K8 42 C at_42 ?_
  refine XF 43 C (hw.g 0) at_43 ?_
  refine QA 45 C at_45 ?_
  refine KN 46 C 101 at_46 ?_
  refine Ge 48 C at_48 (by decide) ?_
  rw [show (101 : Int32) = Int32.ofNat 101 from rfl, e1]
  refine KG 49 C (Ls' := [_, _, _, _, _, _, _, _, _, _, _, _, _, _, _, _, _, _, _, _, _, _, _, _, _, _, _]) at_49 rfl ?_
  refine K8 51 C at_51 ?_
  refine XF 52 C (hw.g 0) at_52 ?_
  refine QA 54 C at_54 ?_
  refine KN 55 C 101 at_55 ?_
  refine Ge 57 C at_57 (by decide) ?_
  rw [show (101 : Int32) = Int32.ofNat 101 from rfl, e2]
  refine KG 58 C (Ls' := [_, _, _, _, _, _, _, _, _, _, _, _, _, _, _, _, _, _, _, _, _, _, _, _, _, _, _]) at_58 rfl ?_
  refine K8 60 C at_60 ?_
  refine XF 61 C (hw.g 0) at_61 ?_
  refine QA 63 C at_63 ?_
  refine KD 64 C 3 at_64 ?_
  refine Ge 65 C at_65 (by decide) ?_
  rw [show (3 : Int32) = Int32.ofNat 3 from rfl, e3]
  refine KG 66 C (Ls' := [_, _, _, _, _, _, _, _, _, _, _, _, _, _, _, _, _, _, _, _, _, _, _, _, _, _, _]) at_66 rfl ?_
  refine K8 68 C at_68 ?_
  refine XF 69 C (hw.g 0) at_69 ?_
  refine QA 71 C at_71 ?_
  refine KD 72 C 3 at_72 ?_
  refine Ge 73 C at_73 (by decide) ?_
  rw [show (3 : Int32) = Int32.ofNat 3 from rfl, e4]
  refine KG 74 C (Ls' := [_, _, _, _, _, _, _, _, _, _, _, _, _, _, _, _, _, _, _, _, _, _, _, _, _, _, _]) at_74 rfl ?_
  refine QE 76 C (hw.g 1) (hw.g 2) (hw.g 3) at_76 ?_
  intro h1 sc hsc hPs E1 X1 D1
  have FL := D1 (Or.inr (hw.g 16)) (ty := .boolean) (by decide)
  have FH := D1 (Or.inl (hw.g 173)) (ty := .long) (by decide)
  have FE := D1 (Or.inl (hw.g 48)) (ty := .long) (by decide)
  have FG := D1 (Or.inl (hw.g 57)) (ty := .long) (by decide)
  have FT := D1 (Or.inl (hw.g 327)) (ty := .long) (by decide)
  have FQ := D1 (Or.inl (hw.g 64)) (ty := .long) (by decide)
  have FA := D1 (Or.inr (hw.g 12)) (ty := (.array .long)) (by decide)
  have FB := D1 (Or.inr (hw.g 14)) (ty := (.array .long)) (by decide)
  refine kJ hw (fun _ H => H.ext E1) ?_
  have E := E1
  refine Ku 79 C at_79 rfl ?_
  refine KE 80 C at_80 ?_
  refine KV 82 C (EA hw sc _ _ (Ti hl) (C.young sc hPs) X1 FL FH FE FG FT FQ FA FB) (hw.g 4) (hw.g 5) (hw.g 3) (hw.g 6) WL at_82 (argsL := [_]) rfl rfl rfl rfl (hP := (fun x q r => r.elim (fun z => z ▸ hPs) (fun z => C.new x (Nat.le_trans q z)))) ?_
  rintro _ h2 ⟨rfl, fa, ga, hfa, hga, S⟩ K2
  have hPf := Nat.le_trans E.1 hfa
  have hPg := Nat.le_trans E.1 hga
  refine kJ hw (fun _ H => H.o1 X1 (by decide) (by decide) K2) ?_
  replace E := Km.e1 E K2 hPs
  clear K2 X1 FL FH FE FG FT FQ FA FB D1 E1
  refine Kz 85 C (Ls' := [_, _, _, _, _, _, _, _, _, _, _, _, _, _, _, _, _, _, _, _, _, _, _, _, _, _, _]) at_85 rfl rfl ?_
  refine Kb 87 C at_87 ?_
  refine QE 89 C (hw.g 17) (hw.g 18) (hw.g 19) at_89 ?_
  intro h3 as_ has hPas E3 X3 D3
  have FR := D3 (Or.inr (hw.g 37)) (ty := .int) (by decide)
  have FD := D3 (Or.inr (hw.g 39)) (ty := (.object "com/example/wardstream/wardstream/engine/Decision")) (by decide)
  have FF := D3 (Or.inr (hw.g 41)) (ty := (.object "java/util/List")) (by decide)
  refine kJ hw (fun _ H => H.ext E3) ?_
  replace E := Ki.tr E E3
  refine Ku 92 C at_92 rfl ?_
  refine KE 93 C at_93 ?_
  refine KE 95 C at_95 ?_
  refine KK 97 C (AZ hw ap aa bl k1 _ r1 Sap Saa Sbl n1 n2) (hw.g 20) (hw.g 21) (hw.g 22) (hw.g 23) Jq at_97 (argsL := [_]) rfl rfl rfl rfl ?_
  rintro _ _ ⟨d1, rfl, hd1, rfl⟩ -
  refine QC 100 C at_100 ?_
  refine KV 101 C (BT hw as_ d1 _ _ (C.young as_ hPas) X3 FR FD FF) (hw.g 27) (hw.g 28) (hw.g 19) (hw.g 29) Jp at_101 (argsL := [_, _, _]) rfl rfl rfl rfl (hP := (fun x q r => r.elim (fun z => z ▸ hPas) (fun z => C.new x (Nat.le_trans q z)))) ?_
  rintro _ h4 ⟨rfl, XA, FRa, FDa⟩ K4
  refine kJ hw (fun _ H => H.o1 X3 (by decide) (by decide) K4) ?_
  replace S := S.ext (Km.e1 E3 K4 (Nat.le_of_eq has.symm))
  replace E := Km.e1 E K4 hPas
  refine KE 104 C at_104 ?_
  refine KI 106 C (As hw sc fa ga as_ d1 ap _ _ _ _ _ _ s1 x1 (if k1 = 0 then 0 else 1) _ _ _ S XA FRa FDa Sap t1 (Te u1) (TT hd1) (C.young sc hPs) (C.young fa hPf) (C.young ga hPg)) (S.X) (hw.g 42) (hw.g 43) (QF (hw.g 45)) (hw.g 45) (hw.g 44) (hw.g 3) (hw.g 46) Jx at_106 (argsL := [_, _]) rfl rfl rfl rfl (hP := (fun x q r => r.elim (fun z => z ▸ hPs) (fun r => r.elim (fun z => z ▸ hPf) (fun r => r.elim (fun z => z ▸ hPg) (fun z => C.new x (Nat.le_trans q z)))))) ?_
  rintro _ h5 ⟨rfl, S'⟩ K5
  refine kJ hw (fun _ H => H.sc S K5) ?_
  replace E := Km.e3 E K5 hPs hPf hPg
  replace S := S'
  clear S' K5 XA FRa FDa K4 X3 D3 FR FD FF has hPas E3
  refine Kb 109 C at_109 ?_
  refine QE 111 C (hw.g 17) (hw.g 18) (hw.g 19) at_111 ?_
  intro h3 as_ has hPas E3 X3 D3
  have FR := D3 (Or.inr (hw.g 37)) (ty := .int) (by decide)
  have FD := D3 (Or.inr (hw.g 39)) (ty := (.object "com/example/wardstream/wardstream/engine/Decision")) (by decide)
  have FF := D3 (Or.inr (hw.g 41)) (ty := (.object "java/util/List")) (by decide)
  refine kJ hw (fun _ H => H.ext E3) ?_
  replace E := Ki.tr E E3
  refine Ku 114 C at_114 rfl ?_
  refine KE 115 C at_115 ?_
  refine KE 117 C at_117 ?_
  refine KK 119 C (AZ hw ap aa bl k2 _ r2 Sap Saa Sbl n1 n2) (hw.g 20) (hw.g 21) (hw.g 22) (hw.g 23) Jq at_119 (argsL := [_]) rfl rfl rfl rfl ?_
  rintro _ _ ⟨d2, rfl, hd2, rfl⟩ -
  refine QC 122 C at_122 ?_
  refine KV 123 C (BT hw as_ d2 _ _ (C.young as_ hPas) X3 FR FD FF) (hw.g 27) (hw.g 28) (hw.g 19) (hw.g 29) Jp at_123 (argsL := [_, _, _]) rfl rfl rfl rfl (hP := (fun x q r => r.elim (fun z => z ▸ hPas) (fun z => C.new x (Nat.le_trans q z)))) ?_
  rintro _ h4 ⟨rfl, XA, FRa, FDa⟩ K4
  refine kJ hw (fun _ H => H.o1 X3 (by decide) (by decide) K4) ?_
  replace S := S.ext (Km.e1 E3 K4 (Nat.le_of_eq has.symm))
  replace E := Km.e1 E K4 hPas
  refine KE 126 C at_126 ?_
  refine KI 128 C (As hw sc fa ga as_ d2 ap _ _ _ _ _ _ s2 x2 (if k2 = 0 then 0 else 1) _ _ _ S XA FRa FDa Sap t2 (Te u2) (TT hd2) (C.young sc hPs) (C.young fa hPf) (C.young ga hPg)) (S.X) (hw.g 42) (hw.g 43) (QF (hw.g 45)) (hw.g 45) (hw.g 44) (hw.g 3) (hw.g 46) Jx at_128 (argsL := [_, _]) rfl rfl rfl rfl (hP := (fun x q r => r.elim (fun z => z ▸ hPs) (fun r => r.elim (fun z => z ▸ hPf) (fun r => r.elim (fun z => z ▸ hPg) (fun z => C.new x (Nat.le_trans q z)))))) ?_
  rintro _ h5 ⟨rfl, S'⟩ K5
  refine kJ hw (fun _ H => H.sc S K5) ?_
  replace E := Km.e3 E K5 hPs hPf hPg
  replace S := S'
  clear S' K5 XA FRa FDa K4 X3 D3 FR FD FF has hPas E3
  obtain ⟨f1, WX⟩ : ∃ f1 : Nat, (if k1 = 0 then 0 else 1) = f1 := ⟨_, rfl⟩
  obtain ⟨f2, YL⟩ : ∃ f2 : Nat, (if k2 = 0 then 0 else 1) = f2 := ⟨_, rfl⟩
  have g1 : f1 ≤ 1 := by rw [← WX]; split <;> decide
  have g2 : f2 ≤ 1 := by rw [← YL]; split <;> decide
  rw [WX, YL] at S
  simp only [Nat.zero_add] at S
  obtain ⟨m1, m2, m3, o1, o2, o3, o4⟩ := Rt u1 u2 g1 g2
  obtain ⟨Ff, hFf⟩ : ∃ Ff : Nat → Nat, Ff = (fun i => (if i = s1 then x1 else 0) + if i = s2 then x2 else 0) := ⟨_, rfl⟩
  obtain ⟨Gf, hGf⟩ : ∃ Gf : Nat → Nat, Gf = (fun i => (if i = s1 then 1 - x1 else 0) + if i = s2 then 1 - x2 else 0) := ⟨_, rfl⟩
  rw [← hFf, ← hGf] at S
  have hF : ∀ i, Ff i = XX x1 s1 x2 s2 i := fun i => by rw [hFf]; rfl
  have hG : ∀ i, Gf i = XX (1 - x1) s1 (1 - x2) s2 i := fun i => by rw [hGf]; rfl
  refine Kb 131 C at_131 ?_
  refine Yu 133 C (D6 hw W sc fa ga _ _ _ _ x1 s1 x2 s2 Ff Gf [] _ S hF hG u1 u2 t1 t2 (Ti hl) m1 m2 m3 o1 o2 o3 o4) (fun _ H => H) (S.X) (hw.g 67) (hw.g 68) (QF (hw.g 70)) (hw.g 70) (hw.g 69) (hw.g 3) (hw.g 71) WC at_133 (argsL := []) rfl rfl rfl rfl ?_
  rintro _ h6 _ ⟨a, ea, cap, ps, rfl, LL, hcap, hps, H6⟩ -
  refine ⟨_, H6, (oH.js (QM hw)), ?_⟩
  refine Kz 136 C (Ls' := [_, _, _, _, _, _, _, _, _, _, _, _, _, _, _, _, _, _, _, _, _, _, _, _, _, _, _]) at_136 rfl rfl ?_
  obtain ⟨z0, hz0⟩ := Qu (ps := ps) (i := 0) (u := oU "transactions " ++ oN 2) (by rcases hps with ⟨_, e⟩ | ⟨_, e⟩ <;> rw [e] <;> rfl)
  have G0 : QY Z h6 z0 (oU "transactions " ++ oN 2) := LL.T _ (List.mem_of_getElem? hz0)
  obtain ⟨z1, hz1⟩ := Qu (ps := ps) (i := 1) (u := oU "evaluated " ++ oN 2) (by rcases hps with ⟨_, e⟩ | ⟨_, e⟩ <;> rw [e] <;> rfl)
  have G1 : QY Z h6 z1 (oU "evaluated " ++ oN 2) := LL.T _ (List.mem_of_getElem? hz1)
  obtain ⟨z2, hz2⟩ := Qu (ps := ps) (i := 2) (u := oU "flagged " ++ oN (f1 + f2)) (by rcases hps with ⟨_, e⟩ | ⟨_, e⟩ <;> rw [e] <;> rfl)
  have G2 : QY Z h6 z2 (oU "flagged " ++ oN (f1 + f2)) := LL.T _ (List.mem_of_getElem? hz2)
  have J280 : ∀ v14 v15 v16 v17 v18 v19 v20 : Int32, v16 = Int32.ofNat (f1 + f2) → v17 = Int32.ofNat (x1 + x2) → v18 = Int32.ofNat (x1 * f1 + x2 * f2) → v19 = Int32.ofNat ((1 - x1) * f1 + (1 - x2) * f2) → v20 = Int32.ofNat (2 - (x1 + x2)) → Kd true p l e room_1 s m #[.int q1, .int q2, .int q3, .int q4, .int q5] below meth c (fun a => h0.size ≤ a) (fun v h vm => v = some (.int 1)) (oH Z Kr h6 []) h6 260 7976 (oF m 280 [.val (.int q1), .val (.int q2), .val (.int q3), .val (.int q4), .val (.int q5), .val (.int (Int32.ofNat lab)), .val (.int (Int32.ofNat x1)), .val (.int (Int32.ofNat x2)), .val (.int (Int32.ofNat s1)), .val (.int (Int32.ofNat s2)), .val (.int (Int32.ofNat k1)), .val (.int (Int32.ofNat k2)), .val (.ref sc), .val (.ref a), .val (.int v14), .val (.int v15), .val (.int v16), .val (.int v17), .val (.int v18), .val (.int v19), .val (.int v20), .unset, .unset, .unset, .unset, .unset, .unset] []) := by
   intro v14 v15 v16 v17 v18 v19 v20 w16 w17 w18 w19 w20
   subst w16 w17 w18 w19 w20
   have E : Ext h6 h6 := ⟨Nat.le_refl _, fun _ _ q => q⟩
   refine Kb 280 C at_280 ?_
   refine KD 282 C 0 at_282 ?_
   refine Q4 283 C (Yg hw a ea cap 0 ps z0 _ _ (LL.ext E) hz0 hcap) ((LL.ext E).R.X) (hw.g 278) (hw.g 279) (hw.g 280) (hw.g 281) (hw.g 282) (hw.g 283) (hw.g 284) (hw.g 249) (hw.g 74) (hw.g 285) X9 at_283 (argsL := [_]) rfl rfl rfl rfl ?_
   rintro _ _ ⟨rfl, rfl⟩ -
   refine Qe 288 C (hw.g 299) (Ins.self (G0.ext E).1) at_288 ?_
   refine kL hw 291 C 3 56 (hw.g 300) at_291 ?_
   intro c0 h10 F0 D0
   replace E := Ki.tr E F0
   refine KI 293 C (Yj hw W z0 _ _ _ (G0.ext E) (D0.eq (by decide +kernel)) (by rw [Xf]; decide +kernel)) ((G0.ext E).1) (hw.g 301) (hw.g 302) (QF (hw.g 304)) (hw.g 304) (hw.g 303) (hw.g 110) (hw.g 305) QP at_293 (argsL := [_]) rfl rfl rfl rfl ?_
   rintro _ _ ⟨rfl, rfl⟩ -
   rw [if_pos rfl]
   refine KW 296 C at_296 ?_
   refine Kb 299 C at_299 ?_
   refine KD 301 C 1 at_301 ?_
   refine Q4 302 C (Yg hw a ea cap 1 ps z1 _ _ (LL.ext E) hz1 hcap) ((LL.ext E).R.X) (hw.g 278) (hw.g 279) (hw.g 280) (hw.g 281) (hw.g 282) (hw.g 283) (hw.g 284) (hw.g 249) (hw.g 74) (hw.g 285) X9 at_302 (argsL := [_]) rfl rfl rfl rfl ?_
   rintro _ _ ⟨rfl, rfl⟩ -
   refine Qe 307 C (hw.g 299) (Ins.self (G1.ext E).1) at_307 ?_
   refine kL hw 310 C 4 44 (hw.g 311) at_310 ?_
   intro c0 h10 F0 D0
   replace E := Ki.tr E F0
   refine KI 312 C (Yj hw W z1 _ _ _ (G1.ext E) (D0.eq (by decide +kernel)) (by rw [Xf]; decide +kernel)) ((G1.ext E).1) (hw.g 301) (hw.g 302) (QF (hw.g 304)) (hw.g 304) (hw.g 303) (hw.g 110) (hw.g 305) QP at_312 (argsL := [_]) rfl rfl rfl rfl ?_
   rintro _ _ ⟨rfl, rfl⟩ -
   rw [if_pos rfl]
   refine KW 315 C at_315 ?_
   refine Kb 318 C at_318 ?_
   refine KD 320 C 2 at_320 ?_
   refine Q4 321 C (Yg hw a ea cap 2 ps z2 _ _ (LL.ext E) hz2 hcap) ((LL.ext E).R.X) (hw.g 278) (hw.g 279) (hw.g 280) (hw.g 281) (hw.g 282) (hw.g 283) (hw.g 284) (hw.g 249) (hw.g 74) (hw.g 285) X9 at_321 (argsL := [_]) rfl rfl rfl rfl ?_
   rintro _ _ ⟨rfl, rfl⟩ -
   refine Qe 326 C (hw.g 299) (Ins.self (G2.ext E).1) at_326 ?_
   refine KE 329 C at_329 ?_
   refine kL hw 331 C 5 36 (hw.g 312) at_331 ?_
   intro c0 h10 F0 D0
   replace E := Ki.tr E F0
   refine kL hw 333 C 6 36 (hw.g 313) at_333 ?_
   intro c1 h11 F1 D1
   replace E := Ki.tr E F1
   replace D0 := D0.ext F1
   refine kL hw 335 C 7 36 (hw.g 314) at_335 ?_
   intro c2 h12 F2 D2
   replace E := Ki.tr E F2
   replace D0 := D0.ext F2
   replace D1 := D1.ext F2
   obtain ⟨r, hr, Sr⟩ := Yo (us := oU "flagged ") (k := (f1 + f2)) m1 (D0.eq (by decide +kernel)) (D1.eq (by decide +kernel)) (D2.eq (by decide +kernel))
   refine KK 337 C (RZ hw c0 c1 c2 r [] (f1 + f2) _ (by omega) hr) (hw.g 315) (hw.g 316) (hw.g 22) (hw.g 317) Gj at_337 (argsL := [_, _, _, _]) rfl rfl rfl rfl ?_
   rintro _ _ ⟨rfl, rfl⟩ -
   refine KI 340 C (Yj hw W z2 _ _ _ (G2.ext E) Sr (by rw [Xf]; decide +kernel)) ((G2.ext E).1) (hw.g 301) (hw.g 302) (QF (hw.g 304)) (hw.g 304) (hw.g 303) (hw.g 110) (hw.g 305) QP at_340 (argsL := [_]) rfl rfl rfl rfl ?_
   rintro _ _ ⟨rfl, rfl⟩ -
   rw [if_pos rfl]
   refine KW 343 C at_343 ?_
   clear D0 D1 D2 F0 F1 F2 Sr hr
   refine KD 346 C 1 at_346 ?_
   refine KT 347 C 351 at_347 ?_
   refine KG 351 C (Ls' := [_, _, _, _, _, _, _, _, _, _, _, _, _, _, _, _, _, _, _, _, _, _, _, _, _, _, _]) at_351 rfl ?_
   refine KE 353 C at_353 ?_
   have hlen : ps.length = (ps.map Prod.snd).length := (List.length_map _).symm
   rcases hps with ⟨rl, eps⟩ | ⟨rl, eps⟩
   ·obtain rfl : lab = 0 := (JH hl).1 rl
    refine KW 355 C at_355 ?_
    refine Kb 358 C at_358 ?_
    refine Q4 360 C (Wz hw a ea cap ps _ (LL.ext E)) ((LL.ext E).R.X) (hw.g 318) (hw.g 319) (hw.g 320) (hw.g 321) (hw.g 322) (hw.g 323) (hw.g 324) (hw.g 249) (hw.g 74) (hw.g 325) Qf at_360 (argsL := []) rfl rfl rfl rfl ?_
    rintro _ _ ⟨rfl, rfl⟩ -
    rw [hlen, eps, show Int32.ofNat (List.length [_, _, _]) = 3 from rfl]
    refine KD 365 C 3 at_365 ?_
    refine KS 366 C at_366 ?_
    refine KE 369 C at_369 ?_
    refine KW 371 C at_371 ?_
    refine KD 374 C 1 at_374 ?_
    refine KT 375 C 379 at_375 ?_
    refine KP 379 C at_379 (by first | rfl | decide) (fun _ _ => rfl)
   ·obtain rfl : lab = 1 := (JH hl).2 rl
    refine KQ 355 C 380 at_355 ?_
    refine Kb 380 C at_380 ?_
    refine Q4 382 C (Wz hw a ea cap ps _ (LL.ext E)) ((LL.ext E).R.X) (hw.g 318) (hw.g 319) (hw.g 320) (hw.g 321) (hw.g 322) (hw.g 323) (hw.g 324) (hw.g 249) (hw.g 74) (hw.g 325) Qf at_382 (argsL := []) rfl rfl rfl rfl ?_
    rintro _ _ ⟨rfl, rfl⟩ -
    rw [hlen, eps, show Int32.ofNat (List.length [_, _, _, _, _, _, _, _, _, _, _, _]) = 12 from rfl]
    refine KN 387 C 12 at_387 ?_
    refine KS 389 C at_389 ?_
    refine KE 392 C at_392 ?_
    refine KQ 394 C 399 at_394 ?_
    refine KD 399 C 0 at_399 ?_
    refine KG 400 C (Ls' := [_, _, _, _, _, _, _, _, _, _, _, _, _, _, _, _, _, _, _, _, _, _, _, _, _, _, _]) at_400 rfl ?_
    refine KD 402 C 0 at_402 ?_
    refine KG 403 C (Ls' := [_, _, _, _, _, _, _, _, _, _, _, _, _, _, _, _, _, _, _, _, _, _, _, _, _, _, _]) at_403 rfl ?_
    refine KD 405 C 0 at_405 ?_
    refine KG 406 C (Ls' := [_, _, _, _, _, _, _, _, _, _, _, _, _, _, _, _, _, _, _, _, _, _, _, _, _, _, _]) at_406 rfl ?_
    obtain ⟨z3, hz3⟩ := Qu (ps := ps) (i := 3) (u := oU "frauds " ++ oN (x1 + x2)) (by rw [eps]; rfl)
    have G3 : QY Z h6 z3 (oU "frauds " ++ oN (x1 + x2)) := LL.T _ (List.mem_of_getElem? hz3)
    obtain ⟨z4, hz4⟩ := Qu (ps := ps) (i := 4) (u := oU "true_positives " ++ oN (x1 * f1 + x2 * f2)) (by rw [eps]; rfl)
    have G4 : QY Z h6 z4 (oU "true_positives " ++ oN (x1 * f1 + x2 * f2)) := LL.T _ (List.mem_of_getElem? hz4)
    obtain ⟨z5, hz5⟩ := Qu (ps := ps) (i := 5) (u := oU "false_positives " ++ oN ((1 - x1) * f1 + (1 - x2) * f2)) (by rw [eps]; rfl)
    have G5 : QY Z h6 z5 (oU "false_positives " ++ oN ((1 - x1) * f1 + (1 - x2) * f2)) := LL.T _ (List.mem_of_getElem? hz5)
    obtain ⟨z6, hz6⟩ := Qu (ps := ps) (i := 6) (u := oU "precision " ++ Xn (YQ (x1 * f1 + x2 * f2) (f1 + f2))) (by rw [eps]; rfl)
    have G6 : QY Z h6 z6 (oU "precision " ++ Xn (YQ (x1 * f1 + x2 * f2) (f1 + f2))) := LL.T _ (List.mem_of_getElem? hz6)
    obtain ⟨z7, hz7⟩ := Qu (ps := ps) (i := 7) (u := oU "recall " ++ Xn (YQ (x1 * f1 + x2 * f2) (x1 + x2))) (by rw [eps]; rfl)
    have G7 : QY Z h6 z7 (oU "recall " ++ Xn (YQ (x1 * f1 + x2 * f2) (x1 + x2))) := LL.T _ (List.mem_of_getElem? hz7)
    obtain ⟨z8, hz8⟩ := Qu (ps := ps) (i := 8) (u := oU "f1 " ++ Xn (YQ (2 * (x1 * f1 + x2 * f2)) ((f1 + f2) + (x1 + x2)))) (by rw [eps]; rfl)
    have G8 : QY Z h6 z8 (oU "f1 " ++ Xn (YQ (2 * (x1 * f1 + x2 * f2)) ((f1 + f2) + (x1 + x2)))) := LL.T _ (List.mem_of_getElem? hz8)
    obtain ⟨z9, hz9⟩ := Qu (ps := ps) (i := 9) (u := oU "false_positive_rate " ++ Xn (YQ ((1 - x1) * f1 + (1 - x2) * f2) (2 - (x1 + x2)))) (by rw [eps]; rfl)
    have G9 : QY Z h6 z9 (oU "false_positive_rate " ++ Xn (YQ ((1 - x1) * f1 + (1 - x2) * f2) (2 - (x1 + x2)))) := LL.T _ (List.mem_of_getElem? hz9)
    obtain ⟨z10, hz10⟩ := Qu (ps := ps) (i := 10) (u := oU "auc " ++ Xn (YQ (Ym Ff Gf 101) (2 * (x1 + x2) * (2 - (x1 + x2))))) (by rw [eps]; rfl)
    have G10 : QY Z h6 z10 (oU "auc " ++ Xn (YQ (Ym Ff Gf 101) (2 * (x1 + x2) * (2 - (x1 + x2))))) := LL.T _ (List.mem_of_getElem? hz10)
    obtain ⟨z11, hz11⟩ := Qu (ps := ps) (i := 11) (u := oU "average_precision " ++ Xn (Gs x1 s1 x2 s2)) (by rw [eps]; rfl)
    have G11 : QY Z h6 z11 (oU "average_precision " ++ Xn (Gs x1 s1 x2 s2)) := LL.T _ (List.mem_of_getElem? hz11)
    have J495 : ∀ (an ad ac : Nat) (s25 s26 : Slot), an ≤ 2 → ad ≤ 2 → ac ≤ 3 → Xn (YQ (Ym Ff Gf 101) (2 * (x1 + x2) * (2 - (x1 + x2)))) = B_ (GJ an ad) → GJ an ad ≤ 3 → Xn (Gs x1 s1 x2 s2) = B_ ac → Kd true p l e room_1 s m #[.int q1, .int q2, .int q3, .int q4, .int q5] below meth c (fun a => h0.size ≤ a) (fun v h vm => v = some (.int 1)) (oH Z Kr h12 []) h12 270 8204 (oF m 495 [.val (.int q1), .val (.int q2), .val (.int q3), .val (.int q4), .val (.int q5), .val (.int (Int32.ofNat 1)), .val (.int (Int32.ofNat x1)), .val (.int (Int32.ofNat x2)), .val (.int (Int32.ofNat s1)), .val (.int (Int32.ofNat s2)), .val (.int (Int32.ofNat k1)), .val (.int (Int32.ofNat k2)), .val (.ref sc), .val (.ref a), .val (.int v14), .val (.int v15), .val (.int (Int32.ofNat (f1 + f2))), .val (.int (Int32.ofNat (x1 + x2))), .val (.int (Int32.ofNat (x1 * f1 + x2 * f2))), .val (.int (Int32.ofNat ((1 - x1) * f1 + (1 - x2) * f2))), .val (.int (Int32.ofNat (2 - (x1 + x2)))), .val (.int 1), .val (.int (Int32.ofNat an)), .val (.int (Int32.ofNat ad)), .val (.int (Int32.ofNat ac)), s25, s26] []) := by
     intro an ad ac s25 s26 b1 b2 b3 b4 b5 b6
     refine Kb 495 C at_495 ?_
     refine KD 497 C 3 at_497 ?_
     refine Q4 498 C (Yg hw a ea cap 3 ps z3 _ _ (LL.ext E) hz3 hcap) ((LL.ext E).R.X) (hw.g 278) (hw.g 279) (hw.g 280) (hw.g 281) (hw.g 282) (hw.g 283) (hw.g 284) (hw.g 249) (hw.g 74) (hw.g 285) X9 at_498 (argsL := [_]) rfl rfl rfl rfl ?_
     rintro _ _ ⟨rfl, rfl⟩ -
     refine Qe 503 C (hw.g 299) (Ins.self (G3.ext E).1) at_503 ?_
     refine KE 506 C at_506 ?_
     refine kL hw 508 C 19 32 (hw.g 758) at_508 ?_
     intro c0 h10 F0 D0
     replace E := Ki.tr E F0
     refine kL hw 510 C 20 32 (hw.g 759) at_510 ?_
     intro c1 h11 F1 D1
     replace E := Ki.tr E F1
     replace D0 := D0.ext F1
     refine kL hw 512 C 21 32 (hw.g 760) at_512 ?_
     intro c2 h12 F2 D2
     replace E := Ki.tr E F2
     replace D0 := D0.ext F2
     replace D1 := D1.ext F2
     obtain ⟨r, hr, Sr⟩ := Yo (us := oU "frauds ") (k := (x1 + x2)) (by omega) (D0.eq (by decide +kernel)) (D1.eq (by decide +kernel)) (D2.eq (by decide +kernel))
     refine KK 514 C (RZ hw c0 c1 c2 r [] (x1 + x2) _ (by omega) hr) (hw.g 315) (hw.g 316) (hw.g 22) (hw.g 317) Gj at_514 (argsL := [_, _, _, _]) rfl rfl rfl rfl ?_
     rintro _ _ ⟨rfl, rfl⟩ -
     refine KI 517 C (Yj hw W z3 _ _ _ (G3.ext E) Sr (by rw [Xf]; decide +kernel)) ((G3.ext E).1) (hw.g 301) (hw.g 302) (QF (hw.g 304)) (hw.g 304) (hw.g 303) (hw.g 110) (hw.g 305) QP at_517 (argsL := [_]) rfl rfl rfl rfl ?_
     rintro _ _ ⟨rfl, rfl⟩ -
     rw [if_pos rfl]
     refine KW 520 C at_520 ?_
     clear D0 D1 D2 F0 F1 F2 Sr hr
     refine Kb 523 C at_523 ?_
     refine KD 525 C 4 at_525 ?_
     refine Q4 526 C (Yg hw a ea cap 4 ps z4 _ _ (LL.ext E) hz4 hcap) ((LL.ext E).R.X) (hw.g 278) (hw.g 279) (hw.g 280) (hw.g 281) (hw.g 282) (hw.g 283) (hw.g 284) (hw.g 249) (hw.g 74) (hw.g 285) X9 at_526 (argsL := [_]) rfl rfl rfl rfl ?_
     rintro _ _ ⟨rfl, rfl⟩ -
     refine Qe 531 C (hw.g 299) (Ins.self (G4.ext E).1) at_531 ?_
     refine KE 534 C at_534 ?_
     refine kL hw 536 C 22 64 (hw.g 761) at_536 ?_
     intro c0 h10 F0 D0
     replace E := Ki.tr E F0
     refine kL hw 538 C 23 64 (hw.g 762) at_538 ?_
     intro c1 h11 F1 D1
     replace E := Ki.tr E F1
     replace D0 := D0.ext F1
     refine kL hw 540 C 24 64 (hw.g 763) at_540 ?_
     intro c2 h12 F2 D2
     replace E := Ki.tr E F2
     replace D0 := D0.ext F2
     replace D1 := D1.ext F2
     obtain ⟨r, hr, Sr⟩ := Yo (us := oU "true_positives ") (k := (x1 * f1 + x2 * f2)) m2 (D0.eq (by decide +kernel)) (D1.eq (by decide +kernel)) (D2.eq (by decide +kernel))
     refine KK 542 C (RZ hw c0 c1 c2 r [] (x1 * f1 + x2 * f2) _ (by omega) hr) (hw.g 315) (hw.g 316) (hw.g 22) (hw.g 317) Gj at_542 (argsL := [_, _, _, _]) rfl rfl rfl rfl ?_
     rintro _ _ ⟨rfl, rfl⟩ -
     refine KI 545 C (Yj hw W z4 _ _ _ (G4.ext E) Sr (by rw [Xf]; decide +kernel)) ((G4.ext E).1) (hw.g 301) (hw.g 302) (QF (hw.g 304)) (hw.g 304) (hw.g 303) (hw.g 110) (hw.g 305) QP at_545 (argsL := [_]) rfl rfl rfl rfl ?_
     rintro _ _ ⟨rfl, rfl⟩ -
     rw [if_pos rfl]
     refine KW 548 C at_548 ?_
     clear D0 D1 D2 F0 F1 F2 Sr hr
     refine Kb 551 C at_551 ?_
     refine KD 553 C 5 at_553 ?_
     refine Q4 554 C (Yg hw a ea cap 5 ps z5 _ _ (LL.ext E) hz5 hcap) ((LL.ext E).R.X) (hw.g 278) (hw.g 279) (hw.g 280) (hw.g 281) (hw.g 282) (hw.g 283) (hw.g 284) (hw.g 249) (hw.g 74) (hw.g 285) X9 at_554 (argsL := [_]) rfl rfl rfl rfl ?_
     rintro _ _ ⟨rfl, rfl⟩ -
     refine Qe 559 C (hw.g 299) (Ins.self (G5.ext E).1) at_559 ?_
     refine KE 562 C at_562 ?_
     refine kL hw 564 C 25 68 (hw.g 764) at_564 ?_
     intro c0 h10 F0 D0
     replace E := Ki.tr E F0
     refine kL hw 566 C 26 68 (hw.g 765) at_566 ?_
     intro c1 h11 F1 D1
     replace E := Ki.tr E F1
     replace D0 := D0.ext F1
     refine kL hw 568 C 27 68 (hw.g 766) at_568 ?_
     intro c2 h12 F2 D2
     replace E := Ki.tr E F2
     replace D0 := D0.ext F2
     replace D1 := D1.ext F2
     obtain ⟨r, hr, Sr⟩ := Yo (us := oU "false_positives ") (k := ((1 - x1) * f1 + (1 - x2) * f2)) m3 (D0.eq (by decide +kernel)) (D1.eq (by decide +kernel)) (D2.eq (by decide +kernel))
     refine KK 570 C (RZ hw c0 c1 c2 r [] ((1 - x1) * f1 + (1 - x2) * f2) _ (by omega) hr) (hw.g 315) (hw.g 316) (hw.g 22) (hw.g 317) Gj at_570 (argsL := [_, _, _, _]) rfl rfl rfl rfl ?_
     rintro _ _ ⟨rfl, rfl⟩ -
     refine KI 573 C (Yj hw W z5 _ _ _ (G5.ext E) Sr (by rw [Xf]; decide +kernel)) ((G5.ext E).1) (hw.g 301) (hw.g 302) (QF (hw.g 304)) (hw.g 304) (hw.g 303) (hw.g 110) (hw.g 305) QP at_573 (argsL := [_]) rfl rfl rfl rfl ?_
     rintro _ _ ⟨rfl, rfl⟩ -
     rw [if_pos rfl]
     refine KW 576 C at_576 ?_
     clear D0 D1 D2 F0 F1 F2 Sr hr
     refine Kb 579 C at_579 ?_
     refine KN 581 C 6 at_581 ?_
     refine Q4 583 C (Yg hw a ea cap 6 ps z6 _ _ (LL.ext E) hz6 hcap) ((LL.ext E).R.X) (hw.g 278) (hw.g 279) (hw.g 280) (hw.g 281) (hw.g 282) (hw.g 283) (hw.g 284) (hw.g 249) (hw.g 74) (hw.g 285) X9 at_583 (argsL := [_]) rfl rfl rfl rfl ?_
     rintro _ _ ⟨rfl, rfl⟩ -
     refine Qe 588 C (hw.g 299) (Ins.self (G6.ext E).1) at_588 ?_
     refine KE 591 C at_591 ?_
     refine KE 593 C at_593 ?_
     refine KK 595 C (RK hw (x1 * f1 + x2 * f2) (f1 + f2) _ (Y3 o1.1) (Y3 o1.2.1)) (hw.g 767) (hw.g 768) (hw.g 22) (hw.g 769) XZ at_595 (argsL := [_, _]) rfl rfl rfl rfl ?_
     rintro _ _ ⟨rfl, rfl⟩ -
     refine kL hw 598 C 28 64 (hw.g 770) at_598 ?_
     intro c0 h10 F0 D0
     replace E := Ki.tr E F0
     refine kL hw 600 C 29 64 (hw.g 771) at_600 ?_
     intro c1 h11 F1 D1
     replace E := Ki.tr E F1
     replace D0 := D0.ext F1
     refine kL hw 602 C 30 64 (hw.g 772) at_602 ?_
     intro c2 h12 F2 D2
     replace E := Ki.tr E F2
     replace D0 := D0.ext F2
     replace D1 := D1.ext F2
     refine kL hw 604 C 31 64 (hw.g 773) at_604 ?_
     intro c3 h13 F3 D3
     replace E := Ki.tr E F3
     replace D0 := D0.ext F3
     replace D1 := D1.ext F3
     replace D2 := D2.ext F3
     obtain ⟨r, hr, Sr⟩ := Xz (us := oU "precision ") (k := (GJ (x1 * f1 + x2 * f2) (f1 + f2))) (QI o1).2.2.1 (QI o1).2.1 (D0.eq (by decide +kernel)) (D1.eq (by decide +kernel)) (D2.eq (by decide +kernel)) (D3.eq (by decide +kernel))
     refine KK 606 C (J7 hw c0 c1 c2 c3 r [] (GJ (x1 * f1 + x2 * f2) (f1 + f2)) _ (by have := (QI o1).2.2.1; omega) hr) (hw.g 774) (hw.g 775) (hw.g 22) (hw.g 776) YZ at_606 (argsL := [_, _, _, _, _]) rfl rfl rfl rfl ?_
     rintro _ _ ⟨rfl, rfl⟩ -
     refine KI 609 C (Yj hw W z6 _ _ _ (G6.ext E) Sr (by rw [Xg _ (QI o1).2.2.2]; decide +kernel)) ((G6.ext E).1) (hw.g 301) (hw.g 302) (QF (hw.g 304)) (hw.g 304) (hw.g 303) (hw.g 110) (hw.g 305) QP at_609 (argsL := [_]) rfl rfl rfl rfl ?_
     rintro _ _ ⟨rfl, rfl⟩ -
     rw [if_pos rfl]
     refine KW 612 C at_612 ?_
     clear D0 D1 D2 D3 F0 F1 F2 F3 Sr hr
     refine Kb 615 C at_615 ?_
     refine KN 617 C 7 at_617 ?_
     refine Q4 619 C (Yg hw a ea cap 7 ps z7 _ _ (LL.ext E) hz7 hcap) ((LL.ext E).R.X) (hw.g 278) (hw.g 279) (hw.g 280) (hw.g 281) (hw.g 282) (hw.g 283) (hw.g 284) (hw.g 249) (hw.g 74) (hw.g 285) X9 at_619 (argsL := [_]) rfl rfl rfl rfl ?_
     rintro _ _ ⟨rfl, rfl⟩ -
     refine Qe 624 C (hw.g 299) (Ins.self (G7.ext E).1) at_624 ?_
     refine KE 627 C at_627 ?_
     refine KE 629 C at_629 ?_
     refine KK 631 C (RK hw (x1 * f1 + x2 * f2) (x1 + x2) _ (Y3 o2.1) (Y3 o2.2.1)) (hw.g 767) (hw.g 768) (hw.g 22) (hw.g 769) XZ at_631 (argsL := [_, _]) rfl rfl rfl rfl ?_
     rintro _ _ ⟨rfl, rfl⟩ -
     refine kL hw 634 C 32 52 (hw.g 777) at_634 ?_
     intro c0 h10 F0 D0
     replace E := Ki.tr E F0
     refine kL hw 636 C 33 52 (hw.g 778) at_636 ?_
     intro c1 h11 F1 D1
     replace E := Ki.tr E F1
     replace D0 := D0.ext F1
     refine kL hw 638 C 34 52 (hw.g 779) at_638 ?_
     intro c2 h12 F2 D2
     replace E := Ki.tr E F2
     replace D0 := D0.ext F2
     replace D1 := D1.ext F2
     refine kL hw 640 C 35 52 (hw.g 780) at_640 ?_
     intro c3 h13 F3 D3
     replace E := Ki.tr E F3
     replace D0 := D0.ext F3
     replace D1 := D1.ext F3
     replace D2 := D2.ext F3
     obtain ⟨r, hr, Sr⟩ := Xz (us := oU "recall ") (k := (GJ (x1 * f1 + x2 * f2) (x1 + x2))) (QI o2).2.2.1 (QI o2).2.1 (D0.eq (by decide +kernel)) (D1.eq (by decide +kernel)) (D2.eq (by decide +kernel)) (D3.eq (by decide +kernel))
     refine KK 642 C (J7 hw c0 c1 c2 c3 r [] (GJ (x1 * f1 + x2 * f2) (x1 + x2)) _ (by have := (QI o2).2.2.1; omega) hr) (hw.g 774) (hw.g 775) (hw.g 22) (hw.g 776) YZ at_642 (argsL := [_, _, _, _, _]) rfl rfl rfl rfl ?_
     rintro _ _ ⟨rfl, rfl⟩ -
     refine KI 645 C (Yj hw W z7 _ _ _ (G7.ext E) Sr (by rw [Xg _ (QI o2).2.2.2]; decide +kernel)) ((G7.ext E).1) (hw.g 301) (hw.g 302) (QF (hw.g 304)) (hw.g 304) (hw.g 303) (hw.g 110) (hw.g 305) QP at_645 (argsL := [_]) rfl rfl rfl rfl ?_
     rintro _ _ ⟨rfl, rfl⟩ -
     rw [if_pos rfl]
     refine KW 648 C at_648 ?_
     clear D0 D1 D2 D3 F0 F1 F2 F3 Sr hr
     refine Kb 651 C at_651 ?_
     refine KN 653 C 8 at_653 ?_
     refine Q4 655 C (Yg hw a ea cap 8 ps z8 _ _ (LL.ext E) hz8 hcap) ((LL.ext E).R.X) (hw.g 278) (hw.g 279) (hw.g 280) (hw.g 281) (hw.g 282) (hw.g 283) (hw.g 284) (hw.g 249) (hw.g 74) (hw.g 285) X9 at_655 (argsL := [_]) rfl rfl rfl rfl ?_
     rintro _ _ ⟨rfl, rfl⟩ -
     refine Qe 660 C (hw.g 299) (Ins.self (G8.ext E).1) at_660 ?_
     refine KD 663 C 2 at_663 ?_
     refine KE 664 C at_664 ?_
     refine Xu 666 C at_666 ?_
     rw [UG]
     refine KE 667 C at_667 ?_
     refine KE 669 C at_669 ?_
     refine Kg 671 C at_671 ?_
     rw [← Int32.ofNat_add]
     refine KK 672 C (RK hw (2 * (x1 * f1 + x2 * f2)) ((f1 + f2) + (x1 + x2)) _ (Y3 o3.1) (Y3 o3.2.1)) (hw.g 767) (hw.g 768) (hw.g 22) (hw.g 769) XZ at_672 (argsL := [_, _]) rfl rfl rfl rfl ?_
     rintro _ _ ⟨rfl, rfl⟩ -
     refine kL hw 675 C 36 36 (hw.g 781) at_675 ?_
     intro c0 h10 F0 D0
     replace E := Ki.tr E F0
     refine kL hw 677 C 37 36 (hw.g 782) at_677 ?_
     intro c1 h11 F1 D1
     replace E := Ki.tr E F1
     replace D0 := D0.ext F1
     refine kL hw 679 C 38 36 (hw.g 783) at_679 ?_
     intro c2 h12 F2 D2
     replace E := Ki.tr E F2
     replace D0 := D0.ext F2
     replace D1 := D1.ext F2
     refine kL hw 681 C 39 36 (hw.g 784) at_681 ?_
     intro c3 h13 F3 D3
     replace E := Ki.tr E F3
     replace D0 := D0.ext F3
     replace D1 := D1.ext F3
     replace D2 := D2.ext F3
     obtain ⟨r, hr, Sr⟩ := Xz (us := oU "f1 ") (k := (GJ (2 * (x1 * f1 + x2 * f2)) ((f1 + f2) + (x1 + x2)))) (QI o3).2.2.1 (QI o3).2.1 (D0.eq (by decide +kernel)) (D1.eq (by decide +kernel)) (D2.eq (by decide +kernel)) (D3.eq (by decide +kernel))
     refine KK 683 C (J7 hw c0 c1 c2 c3 r [] (GJ (2 * (x1 * f1 + x2 * f2)) ((f1 + f2) + (x1 + x2))) _ (by have := (QI o3).2.2.1; omega) hr) (hw.g 774) (hw.g 775) (hw.g 22) (hw.g 776) YZ at_683 (argsL := [_, _, _, _, _]) rfl rfl rfl rfl ?_
     rintro _ _ ⟨rfl, rfl⟩ -
     refine KI 686 C (Yj hw W z8 _ _ _ (G8.ext E) Sr (by rw [Xg _ (QI o3).2.2.2]; decide +kernel)) ((G8.ext E).1) (hw.g 301) (hw.g 302) (QF (hw.g 304)) (hw.g 304) (hw.g 303) (hw.g 110) (hw.g 305) QP at_686 (argsL := [_]) rfl rfl rfl rfl ?_
     rintro _ _ ⟨rfl, rfl⟩ -
     rw [if_pos rfl]
     refine KW 689 C at_689 ?_
     clear D0 D1 D2 D3 F0 F1 F2 F3 Sr hr
     refine Kb 692 C at_692 ?_
     refine KN 694 C 9 at_694 ?_
     refine Q4 696 C (Yg hw a ea cap 9 ps z9 _ _ (LL.ext E) hz9 hcap) ((LL.ext E).R.X) (hw.g 278) (hw.g 279) (hw.g 280) (hw.g 281) (hw.g 282) (hw.g 283) (hw.g 284) (hw.g 249) (hw.g 74) (hw.g 285) X9 at_696 (argsL := [_]) rfl rfl rfl rfl ?_
     rintro _ _ ⟨rfl, rfl⟩ -
     refine Qe 701 C (hw.g 299) (Ins.self (G9.ext E).1) at_701 ?_
     refine KE 704 C at_704 ?_
     refine KE 706 C at_706 ?_
     refine KK 708 C (RK hw ((1 - x1) * f1 + (1 - x2) * f2) (2 - (x1 + x2)) _ (Y3 o4.1) (Y3 o4.2.1)) (hw.g 767) (hw.g 768) (hw.g 22) (hw.g 769) XZ at_708 (argsL := [_, _]) rfl rfl rfl rfl ?_
     rintro _ _ ⟨rfl, rfl⟩ -
     refine kL hw 711 C 40 104 (hw.g 785) at_711 ?_
     intro c0 h10 F0 D0
     replace E := Ki.tr E F0
     refine kL hw 713 C 41 104 (hw.g 786) at_713 ?_
     intro c1 h11 F1 D1
     replace E := Ki.tr E F1
     replace D0 := D0.ext F1
     refine kL hw 715 C 42 104 (hw.g 787) at_715 ?_
     intro c2 h12 F2 D2
     replace E := Ki.tr E F2
     replace D0 := D0.ext F2
     replace D1 := D1.ext F2
     refine kL hw 717 C 43 104 (hw.g 788) at_717 ?_
     intro c3 h13 F3 D3
     replace E := Ki.tr E F3
     replace D0 := D0.ext F3
     replace D1 := D1.ext F3
     replace D2 := D2.ext F3
     obtain ⟨r, hr, Sr⟩ := Xz (us := oU "false_positive_rate ") (k := (GJ ((1 - x1) * f1 + (1 - x2) * f2) (2 - (x1 + x2)))) (QI o4).2.2.1 (QI o4).2.1 (D0.eq (by decide +kernel)) (D1.eq (by decide +kernel)) (D2.eq (by decide +kernel)) (D3.eq (by decide +kernel))
     refine KK 719 C (J7 hw c0 c1 c2 c3 r [] (GJ ((1 - x1) * f1 + (1 - x2) * f2) (2 - (x1 + x2))) _ (by have := (QI o4).2.2.1; omega) hr) (hw.g 774) (hw.g 775) (hw.g 22) (hw.g 776) YZ at_719 (argsL := [_, _, _, _, _]) rfl rfl rfl rfl ?_
     rintro _ _ ⟨rfl, rfl⟩ -
     refine KI 722 C (Yj hw W z9 _ _ _ (G9.ext E) Sr (by rw [Xg _ (QI o4).2.2.2]; decide +kernel)) ((G9.ext E).1) (hw.g 301) (hw.g 302) (QF (hw.g 304)) (hw.g 304) (hw.g 303) (hw.g 110) (hw.g 305) QP at_722 (argsL := [_]) rfl rfl rfl rfl ?_
     rintro _ _ ⟨rfl, rfl⟩ -
     rw [if_pos rfl]
     refine KW 725 C at_725 ?_
     clear D0 D1 D2 D3 F0 F1 F2 F3 Sr hr
     refine Kb 728 C at_728 ?_
     refine KN 730 C 10 at_730 ?_
     refine Q4 732 C (Yg hw a ea cap 10 ps z10 _ _ (LL.ext E) hz10 hcap) ((LL.ext E).R.X) (hw.g 278) (hw.g 279) (hw.g 280) (hw.g 281) (hw.g 282) (hw.g 283) (hw.g 284) (hw.g 249) (hw.g 74) (hw.g 285) X9 at_732 (argsL := [_]) rfl rfl rfl rfl ?_
     rintro _ _ ⟨rfl, rfl⟩ -
     refine Qe 737 C (hw.g 299) (Ins.self (G10.ext E).1) at_737 ?_
     refine KE 740 C at_740 ?_
     refine KE 742 C at_742 ?_
     refine KK 744 C (RK hw an ad _ (Y3 (by omega)) (Y3 (by omega))) (hw.g 767) (hw.g 768) (hw.g 22) (hw.g 769) XZ at_744 (argsL := [_, _]) rfl rfl rfl rfl ?_
     rintro _ _ ⟨rfl, rfl⟩ -
     refine kL hw 747 C 44 40 (hw.g 789) at_747 ?_
     intro c0 h10 F0 D0
     replace E := Ki.tr E F0
     refine kL hw 749 C 45 40 (hw.g 790) at_749 ?_
     intro c1 h11 F1 D1
     replace E := Ki.tr E F1
     replace D0 := D0.ext F1
     refine kL hw 751 C 46 40 (hw.g 791) at_751 ?_
     intro c2 h12 F2 D2
     replace E := Ki.tr E F2
     replace D0 := D0.ext F2
     replace D1 := D1.ext F2
     refine kL hw 753 C 47 40 (hw.g 792) at_753 ?_
     intro c3 h13 F3 D3
     replace E := Ki.tr E F3
     replace D0 := D0.ext F3
     replace D1 := D1.ext F3
     replace D2 := D2.ext F3
     obtain ⟨r, hr, Sr⟩ := Xz (us := oU "auc ") (k := (GJ an ad)) b5 b4 (D0.eq (by decide +kernel)) (D1.eq (by decide +kernel)) (D2.eq (by decide +kernel)) (D3.eq (by decide +kernel))
     refine KK 755 C (J7 hw c0 c1 c2 c3 r [] (GJ an ad) _ (by have := b5; omega) hr) (hw.g 774) (hw.g 775) (hw.g 22) (hw.g 776) YZ at_755 (argsL := [_, _, _, _, _]) rfl rfl rfl rfl ?_
     rintro _ _ ⟨rfl, rfl⟩ -
     refine KI 758 C (Yj hw W z10 _ _ _ (G10.ext E) Sr (by rw [Xg _ (QI (Xv u1 u2 hF hG)).2.2.2]; decide +kernel)) ((G10.ext E).1) (hw.g 301) (hw.g 302) (QF (hw.g 304)) (hw.g 304) (hw.g 303) (hw.g 110) (hw.g 305) QP at_758 (argsL := [_]) rfl rfl rfl rfl ?_
     rintro _ _ ⟨rfl, rfl⟩ -
     rw [if_pos rfl]
     refine KW 761 C at_761 ?_
     clear D0 D1 D2 D3 F0 F1 F2 F3 Sr hr
     refine Kb 764 C at_764 ?_
     refine KN 766 C 11 at_766 ?_
     refine Q4 768 C (Yg hw a ea cap 11 ps z11 _ _ (LL.ext E) hz11 hcap) ((LL.ext E).R.X) (hw.g 278) (hw.g 279) (hw.g 280) (hw.g 281) (hw.g 282) (hw.g 283) (hw.g 284) (hw.g 249) (hw.g 74) (hw.g 285) X9 at_768 (argsL := [_]) rfl rfl rfl rfl ?_
     rintro _ _ ⟨rfl, rfl⟩ -
     refine Qe 773 C (hw.g 299) (Ins.self (G11.ext E).1) at_773 ?_
     refine KE 776 C at_776 ?_
     refine kL hw 778 C 48 96 (hw.g 793) at_778 ?_
     intro c0 h10 F0 D0
     replace E := Ki.tr E F0
     refine kL hw 780 C 49 96 (hw.g 794) at_780 ?_
     intro c1 h11 F1 D1
     replace E := Ki.tr E F1
     replace D0 := D0.ext F1
     refine kL hw 782 C 50 96 (hw.g 795) at_782 ?_
     intro c2 h12 F2 D2
     replace E := Ki.tr E F2
     replace D0 := D0.ext F2
     replace D1 := D1.ext F2
     refine kL hw 784 C 51 96 (hw.g 796) at_784 ?_
     intro c3 h13 F3 D3
     replace E := Ki.tr E F3
     replace D0 := D0.ext F3
     replace D1 := D1.ext F3
     replace D2 := D2.ext F3
     obtain ⟨r, hr, Sr⟩ := Xz (us := oU "average_precision ") (k := ac) b3 b6 (D0.eq (by decide +kernel)) (D1.eq (by decide +kernel)) (D2.eq (by decide +kernel)) (D3.eq (by decide +kernel))
     refine KK 786 C (J7 hw c0 c1 c2 c3 r [] ac _ (by have := b3; omega) hr) (hw.g 774) (hw.g 775) (hw.g 22) (hw.g 776) YZ at_786 (argsL := [_, _, _, _, _]) rfl rfl rfl rfl ?_
     rintro _ _ ⟨rfl, rfl⟩ -
     refine KI 789 C (Yj hw W z11 _ _ _ (G11.ext E) Sr (by rw [Xg _ (Hx x1 s1 x2 s2)]; decide +kernel)) ((G11.ext E).1) (hw.g 301) (hw.g 302) (QF (hw.g 304)) (hw.g 304) (hw.g 303) (hw.g 110) (hw.g 305) QP at_789 (argsL := [_]) rfl rfl rfl rfl ?_
     rintro _ _ ⟨rfl, rfl⟩ -
     rw [if_pos rfl]
     refine KW 792 C at_792 ?_
     clear D0 D1 D2 D3 F0 F1 F2 F3 Sr hr
     refine KD 795 C 1 at_795 ?_
     refine KT 796 C 800 at_796 ?_
     refine KP 800 C at_800 (by first | rfl | decide) (fun _ _ => rfl)
    obtain rfl | rfl : x1 = 0 ∨ x1 = 1 := by omega
    all_goals obtain rfl | rfl : x2 = 0 ∨ x2 = 1 := by omega
    ·refine KE 408 C at_408 ?_
     refine KD 410 C 1 at_410 ?_
     refine KU 411 C 486 at_411 ?_
     refine KE 486 C at_486 ?_
     refine KD 488 C 2 at_488 ?_
     refine KU 489 C 495 at_489 ?_
     have hv : Ym Ff Gf 101 = 0 := by rw [Yr u1 u2 hF hG]; simp
     have hp : Gs 0 s1 0 s2 = 0 := rfl
     exact J495 0 0 0 _ _ (by decide) (by decide) (by decide) (by rw [hv]; decide +kernel) (by decide) (by rw [hp]; decide +kernel)
    ·refine KE 408 C at_408 ?_
     refine KD 410 C 1 at_410 ?_
     refine KS 411 C at_411 ?_
     refine KE 414 C at_414 ?_
     refine KQ 416 C 424 at_416 ?_
     refine KE 424 C at_424 ?_
     refine KG 426 C (Ls' := [_, _, _, _, _, _, _, _, _, _, _, _, _, _, _, _, _, _, _, _, _, _, _, _, _, _, _]) at_426 rfl ?_
     refine KE 428 C at_428 ?_
     refine KQ 430 C 438 at_430 ?_
     refine KE 438 C at_438 ?_
     refine KG 440 C (Ls' := [_, _, _, _, _, _, _, _, _, _, _, _, _, _, _, _, _, _, _, _, _, _, _, _, _, _, _]) at_440 rfl ?_
     refine KD 442 C 2 at_442 ?_
     refine KG 443 C (Ls' := [_, _, _, _, _, _, _, _, _, _, _, _, _, _, _, _, _, _, _, _, _, _, _, _, _, _, _]) at_443 rfl ?_
     refine KE 445 C at_445 ?_
     refine KE 447 C at_447 ?_
     refine QK 449 C 461 at_449 (fun hc449 => ?_) (fun hc449 => ?_)
     ·simp only [oC, Classical.not_not] at hc449
      refine KE 461 C at_461 ?_
      refine KE 463 C at_463 ?_
      refine QK 465 C 477 at_465 (fun hc465 => ?_) (fun hc465 => ?_)
      ·simp only [oC, Classical.not_not] at hc465
       refine KD 477 C 0 at_477 ?_
       refine KG 478 C (Ls' := [_, _, _, _, _, _, _, _, _, _, _, _, _, _, _, _, _, _, _, _, _, _, _, _, _, _, _]) at_478 rfl ?_
       refine KD 480 C 1 at_480 ?_
       refine KG 481 C (Ls' := [_, _, _, _, _, _, _, _, _, _, _, _, _, _, _, _, _, _, _, _, _, _, _, _, _, _, _]) at_481 rfl ?_
       refine KT 483 C 495 at_483 ?_
       obtain ⟨hv, hp⟩ := (YY (Or.inr ⟨rfl, rfl, rfl, rfl⟩) hF hG t1 t2).2.2 hc449 hc465
       exact J495 0 2 1 _ _ (by decide) (by decide) (by decide) (by rw [hv]; decide +kernel) (by decide) (by rw [hp]; decide +kernel)
      ·simp only [oC, Classical.not_not] at hc465
       refine KD 468 C 1 at_468 ?_
       refine KG 469 C (Ls' := [_, _, _, _, _, _, _, _, _, _, _, _, _, _, _, _, _, _, _, _, _, _, _, _, _, _, _]) at_469 rfl ?_
       refine KD 471 C 1 at_471 ?_
       refine KG 472 C (Ls' := [_, _, _, _, _, _, _, _, _, _, _, _, _, _, _, _, _, _, _, _, _, _, _, _, _, _, _]) at_472 rfl ?_
       refine KT 474 C 483 at_474 ?_
       refine KT 483 C 495 at_483 ?_
       obtain ⟨hv, hp⟩ := (YY (Or.inr ⟨rfl, rfl, rfl, rfl⟩) hF hG t1 t2).2.1 hc465
       exact J495 1 2 1 _ _ (by decide) (by decide) (by decide) (by rw [hv]; decide +kernel) (by decide) (by rw [hp]; decide +kernel)
     ·simp only [oC, Classical.not_not] at hc449
      refine KD 452 C 2 at_452 ?_
      refine KG 453 C (Ls' := [_, _, _, _, _, _, _, _, _, _, _, _, _, _, _, _, _, _, _, _, _, _, _, _, _, _, _]) at_453 rfl ?_
      refine KD 455 C 3 at_455 ?_
      refine KG 456 C (Ls' := [_, _, _, _, _, _, _, _, _, _, _, _, _, _, _, _, _, _, _, _, _, _, _, _, _, _, _]) at_456 rfl ?_
      refine KT 458 C 483 at_458 ?_
      refine KT 483 C 495 at_483 ?_
      obtain ⟨hv, hp⟩ := (YY (Or.inr ⟨rfl, rfl, rfl, rfl⟩) hF hG t1 t2).1 hc449
      exact J495 2 2 3 _ _ (by decide) (by decide) (by decide) (by rw [hv]; decide +kernel) (by decide) (by rw [hp]; decide +kernel)
    ·refine KE 408 C at_408 ?_
     refine KD 410 C 1 at_410 ?_
     refine KS 411 C at_411 ?_
     refine KE 414 C at_414 ?_
     refine KW 416 C at_416 ?_
     refine KE 419 C at_419 ?_
     refine KT 421 C 426 at_421 ?_
     refine KG 426 C (Ls' := [_, _, _, _, _, _, _, _, _, _, _, _, _, _, _, _, _, _, _, _, _, _, _, _, _, _, _]) at_426 rfl ?_
     refine KE 428 C at_428 ?_
     refine KW 430 C at_430 ?_
     refine KE 433 C at_433 ?_
     refine KT 435 C 440 at_435 ?_
     refine KG 440 C (Ls' := [_, _, _, _, _, _, _, _, _, _, _, _, _, _, _, _, _, _, _, _, _, _, _, _, _, _, _]) at_440 rfl ?_
     refine KD 442 C 2 at_442 ?_
     refine KG 443 C (Ls' := [_, _, _, _, _, _, _, _, _, _, _, _, _, _, _, _, _, _, _, _, _, _, _, _, _, _, _]) at_443 rfl ?_
     refine KE 445 C at_445 ?_
     refine KE 447 C at_447 ?_
     refine QK 449 C 461 at_449 (fun hc449 => ?_) (fun hc449 => ?_)
     ·simp only [oC, Classical.not_not] at hc449
      refine KE 461 C at_461 ?_
      refine KE 463 C at_463 ?_
      refine QK 465 C 477 at_465 (fun hc465 => ?_) (fun hc465 => ?_)
      ·simp only [oC, Classical.not_not] at hc465
       refine KD 477 C 0 at_477 ?_
       refine KG 478 C (Ls' := [_, _, _, _, _, _, _, _, _, _, _, _, _, _, _, _, _, _, _, _, _, _, _, _, _, _, _]) at_478 rfl ?_
       refine KD 480 C 1 at_480 ?_
       refine KG 481 C (Ls' := [_, _, _, _, _, _, _, _, _, _, _, _, _, _, _, _, _, _, _, _, _, _, _, _, _, _, _]) at_481 rfl ?_
       refine KT 483 C 495 at_483 ?_
       obtain ⟨hv, hp⟩ := (YY (Or.inl ⟨rfl, rfl, rfl, rfl⟩) hF hG t1 t2).2.2 hc449 hc465
       exact J495 0 2 1 _ _ (by decide) (by decide) (by decide) (by rw [hv]; decide +kernel) (by decide) (by rw [hp]; decide +kernel)
      ·simp only [oC, Classical.not_not] at hc465
       refine KD 468 C 1 at_468 ?_
       refine KG 469 C (Ls' := [_, _, _, _, _, _, _, _, _, _, _, _, _, _, _, _, _, _, _, _, _, _, _, _, _, _, _]) at_469 rfl ?_
       refine KD 471 C 1 at_471 ?_
       refine KG 472 C (Ls' := [_, _, _, _, _, _, _, _, _, _, _, _, _, _, _, _, _, _, _, _, _, _, _, _, _, _, _]) at_472 rfl ?_
       refine KT 474 C 483 at_474 ?_
       refine KT 483 C 495 at_483 ?_
       obtain ⟨hv, hp⟩ := (YY (Or.inl ⟨rfl, rfl, rfl, rfl⟩) hF hG t1 t2).2.1 hc465
       exact J495 1 2 1 _ _ (by decide) (by decide) (by decide) (by rw [hv]; decide +kernel) (by decide) (by rw [hp]; decide +kernel)
     ·simp only [oC, Classical.not_not] at hc449
      refine KD 452 C 2 at_452 ?_
      refine KG 453 C (Ls' := [_, _, _, _, _, _, _, _, _, _, _, _, _, _, _, _, _, _, _, _, _, _, _, _, _, _, _]) at_453 rfl ?_
      refine KD 455 C 3 at_455 ?_
      refine KG 456 C (Ls' := [_, _, _, _, _, _, _, _, _, _, _, _, _, _, _, _, _, _, _, _, _, _, _, _, _, _, _]) at_456 rfl ?_
      refine KT 458 C 483 at_458 ?_
      refine KT 483 C 495 at_483 ?_
      obtain ⟨hv, hp⟩ := (YY (Or.inl ⟨rfl, rfl, rfl, rfl⟩) hF hG t1 t2).1 hc449
      exact J495 2 2 3 _ _ (by decide) (by decide) (by decide) (by rw [hv]; decide +kernel) (by decide) (by rw [hp]; decide +kernel)
    ·refine KE 408 C at_408 ?_
     refine KD 410 C 1 at_410 ?_
     refine KU 411 C 486 at_411 ?_
     refine KE 486 C at_486 ?_
     refine KD 488 C 2 at_488 ?_
     refine KS 489 C at_489 ?_
     refine KD 492 C 3 at_492 ?_
     refine KG 493 C (Ls' := [_, _, _, _, _, _, _, _, _, _, _, _, _, _, _, _, _, _, _, _, _, _, _, _, _, _, _]) at_493 rfl ?_
     have hv : Ym Ff Gf 101 = 0 := by rw [Yr u1 u2 hF hG]; simp
     have hp : Gs 1 s1 1 s2 = 10000 := rfl
     exact J495 0 0 3 _ _ (by decide) (by decide) (by decide) (by rw [hv]; decide +kernel) (by decide) (by rw [hp]; decide +kernel)
  rw [← WX, ← YL] at J280
  clear LL hz0 hz1 hz2 hps S hF hG o1 o2 o3 o4 m1 m2 m3 g1 g2 WX YL E hd1 hd2
  have c1 : k1 = 0 ∨ k1 = 1 ∨ k1 = 2 := by omega
  have c2 : k2 = 0 ∨ k2 = 1 ∨ k2 = 2 := by omega
  have c3 : x1 = 0 ∨ x1 = 1 := by omega
  have c4 : x2 = 0 ∨ x2 = 1 := by omega
  clear e1 e2 e3 e4 t1 t2 r1 r2 u1 u2
  rcases c1 with rfl | rfl | rfl <;> rcases c2 with rfl | rfl | rfl <;> rcases c3 with rfl | rfl <;> rcases c4 with rfl | rfl <;> (
   refine KE 138 C at_138 ?_
   first | (refine KQ 140 C 147 at_140 ?_; refine KD 147 C 0 at_147 ?_) | (refine KW 140 C at_140 ?_; refine KD 143 C 1 at_143 ?_; refine KT 144 C 148 at_144 ?_)
   refine KG 148 C (Ls' := [_, _, _, _, _, _, _, _, _, _, _, _, _, _, _, _, _, _, _, _, _, _, _, _, _, _, _]) at_148 rfl ?_
   refine KE 150 C at_150 ?_
   first | (refine KQ 152 C 159 at_152 ?_; refine KD 159 C 0 at_159 ?_) | (refine KW 152 C at_152 ?_; refine KD 155 C 1 at_155 ?_; refine KT 156 C 160 at_156 ?_)
   refine KG 160 C (Ls' := [_, _, _, _, _, _, _, _, _, _, _, _, _, _, _, _, _, _, _, _, _, _, _, _, _, _, _]) at_160 rfl ?_
   refine KE 162 C at_162 ?_
   first | (refine KQ 164 C 171 at_164 ?_; refine KD 171 C 0 at_171 ?_) | (refine KW 164 C at_164 ?_; refine KD 167 C 1 at_167 ?_; refine KT 168 C 172 at_168 ?_)
   refine KE 172 C at_172 ?_
   first | (refine KQ 174 C 181 at_174 ?_; refine KD 181 C 0 at_181 ?_) | (refine KW 174 C at_174 ?_; refine KD 177 C 1 at_177 ?_; refine KT 178 C 182 at_178 ?_)
   refine Kg 182 C at_182 ?_
   refine KG 183 C (Ls' := [_, _, _, _, _, _, _, _, _, _, _, _, _, _, _, _, _, _, _, _, _, _, _, _, _, _, _]) at_183 rfl ?_
   refine KE 185 C at_185 ?_
   first | (refine KQ 187 C 194 at_187 ?_; refine KD 194 C 0 at_194 ?_) | (refine KW 187 C at_187 ?_; refine KD 190 C 1 at_190 ?_; refine KT 191 C 195 at_191 ?_)
   refine KE 195 C at_195 ?_
   first | (refine KQ 197 C 204 at_197 ?_; refine KD 204 C 0 at_204 ?_) | (refine KW 197 C at_197 ?_; refine KD 200 C 1 at_200 ?_; refine KT 201 C 205 at_201 ?_)
   refine Kg 205 C at_205 ?_
   refine KG 206 C (Ls' := [_, _, _, _, _, _, _, _, _, _, _, _, _, _, _, _, _, _, _, _, _, _, _, _, _, _, _]) at_206 rfl ?_
   refine KE 208 C at_208 ?_
   first | (refine KQ 210 C 222 at_210 ?_; refine KD 222 C 0 at_222 ?_) | (refine KW 210 C at_210 ?_; refine KE 213 C at_213 ?_; first | (refine KQ 215 C 222 at_215 ?_; refine KD 222 C 0 at_222 ?_) | (refine KW 215 C at_215 ?_; refine KD 218 C 1 at_218 ?_; refine KT 219 C 223 at_219 ?_))
   refine KE 223 C at_223 ?_
   first | (refine KQ 225 C 237 at_225 ?_; refine KD 237 C 0 at_237 ?_) | (refine KW 225 C at_225 ?_; refine KE 228 C at_228 ?_; first | (refine KQ 230 C 237 at_230 ?_; refine KD 237 C 0 at_237 ?_) | (refine KW 230 C at_230 ?_; refine KD 233 C 1 at_233 ?_; refine KT 234 C 238 at_234 ?_))
   refine Kg 238 C at_238 ?_
   refine KG 239 C (Ls' := [_, _, _, _, _, _, _, _, _, _, _, _, _, _, _, _, _, _, _, _, _, _, _, _, _, _, _]) at_239 rfl ?_
   refine KE 241 C at_241 ?_
   first | (refine KQ 243 C 255 at_243 ?_; refine KD 255 C 0 at_255 ?_) | (refine KW 243 C at_243 ?_; refine KE 246 C at_246 ?_; first | (refine KQ 248 C 255 at_248 ?_; refine KD 255 C 0 at_255 ?_) | (refine KW 248 C at_248 ?_; refine KD 251 C 1 at_251 ?_; refine KT 252 C 256 at_252 ?_))
   refine KE 256 C at_256 ?_
   first | (refine KQ 258 C 270 at_258 ?_; refine KD 270 C 0 at_270 ?_) | (refine KW 258 C at_258 ?_; refine KE 261 C at_261 ?_; first | (refine KQ 263 C 270 at_263 ?_; refine KD 270 C 0 at_270 ?_) | (refine KW 263 C at_263 ?_; refine KD 266 C 1 at_266 ?_; refine KT 267 C 271 at_267 ?_))
   refine Kg 271 C at_271 ?_
   refine KG 272 C (Ls' := [_, _, _, _, _, _, _, _, _, _, _, _, _, _, _, _, _, _, _, _, _, _, _, _, _, _, _]) at_272 rfl ?_
   refine KD 274 C 2 at_274 ?_
   refine KE 275 C at_275 ?_
   refine Kt 277 C at_277 ?_
   refine KG 278 C (Ls' := [_, _, _, _, _, _, _, _, _, _, _, _, _, _, _, _, _, _, _, _, _, _, _, _, _, _, _]) at_278 rfl ?_
   exact J280 _ _ _ _ _ _ _ (by decide) (by decide) (by decide) (by decide) (by decide)
   )
 refine KE 0 C at_0 ?_
 refine KD 2 C 1 at_2 ?_
 refine QA 3 C at_3 ?_
 refine Qx 4 C 11 at_4 (fun hc4 => ?_) (fun hc4 => ?_)
 ·simp only [oC, Classical.not_not] at hc4
  refine KD 11 C 0 at_11 ?_
  refine KG 12 C (Ls' := [_, _, _, _, _, _, _, _, _, _, _, _, _, _, _, _, _, _, _, _, _, _, _, _, _, _, _]) at_12 rfl ?_
  refine KE 14 C at_14 ?_
  refine KD 16 C 2 at_16 ?_
  refine QA 17 C at_17 ?_
  refine Qx 18 C 25 at_18 (fun hc18 => ?_) (fun hc18 => ?_)
  ·simp only [oC, Classical.not_not] at hc18
   refine KD 25 C 0 at_25 ?_
   refine KG 26 C (Ls' := [_, _, _, _, _, _, _, _, _, _, _, _, _, _, _, _, _, _, _, _, _, _, _, _, _, _, _]) at_26 rfl ?_
   refine KE 28 C at_28 ?_
   refine KD 30 C 4 at_30 ?_
   refine QA 31 C at_31 ?_
   refine Qx 32 C 39 at_32 (fun hc32 => ?_) (fun hc32 => ?_)
   ·simp only [oC, Classical.not_not] at hc32
    refine KD 39 C 0 at_39 ?_
    refine KG 40 C (Ls' := [_, _, _, _, _, _, _, _, _, _, _, _, _, _, _, _, _, _, _, _, _, _, _, _, _, _, _]) at_40 rfl ?_
    exact J42 0 0 0 (by decide) (by decide) (by decide)
   ·simp only [oC, Classical.not_not] at hc32
    refine KD 35 C 1 at_35 ?_
    refine KT 36 C 40 at_36 ?_
    refine KG 40 C (Ls' := [_, _, _, _, _, _, _, _, _, _, _, _, _, _, _, _, _, _, _, _, _, _, _, _, _, _, _]) at_40 rfl ?_
    exact J42 0 0 1 (by decide) (by decide) (by decide)
  ·simp only [oC, Classical.not_not] at hc18
   refine KD 21 C 1 at_21 ?_
   refine KT 22 C 26 at_22 ?_
   refine KG 26 C (Ls' := [_, _, _, _, _, _, _, _, _, _, _, _, _, _, _, _, _, _, _, _, _, _, _, _, _, _, _]) at_26 rfl ?_
   refine KE 28 C at_28 ?_
   refine KD 30 C 4 at_30 ?_
   refine QA 31 C at_31 ?_
   refine Qx 32 C 39 at_32 (fun hc32 => ?_) (fun hc32 => ?_)
   ·simp only [oC, Classical.not_not] at hc32
    refine KD 39 C 0 at_39 ?_
    refine KG 40 C (Ls' := [_, _, _, _, _, _, _, _, _, _, _, _, _, _, _, _, _, _, _, _, _, _, _, _, _, _, _]) at_40 rfl ?_
    exact J42 0 1 0 (by decide) (by decide) (by decide)
   ·simp only [oC, Classical.not_not] at hc32
    refine KD 35 C 1 at_35 ?_
    refine KT 36 C 40 at_36 ?_
    refine KG 40 C (Ls' := [_, _, _, _, _, _, _, _, _, _, _, _, _, _, _, _, _, _, _, _, _, _, _, _, _, _, _]) at_40 rfl ?_
    exact J42 0 1 1 (by decide) (by decide) (by decide)
 ·simp only [oC, Classical.not_not] at hc4
  refine KD 7 C 1 at_7 ?_
  refine KT 8 C 12 at_8 ?_
  refine KG 12 C (Ls' := [_, _, _, _, _, _, _, _, _, _, _, _, _, _, _, _, _, _, _, _, _, _, _, _, _, _, _]) at_12 rfl ?_
  refine KE 14 C at_14 ?_
  refine KD 16 C 2 at_16 ?_
  refine QA 17 C at_17 ?_
  refine Qx 18 C 25 at_18 (fun hc18 => ?_) (fun hc18 => ?_)
  ·simp only [oC, Classical.not_not] at hc18
   refine KD 25 C 0 at_25 ?_
   refine KG 26 C (Ls' := [_, _, _, _, _, _, _, _, _, _, _, _, _, _, _, _, _, _, _, _, _, _, _, _, _, _, _]) at_26 rfl ?_
   refine KE 28 C at_28 ?_
   refine KD 30 C 4 at_30 ?_
   refine QA 31 C at_31 ?_
   refine Qx 32 C 39 at_32 (fun hc32 => ?_) (fun hc32 => ?_)
   ·simp only [oC, Classical.not_not] at hc32
    refine KD 39 C 0 at_39 ?_
    refine KG 40 C (Ls' := [_, _, _, _, _, _, _, _, _, _, _, _, _, _, _, _, _, _, _, _, _, _, _, _, _, _, _]) at_40 rfl ?_
    exact J42 1 0 0 (by decide) (by decide) (by decide)
   ·simp only [oC, Classical.not_not] at hc32
    refine KD 35 C 1 at_35 ?_
    refine KT 36 C 40 at_36 ?_
    refine KG 40 C (Ls' := [_, _, _, _, _, _, _, _, _, _, _, _, _, _, _, _, _, _, _, _, _, _, _, _, _, _, _]) at_40 rfl ?_
    exact J42 1 0 1 (by decide) (by decide) (by decide)
  ·simp only [oC, Classical.not_not] at hc18
   refine KD 21 C 1 at_21 ?_
   refine KT 22 C 26 at_22 ?_
   refine KG 26 C (Ls' := [_, _, _, _, _, _, _, _, _, _, _, _, _, _, _, _, _, _, _, _, _, _, _, _, _, _, _]) at_26 rfl ?_
   refine KE 28 C at_28 ?_
   refine KD 30 C 4 at_30 ?_
   refine QA 31 C at_31 ?_
   refine Qx 32 C 39 at_32 (fun hc32 => ?_) (fun hc32 => ?_)
   ·simp only [oC, Classical.not_not] at hc32
    refine KD 39 C 0 at_39 ?_
    refine KG 40 C (Ls' := [_, _, _, _, _, _, _, _, _, _, _, _, _, _, _, _, _, _, _, _, _, _, _, _, _, _, _]) at_40 rfl ?_
    exact J42 1 1 0 (by decide) (by decide) (by decide)
   ·simp only [oC, Classical.not_not] at hc32
    refine KD 35 C 1 at_35 ?_
    refine KT 36 C 40 at_36 ?_
    refine KG 40 C (Ls' := [_, _, _, _, _, _, _, _, _, _, _, _, _, _, _, _, _, _, _, _, _, _, _, _, _, _, _]) at_40 rfl ?_
    exact J42 1 1 1 (by decide) (by decide) (by decide)
theorem Em {args : Array Value} {s : State} {t : Term} {i k : Int32} (h : (Jvm.Cond.not (Jvm.Cond.eq t (.int k))).value args s none s [] = some true) (ht : t.eval args s none [] s = some (.int i)) : i ≠ k := by
 rintro rfl
 simp [Cond.value, ht, Term.eval] at h
theorem Ty {args : Array Value} {s : State} {t : Term} (h : (Jvm.Cond.isRef t).value args s none s [] = some true) : ∃ v, t.eval args s none [] s = some v ∧ v.isRef = true := by
 simp only [Cond.value] at h
 cases ht : t.eval args s none [] s with
 | none => simp [ht] at h
 | some v => exact ⟨v, rfl, by cases v <;> simp_all [Value.isRef]⟩
theorem Hm {args a0 : Array Value} {s : State} {t : Term} {a : Addr} {z : Int32} (e : t.eval args s none [] s = some (.ref a)) (X : Exa s s.heap a "[B") (w : (Jvm.Cond.arrayClass .byte).before a0 s = true) (h : (Jvm.Cond.eq (Term.length t) (.int z)).value args s none s [] = some true) : ∃ c, Arr s s.heap a c .byte := by
 obtain ⟨cell, k, h1, h2, h3, h4, -⟩ := X
 obtain ⟨cA, kA, comp, g1, g2, g3⟩ := Cond.arrayClass_spec w
 have e1 : cA = cell.cls := Option.some.inj (g1.symm.trans (show s.vm.findClass ("[" ++ FieldType.byte.toString) = some cell.cls from h2))
 subst e1
 have e2 := Xi h
 simp only [Term.eval, e, Option.bind_eq_bind, Option.bind_some] at e2
 have e3 : s.arrayAt? a = some cell := by
  cases q : s.arrayAt? a with
  | none => simp [q] at e2
  | some c' =>
   have q2 := q
   simp only [State.arrayAt?, h1, h3, Option.bind_eq_bind, Option.bind_some] at q2
   split at q2
   ·cases q2
   ·split at q2 <;> first | (cases q2; rfl) | cases q2
 refine ⟨cell, h1, ⟨fun q z => by rw [z] at h4; simp [VmData.isStatics] at h4, kA, g2, comp, g3⟩, fun z => ?_⟩
 simp [State.arrayAt?, h1, h3, z] at e3
theorem Hj {args : Array Value} {s : State} {t u : Term} {a : Addr} {c : Cell} {ty : FieldType} {f : Nat → Int32} (e : ∀ idx, t.eval args s none idx s = some (.ref a)) (A : Arr s s.heap a c ty) (hl : c.slots.size = 100) (hf : ∀ i, i < 100 → u.eval args s none [i] s = some (.int (f i))) (h : (Jvm.Cond.all t (Jvm.Cond.eq (Term.elem t (Term.index 0)) u)).value args s none s [] = some true) : Kv s s.heap a ty ((List.range 100).map fun i => Value.int (f i)) := by
 refine ⟨c, A, ?_⟩
 have hA := A.fin (Vm.Alike.refl _)
 have key : ∀ i, i < 100 → c.slots[i]? = some (.int (f i)) := fun i hi => by
  have q := Cond.all_elim (e []) hA h i (by omega)
  have hi2 : (Term.index 0).eval args s none [i] s = some (.int i.toInt32) := rfl
  have hc : i.toInt32.toNatClampNeg = i := by
   show (Int32.ofNat i).toNatClampNeg = i
   simp only [Int32.toNatClampNeg, Xk i (by omega)]
   rfl
  have hn : ¬ i.toInt32 < 0 := fun z => by
   rw [Int32.lt_iff_toInt_lt, show i.toInt32.toInt = (i : Int) from Xk i (by omega)] at z
   have : (0 : Int32).toInt = 0 := rfl
   omega
  obtain ⟨v, hv⟩ : ∃ v, c.slots[i]? = some v := ⟨c.slots[i], by simp [hl, hi]⟩
  have he : (Term.elem t (Term.index 0)).eval args s none [i] s = some v := by simp only [Term.eval, e, hA, Option.bind_eq_bind, Option.bind_some]; simpa [hn, hc, Term.eval] using hv
  rw [hv]
  obtain ⟨x, y, hx, hy, hk, -⟩ := cmp_v (Or.inl q)
  cases hx.symm.trans he
  cases hy.symm.trans (hf i hi)
  simp [Cond.value, he, hf i hi] at q
  cases v with
  | int z => simp_all
  | _ => simp_all [Kin, Value.isRef]
 apply Array.ext_getElem?
 intro i
 by_cases hi : i < 100
 ·rw [key i hi]; simp [hi]
 ·rw [Array.getElem?_eq_none (by omega), Array.getElem?_eq_none (by simp; omega)]
theorem Ho {s : State} {Cn : String} (h : Jvm.D.MirrorMade s Cn) : ∃ r, Ys s Cn r := by
 obtain ⟨c, k, r, h1, h2, h3, cell, h4, h5⟩ := h
 exact ⟨r, by simp [Ys, Term.eval, h1, h2, h3, h4, h5]⟩
theorem Ru {args : Array Value} {s : State} : ∀ i, i < 100 → (Term.add (Term.int 48) (Term.rem (Term.index 0) (Term.int 10))).eval args s none [i] s = some (.int (Int32.ofNat (48 + i % 10))) := by
 have key : ∀ i : Nat, i < 100 → (48 : Int32) + Int32.ofNat i % 10 = Int32.ofNat (48 + i % 10) := by decide
 intro i hi
 have e : (Term.index 0).eval args s none [i] s = some (.int (Int32.ofNat i)) := rfl
 rw [← key i hi]
 rfl
theorem Rq {args : Array Value} {s : State} : ∀ i, i < 100 → (Term.add (Term.int 48) (Term.div (Term.index 0) (Term.int 10))).eval args s none [i] s = some (.int (Int32.ofNat (48 + i / 10))) := by
 have key : ∀ i : Nat, i < 100 → (48 : Int32) + Int32.ofNat i / 10 = Int32.ofNat (48 + i / 10) := by decide
 intro i hi
 have e : (Term.index 0).eval args s none [i] s = some (.int (Int32.ofNat i)) := rfl
 rw [← key i hi]
 rfl
theorem GC {c : Cell} {v : Value} (h : c.slots.size = 1) (q : c.slots[0]? = some v) : c.slots = Array.mk [v] := by
 apply Array.ext_getElem?
 intro i
 cases i with
 | zero => rw [q]; rfl
 | succ i => rw [Array.getElem?_eq_none (by omega), Array.getElem?_eq_none (by simp)]
theorem Ja {s : State} (h : Jvm.D.constsHeld consts_1 s) : ∀ p ∈ Kr, Jvm.Lit.constHeld s p.1 p.2 := fun p hp => h p (by
 have q : ∀ p ∈ Kr, p ∈ consts_1 := by decide
 exact q p hp)
set_option maxRecDepth 65536 in
set_option maxHeartbeats 40000000 in
theorem comes_1 {Post : Tables → Env → Array Value → State → Outcome → State → Prop} (hpost : ∀ tb e args s v u, (limb_1_1.after args s (.returned v) u = true ∧ limb_1_2.after args s (.returned v) u = true ∧ True) → ReturnedEndW s (.returned v) u (Jvm.fieldLocs frame_1_writes args s ++ Jvm.arrayLocs frame_1_arrays args s ++ Jvm.staticLocs frame_1_statics s) 424 56064 → Post tb e args s (.returned v) u) :
  ArmFor flags0 classFile x code maxLocals ret World_1 tables_1 room_1 Calls_1 rest_1 Pre_1 Post := by
 intro l hfl _ _ p e ha hc hk s m args below hf hA hF happ hP
 obtain ⟨hcalls, hrest, hpre⟩ := hP
 obtain ⟨-, -, -, hnamed, -, -, -, hat⟩ := (Spec.applies_iff hf).mp happ
 obtain ⟨hg, hn⟩ := and_e (Cond.before_iff.mp (show (Jvm.Cond.and given_1 narrow_1).before args s = true from hpre))
 obtain ⟨gc, r0⟩ := and_e hg
 obtain ⟨g0, r1⟩ := and_e r0
 obtain ⟨g1, r2⟩ := and_e r1
 obtain ⟨g2, r3⟩ := and_e r2
 obtain ⟨g3, g4⟩ := and_e r3
 obtain ⟨w0, w1, w2, w3, w4, rfl⟩ : ∃ w0 w1 w2 w3 w4 : Value, args = #[w0, w1, w2, w3, w4] := by
  have hs : args.size = 5 := by simpa [Cond.value, given_1] using gc
  obtain ⟨L⟩ := args
  match L, hs with
  | [w0, w1, w2, w3, w4], _ => exact ⟨w0, w1, w2, w3, w4, rfl⟩
 have hw : Kh _ _ := fun d (hd : d ∈ tables_1) => atoms_spec (ws := Jvm.Cond.code x code maxLocals ret :: tables_1) hat d (List.mem_cons_of_mem _ hd)
 obtain ⟨i0, ei0⟩ := is_v g0
 obtain rfl : w0 = (.int i0) := Option.some.inj ei0
 obtain ⟨i1, ei1⟩ := is_v g1
 obtain rfl : w1 = (.int i1) := Option.some.inj ei1
 obtain ⟨i2, ei2⟩ := is_v g2
 obtain rfl : w2 = (.int i2) := Option.some.inj ei2
 obtain ⟨i3, ei3⟩ := is_v g3
 obtain rfl : w3 = (.int i3) := Option.some.inj ei3
 obtain ⟨i4, ei4⟩ := is_v g4
 obtain rfl : w4 = (.int i4) := Option.some.inj ei4
 obtain ⟨nc0, nr0⟩ := and_e hn
 obtain ⟨nc1, nr1⟩ := and_e nr0
 obtain ⟨nc2, nr2⟩ := and_e nr1
 obtain ⟨nc3, nr3⟩ := and_e nr2
 obtain ⟨nc4, nc5⟩ := and_e nr3
 obtain ⟨w_BLOCKED, e_BLOCKED⟩ := exa_v nc0
 have X_BLOCKED := Exa.start e_BLOCKED nc0
 have S_BLOCKED := Sta.start e_BLOCKED (Or.inr ⟨(hw.g 25), (hw.g 26)⟩)
 obtain ⟨w_APPROVE, e_APPROVE⟩ := exa_v nc1
 have X_APPROVE := Exa.start e_APPROVE nc1
 have S_APPROVE := Sta.start e_APPROVE (Or.inr ⟨(hw.g 25), (hw.g 55)⟩)
 obtain ⟨w_ADDITIONAL_AUTH_REQUIRED, e_ADDITIONAL_AUTH_REQUIRED⟩ := exa_v nc4
 have X_ADDITIONAL_AUTH_REQUIRED := Exa.start e_ADDITIONAL_AUTH_REQUIRED nc4
 have S_ADDITIONAL_AUTH_REQUIRED := Sta.start e_ADDITIONAL_AUTH_REQUIRED (Or.inr ⟨(hw.g 25), (hw.g 66)⟩)
 have Fordinal_BLOCKED := Fld.start ((fld_at e_BLOCKED).symm.trans (Xi nc2))
 have Fordinal_APPROVE := Fld.start ((fld_at e_APPROVE).symm.trans (Xi nc3))
 have Fordinal_ADDITIONAL_AUTH_REQUIRED := Fld.start ((fld_at e_ADDITIONAL_AUTH_REQUIRED).symm.trans (Xi nc5))
 obtain ⟨hsets, hown0⟩ := atoms_of _ (rest_1_c_eq ▸ (show rest_1_c.before _ s = true from hrest))
 have jw : ∀ (i : Nat) {w : Jvm.Cond}, jdkStatics_1[i]? = some w → w.before _ s = true := fun i {w} q => hsets w (List.mem_of_getElem? q)
 have jv : ∀ (i : Nat) {w : Jvm.Cond}, jdkStatics_1[i]? = some w → w.value _ s none s [] = some true := fun i {w} q => Cond.before_iff.mp (jw i q)
 obtain ⟨cs, e_cs⟩ := is_v (jv 10 rfl)
 have hcs := Em (jv 11 rfl) e_cs
 have S_cs := Sta.start e_cs (Or.inl (jw 9 rfl))
 obtain ⟨dc, e_dc⟩ := arr_v (jv 6 rfl)
 obtain ⟨c_dc, A_dc⟩ := Arr.start e_dc (jv 6 rfl)
 have l_dc : c_dc.slots.size = 0 := Ya e_dc A_dc (jv 8 rfl)
 have S_dc := Sta.start e_dc (Or.inr ⟨(hw.g 74), (jw 2 rfl)⟩)
 obtain ⟨sf, e_sf, r_sf⟩ := Ty (jv 17 rfl)
 have S_sf := Sta.start e_sf (Or.inl (jw 16 rfl))
 obtain ⟨d1, e_d1⟩ := exa_v (jv 21 rfl)
 have X_d1 := Exa.start e_d1 (jv 21 rfl)
 have S_d1 := Sta.start e_d1 (Or.inl (jw 20 rfl))
 obtain ⟨c_d1, A_d1⟩ := Hm e_d1 X_d1 (hw.g 111) (jv 22 rfl)
 have l_d1 : c_d1.slots.size = 100 := Ya e_d1 A_d1 (jv 22 rfl)
 have D_d1 := Hj (f := fun i => Int32.ofNat (48 + i % 10)) (fun idx => e_d1) A_d1 l_d1 Ru (jv 23 rfl)
 obtain ⟨d2, e_d2⟩ := exa_v (jv 26 rfl)
 have X_d2 := Exa.start e_d2 (jv 26 rfl)
 have S_d2 := Sta.start e_d2 (Or.inl (jw 25 rfl))
 obtain ⟨c_d2, A_d2⟩ := Hm e_d2 X_d2 (hw.g 111) (jv 27 rfl)
 have l_d2 : c_d2.slots.size = 100 := Ya e_d2 A_d2 (jv 27 rfl)
 have D_d2 := Hj (f := fun i => Int32.ofNat (48 + i / 10)) (fun idx => e_d2) A_d2 l_d2 Rq (jv 28 rfl)
 obtain ⟨pc, e_pc⟩ := arr_v (jv 37 rfl)
 obtain ⟨c_pc, A_pc⟩ := Arr.start e_pc (jv 37 rfl)
 have l_pc : c_pc.slots.size = 17 := Ya e_pc A_pc (jv 39 rfl)
 have S_pc := Sta.start e_pc (Or.inl (jw 30 rfl))
 obtain ⟨p1, e_p1⟩ := exa_v (jv 41 rfl)
 have X_p1 := Exa.start e_p1 (jv 41 rfl)
 have F_p1 := Fld.start ((fld_at e_p1).symm.trans (Xi (jv 42 rfl)))
 obtain ⟨mp1, e_mp1⟩ := arr_v (jv 43 rfl)
 obtain ⟨c_mp1, A_mp1⟩ := Arr.start e_mp1 (jv 43 rfl)
 have l_mp1 : c_mp1.slots.size = 1 := Ya e_mp1 A_mp1 (jv 45 rfl)
 have X_mp1 := Exa.start e_mp1 (jv 44 rfl)
 have G_p1 := Fld.start ((fld_at e_p1).symm.trans e_mp1)
 have h_p1 := (elem_in (Xi (jv 46 rfl)) e_mp1 (Term.int_eval 0) A_mp1.1).2
 have B_p1 : QQ s s.heap p1 1 := ⟨X_p1, F_p1, mp1, G_p1, ⟨c_mp1, A_mp1, GC l_mp1 (by simpa using h_p1)⟩, X_mp1⟩
 have h_e1 := (elem_in e_p1 e_pc (Term.int_eval 1) A_pc.1).2
 obtain ⟨p2, e_p2⟩ := exa_v (jv 48 rfl)
 have X_p2 := Exa.start e_p2 (jv 48 rfl)
 have F_p2 := Fld.start ((fld_at e_p2).symm.trans (Xi (jv 49 rfl)))
 obtain ⟨mp2, e_mp2⟩ := arr_v (jv 50 rfl)
 obtain ⟨c_mp2, A_mp2⟩ := Arr.start e_mp2 (jv 50 rfl)
 have l_mp2 : c_mp2.slots.size = 1 := Ya e_mp2 A_mp2 (jv 52 rfl)
 have X_mp2 := Exa.start e_mp2 (jv 51 rfl)
 have G_p2 := Fld.start ((fld_at e_p2).symm.trans e_mp2)
 have h_p2 := (elem_in (Xi (jv 53 rfl)) e_mp2 (Term.int_eval 0) A_mp2.1).2
 have B_p2 : QQ s s.heap p2 2 := ⟨X_p2, F_p2, mp2, G_p2, ⟨c_mp2, A_mp2, GC l_mp2 (by simpa using h_p2)⟩, X_mp2⟩
 have h_e2 := (elem_in e_p2 e_pc (Term.int_eval 2) A_pc.1).2
 obtain ⟨p3, e_p3⟩ := exa_v (jv 54 rfl)
 have X_p3 := Exa.start e_p3 (jv 54 rfl)
 have F_p3 := Fld.start ((fld_at e_p3).symm.trans (Xi (jv 55 rfl)))
 obtain ⟨mp3, e_mp3⟩ := arr_v (jv 56 rfl)
 obtain ⟨c_mp3, A_mp3⟩ := Arr.start e_mp3 (jv 56 rfl)
 have l_mp3 : c_mp3.slots.size = 1 := Ya e_mp3 A_mp3 (jv 58 rfl)
 have X_mp3 := Exa.start e_mp3 (jv 57 rfl)
 have G_p3 := Fld.start ((fld_at e_p3).symm.trans e_mp3)
 have h_p3 := (elem_in (Xi (jv 59 rfl)) e_mp3 (Term.int_eval 0) A_mp3.1).2
 have B_p3 : QQ s s.heap p3 3 := ⟨X_p3, F_p3, mp3, G_p3, ⟨c_mp3, A_mp3, GC l_mp3 (by simpa using h_p3)⟩, X_mp3⟩
 have h_e3 := (elem_in e_p3 e_pc (Term.int_eval 3) A_pc.1).2
 obtain ⟨p4, e_p4⟩ := exa_v (jv 60 rfl)
 have X_p4 := Exa.start e_p4 (jv 60 rfl)
 have F_p4 := Fld.start ((fld_at e_p4).symm.trans (Xi (jv 61 rfl)))
 obtain ⟨mp4, e_mp4⟩ := arr_v (jv 62 rfl)
 obtain ⟨c_mp4, A_mp4⟩ := Arr.start e_mp4 (jv 62 rfl)
 have l_mp4 : c_mp4.slots.size = 1 := Ya e_mp4 A_mp4 (jv 64 rfl)
 have X_mp4 := Exa.start e_mp4 (jv 63 rfl)
 have G_p4 := Fld.start ((fld_at e_p4).symm.trans e_mp4)
 have h_p4 := (elem_in (Xi (jv 65 rfl)) e_mp4 (Term.int_eval 0) A_mp4.1).2
 have B_p4 : QQ s s.heap p4 4 := ⟨X_p4, F_p4, mp4, G_p4, ⟨c_mp4, A_mp4, GC l_mp4 (by simpa using h_p4)⟩, X_mp4⟩
 have h_e4 := (elem_in e_p4 e_pc (Term.int_eval 4) A_pc.1).2
 have hps : ∀ i, 0 < i → i ≤ 4 → ∃ q, c_pc.slots.toList[i]? = some (.ref q) ∧ QQ s s.heap q i := by
  intro i h1 h2
  match i, h1, h2 with
  | 1, _, _ => exact ⟨p1, by have q := h_e1; simpa using q, B_p1⟩
  | 2, _, _ => exact ⟨p2, by have q := h_e2; simpa using q, B_p2⟩
  | 3, _, _ => exact ⟨p3, by have q := h_e3; simpa using q, B_p3⟩
  | 4, _, _ => exact ⟨p4, by have q := h_e4; simpa using q, B_p4⟩
 obtain ⟨hu, e_hu⟩ := exa_v (jv 141 rfl)
 have X_hu := Exa.start e_hu (jv 141 rfl)
 have S_hu := Sta.start e_hu (Or.inl (jw 140 rfl))
 have F_hu := Fld.start ((fld_at e_hu).symm.trans (Xi (jv 144 rfl)))
 obtain ⟨lt, e_lt⟩ := arr_v (jv 147 rfl)
 obtain ⟨c_lt, A_lt⟩ := Arr.start e_lt (jv 147 rfl)
 have l_lt : c_lt.slots.size = 19 := Ya e_lt A_lt (jv 149 rfl)
 have S_lt := Sta.start e_lt (Or.inl (jw 146 rfl))
 have h_lt := (elem_in (WO (jv 154 rfl)) e_lt (Term.int_eval 4) A_lt.1).2
 obtain ⟨th, e_th⟩ := arr_v (jv 171 rfl)
 obtain ⟨c_th, A_th⟩ := Arr.start e_th (jv 171 rfl)
 have l_th : c_th.slots.size = 19 := Ya e_th A_th (jv 173 rfl)
 have S_th := Sta.start e_th (Or.inl (jw 170 rfl))
 have h_th := (elem_in (WO (jv 178 rfl)) e_th (Term.int_eval 4) A_th.1).2
 have e_as := Xi (jv 195 rfl)
 have S_as := Sta.start e_as (Or.inl (jw 194 rfl))
 obtain ⟨zz, e_zz⟩ := exa_v (jv 198 rfl)
 have X_zz := Exa.start e_zz (jv 198 rfl)
 have F_zz := Fld.start ((fld_at e_zz).symm.trans (Xi (jv 199 rfl)))
 obtain ⟨mzz, e_mzz⟩ := arr_v (jv 200 rfl)
 obtain ⟨c_mzz, A_mzz⟩ := Arr.start e_mzz (jv 200 rfl)
 have l_mzz : c_mzz.slots.size = 0 := Ya e_mzz A_mzz (jv 202 rfl)
 have X_mzz := Exa.start e_mzz (jv 201 rfl)
 have G_zz := Fld.start ((fld_at e_zz).symm.trans e_mzz)
 have B_zz : QQ s s.heap zz 0 := ⟨X_zz, F_zz, mzz, G_zz, ⟨c_mzz, A_mzz, Array.eq_empty_of_size_eq_zero l_mzz⟩, X_mzz⟩
 have S_zz := Sta.start e_zz (Or.inl (jw 197 rfl))
 obtain ⟨oo, e_oo⟩ := exa_v (jv 205 rfl)
 have X_oo := Exa.start e_oo (jv 205 rfl)
 have F_oo := Fld.start ((fld_at e_oo).symm.trans (Xi (jv 206 rfl)))
 obtain ⟨moo, e_moo⟩ := arr_v (jv 207 rfl)
 obtain ⟨c_moo, A_moo⟩ := Arr.start e_moo (jv 207 rfl)
 have l_moo : c_moo.slots.size = 1 := Ya e_moo A_moo (jv 209 rfl)
 have X_moo := Exa.start e_moo (jv 208 rfl)
 have G_oo := Fld.start ((fld_at e_oo).symm.trans e_moo)
 have h_oo := (elem_in (Xi (jv 210 rfl)) e_moo (Term.int_eval 0) A_moo.1).2
 have B_oo : QQ s s.heap oo 1 := ⟨X_oo, F_oo, moo, G_oo, ⟨c_moo, A_moo, GC l_moo (by simpa using h_oo)⟩, X_moo⟩
 have S_oo := Sta.start e_oo (Or.inl (jw 32 rfl))
 obtain ⟨zs, e_zs⟩ := arr_v (jv 217 rfl)
 obtain ⟨c_zs, A_zs⟩ := Arr.start e_zs (jv 217 rfl)
 have l_zs : c_zs.slots.size = 16 := Ya e_zs A_zs (jv 219 rfl)
 have S_zs := Sta.start e_zs (Or.inl (jw 212 rfl))
 obtain ⟨z4, e_z4⟩ := exa_v (jv 257 rfl)
 have X_z4 := Exa.start e_z4 (jv 257 rfl)
 have h_z4 := (elem_in e_z4 e_zs (Term.int_eval 4) A_zs.1).2
 have F_z4 := Fld.start ((fld_at e_z4).symm.trans (Xi (jv 258 rfl)))
 have G_z4 := Fld.start ((fld_at e_z4).symm.trans (WO (jv 259 rfl)))
 have W : oW s := ⟨⟨cs, hcs, S_cs⟩, ⟨dc, S_dc, ⟨c_dc, A_dc, Array.eq_empty_of_size_eq_zero l_dc⟩⟩, ⟨sf, r_sf, S_sf⟩, ⟨d1, S_d1, D_d1⟩, ⟨d2, S_d2, D_d2⟩, ⟨pc, c_pc.slots.toList, S_pc, ⟨c_pc, A_pc, rfl⟩, by simpa using l_pc, hps⟩, ⟨hu, S_hu, F_hu⟩, ⟨lt, c_lt.slots.toList, S_lt, ⟨c_lt, A_lt, rfl⟩, by simpa using l_lt, by have q := h_lt; simpa using q⟩, ⟨th, c_th.slots.toList, S_th, ⟨c_th, A_th, rfl⟩, by simpa using l_th, by have q := h_th; simpa using q⟩, S_as, ⟨zz, S_zz, B_zz⟩, ⟨oo, S_oo, B_oo⟩, ⟨zs, c_zs.slots.toList, S_zs, ⟨c_zs, A_zs, rfl⟩, by simpa using l_zs, z4, by have q := h_z4; simpa using q, X_z4, G_z4, F_z4⟩, Ho hcalls.1, Ho hcalls.2.1⟩
 have hJ0 : oH s Kr s.heap [] s.vm := ⟨State.Warmed39.refl s, CHv.start (QM hw) (Ja hcalls.2.2.1) (jw 11 rfl) (hw.g 111) (hw.g 117), by simp⟩
 have n1 : w_ADDITIONAL_AUTH_REQUIRED ≠ w_APPROVE := Fld.ne Fordinal_ADDITIONAL_AUTH_REQUIRED Fordinal_APPROVE (by simp)
 have n2 : w_BLOCKED ≠ w_APPROVE := Fld.ne Fordinal_BLOCKED Fordinal_APPROVE (by simp)
 obtain ⟨nn, oo, h1, h2, h3, _, L, rfl, ⟨rfl, N, -⟩, hq⟩ := (m0 hw W w_APPROVE w_ADDITIONAL_AUTH_REQUIRED w_BLOCKED i0 i1 i2 i3 i4 s.heap S_APPROVE S_ADDITIONAL_AUTH_REQUIRED S_BLOCKED n1 n2) ⟨Nat.le_refl _, fun _ _ q => q⟩ tables_1 p e ha hc hk s m _ below hf ((Spec.applies_iff_loose hf).mp happ).1 ⟨rfl, State.Warmed39.refl s, rfl, hJ0⟩ trivial
 refine ⟨nn, _, h1, h2, h3, hpost _ _ _ _ _ _ ⟨Cond.after_iff.mpr rfl, Cond.after_iff.mpr (eq_i res_at (Term.int_eval (1)) rfl), trivial⟩ ⟨hq.1, hq.2.1, hq.2.2.1, (hq.2.2.2.sift fun y hy => Or.inr (N y hy)).mono (by decide) (by decide)⟩⟩
theorem main_1_1 : Claimed_1_1 := comes_1 fun _ _ _ _ _ _ h hF => ⟨h.1, hF⟩
theorem main_1_2 : Claimed_1_2 := comes_1 fun _ _ _ _ _ _ h hF => ⟨h.2.1, hF⟩
end Jvm.Pilot.@@N@@
namespace Jvm.Pilot.@@N@@
open Jvm Jvm.ClassFile Sem Op Lib Jvm.Free Jvm.Stand Jvm.Pilot.@@N@@.Jvm.D
/-! MADE BY PROGRAM (witnessworld.py) out of the Statement's table words and the real class files: 50 classes; the members and pool entries that the words name. The judged class is class 9, her method 1. -/
namespace start1
open Jvm.ClassFile
def u (s : String) : CpInfo := .utf8 (stringToUtf16 s)
def gap : Nat → List CpInfo → List CpInfo
  | 0, r => r
  | n + 1, r => .unusable :: gap n r
def poolList (es : List (Nat × CpInfo)) (last : Nat) : List CpInfo := es.foldr (fun e r => gap e.1 (e.2 :: r)) (gap last [])
def pool (es : List (Nat × CpInfo)) (last : Nat) : Array CpInfo := ⟨poolList es last⟩
def fileOf (pool : Array CpInfo) (this : Nat) (attrs : Array Attribute := #[]) (ms : Array MethodInfo := #[]) (fl : Nat := 33) (sup : Nat := 0) (ifs : Array Nat := #[]) (fds : Array FieldInfo := #[]) : ClassFile where
  minorVersion := 0
  majorVersion := 65
  constantPool := pool
  accessFlags := fl
  thisClass := this
  superClass := sup
  interfaces := ifs
  fields := fds
  methods := ms
  attributes := attrs
def plain (name : String) (sup : Option ClassId) : Class where
  name := name
  kind := .ordinary
  loader := none
  accessFlags := 33
  super := sup
  interfaces := #[]
  cf := none
  fields := #[]
  methods := #[]
  instanceTypes := #[]
  staticTypes := #[]
  resolved := #[]
  callSites := []
  init := .initialized
  statics := none
  mirror := none
def mi (a n d : Nat) : MethodInfo := { accessFlags := a, nameIndex := n, descriptorIndex := d, attributes := #[] }
def fi (a n d : Nat) : FieldInfo := { accessFlags := a, nameIndex := n, descriptorIndex := d, attributes := #[] }
def fd (n : String) (t : FieldType) (a s c : Nat) : Field := { name := n, type := t, accessFlags := a, slot := s, constantValue := c }
def co (s l : Nat) (b : ByteArray) : Code := { maxStack := s, maxLocals := l, code := b, exceptionTable := #[], attributes := #[] }
def me (n d : String) (a : Nat) (c : Option Code) : Method := { name := n, desc := d, sig := (parseMethodDescriptor d).getD { parameters := [], returnType := none }, accessFlags := a, code := c }
def poolR (es : List (Nat × List CpInfo)) (last : Nat) : Array CpInfo := ⟨es.foldr (fun e r => gap e.1 (e.2 ++ r)) (gap last [])⟩
def cl (n : Nat) : CpInfo := .class_ n
def nt (a b : Nat) : CpInfo := .nameAndType a b
def mr (a b : Nat) : CpInfo := .methodref a b
def fr (a b : Nat) : CpInfo := .fieldref a b
def pool0 : Array CpInfo := poolR [(5, [u "<init>", u "()V"]), (1, [cl 10]), (1, [u "java/lang/Object", u "getClass", u "()Ljava/lang/Class;"]), (83, [u "clone", u "()Ljava/lang/Object;"])] 26
def k0c0 : Code := co 0 1 object_method_1_code
def k0m0 : Method := me "<init>" "()V" 1 (some k0c0)
def k0m1 : Method := me "getClass" "()Ljava/lang/Class;" 273 none
def k0m2 : Method := me "clone" "()Ljava/lang/Object;" 260 none
def k0 : Class := { plain "java/lang/Object" none with cf := some (fileOf pool0 8 #[] #[mi 1 5 6, mi 273 11 12, mi 260 96 97] 33 0 #[] #[]), methods := #[k0m0, k0m1, k0m2], resolved := Array.replicate 124 none }
def pool1 : Array CpInfo := poolR [(3, [cl 4, u "java/math/BigDecimal"]), (2, [cl 8, u "java/lang/Long", cl 10, u "java/math/BigInteger", mr 12 13, cl 14, nt 15 16, u "java/lang/Number", u "<init>", u "()V", fr 3 18, nt 19 20, u "scale", u "I", fr 3 22, nt 23 20, u "precision", fr 3 25, nt 26 27, u "intCompact", u "J", fr 3 29, nt 30 31, u "intVal", u "Ljava/math/BigInteger;"]), (22, [nt 15 55, u "(Ljava/lang/String;)V"]), (18, [cl 75, u "java/lang/StringBuilder", mr 74 13]), (2, [mr 74 80, nt 81 82, u "append", u "(Ljava/lang/String;)Ljava/lang/StringBuilder;"]), (5, [mr 74 89, nt 90 91, u "toString", u "()Ljava/lang/String;"]), (3, [fr 3 96, nt 97 98, u "LONG_TEN_POWERS_TABLE", u "[J"]), (4, [fr 104 105, cl 106, nt 107 20, u "java/math/RoundingMode", u "oldMode"]), (2, [u "divideAndRound"]), (4, [u "(J)I"]), (5, [mr 3 122, nt 123 124, u "compactValFor", u "(Ljava/math/BigInteger;)J", .long 9223372036854775808]), (28, [cl 156]), (1, [u "java/lang/String"]), (2, [mr 154 160, nt 161 162, u "length", u "()I"]), (24, [u "ZERO"]), (2, [u "INFLATED_BIGINT"]), (4, [u "valueOf"]), (10, [u "TWO"]), (3, [mr 211 212, cl 213, nt 214 215, u "java/lang/Object", u "getClass", u "()Ljava/lang/Class;"]), (13, [mr 3 230, nt 231 232, u "toStrictBigInteger", u "(Ljava/math/BigInteger;)Ljava/math/BigInteger;"]), (6, [mr 3 240, nt 241 242, u "zeroValueOf", u "(I)Ljava/math/BigDecimal;", mr 3 244, nt 15 245, u "(Ljava/math/BigInteger;JII)V"]), (2, [u "ZERO_THROUGH_TEN", u "[Ljava/math/BigDecimal;", fr 3 251, nt 252 249, u "ZERO_SCALED_BY"]), (17, [mr 3 271, nt 272 162, u "signum"]), (3, [cl 278]), (1, [u "java/lang/Math"]), (32, [fr 3 312, nt 313 314, u "$assertionsDisabled", u "Z"]), (3, [.long 2]), (8, [u "checkScale", mr 3 329, nt 195 330, u "(JI)Ljava/math/BigDecimal;"]), (37, [mr 3 369, nt 370 371, u "divide", u "(JIJIII)Ljava/math/BigDecimal;"]), (9, [mr 3 382, nt 370 383, u "(Ljava/math/BigDecimal;II)Ljava/math/BigDecimal;"]), (56, [mr 276 441, nt 442 443, u "abs", u "(J)J"]), (34, [u "ONE_TENTH", u "Ljava/math/BigDecimal;"]), (5, [u "TEN"]), (14, [cl 502]), (1, [u "java/math/BigDecimal$1"]), (1, [u "[I"]), (13, [u "ONE_HALF"]), (16, [u "ONE"]), (60, [mr 7 597, nt 272 115]), (1, [mr 3 600, nt 601 602, u "longMultiplyPowerTen", u "(JI)J"]), (3, [mr 3 607, nt 110 608, u "(JJIII)Ljava/math/BigDecimal;"]), (23, [mr 3 633, nt 634 635, u "longCompareMagnitude", u "(JJ)I", .long 4294967295]), (6, [u "stringCache", u "Ljava/lang/String;"]), (4, [mr 7 650, nt 90 651, u "(J)Ljava/lang/String;"]), (8, [mr 74 661, nt 15 662, u "(I)V", mr 74 664, nt 665 666, u "repeat", u "(II)Ljava/lang/StringBuilder;"]), (2, [mr 3 670, nt 671 672, u "getValueString", u "(ILjava/lang/String;I)Ljava/lang/String;"]), (2, [.string 676, u "0.", mr 74 54, mr 74 679, nt 680 681, u "insert", u "(IC)Ljava/lang/StringBuilder;"]), (15, [cl 699]), (1, [u "java/math/BigDecimal$LongOverflow"]), (8, [u "FLOAT_10_POW", u "[F"]), (39, [u "DOUBLE_10_POW", u "[D"]), (19, [cl 772]), (1, [u "java/math/BigDecimal$StringBuilderHelper"]), (35, [u "BIG_TEN_POWERS_TABLE_MAX"]), (2, [u "BIG_TEN_POWERS_TABLE", u "[Ljava/math/BigInteger;"]), (12, [fr 3 826, nt 827 98, u "THRESHOLDS_TABLE"]), (23, [cl 853]), (1, [u "java/math/BigDecimal$UnsafeHolder"]), (16, [fr 9 871, nt 272 20]), (6, [fr 9 879, nt 880 504, u "mag", mr 7 882, nt 883 635, u "compare"]), (40, [mr 3 925, nt 926 927, u "needIncrement", u "(JIIJJ)Z"]), (5, [.long 13835058055282163712]), (1, [.long 4611686018427387903]), (1, [mr 3 938, nt 939 940, u "commonNeedIncrement", u "(IIIZ)Z"]), (53, [mr 3 995, nt 327 635]), (72, [u "LONGLONG_TEN_POWERS_TABLE", u "[[J"]), (112, [u "BIG_TEN_POWERS_TABLE_INITLEN"]), (113, [cl 1297, u "java/lang/Comparable", u "L", u "D"]), (1, [u "P_F"]), (1, [u "Q_MIN_F"]), (1, [u "Q_MAX_F"]), (1, [u "P_D"]), (1, [u "Q_MIN_D"]), (1, [u "Q_MAX_D"]), (1, [u "INFLATED", u "MAX_COMPACT_DIGITS"]), (1, [u "serialVersionUID"]), (2, [u "HALF_LONG_MAX_VALUE", u "HALF_LONG_MIN_VALUE", u "ROUND_UP"]), (6, [u "ROUND_DOWN"]), (1, [u "ROUND_CEILING"]), (1, [u "ROUND_FLOOR"]), (1, [u "ROUND_HALF_UP"]), (1, [u "ROUND_HALF_DOWN"]), (1, [u "ROUND_HALF_EVEN"]), (1, [u "ROUND_UNNECESSARY"]), (1, [u "DIV_NUM_BASE"]), (43, [u "(Ljava/math/BigInteger;)V"]), (24, [u "(Ljava/math/BigDecimal;ILjava/math/RoundingMode;)Ljava/math/BigDecimal;"]), (63, [u "toPlainString"])] 161
def k1c0 : Code := co 3 6 jdk_17_method_1_code
def k1m0 : Method := me "<init>" "(Ljava/math/BigInteger;JII)V" 0 (some k1c0)
def k1c1 : Code := co 3 1 jdk_17_method_11_code
def k1m1 : Method := me "toStrictBigInteger" "(Ljava/math/BigInteger;)Ljava/math/BigInteger;" 10 (some k1c1)
def k1c2 : Code := co 3 2 jdk_17_method_12_code
def k1m2 : Method := me "<init>" "(Ljava/math/BigInteger;)V" 1 (some k1c2)
def k1c3 : Code := co 7 3 jdk_17_method_20_code
def k1m3 : Method := me "valueOf" "(JI)Ljava/math/BigDecimal;" 9 (some k1c3)
def k1c4 : Code := co 7 1 jdk_17_method_24_code
def k1m4 : Method := me "zeroValueOf" "(I)Ljava/math/BigDecimal;" 8 (some k1c4)
def k1c5 : Code := co 8 4 jdk_17_method_33_code
def k1m5 : Method := me "divide" "(Ljava/math/BigDecimal;II)Ljava/math/BigDecimal;" 1 (some k1c5)
def k1c6 : Code := co 4 4 jdk_17_method_34_code
def k1m6 : Method := me "divide" "(Ljava/math/BigDecimal;ILjava/math/RoundingMode;)Ljava/math/BigDecimal;" 1 (some k1c6)
def k1c7 : Code := co 4 1 jdk_17_method_58_code
def k1m7 : Method := me "signum" "()I" 1 (some k1c7)
def k1c8 : Code := co 4 5 jdk_17_method_78_code
def k1m8 : Method := me "toPlainString" "()Ljava/lang/String;" 1 (some k1c8)
def k1c9 : Code := co 3 6 jdk_17_method_79_code
def k1m9 : Method := me "getValueString" "(ILjava/lang/String;I)Ljava/lang/String;" 10 (some k1c9)
def k1c10 : Code := co 4 7 jdk_17_method_97_code
def k1m10 : Method := me "longMultiplyPowerTen" "(JI)J" 10 (some k1c10)
def k1c11 : Code := co 5 6 jdk_17_method_107_code
def k1m11 : Method := me "compactValFor" "(Ljava/math/BigInteger;)J" 10 (some k1c11)
def k1c12 : Code := co 4 4 jdk_17_method_108_code
def k1m12 : Method := me "longCompareMagnitude" "(JJ)I" 10 (some k1c12)
def k1c13 : Code := co 4 5 jdk_17_method_113_code
def k1m13 : Method := me "checkScale" "(JJ)I" 10 (some k1c13)
def k1c14 : Code := co 8 13 jdk_17_method_119_code
def k1m14 : Method := me "divideAndRound" "(JJIII)Ljava/math/BigDecimal;" 10 (some k1c14)
def k1c15 : Code := co 4 4 jdk_17_method_121_code
def k1m15 : Method := me "commonNeedIncrement" "(IIIZ)Z" 10 (some k1c15)
def k1c16 : Code := co 7 9 jdk_17_method_122_code
def k1m16 : Method := me "needIncrement" "(JIIJJ)Z" 10 (some k1c16)
def k1c17 : Code := co 9 13 jdk_17_method_166_code
def k1m17 : Method := me "divide" "(JIJIII)Ljava/math/BigDecimal;" 10 (some k1c17)
def k1 : Class := { plain "java/math/BigDecimal" (some 33) with interfaces := #[18], cf := some (fileOf pool1 3 #[.nestMembers #[500, 851, 770, 697]] #[mi 0 15 245, mi 10 231 232, mi 1 15 1386, mi 9 195 330, mi 8 241 242, mi 1 370 383, mi 1 370 1411, mi 1 272 162, mi 1 1475 91, mi 10 671 672, mi 10 601 602, mi 10 123 124, mi 10 634 635, mi 10 327 635, mi 10 110 608, mi 10 939 940, mi 10 926 927, mi 10 370 371] 33 12 #[1296] #[fi 26 1298 1299, fi 26 1301 20, fi 26 1303 20, fi 26 1305 20, fi 26 1307 20, fi 26 1309 20, fi 26 1311 20, fi 18 30 31, fi 18 19 20, fi 130 23 20, fi 130 643 644, fi 24 1313 27, fi 26 190 31, fi 146 26 27, fi 26 1314 20, fi 26 1316 27, fi 26 248 249, fi 26 252 249, fi 26 1319 27, fi 26 1320 27, fi 25 187 479, fi 25 535 479, fi 25 206 479, fi 25 485 479, fi 26 478 479, fi 26 518 479, fi 25 1321 20, fi 25 1328 20, fi 25 1330 20, fi 25 1332 20, fi 25 1334 20, fi 25 1336 20, fi 25 1338 20, fi 25 1340 20, fi 26 749 750, fi 26 708 709, fi 26 97 98, fi 74 811 812, fi 26 1182 20, fi 26 808 20, fi 26 827 98, fi 26 1342 27, fi 26 1068 1069, fi 4120 313 314]), fields := #[fd "L" .double 26 0 0, fd "P_F" .int 26 1 0, fd "Q_MIN_F" .int 26 2 0, fd "Q_MAX_F" .int 26 3 0, fd "P_D" .int 26 4 0, fd "Q_MIN_D" .int 26 5 0, fd "Q_MAX_D" .int 26 6 0, fd "intVal" (.object "java/math/BigInteger") 18 0 0, fd "scale" .int 18 1 0, fd "precision" .int 130 2 0, fd "stringCache" (.object "java/lang/String") 130 3 0, fd "INFLATED" .long 24 7 0, fd "INFLATED_BIGINT" (.object "java/math/BigInteger") 26 8 0, fd "intCompact" .long 146 4 0, fd "MAX_COMPACT_DIGITS" .int 26 9 0, fd "serialVersionUID" .long 26 10 0, fd "ZERO_THROUGH_TEN" (.array (.object "java/math/BigDecimal")) 26 11 0, fd "ZERO_SCALED_BY" (.array (.object "java/math/BigDecimal")) 26 12 0, fd "HALF_LONG_MAX_VALUE" .long 26 13 0, fd "HALF_LONG_MIN_VALUE" .long 26 14 0, fd "ZERO" (.object "java/math/BigDecimal") 25 15 0, fd "ONE" (.object "java/math/BigDecimal") 25 16 0, fd "TWO" (.object "java/math/BigDecimal") 25 17 0, fd "TEN" (.object "java/math/BigDecimal") 25 18 0, fd "ONE_TENTH" (.object "java/math/BigDecimal") 26 19 0, fd "ONE_HALF" (.object "java/math/BigDecimal") 26 20 0, fd "ROUND_UP" .int 25 21 0, fd "ROUND_DOWN" .int 25 22 0, fd "ROUND_CEILING" .int 25 23 0, fd "ROUND_FLOOR" .int 25 24 0, fd "ROUND_HALF_UP" .int 25 25 0, fd "ROUND_HALF_DOWN" .int 25 26 0, fd "ROUND_HALF_EVEN" .int 25 27 0, fd "ROUND_UNNECESSARY" .int 25 28 0, fd "DOUBLE_10_POW" (.array .double) 26 29 0, fd "FLOAT_10_POW" (.array .float) 26 30 0, fd "LONG_TEN_POWERS_TABLE" (.array .long) 26 31 0, fd "BIG_TEN_POWERS_TABLE" (.array (.object "java/math/BigInteger")) 74 32 0, fd "BIG_TEN_POWERS_TABLE_INITLEN" .int 26 33 0, fd "BIG_TEN_POWERS_TABLE_MAX" .int 26 34 0, fd "THRESHOLDS_TABLE" (.array .long) 26 35 0, fd "DIV_NUM_BASE" .long 26 36 0, fd "LONGLONG_TEN_POWERS_TABLE" (.array (.array .long)) 26 37 0, fd "$assertionsDisabled" .boolean 4120 38 0], methods := #[k1m0, k1m1, k1m2, k1m3, k1m4, k1m5, k1m6, k1m7, k1m8, k1m9, k1m10, k1m11, k1m12, k1m13, k1m14, k1m15, k1m16, k1m17], instanceTypes := #[(.object "java/math/BigInteger"), .int, .int, (.object "java/lang/String"), .long], staticTypes := #[.double, .int, .int, .int, .int, .int, .int, .long, (.object "java/math/BigInteger"), .int, .long, (.array (.object "java/math/BigDecimal")), (.array (.object "java/math/BigDecimal")), .long, .long, (.object "java/math/BigDecimal"), (.object "java/math/BigDecimal"), (.object "java/math/BigDecimal"), (.object "java/math/BigDecimal"), (.object "java/math/BigDecimal"), (.object "java/math/BigDecimal"), .int, .int, .int, .int, .int, .int, .int, .int, (.array .double), (.array .float), (.array .long), (.array (.object "java/math/BigInteger")), .int, .int, (.array .long), .long, (.array (.array .long)), .boolean], resolved := Array.replicate 1637 none, statics := some 0 }
def pool2 : Array CpInfo := poolR [(1, [cl 2, u "java/math/BigInteger"]), (2, [mr 6 7, cl 8, nt 9 10, u "java/lang/Object", u "<init>", u "()V", fr 12 13, cl 14, nt 15 16, u "java/math/MutableBigInteger", u "offset", u "I", fr 12 18, nt 19 20, u "value", u "[I", fr 12 22, nt 23 16, u "intLen", fr 1 25, nt 26 20, u "mag", mr 28 29, cl 30, nt 31 32, u "java/util/Arrays", u "copyOf", u "([II)[I"]), (7, [u "([II)V"]), (2, [u "$assertionsDisabled", u "Z"]), (7, [.long 4294967295]), (5, [mr 12 59, nt 60 61, u "getMagnitudeArray", u "()[I", mr 1 63, nt 9 40]), (9, [u "toBigInteger", u "(I)Ljava/math/BigInteger;"]), (13, [.integer 2147483648, mr 90 91, cl 92, nt 93 94, u "java/lang/Integer", u "numberOfTrailingZeros", u "(I)I"]), (13, [mr 12 109, nt 110 111, u "rightShift", u "(I)V", mr 1 113, nt 114 94, u "bitLengthForInt", mr 12 116, nt 117 111, u "primitiveLeftShift", mr 12 119, nt 120 111, u "primitiveRightShift", mr 12 122, nt 123 111, u "leftShift"]), (7, [cl 133]), (1, [u "java/lang/Math"]), (1, [u "(II)I"]), (6, [mr 12 143, nt 144 145, u "compare", u "(Ljava/math/MutableBigInteger;)I"]), (3, [mr 12 150, nt 151 10, u "clear"]), (10, [u "(Ljava/math/MutableBigInteger;Ljava/math/MutableBigInteger;Z)Ljava/math/MutableBigInteger;"]), (2, [u "divideKnuth"]), (11, [mr 12 7, mr 12 179, nt 180 181, u "divideOneWord", u "(ILjava/math/MutableBigInteger;)I"]), (2, [mr 12 185, nt 186 187, u "getLowestSetBit", u "()I"]), (57, [u "(Ljava/math/BigInteger;)V"]), (11, [u "ONE", u "Ljava/math/MutableBigInteger;"]), (2, [u "([I)V"]), (67, [mr 131 330, nt 331 94, u "abs", mr 12 333, nt 334 335, u "binaryGCD", u "(Ljava/math/MutableBigInteger;)Ljava/math/MutableBigInteger;"]), (2, [mr 12 339, nt 340 135, u "binaryGcd"]), (70, [u "KNUTH_POW2_THRESH_LEN"]), (2, [u "KNUTH_POW2_THRESH_ZEROS"]), (137, [u "hybridGCD"])] 37
def k2c0 : Code := co 2 1 jdk_2101_method_1_code
def k2m0 : Method := me "<init>" "()V" 0 (some k2c0)
def k2c1 : Code := co 2 2 jdk_2101_method_3_code
def k2m1 : Method := me "<init>" "([I)V" 0 (some k2c1)
def k2c2 : Code := co 3 2 jdk_2101_method_4_code
def k2m2 : Method := me "<init>" "(Ljava/math/BigInteger;)V" 0 (some k2c2)
def k2c3 : Code := co 4 2 jdk_2101_method_7_code
def k2m3 : Method := me "getMagnitudeArray" "()[I" 2 (some k2c3)
def k2c4 : Code := co 4 2 jdk_2101_method_9_code
def k2m4 : Method := me "toBigInteger" "(I)Ljava/math/BigInteger;" 0 (some k2c4)
def k2c5 : Code := co 4 3 jdk_2101_method_13_code
def k2m5 : Method := me "clear" "()V" 0 (some k2c5)
def k2c6 : Code := co 3 8 jdk_2101_method_15_code
def k2m6 : Method := me "compare" "(Ljava/math/MutableBigInteger;)I" 16 (some k2c6)
def k2c7 : Code := co 3 3 jdk_2101_method_18_code
def k2m7 : Method := me "getLowestSetBit" "()I" 18 (some k2c7)
def k2c8 : Code := co 3 5 jdk_2101_method_35_code
def k2m8 : Method := me "rightShift" "(I)V" 0 (some k2c8)
def k2c9 : Code := co 5 8 jdk_2101_method_37_code
def k2m9 : Method := me "leftShift" "(I)V" 0 (some k2c9)
def k2c10 : Code := co 5 7 jdk_2101_method_41_code
def k2m10 : Method := me "primitiveRightShift" "(I)V" 18 (some k2c10)
def k2c11 : Code := co 5 8 jdk_2101_method_42_code
def k2m11 : Method := me "primitiveLeftShift" "(I)V" 18 (some k2c11)
def k2c12 : Code := co 6 15 jdk_2101_method_53_code
def k2m12 : Method := me "divideOneWord" "(ILjava/math/MutableBigInteger;)I" 0 (some k2c12)
def k2c13 : Code := co 5 8 jdk_2101_method_57_code
def k2m13 : Method := me "divideKnuth" "(Ljava/math/MutableBigInteger;Ljava/math/MutableBigInteger;Z)Ljava/math/MutableBigInteger;" 0 (some k2c13)
def k2c14 : Code := co 3 5 jdk_2101_method_72_code
def k2m14 : Method := me "hybridGCD" "(Ljava/math/MutableBigInteger;)Ljava/math/MutableBigInteger;" 0 (some k2c14)
def k2c15 : Code := co 3 13 jdk_2101_method_73_code
def k2m15 : Method := me "binaryGCD" "(Ljava/math/MutableBigInteger;)Ljava/math/MutableBigInteger;" 2 (some k2c15)
def k2c16 : Code := co 3 5 jdk_2101_method_74_code
def k2m16 : Method := me "binaryGcd" "(II)I" 8 (some k2c16)
def k2 : Class := { plain "java/math/MutableBigInteger" (some 0) with accessFlags := 32, cf := some (fileOf pool2 12 #[] #[mi 0 9 10, mi 0 9 261, mi 0 9 245, mi 2 60 61, mi 0 73 74, mi 0 151 10, mi 16 144 145, mi 18 186 187, mi 0 110 111, mi 0 123 111, mi 18 120 111, mi 18 117 111, mi 0 180 181, mi 0 165 162, mi 0 552 335, mi 2 334 335, mi 8 340 135] 32 6 #[] #[fi 0 19 20, fi 0 23 16, fi 0 15 16, fi 24 257 258, fi 24 411 16, fi 24 414 16, fi 4120 43 44]), fields := #[fd "value" (.array .int) 0 0 0, fd "intLen" .int 0 1 0, fd "offset" .int 0 2 0, fd "ONE" (.object "java/math/MutableBigInteger") 24 0 0, fd "KNUTH_POW2_THRESH_LEN" .int 24 1 0, fd "KNUTH_POW2_THRESH_ZEROS" .int 24 2 0, fd "$assertionsDisabled" .boolean 4120 3 0], methods := #[k2m0, k2m1, k2m2, k2m3, k2m4, k2m5, k2m6, k2m7, k2m8, k2m9, k2m10, k2m11, k2m12, k2m13, k2m14, k2m15, k2m16], instanceTypes := #[(.array .int), .int, .int], staticTypes := #[(.object "java/math/MutableBigInteger"), .int, .int, .boolean], resolved := Array.replicate 590 none }
def pool3 : Array CpInfo := poolR [(1, [cl 2, u "java/lang/Integer", mr 4 5, cl 6, nt 7 8, u "java/lang/Number", u "<init>", u "()V"]), (8, [cl 19]), (1, [u "java/util/Objects"]), (1, [u "(III)I", fr 23 24, cl 25, nt 26 27, u "java/math/BigInteger", u "ZERO", u "Ljava/math/BigInteger;", fr 23 29, nt 30 31, u "mag", u "[I", fr 23 33, nt 34 35, u "signum", u "I"]), (7, [.integer 67108864]), (30, [u "()I"]), (7, [u "(I)I"]), (12, [u "bitsPerDigit", u "[J"]), (9, [u "digitsPerInt"]), (12, [u "intRadix"]), (10, [.long 4294967295]), (44, [mr 23 176, nt 7 177, u "([II)V"]), (2, [u "SMALL_PRIME_PRODUCT"]), (3, [u "(Ljava/math/BigInteger;)Ljava/math/BigInteger;"]), (34, [u "(I)Ljava/math/BigInteger;"]), (17, [u "valueOf", u "(J)Ljava/math/BigInteger;"]), (2, [u "add"]), (18, [u "ONE"]), (6, [u "TWO"]), (43, [u "$assertionsDisabled", u "Z"]), (5, [u "multiply"]), (26, [.long 16]), (1, [fr 23 348, nt 349 350, u "posConst", u "[Ljava/math/BigInteger;"]), (4, [u "negConst"]), (4, [nt 7 361, u "([I)V", mr 23 363, nt 241 364, u "([I[I)[I"]), (23, [mr 389 390, cl 391, nt 392 393, u "java/lang/System", u "arraycopy", u "(Ljava/lang/Object;ILjava/lang/Object;II)V"]), (3, [mr 23 398, nt 318 399, u "(Ljava/math/BigInteger;ZZI)Ljava/math/BigInteger;"]), (3, [mr 23 404, nt 405 406, u "multiplyByInt", u "([III)Ljava/math/BigInteger;"]), (16, [mr 1 424, nt 425 82, u "bitCount", mr 1 427, nt 428 82, u "numberOfTrailingZeros", mr 23 430, nt 431 432, u "shiftLeft", u "([II)[I"]), (39, [cl 474]), (1, [u "java/math/BigInteger$RecursiveOp"]), (60, [mr 23 536, nt 537 184, u "divideKnuth"]), (3, [cl 542, u "java/math/MutableBigInteger", mr 541 5, mr 541 360, mr 541 546, nt 537 547, u "(Ljava/math/MutableBigInteger;Ljava/math/MutableBigInteger;Z)Ljava/math/MutableBigInteger;", mr 541 549, nt 550 219, u "toBigInteger"]), (16, [mr 541 568, nt 7 569, u "(Ljava/math/BigInteger;)V"]), (11, [u "NEGATIVE_ONE"]), (16, [mr 541 599, nt 600 601, u "hybridGCD", u "(Ljava/math/MutableBigInteger;)Ljava/math/MutableBigInteger;", mr 1 603, nt 604 82, u "numberOfLeadingZeros"]), (2, [u "bitLengthForInt"]), (3, [mr 17 612, nt 613 21, u "checkFromToIndex"]), (3, [u "([I[IIII)V", mr 23 619, nt 620 617, u "shiftLeftImplWorker"]), (21, [u "divide"]), (30, [u "bnExpModThreshTable"]), (72, [u "lowestSetBitPlusTwo"]), (2, [u "bitLengthPlusOne"]), (2, [u "bitCountPlusOne"]), (6, [u "LOG_TWO", u "D"]), (2, [u "logCache", u "[D"]), (13, [u "NUM_ZEROS"]), (2, [u "ZEROS", u "Ljava/lang/String;"]), (9, [u "longRadix"]), (5, [u "digitsPerLong"]), (22, [u "powerCache", u "[[Ljava/math/BigInteger;"]), (45, [u "firstNonzeroIntNumPlusTwo"]), (38, [cl 909]), (1, [u "java/math/BigInteger$UnsafeHolder"]), (141, [u "TEN"]), (106, [u "serialPersistentFields", u "[Ljava/io/ObjectStreamField;", cl 1161, u "java/lang/Comparable", u "LONG_MASK", u "J"]), (1, [u "MAX_MAG_LENGTH", u "PRIME_SEARCH_BIT_LENGTH_LIMIT"]), (1, [u "KARATSUBA_THRESHOLD"]), (1, [u "TOOM_COOK_THRESHOLD"]), (1, [u "KARATSUBA_SQUARE_THRESHOLD"]), (1, [u "TOOM_COOK_SQUARE_THRESHOLD"]), (1, [u "BURNIKEL_ZIEGLER_THRESHOLD", u "BURNIKEL_ZIEGLER_OFFSET"]), (1, [u "SCHOENHAGE_BASE_CONVERSION_THRESHOLD"]), (1, [u "MULTIPLY_SQUARE_THRESHOLD", u "MONTGOMERY_INTRINSIC_THRESHOLD"]), (1, [u "SMALL_PRIME_THRESHOLD"]), (1, [u "DEFAULT_PRIME_CERTAINTY"]), (1, [u "MAX_CONSTANT"]), (3, [u "serialVersionUID"]), (186, [u "gcd"]), (151, [cl 1532, u "java/math/BigInteger$RecursiveOp$RecursiveSquare", cl 1534, u "java/math/BigInteger$RecursiveOp$RecursiveMultiply"])] 7
def k3c0 : Code := co 2 3 jdk_2097_method_25_code
def k3m0 : Method := me "<init>" "([II)V" 0 (some k3c0)
def k3c1 : Code := co 4 2 jdk_2097_method_29_code
def k3m1 : Method := me "valueOf" "(J)Ljava/math/BigInteger;" 9 (some k3c1)
def k3c2 : Code := co 5 4 jdk_2097_method_32_code
def k3m2 : Method := me "add" "(Ljava/math/BigInteger;)Ljava/math/BigInteger;" 1 (some k3c2)
def k3c3 : Code := co 6 9 jdk_2097_method_35_code
def k3m3 : Method := me "add" "([I[I)[I" 10 (some k3c3)
def k3c4 : Code := co 5 2 jdk_2097_method_40_code
def k3m4 : Method := me "multiply" "(Ljava/math/BigInteger;)Ljava/math/BigInteger;" 1 (some k3c4)
def k3c5 : Code := co 5 9 jdk_2097_method_42_code
def k3m5 : Method := me "multiply" "(Ljava/math/BigInteger;ZZI)Ljava/math/BigInteger;" 2 (some k3c5)
def k3c6 : Code := co 4 13 jdk_2097_method_43_code
def k3m6 : Method := me "multiplyByInt" "([III)Ljava/math/BigInteger;" 10 (some k3c6)
def k3c7 : Code := co 2 2 jdk_2097_method_61_code
def k3m7 : Method := me "divide" "(Ljava/math/BigInteger;)Ljava/math/BigInteger;" 1 (some k3c7)
def k3c8 : Code := co 4 5 jdk_2097_method_62_code
def k3m8 : Method := me "divideKnuth" "(Ljava/math/BigInteger;)Ljava/math/BigInteger;" 2 (some k3c8)
def k3c9 : Code := co 3 5 jdk_2097_method_73_code
def k3m9 : Method := me "gcd" "(Ljava/math/BigInteger;)Ljava/math/BigInteger;" 1 (some k3c9)
def k3c10 : Code := co 2 1 jdk_2097_method_74_code
def k3m10 : Method := me "bitLengthForInt" "(I)I" 8 (some k3c10)
def k3c11 : Code := co 1 1 jdk_2097_method_81_code
def k3m11 : Method := me "signum" "()I" 1 (some k3c11)
def k3c12 : Code := co 5 10 jdk_2097_method_102_code
def k3m12 : Method := me "shiftLeft" "([II)[I" 10 (some k3c12)
def k3c13 : Code := co 5 7 jdk_2097_method_103_code
def k3m13 : Method := me "shiftLeftImplWorker" "([I[IIII)V" 10 (some k3c13)
def k3 : Class := { plain "java/math/BigInteger" (some 33) with interfaces := #[18], cf := some (fileOf pool3 23 #[.nestMembers #[907, 472, 1531, 1533]] #[mi 0 7 177, mi 9 237 238, mi 1 241 184, mi 10 241 364, mi 1 318 184, mi 2 318 399, mi 10 405 406, mi 1 642 184, mi 2 537 184, mi 1 1379 184, mi 8 607 82, mi 1 34 74, mi 10 431 432, mi 10 620 617] 33 4 #[1160] #[fi 16 34 35, fi 16 30 31, fi 2 752 35, fi 2 749 35, fi 2 746 35, fi 2 868 35, fi 24 1162 1163, fi 26 1165 35, fi 26 1166 35, fi 26 1168 35, fi 26 1170 35, fi 26 1172 35, fi 26 1174 35, fi 24 1176 35, fi 24 1177 35, fi 26 1179 35, fi 26 1181 35, fi 26 1182 35, fi 10 95 96, fi 26 1184 35, fi 26 1186 35, fi 26 180 27, fi 26 1188 35, fi 26 349 350, fi 26 355 350, fi 74 821 822, fi 26 763 764, fi 26 759 760, fi 25 26 27, fi 25 260 27, fi 25 267 27, fi 26 581 27, fi 25 1051 27, fi 8 673 31, fi 10 778 35, fi 26 781 782, fi 10 798 31, fi 10 792 350, fi 10 106 31, fi 10 119 31, fi 26 1192 1163, fi 26 1158 1159, fi 4120 311 312]), fields := #[fd "signum" .int 16 0 0, fd "mag" (.array .int) 16 1 0, fd "bitCountPlusOne" .int 2 2 0, fd "bitLengthPlusOne" .int 2 3 0, fd "lowestSetBitPlusTwo" .int 2 4 0, fd "firstNonzeroIntNumPlusTwo" .int 2 5 0, fd "LONG_MASK" .long 24 0 0, fd "MAX_MAG_LENGTH" .int 26 1 0, fd "PRIME_SEARCH_BIT_LENGTH_LIMIT" .int 26 2 0, fd "KARATSUBA_THRESHOLD" .int 26 3 0, fd "TOOM_COOK_THRESHOLD" .int 26 4 0, fd "KARATSUBA_SQUARE_THRESHOLD" .int 26 5 0, fd "TOOM_COOK_SQUARE_THRESHOLD" .int 26 6 0, fd "BURNIKEL_ZIEGLER_THRESHOLD" .int 24 7 0, fd "BURNIKEL_ZIEGLER_OFFSET" .int 24 8 0, fd "SCHOENHAGE_BASE_CONVERSION_THRESHOLD" .int 26 9 0, fd "MULTIPLY_SQUARE_THRESHOLD" .int 26 10 0, fd "MONTGOMERY_INTRINSIC_THRESHOLD" .int 26 11 0, fd "bitsPerDigit" (.array .long) 10 12 0, fd "SMALL_PRIME_THRESHOLD" .int 26 13 0, fd "DEFAULT_PRIME_CERTAINTY" .int 26 14 0, fd "SMALL_PRIME_PRODUCT" (.object "java/math/BigInteger") 26 15 0, fd "MAX_CONSTANT" .int 26 16 0, fd "posConst" (.array (.object "java/math/BigInteger")) 26 17 0, fd "negConst" (.array (.object "java/math/BigInteger")) 26 18 0, fd "powerCache" (.array (.array (.object "java/math/BigInteger"))) 74 19 0, fd "logCache" (.array .double) 26 20 0, fd "LOG_TWO" .double 26 21 0, fd "ZERO" (.object "java/math/BigInteger") 25 22 0, fd "ONE" (.object "java/math/BigInteger") 25 23 0, fd "TWO" (.object "java/math/BigInteger") 25 24 0, fd "NEGATIVE_ONE" (.object "java/math/BigInteger") 26 25 0, fd "TEN" (.object "java/math/BigInteger") 25 26 0, fd "bnExpModThreshTable" (.array .int) 8 27 0, fd "NUM_ZEROS" .int 10 28 0, fd "ZEROS" (.object "java/lang/String") 26 29 0, fd "digitsPerLong" (.array .int) 10 30 0, fd "longRadix" (.array (.object "java/math/BigInteger")) 10 31 0, fd "digitsPerInt" (.array .int) 10 32 0, fd "intRadix" (.array .int) 10 33 0, fd "serialVersionUID" .long 26 34 0, fd "serialPersistentFields" (.array (.object "java/io/ObjectStreamField")) 26 35 0, fd "$assertionsDisabled" .boolean 4120 36 0], methods := #[k3m0, k3m1, k3m2, k3m3, k3m4, k3m5, k3m6, k3m7, k3m8, k3m9, k3m10, k3m11, k3m12, k3m13], instanceTypes := #[.int, (.array .int), .int, .int, .int, .int], staticTypes := #[.long, .int, .int, .int, .int, .int, .int, .int, .int, .int, .int, .int, (.array .long), .int, .int, (.object "java/math/BigInteger"), .int, (.array (.object "java/math/BigInteger")), (.array (.object "java/math/BigInteger")), (.array (.array (.object "java/math/BigInteger"))), (.array .double), .double, (.object "java/math/BigInteger"), (.object "java/math/BigInteger"), (.object "java/math/BigInteger"), (.object "java/math/BigInteger"), (.object "java/math/BigInteger"), (.array .int), .int, (.object "java/lang/String"), (.array .int), (.array (.object "java/math/BigInteger")), (.array .int), (.array .int), .long, (.array (.object "java/io/ObjectStreamField")), .boolean], resolved := Array.replicate 1542 none, mirror := some 8, statics := some 1 }
def pool4 : Array CpInfo := poolR [(1, [cl 2, u "java/lang/String", mr 4 5, cl 6, nt 7 8, u "java/lang/Object", u "<init>", u "()V"]), (1, [cl 12]), (1, [u "java/lang/AbstractStringBuilder", u "EMPTYVALUE", u "[B", fr 10 16, nt 17 14, u "value", fr 1 19, nt 20 21, u "COMPACT_STRINGS", u "Z", fr 10 23, nt 24 25, u "coder", u "B"]), (6, [mr 1 33, nt 34 35, u "length", u "()I"]), (2, [.integer 2147483631, .integer 2147483647, mr 1 41, nt 24 42, u "()B", mr 10 44, nt 45 46, u "append", u "(Ljava/lang/String;)Ljava/lang/AbstractStringBuilder;"]), (1, [cl 49, u "java/lang/CharSequence"]), (19, [u "(Ljava/lang/String;)V"]), (5, [u "maybeLatin1"]), (3, [fr 10 80, nt 81 82, u "count", u "I", mr 10 84, nt 85 86, u "isLatin1", u "()Z"]), (1, [cl 90]), (1, [u "java/lang/StringLatin1"]), (9, [mr 10 101, nt 102 103, u "ensureCapacityInternal", u "(I)V", mr 10 105, nt 106 107, u "newCapacity", u "(I)I", mr 109 110, cl 111, nt 112 113, u "java/util/Arrays", u "copyOf", u "([BI)[B", mr 115 116, cl 117, nt 118 119, u "jdk/internal/util/ArraysSupport", u "newLength", u "(III)I"]), (27, [u "(II)V"]), (26, [cl 176]), (1, [u "java/lang/Character"]), (11, [u "getChars"]), (2, [mr 88 192, nt 193 194, u "canEncode", u "(C)Z"]), (13, [mr 10 209, nt 210 211, u "putStringAt", u "(ILjava/lang/String;)V"]), (5, [u "inflateIfNeededFor"]), (2, [nt 221 222, u "getBytes", u "([BIB)V"]), (24, [u "stringSize"]), (6, [mr 255 256, cl 257, nt 247 258, u "java/lang/Long", u "(J)I", mr 255 260, nt 188 261, u "(JI[B)I"]), (21, [mr 10 284, nt 285 147, u "shift", mr 174 287, nt 288 289, u "isBmpCodePoint", u "(I)Z"]), (19, [mr 310 311, cl 312, nt 313 314, u "java/lang/System", u "arraycopy", u "(Ljava/lang/Object;ILjava/lang/Object;II)V", mr 1 316, nt 317 147, u "checkOffset"]), (5, [u "insert"]), (73, [mr 10 398, nt 217 69, mr 1 220]), (3, [u "()[B"]), (4, [mr 109 409, nt 410 411, u "fill", u "([BIIB)V"]), (5, [mr 10 418, nt 419 420, u "repeat", u "(CI)Ljava/lang/AbstractStringBuilder;"]), (23, [cl 445, u "java/lang/Appendable"]), (67, [u "(J)Ljava/lang/AbstractStringBuilder;"]), (11, [u "(II)Ljava/lang/AbstractStringBuilder;"]), (14, [u "(IC)Ljava/lang/AbstractStringBuilder;"]), (11, [u "getValue"])] 56
def k4m0 : Method := me "<init>" "()V" 0 none
def k4c1 : Code := co 2 2 jdk_68_method_2_code
def k4m1 : Method := me "<init>" "(I)V" 0 (some k4c1)
def k4c2 : Code := co 2 5 jdk_68_method_3_code
def k4m2 : Method := me "<init>" "(Ljava/lang/String;)V" 0 (some k4c2)
def k4c3 : Code := co 1 1 jdk_68_method_6_code
def k4m3 : Method := me "length" "()I" 1 (some k4c3)
def k4c4 : Code := co 4 3 jdk_68_method_9_code
def k4m4 : Method := me "ensureCapacityInternal" "(I)V" 2 (some k4c4)
def k4c5 : Code := co 5 6 jdk_68_method_10_code
def k4m5 : Method := me "newCapacity" "(I)I" 2 (some k4c5)
def k4c6 : Code := co 3 3 jdk_68_method_22_code
def k4m6 : Method := me "append" "(Ljava/lang/String;)Ljava/lang/AbstractStringBuilder;" 1 (some k4c6)
def k4c7 : Code := co 5 5 jdk_68_method_33_code
def k4m7 : Method := me "append" "(J)Ljava/lang/AbstractStringBuilder;" 1 (some k4c7)
def k4c8 : Code := co 6 3 jdk_68_method_43_code
def k4m8 : Method := me "shift" "(II)V" 2 (some k4c8)
def k4c9 : Code := co 3 3 jdk_68_method_51_code
def k4m9 : Method := me "insert" "(IC)Ljava/lang/AbstractStringBuilder;" 1 (some k4c9)
def k4c10 : Code := co 1 1 jdk_68_method_64_code
def k4m10 : Method := me "getValue" "()[B" 16 (some k4c10)
def k4c11 : Code := co 1 1 jdk_68_method_68_code
def k4m11 : Method := me "isLatin1" "()Z" 16 (some k4c11)
def k4c12 : Code := co 2 2 jdk_68_method_71_code
def k4m12 : Method := me "inflateIfNeededFor" "(Ljava/lang/String;)V" 2 (some k4c12)
def k4c13 : Code := co 4 3 jdk_68_method_73_code
def k4m13 : Method := me "putStringAt" "(ILjava/lang/String;)V" 2 (some k4c13)
def k4c14 : Code := co 4 6 jdk_68_method_79_code
def k4m14 : Method := me "repeat" "(CI)Ljava/lang/AbstractStringBuilder;" 2 (some k4c14)
def k4c15 : Code := co 4 3 jdk_68_method_80_code
def k4m15 : Method := me "repeat" "(II)Ljava/lang/AbstractStringBuilder;" 1 (some k4c15)
def k4 : Class := { plain "java/lang/AbstractStringBuilder" (some 0) with accessFlags := 1056, interfaces := #[29, 30], cf := some (fileOf pool4 10 #[] #[mi 0 7 8, mi 0 7 103, mi 0 7 69, mi 1 34 35, mi 2 102 103, mi 2 106 107, mi 1 45 46, mi 1 45 513, mi 2 285 147, mi 1 323 540, mi 16 552 403, mi 16 85 86, mi 2 217 69, mi 2 210 211, mi 2 419 420, mi 1 419 525] 1056 4 #[444, 48] #[fi 0 17 14, fi 0 24 25, fi 0 75 21, fi 0 81 82, fi 26 13 14]), fields := #[fd "value" (.array .byte) 0 0 0, fd "coder" .byte 0 1 0, fd "maybeLatin1" .boolean 0 2 0, fd "count" .int 0 3 0, fd "EMPTYVALUE" (.array .byte) 26 0 0], methods := #[k4m0, k4m1, k4m2, k4m3, k4m4, k4m5, k4m6, k4m7, k4m8, k4m9, k4m10, k4m11, k4m12, k4m13, k4m14, k4m15], instanceTypes := #[(.array .byte), .byte, .boolean, .int], staticTypes := #[(.array .byte)], resolved := Array.replicate 609 none }
def pool5 : Array CpInfo := poolR [(1, [mr 2 3, cl 4, nt 5 6, u "java/lang/Object", u "<init>", u "()V"]), (2, [fr 10 11, cl 12, nt 13 14, u "java/lang/String", u "value", u "[B", fr 10 16, nt 17 18, u "coder", u "B"]), (2, [u "hash", u "I"]), (2, [u "hashIsZero", u "Z"]), (11, [fr 10 39, nt 40 26, u "COMPACT_STRINGS"]), (13, [mr 55 56, cl 57, nt 58 59, u "java/util/Arrays", u "copyOfRange", u "([BII)[B"]), (47, [cl 109]), (1, [u "java/lang/StringLatin1"]), (32, [u "()Z"]), (50, [cl 195]), (1, [u "java/lang/System"]), (15, [u "([BB)V", mr 193 213, nt 214 215, u "arraycopy", u "(Ljava/lang/Object;ILjava/lang/Object;II)V"]), (118, [u "()I", mr 10 336, nt 17 337, u "()B"]), (2, [u "()[B"]), (50, [u "(II)V"]), (97, [mr 10 490, nt 5 491, u "(Ljava/lang/AbstractStringBuilder;Ljava/lang/Void;)V"]), (1, [nt 494 142, u "isLatin1"]), (11, [nt 507 334, u "length"]), (5, [u "checkFromToIndex"]), (18, [u "getBytes"]), (8, [mr 107 542, nt 543 544, u "equals", u "([B[B)Z"]), (4, [mr 550 506, cl 551, u "java/lang/AbstractStringBuilder", mr 550 553, nt 554 340, u "getValue"]), (18, [u "(Ljava/lang/Object;)Z"]), (1, [cl 576, u "java/lang/CharSequence"]), (22, [u "CASE_INSENSITIVE_ORDER", u "Ljava/util/Comparator;"]), (220, [u "([BIB)V"]), (225, [mr 550 493]), (5, [fr 1054 1055, cl 1056, nt 1057 1058, u "jdk/internal/util/Preconditions", u "SIOOBE_FORMATTER", u "Ljava/util/function/BiFunction;"]), (3, [mr 1054 1063, nt 513 1064, u "(IIILjava/util/function/BiFunction;)I"]), (36, [u "serialPersistentFields", u "[Ljava/io/ObjectStreamField;", cl 1104, u "java/lang/String$CaseInsensitiveComparator"]), (1, [cl 1107, u "java/io/Serializable", cl 1109, u "java/lang/Comparable", cl 1111, u "java/lang/constant/Constable", cl 1113, u "java/lang/constant/ConstantDesc"]), (2, [u "serialVersionUID", u "J"]), (3, [u "REPL", u "C"]), (2, [u "LATIN1"]), (1, [u "UTF16"]), (105, [u "(Ljava/lang/StringBuilder;)V"]), (157, [u "checkOffset"])] 59
def k5m0 : Method := me "<init>" "()V" 1 none
def k5c1 : Code := co 3 2 jdk_42_method_53_code
def k5m1 : Method := me "<init>" "(Ljava/lang/StringBuilder;)V" 1 (some k5c1)
def k5c2 : Code := co 2 1 jdk_42_method_54_code
def k5m2 : Method := me "length" "()I" 1 (some k5c2)
def k5c3 : Code := co 2 3 jdk_42_method_66_code
def k5m3 : Method := me "equals" "(Ljava/lang/Object;)Z" 1 (some k5c3)
def k5c4 : Code := co 5 4 jdk_42_method_147_code
def k5m4 : Method := me "getBytes" "([BIB)V" 0 (some k5c4)
def k5c5 : Code := co 5 5 jdk_42_method_150_code
def k5m5 : Method := me "<init>" "(Ljava/lang/AbstractStringBuilder;Ljava/lang/Void;)V" 0 (some k5c5)
def k5c6 : Code := co 2 3 jdk_42_method_151_code
def k5m6 : Method := me "<init>" "([BB)V" 0 (some k5c6)
def k5c7 : Code := co 1 1 jdk_42_method_152_code
def k5m7 : Method := me "coder" "()B" 0 (some k5c7)
def k5c8 : Code := co 4 2 jdk_42_method_156_code
def k5m8 : Method := me "checkOffset" "(II)V" 8 (some k5c8)
def k5 : Class := { plain "java/lang/String" (some 0) with accessFlags := 49, interfaces := #[19, 18, 30, 17, 31], cf := some (fileOf pool5 10 #[.nestMembers #[1103]] #[mi 1 5 6, mi 1 5 1233, mi 1 507 334, mi 1 543 573, mi 0 532 821, mi 0 5 491, mi 0 5 211, mi 0 17 337, mi 8 1391 391] 49 2 #[1106, 1108, 575, 1110, 1112] #[fi 18 13 14, fi 18 17 18, fi 2 21 22, fi 2 25 26, fi 26 1116 1117, fi 24 40 26, fi 26 1101 1102, fi 26 1121 1122, fi 25 599 600, fi 24 1125 18, fi 24 1127 18]), fields := #[fd "value" (.array .byte) 18 0 0, fd "coder" .byte 18 1 0, fd "hash" .int 2 2 0, fd "hashIsZero" .boolean 2 3 0, fd "serialVersionUID" .long 26 0 0, fd "COMPACT_STRINGS" .boolean 24 1 0, fd "serialPersistentFields" (.array (.object "java/io/ObjectStreamField")) 26 2 0, fd "REPL" .char 26 3 0, fd "CASE_INSENSITIVE_ORDER" (.object "java/util/Comparator") 25 4 0, fd "LATIN1" .byte 24 5 0, fd "UTF16" .byte 24 6 0], methods := #[k5m0, k5m1, k5m2, k5m3, k5m4, k5m5, k5m6, k5m7, k5m8], instanceTypes := #[(.array .byte), .byte, .int, .boolean], staticTypes := #[.long, .boolean, (.array (.object "java/io/ObjectStreamField")), .char, (.object "java/util/Comparator"), .byte, .byte], resolved := Array.replicate 1451 none, statics := some 2 }
def pool6 : Array CpInfo := poolR [(1, [mr 2 3, cl 4, nt 5 6, u "java/lang/AbstractStringBuilder", u "<init>", u "(I)V", mr 2 8, nt 5 9, u "(Ljava/lang/String;)V"]), (8, [cl 20]), (1, [u "java/lang/String"]), (2, [mr 24 25, cl 26, nt 27 28, u "java/lang/StringBuilder", u "append", u "(Ljava/lang/String;)Ljava/lang/StringBuilder;", mr 2 30, nt 27 31, u "(Ljava/lang/String;)Ljava/lang/AbstractStringBuilder;"]), (24, [mr 2 57, nt 27 58, u "(J)Ljava/lang/AbstractStringBuilder;"]), (12, [u "(II)Ljava/lang/AbstractStringBuilder;"]), (9, [u "insert"]), (19, [mr 2 102, nt 81 103, u "(IC)Ljava/lang/AbstractStringBuilder;"]), (27, [mr 2 132, nt 133 71, u "repeat"]), (3, [mr 18 138, nt 5 139, u "(Ljava/lang/StringBuilder;)V"]), (5, [u "()V"]), (10, [u "()I"]), (49, [u "(II)Ljava/lang/StringBuilder;"]), (23, [u "(IC)Ljava/lang/StringBuilder;"]), (50, [u "(J)Ljava/lang/StringBuilder;"]), (61, [mr 2 344, nt 345 156, u "length"]), (3, [cl 350, u "java/lang/Appendable", cl 352, u "java/io/Serializable", cl 354, u "java/lang/Comparable", cl 356, u "java/lang/CharSequence", u "serialVersionUID", u "J"]), (40, [u "toString", u "()Ljava/lang/String;"])] 21
def k6c0 : Code := co 2 1 jdk_67_method_1_code
def k6m0 : Method := me "<init>" "()V" 1 (some k6c0)
def k6c1 : Code := co 2 2 jdk_67_method_2_code
def k6m1 : Method := me "<init>" "(I)V" 1 (some k6c1)
def k6c2 : Code := co 2 2 jdk_67_method_3_code
def k6m2 : Method := me "<init>" "(Ljava/lang/String;)V" 1 (some k6c2)
def k6c3 : Code := co 2 2 jdk_67_method_7_code
def k6m3 : Method := me "append" "(Ljava/lang/String;)Ljava/lang/StringBuilder;" 1 (some k6c3)
def k6c4 : Code := co 3 3 jdk_67_method_16_code
def k6m4 : Method := me "append" "(J)Ljava/lang/StringBuilder;" 1 (some k6c4)
def k6c5 : Code := co 3 3 jdk_67_method_30_code
def k6m5 : Method := me "insert" "(IC)Ljava/lang/StringBuilder;" 1 (some k6c5)
def k6c6 : Code := co 3 3 jdk_67_method_40_code
def k6m6 : Method := me "repeat" "(II)Ljava/lang/StringBuilder;" 1 (some k6c6)
def k6c7 : Code := co 3 1 jdk_67_method_42_code
def k6m7 : Method := me "toString" "()Ljava/lang/String;" 1 (some k6c7)
def k6c8 : Code := co 2 2 jdk_67_method_80_code
def k6m8 : Method := me "append" "(Ljava/lang/String;)Ljava/lang/AbstractStringBuilder;" 4161 (some k6c8)
def k6c9 : Code := co 1 1 jdk_67_method_93_code
def k6m9 : Method := me "length" "()I" 4161 (some k6c9)
def k6 : Class := { plain "java/lang/StringBuilder" (some 4) with accessFlags := 49, interfaces := #[29, 19, 18, 30], cf := some (fileOf pool6 24 #[] #[mi 1 5 145, mi 1 5 6, mi 1 5 9, mi 1 27 28, mi 1 27 281, mi 1 81 230, mi 1 133 206, mi 1 399 400, mi 4161 27 31, mi 4161 345 156] 49 2 #[349, 351, 353, 355] #[fi 24 357 358]), fields := #[fd "serialVersionUID" .long 24 0 0], methods := #[k6m0, k6m1, k6m2, k6m3, k6m4, k6m5, k6m6, k6m7, k6m8, k6m9], instanceTypes := #[(.array .byte), .byte, .boolean, .int], staticTypes := #[.long], resolved := Array.replicate 422 none }
def pool7 : Array CpInfo := poolR [(1, [mr 2 3, cl 4, nt 5 6, u "java/util/AbstractList", u "<init>", u "()V", cl 8, u "java/lang/Object", fr 10 11, cl 12, nt 13 14, u "java/util/ArrayList", u "elementData", u "[Ljava/lang/Object;"]), (2, [u "EMPTY_ELEMENTDATA"]), (21, [fr 10 40, nt 41 14, u "DEFAULTCAPACITY_EMPTY_ELEMENTDATA"]), (5, [u "()[Ljava/lang/Object;", fr 10 49, nt 50 51, u "size", u "I"]), (6, [cl 60]), (1, [u "java/util/Arrays", u "copyOf"]), (1, [fr 10 64, nt 65 51, u "modCount", mr 58 67, nt 61 68, u "([Ljava/lang/Object;I)[Ljava/lang/Object;", mr 10 70, nt 71 72, u "grow", u "(I)[Ljava/lang/Object;", mr 74 75, cl 76, nt 77 78, u "jdk/internal/util/ArraysSupport", u "newLength", u "(III)I", mr 80 81, cl 82, nt 83 84, u "java/lang/Math", u "max", u "(II)I"]), (11, [u "(Ljava/lang/Object;)Z"]), (21, [mr 119 120, cl 121, nt 122 84, u "java/util/Objects", u "checkIndex", mr 10 124, nt 13 125, u "(I)Ljava/lang/Object;"]), (3, [mr 10 130, nt 71 47, mr 10 132, nt 133 134, u "add", u "(Ljava/lang/Object;[Ljava/lang/Object;I)V"]), (13, [cl 149, u "java/util/List"]), (36, [u "()I"]), (75, [cl 263, u "java/util/ArrayList$ListItr"]), (3, [cl 268, u "java/util/ArrayList$Itr"]), (7, [cl 277, u "java/util/ArrayList$SubList"]), (12, [cl 291, u "java/util/ArrayList$ArrayListSpliterator"]), (37, [cl 330, u "java/util/RandomAccess", cl 332, u "java/lang/Cloneable", cl 334, u "java/io/Serializable", u "serialVersionUID", u "J"]), (3, [u "DEFAULT_CAPACITY"]), (40, [u "get"]), (118, [cl 501, u "java/util/ArrayList$SubList$2", cl 503, u "java/util/ArrayList$SubList$1"])] 5
def k7c0 : Code := co 2 1 jdk_38_method_2_code
def k7m0 : Method := me "<init>" "()V" 1 (some k7c0)
def k7c1 : Code := co 4 4 jdk_38_method_6_code
def k7m1 : Method := me "grow" "(I)[Ljava/lang/Object;" 2 (some k7c1)
def k7c2 : Code := co 3 1 jdk_38_method_7_code
def k7m2 : Method := me "grow" "()[Ljava/lang/Object;" 2 (some k7c2)
def k7c3 : Code := co 1 1 jdk_38_method_8_code
def k7m3 : Method := me "size" "()I" 1 (some k7c3)
def k7c4 : Code := co 2 2 jdk_38_method_18_code
def k7m4 : Method := me "elementData" "(I)Ljava/lang/Object;" 0 (some k7c4)
def k7c5 : Code := co 2 2 jdk_38_method_20_code
def k7m5 : Method := me "get" "(I)Ljava/lang/Object;" 1 (some k7c5)
def k7c6 : Code := co 3 4 jdk_38_method_24_code
def k7m6 : Method := me "add" "(Ljava/lang/Object;[Ljava/lang/Object;I)V" 2 (some k7c6)
def k7c7 : Code := co 4 2 jdk_38_method_25_code
def k7m7 : Method := me "add" "(Ljava/lang/Object;)Z" 1 (some k7c7)
def k7 : Class := { plain "java/util/ArrayList" (some 26) with interfaces := #[15, 27, 28, 19], cf := some (fileOf pool7 10 #[.nestMembers #[290, 276, 500, 502, 262, 267]] #[mi 1 5 6, mi 2 71 72, mi 2 71 47, mi 1 50 186, mi 0 13 125, mi 1 381 125, mi 2 133 134, mi 1 133 96] 33 2 #[148, 329, 331, 333] #[fi 26 335 336, fi 26 340 51, fi 26 17 14, fi 26 41 14, fi 128 13 14, fi 2 50 51]), fields := #[fd "serialVersionUID" .long 26 0 0, fd "DEFAULT_CAPACITY" .int 26 1 0, fd "EMPTY_ELEMENTDATA" (.array (.object "java/lang/Object")) 26 2 0, fd "DEFAULTCAPACITY_EMPTY_ELEMENTDATA" (.array (.object "java/lang/Object")) 26 3 0, fd "elementData" (.array (.object "java/lang/Object")) 128 1 0, fd "size" .int 2 2 0], methods := #[k7m0, k7m1, k7m2, k7m3, k7m4, k7m5, k7m6, k7m7], instanceTypes := #[.int, (.array (.object "java/lang/Object")), .int], staticTypes := #[.long, .int, (.array (.object "java/lang/Object")), (.array (.object "java/lang/Object"))], resolved := Array.replicate 509 none, statics := some 3 }
def pool8 : Array CpInfo := poolR [(1, [mr 2 3, cl 4, nt 5 6, u "java/lang/Object", u "<init>", u "()V"]), (2, [fr 10 11, cl 12, nt 13 14, u "com/example/wardstream/wardstream/engine/Scorecard", u "fraudsAt", u "[J", fr 10 16, nt 17 14, u "genuineAt", fr 10 19, nt 20 21, u "labelled", u "Z", fr 10 23, nt 24 25, u "history", u "J", fr 10 27, nt 28 25, u "evaluated", mr 30 31, cl 32, nt 33 34, u "com/example/wardstream/wardstream/engine/Assessment", u "decision", u "()Lcom/example/wardstream/wardstream/engine/Decision;", fr 36 37, cl 38, nt 39 40, u "com/example/wardstream/wardstream/engine/Decision", u "APPROVE", u "Lcom/example/wardstream/wardstream/engine/Decision;", fr 10 42, nt 43 25, u "flagged", mr 30 45, nt 46 47, u "riskScore", u "()I", fr 10 49, nt 50 25, u "truePositives", fr 10 52, nt 53 25, u "falsePositives", cl 55, u "java/util/ArrayList", mr 54 3, cl 58, u "java/lang/StringBuilder", mr 57 3, .string 61, u "transactions ", mr 57 63, nt 64 65, u "append", u "(Ljava/lang/String;)Ljava/lang/StringBuilder;", mr 57 67, nt 64 68, u "(J)Ljava/lang/StringBuilder;", mr 57 70, nt 71 72, u "toString", u "()Ljava/lang/String;", .interfaceMethodref 74 75, cl 76, nt 77 78, u "java/util/List", u "add", u "(Ljava/lang/Object;)Z", .string 80, u "evaluated ", .string 82, u "flagged ", mr 10 84, nt 85 86, u "sum", u "([J)J", .string 88, u "frauds ", .string 90, u "true_positives ", .string 92, u "false_positives ", .string 94, u "precision ", mr 10 96, nt 97 98, u "big", u "(J)Ljava/math/BigInteger;", mr 10 100, nt 101 102, u "ratio", u "(Ljava/math/BigInteger;Ljava/math/BigInteger;)Ljava/lang/String;", .string 104, u "recall ", .string 106, u "f1 ", .long 2]), (1, [.string 110, u "false_positive_rate ", .string 112, u "auc ", mr 10 114, nt 115 116, u "auc", u "(JJ)Ljava/lang/String;", .string 118, u "average_precision ", mr 10 120, nt 121 122, u "averagePrecision", u "(J)Ljava/lang/String;", fr 124 125, cl 126, nt 127 128, u "java/math/BigInteger", u "ZERO", u "Ljava/math/BigInteger;", mr 124 130, nt 131 132, u "multiply", u "(Ljava/math/BigInteger;)Ljava/math/BigInteger;", mr 124 134, nt 77 132, fr 124 136, nt 137 128, u "ONE", mr 124 139, nt 140 132, u "gcd", mr 124 142, nt 143 132, u "divide", mr 124 145, nt 146 47, u "signum", .string 148, u "0.0000", cl 150, u "java/math/BigDecimal", mr 149 152, nt 5 153, u "(Ljava/math/BigInteger;)V", fr 155 156, cl 157, nt 158 159, u "java/math/RoundingMode", u "HALF_UP", u "Ljava/math/RoundingMode;", mr 149 161, nt 143 162, u "(Ljava/math/BigDecimal;ILjava/math/RoundingMode;)Ljava/math/BigDecimal;", mr 149 164, nt 165 72, u "toPlainString", mr 124 167, nt 168 98, u "valueOf", u "(Z)V"]), (3, [u "countEvaluated", u "(Lcom/example/wardstream/wardstream/engine/Assessment;Z)V"]), (1, [u "summary", u "()Ljava/util/List;"])] 5
def k8c0 : Code := co 2 2 prog_19_method_1_code
def k8m0 : Method := me "<init>" "(Z)V" 0 (some k8c0)
def k8c1 : Code := co 6 4 prog_19_method_3_code
def k8m1 : Method := me "countEvaluated" "(Lcom/example/wardstream/wardstream/engine/Assessment;Z)V" 0 (some k8c1)
def k8c2 : Code := co 7 6 prog_19_method_4_code
def k8m2 : Method := me "summary" "()Ljava/util/List;" 1 (some k8c2)
def k8c3 : Code := co 4 11 prog_19_method_5_code
def k8m3 : Method := me "auc" "(JJ)Ljava/lang/String;" 2 (some k8c3)
def k8c4 : Code := co 6 13 prog_19_method_6_code
def k8m4 : Method := me "averagePrecision" "(J)Ljava/lang/String;" 2 (some k8c4)
def k8c5 : Code := co 4 2 prog_19_method_7_code
def k8m5 : Method := me "ratio" "(Ljava/math/BigInteger;Ljava/math/BigInteger;)Ljava/lang/String;" 10 (some k8c5)
def k8c6 : Code := co 4 8 prog_19_method_8_code
def k8m6 : Method := me "sum" "([J)J" 10 (some k8c6)
def k8c7 : Code := co 2 2 prog_19_method_9_code
def k8m7 : Method := me "big" "(J)Ljava/math/BigInteger;" 10 (some k8c7)
def k8 : Class := { plain "com/example/wardstream/wardstream/engine/Scorecard" (some 0) with accessFlags := 49, cf := some (fileOf pool8 10 #[] #[mi 0 5 169, mi 0 173 174, mi 1 176 177, mi 2 115 116, mi 2 121 122, mi 10 101 102, mi 10 85 86, mi 10 97 98] 49 2 #[] #[fi 18 20 21, fi 2 24 25, fi 2 28 25, fi 2 43 25, fi 2 50 25, fi 2 53 25, fi 18 13 14, fi 18 17 14]), fields := #[fd "labelled" .boolean 18 0 0, fd "history" .long 2 1 0, fd "evaluated" .long 2 2 0, fd "flagged" .long 2 3 0, fd "truePositives" .long 2 4 0, fd "falsePositives" .long 2 5 0, fd "fraudsAt" (.array .long) 18 6 0, fd "genuineAt" (.array .long) 18 7 0], methods := #[k8m0, k8m1, k8m2, k8m3, k8m4, k8m5, k8m6, k8m7], instanceTypes := #[.boolean, .long, .long, .long, .long, .long, (.array .long), (.array .long)], resolved := Array.replicate 183 none }
def pool9 : Array CpInfo := poolR [(2, [cl 4]), (1, [u "java/lang/Object", u "<init>", u "()V", .integer 2147483647, cl 9, u "com/example/wardstream/wardstream/engine/Scorecard", mr 8 11, nt 5 12, u "(Z)V", cl 14, u "com/example/wardstream/wardstream/engine/Assessment", mr 16 17, cl 18, nt 19 20, u "com/example/wardstream/wardstream/engine/ScorecardCountEvaluatedPinLaw", u "decision", u "(I)Lcom/example/wardstream/wardstream/engine/Decision;", mr 13 22, nt 5 23, u "(ILcom/example/wardstream/wardstream/engine/Decision;Ljava/util/List;)V", mr 8 25, nt 26 27, u "countEvaluated", u "(Lcom/example/wardstream/wardstream/engine/Assessment;Z)V", mr 8 29, nt 30 31, u "summary", u "()Ljava/util/List;", .interfaceMethodref 33 34, cl 35, nt 36 37, u "java/util/List", u "get", u "(I)Ljava/lang/Object;", cl 39, u "java/lang/String", .string 41, u "transactions 2", mr 38 43, nt 44 45, u "equals", u "(Ljava/lang/Object;)Z", .string 47, u "evaluated 2", .string 49, u "flagged 0", .string 51, u "flagged 1", .string 53, u "flagged 2", mr 16 55, nt 56 57, u "pick3", u "(ILjava/lang/String;Ljava/lang/String;Ljava/lang/String;)Ljava/lang/String;", .interfaceMethodref 33 59, nt 60 61, u "size", u "()I", .string 63, u "frauds 0", .string 65, u "frauds 1", .string 67, u "frauds 2", .string 69, u "true_positives 0", .string 71, u "true_positives 1", .string 73, u "true_positives 2", .string 75, u "false_positives 0", .string 77, u "false_positives 1", .string 79, u "false_positives 2", mr 16 81, nt 82 83, u "code", u "(II)I", .string 85, u "precision 0.0000", .string 87, u "precision 0.5000", .string 89, u "precision 0.6667", .string 91, u "precision 1.0000", mr 16 93, nt 94 95, u "pickR", u "(ILjava/lang/String;Ljava/lang/String;Ljava/lang/String;Ljava/lang/String;)Ljava/lang/String;", .string 97, u "recall 0.0000", .string 99, u "recall 0.5000", .string 101, u "recall 0.6667", .string 103, u "recall 1.0000", .string 105, u "f1 0.0000", .string 107, u "f1 0.5000", .string 109, u "f1 0.6667", .string 111, u "f1 1.0000", .string 113, u "false_positive_rate 0.0000", .string 115, u "false_positive_rate 0.5000", .string 117, u "false_positive_rate 0.6667", .string 119, u "false_positive_rate 1.0000", .string 121, u "auc 0.0000", .string 123, u "auc 0.5000", .string 125, u "auc 0.6667", .string 127, u "auc 1.0000", .string 129, u "average_precision 0.0000", .string 131, u "average_precision 0.5000", .string 133, u "average_precision 0.6667", .string 135, u "average_precision 1.0000", fr 137 138, cl 139, nt 140 141, u "com/example/wardstream/wardstream/engine/Decision", u "APPROVE", u "Lcom/example/wardstream/wardstream/engine/Decision;", fr 137 143, nt 144 141, u "ADDITIONAL_AUTH_REQUIRED", fr 137 146, nt 147 141, u "BLOCKED"]), (4, [u "law", u "(IIIII)Z"])] 3
def k9m0 : Method := me "<init>" "()V" 1 none
def k9c1 : Code := co 6 27 code
def k9m1 : Method := me "law" "(IIIII)Z" 9 (some k9c1)
def k9c2 : Code := co 2 1 method_3_code
def k9m2 : Method := me "decision" "(I)Lcom/example/wardstream/wardstream/engine/Decision;" 10 (some k9c2)
def k9c3 : Code := co 2 4 method_4_code
def k9m3 : Method := me "pick3" "(ILjava/lang/String;Ljava/lang/String;Ljava/lang/String;)Ljava/lang/String;" 10 (some k9c3)
def k9c4 : Code := co 3 2 method_5_code
def k9m4 : Method := me "code" "(II)I" 10 (some k9c4)
def k9c5 : Code := co 2 5 method_6_code
def k9m5 : Method := me "pickR" "(ILjava/lang/String;Ljava/lang/String;Ljava/lang/String;Ljava/lang/String;)Ljava/lang/String;" 10 (some k9c5)
def k9 : Class := { plain "com/example/wardstream/wardstream/engine/ScorecardCountEvaluatedPinLaw" (some 0) with accessFlags := 49, cf := some (fileOf pool9 16 #[] #[mi 1 5 6, mi 9 152 153, mi 10 19 20, mi 10 56 57, mi 10 82 83, mi 10 94 95] 49 2 #[] #[]), methods := #[k9m0, k9m1, k9m2, k9m3, k9m4, k9m5], resolved := Array.replicate 157 none }
def pool10 : Array CpInfo := poolR [(2, [cl 4]), (1, [u "java/lang/Object", u "<init>", u "()V"]), (6, [mr 14 15, cl 16, nt 17 18, u "java/util/Arrays", u "rangeCheck", u "(III)V"]), (55, [cl 76]), (1, [u "java/util/Arrays$NaturalOrder"]), (9, [mr 2 87, nt 88 89, u "getClass", u "()Ljava/lang/Class;"]), (19, [u "()Ljava/lang/Object;", cl 111, u "[Ljava/lang/Object;"]), (1, [cl 115]), (1, [u "java/util/Arrays$LegacyMergeSort"]), (1, [u "Z"]), (10, [nt 129 109, u "clone"]), (9, [u "copyOfRange"]), (10, [mr 151 152, cl 153, nt 154 155, u "java/lang/System", u "arraycopy", u "(Ljava/lang/Object;ILjava/lang/Object;II)V"]), (144, [mr 14 301, nt 302 303, u "copyOf", u "([Ljava/lang/Object;ILjava/lang/Class;)[Ljava/lang/Object;", mr 305 306, cl 307, nt 308 309, u "java/lang/Math", u "min", u "(II)I", mr 311 128, cl 312, u "[B"]), (3, [mr 317 128, cl 318, u "[I"]), (20, [mr 14 340, nt 341 342, u "copyOfRangeByte", u "([BII)[B", mr 14 344, nt 345 346, u "checkLength", u "(II)V"]), (28, [cl 376, u "java/util/Arrays$ArrayList"]), (68, [u "$assertionsDisabled"]), (269, [u "MIN_ARRAY_SORT_GRAN", u "I"]), (2, [u "INSERTIONSORT_THRESHOLD"]), (120, [u "fill"]), (10, [u "([BIIB)V"]), (8, [u "([Ljava/lang/Object;I)[Ljava/lang/Object;"]), (8, [u "([BI)[B"]), (1, [u "([II)[I"]), (103, [cl 976, u "java/util/Arrays$ArrayItr"])] 52
def k10m0 : Method := me "<init>" "()V" 2 none
def k10c1 : Code := co 4 3 jdk_65_method_30_code
def k10m1 : Method := me "rangeCheck" "(III)V" 8 (some k10c1)
def k10c2 : Code := co 3 5 jdk_65_method_110_code
def k10m2 : Method := me "fill" "([BIIB)V" 9 (some k10c2)
def k10c3 : Code := co 3 2 jdk_65_method_119_code
def k10m3 : Method := me "copyOf" "([Ljava/lang/Object;I)[Ljava/lang/Object;" 9 (some k10c3)
def k10c4 : Code := co 6 4 jdk_65_method_120_code
def k10m4 : Method := me "copyOf" "([Ljava/lang/Object;ILjava/lang/Class;)[Ljava/lang/Object;" 9 (some k10c4)
def k10c5 : Code := co 6 3 jdk_65_method_121_code
def k10m5 : Method := me "copyOf" "([BI)[B" 9 (some k10c5)
def k10c6 : Code := co 6 3 jdk_65_method_123_code
def k10m6 : Method := me "copyOf" "([II)[I" 9 (some k10c6)
def k10c7 : Code := co 4 2 jdk_65_method_131_code
def k10m7 : Method := me "checkLength" "(II)V" 10 (some k10c7)
def k10c8 : Code := co 3 3 jdk_65_method_132_code
def k10m8 : Method := me "copyOfRange" "([BII)[B" 9 (some k10c8)
def k10c9 : Code := co 6 5 jdk_65_method_133_code
def k10m9 : Method := me "copyOfRangeByte" "([BII)[B" 10 (some k10c9)
def k10 : Class := { plain "java/util/Arrays" (some 0) with accessFlags := 49, cf := some (fileOf pool10 14 #[.nestMembers #[975, 375, 113, 74]] #[mi 2 5 6, mi 8 17 18, mi 9 840 851, mi 9 302 860, mi 9 302 303, mi 9 302 869, mi 9 302 871, mi 10 345 346, mi 9 139 342, mi 10 341 342] 49 2 #[] #[fi 26 715 716, fi 26 719 716, fi 4120 445 117]), fields := #[fd "MIN_ARRAY_SORT_GRAN" .int 26 0 0, fd "INSERTIONSORT_THRESHOLD" .int 26 1 0, fd "$assertionsDisabled" .boolean 4120 2 0], methods := #[k10m0, k10m1, k10m2, k10m3, k10m4, k10m5, k10m6, k10m7, k10m8, k10m9], staticTypes := #[.int, .int, .boolean], resolved := Array.replicate 1029 none }
def pool11 : Array CpInfo := poolR [(1, [cl 2, u "java/lang/Long"]), (2, [cl 6, u "java/lang/String"]), (4, [u "toString", u "(J)Ljava/lang/String;", fr 5 14, nt 15 16, u "COMPACT_STRINGS", u "Z"]), (1, [cl 20]), (1, [u "java/lang/Integer"]), (32, [.long 10]), (5, [u "<init>"]), (41, [u "(J)I"]), (10, [mr 5 113, nt 59 114, u "([BB)V"]), (3, [mr 1 119, nt 120 101, u "stringSize", mr 1 122, nt 123 124, u "getChars", u "(JI[B)I"]), (4, [.long 18446744071562067968]), (3, [fr 18 134, nt 135 136, u "DigitOnes", u "[B", fr 18 138, nt 139 136, u "DigitTens", .long 18446744073709551606]), (94, [cl 237]), (1, [u "java/lang/Long$LongCache"]), (33, [cl 272, u "java/lang/Number"]), (2, [u "value", u "J"]), (27, [u "compare", u "(JJ)I"]), (55, [u "TYPE", u "Ljava/lang/Class;", cl 364, u "java/lang/Comparable", cl 366, u "java/lang/constant/Constable", cl 368, u "java/lang/constant/ConstantDesc", u "MIN_VALUE"]), (1, [u "MAX_VALUE"]), (4, [u "SIZE", u "I"]), (1, [u "BYTES"]), (1, [u "serialVersionUID"]), (115, [u "signum"])] 26
def k11c0 : Code := co 4 4 jdk_35_method_12_code
def k11m0 : Method := me "toString" "(J)Ljava/lang/String;" 9 (some k11c0)
def k11c1 : Code := co 4 11 jdk_35_method_14_code
def k11m1 : Method := me "getChars" "(JI[B)I" 8 (some k11c1)
def k11c2 : Code := co 4 6 jdk_35_method_15_code
def k11m2 : Method := me "stringSize" "(J)I" 8 (some k11c2)
def k11c3 : Code := co 4 4 jdk_35_method_42_code
def k11m3 : Method := me "compare" "(JJ)I" 9 (some k11c3)
def k11c4 : Code := co 5 2 jdk_35_method_57_code
def k11m4 : Method := me "signum" "(J)I" 9 (some k11c4)
def k11 : Class := { plain "java/lang/Long" (some 33) with accessFlags := 49, interfaces := #[18, 17, 31], cf := some (fileOf pool11 1 #[.nestMembers #[235]] #[mi 9 11 12, mi 8 123 124, mi 8 120 101, mi 9 304 305, mi 9 497 101] 49 271 #[363, 365, 367] #[fi 25 369 276, fi 25 371 276, fi 25 361 362, fi 18 275 276, fi 25 376 377, fi 25 379 377, fi 26 381 276]), fields := #[fd "MIN_VALUE" .long 25 0 0, fd "MAX_VALUE" .long 25 1 0, fd "TYPE" (.object "java/lang/Class") 25 2 0, fd "value" .long 18 0 0, fd "SIZE" .int 25 3 0, fd "BYTES" .int 25 4 0, fd "serialVersionUID" .long 26 5 0], methods := #[k11m0, k11m1, k11m2, k11m3, k11m4], instanceTypes := #[.long], staticTypes := #[.long, .long, (.object "java/lang/Class"), .int, .int, .long], resolved := Array.replicate 524 none }
def pool12 : Array CpInfo := poolR [(1, [cl 2, u "java/lang/Integer"]), (16, [u "digits", u "[C"]), (32, [u "numberOfLeadingZeros", u "(I)I"]), (30, [u "DigitOnes", u "[B"]), (2, [u "DigitTens"]), (99, [cl 190, u "java/lang/Integer$IntegerCache"]), (3, [u "I"]), (8, [cl 204, u "java/lang/Number"]), (2, [u "value"]), (56, [.integer 65536, .integer 1431655765, .integer 858993459, .integer 252645135]), (34, [u "TYPE", u "Ljava/lang/Class;", cl 305, u "java/lang/Comparable", cl 307, u "java/lang/constant/Constable", cl 309, u "java/lang/constant/ConstantDesc", u "MIN_VALUE"]), (1, [u "MAX_VALUE"]), (3, [u "SIZE"]), (1, [u "BYTES"]), (1, [u "serialVersionUID", u "J"]), (84, [u "numberOfTrailingZeros", u "bitCount"])] 45
def k12c0 : Code := co 3 2 jdk_33_method_47_code
def k12m0 : Method := me "numberOfLeadingZeros" "(I)I" 9 (some k12c0)
def k12c1 : Code := co 3 2 jdk_33_method_48_code
def k12m1 : Method := me "numberOfTrailingZeros" "(I)I" 9 (some k12c1)
def k12c2 : Code := co 3 1 jdk_33_method_49_code
def k12m2 : Method := me "bitCount" "(I)I" 9 (some k12c2)
def k12 : Class := { plain "java/lang/Integer" (some 33) with accessFlags := 49, interfaces := #[18, 17, 31], cf := some (fileOf pool12 1 #[.nestMembers #[189]] #[mi 9 53 54, mi 9 406 54, mi 9 407 54] 49 203 #[304, 306, 308] #[fi 25 310 194, fi 25 312 194, fi 25 302 303, fi 24 19 20, fi 24 89 86, fi 24 85 86, fi 18 207 194, fi 25 316 194, fi 25 318 194, fi 26 320 321]), fields := #[fd "MIN_VALUE" .int 25 0 0, fd "MAX_VALUE" .int 25 1 0, fd "TYPE" (.object "java/lang/Class") 25 2 0, fd "digits" (.array .char) 24 3 0, fd "DigitTens" (.array .byte) 24 4 0, fd "DigitOnes" (.array .byte) 24 5 0, fd "value" .int 18 0 0, fd "SIZE" .int 25 6 0, fd "BYTES" .int 25 7 0, fd "serialVersionUID" .long 26 8 0], methods := #[k12m0, k12m1, k12m2], instanceTypes := #[.int], staticTypes := #[.int, .int, (.object "java/lang/Class"), (.array .char), (.array .byte), (.array .byte), .int, .int, .long], resolved := Array.replicate 453 none, statics := some 4 }
def pool13 : Array CpInfo := poolR [(1, [mr 2 3, cl 4, nt 5 6, u "java/lang/Record", u "<init>", u "()V", fr 8 9, cl 10, nt 11 12, u "com/example/wardstream/wardstream/engine/Assessment", u "riskScore", u "I", fr 8 14, nt 15 16, u "decision", u "Lcom/example/wardstream/wardstream/engine/Decision;", fr 8 18, nt 19 20, u "factors", u "Ljava/util/List;"]), (14, [u "(ILcom/example/wardstream/wardstream/engine/Decision;Ljava/util/List;)V"]), (5, [u "()I"]), (1, [u "()Lcom/example/wardstream/wardstream/engine/Decision;"])] 24
def k13c0 : Code := co 2 4 prog_2_method_1_code
def k13m0 : Method := me "<init>" "(ILcom/example/wardstream/wardstream/engine/Decision;Ljava/util/List;)V" 1 (some k13c0)
def k13c1 : Code := co 1 1 prog_2_method_5_code
def k13m1 : Method := me "riskScore" "()I" 1 (some k13c1)
def k13c2 : Code := co 1 1 prog_2_method_6_code
def k13m2 : Method := me "decision" "()Lcom/example/wardstream/wardstream/engine/Decision;" 1 (some k13c2)
def k13 : Class := { plain "com/example/wardstream/wardstream/engine/Assessment" (some 16) with accessFlags := 49, cf := some (fileOf pool13 8 #[] #[mi 1 5 35, mi 1 11 41, mi 1 15 43] 49 2 #[] #[fi 18 11 12, fi 18 15 16, fi 18 19 20]), fields := #[fd "riskScore" .int 18 0 0, fd "decision" (.object "com/example/wardstream/wardstream/engine/Decision") 18 1 0, fd "factors" (.object "java/util/List") 18 2 0], methods := #[k13m0, k13m1, k13m2], instanceTypes := #[.int, (.object "com/example/wardstream/wardstream/engine/Decision"), (.object "java/util/List")], resolved := Array.replicate 68 none }
def pool14 : Array CpInfo := poolR [(1, [cl 2, u "java/lang/Math"]), (1, [cl 6]), (1, [u "java/lang/Object", u "<init>", u "()V"]), (89, [cl 100]), (1, [u "java/lang/Math$RandomNumberGeneratorHolder"]), (23, [u "abs", u "(J)J"]), (33, [u "(I)I"]), (12, [u "negativeZeroFloatBits", u "J"]), (2, [u "negativeZeroDoubleBits"]), (21, [u "max"]), (2, [u "min"]), (43, [u "$assertionsDisabled", u "Z"]), (88, [u "(II)I"]), (2, [u "twoToTheDoubleScaleDown", u "D"]), (4, [u "twoToTheDoubleScaleUp"]), (9, [u "E"]), (3, [u "PI"]), (2, [u "TAU"]), (2, [u "DEGREES_TO_RADIANS", u "RADIANS_TO_DEGREES"])] 94
def k14m0 : Method := me "<init>" "()V" 2 none
def k14c1 : Code := co 1 1 jdk_29_method_59_code
def k14m1 : Method := me "abs" "(I)I" 9 (some k14c1)
def k14c2 : Code := co 4 2 jdk_29_method_61_code
def k14m2 : Method := me "abs" "(J)J" 9 (some k14c2)
def k14c3 : Code := co 2 2 jdk_29_method_65_code
def k14m3 : Method := me "max" "(II)I" 9 (some k14c3)
def k14c4 : Code := co 2 2 jdk_29_method_69_code
def k14m4 : Method := me "min" "(II)I" 9 (some k14c4)
def k14 : Class := { plain "java/lang/Math" (some 0) with accessFlags := 49, cf := some (fileOf pool14 1 #[.nestMembers #[98]] #[mi 2 7 8, mi 9 124 159, mi 9 124 125, mi 9 198 335, mi 9 201 335] 49 4 #[] #[fi 25 354 339, fi 25 358 339, fi 25 361 339, fi 26 364 339, fi 26 365 339, fi 26 172 173, fi 26 176 173, fi 8 344 339, fi 8 338 339, fi 4120 245 246]), fields := #[fd "E" .double 25 0 0, fd "PI" .double 25 1 0, fd "TAU" .double 25 2 0, fd "DEGREES_TO_RADIANS" .double 26 3 0, fd "RADIANS_TO_DEGREES" .double 26 4 0, fd "negativeZeroFloatBits" .long 26 5 0, fd "negativeZeroDoubleBits" .long 26 6 0, fd "twoToTheDoubleScaleUp" .double 8 7 0, fd "twoToTheDoubleScaleDown" .double 8 8 0, fd "$assertionsDisabled" .boolean 4120 9 0], methods := #[k14m0, k14m1, k14m2, k14m3, k14m4], staticTypes := #[.double, .double, .double, .double, .double, .long, .long, .double, .double, .boolean], resolved := Array.replicate 460 none }
def pool15 : Array CpInfo := poolR [(8, [cl 10]), (1, [u "java/util/List"]), (49, [u "add"]), (3, [u "(Ljava/lang/Object;)Z"]), (10, [u "get", u "(I)Ljava/lang/Object;"]), (2, [u "size", u "()I"]), (22, [cl 104, u "java/lang/Object"]), (15, [cl 121, u "java/util/SequencedCollection"])] 129
def k15m0 : Method := me "size" "()I" 1025 none
def k15m1 : Method := me "add" "(Ljava/lang/Object;)Z" 1025 none
def k15m2 : Method := me "get" "(I)Ljava/lang/Object;" 1025 none
def k15 : Class := { plain "java/util/List" (some 0) with accessFlags := 1537, interfaces := #[25], cf := some (fileOf pool15 8 #[] #[mi 1025 79 80, mi 1025 60 64, mi 1025 75 76] 1537 103 #[120] #[]), methods := #[k15m0, k15m1, k15m2], resolved := Array.replicate 251 none }
def pool16 : Array CpInfo := poolR [(1, [mr 2 3, cl 4, nt 5 6, u "java/lang/Object", u "<init>", u "()V", cl 8, u "java/lang/Record"])] 13
def k16c0 : Code := co 1 1 jdk_30_method_1_code
def k16m0 : Method := me "<init>" "()V" 4 (some k16c0)
def k16 : Class := { plain "java/lang/Record" (some 0) with accessFlags := 1057, cf := some (fileOf pool16 7 #[] #[mi 4 5 6] 1057 2 #[] #[]), methods := #[k16m0], resolved := Array.replicate 22 none }
def pool17 : Array CpInfo := poolR [(1, [cl 2, u "java/lang/constant/Constable", cl 4, u "java/lang/Object"])] 6
def k17 : Class := { plain "java/lang/constant/Constable" (some 0) with accessFlags := 1537, cf := some (fileOf pool17 1 #[] #[] 1537 3 #[] #[]), resolved := Array.replicate 11 none }
def pool18 : Array CpInfo := poolR [(1, [cl 2, u "java/lang/Comparable", cl 4, u "java/lang/Object"])] 7
def k18 : Class := { plain "java/lang/Comparable" (some 0) with accessFlags := 1537, cf := some (fileOf pool18 1 #[] #[] 1537 3 #[] #[]), resolved := Array.replicate 12 none }
def pool19 : Array CpInfo := poolR [(1, [cl 2, u "java/io/Serializable", cl 4, u "java/lang/Object"])] 2
def k19 : Class := { plain "java/io/Serializable" (some 0) with accessFlags := 1537, cf := some (fileOf pool19 1 #[] #[] 1537 3 #[] #[]), resolved := Array.replicate 7 none }
def pool20 : Array CpInfo := poolR [(2, [cl 4]), (1, [u "java/lang/Enum", u "name", u "Ljava/lang/String;"]), (2, [u "ordinal", u "I"]), (1, [cl 14]), (1, [u "java/lang/Object"]), (4, [u "hash"]), (86, [cl 108]), (1, [u "java/lang/Enum$EnumDesc"]), (2, [cl 112, u "java/lang/constant/Constable", cl 114, u "java/lang/Comparable", cl 116, u "java/io/Serializable"])] 87
def k20 : Class := { plain "java/lang/Enum" (some 0) with accessFlags := 1057, interfaces := #[17, 18, 19], cf := some (fileOf pool20 2 #[.nestMembers #[106]] #[] 1057 12 #[111, 113, 115] #[fi 18 5 6, fi 18 9 10, fi 2 19 10]), fields := #[fd "name" (.object "java/lang/String") 18 0 0, fd "ordinal" .int 18 1 0, fd "hash" .int 2 2 0], instanceTypes := #[(.object "java/lang/String"), .int, .int], resolved := Array.replicate 204 none }
def pool21 : Array CpInfo := poolR [(1, [cl 2, u "com/example/wardstream/wardstream/engine/Decision"]), (2, [u "APPROVE", u "Lcom/example/wardstream/wardstream/engine/Decision;"]), (2, [u "ADDITIONAL_AUTH_REQUIRED"]), (2, [u "BLOCKED"]), (2, [u "$VALUES", u "[Lcom/example/wardstream/wardstream/engine/Decision;"]), (6, [cl 25]), (1, [u "java/lang/Enum"]), (8, [u "wireName", u "Ljava/lang/String;"]), (2, [u "riskLevel"])] 35
def k21 : Class := { plain "com/example/wardstream/wardstream/engine/Decision" (some 20) with accessFlags := 16433, cf := some (fileOf pool21 1 #[] #[] 16433 23 #[] #[fi 16409 5 6, fi 16409 9 6, fi 16409 12 6, fi 18 34 35, fi 18 38 35, fi 4122 15 16]), fields := #[fd "APPROVE" (.object "com/example/wardstream/wardstream/engine/Decision") 16409 0 0, fd "ADDITIONAL_AUTH_REQUIRED" (.object "com/example/wardstream/wardstream/engine/Decision") 16409 1 0, fd "BLOCKED" (.object "com/example/wardstream/wardstream/engine/Decision") 16409 2 0, fd "wireName" (.object "java/lang/String") 18 3 0, fd "riskLevel" (.object "java/lang/String") 18 4 0, fd "$VALUES" (.array (.object "com/example/wardstream/wardstream/engine/Decision")) 4122 3 0], instanceTypes := #[(.object "java/lang/String"), .int, .int, (.object "java/lang/String"), (.object "java/lang/String")], staticTypes := #[(.object "com/example/wardstream/wardstream/engine/Decision"), (.object "com/example/wardstream/wardstream/engine/Decision"), (.object "com/example/wardstream/wardstream/engine/Decision"), (.array (.object "com/example/wardstream/wardstream/engine/Decision"))], resolved := Array.replicate 74 none, statics := some 5 }
def pool22 : Array CpInfo := poolR [(8, [cl 10]), (1, [u "java/lang/Iterable"]), (24, [cl 36, u "java/lang/Object"])] 25
def k22 : Class := { plain "java/lang/Iterable" (some 0) with accessFlags := 1537, cf := some (fileOf pool22 8 #[] #[] 1537 35 #[] #[]), resolved := Array.replicate 62 none }
def pool23 : Array CpInfo := poolR [(10, [cl 12]), (1, [u "java/util/Collection"]), (47, [cl 61, u "java/lang/Object", cl 63, u "java/lang/Iterable"])] 51
def k23 : Class := { plain "java/util/Collection" (some 0) with accessFlags := 1537, interfaces := #[22], cf := some (fileOf pool23 10 #[] #[] 1537 60 #[62] #[]), resolved := Array.replicate 115 none }
def pool24 : Array CpInfo := poolR [(1, [mr 2 3, cl 4, nt 5 6, u "java/lang/Object", u "<init>", u "()V"]), (1, [cl 10]), (1, [u "java/util/AbstractCollection"]), (66, [cl 78, u "java/util/Collection"])] 81
def k24c0 : Code := co 1 1 jdk_22_method_1_code
def k24m0 : Method := me "<init>" "()V" 4 (some k24c0)
def k24 : Class := { plain "java/util/AbstractCollection" (some 0) with accessFlags := 1057, interfaces := #[23], cf := some (fileOf pool24 8 #[] #[mi 4 5 6] 1057 2 #[77] #[]), methods := #[k24m0], resolved := Array.replicate 160 none }
def pool25 : Array CpInfo := poolR [(8, [cl 10]), (1, [u "java/util/SequencedCollection"]), (15, [cl 27, u "java/lang/Object", cl 29, u "java/util/Collection"])] 27
def k25 : Class := { plain "java/util/SequencedCollection" (some 0) with accessFlags := 1537, interfaces := #[23], cf := some (fileOf pool25 8 #[] #[] 1537 26 #[28] #[]), resolved := Array.replicate 57 none }
def pool26 : Array CpInfo := poolR [(1, [mr 2 3, cl 4, nt 5 6, u "java/util/AbstractCollection", u "<init>", u "()V", fr 8 9, cl 10, nt 11 12, u "java/util/AbstractList", u "modCount", u "I"]), (64, [cl 78, u "java/util/AbstractList$Itr"]), (3, [cl 83, u "java/util/AbstractList$ListItr"]), (9, [cl 94, u "java/util/AbstractList$RandomAccessSubList"]), (3, [cl 99, u "java/util/AbstractList$SubList"]), (33, [cl 134, u "java/util/List"]), (73, [cl 209, u "java/util/AbstractList$SubList$1", cl 211, u "java/util/AbstractList$RandomAccessSpliterator"])] 6
def k26c0 : Code := co 2 1 jdk_39_method_1_code
def k26m0 : Method := me "<init>" "()V" 4 (some k26c0)
def k26 : Class := { plain "java/util/AbstractList" (some 24) with accessFlags := 1057, interfaces := #[15], cf := some (fileOf pool26 8 #[.nestMembers #[93, 98, 208, 210, 82, 77]] #[mi 4 5 6] 1057 2 #[133] #[fi 132 11 12]), fields := #[fd "modCount" .int 132 0 0], methods := #[k26m0], instanceTypes := #[.int], resolved := Array.replicate 218 none }
def pool27 : Array CpInfo := poolR [(1, [cl 2, u "java/util/RandomAccess", cl 4, u "java/lang/Object"])] 2
def k27 : Class := { plain "java/util/RandomAccess" (some 0) with accessFlags := 1537, cf := some (fileOf pool27 1 #[] #[] 1537 3 #[] #[]), resolved := Array.replicate 7 none }
def pool28 : Array CpInfo := poolR [(1, [cl 2, u "java/lang/Cloneable", cl 4, u "java/lang/Object"])] 2
def k28 : Class := { plain "java/lang/Cloneable" (some 0) with accessFlags := 1537, cf := some (fileOf pool28 1 #[] #[] 1537 3 #[] #[]), resolved := Array.replicate 7 none }
def pool29 : Array CpInfo := poolR [(1, [cl 2, u "java/lang/Appendable", cl 4, u "java/lang/Object"])] 9
def k29 : Class := { plain "java/lang/Appendable" (some 0) with accessFlags := 1537, cf := some (fileOf pool29 1 #[] #[] 1537 3 #[] #[]), resolved := Array.replicate 14 none }
def pool30 : Array CpInfo := poolR [(2, [cl 4]), (1, [u "java/lang/CharSequence"]), (42, [cl 48, u "java/lang/CharSequence$1CodePointIterator"]), (10, [cl 60, u "java/lang/CharSequence$1CharIterator"]), (5, [cl 67, u "java/lang/Object"])] 63
def k30 : Class := { plain "java/lang/CharSequence" (some 0) with accessFlags := 1537, cf := some (fileOf pool30 2 #[.nestMembers #[47, 59]] #[] 1537 66 #[] #[]), resolved := Array.replicate 131 none }
def pool31 : Array CpInfo := poolR [(1, [cl 2, u "java/lang/constant/ConstantDesc", cl 4, u "java/lang/Object"])] 32
def k31 : Class := { plain "java/lang/constant/ConstantDesc" (some 0) with accessFlags := 1537, cf := some (fileOf pool31 1 #[] #[] 1537 3 #[] #[]), resolved := Array.replicate 37 none }
def pool32 : Array CpInfo := poolR [(2, [cl 4]), (1, [u "java/lang/Object", u "<init>", u "()V"]), (1, [cl 10]), (1, [u "java/lang/System", u "allowSecurityManager", u "I"]), (16, [u "cons", u "Ljava/io/Console;"]), (77, [cl 110]), (1, [u "java/lang/System$CallersHolder"]), (43, [u "initialErrStream", u "Ljava/io/PrintStream;"]), (19, [u "security", u "Ljava/lang/SecurityManager;"]), (31, [cl 209, u "java/lang/System$1"]), (7, [u "props", u "Ljava/util/Properties;"]), (2, [u "lineSeparator", u "Ljava/lang/String;"]), (96, [cl 321]), (1, [u "java/lang/System$LoggerFinder"]), (5, [cl 328, u "java/lang/System$Logger"]), (67, [u "err"]), (2, [u "out"]), (91, [u "notSupportedJnuEncoding"]), (15, [u "in"]), (17, [u "initialIn", u "Ljava/io/InputStream;"]), (35, [u "bootLayer", u "Ljava/lang/ModuleLayer;"]), (99, [cl 664, u "java/lang/System$2"]), (9, [u "NEVER"]), (2, [u "MAYBE"]), (49, [u "arraycopy", u "(Ljava/lang/Object;ILjava/lang/Object;II)V"]), (72, [cl 802, u "java/lang/System$Logger$Level"])] 31
def k32m0 : Method := me "<init>" "()V" 2 none
def k32m1 : Method := me "arraycopy" "(Ljava/lang/Object;ILjava/lang/Object;II)V" 265 none
def k32 : Class := { plain "java/lang/System" (some 0) with accessFlags := 49, cf := some (fileOf pool32 8 #[.nestMembers #[319, 327, 801, 108, 663, 208]] #[mi 2 5 6, mi 265 727 728] 49 2 #[] #[fi 25 507 526, fi 25 399 155, fi 25 396 155, fi 10 525 526, fi 26 674 12, fi 26 677 12, fi 10 11 12, fi 74 175 176, fi 10 491 222, fi 74 29 30, fi 74 154 155, fi 10 217 218, fi 10 221 222, fi 8 562 563]), fields := #[fd "in" (.object "java/io/InputStream") 25 0 0, fd "out" (.object "java/io/PrintStream") 25 1 0, fd "err" (.object "java/io/PrintStream") 25 2 0, fd "initialIn" (.object "java/io/InputStream") 10 3 0, fd "NEVER" .int 26 4 0, fd "MAYBE" .int 26 5 0, fd "allowSecurityManager" .int 10 6 0, fd "security" (.object "java/lang/SecurityManager") 74 7 0, fd "notSupportedJnuEncoding" (.object "java/lang/String") 10 8 0, fd "cons" (.object "java/io/Console") 74 9 0, fd "initialErrStream" (.object "java/io/PrintStream") 74 10 0, fd "props" (.object "java/util/Properties") 10 11 0, fd "lineSeparator" (.object "java/lang/String") 10 12 0, fd "bootLayer" (.object "java/lang/ModuleLayer") 8 13 0], methods := #[k32m0, k32m1], staticTypes := #[(.object "java/io/InputStream"), (.object "java/io/PrintStream"), (.object "java/io/PrintStream"), (.object "java/io/InputStream"), .int, .int, .int, (.object "java/lang/SecurityManager"), (.object "java/lang/String"), (.object "java/io/Console"), (.object "java/io/PrintStream"), (.object "java/util/Properties"), (.object "java/lang/String"), (.object "java/lang/ModuleLayer")], resolved := Array.replicate 834 none }
def pool33 : Array CpInfo := poolR [(1, [mr 2 3, cl 4, nt 5 6, u "java/lang/Object", u "<init>", u "()V"]), (1, [cl 10]), (1, [u "java/lang/Number"]), (2, [cl 14, u "java/io/Serializable", u "serialVersionUID", u "J"])] 20
def k33c0 : Code := co 1 1 jdk_18_method_1_code
def k33m0 : Method := me "<init>" "()V" 1 (some k33c0)
def k33 : Class := { plain "java/lang/Number" (some 0) with accessFlags := 1057, interfaces := #[19], cf := some (fileOf pool33 8 #[] #[mi 1 5 6] 1057 2 #[13] #[fi 26 15 16]), fields := #[fd "serialVersionUID" .long 26 0 0], methods := #[k33m0], staticTypes := #[.long], resolved := Array.replicate 37 none }
def pool34 : Array CpInfo := poolR [(2, [cl 4]), (1, [u "java/lang/Object", u "<init>", u "()V"]), (35, [cl 44]), (1, [u "java/util/Objects"]), (60, [mr 106 107, cl 108, nt 109 110, u "jdk/internal/util/Preconditions", u "checkIndex", u "(IILjava/util/function/BiFunction;)I", mr 106 112, nt 113 114, u "checkFromToIndex", u "(IIILjava/util/function/BiFunction;)I"]), (56, [u "(II)I"]), (3, [u "(III)I"])] 8
def k34m0 : Method := me "<init>" "()V" 2 none
def k34c1 : Code := co 3 2 jdk_31_method_17_code
def k34m1 : Method := me "checkIndex" "(II)I" 9 (some k34c1)
def k34c2 : Code := co 4 3 jdk_31_method_18_code
def k34m2 : Method := me "checkFromToIndex" "(III)I" 9 (some k34c2)
def k34 : Class := { plain "java/util/Objects" (some 0) with accessFlags := 49, cf := some (fileOf pool34 42 #[] #[mi 2 5 6, mi 9 109 171, mi 9 113 175] 49 2 #[] #[]), methods := #[k34m0, k34m1, k34m2], resolved := Array.replicate 184 none }
def pool35 : Array CpInfo := poolR [(2, [cl 4]), (1, [u "java/lang/Object", u "<init>", u "()V"]), (17, [cl 26]), (1, [u "jdk/internal/util/Preconditions"]), (6, [u "checkIndex"]), (13, [u "checkFromToIndex"]), (7, [cl 56, u "jdk/internal/util/Preconditions$4"]), (57, [cl 115, u "jdk/internal/util/Preconditions$1"]), (7, [u "SIOOBE_FORMATTER", u "Ljava/util/function/BiFunction;", cl 126, u "jdk/internal/util/Preconditions$2"]), (3, [u "AIOOBE_FORMATTER", cl 132, u "jdk/internal/util/Preconditions$3"]), (3, [u "IOOBE_FORMATTER"]), (41, [u "(IILjava/util/function/BiFunction;)I"]), (4, [u "(IIILjava/util/function/BiFunction;)I"])] 10
def k35m0 : Method := me "<init>" "()V" 1 none
def k35c1 : Code := co 3 3 jdk_41_method_11_code
def k35m1 : Method := me "checkIndex" "(IILjava/util/function/BiFunction;)I" 9 (some k35c1)
def k35c2 : Code := co 4 4 jdk_41_method_12_code
def k35m2 : Method := me "checkFromToIndex" "(IIILjava/util/function/BiFunction;)I" 9 (some k35c2)
def k35 : Class := { plain "jdk/internal/util/Preconditions" (some 0) with cf := some (fileOf pool35 24 #[.nestMembers #[55, 131, 125, 114]] #[mi 1 5 6, mi 9 33 178, mi 9 47 183] 33 2 #[] #[fi 25 123 124, fi 25 130 124, fi 25 136 124]), fields := #[fd "SIOOBE_FORMATTER" (.object "java/util/function/BiFunction") 25 0 0, fd "AIOOBE_FORMATTER" (.object "java/util/function/BiFunction") 25 1 0, fd "IOOBE_FORMATTER" (.object "java/util/function/BiFunction") 25 2 0], methods := #[k35m0, k35m1, k35m2], staticTypes := #[(.object "java/util/function/BiFunction"), (.object "java/util/function/BiFunction"), (.object "java/util/function/BiFunction")], resolved := Array.replicate 194 none, statics := some 6 }
def pool36 : Array CpInfo := poolR [(4, [cl 6]), (1, [u "java/lang/Object", u "<init>", u "()V"]), (5, [cl 16]), (1, [u "java/lang/StringLatin1"]), (73, [u "canEncode"]), (14, [u "(C)Z"]), (15, [u "$assertionsDisabled", u "Z"]), (98, [cl 223]), (1, [u "java/lang/StringLatin1$LinesSpliterator"]), (57, [u "equals", u "([B[B)Z"]), (107, [cl 391, u "java/lang/StringLatin1$CharsSpliterator"])] 3
def k36m0 : Method := me "<init>" "()V" 0 none
def k36c1 : Code := co 2 1 jdk_43_method_3_code
def k36m1 : Method := me "canEncode" "(C)Z" 9 (some k36c1)
def k36c2 : Code := co 3 3 jdk_43_method_13_code
def k36m2 : Method := me "equals" "([B[B)Z" 9 (some k36c2)
def k36 : Class := { plain "java/lang/StringLatin1" (some 0) with accessFlags := 48, cf := some (fileOf pool36 14 #[.nestMembers #[390, 221]] #[mi 0 7 8, mi 9 90 105, mi 9 281 282] 48 4 #[] #[fi 4120 121 122]), fields := #[fd "$assertionsDisabled" .boolean 4120 0 0], methods := #[k36m0, k36m1, k36m2], staticTypes := #[.boolean], resolved := Array.replicate 395 none }
def pool37 : Array CpInfo := poolR [(9, [u "<init>"]), (6, [cl 18]), (1, [u "java/lang/Object", u "()V"]), (1, [cl 23]), (1, [u "jdk/internal/util/ArraysSupport", u "LOG2_ARRAY_LONG_INDEX_SCALE", u "I"]), (2, [u "U", u "Ljdk/internal/misc/Unsafe;"]), (8, [u "BIG_ENDIAN", u "Z"]), (8, [u "LOG2_BYTE_BIT_SIZE"]), (4, [u "LOG2_ARRAY_INT_INDEX_SCALE"]), (54, [u "JLA", u "Ljdk/internal/access/JavaLangAccess;"]), (11, [u "LOG2_ARRAY_BOOLEAN_INDEX_SCALE"]), (9, [u "LOG2_ARRAY_BYTE_INDEX_SCALE"]), (5, [u "LOG2_ARRAY_CHAR_INDEX_SCALE"]), (5, [u "LOG2_ARRAY_SHORT_INDEX_SCALE"]), (18, [u "LOG2_ARRAY_FLOAT_INDEX_SCALE"]), (24, [u "LOG2_ARRAY_DOUBLE_INDEX_SCALE"]), (6, [mr 195 196, cl 197, nt 198 199, u "java/lang/Math", u "max", u "(II)I", .integer 2147483639]), (76, [u "T_BOOLEAN"]), (2, [u "T_CHAR"]), (1, [u "T_FLOAT"]), (1, [u "T_DOUBLE"]), (1, [u "T_BYTE"]), (1, [u "T_SHORT"]), (1, [u "T_INT"]), (1, [u "T_LONG"]), (1, [u "SOFT_MAX_ARRAY_LENGTH"]), (56, [u "newLength", u "(III)I"])] 25
def k37m0 : Method := me "<init>" "()V" 2 none
def k37c1 : Code := co 3 4 jdk_48_method_27_code
def k37m1 : Method := me "newLength" "(III)I" 9 (some k37c1)
def k37 : Class := { plain "jdk/internal/util/ArraysSupport" (some 0) with cf := some (fileOf pool37 21 #[] #[mi 2 9 19, mi 9 351 352] 33 16 #[] #[fi 24 28 29, fi 26 38 39, fi 25 121 25, fi 25 131 25, fi 25 137 25, fi 25 143 25, fi 25 53 25, fi 25 24 25, fi 25 162 25, fi 25 187 25, fi 26 48 25, fi 25 277 25, fi 25 280 25, fi 25 282 25, fi 25 284 25, fi 25 286 25, fi 25 288 25, fi 25 290 25, fi 25 292 25, fi 26 108 109, fi 25 294 25]), fields := #[fd "U" (.object "jdk/internal/misc/Unsafe") 24 0 0, fd "BIG_ENDIAN" .boolean 26 1 0, fd "LOG2_ARRAY_BOOLEAN_INDEX_SCALE" .int 25 2 0, fd "LOG2_ARRAY_BYTE_INDEX_SCALE" .int 25 3 0, fd "LOG2_ARRAY_CHAR_INDEX_SCALE" .int 25 4 0, fd "LOG2_ARRAY_SHORT_INDEX_SCALE" .int 25 5 0, fd "LOG2_ARRAY_INT_INDEX_SCALE" .int 25 6 0, fd "LOG2_ARRAY_LONG_INDEX_SCALE" .int 25 7 0, fd "LOG2_ARRAY_FLOAT_INDEX_SCALE" .int 25 8 0, fd "LOG2_ARRAY_DOUBLE_INDEX_SCALE" .int 25 9 0, fd "LOG2_BYTE_BIT_SIZE" .int 26 10 0, fd "T_BOOLEAN" .int 25 11 0, fd "T_CHAR" .int 25 12 0, fd "T_FLOAT" .int 25 13 0, fd "T_DOUBLE" .int 25 14 0, fd "T_BYTE" .int 25 15 0, fd "T_SHORT" .int 25 16 0, fd "T_INT" .int 25 17 0, fd "T_LONG" .int 25 18 0, fd "JLA" (.object "jdk/internal/access/JavaLangAccess") 26 19 0, fd "SOFT_MAX_ARRAY_LENGTH" .int 25 20 0], methods := #[k37m0, k37m1], staticTypes := #[(.object "jdk/internal/misc/Unsafe"), .boolean, .int, .int, .int, .int, .int, .int, .int, .int, .int, .int, .int, .int, .int, .int, .int, .int, .int, (.object "jdk/internal/access/JavaLangAccess"), .int], resolved := Array.replicate 378 none }
def pool38 : Array CpInfo := poolR [(1, [cl 2, u "java/math/RoundingMode"]), (2, [u "UP", u "Ljava/math/RoundingMode;"]), (2, [u "DOWN"]), (2, [u "CEILING"]), (2, [u "FLOOR"]), (2, [u "HALF_UP"]), (2, [u "HALF_DOWN"]), (2, [u "HALF_EVEN"]), (2, [u "UNNECESSARY"]), (2, [u "$VALUES", u "[Ljava/math/RoundingMode;"]), (6, [cl 40]), (1, [u "java/lang/Enum"]), (8, [u "oldMode", u "I"])] 43
def k38 : Class := { plain "java/math/RoundingMode" (some 20) with accessFlags := 16433, cf := some (fileOf pool38 1 #[] #[] 16433 38 #[] #[fi 16409 5 6, fi 16409 9 6, fi 16409 12 6, fi 16409 15 6, fi 16409 18 6, fi 16409 21 6, fi 16409 24 6, fi 16409 27 6, fi 16 49 50, fi 4122 30 31]), fields := #[fd "UP" (.object "java/math/RoundingMode") 16409 0 0, fd "DOWN" (.object "java/math/RoundingMode") 16409 1 0, fd "CEILING" (.object "java/math/RoundingMode") 16409 2 0, fd "FLOOR" (.object "java/math/RoundingMode") 16409 3 0, fd "HALF_UP" (.object "java/math/RoundingMode") 16409 4 0, fd "HALF_DOWN" (.object "java/math/RoundingMode") 16409 5 0, fd "HALF_EVEN" (.object "java/math/RoundingMode") 16409 6 0, fd "UNNECESSARY" (.object "java/math/RoundingMode") 16409 7 0, fd "oldMode" .int 16 3 0, fd "$VALUES" (.array (.object "java/math/RoundingMode")) 4122 8 0], instanceTypes := #[(.object "java/lang/String"), .int, .int, .int], staticTypes := #[(.object "java/math/RoundingMode"), (.object "java/math/RoundingMode"), (.object "java/math/RoundingMode"), (.object "java/math/RoundingMode"), (.object "java/math/RoundingMode"), (.object "java/math/RoundingMode"), (.object "java/math/RoundingMode"), (.object "java/math/RoundingMode"), (.array (.object "java/math/RoundingMode"))], resolved := Array.replicate 94 none, statics := some 7 }
def pool39 : Array CpInfo := poolR [(1, [cl 2, u "java/lang/Character"]), (18, [u "value", u "C"]), (19, [cl 44]), (1, [u "java/lang/Object"]), (3, [cl 50]), (1, [u "java/lang/Character$CharacterCache"]), (62, [u "isBmpCodePoint", u "(I)Z"]), (169, [u "$assertionsDisabled", u "Z"]), (21, [cl 309]), (1, [u "java/lang/Character$UnicodeBlock"]), (73, [u "TYPE", u "Ljava/lang/Class;", cl 386, u "java/io/Serializable", cl 388, u "java/lang/Comparable", cl 390, u "java/lang/constant/Constable", u "MIN_RADIX", u "I"]), (2, [u "MAX_RADIX"]), (1, [u "MIN_VALUE"]), (1, [u "MAX_VALUE"]), (3, [u "UNASSIGNED", u "B", u "UPPERCASE_LETTER"]), (1, [u "LOWERCASE_LETTER", u "TITLECASE_LETTER"]), (1, [u "MODIFIER_LETTER"]), (1, [u "OTHER_LETTER"]), (1, [u "NON_SPACING_MARK"]), (1, [u "ENCLOSING_MARK"]), (1, [u "COMBINING_SPACING_MARK"]), (1, [u "DECIMAL_DIGIT_NUMBER"]), (1, [u "LETTER_NUMBER"]), (1, [u "OTHER_NUMBER"]), (1, [u "SPACE_SEPARATOR"]), (1, [u "LINE_SEPARATOR"]), (1, [u "PARAGRAPH_SEPARATOR"]), (1, [u "CONTROL"]), (1, [u "FORMAT"]), (1, [u "PRIVATE_USE"]), (1, [u "SURROGATE"]), (1, [u "DASH_PUNCTUATION"]), (1, [u "START_PUNCTUATION"]), (1, [u "END_PUNCTUATION"]), (1, [u "CONNECTOR_PUNCTUATION"]), (1, [u "OTHER_PUNCTUATION"]), (1, [u "MATH_SYMBOL"]), (1, [u "CURRENCY_SYMBOL"]), (1, [u "MODIFIER_SYMBOL"]), (1, [u "OTHER_SYMBOL"]), (1, [u "INITIAL_QUOTE_PUNCTUATION"]), (1, [u "FINAL_QUOTE_PUNCTUATION"]), (1, [u "ERROR"]), (1, [u "DIRECTIONALITY_UNDEFINED", u "DIRECTIONALITY_LEFT_TO_RIGHT", u "DIRECTIONALITY_RIGHT_TO_LEFT", u "DIRECTIONALITY_RIGHT_TO_LEFT_ARABIC", u "DIRECTIONALITY_EUROPEAN_NUMBER", u "DIRECTIONALITY_EUROPEAN_NUMBER_SEPARATOR", u "DIRECTIONALITY_EUROPEAN_NUMBER_TERMINATOR", u "DIRECTIONALITY_ARABIC_NUMBER", u "DIRECTIONALITY_COMMON_NUMBER_SEPARATOR", u "DIRECTIONALITY_NONSPACING_MARK", u "DIRECTIONALITY_BOUNDARY_NEUTRAL", u "DIRECTIONALITY_PARAGRAPH_SEPARATOR", u "DIRECTIONALITY_SEGMENT_SEPARATOR", u "DIRECTIONALITY_WHITESPACE", u "DIRECTIONALITY_OTHER_NEUTRALS", u "DIRECTIONALITY_LEFT_TO_RIGHT_EMBEDDING", u "DIRECTIONALITY_LEFT_TO_RIGHT_OVERRIDE", u "DIRECTIONALITY_RIGHT_TO_LEFT_EMBEDDING", u "DIRECTIONALITY_RIGHT_TO_LEFT_OVERRIDE"]), (1, [u "DIRECTIONALITY_POP_DIRECTIONAL_FORMAT", u "DIRECTIONALITY_LEFT_TO_RIGHT_ISOLATE", u "DIRECTIONALITY_RIGHT_TO_LEFT_ISOLATE", u "DIRECTIONALITY_FIRST_STRONG_ISOLATE", u "DIRECTIONALITY_POP_DIRECTIONAL_ISOLATE", u "MIN_HIGH_SURROGATE", u "MAX_HIGH_SURROGATE"]), (1, [u "MIN_LOW_SURROGATE", u "MAX_LOW_SURROGATE"]), (1, [u "MIN_SURROGATE", u "MAX_SURROGATE", u "MIN_SUPPLEMENTARY_CODE_POINT", u "MIN_CODE_POINT", u "MAX_CODE_POINT"]), (1, [u "serialVersionUID", u "J"]), (2, [u "SIZE", u "BYTES"]), (88, [cl 596, u "java/lang/Character$UnicodeScript", cl 598, u "java/lang/Character$Subset"])] 5
def k39c0 : Code := co 2 1 jdk_89_method_12_code
def k39m0 : Method := me "isBmpCodePoint" "(I)Z" 9 (some k39c0)
def k39 : Class := { plain "java/lang/Character" (some 0) with accessFlags := 49, interfaces := #[19, 18, 17], cf := some (fileOf pool39 1 #[.nestMembers #[48, 595, 307, 597]] #[mi 9 113 114] 49 42 #[385, 387, 389] #[fi 25 391 392, fi 25 395 392, fi 25 397 22, fi 25 399 22, fi 25 383 384, fi 25 403 404, fi 25 405 404, fi 25 407 404, fi 25 408 404, fi 25 410 404, fi 25 412 404, fi 25 414 404, fi 25 416 404, fi 25 418 404, fi 25 420 404, fi 25 422 404, fi 25 424 404, fi 25 426 404, fi 25 428 404, fi 25 430 404, fi 25 432 404, fi 25 434 404, fi 25 436 404, fi 25 438 404, fi 25 440 404, fi 25 442 404, fi 25 444 404, fi 25 446 404, fi 25 448 404, fi 25 450 404, fi 25 452 404, fi 25 454 404, fi 25 456 404, fi 25 458 404, fi 25 460 404, fi 24 462 392, fi 25 464 404, fi 25 465 404, fi 25 466 404, fi 25 467 404, fi 25 468 404, fi 25 469 404, fi 25 470 404, fi 25 471 404, fi 25 472 404, fi 25 473 404, fi 25 474 404, fi 25 475 404, fi 25 476 404, fi 25 477 404, fi 25 478 404, fi 25 479 404, fi 25 480 404, fi 25 481 404, fi 25 482 404, fi 25 484 404, fi 25 485 404, fi 25 486 404, fi 25 487 404, fi 25 488 404, fi 25 489 22, fi 25 490 22, fi 25 492 22, fi 25 493 22, fi 25 495 22, fi 25 496 22, fi 25 497 392, fi 25 498 392, fi 25 499 392, fi 18 21 22, fi 26 501 502, fi 25 505 392, fi 25 506 392, fi 4120 284 285]), fields := #[fd "MIN_RADIX" .int 25 0 0, fd "MAX_RADIX" .int 25 1 0, fd "MIN_VALUE" .char 25 2 0, fd "MAX_VALUE" .char 25 3 0, fd "TYPE" (.object "java/lang/Class") 25 4 0, fd "UNASSIGNED" .byte 25 5 0, fd "UPPERCASE_LETTER" .byte 25 6 0, fd "LOWERCASE_LETTER" .byte 25 7 0, fd "TITLECASE_LETTER" .byte 25 8 0, fd "MODIFIER_LETTER" .byte 25 9 0, fd "OTHER_LETTER" .byte 25 10 0, fd "NON_SPACING_MARK" .byte 25 11 0, fd "ENCLOSING_MARK" .byte 25 12 0, fd "COMBINING_SPACING_MARK" .byte 25 13 0, fd "DECIMAL_DIGIT_NUMBER" .byte 25 14 0, fd "LETTER_NUMBER" .byte 25 15 0, fd "OTHER_NUMBER" .byte 25 16 0, fd "SPACE_SEPARATOR" .byte 25 17 0, fd "LINE_SEPARATOR" .byte 25 18 0, fd "PARAGRAPH_SEPARATOR" .byte 25 19 0, fd "CONTROL" .byte 25 20 0, fd "FORMAT" .byte 25 21 0, fd "PRIVATE_USE" .byte 25 22 0, fd "SURROGATE" .byte 25 23 0, fd "DASH_PUNCTUATION" .byte 25 24 0, fd "START_PUNCTUATION" .byte 25 25 0, fd "END_PUNCTUATION" .byte 25 26 0, fd "CONNECTOR_PUNCTUATION" .byte 25 27 0, fd "OTHER_PUNCTUATION" .byte 25 28 0, fd "MATH_SYMBOL" .byte 25 29 0, fd "CURRENCY_SYMBOL" .byte 25 30 0, fd "MODIFIER_SYMBOL" .byte 25 31 0, fd "OTHER_SYMBOL" .byte 25 32 0, fd "INITIAL_QUOTE_PUNCTUATION" .byte 25 33 0, fd "FINAL_QUOTE_PUNCTUATION" .byte 25 34 0, fd "ERROR" .int 24 35 0, fd "DIRECTIONALITY_UNDEFINED" .byte 25 36 0, fd "DIRECTIONALITY_LEFT_TO_RIGHT" .byte 25 37 0, fd "DIRECTIONALITY_RIGHT_TO_LEFT" .byte 25 38 0, fd "DIRECTIONALITY_RIGHT_TO_LEFT_ARABIC" .byte 25 39 0, fd "DIRECTIONALITY_EUROPEAN_NUMBER" .byte 25 40 0, fd "DIRECTIONALITY_EUROPEAN_NUMBER_SEPARATOR" .byte 25 41 0, fd "DIRECTIONALITY_EUROPEAN_NUMBER_TERMINATOR" .byte 25 42 0, fd "DIRECTIONALITY_ARABIC_NUMBER" .byte 25 43 0, fd "DIRECTIONALITY_COMMON_NUMBER_SEPARATOR" .byte 25 44 0, fd "DIRECTIONALITY_NONSPACING_MARK" .byte 25 45 0, fd "DIRECTIONALITY_BOUNDARY_NEUTRAL" .byte 25 46 0, fd "DIRECTIONALITY_PARAGRAPH_SEPARATOR" .byte 25 47 0, fd "DIRECTIONALITY_SEGMENT_SEPARATOR" .byte 25 48 0, fd "DIRECTIONALITY_WHITESPACE" .byte 25 49 0, fd "DIRECTIONALITY_OTHER_NEUTRALS" .byte 25 50 0, fd "DIRECTIONALITY_LEFT_TO_RIGHT_EMBEDDING" .byte 25 51 0, fd "DIRECTIONALITY_LEFT_TO_RIGHT_OVERRIDE" .byte 25 52 0, fd "DIRECTIONALITY_RIGHT_TO_LEFT_EMBEDDING" .byte 25 53 0, fd "DIRECTIONALITY_RIGHT_TO_LEFT_OVERRIDE" .byte 25 54 0, fd "DIRECTIONALITY_POP_DIRECTIONAL_FORMAT" .byte 25 55 0, fd "DIRECTIONALITY_LEFT_TO_RIGHT_ISOLATE" .byte 25 56 0, fd "DIRECTIONALITY_RIGHT_TO_LEFT_ISOLATE" .byte 25 57 0, fd "DIRECTIONALITY_FIRST_STRONG_ISOLATE" .byte 25 58 0, fd "DIRECTIONALITY_POP_DIRECTIONAL_ISOLATE" .byte 25 59 0, fd "MIN_HIGH_SURROGATE" .char 25 60 0, fd "MAX_HIGH_SURROGATE" .char 25 61 0, fd "MIN_LOW_SURROGATE" .char 25 62 0, fd "MAX_LOW_SURROGATE" .char 25 63 0, fd "MIN_SURROGATE" .char 25 64 0, fd "MAX_SURROGATE" .char 25 65 0, fd "MIN_SUPPLEMENTARY_CODE_POINT" .int 25 66 0, fd "MIN_CODE_POINT" .int 25 67 0, fd "MAX_CODE_POINT" .int 25 68 0, fd "value" .char 18 0 0, fd "serialVersionUID" .long 26 69 0, fd "SIZE" .int 25 70 0, fd "BYTES" .int 25 71 0, fd "$assertionsDisabled" .boolean 4120 72 0], methods := #[k39m0], instanceTypes := #[.char], staticTypes := #[.int, .int, .char, .char, (.object "java/lang/Class"), .byte, .byte, .byte, .byte, .byte, .byte, .byte, .byte, .byte, .byte, .byte, .byte, .byte, .byte, .byte, .byte, .byte, .byte, .byte, .byte, .byte, .byte, .byte, .byte, .byte, .byte, .byte, .byte, .byte, .byte, .int, .byte, .byte, .byte, .byte, .byte, .byte, .byte, .byte, .byte, .byte, .byte, .byte, .byte, .byte, .byte, .byte, .byte, .byte, .byte, .byte, .byte, .byte, .byte, .byte, .char, .char, .char, .char, .char, .char, .int, .int, .int, .long, .int, .int, .boolean], resolved := Array.replicate 604 none }
def pool40 : Array CpInfo := poolR [(1, [u "java/lang/Class", cl 1, u "java/lang/Object", cl 3])] 3
def k40 : Class := { plain "java/lang/Class" (some 0) with accessFlags := 49, cf := some (fileOf pool40 2 #[] #[] 49 4 #[] #[]), resolved := Array.replicate 8 none }
def k41 : Class := { plain "byte" none with kind := .primitive 'B', accessFlags := 0x411 }
def k42 : Class := { plain "[B" (some 0) with kind := .array 41 .byte, interfaces := #[28, 19], accessFlags := 1041 }
def k43 : Class := { plain "int" none with kind := .primitive 'I', accessFlags := 0x411 }
def k44 : Class := { plain "[I" (some 0) with kind := .array 43 .int, interfaces := #[28, 19], accessFlags := 1041 }
def k45 : Class := { plain "long" none with kind := .primitive 'J', accessFlags := 0x411 }
def k46 : Class := { plain "[J" (some 0) with kind := .array 45 .long, interfaces := #[28, 19], accessFlags := 1041 }
def k47 : Class := { plain "[Ljava/lang/Object;" (some 0) with kind := .array 0 (.object "java/lang/Object"), interfaces := #[28, 19], accessFlags := 1041, mirror := some 9 }
def k48 : Class := { plain "[Ljava/math/BigDecimal;" (some 0) with kind := .array 1 (.object "java/math/BigDecimal"), interfaces := #[28, 19], accessFlags := 1041 }
def k49 : Class := { plain "[Ljava/math/BigInteger;" (some 0) with kind := .array 3 (.object "java/math/BigInteger"), interfaces := #[28, 19], accessFlags := 1041 }
def heap : Heap := #[{ cls := 1, slots := #[.double 0, .int 0, .int 0, .int 0, .int 0, .int 0, .int 0, .long 0, .null, .int 0, .long 0, .null, .ref 53, .long 0, .long 0, .ref 54, .null, .null, .null, .null, .null, .int 0, .int 0, .int 0, .int 0, .int 0, .int 0, .int 0, .int 0, .null, .null, .ref 49, .null, .int 0, .int 0, .ref 50, .long 0, .null, .int 1], vm := .statics 1 },
  { cls := 3, slots := #[.long 0, .int 0, .int 0, .int 0, .int 0, .int 0, .int 0, .int 0, .int 0, .int 0, .int 0, .int 0, .null, .int 0, .int 0, .null, .int 0, .ref 14, .null, .null, .null, .double 0, .ref 51, .ref 15, .ref 17, .null, .ref 33, .null, .int 0, .null, .null, .null, .null, .null, .long 0, .null, .int 0], vm := .statics 3 },
  { cls := 5, slots := #[.long 0, .int 1, .null, .int 0, .null, .int 0, .int 0], vm := .statics 5 },
  { cls := 7, slots := #[.long 0, .int 0, .ref 10, .ref 11], vm := .statics 7 },
  { cls := 12, slots := #[.int 0, .int 0, .null, .null, .ref 13, .ref 12, .int 0, .int 0, .long 0], vm := .statics 12 },
  { cls := 21, slots := #[.ref 71, .ref 72, .ref 70, .null], vm := .statics 21 },
  { cls := 35, slots := #[.null, .null, .null], vm := .statics 35 },
  { cls := 38, slots := #[.null, .null, .null, .null, .ref 47, .null, .null, .null, .null], vm := .statics 38 },
  { cls := 40, slots := #[], vm := .mirror 3 },
  { cls := 40, slots := #[], vm := .mirror 47 },
  { cls := 47, slots := #[], vm := .none },
  { cls := 47, slots := #[], vm := .none },
  { cls := 42, slots := #[.int 48, .int 49, .int 50, .int 51, .int 52, .int 53, .int 54, .int 55, .int 56, .int 57, .int 48, .int 49, .int 50, .int 51, .int 52, .int 53, .int 54, .int 55, .int 56, .int 57, .int 48, .int 49, .int 50, .int 51, .int 52, .int 53, .int 54, .int 55, .int 56, .int 57, .int 48, .int 49, .int 50, .int 51, .int 52, .int 53, .int 54, .int 55, .int 56, .int 57, .int 48, .int 49, .int 50, .int 51, .int 52, .int 53, .int 54, .int 55, .int 56, .int 57, .int 48, .int 49, .int 50, .int 51, .int 52, .int 53, .int 54, .int 55, .int 56, .int 57, .int 48, .int 49, .int 50, .int 51, .int 52, .int 53, .int 54, .int 55, .int 56, .int 57, .int 48, .int 49, .int 50, .int 51, .int 52, .int 53, .int 54, .int 55, .int 56, .int 57, .int 48, .int 49, .int 50, .int 51, .int 52, .int 53, .int 54, .int 55, .int 56, .int 57, .int 48, .int 49, .int 50, .int 51, .int 52, .int 53, .int 54, .int 55, .int 56, .int 57], vm := .none },
  { cls := 42, slots := #[.int 48, .int 48, .int 48, .int 48, .int 48, .int 48, .int 48, .int 48, .int 48, .int 48, .int 49, .int 49, .int 49, .int 49, .int 49, .int 49, .int 49, .int 49, .int 49, .int 49, .int 50, .int 50, .int 50, .int 50, .int 50, .int 50, .int 50, .int 50, .int 50, .int 50, .int 51, .int 51, .int 51, .int 51, .int 51, .int 51, .int 51, .int 51, .int 51, .int 51, .int 52, .int 52, .int 52, .int 52, .int 52, .int 52, .int 52, .int 52, .int 52, .int 52, .int 53, .int 53, .int 53, .int 53, .int 53, .int 53, .int 53, .int 53, .int 53, .int 53, .int 54, .int 54, .int 54, .int 54, .int 54, .int 54, .int 54, .int 54, .int 54, .int 54, .int 55, .int 55, .int 55, .int 55, .int 55, .int 55, .int 55, .int 55, .int 55, .int 55, .int 56, .int 56, .int 56, .int 56, .int 56, .int 56, .int 56, .int 56, .int 56, .int 56, .int 57, .int 57, .int 57, .int 57, .int 57, .int 57, .int 57, .int 57, .int 57, .int 57], vm := .none },
  { cls := 49, slots := #[.null, .ref 15, .ref 17, .ref 19, .ref 21, .ref 23, .ref 25, .ref 27, .ref 29, .ref 31, .ref 33, .ref 35, .ref 37, .ref 39, .ref 41, .ref 43, .ref 45], vm := .none },
  { cls := 3, slots := #[.int 1, .ref 16, .int 0, .int 0, .int 0, .int 0], vm := .none },
  { cls := 44, slots := #[.int 1], vm := .none },
  { cls := 3, slots := #[.int 1, .ref 18, .int 0, .int 0, .int 0, .int 0], vm := .none },
  { cls := 44, slots := #[.int 2], vm := .none },
  { cls := 3, slots := #[.int 1, .ref 20, .int 0, .int 0, .int 0, .int 0], vm := .none },
  { cls := 44, slots := #[.int 3], vm := .none },
  { cls := 3, slots := #[.int 1, .ref 22, .int 0, .int 0, .int 0, .int 0], vm := .none },
  { cls := 44, slots := #[.int 4], vm := .none },
  { cls := 3, slots := #[.int 1, .ref 24, .int 0, .int 0, .int 0, .int 0], vm := .none },
  { cls := 44, slots := #[.int 5], vm := .none },
  { cls := 3, slots := #[.int 1, .ref 26, .int 0, .int 0, .int 0, .int 0], vm := .none },
  { cls := 44, slots := #[.int 6], vm := .none },
  { cls := 3, slots := #[.int 1, .ref 28, .int 0, .int 0, .int 0, .int 0], vm := .none },
  { cls := 44, slots := #[.int 7], vm := .none },
  { cls := 3, slots := #[.int 1, .ref 30, .int 0, .int 0, .int 0, .int 0], vm := .none },
  { cls := 44, slots := #[.int 8], vm := .none },
  { cls := 3, slots := #[.int 1, .ref 32, .int 0, .int 0, .int 0, .int 0], vm := .none },
  { cls := 44, slots := #[.int 9], vm := .none },
  { cls := 3, slots := #[.int 1, .ref 34, .int 0, .int 0, .int 0, .int 0], vm := .none },
  { cls := 44, slots := #[.int 10], vm := .none },
  { cls := 3, slots := #[.int 1, .ref 36, .int 0, .int 0, .int 0, .int 0], vm := .none },
  { cls := 44, slots := #[.int 11], vm := .none },
  { cls := 3, slots := #[.int 1, .ref 38, .int 0, .int 0, .int 0, .int 0], vm := .none },
  { cls := 44, slots := #[.int 12], vm := .none },
  { cls := 3, slots := #[.int 1, .ref 40, .int 0, .int 0, .int 0, .int 0], vm := .none },
  { cls := 44, slots := #[.int 13], vm := .none },
  { cls := 3, slots := #[.int 1, .ref 42, .int 0, .int 0, .int 0, .int 0], vm := .none },
  { cls := 44, slots := #[.int 14], vm := .none },
  { cls := 3, slots := #[.int 1, .ref 44, .int 0, .int 0, .int 0, .int 0], vm := .none },
  { cls := 44, slots := #[.int 15], vm := .none },
  { cls := 3, slots := #[.int 1, .ref 46, .int 0, .int 0, .int 0, .int 0], vm := .none },
  { cls := 44, slots := #[.int 16], vm := .none },
  { cls := 38, slots := #[.ref 48, .int 4, .int 0, .int 4], vm := .none },
  { cls := 5, slots := #[.null, .int 0, .int 0, .int 0], vm := .none },
  { cls := 46, slots := #[.long 1, .long 10, .long 100, .long 1000, .long 10000, .long 100000, .long 1000000, .long 10000000, .long 100000000, .long 1000000000, .long 10000000000, .long 100000000000, .long 1000000000000, .long 10000000000000, .long 100000000000000, .long 1000000000000000, .long 10000000000000000, .long 100000000000000000, .long 1000000000000000000], vm := .none },
  { cls := 46, slots := #[.long 9223372036854775807, .long 922337203685477580, .long 92233720368547758, .long 9223372036854775, .long 922337203685477, .long 92233720368547, .long 9223372036854, .long 922337203685, .long 92233720368, .long 9223372036, .long 922337203, .long 92233720, .long 9223372, .long 922337, .long 92233, .long 9223, .long 922, .long 92, .long 9], vm := .none },
  { cls := 3, slots := #[.int 0, .ref 52, .int 0, .int 0, .int 0, .int 0], vm := .none },
  { cls := 44, slots := #[], vm := .none },
  { cls := 48, slots := #[.ref 54, .ref 55, .ref 56, .ref 57, .ref 58, .ref 59, .ref 60, .ref 61, .ref 62, .ref 63, .ref 64, .ref 65, .ref 66, .ref 67, .ref 68, .ref 69], vm := .none },
  { cls := 1, slots := #[.ref 51, .int 0, .int 0, .null, .long 0], vm := .none },
  { cls := 1, slots := #[.ref 51, .int 1, .int 0, .null, .long 0], vm := .none },
  { cls := 1, slots := #[.ref 51, .int 2, .int 0, .null, .long 0], vm := .none },
  { cls := 1, slots := #[.ref 51, .int 3, .int 0, .null, .long 0], vm := .none },
  { cls := 1, slots := #[.ref 51, .int 4, .int 0, .null, .long 0], vm := .none },
  { cls := 1, slots := #[.ref 51, .int 5, .int 0, .null, .long 0], vm := .none },
  { cls := 1, slots := #[.ref 51, .int 6, .int 0, .null, .long 0], vm := .none },
  { cls := 1, slots := #[.ref 51, .int 7, .int 0, .null, .long 0], vm := .none },
  { cls := 1, slots := #[.ref 51, .int 8, .int 0, .null, .long 0], vm := .none },
  { cls := 1, slots := #[.ref 51, .int 9, .int 0, .null, .long 0], vm := .none },
  { cls := 1, slots := #[.ref 51, .int 10, .int 0, .null, .long 0], vm := .none },
  { cls := 1, slots := #[.ref 51, .int 11, .int 0, .null, .long 0], vm := .none },
  { cls := 1, slots := #[.ref 51, .int 12, .int 0, .null, .long 0], vm := .none },
  { cls := 1, slots := #[.ref 51, .int 13, .int 0, .null, .long 0], vm := .none },
  { cls := 1, slots := #[.ref 51, .int 14, .int 0, .null, .long 0], vm := .none },
  { cls := 1, slots := #[.ref 51, .int 15, .int 0, .null, .long 0], vm := .none },
  { cls := 21, slots := #[.null, .int 2, .int 0, .null, .null], vm := .none },
  { cls := 21, slots := #[.null, .int 0, .int 0, .null, .null], vm := .none },
  { cls := 21, slots := #[.null, .int 1, .int 0, .null, .null], vm := .none }]
def classes : Array Class := #[k0, k1, k2, k3, k4, k5, k6, k7, k8, k9, k10, k11, k12, k13, k14, k15, k16, k17, k18, k19, k20, k21, k22, k23, k24, k25, k26, k27, k28, k29, k30, k31, k32, k33, k34, k35, k36, k37, k38, k39, k40, k41, k42, k43, k44, k45, k46, k47, k48, k49]
def interned : List (Array UInt16 × Addr) := []
def slotsUsed : Nat := 604
def theMethod : MethodId := ⟨9, 1⟩
def args0 : Array Value := #[.int 5, .int 6, .int 7, .int 8, .int 9]
def aboutOver (below : List Frame) : State where
  vm := { classes := classes, interned := interned.toArray }
  heap := heap
  slotsUsed := slotsUsed
  threads := #[{ frames := .invoking theMethod args0 :: below }]
def below0 : List Frame := [.native { method := ⟨0, 0⟩, args := #[] }]
def about1 : State := aboutOver below0
def p0 : Program := .bare "" "" ""
def e0 : Env := launch0.env 0 0 0
theorem w_frames : about1.frames = Frame.invoking theMethod args0 :: below0 := rfl
theorem w_args : argsFit about1.vm theMethod args0 = true := by decide +kernel
theorem w_heap : heapFits about1 = true := by decide +kernel
theorem w_runnable : about1.curStatus? = some .runnable := by decide +kernel
theorem w_alone : about1.alone = true := by decide +kernel
theorem w_named : about1.methodNamed? x = some theMethod := by decide +kernel
theorem w_hears : about1.hears theMethod below0 = true := by decide +kernel
theorem w_ripe : about1.ripe theMethod args0 below0 = true := by decide +kernel
theorem w_running : about1.status = .running := rfl
theorem w_room : about1.hasRoom e0.platform room_1 = true :=
  launch0.hasRoom_least _ room_1 (by decide +kernel) (by decide +kernel) (by decide +kernel) (by decide +kernel) (by decide +kernel) (by decide +kernel)
theorem allAtoms_all (ts : List Jvm.Cond) (a : Array Jvm.Value) (st : Jvm.State) : (allAtoms ts).before a st = ts.all (fun c => c.before a st) := by
  induction ts with
  | nil => rfl
  | cons c t ih =>
    show (Jvm.Cond.and c (allAtoms t)).before a st = _
    rw [Jvm.Cond.before_and, ih, List.all_cons]
def words1 : List Jvm.Cond := Jvm.Cond.code x code maxLocals ret :: tables_1
theorem code_word {y : MethodName} {bytes : ByteArray} {mx : Nat} {rt : Option FieldType} {a : Array Value} {s : State} {m : MethodId} {meth : Method} {c : Code} (h1 : s.methodNamed? y = some m) (h2 : s.vm.method? m = some meth) (h3 : meth.code = some c) (h4 : c.code = bytes)
    (h5 : (c.maxLocals == mx && c.exceptionTable.isEmpty && decide (c.maxStack ≤ mostOperands) && decide (meth.sig.returnType = rt) && !meth.locks && decide (parseMethodDescriptor y.desc = some meth.sig)) = true) : (Jvm.Cond.code y bytes mx rt).before a s = true := by
  simp only [Bool.and_eq_true, beq_iff_eq, Bool.not_eq_true', decide_eq_true_eq] at h5
  obtain ⟨⟨⟨⟨⟨g1, g2⟩, g3⟩, g4⟩, g5⟩, g6⟩ := h5
  simp [Cond.before, Cond.holds, Cond.value, h1, h2, h3, h4, g1, g2, g3, g4, g5, g6]
theorem chunk {L : List Jvm.Cond} {f : Jvm.Cond → Bool} {n : Nat} (h : ∀ i, i < n → ((L.drop (24 * i)).take 24).all f = true) (hl : L.length ≤ 24 * n) : L.all f = true := by
  refine List.all_eq_true.mpr fun c hc => ?_
  obtain ⟨j, hj, rfl⟩ := List.getElem_of_mem hc
  refine List.all_eq_true.mp (h (j / 24) (by omega)) _ (List.mem_of_getElem? (i := j % 24) ?_)
  rw [List.getElem?_take_of_lt (by omega), List.getElem?_drop, show 24 * (j / 24) + j % 24 = j by omega]
  simp [hj]
def isCode : Jvm.Cond → Bool
  | .code _ _ _ _ => true
  | _ => false
theorem all_split {L : List Jvm.Cond} {P : Jvm.Cond → Bool} (h1 : L.all (fun c => isCode c || P c) = true) (h2 : ∀ c ∈ L.filter isCode, P c = true) : L.all P = true := by
  refine List.all_eq_true.mpr fun c hc => ?_
  have h := List.all_eq_true.mp h1 c hc
  rcases Bool.eq_false_or_eq_true (isCode c) with hi | hi
  · exact h2 c (List.mem_filter.mpr ⟨hc, hi⟩)
  · simpa [hi] using h
theorem cw {y : MethodName} {bytes : ByteArray} {mx : Nat} {rt : Option FieldType} (m : MethodId) (meth : Method) (c : Code) (h1 : about1.methodNamed? y = some m := by decide +kernel) (h2 : about1.vm.method? m = some meth := by exact rfl) (h3 : meth.code = some c := by exact rfl) (h4 : c.code = bytes := by exact rfl) (h5 : (c.maxLocals == mx && c.exceptionTable.isEmpty && decide (c.maxStack ≤ mostOperands) && decide (meth.sig.returnType = rt) && !meth.locks && decide (parseMethodDescriptor y.desc = some meth.sig)) = true := by decide +kernel) : (Jvm.Cond.code y bytes mx rt).before args0 about1 = true := code_word h1 h2 h3 h4 h5
def ow (i : Nat) : Prop := (words1.getD i .tt).before args0 about1 = true
theorem w_c0 : ow 0 := cw ⟨9, 1⟩ k9m1 k9c1
theorem w_c1 : ow 7 := cw ⟨8, 0⟩ k8m0 k8c0
theorem w_c2 : ow 10 := cw ⟨0, 0⟩ k0m0 k0c0
theorem w_c3 : ow 24 := cw ⟨9, 2⟩ k9m2 k9c2
theorem w_c4 : ow 30 := cw ⟨13, 0⟩ k13m0 k13c0
theorem w_c5 : ow 35 := cw ⟨16, 0⟩ k16m0 k16c0
theorem w_c6 : ow 47 := cw ⟨8, 1⟩ k8m1 k8c1
theorem w_c7 : ow 54 := cw ⟨13, 2⟩ k13m2 k13c2
theorem w_c8 : ow 63 := cw ⟨13, 1⟩ k13m1 k13c1
theorem w_c9 : ow 72 := cw ⟨8, 2⟩ k8m2 k8c2
theorem w_c10 : ow 78 := cw ⟨7, 0⟩ k7m0 k7c0
theorem w_c11 : ow 84 := cw ⟨26, 0⟩ k26m0 k26c0
theorem w_c12 : ow 90 := cw ⟨24, 0⟩ k24m0 k24c0
theorem w_c13 : ow 102 := cw ⟨6, 0⟩ k6m0 k6c0
theorem w_c14 : ow 108 := cw ⟨4, 1⟩ k4m1 k4c1
theorem w_c15 : ow 127 := cw ⟨6, 3⟩ k6m3 k6c3
theorem w_c16 : ow 132 := cw ⟨4, 6⟩ k4m6 k4c6
theorem w_c17 : ow 137 := cw ⟨5, 2⟩ k5m2 k5c2
theorem w_c18 : ow 143 := cw ⟨5, 7⟩ k5m7 k5c7
theorem w_c19 : ow 152 := cw ⟨4, 4⟩ k4m4 k4c4
theorem w_c20 : ow 157 := cw ⟨4, 13⟩ k4m13 k4c13
theorem w_c21 : ow 162 := cw ⟨4, 12⟩ k4m12 k4c12
theorem w_c22 : ow 168 := cw ⟨5, 4⟩ k5m4 k5c4
theorem w_c23 : ow 179 := cw ⟨6, 4⟩ k6m4 k6c4
theorem w_c24 : ow 183 := cw ⟨4, 7⟩ k4m7 k4c7
theorem w_c25 : ow 187 := cw ⟨11, 2⟩ k11m2 k11c2
theorem w_c26 : ow 193 := cw ⟨4, 11⟩ k4m11 k4c11
theorem w_c27 : ow 196 := cw ⟨11, 1⟩ k11m1 k11c1
theorem w_c28 : ow 204 := cw ⟨6, 7⟩ k6m7 k6c7
theorem w_c29 : ow 209 := cw ⟨5, 1⟩ k5m1 k5c1
theorem w_c30 : ow 212 := cw ⟨5, 5⟩ k5m5 k5c5
theorem w_c31 : ow 218 := cw ⟨4, 10⟩ k4m10 k4c10
theorem w_c32 : ow 224 := cw ⟨6, 9⟩ k6m9 k6c9
theorem w_c33 : ow 226 := cw ⟨4, 3⟩ k4m3 k4c3
theorem w_c34 : ow 231 := cw ⟨10, 8⟩ k10m8 k10c8
theorem w_c35 : ow 234 := cw ⟨10, 9⟩ k10m9 k10c9
theorem w_c36 : ow 237 := cw ⟨10, 7⟩ k10m7 k10c7
theorem w_c37 : ow 241 := cw ⟨14, 4⟩ k14m4 k14c4
theorem w_c38 : ow 251 := cw ⟨7, 7⟩ k7m7 k7c7
theorem w_c39 : ow 260 := cw ⟨7, 6⟩ k7m6 k7c6
theorem w_c40 : ow 265 := cw ⟨7, 2⟩ k7m2 k7c2
theorem w_c41 : ow 270 := cw ⟨7, 1⟩ k7m1 k7c1
theorem w_c42 : ow 273 := cw ⟨14, 3⟩ k14m3 k14c3
theorem w_c43 : ow 286 := cw ⟨7, 5⟩ k7m5 k7c5
theorem w_c44 : ow 290 := cw ⟨34, 1⟩ k34m1 k34c1
theorem w_c45 : ow 294 := cw ⟨35, 1⟩ k35m1 k35c1
theorem w_c46 : ow 299 := cw ⟨7, 4⟩ k7m4 k7c4
theorem w_c47 : ow 306 := cw ⟨5, 3⟩ k5m3 k5c3
theorem w_c48 : ow 311 := cw ⟨36, 2⟩ k36m2 k36c2
theorem w_c49 : ow 318 := cw ⟨9, 3⟩ k9m3 k9c3
theorem w_c50 : ow 326 := cw ⟨7, 3⟩ k7m3 k7c3
theorem w_c51 : ow 332 := cw ⟨8, 6⟩ k8m6 k8c6
theorem w_c52 : ow 349 := cw ⟨4, 5⟩ k4m5 k4c5
theorem w_c53 : ow 353 := cw ⟨37, 1⟩ k37m1 k37c1
theorem w_c54 : ow 359 := cw ⟨10, 5⟩ k10m5 k10c5
theorem w_c55 : ow 363 := cw ⟨8, 7⟩ k8m7 k8c7
theorem w_c56 : ow 367 := cw ⟨3, 1⟩ k3m1 k3c1
theorem w_c57 : ow 372 := cw ⟨8, 5⟩ k8m5 k8c5
theorem w_c58 : ow 377 := cw ⟨3, 11⟩ k3m11 k3c11
theorem w_c59 : ow 385 := cw ⟨1, 2⟩ k1m2 k1c2
theorem w_c60 : ow 391 := cw ⟨33, 0⟩ k33m0 k33c0
theorem w_c61 : ow 397 := cw ⟨1, 1⟩ k1m1 k1c1
theorem w_c62 : ow 409 := cw ⟨1, 11⟩ k1m11 k1c11
theorem w_c63 : ow 422 := cw ⟨1, 6⟩ k1m6 k1c6
theorem w_c64 : ow 429 := cw ⟨1, 5⟩ k1m5 k1c5
theorem w_c65 : ow 433 := cw ⟨1, 17⟩ k1m17 k1c17
theorem w_c66 : ow 436 := cw ⟨1, 13⟩ k1m13 k1c13
theorem w_c67 : ow 440 := cw ⟨1, 10⟩ k1m10 k1c10
theorem w_c68 : ow 444 := cw ⟨1, 14⟩ k1m14 k1c14
theorem w_c69 : ow 447 := cw ⟨1, 3⟩ k1m3 k1c3
theorem w_c70 : ow 452 := cw ⟨1, 0⟩ k1m0 k1c0
theorem w_c71 : ow 459 := cw ⟨1, 8⟩ k1m8 k1c8
theorem w_c72 : ow 462 := cw ⟨14, 2⟩ k14m2 k14c2
theorem w_c73 : ow 465 := cw ⟨11, 0⟩ k11m0 k11c0
theorem w_c74 : ow 474 := cw ⟨5, 6⟩ k5m6 k5c6
theorem w_c75 : ow 479 := cw ⟨1, 7⟩ k1m7 k1c7
theorem w_c76 : ow 482 := cw ⟨11, 4⟩ k11m4 k11c4
theorem w_c77 : ow 485 := cw ⟨1, 9⟩ k1m9 k1c9
theorem w_c78 : ow 491 := cw ⟨6, 2⟩ k6m2 k6c2
theorem w_c79 : ow 495 := cw ⟨4, 2⟩ k4m2 k4c2
theorem w_c80 : ow 500 := cw ⟨6, 8⟩ k6m8 k6c8
theorem w_c81 : ow 506 := cw ⟨6, 5⟩ k6m5 k6c5
theorem w_c82 : ow 510 := cw ⟨4, 9⟩ k4m9 k4c9
theorem w_c83 : ow 513 := cw ⟨5, 8⟩ k5m8 k5c8
theorem w_c84 : ow 517 := cw ⟨35, 2⟩ k35m2 k35c2
theorem w_c85 : ow 522 := cw ⟨4, 8⟩ k4m8 k4c8
theorem w_c86 : ow 526 := cw ⟨36, 1⟩ k36m1 k36c1
theorem w_c87 : ow 536 := cw ⟨1, 16⟩ k1m16 k1c16
theorem w_c88 : ow 543 := cw ⟨1, 12⟩ k1m12 k1c12
theorem w_c89 : ow 546 := cw ⟨11, 3⟩ k11m3 k11c3
theorem w_c90 : ow 549 := cw ⟨1, 15⟩ k1m15 k1c15
theorem w_c91 : ow 557 := cw ⟨8, 3⟩ k8m3 k8c3
theorem w_c92 : ow 563 := cw ⟨3, 4⟩ k3m4 k3c4
theorem w_c93 : ow 568 := cw ⟨3, 5⟩ k3m5 k3c5
theorem w_c94 : ow 573 := cw ⟨3, 2⟩ k3m2 k3c2
theorem w_c95 : ow 577 := cw ⟨3, 6⟩ k3m6 k3c6
theorem w_c96 : ow 580 := cw ⟨12, 2⟩ k12m2 k12c2
theorem w_c97 : ow 588 := cw ⟨12, 1⟩ k12m1 k12c1
theorem w_c98 : ow 592 := cw ⟨3, 12⟩ k3m12 k3c12
theorem w_c99 : ow 596 := cw ⟨34, 2⟩ k34m2 k34c2
theorem w_c100 : ow 600 := cw ⟨3, 13⟩ k3m13 k3c13
theorem w_c101 : ow 603 := cw ⟨3, 0⟩ k3m0 k3c0
theorem w_c102 : ow 610 := cw ⟨10, 3⟩ k10m3 k10c3
theorem w_c103 : ow 616 := cw ⟨10, 4⟩ k10m4 k10c4
theorem w_c104 : ow 623 := cw ⟨8, 4⟩ k8m4 k8c4
theorem w_c105 : ow 630 := cw ⟨3, 9⟩ k3m9 k3c9
theorem w_c106 : ow 637 := cw ⟨2, 2⟩ k2m2 k2c2
theorem w_c107 : ow 646 := cw ⟨10, 6⟩ k10m6 k10c6
theorem w_c108 : ow 659 := cw ⟨2, 14⟩ k2m14 k2c14
theorem w_c109 : ow 663 := cw ⟨2, 0⟩ k2m0 k2c0
theorem w_c110 : ow 666 := cw ⟨14, 1⟩ k14m1 k14c1
theorem w_c111 : ow 671 := cw ⟨2, 15⟩ k2m15 k2c15
theorem w_c112 : ow 676 := cw ⟨2, 7⟩ k2m7 k2c7
theorem w_c113 : ow 682 := cw ⟨2, 8⟩ k2m8 k2c8
theorem w_c114 : ow 685 := cw ⟨2, 16⟩ k2m16 k2c16
theorem w_c115 : ow 690 := cw ⟨2, 4⟩ k2m4 k2c4
theorem w_c116 : ow 696 := cw ⟨2, 3⟩ k2m3 k2c3
theorem w_c117 : ow 702 := cw ⟨3, 7⟩ k3m7 k3c7
theorem w_c118 : ow 707 := cw ⟨3, 8⟩ k3m8 k3c8
theorem w_c119 : ow 711 := cw ⟨2, 1⟩ k2m1 k2c1
theorem w_c120 : ow 716 := cw ⟨2, 13⟩ k2m13 k2c13
theorem w_c121 : ow 721 := cw ⟨2, 6⟩ k2m6 k2c6
theorem w_c122 : ow 725 := cw ⟨3, 3⟩ k3m3 k3c3
theorem w_c123 : ow 729 := cw ⟨3, 10⟩ k3m10 k3c10
theorem w_c124 : ow 732 := cw ⟨12, 0⟩ k12m0 k12c0
theorem w_c125 : ow 737 := cw ⟨2, 10⟩ k2m10 k2c10
theorem w_c126 : ow 742 := cw ⟨2, 9⟩ k2m9 k2c9
theorem w_c127 : ow 747 := cw ⟨2, 11⟩ k2m11 k2c11
theorem w_c128 : ow 752 := cw ⟨2, 5⟩ k2m5 k2c5
theorem w_c129 : ow 757 := cw ⟨2, 12⟩ k2m12 k2c12
theorem w_c130 : ow 770 := cw ⟨9, 4⟩ k9m4 k9c4
theorem w_c131 : ow 777 := cw ⟨9, 5⟩ k9m5 k9c5
theorem w_c132 : ow 800 := cw ⟨1, 4⟩ k1m4 k1c4
theorem w_c133 : ow 804 := cw ⟨6, 1⟩ k6m1 k6c1
theorem w_c134 : ow 809 := cw ⟨6, 6⟩ k6m6 k6c6
theorem w_c135 : ow 813 := cw ⟨4, 15⟩ k4m15 k4c15
theorem w_c136 : ow 817 := cw ⟨39, 0⟩ k39m0 k39c0
theorem w_c137 : ow 822 := cw ⟨4, 14⟩ k4m14 k4c14
theorem w_c138 : ow 825 := cw ⟨10, 2⟩ k10m2 k10c2
theorem w_c139 : ow 828 := cw ⟨10, 1⟩ k10m1 k10c1
theorem mn : ∀ j ∈ ([] : List Nat), ow j := fun _ h => nomatch h
theorem mc {i : Nat} {L : List Nat} (h : ow i) (t : ∀ j ∈ L, ow j) : ∀ j ∈ i :: L, ow j := fun j hj => (List.mem_cons.mp hj).elim (fun e => e ▸ h) (t j)
def codes1 : List Nat := [0, 7, 10, 24, 30, 35, 47, 54, 63, 72, 78, 84, 90, 102, 108, 127, 132, 137, 143, 152, 157, 162, 168, 179, 183, 187, 193, 196, 204, 209, 212, 218, 224, 226, 231, 234, 237, 241, 251, 260, 265, 270, 273, 286, 290, 294, 299, 306, 311, 318, 326, 332, 349, 353, 359, 363, 367, 372, 377, 385, 391, 397, 409, 422, 429, 433, 436, 440, 444, 447, 452, 459, 462, 465, 474, 479, 482, 485, 491, 495, 500, 506, 510, 513, 517, 522, 526, 536, 543, 546, 549, 557, 563, 568, 573, 577, 580, 588, 592, 596, 600, 603, 610, 616, 623, 630, 637, 646, 659, 663, 666, 671, 676, 682, 685, 690, 696, 702, 707, 711, 716, 721, 725, 729, 732, 737, 742, 747, 752, 757, 770, 777, 800, 804, 809, 813, 817, 822, 825, 828]
theorem w_cs : ∀ j ∈ codes1, ow j := mc w_c0 <| mc w_c1 <| mc w_c2 <| mc w_c3 <| mc w_c4 <| mc w_c5 <| mc w_c6 <| mc w_c7 <| mc w_c8 <| mc w_c9 <| mc w_c10 <| mc w_c11 <| mc w_c12 <| mc w_c13 <| mc w_c14 <| mc w_c15 <| mc w_c16 <| mc w_c17 <| mc w_c18 <| mc w_c19 <| mc w_c20 <| mc w_c21 <| mc w_c22 <| mc w_c23 <| mc w_c24 <| mc w_c25 <| mc w_c26 <| mc w_c27 <| mc w_c28 <| mc w_c29 <| mc w_c30 <| mc w_c31 <| mc w_c32 <| mc w_c33 <| mc w_c34 <| mc w_c35 <| mc w_c36 <| mc w_c37 <| mc w_c38 <| mc w_c39 <| mc w_c40 <| mc w_c41 <| mc w_c42 <| mc w_c43 <| mc w_c44 <| mc w_c45 <| mc w_c46 <| mc w_c47 <| mc w_c48 <| mc w_c49 <| mc w_c50 <| mc w_c51 <| mc w_c52 <| mc w_c53 <| mc w_c54 <| mc w_c55 <| mc w_c56 <| mc w_c57 <| mc w_c58 <| mc w_c59 <| mc w_c60 <| mc w_c61 <| mc w_c62 <| mc w_c63 <| mc w_c64 <| mc w_c65 <| mc w_c66 <| mc w_c67 <| mc w_c68 <| mc w_c69 <| mc w_c70 <| mc w_c71 <| mc w_c72 <| mc w_c73 <| mc w_c74 <| mc w_c75 <| mc w_c76 <| mc w_c77 <| mc w_c78 <| mc w_c79 <| mc w_c80 <| mc w_c81 <| mc w_c82 <| mc w_c83 <| mc w_c84 <| mc w_c85 <| mc w_c86 <| mc w_c87 <| mc w_c88 <| mc w_c89 <| mc w_c90 <| mc w_c91 <| mc w_c92 <| mc w_c93 <| mc w_c94 <| mc w_c95 <| mc w_c96 <| mc w_c97 <| mc w_c98 <| mc w_c99 <| mc w_c100 <| mc w_c101 <| mc w_c102 <| mc w_c103 <| mc w_c104 <| mc w_c105 <| mc w_c106 <| mc w_c107 <| mc w_c108 <| mc w_c109 <| mc w_c110 <| mc w_c111 <| mc w_c112 <| mc w_c113 <| mc w_c114 <| mc w_c115 <| mc w_c116 <| mc w_c117 <| mc w_c118 <| mc w_c119 <| mc w_c120 <| mc w_c121 <| mc w_c122 <| mc w_c123 <| mc w_c124 <| mc w_c125 <| mc w_c126 <| mc w_c127 <| mc w_c128 <| mc w_c129 <| mc w_c130 <| mc w_c131 <| mc w_c132 <| mc w_c133 <| mc w_c134 <| mc w_c135 <| mc w_c136 <| mc w_c137 <| mc w_c138 <| mc w_c139 mn
theorem codes_at : words1.zipIdx.all (fun q => !isCode q.1 || codes1.contains q.2) = true := by decide +kernel
theorem w_codes : ∀ c ∈ words1.filter isCode, c.before args0 about1 = true := fun c hc => by
  obtain ⟨h1, h2⟩ := List.mem_filter.mp hc
  obtain ⟨i, hi⟩ := List.mem_iff_getElem?.mp h1
  have q := List.all_eq_true.mp codes_at (c, i) (List.mem_zipIdx_iff_getElem?.mpr hi)
  have z := w_cs i (by simpa [h2] using q)
  rwa [ow, List.getD_eq_getElem?_getD, hi] at z
def wf (c : Jvm.Cond) : Bool := isCode c || c.before args0 about1
theorem w_t1 : ((words1.drop (24 * 0)).take 24).all wf = true := by decide +kernel
theorem w_t2 : ((words1.drop (24 * 1)).take 24).all wf = true := by decide +kernel
theorem w_t3 : ((words1.drop (24 * 2)).take 24).all wf = true := by decide +kernel
theorem w_t4 : ((words1.drop (24 * 3)).take 24).all wf = true := by decide +kernel
theorem w_t5 : ((words1.drop (24 * 4)).take 24).all wf = true := by decide +kernel
theorem w_t6 : ((words1.drop (24 * 5)).take 24).all wf = true := by decide +kernel
theorem w_t7 : ((words1.drop (24 * 6)).take 24).all wf = true := by decide +kernel
theorem w_t8 : ((words1.drop (24 * 7)).take 24).all wf = true := by decide +kernel
theorem w_t9 : ((words1.drop (24 * 8)).take 24).all wf = true := by decide +kernel
theorem w_t10 : ((words1.drop (24 * 9)).take 24).all wf = true := by decide +kernel
theorem w_t11 : ((words1.drop (24 * 10)).take 24).all wf = true := by decide +kernel
theorem w_t12 : ((words1.drop (24 * 11)).take 24).all wf = true := by decide +kernel
theorem w_t13 : ((words1.drop (24 * 12)).take 24).all wf = true := by decide +kernel
theorem w_t14 : ((words1.drop (24 * 13)).take 24).all wf = true := by decide +kernel
theorem w_t15 : ((words1.drop (24 * 14)).take 24).all wf = true := by decide +kernel
theorem w_t16 : ((words1.drop (24 * 15)).take 24).all wf = true := by decide +kernel
theorem w_t17 : ((words1.drop (24 * 16)).take 24).all wf = true := by decide +kernel
theorem w_t18 : ((words1.drop (24 * 17)).take 24).all wf = true := by decide +kernel
theorem w_t19 : ((words1.drop (24 * 18)).take 24).all wf = true := by decide +kernel
theorem w_t20 : ((words1.drop (24 * 19)).take 24).all wf = true := by decide +kernel
theorem w_t21 : ((words1.drop (24 * 20)).take 24).all wf = true := by decide +kernel
theorem w_t22 : ((words1.drop (24 * 21)).take 24).all wf = true := by decide +kernel
theorem w_t23 : ((words1.drop (24 * 22)).take 24).all wf = true := by decide +kernel
theorem w_t24 : ((words1.drop (24 * 23)).take 24).all wf = true := by decide +kernel
theorem w_t25 : ((words1.drop (24 * 24)).take 24).all wf = true := by decide +kernel
theorem w_t26 : ((words1.drop (24 * 25)).take 24).all wf = true := by decide +kernel
theorem w_t27 : ((words1.drop (24 * 26)).take 24).all wf = true := by decide +kernel
theorem w_t28 : ((words1.drop (24 * 27)).take 24).all wf = true := by decide +kernel
theorem w_t29 : ((words1.drop (24 * 28)).take 24).all wf = true := by decide +kernel
theorem w_t30 : ((words1.drop (24 * 29)).take 24).all wf = true := by decide +kernel
theorem w_t31 : ((words1.drop (24 * 30)).take 24).all wf = true := by decide +kernel
theorem w_t32 : ((words1.drop (24 * 31)).take 24).all wf = true := by decide +kernel
theorem w_t33 : ((words1.drop (24 * 32)).take 24).all wf = true := by decide +kernel
theorem w_t34 : ((words1.drop (24 * 33)).take 24).all wf = true := by decide +kernel
theorem w_t35 : ((words1.drop (24 * 34)).take 24).all wf = true := by decide +kernel
theorem w_tables : (allAtoms (Jvm.Cond.code x code maxLocals ret :: tables_1)).before args0 about1 = true := by
  rw [allAtoms_all]
  show words1.all (fun c => c.before args0 about1) = true
  refine all_split ?_ w_codes
  refine chunk (n := 35) (fun i hi => ?_) (by decide)
  match i, hi with
  | 0, _ => exact w_t1
  | 1, _ => exact w_t2
  | 2, _ => exact w_t3
  | 3, _ => exact w_t4
  | 4, _ => exact w_t5
  | 5, _ => exact w_t6
  | 6, _ => exact w_t7
  | 7, _ => exact w_t8
  | 8, _ => exact w_t9
  | 9, _ => exact w_t10
  | 10, _ => exact w_t11
  | 11, _ => exact w_t12
  | 12, _ => exact w_t13
  | 13, _ => exact w_t14
  | 14, _ => exact w_t15
  | 15, _ => exact w_t16
  | 16, _ => exact w_t17
  | 17, _ => exact w_t18
  | 18, _ => exact w_t19
  | 19, _ => exact w_t20
  | 20, _ => exact w_t21
  | 21, _ => exact w_t22
  | 22, _ => exact w_t23
  | 23, _ => exact w_t24
  | 24, _ => exact w_t25
  | 25, _ => exact w_t26
  | 26, _ => exact w_t27
  | 27, _ => exact w_t28
  | 28, _ => exact w_t29
  | 29, _ => exact w_t30
  | 30, _ => exact w_t31
  | 31, _ => exact w_t32
  | 32, _ => exact w_t33
  | 33, _ => exact w_t34
  | 34, _ => exact w_t35
  | i + 35, hi => exact absurd hi (by omega)
theorem w_rest : rest_1_c.before args0 about1 = true := by decide +kernel
theorem w_case : (Jvm.Cond.and given_1 narrow_1).before args0 about1 = true := by decide +kernel
theorem w_consts : constsHeld consts_1 about1 := Jvm.Lit.constsHeldB_iff.mp (by decide +kernel)
theorem w_applies : (headSpec (Jvm.Cond.code x code maxLocals ret :: tables_1) room_1).applies x e0.platform about1 = true :=
  (Spec.applies_iff w_frames).mpr ⟨w_running, w_runnable, w_alone, w_named, w_hears, w_ripe, w_room, w_tables⟩
theorem atStart : AtStart classFile x code maxLocals ret World_1 tables_1 room_1 Calls_1 rest_1 Pre_1 launch0 p0 e0 about1 theMethod args0 below0 :=
  ⟨lists_1, trivial, launch0.admits_env _ _ _, launch0.least_env, fairChoices_fair.cas, fairChoices_fair.clock, w_frames, w_args, w_heap, w_applies, ⟨⟨3, k3, 8, by decide +kernel, rfl, rfl, _, rfl, rfl⟩, ⟨⟨47, k47, 9, by decide +kernel, rfl, rfl, _, rfl, rfl⟩, ⟨w_consts, trivial⟩⟩⟩, w_rest, w_case⟩
end start1
theorem witness_1 : WitnessClaimed_1 := ⟨start1.p0, start1.e0, start1.about1, start1.theMethod, start1.args0, start1.below0, start1.atStart⟩
end Jvm.Pilot.@@N@@
