import JvmDerived
import JvmDerived.Pilot.@@N@@Statement
import JvmDerived.Pilot.@@N@@Code
set_option linter.unusedVariables false
set_option linter.unusedSimpArgs false
namespace Jvm.RoadKit
open Sem ClassFile Op Lib Jvm.Stand Jvm.Free Jvm.LawKit
section OwnGo
variable {p : Program} {l : Launch} {e : Env} {R : Room} {s : State} {m : MethodId} {args : Array Value} {below : List Frame} {meth : Method} {c : Code} {T T' : State} {locs : List Loc} {cells slots : Nat} {Z : State} {a0 : Array Value} {h h' : Heap}
/-- the walk comes to an end from here, and leaves what Q says -/
def Go (p : Program) (e : Env) (below : List Frame) (s : State) (Q : Option Value → Heap → List Loc → Prop) (nc ns : Nat) (T : State) (f : JFrame) : Prop :=
  ∃ s₂ o, Steps p.tables e below (T.setTop f) s₂ ∧ s₂.status = .running ∧ Ended s₂ below o ∧ ∃ v L, o = .returned v ∧ Q v s₂.heap L ∧ FrameEnd s o s₂ L nc ns
variable {Q : Option Value → Heap → List Loc → Prop} {nc ns : Nat}
theorem Go.of {f f' : JFrame} (k : ∀ t, Steps p.tables e below (T'.setTop f') t → Steps p.tables e below (T.setTop f) t) (g : Go p e below s Q nc ns T' f') : Go p e below s Q nc ns T f := by
  obtain ⟨s₂, o, h1, h2⟩ := g
  exact ⟨s₂, o, k _ h1, h2⟩
theorem Go.tr {f f' : JFrame} (k : Steps p.tables e below (T.setTop f) (T'.setTop f')) (g : Go p e below s Q nc ns T' f') : Go p e below s Q nc ns T f := by
  obtain ⟨s₂, o, h1, h2⟩ := g
  exact ⟨s₂, o, k.trans h1, h2⟩
theorem Go.cast {f f' : JFrame} (q : f = f') (g : Go p e below s Q nc ns T f') : Go p e below s Q nc ns T f := q ▸ g
theorem retI (X : Stand p l e R s m args below meth c T locs cells slots) (hx : p.tables.exec = Jvm.exec) {pc : Nat} {Ls : Array Slot} {z : Int32} {rest : List Value} (hret : meth.sig.returnType = some .int) (hd : decode c.code pc = .ok (.ireturn, 1)) {fs : List Frame}
    (hl : ∀ (f : JFrame) (acts : List Action), f.method = m → f.locked = none → f.entered = [] → (doReturn e (T.setTop f) acts (some (.int z))).1 = T.setFrames fs) : Steps p.tables e below (T.setTop (mkF m pc Ls (.int z :: rest))) (T.setFrames fs) :=
  retOut X hx hret rfl (Or.inl ⟨rfl, Or.inl rfl, _, rfl⟩) hd hl
theorem Go.end0 (X : Stand p l e R s m args below meth c T locs cells slots) (hk : meth.locks = false) {v : Option Value} (hv : meth.sig.returnType = none → v = none) {f : JFrame}
    (k : ∀ fs, (∀ (f : JFrame) (acts : List Action), f.method = m → f.locked = none → f.entered = [] → (doReturn e (T.setTop f) acts v).1 = T.setFrames fs) → Steps p.tables e below (T.setTop f) (T.setFrames fs))
    (hc : cells ≤ nc) (hs : slots ≤ ns) (hq : Q v T.heap locs) : Go p e below s Q nc ns T f := by
  obtain ⟨fs, hr, hrun, hended, hW, hsame⟩ := X.leave (v := v) hv
  exact ⟨_, _, k fs hr, hrun, hended, _, _, rfl, hq, ⟨_, rfl⟩, hW, hsame.mono hc hs⟩
theorem Go.retZ (X : Stand p l e R s m args below meth c T locs cells slots) (hx : p.tables.exec = Jvm.exec) (hk : meth.locks = false) {t : FieldType} (hret : meth.sig.returnType = some t) (ht : t = .boolean ∨ t = .byte ∨ t = .char ∨ t = .short) {pc : Nat} (hd : decode c.code pc = .ok (.ireturn, 1)) {Ls : Array Slot} {z : Int32} {rest : List Value}
    (hc : cells ≤ nc) (hs : slots ≤ ns) (hq : Q (some (.int (nar t z))) T.heap locs) : Go p e below s Q nc ns T (mkF m pc Ls (.int z :: rest)) :=
  Go.end0 X hk (fun q => by rw [hret] at q; cases q) (fun _ hr => retN X hx hret ht hd hr) hc hs hq
theorem Go.retI (X : Stand p l e R s m args below meth c T locs cells slots) (hx : p.tables.exec = Jvm.exec) (hk : meth.locks = false) (hret : meth.sig.returnType = some .int) {pc : Nat} (hd : decode c.code pc = .ok (.ireturn, 1)) {Ls : Array Slot} {z : Int32} {rest : List Value}
    (hc : cells ≤ nc) (hs : slots ≤ ns) (hq : Q (some (.int z)) T.heap locs) : Go p e below s Q nc ns T (mkF m pc Ls (.int z :: rest)) :=
  Go.end0 X hk (fun q => by rw [hret] at q; cases q) (fun _ hr => Jvm.RoadKit.retI X hx hret hd hr) hc hs hq
theorem Go.retJ (X : Stand p l e R s m args below meth c T locs cells slots) (hx : p.tables.exec = Jvm.exec) (hk : meth.locks = false) (hret : meth.sig.returnType = some .long) {pc : Nat} (hd : decode c.code pc = .ok (.lreturn, 1)) {Ls : Array Slot} {z : Int64} {rest : List Value}
    (hc : cells ≤ nc) (hs : slots ≤ ns) (hq : Q (some (.long z)) T.heap locs) : Go p e below s Q nc ns T (mkF m pc Ls (.long z :: rest)) :=
  Go.end0 X hk (fun q => by rw [hret] at q; cases q) (fun _ hr => retOut X hx hret rfl (Or.inr (Or.inl ⟨rfl, rfl, _, rfl⟩)) hd hr) hc hs hq
theorem Go.retA (X : Stand p l e R s m args below meth c T locs cells slots) (hx : p.tables.exec = Jvm.exec) (hk : meth.locks = false) {t : FieldType} (hret : meth.sig.returnType = some t) (ht : t.isReference = true) {pc : Nat} (hd : decode c.code pc = .ok (.areturn, 1)) {Ls : Array Slot} {a : Addr} {rest : List Value}
    (hc : cells ≤ nc) (hs : slots ≤ ns) (hq : Q (some (.ref a)) T.heap locs) : Go p e below s Q nc ns T (mkF m pc Ls (.ref a :: rest)) :=
  Go.end0 X hk (fun q => by rw [hret] at q; cases q) (fun _ hr => retOut X hx hret (by cases t <;> first | rfl | cases ht) (Or.inr (Or.inr (Or.inr (Or.inr ⟨rfl, ht, rfl⟩)))) hd hr) hc hs hq
theorem Go.retV (X : Stand p l e R s m args below meth c T locs cells slots) (hx : p.tables.exec = Jvm.exec) (hk : meth.locks = false) (hret : meth.sig.returnType = none) {pc : Nat} (hd : decode c.code pc = .ok (.return_, 1)) {Ls : Array Slot}
    (hc : cells ≤ nc) (hs : slots ≤ ns) (hq : Q none T.heap locs) : Go p e below s Q nc ns T (mkF m pc Ls []) :=
  Go.end0 X hk (fun _ => rfl) (fun _ hr => X.returnOut hx hret hd hr) hc hs hq
theorem lc_lt_t {x y : Int64} (q : x < y) : ifCond.holds .lt (lcmpW x y) = true := by rw [if0, lcW]; exact (tlt ((lc_lt x y).mpr q)).1
theorem lc_lt_f {x y : Int64} (q : ¬ x < y) : ifCond.holds .lt (lcmpW x y) = false := by rw [if0, lcW]; exact (flt (fun z => q ((lc_lt x y).mp z))).1
theorem lc_ge_f {x y : Int64} (q : x < y) : ifCond.holds .ge (lcmpW x y) = false := by rw [if0, lcW]; exact (tlt ((lc_lt x y).mpr q)).2.1
theorem lc_ge_t {x y : Int64} (q : ¬ x < y) : ifCond.holds .ge (lcmpW x y) = true := by rw [if0, lcW]; exact (flt (fun z => q ((lc_lt x y).mp z))).2.1
theorem lc_gt_t {x y : Int64} (q : y < x) : ifCond.holds .gt (lcmpW x y) = true := by rw [if0, lcW]; exact (tlt ((lc_gt x y).mpr q)).2.2.1
theorem lc_gt_f {x y : Int64} (q : ¬ y < x) : ifCond.holds .gt (lcmpW x y) = false := by rw [if0, lcW]; exact (flt (fun z => q ((lc_gt x y).mp z))).2.2.1
theorem lc_le_f {x y : Int64} (q : y < x) : ifCond.holds .le (lcmpW x y) = false := by rw [if0, lcW]; exact (tlt ((lc_gt x y).mpr q)).2.2.2
theorem lc_le_t {x y : Int64} (q : ¬ y < x) : ifCond.holds .le (lcmpW x y) = true := by rw [if0, lcW]; exact (flt (fun z => q ((lc_gt x y).mp z))).2.2.2
theorem lc_eq_t {x y : Int64} (q : x = y) : ifCond.holds .eq (lcmpW x y) = true := by rw [if0, lcW]; exact (teq ((lc_eq x y).mpr q)).1
theorem lc_eq_f {x y : Int64} (q : ¬ x = y) : ifCond.holds .eq (lcmpW x y) = false := by rw [if0, lcW]; exact (feq (fun z => q ((lc_eq x y).mp z))).1
theorem lc_ne_f {x y : Int64} (q : x = y) : ifCond.holds .ne (lcmpW x y) = false := by rw [if0, lcW]; exact (teq ((lc_eq x y).mpr q)).2
theorem lc_ne_t {x y : Int64} (q : ¬ x = y) : ifCond.holds .ne (lcmpW x y) = true := by rw [if0, lcW]; exact (feq (fun z => q ((lc_eq x y).mp z))).2
/-- an array of this kind that holds just these values -/
def VArr (Z : State) (h : Heap) (a : Addr) (ty : FieldType) (vs : List Value) : Prop := ∃ cl : Cell, Arr Z h a cl ty ∧ cl.slots = vs.toArray
variable {a b : Addr} {ty : FieldType} {vs : List Value} {sl : Nat} {v : Value} {ws : List Addr} {n : Int32}
theorem VArr.lt (F : VArr Z h a ty vs) : a < h.size := by obtain ⟨c, A, -⟩ := F; exact A.lt
theorem VArr.ext (F : VArr Z h a ty vs) (E : Ext h h') : VArr Z h' a ty vs := by obtain ⟨c, A, r⟩ := F; exact ⟨c, A.ext E, r⟩
theorem VArr.other (F : VArr Z h b ty vs) (W : Wr h h' a sl v) (q : b ≠ a) : VArr Z h' b ty vs := by obtain ⟨c, A, r⟩ := F; exact ⟨c, A.other W q, r⟩
theorem VArr.keep (F : VArr Z h a ty vs) (K : Keep h h' ws) (q : a ∉ ws) : VArr Z h' a ty vs := by obtain ⟨c, A, r⟩ := F; exact ⟨c, ⟨K.2.1 a c A.1 q, A.2⟩, r⟩
theorem VArr.new {k : ClassId} (A : Arr Z h a (newA k ty n) ty) : VArr Z h a ty (List.replicate n.toNatClampNeg (defaultValue ty)) := ⟨_, A, by simp [newA]⟩
theorem VArr.newL {k : ClassId} {i : Nat} (A : Arr Z h a (newA k ty n) ty) (hn : n.toNatClampNeg = i) : VArr Z h a ty (List.replicate i (defaultValue ty)) := hn ▸ VArr.new A
theorem VArr.wr (F : VArr Z h a ty vs) (W : Wr h h' a sl v) : VArr Z h' a ty (vs.set sl v) := by
  obtain ⟨c, A, r⟩ := F
  refine ⟨_, A.same W, ?_⟩
  show c.slots.setIfInBounds sl v = _
  rw [r]; simp
theorem VArr.inb {cl : Cell} {j : Int32} (r : cl.slots = vs.toArray) (hj : ¬ j < 0) (hi : j.toNatClampNeg < vs.length) : ¬ (j < 0 ∨ cl.slots.size ≤ j.toNatClampNeg) := by
  rw [r]; simp only [List.size_toArray]; rintro (q | q)
  · exact hj q
  · omega
theorem VArr.at {cl : Cell} {j : Int32} (r : cl.slots = vs.toArray) (hv : vs[j.toNatClampNeg]? = some v) : cl.slots[j.toNatClampNeg]? = some v := by rw [r]; simpa using hv
theorem lt_of_at {j : Nat} (hv : vs[j]? = some v) : j < vs.length := (List.getElem?_eq_some_iff.mp hv).1
theorem ldJ (X : Stand p l e R s m args below meth c T locs cells slots) (hx : p.tables.exec = Jvm.exec) (hZ : Z.Warmed39 s.vm) (eT : T.heap = h) (F : VArr Z h a .long vs) {j : Int32} {i : Nat} (hj : ¬ j < 0) (hji : j.toNatClampNeg = i) (hv : vs[i]? = some v)
    {g : JFrame} (hg : g.method = m) {rest : List Value} (hs : g.stack = .int j :: .ref a :: rest) (hd : decode c.code g.pc = .ok (.laload, 1)) (target : State)
    (hr : Steps p.tables e below (T.setTop { g with pc := g.pc + 1, stack := v :: rest }) target) : Steps p.tables e below (T.setTop g) target := by
  subst hji
  obtain ⟨cl, A, r⟩ := F
  exact X.laload hx (by rw [eT]; exact A.1) (State.isArrayOf_alike hZ.alike A.2.1) A.2.2 (VArr.inb r hj (lt_of_at hv)) (VArr.at r hv) hg hs hd target hr
theorem ldC (X : Stand p l e R s m args below meth c T locs cells slots) (hx : p.tables.exec = Jvm.exec) (hZ : Z.Warmed39 s.vm) (eT : T.heap = h) (F : VArr Z h a .char vs) {j : Int32} {i : Nat} (hj : ¬ j < 0) (hji : j.toNatClampNeg = i) (hv : vs[i]? = some v)
    {g : JFrame} (hg : g.method = m) {rest : List Value} (hs : g.stack = .int j :: .ref a :: rest) (hd : decode c.code g.pc = .ok (.caload, 1)) (target : State)
    (hr : Steps p.tables e below (T.setTop { g with pc := g.pc + 1, stack := v :: rest }) target) : Steps p.tables e below (T.setTop g) target := by
  subst hji
  obtain ⟨cl, A, r⟩ := F
  exact X.caload hx (by rw [eT]; exact A.1) (State.isArrayOf_alike hZ.alike A.2.1) A.2.2 (VArr.inb r hj (lt_of_at hv)) (VArr.at r hv) hg hs hd target hr
theorem ldB (X : Stand p l e R s m args below meth c T locs cells slots) (hx : p.tables.exec = Jvm.exec) (hZ : Z.Warmed39 s.vm) (eT : T.heap = h) (F : VArr Z h a .byte vs) {j : Int32} {i : Nat} (hj : ¬ j < 0) (hji : j.toNatClampNeg = i) (hv : vs[i]? = some v)
    {g : JFrame} (hg : g.method = m) {rest : List Value} (hs : g.stack = .int j :: .ref a :: rest) (hd : decode c.code g.pc = .ok (.baload, 1)) (target : State)
    (hr : Steps p.tables e below (T.setTop { g with pc := g.pc + 1, stack := v :: rest }) target) : Steps p.tables e below (T.setTop g) target := by
  subst hji
  obtain ⟨cl, A, r⟩ := F
  exact X.baloadBytes hx (by rw [eT]; exact A.1) (State.isArrayOf_alike hZ.alike A.2.1) A.2.2 (VArr.inb r hj (lt_of_at hv)) (VArr.at r hv) hg hs hd target hr
theorem lenV (X : Stand p l e R s m args below meth c T locs cells slots) (hx : p.tables.exec = Jvm.exec) (hZ : Z.Warmed39 s.vm) (eT : T.heap = h) (F : VArr Z h a ty vs) (hn : vs.length.toInt32 = n)
    {g : JFrame} (hg : g.method = m) {rest : List Value} (hs : g.stack = .ref a :: rest) (hd : decode c.code g.pc = .ok (.arraylength, 1)) (target : State)
    (hr : Steps p.tables e below (T.setTop { g with pc := g.pc + 1, stack := .int n :: rest }) target) : Steps p.tables e below (T.setTop g) target := by
  obtain ⟨cl, A, r⟩ := F
  refine X.arraylength hx (by rw [eT]; exact A.1) (State.isArrayOf_alike hZ.alike A.2.1) hg hs hd target ?_
  have q : cl.slots.size.toInt32 = n := by rw [r, ← hn]; simp
  rw [q]; exact hr
theorem saJ (X : Stand p l e R s m args below meth c T locs cells slots) (hx : p.tables.exec = Jvm.exec) (hZ : Z.Warmed39 s.vm) (eT : T.heap = h) (F : VArr Z h a .long vs) {j : Int32} {x : Int64} {i : Nat} (hj : ¬ j < 0) (hji : j.toNatClampNeg = i) (hi : i < vs.length)
    {g : JFrame} (hg : g.method = m) {rest : List Value} (hs : g.stack = .long x :: .int j :: .ref a :: rest) (hd : decode c.code g.pc = .ok (.lastore, 1)) :
    ∃ T' h', Stand p l e R s m args below meth c T' (locs ++ [⟨a, j.toNatClampNeg⟩]) cells slots ∧ T'.heap = h' ∧ Wr h h' a j.toNatClampNeg (.long x) ∧ VArr Z h' a .long (vs.set i (.long x)) ∧ ∀ target, Steps p.tables e below (T'.setTop { g with pc := g.pc + 1, stack := rest }) target → Steps p.tables e below (T.setTop g) target := by
  subst hji
  obtain ⟨cl, A, r⟩ := F
  obtain ⟨T', h', X', e', W, st⟩ := stJ X hx hZ eT A (x := x) (VArr.inb r hj hi) hg hs hd
  exact ⟨T', h', X', e', W, VArr.wr ⟨cl, A, r⟩ W, st⟩
theorem saC (X : Stand p l e R s m args below meth c T locs cells slots) (hx : p.tables.exec = Jvm.exec) (hZ : Z.Warmed39 s.vm) (eT : T.heap = h) (F : VArr Z h a .char vs) {j : Int32} {x : Int32} {i : Nat} (hj : ¬ j < 0) (hji : j.toNatClampNeg = i) (hi : i < vs.length)
    {g : JFrame} (hg : g.method = m) {rest : List Value} (hs : g.stack = .int x :: .int j :: .ref a :: rest) (hd : decode c.code g.pc = .ok (.castore, 1)) :
    ∃ T' h', Stand p l e R s m args below meth c T' (locs ++ [⟨a, j.toNatClampNeg⟩]) cells slots ∧ T'.heap = h' ∧ Wr h h' a j.toNatClampNeg (.int (nar .char x)) ∧ VArr Z h' a .char (vs.set i (.int (nar .char x))) ∧ ∀ target, Steps p.tables e below (T'.setTop { g with pc := g.pc + 1, stack := rest }) target → Steps p.tables e below (T.setTop g) target := by
  subst hji
  obtain ⟨cl, A, r⟩ := F
  obtain ⟨T', h', X', e', W, st⟩ := stC X hx hZ eT A (x := x) (VArr.inb r hj hi) hg hs hd
  exact ⟨T', h', X', e', W, VArr.wr ⟨cl, A, r⟩ W, st⟩
theorem saB (X : Stand p l e R s m args below meth c T locs cells slots) (hx : p.tables.exec = Jvm.exec) (hZ : Z.Warmed39 s.vm) (eT : T.heap = h) (F : VArr Z h a .byte vs) {j : Int32} {x : Int32} {i : Nat} (hj : ¬ j < 0) (hji : j.toNatClampNeg = i) (hi : i < vs.length)
    {g : JFrame} (hg : g.method = m) {rest : List Value} (hs : g.stack = .int x :: .int j :: .ref a :: rest) (hd : decode c.code g.pc = .ok (.bastore, 1)) :
    ∃ T' h', Stand p l e R s m args below meth c T' (locs ++ [⟨a, j.toNatClampNeg⟩]) cells slots ∧ T'.heap = h' ∧ Wr h h' a j.toNatClampNeg (.int (nar .byte x)) ∧ VArr Z h' a .byte (vs.set i (.int (nar .byte x))) ∧ ∀ target, Steps p.tables e below (T'.setTop { g with pc := g.pc + 1, stack := rest }) target → Steps p.tables e below (T.setTop g) target := by
  subst hji
  obtain ⟨cl, A, r⟩ := F
  obtain ⟨T', h', X', e', W, st⟩ := stB X hx hZ eT A (x := x) (VArr.inb r hj hi) hg hs hd
  exact ⟨T', h', X', e', W, VArr.wr ⟨cl, A, r⟩ W, st⟩
end OwnGo
end Jvm.RoadKit
namespace Jvm.Pilot.@@N@@
open Jvm Jvm.ClassFile Sem Op Lib Jvm.Free Jvm.Stand Jvm.LawKit Jvm.RoadKit Bundle Jvm.Pilot.@@N@@.Jvm.D
theorem d2_0 : decode jdk_30_method_1_code 0 = .ok (.aload_n 0, 1) := by decide +kernel
theorem d2_1 : decode jdk_30_method_1_code 1 = .ok (.invokespecial 1, 3) := by decide +kernel
theorem d2_4 : decode jdk_30_method_1_code 4 = .ok (.return_, 1) := by decide +kernel
theorem pn_0 : plainName "java/lang/Record" = true := by first | (simp [plainName, overriddenIn]; done) | decide +kernel
theorem ef_2 (m : MethodId) (x0 : Addr) : entryFrame m #[(.ref x0)] 1 = mkF m 0 #[.val (.ref x0)] [] := by first | (simp [entryFrame, mkF, argsToLocals, Value.category]; done) | rfl
def Q2 (Z : State) (x0 : Addr)  (h0 : Heap) (n0 : Nat) (v : Option Value) (h : Heap) (L : List Loc) : Prop := v = none ∧ Fr n0 L ∧ h = h0
set_option maxRecDepth 65536 in
set_option maxHeartbeats 40000000 in
theorem rm2 (l : Launch) (Z : State) (a0 : Array Value) (hw : ∀ d ∈ tables_1, d.before a0 Z = true) (ws : List Jvm.Cond) (x0 : Addr)  (h0 : Heap) (n0 : Nat) (Z0 : n0 ≤ h0.size)  :
    MetFree l (⟨"java/lang/Record", "<init>", "()V"⟩ : MethodName) (head1 (Jvm.Cond.code (⟨"java/lang/Record", "<init>", "()V"⟩ : MethodName) jdk_30_method_1_code 1 none :: ws) ({ frames := 1, cells := 0, slots := 0, locals := 12 } : Room)) (fun a U => a = #[(.ref x0)] ∧ Z.Warmed39 U.vm ∧ U.heap = h0) (fun _ _ _ _ _ => True) (fun _ U o U' => ∃ v L, o = .returned v ∧ Q2 Z x0 h0 n0 v U'.heap L ∧ FrameEnd U o U' L ({ frames := 1, cells := 0, slots := 0, locals := 12 } : Room).cells ({ frames := 1, cells := 0, slots := 0, locals := 12 } : Room).slots) := by
  refine MetFree.of_bodySF (plainFor_of_name pn_0) hisR ?_
  intro p e s m args below meth c s₁ Bd hml0 hP hK
  obtain ⟨rfl, hZ, hh⟩ := hP
  have hx := Bd.exec
  have hby := Bd.bytes
  have hml : c.maxLocals = 1 := hml0
  have hown : s.vm.findClass "java/lang/Record" = some m.cls := findClass_of_methodNamed Bd.named
  have hnm := (name_of_methodNamed Bd.named Bd.method).1
  have hk : meth.locks = false := BodyLoose.notSynchronized Bd
  have X0 : Stand p l e ({ frames := 1, cells := 0, slots := 0, locals := 12 } : Room) s m #[(.ref x0)] below meth c s₁ [] 0 0 := Stand.of_body Bd
  have e0 : s₁.heap = h0 := by rw [← hh, Bd.state]; rfl
  have N0 := Fr.nil n0
  show Go p e below s (Q2 Z x0 h0 n0) ({ frames := 1, cells := 0, slots := 0, locals := 12 } : Room).cells ({ frames := 1, cells := 0, slots := 0, locals := 12 } : Room).slots s₁ (entryFrame m #[(.ref x0)] 1)
  refine Go.cast (ef_2 m x0) ?_
  refine Go.of (T' := s₁) (f' := (mkF m 1 #[.val (.ref x0)] [(.ref x0)])) (fun t k => XS.aloadN X0.here hx rfl (hb hby d2_0) rfl rfl k) ?_
  obtain ⟨T1, X1, e1, st1⟩ := initO X0 hx hZ hown (hw _ (List.mem_of_getElem? (i := 11) rfl)) (hw _ (List.mem_of_getElem? (i := 12) rfl)) (hw _ (List.mem_of_getElem? (i := 13) rfl)) e0 (g := (mkF m 1 #[.val (.ref x0)] [(.ref x0)])) rfl (by rw [hml]; rfl) rfl (hb hby d2_1) (by decide) (W := 0) (by show 2 * 0 + _ ≤ _; exact Nat.le_of_eq rfl) (by decide)
  refine Go.of (T' := T1) (f' := (mkF m 4 #[.val (.ref x0)] [])) (fun t k => st1 t k) ?_
  refine Go.retV X1 hx hk Bd.returns (hb hby d2_4) (by decide) (by decide) ?_
  rw [e1]
  exact ⟨rfl, N0, rfl⟩
theorem pd_0 : parseMethodDescriptor "()V" = some ⟨[], none⟩ := by decide +kernel
theorem d1_0 : decode prog_19_method_1_code 0 = .ok (.aload_n 0, 1) := by decide +kernel
theorem d1_1 : decode prog_19_method_1_code 1 = .ok (.invokespecial 1, 3) := by decide +kernel
theorem d1_4 : decode prog_19_method_1_code 4 = .ok (.aload_n 0, 1) := by decide +kernel
theorem d1_5 : decode prog_19_method_1_code 5 = .ok (.iload_n 1, 1) := by decide +kernel
theorem d1_6 : decode prog_19_method_1_code 6 = .ok (.putfield 7, 3) := by decide +kernel
theorem d1_9 : decode prog_19_method_1_code 9 = .ok (.aload_n 0, 1) := by decide +kernel
theorem d1_10 : decode prog_19_method_1_code 10 = .ok (.iload_n 2, 1) := by decide +kernel
theorem d1_11 : decode prog_19_method_1_code 11 = .ok (.putfield 13, 3) := by decide +kernel
theorem d1_14 : decode prog_19_method_1_code 14 = .ok (.aload_n 0, 1) := by decide +kernel
theorem d1_15 : decode prog_19_method_1_code 15 = .ok (.iload_n 3, 1) := by decide +kernel
theorem d1_16 : decode prog_19_method_1_code 16 = .ok (.putfield 16, 3) := by decide +kernel
theorem d1_19 : decode prog_19_method_1_code 19 = .ok (.aload_n 0, 1) := by decide +kernel
theorem d1_20 : decode prog_19_method_1_code 20 = .ok (.iload 4, 2) := by decide +kernel
theorem d1_22 : decode prog_19_method_1_code 22 = .ok (.putfield 19, 3) := by decide +kernel
theorem d1_25 : decode prog_19_method_1_code 25 = .ok (.aload_n 0, 1) := by decide +kernel
theorem d1_26 : decode prog_19_method_1_code 26 = .ok (.iload 5, 2) := by decide +kernel
theorem d1_28 : decode prog_19_method_1_code 28 = .ok (.putfield 22, 3) := by decide +kernel
theorem d1_31 : decode prog_19_method_1_code 31 = .ok (.return_, 1) := by decide +kernel
theorem pn_1 : plainName "com/example/tideglass/tideglass/history/Classification" = true := by first | (simp [plainName, overriddenIn]; done) | decide +kernel
theorem ef_1 (m : MethodId) (x0 : Addr) (x1 : Int32) (x2 : Int32) (x3 : Int32) (x4 : Int32) (x5 : Int32) : entryFrame m #[(.ref x0), (.int x1), (.int x2), (.int x3), (.int x4), (.int x5)] 6 = mkF m 0 #[.val (.ref x0), .val (.int x1), .val (.int x2), .val (.int x3), .val (.int x4), .val (.int x5)] [] := by first | (simp [entryFrame, mkF, argsToLocals, Value.category]; done) | rfl
def Q1 (Z : State) (x0 : Addr) (x1 : Int32) (x2 : Int32) (x3 : Int32) (x4 : Int32) (x5 : Int32) (u_aca : Value) (u_cons : Value) (u_scons : Value) (u_mon : Value) (u_wcf : Value) (h0 : Heap) (n0 : Nat) (v : Option Value) (h : Heap) (L : List Loc) : Prop := v = none ∧ Fr n0 L ∧ Keep h0 h [x0] ∧ Fld Z h x0 "com/example/tideglass/tideglass/history/Classification" "aca" "Z" (.int (nar .boolean x1)) ∧ Fld Z h x0 "com/example/tideglass/tideglass/history/Classification" "cons" "Z" (.int (nar .boolean x2)) ∧ Fld Z h x0 "com/example/tideglass/tideglass/history/Classification" "scons" "Z" (.int (nar .boolean x3)) ∧ Fld Z h x0 "com/example/tideglass/tideglass/history/Classification" "mon" "Z" (.int (nar .boolean x4)) ∧ Fld Z h x0 "com/example/tideglass/tideglass/history/Classification" "wcf" "Z" (.int (nar .boolean x5))
set_option maxRecDepth 65536 in
set_option maxHeartbeats 40000000 in
theorem rm1 (l : Launch) (Z : State) (a0 : Array Value) (hw : ∀ d ∈ tables_1, d.before a0 Z = true) (ws : List Jvm.Cond) (x0 : Addr) (x1 : Int32) (x2 : Int32) (x3 : Int32) (x4 : Int32) (x5 : Int32) (u_aca : Value) (u_cons : Value) (u_scons : Value) (u_mon : Value) (u_wcf : Value) (h0 : Heap) (n0 : Nat) (Z0 : n0 ≤ h0.size) (E_a : Exa Z h0 x0 "com/example/tideglass/tideglass/history/Classification") (g_a : n0 ≤ x0) (F_aca : Fld Z h0 x0 "com/example/tideglass/tideglass/history/Classification" "aca" "Z" u_aca) (F_cons : Fld Z h0 x0 "com/example/tideglass/tideglass/history/Classification" "cons" "Z" u_cons) (F_scons : Fld Z h0 x0 "com/example/tideglass/tideglass/history/Classification" "scons" "Z" u_scons) (F_mon : Fld Z h0 x0 "com/example/tideglass/tideglass/history/Classification" "mon" "Z" u_mon) (F_wcf : Fld Z h0 x0 "com/example/tideglass/tideglass/history/Classification" "wcf" "Z" u_wcf) :
    MetFree l (⟨"com/example/tideglass/tideglass/history/Classification", "<init>", "(ZZZZZ)V"⟩ : MethodName) (head1 (Jvm.Cond.code (⟨"com/example/tideglass/tideglass/history/Classification", "<init>", "(ZZZZZ)V"⟩ : MethodName) prog_19_method_1_code 6 none :: ws) ({ frames := 2, cells := 0, slots := 0, locals := 24 } : Room)) (fun a U => a = #[(.ref x0), (.int x1), (.int x2), (.int x3), (.int x4), (.int x5)] ∧ Z.Warmed39 U.vm ∧ U.heap = h0) (fun _ _ _ _ _ => True) (fun _ U o U' => ∃ v L, o = .returned v ∧ Q1 Z x0 x1 x2 x3 x4 x5 u_aca u_cons u_scons u_mon u_wcf h0 n0 v U'.heap L ∧ FrameEnd U o U' L ({ frames := 2, cells := 0, slots := 0, locals := 24 } : Room).cells ({ frames := 2, cells := 0, slots := 0, locals := 24 } : Room).slots) := by
  refine MetFree.of_bodySF (plainFor_of_name pn_1) hisR ?_
  intro p e s m args below meth c s₁ Bd hml0 hP hK
  obtain ⟨rfl, hZ, hh⟩ := hP
  have hx := Bd.exec
  have hby := Bd.bytes
  have hml : c.maxLocals = 6 := hml0
  have hown : s.vm.findClass "com/example/tideglass/tideglass/history/Classification" = some m.cls := findClass_of_methodNamed Bd.named
  have hnm := (name_of_methodNamed Bd.named Bd.method).1
  have hk : meth.locks = false := BodyLoose.notSynchronized Bd
  have X0 : Stand p l e ({ frames := 2, cells := 0, slots := 0, locals := 24 } : Room) s m #[(.ref x0), (.int x1), (.int x2), (.int x3), (.int x4), (.int x5)] below meth c s₁ [] 0 0 := Stand.of_body Bd
  have e0 : s₁.heap = h0 := by rw [← hh, Bd.state]; rfl
  have N0 := Fr.nil n0
  show Go p e below s (Q1 Z x0 x1 x2 x3 x4 x5 u_aca u_cons u_scons u_mon u_wcf h0 n0) ({ frames := 2, cells := 0, slots := 0, locals := 24 } : Room).cells ({ frames := 2, cells := 0, slots := 0, locals := 24 } : Room).slots s₁ (entryFrame m #[(.ref x0), (.int x1), (.int x2), (.int x3), (.int x4), (.int x5)] 6)
  refine Go.cast (ef_1 m x0 x1 x2 x3 x4 x5) ?_
  refine Go.of (T' := s₁) (f' := (mkF m 1 #[.val (.ref x0), .val (.int x1), .val (.int x2), .val (.int x3), .val (.int x4), .val (.int x5)] [(.ref x0)])) (fun t k => XS.aloadN X0.here hx rfl (hb hby d1_0) rfl rfl k) ?_
  obtain ⟨_, _, ⟨T1, L1, k1, n1⟩, -, X1, ⟨Lc1, hQ1, l1, y1, z1⟩, st1⟩ := X0.specialBack hx (y := (⟨"java/lang/Record", "<init>", "()V"⟩ : MethodName)) rfl hown (mvT hZ (hw _ (List.mem_of_getElem? (i := 6) rfl))) (mvT hZ (hw _ (List.mem_of_getElem? (i := 7) rfl))) (mvT hZ (hw _ (List.mem_of_getElem? (i := 10) rfl))) (by decide) (backOf (W := 0) (rm2 l Z a0 hw [] x0 h0 n0 Z0 ) hZ (hw _ (List.mem_of_getElem? (i := 10) rfl)) (hw _ (List.mem_of_getElem? (i := 9) rfl)) (by decide) (by decide)) (g := (mkF m 1 #[.val (.ref x0), .val (.int x1), .val (.int x2), .val (.int x3), .val (.int x4), .val (.int x5)] [(.ref x0)])) rfl (by rw [hml]; rfl) (Steps.refl _) (a := x0) (argsL := []) (rest := []) (lenOf pd_0 rfl) rfl (by show 2 * 0 + _ ≤ _; exact Nat.le_of_eq rfl) (hb hby d1_1) (fun _ _ => ⟨rfl, e0, (by decide : 0 + 0 ≤ _), (by decide : 0 + 0 ≤ _)⟩)
  dsimp only [Pt.U, Pt.locs, Pt.cells, Pt.slots] at X1 l1 y1 z1 st1 hQ1
  subst l1 y1 z1
  obtain ⟨rfl, N1q, e1⟩ := hQ1
  have N1 := Fr.app N0 N1q
  refine Go.tr (T' := T1) (f' := (mkF m 4 #[.val (.ref x0), .val (.int x1), .val (.int x2), .val (.int x3), .val (.int x4), .val (.int x5)] [])) st1 ?_
  refine Go.of (T' := T1) (f' := (mkF m 5 #[.val (.ref x0), .val (.int x1), .val (.int x2), .val (.int x3), .val (.int x4), .val (.int x5)] [(.ref x0)])) (fun t k => XS.aloadN X1.here hx rfl (hb hby d1_4) rfl rfl k) ?_
  refine Go.of (T' := T1) (f' := (mkF m 6 #[.val (.ref x0), .val (.int x1), .val (.int x2), .val (.int x3), .val (.int x4), .val (.int x5)] [(.int x1), (.ref x0)])) (fun t k => XS.iloadN X1.here hx rfl (hb hby d1_5) rfl k) ?_
  obtain ⟨T2, h2, X2, e2, W2, st2⟩ := putFN X1 hx hZ hown (hw _ (List.mem_of_getElem? (i := 14) rfl)) Via.refl e1 F_aca E_a (Or.inr ⟨(hw _ (List.mem_of_getElem? (i := 15) rfl)), rfl, hnm⟩) (hw _ (List.mem_of_getElem? (i := 1) rfl)) (ty := .boolean) (v' := .int (nar .boolean x1)) (by decide) rfl (fits_nar_bool _) (g := (mkF m 6 #[.val (.ref x0), .val (.int x1), .val (.int x2), .val (.int x3), .val (.int x4), .val (.int x5)] [(.int x1), (.ref x0)])) rfl rfl (hb hby d1_6)
  have Fw2 : Fld Z h2 x0 "com/example/tideglass/tideglass/history/Classification" "aca" "Z" (.int (nar .boolean x1)) := F_aca.same W2
  have F2_x0_cons : Fld Z h2 x0 "com/example/tideglass/tideglass/history/Classification" "cons" "Z" u_cons := F_cons.other W2 (Or.inr (slot_ne (Or.inr (hw _ (List.mem_of_getElem? (i := 17) rfl))) (Or.inr (hw _ (List.mem_of_getElem? (i := 15) rfl))) (by decide) (t := .boolean) (t' := .boolean) (by decide) (by decide)))
  have F2_x0_scons : Fld Z h2 x0 "com/example/tideglass/tideglass/history/Classification" "scons" "Z" u_scons := F_scons.other W2 (Or.inr (slot_ne (Or.inr (hw _ (List.mem_of_getElem? (i := 19) rfl))) (Or.inr (hw _ (List.mem_of_getElem? (i := 15) rfl))) (by decide) (t := .boolean) (t' := .boolean) (by decide) (by decide)))
  have F2_x0_mon : Fld Z h2 x0 "com/example/tideglass/tideglass/history/Classification" "mon" "Z" u_mon := F_mon.other W2 (Or.inr (slot_ne (Or.inr (hw _ (List.mem_of_getElem? (i := 21) rfl))) (Or.inr (hw _ (List.mem_of_getElem? (i := 15) rfl))) (by decide) (t := .boolean) (t' := .boolean) (by decide) (by decide)))
  have F2_x0_wcf : Fld Z h2 x0 "com/example/tideglass/tideglass/history/Classification" "wcf" "Z" u_wcf := F_wcf.other W2 (Or.inr (slot_ne (Or.inr (hw _ (List.mem_of_getElem? (i := 23) rfl))) (Or.inr (hw _ (List.mem_of_getElem? (i := 15) rfl))) (by decide) (t := .boolean) (t' := .boolean) (by decide) (by decide)))
  have Ex2_x0 : Exa Z h2 x0 "com/example/tideglass/tideglass/history/Classification" := E_a.wr W2
  have N2 := Fr.snoc X2 N1 g_a
  have KK2 : Keep h0 h2 [x0] := (Keep.refl h0 [x0]).wr W2 (Or.inl (List.mem_of_getElem? (i := 0) rfl))
  have ZS2 : n0 ≤ h2.size := Nat.le_trans Z0 (Keep.of_wr W2).1
  refine Go.of (T' := T2) (f' := (mkF m 9 #[.val (.ref x0), .val (.int x1), .val (.int x2), .val (.int x3), .val (.int x4), .val (.int x5)] [])) (fun t k => st2 t k) ?_
  refine Go.of (T' := T2) (f' := (mkF m 10 #[.val (.ref x0), .val (.int x1), .val (.int x2), .val (.int x3), .val (.int x4), .val (.int x5)] [(.ref x0)])) (fun t k => XS.aloadN X2.here hx rfl (hb hby d1_9) rfl rfl k) ?_
  refine Go.of (T' := T2) (f' := (mkF m 11 #[.val (.ref x0), .val (.int x1), .val (.int x2), .val (.int x3), .val (.int x4), .val (.int x5)] [(.int x2), (.ref x0)])) (fun t k => XS.iloadN X2.here hx rfl (hb hby d1_10) rfl k) ?_
  obtain ⟨T3, h3, X3, e3, W3, st3⟩ := putFN X2 hx hZ hown (hw _ (List.mem_of_getElem? (i := 16) rfl)) Via.refl e2 F2_x0_cons Ex2_x0 (Or.inr ⟨(hw _ (List.mem_of_getElem? (i := 17) rfl)), rfl, hnm⟩) (hw _ (List.mem_of_getElem? (i := 1) rfl)) (ty := .boolean) (v' := .int (nar .boolean x2)) (by decide) rfl (fits_nar_bool _) (g := (mkF m 11 #[.val (.ref x0), .val (.int x1), .val (.int x2), .val (.int x3), .val (.int x4), .val (.int x5)] [(.int x2), (.ref x0)])) rfl rfl (hb hby d1_11)
  have Fw3 : Fld Z h3 x0 "com/example/tideglass/tideglass/history/Classification" "cons" "Z" (.int (nar .boolean x2)) := F2_x0_cons.same W3
  have F3_x0_aca : Fld Z h3 x0 "com/example/tideglass/tideglass/history/Classification" "aca" "Z" (.int (nar .boolean x1)) := Fw2.other W3 (Or.inr (slot_ne (Or.inr (hw _ (List.mem_of_getElem? (i := 15) rfl))) (Or.inr (hw _ (List.mem_of_getElem? (i := 17) rfl))) (by decide) (t := .boolean) (t' := .boolean) (by decide) (by decide)))
  have F3_x0_scons : Fld Z h3 x0 "com/example/tideglass/tideglass/history/Classification" "scons" "Z" u_scons := F2_x0_scons.other W3 (Or.inr (slot_ne (Or.inr (hw _ (List.mem_of_getElem? (i := 19) rfl))) (Or.inr (hw _ (List.mem_of_getElem? (i := 17) rfl))) (by decide) (t := .boolean) (t' := .boolean) (by decide) (by decide)))
  have F3_x0_mon : Fld Z h3 x0 "com/example/tideglass/tideglass/history/Classification" "mon" "Z" u_mon := F2_x0_mon.other W3 (Or.inr (slot_ne (Or.inr (hw _ (List.mem_of_getElem? (i := 21) rfl))) (Or.inr (hw _ (List.mem_of_getElem? (i := 17) rfl))) (by decide) (t := .boolean) (t' := .boolean) (by decide) (by decide)))
  have F3_x0_wcf : Fld Z h3 x0 "com/example/tideglass/tideglass/history/Classification" "wcf" "Z" u_wcf := F2_x0_wcf.other W3 (Or.inr (slot_ne (Or.inr (hw _ (List.mem_of_getElem? (i := 23) rfl))) (Or.inr (hw _ (List.mem_of_getElem? (i := 17) rfl))) (by decide) (t := .boolean) (t' := .boolean) (by decide) (by decide)))
  have Ex3_x0 : Exa Z h3 x0 "com/example/tideglass/tideglass/history/Classification" := Ex2_x0.wr W3
  have N3 := Fr.snoc X3 N2 g_a
  have KK3 : Keep h0 h3 [x0] := KK2.wr W3 (Or.inl (List.mem_of_getElem? (i := 0) rfl))
  have ZS3 : n0 ≤ h3.size := Nat.le_trans ZS2 (Keep.of_wr W3).1
  refine Go.of (T' := T3) (f' := (mkF m 14 #[.val (.ref x0), .val (.int x1), .val (.int x2), .val (.int x3), .val (.int x4), .val (.int x5)] [])) (fun t k => st3 t k) ?_
  refine Go.of (T' := T3) (f' := (mkF m 15 #[.val (.ref x0), .val (.int x1), .val (.int x2), .val (.int x3), .val (.int x4), .val (.int x5)] [(.ref x0)])) (fun t k => XS.aloadN X3.here hx rfl (hb hby d1_14) rfl rfl k) ?_
  refine Go.of (T' := T3) (f' := (mkF m 16 #[.val (.ref x0), .val (.int x1), .val (.int x2), .val (.int x3), .val (.int x4), .val (.int x5)] [(.int x3), (.ref x0)])) (fun t k => XS.iloadN X3.here hx rfl (hb hby d1_15) rfl k) ?_
  obtain ⟨T4, h4, X4, e4, W4, st4⟩ := putFN X3 hx hZ hown (hw _ (List.mem_of_getElem? (i := 18) rfl)) Via.refl e3 F3_x0_scons Ex3_x0 (Or.inr ⟨(hw _ (List.mem_of_getElem? (i := 19) rfl)), rfl, hnm⟩) (hw _ (List.mem_of_getElem? (i := 1) rfl)) (ty := .boolean) (v' := .int (nar .boolean x3)) (by decide) rfl (fits_nar_bool _) (g := (mkF m 16 #[.val (.ref x0), .val (.int x1), .val (.int x2), .val (.int x3), .val (.int x4), .val (.int x5)] [(.int x3), (.ref x0)])) rfl rfl (hb hby d1_16)
  have Fw4 : Fld Z h4 x0 "com/example/tideglass/tideglass/history/Classification" "scons" "Z" (.int (nar .boolean x3)) := F3_x0_scons.same W4
  have F4_x0_aca : Fld Z h4 x0 "com/example/tideglass/tideglass/history/Classification" "aca" "Z" (.int (nar .boolean x1)) := F3_x0_aca.other W4 (Or.inr (slot_ne (Or.inr (hw _ (List.mem_of_getElem? (i := 15) rfl))) (Or.inr (hw _ (List.mem_of_getElem? (i := 19) rfl))) (by decide) (t := .boolean) (t' := .boolean) (by decide) (by decide)))
  have F4_x0_cons : Fld Z h4 x0 "com/example/tideglass/tideglass/history/Classification" "cons" "Z" (.int (nar .boolean x2)) := Fw3.other W4 (Or.inr (slot_ne (Or.inr (hw _ (List.mem_of_getElem? (i := 17) rfl))) (Or.inr (hw _ (List.mem_of_getElem? (i := 19) rfl))) (by decide) (t := .boolean) (t' := .boolean) (by decide) (by decide)))
  have F4_x0_mon : Fld Z h4 x0 "com/example/tideglass/tideglass/history/Classification" "mon" "Z" u_mon := F3_x0_mon.other W4 (Or.inr (slot_ne (Or.inr (hw _ (List.mem_of_getElem? (i := 21) rfl))) (Or.inr (hw _ (List.mem_of_getElem? (i := 19) rfl))) (by decide) (t := .boolean) (t' := .boolean) (by decide) (by decide)))
  have F4_x0_wcf : Fld Z h4 x0 "com/example/tideglass/tideglass/history/Classification" "wcf" "Z" u_wcf := F3_x0_wcf.other W4 (Or.inr (slot_ne (Or.inr (hw _ (List.mem_of_getElem? (i := 23) rfl))) (Or.inr (hw _ (List.mem_of_getElem? (i := 19) rfl))) (by decide) (t := .boolean) (t' := .boolean) (by decide) (by decide)))
  have Ex4_x0 : Exa Z h4 x0 "com/example/tideglass/tideglass/history/Classification" := Ex3_x0.wr W4
  have N4 := Fr.snoc X4 N3 g_a
  have KK4 : Keep h0 h4 [x0] := KK3.wr W4 (Or.inl (List.mem_of_getElem? (i := 0) rfl))
  have ZS4 : n0 ≤ h4.size := Nat.le_trans ZS3 (Keep.of_wr W4).1
  refine Go.of (T' := T4) (f' := (mkF m 19 #[.val (.ref x0), .val (.int x1), .val (.int x2), .val (.int x3), .val (.int x4), .val (.int x5)] [])) (fun t k => st4 t k) ?_
  refine Go.of (T' := T4) (f' := (mkF m 20 #[.val (.ref x0), .val (.int x1), .val (.int x2), .val (.int x3), .val (.int x4), .val (.int x5)] [(.ref x0)])) (fun t k => XS.aloadN X4.here hx rfl (hb hby d1_19) rfl rfl k) ?_
  refine Go.of (T' := T4) (f' := (mkF m 22 #[.val (.ref x0), .val (.int x1), .val (.int x2), .val (.int x3), .val (.int x4), .val (.int x5)] [(.int x4), (.ref x0)])) (fun t k => XS.iload X4.here hx rfl (hb hby d1_20) rfl k) ?_
  obtain ⟨T5, h5, X5, e5, W5, st5⟩ := putFN X4 hx hZ hown (hw _ (List.mem_of_getElem? (i := 20) rfl)) Via.refl e4 F4_x0_mon Ex4_x0 (Or.inr ⟨(hw _ (List.mem_of_getElem? (i := 21) rfl)), rfl, hnm⟩) (hw _ (List.mem_of_getElem? (i := 1) rfl)) (ty := .boolean) (v' := .int (nar .boolean x4)) (by decide) rfl (fits_nar_bool _) (g := (mkF m 22 #[.val (.ref x0), .val (.int x1), .val (.int x2), .val (.int x3), .val (.int x4), .val (.int x5)] [(.int x4), (.ref x0)])) rfl rfl (hb hby d1_22)
  have Fw5 : Fld Z h5 x0 "com/example/tideglass/tideglass/history/Classification" "mon" "Z" (.int (nar .boolean x4)) := F4_x0_mon.same W5
  have F5_x0_aca : Fld Z h5 x0 "com/example/tideglass/tideglass/history/Classification" "aca" "Z" (.int (nar .boolean x1)) := F4_x0_aca.other W5 (Or.inr (slot_ne (Or.inr (hw _ (List.mem_of_getElem? (i := 15) rfl))) (Or.inr (hw _ (List.mem_of_getElem? (i := 21) rfl))) (by decide) (t := .boolean) (t' := .boolean) (by decide) (by decide)))
  have F5_x0_cons : Fld Z h5 x0 "com/example/tideglass/tideglass/history/Classification" "cons" "Z" (.int (nar .boolean x2)) := F4_x0_cons.other W5 (Or.inr (slot_ne (Or.inr (hw _ (List.mem_of_getElem? (i := 17) rfl))) (Or.inr (hw _ (List.mem_of_getElem? (i := 21) rfl))) (by decide) (t := .boolean) (t' := .boolean) (by decide) (by decide)))
  have F5_x0_scons : Fld Z h5 x0 "com/example/tideglass/tideglass/history/Classification" "scons" "Z" (.int (nar .boolean x3)) := Fw4.other W5 (Or.inr (slot_ne (Or.inr (hw _ (List.mem_of_getElem? (i := 19) rfl))) (Or.inr (hw _ (List.mem_of_getElem? (i := 21) rfl))) (by decide) (t := .boolean) (t' := .boolean) (by decide) (by decide)))
  have F5_x0_wcf : Fld Z h5 x0 "com/example/tideglass/tideglass/history/Classification" "wcf" "Z" u_wcf := F4_x0_wcf.other W5 (Or.inr (slot_ne (Or.inr (hw _ (List.mem_of_getElem? (i := 23) rfl))) (Or.inr (hw _ (List.mem_of_getElem? (i := 21) rfl))) (by decide) (t := .boolean) (t' := .boolean) (by decide) (by decide)))
  have Ex5_x0 : Exa Z h5 x0 "com/example/tideglass/tideglass/history/Classification" := Ex4_x0.wr W5
  have N5 := Fr.snoc X5 N4 g_a
  have KK5 : Keep h0 h5 [x0] := KK4.wr W5 (Or.inl (List.mem_of_getElem? (i := 0) rfl))
  have ZS5 : n0 ≤ h5.size := Nat.le_trans ZS4 (Keep.of_wr W5).1
  refine Go.of (T' := T5) (f' := (mkF m 25 #[.val (.ref x0), .val (.int x1), .val (.int x2), .val (.int x3), .val (.int x4), .val (.int x5)] [])) (fun t k => st5 t k) ?_
  refine Go.of (T' := T5) (f' := (mkF m 26 #[.val (.ref x0), .val (.int x1), .val (.int x2), .val (.int x3), .val (.int x4), .val (.int x5)] [(.ref x0)])) (fun t k => XS.aloadN X5.here hx rfl (hb hby d1_25) rfl rfl k) ?_
  refine Go.of (T' := T5) (f' := (mkF m 28 #[.val (.ref x0), .val (.int x1), .val (.int x2), .val (.int x3), .val (.int x4), .val (.int x5)] [(.int x5), (.ref x0)])) (fun t k => XS.iload X5.here hx rfl (hb hby d1_26) rfl k) ?_
  obtain ⟨T6, h6, X6, e6, W6, st6⟩ := putFN X5 hx hZ hown (hw _ (List.mem_of_getElem? (i := 22) rfl)) Via.refl e5 F5_x0_wcf Ex5_x0 (Or.inr ⟨(hw _ (List.mem_of_getElem? (i := 23) rfl)), rfl, hnm⟩) (hw _ (List.mem_of_getElem? (i := 1) rfl)) (ty := .boolean) (v' := .int (nar .boolean x5)) (by decide) rfl (fits_nar_bool _) (g := (mkF m 28 #[.val (.ref x0), .val (.int x1), .val (.int x2), .val (.int x3), .val (.int x4), .val (.int x5)] [(.int x5), (.ref x0)])) rfl rfl (hb hby d1_28)
  have Fw6 : Fld Z h6 x0 "com/example/tideglass/tideglass/history/Classification" "wcf" "Z" (.int (nar .boolean x5)) := F5_x0_wcf.same W6
  have F6_x0_aca : Fld Z h6 x0 "com/example/tideglass/tideglass/history/Classification" "aca" "Z" (.int (nar .boolean x1)) := F5_x0_aca.other W6 (Or.inr (slot_ne (Or.inr (hw _ (List.mem_of_getElem? (i := 15) rfl))) (Or.inr (hw _ (List.mem_of_getElem? (i := 23) rfl))) (by decide) (t := .boolean) (t' := .boolean) (by decide) (by decide)))
  have F6_x0_cons : Fld Z h6 x0 "com/example/tideglass/tideglass/history/Classification" "cons" "Z" (.int (nar .boolean x2)) := F5_x0_cons.other W6 (Or.inr (slot_ne (Or.inr (hw _ (List.mem_of_getElem? (i := 17) rfl))) (Or.inr (hw _ (List.mem_of_getElem? (i := 23) rfl))) (by decide) (t := .boolean) (t' := .boolean) (by decide) (by decide)))
  have F6_x0_scons : Fld Z h6 x0 "com/example/tideglass/tideglass/history/Classification" "scons" "Z" (.int (nar .boolean x3)) := F5_x0_scons.other W6 (Or.inr (slot_ne (Or.inr (hw _ (List.mem_of_getElem? (i := 19) rfl))) (Or.inr (hw _ (List.mem_of_getElem? (i := 23) rfl))) (by decide) (t := .boolean) (t' := .boolean) (by decide) (by decide)))
  have F6_x0_mon : Fld Z h6 x0 "com/example/tideglass/tideglass/history/Classification" "mon" "Z" (.int (nar .boolean x4)) := Fw5.other W6 (Or.inr (slot_ne (Or.inr (hw _ (List.mem_of_getElem? (i := 21) rfl))) (Or.inr (hw _ (List.mem_of_getElem? (i := 23) rfl))) (by decide) (t := .boolean) (t' := .boolean) (by decide) (by decide)))
  have Ex6_x0 : Exa Z h6 x0 "com/example/tideglass/tideglass/history/Classification" := Ex5_x0.wr W6
  have N6 := Fr.snoc X6 N5 g_a
  have KK6 : Keep h0 h6 [x0] := KK5.wr W6 (Or.inl (List.mem_of_getElem? (i := 0) rfl))
  have ZS6 : n0 ≤ h6.size := Nat.le_trans ZS5 (Keep.of_wr W6).1
  refine Go.of (T' := T6) (f' := (mkF m 31 #[.val (.ref x0), .val (.int x1), .val (.int x2), .val (.int x3), .val (.int x4), .val (.int x5)] [])) (fun t k => st6 t k) ?_
  refine Go.retV X6 hx hk Bd.returns (hb hby d1_31) (by decide) (by decide) ?_
  rw [e6]
  exact ⟨rfl, N6, KK6, F6_x0_aca, F6_x0_cons, F6_x0_scons, F6_x0_mon, Fw6⟩
def bit (x m : Int32) : Int32 := if x &&& m = 0 then 0 else 1
theorem nar_bit (x m : Int32) : nar .boolean (bit x m) = bit x m := by unfold bit; split <;> decide
def allV (u0 : Int32) (u1 : Int32) (u2 : Int32) : Int32 := if ¬ u0 = 0 ∧ ¬ u1 = 0 ∧ ¬ u2 = 0 then 1 else 0
theorem d4_0 : decode prog_19_method_3_code 0 = .ok (.aload_n 0, 1) := by decide +kernel
theorem d4_1 : decode prog_19_method_3_code 1 = .ok (.getfield 7, 3) := by decide +kernel
theorem d4_4 : decode prog_19_method_3_code 4 = .ok (.ifCond .eq 21, 3) := by decide +kernel
theorem d4_7 : decode prog_19_method_3_code 7 = .ok (.aload_n 0, 1) := by decide +kernel
theorem d4_8 : decode prog_19_method_3_code 8 = .ok (.getfield 13, 3) := by decide +kernel
theorem d4_11 : decode prog_19_method_3_code 11 = .ok (.ifCond .eq 14, 3) := by decide +kernel
theorem d4_14 : decode prog_19_method_3_code 14 = .ok (.aload_n 0, 1) := by decide +kernel
theorem d4_15 : decode prog_19_method_3_code 15 = .ok (.getfield 22, 3) := by decide +kernel
theorem d4_18 : decode prog_19_method_3_code 18 = .ok (.ifCond .eq 7, 3) := by decide +kernel
theorem d4_21 : decode prog_19_method_3_code 21 = .ok (.iconst 1, 1) := by decide +kernel
theorem d4_22 : decode prog_19_method_3_code 22 = .ok (.goto 4, 3) := by decide +kernel
theorem d4_25 : decode prog_19_method_3_code 25 = .ok (.iconst 0, 1) := by decide +kernel
theorem d4_26 : decode prog_19_method_3_code 26 = .ok (.ireturn, 1) := by decide +kernel
theorem ef_4 (m : MethodId) (x0 : Addr) : entryFrame m #[(.ref x0)] 1 = mkF m 0 #[.val (.ref x0)] [] := by first | (simp [entryFrame, mkF, argsToLocals, Value.category]; done) | rfl
def Q4 (Z : State) (x0 : Addr) (u0 : Int32) (u1 : Int32) (u2 : Int32) (h0 : Heap) (n0 : Nat) (v : Option Value) (h : Heap) (L : List Loc) : Prop := v = some (.int (allV u0 u1 u2)) ∧ Fr n0 L ∧ h = h0
set_option maxRecDepth 65536 in
set_option maxHeartbeats 40000000 in
theorem rm4 (l : Launch) (Z : State) (a0 : Array Value) (hw : ∀ d ∈ tables_1, d.before a0 Z = true) (ws : List Jvm.Cond) (x0 : Addr) (u0 : Int32) (u1 : Int32) (u2 : Int32) (h0 : Heap) (n0 : Nat) (Z0 : n0 ≤ h0.size) (F_aca : Fld Z h0 x0 "com/example/tideglass/tideglass/history/Classification" "aca" "Z" (.int u0)) (F_cons : Fld Z h0 x0 "com/example/tideglass/tideglass/history/Classification" "cons" "Z" (.int u1)) (F_wcf : Fld Z h0 x0 "com/example/tideglass/tideglass/history/Classification" "wcf" "Z" (.int u2)) :
    MetFree l (⟨"com/example/tideglass/tideglass/history/Classification", "nmsi", "()Z"⟩ : MethodName) (head1 (Jvm.Cond.code (⟨"com/example/tideglass/tideglass/history/Classification", "nmsi", "()Z"⟩ : MethodName) prog_19_method_3_code 1 (some .boolean) :: ws) ({ frames := 0, cells := 0, slots := 0, locals := 0 } : Room)) (fun a U => a = #[(.ref x0)] ∧ Z.Warmed39 U.vm ∧ U.heap = h0) (fun _ _ _ _ _ => True) (fun _ U o U' => ∃ v L, o = .returned v ∧ Q4 Z x0 u0 u1 u2 h0 n0 v U'.heap L ∧ FrameEnd U o U' L ({ frames := 0, cells := 0, slots := 0, locals := 0 } : Room).cells ({ frames := 0, cells := 0, slots := 0, locals := 0 } : Room).slots) := by
  refine MetFree.of_bodySF (plainFor_of_name pn_1) hisR ?_
  intro p e s m args below meth c s₁ Bd hml0 hP hK
  obtain ⟨rfl, hZ, hh⟩ := hP
  have hx := Bd.exec
  have hby := Bd.bytes
  have hml : c.maxLocals = 1 := hml0
  have hown : s.vm.findClass "com/example/tideglass/tideglass/history/Classification" = some m.cls := findClass_of_methodNamed Bd.named
  have hnm := (name_of_methodNamed Bd.named Bd.method).1
  have hk : meth.locks = false := BodyLoose.notSynchronized Bd
  have X0 : Stand p l e ({ frames := 0, cells := 0, slots := 0, locals := 0 } : Room) s m #[(.ref x0)] below meth c s₁ [] 0 0 := Stand.of_body Bd
  have e0 : s₁.heap = h0 := by rw [← hh, Bd.state]; rfl
  have N0 := Fr.nil n0
  show Go p e below s (Q4 Z x0 u0 u1 u2 h0 n0) ({ frames := 0, cells := 0, slots := 0, locals := 0 } : Room).cells ({ frames := 0, cells := 0, slots := 0, locals := 0 } : Room).slots s₁ (entryFrame m #[(.ref x0)] 1)
  refine Go.cast (ef_4 m x0) ?_
  refine Go.of (T' := s₁) (f' := (mkF m 1 #[.val (.ref x0)] [(.ref x0)])) (fun t k => XS.aloadN X0.here hx rfl (hb hby d4_0) rfl rfl k) ?_
  obtain ⟨T1, X1, e1, st1⟩ := getF X0 hx hZ hown (host := "") (Or.inl (hw _ (List.mem_of_getElem? (i := 14) rfl))) Via.refl e0 F_aca (g := (mkF m 1 #[.val (.ref x0)] [(.ref x0)])) rfl rfl (hb hby d4_1)
  refine Go.of (T' := T1) (f' := (mkF m 4 #[.val (.ref x0)] [(.int u0)])) (fun t k => st1 t k) ?_
  by_cases hc4 : u0 = (0 : Int32)
  · -- pc 4: yes
    refine Go.of (T' := T1) (f' := (mkF m 25 #[.val (.ref x0)] [])) (fun t k => XS.ifYes X1.here hx rfl (pc0 := 4) (pc' := 25) rfl (hb hby d4_4) rfl ((if0 _ _).trans (teq hc4).1) (by decide) (by decide) k) ?_
    refine Go.of (T' := T1) (f' := (mkF m 26 #[.val (.ref x0)] [(.int (0 : Int32))])) (fun t k => XS.iconst X1.here hx rfl (hb hby d4_25) k) ?_
    refine Go.retZ X1 hx hk (t := .boolean) Bd.returns (by simp) (hb hby d4_26) (by decide) (by decide) ?_
    rw [e1]
    exact ⟨by simp [allV, nar, hc4], N0, rfl⟩
  · -- pc 4: no
    refine Go.of (T' := T1) (f' := (mkF m 7 #[.val (.ref x0)] [])) (fun t k => XS.ifNo X1.here hx rfl (hb hby d4_4) rfl ((if0 _ _).trans (feq hc4).1) k) ?_
    refine Go.of (T' := T1) (f' := (mkF m 8 #[.val (.ref x0)] [(.ref x0)])) (fun t k => XS.aloadN X1.here hx rfl (hb hby d4_7) rfl rfl k) ?_
    obtain ⟨T2, X2, e2, st2⟩ := getF X1 hx hZ hown (host := "") (Or.inl (hw _ (List.mem_of_getElem? (i := 16) rfl))) Via.refl e1 F_cons (g := (mkF m 8 #[.val (.ref x0)] [(.ref x0)])) rfl rfl (hb hby d4_8)
    refine Go.of (T' := T2) (f' := (mkF m 11 #[.val (.ref x0)] [(.int u1)])) (fun t k => st2 t k) ?_
    by_cases hc11 : u1 = (0 : Int32)
    · -- pc 11: yes
      refine Go.of (T' := T2) (f' := (mkF m 25 #[.val (.ref x0)] [])) (fun t k => XS.ifYes X2.here hx rfl (pc0 := 11) (pc' := 25) rfl (hb hby d4_11) rfl ((if0 _ _).trans (teq hc11).1) (by decide) (by decide) k) ?_
      refine Go.of (T' := T2) (f' := (mkF m 26 #[.val (.ref x0)] [(.int (0 : Int32))])) (fun t k => XS.iconst X2.here hx rfl (hb hby d4_25) k) ?_
      refine Go.retZ X2 hx hk (t := .boolean) Bd.returns (by simp) (hb hby d4_26) (by decide) (by decide) ?_
      rw [e2]
      exact ⟨by simp [allV, nar, hc4, hc11], N0, rfl⟩
    · -- pc 11: no
      refine Go.of (T' := T2) (f' := (mkF m 14 #[.val (.ref x0)] [])) (fun t k => XS.ifNo X2.here hx rfl (hb hby d4_11) rfl ((if0 _ _).trans (feq hc11).1) k) ?_
      refine Go.of (T' := T2) (f' := (mkF m 15 #[.val (.ref x0)] [(.ref x0)])) (fun t k => XS.aloadN X2.here hx rfl (hb hby d4_14) rfl rfl k) ?_
      obtain ⟨T3, X3, e3, st3⟩ := getF X2 hx hZ hown (host := "") (Or.inl (hw _ (List.mem_of_getElem? (i := 22) rfl))) Via.refl e2 F_wcf (g := (mkF m 15 #[.val (.ref x0)] [(.ref x0)])) rfl rfl (hb hby d4_15)
      refine Go.of (T' := T3) (f' := (mkF m 18 #[.val (.ref x0)] [(.int u2)])) (fun t k => st3 t k) ?_
      by_cases hc18 : u2 = (0 : Int32)
      · -- pc 18: yes
        refine Go.of (T' := T3) (f' := (mkF m 25 #[.val (.ref x0)] [])) (fun t k => XS.ifYes X3.here hx rfl (pc0 := 18) (pc' := 25) rfl (hb hby d4_18) rfl ((if0 _ _).trans (teq hc18).1) (by decide) (by decide) k) ?_
        refine Go.of (T' := T3) (f' := (mkF m 26 #[.val (.ref x0)] [(.int (0 : Int32))])) (fun t k => XS.iconst X3.here hx rfl (hb hby d4_25) k) ?_
        refine Go.retZ X3 hx hk (t := .boolean) Bd.returns (by simp) (hb hby d4_26) (by decide) (by decide) ?_
        rw [e3]
        exact ⟨by simp [allV, nar, hc4, hc11, hc18], N0, rfl⟩
      · -- pc 18: no
        refine Go.of (T' := T3) (f' := (mkF m 21 #[.val (.ref x0)] [])) (fun t k => XS.ifNo X3.here hx rfl (hb hby d4_18) rfl ((if0 _ _).trans (feq hc18).1) k) ?_
        refine Go.of (T' := T3) (f' := (mkF m 22 #[.val (.ref x0)] [(.int (1 : Int32))])) (fun t k => XS.iconst X3.here hx rfl (hb hby d4_21) k) ?_
        refine Go.of (T' := T3) (f' := (mkF m 26 #[.val (.ref x0)] [(.int (1 : Int32))])) (fun t k => XS.goto X3.here hx rfl (pc0 := 22) (pc' := 26) rfl (hb hby d4_22) (by decide) (by decide) k) ?_
        refine Go.retZ X3 hx hk (t := .boolean) Bd.returns (by simp) (hb hby d4_26) (by decide) (by decide) ?_
        rw [e3]
        exact ⟨by simp [allV, nar, hc4, hc11, hc18], N0, rfl⟩
theorem bit_ne (x m : Int32) : (¬ bit x m = 0) = (¬ (x &&& m = 0)) := by unfold bit; split <;> simp_all
theorem own_fin (x e : Int32) (he : e = if x &&& 19 = 19 then 1 else 0) : allV (bit x 1) (bit x 2) (bit x 16) = e := by
  subst he
  unfold allV
  simp only [bit_ne]
  have key : ∀ y : Fin 32, ((¬ (Int32.ofNat y.1 &&& 1 = 0) ∧ ¬ (Int32.ofNat y.1 &&& 2 = 0) ∧ ¬ (Int32.ofNat y.1 &&& 16 = 0)) ↔ (Int32.ofNat y.1 &&& 19 = 19)) := by decide +kernel
  have e0 : ∀ m : Int32, m = m &&& 31 → x &&& m = (x &&& 31) &&& m := by
    intro m hm
    rw [Int32.and_assoc, Int32.and_comm 31 m, ← hm]
  have e1 : x &&& 31 = Int32.ofNat (x &&& 31).toBitVec.toNat := by
    apply Int32.toBitVec_inj.mp
    apply BitVec.eq_of_toNat_eq
    show _ = (BitVec.ofNat 32 _).toNat
    simp
  have hlt : (x &&& 31).toBitVec.toNat < 32 := by
    rw [Int32.toBitVec_and, BitVec.toNat_and]
    exact Nat.lt_succ_of_le Nat.and_le_right
  rw [e0 1 (by decide), e0 2 (by decide), e0 16 (by decide), e0 19 (by decide)]
  rw [e1]
  simp only [key ⟨_, hlt⟩]
theorem pd_1 : parseMethodDescriptor "(ZZZZZ)V" = some ⟨[.boolean, .boolean, .boolean, .boolean, .boolean], none⟩ := by decide +kernel
theorem pd_2 : parseMethodDescriptor "()Z" = some ⟨[], some .boolean⟩ := by decide +kernel
theorem pn_2 : plainName "com/example/tideglass/tideglass/history/ClassificationNmsiPinLaw" = true := by first | (simp [plainName, overriddenIn]; done) | decide +kernel
theorem ef_0 (m : MethodId) (x0 : Int32) : entryFrame m #[(.int x0)] maxLocals = mkF m 0 #[.val (.int x0), .unset, .unset, .unset, .unset, .unset, .unset, .unset] [] := by first | (simp [entryFrame, mkF, argsToLocals, Value.category, maxLocals]; done) | rfl
def Q0 (Z : State) (x0 : Int32)  (h0 : Heap) (n0 : Nat) (v : Option Value) (h : Heap) (L : List Loc) : Prop := v = some (.int (1 : Int32)) ∧ Fr n0 L
set_option maxRecDepth 65536 in
set_option maxHeartbeats 40000000 in
theorem rm0 (l : Launch) (Z : State) (a0 : Array Value) (hw : ∀ d ∈ tables_1, d.before a0 Z = true) (ws : List Jvm.Cond) (x0 : Int32)  (h0 : Heap) (n0 : Nat) (Z0 : n0 ≤ h0.size)  :
    MetFree l x (head1 (Jvm.Cond.code x code maxLocals ret :: ws) room_1) (fun a U => a = #[(.int x0)] ∧ Z.Warmed39 U.vm ∧ U.heap = h0) (fun _ _ _ _ _ => True) (fun _ U o U' => ∃ v L, o = .returned v ∧ Q0 Z x0 h0 n0 v U'.heap L ∧ FrameEnd U o U' L 16 128) := by
  refine MetFree.of_bodySF (plainFor_of_name pn_2) hisR ?_
  intro p e s m args below meth c s₁ Bd hml0 hP hK
  obtain ⟨rfl, hZ, hh⟩ := hP
  have hx := Bd.exec
  have hby := Bd.bytes
  have hml : c.maxLocals = 8 := hml0
  have hown : s.vm.findClass "com/example/tideglass/tideglass/history/ClassificationNmsiPinLaw" = some m.cls := findClass_of_methodNamed Bd.named
  have hnm := (name_of_methodNamed Bd.named Bd.method).1
  have hk : meth.locks = false := BodyLoose.notSynchronized Bd
  have X0 : Stand p l e room_1 s m #[(.int x0)] below meth c s₁ [] 0 0 := Stand.of_body Bd
  have e0 : s₁.heap = h0 := by rw [← hh, Bd.state]; rfl
  have N0 := Fr.nil n0
  show Go p e below s (Q0 Z x0 h0 n0) 16 128 s₁ (entryFrame m #[(.int x0)] maxLocals)
  refine Go.cast (ef_0 m x0) ?_
  refine Go.of (T' := s₁) (f' := (mkF m 1 #[.val (.int x0), .unset, .unset, .unset, .unset, .unset, .unset, .unset] [(.int x0)])) (fun t k => XS.iloadN X0.here hx rfl (hb hby at_0) rfl k) ?_
  refine Go.of (T' := s₁) (f' := (mkF m 2 #[.val (.int x0), .unset, .unset, .unset, .unset, .unset, .unset, .unset] [(.int (1 : Int32)), (.int x0)])) (fun t k => XS.iconst X0.here hx rfl (hb hby at_1) k) ?_
  refine Go.of (T' := s₁) (f' := (mkF m 3 #[.val (.int x0), .unset, .unset, .unset, .unset, .unset, .unset, .unset] [(.int (x0 &&& (1 : Int32)))])) (fun t k => XS.iand X0.here hx rfl (hb hby at_2) rfl k) ?_
  suffices J1 : ∀  (v1_s0 : Int32) (hj1 : (((x0 &&& (1 : Int32)) = (0 : Int32)) ∧ v1_s0 = (0 : Int32)) ∨ (¬ ((x0 &&& (1 : Int32)) = (0 : Int32)) ∧ v1_s0 = (1 : Int32))), Go p e below s (Q0 Z x0 h0 n0) 16 128 s₁ (mkF m 11 #[.val (.int x0), .unset, .unset, .unset, .unset, .unset, .unset, .unset] [(.int v1_s0)]) by
    by_cases hc3 : (x0 &&& (1 : Int32)) = (0 : Int32)
    · -- pc 3: yes
      refine Go.of (T' := s₁) (f' := (mkF m 10 #[.val (.int x0), .unset, .unset, .unset, .unset, .unset, .unset, .unset] [])) (fun t k => XS.ifYes X0.here hx rfl (pc0 := 3) (pc' := 10) rfl (hb hby at_3) rfl ((if0 _ _).trans (teq hc3).1) (by decide) (by decide) k) ?_
      refine Go.of (T' := s₁) (f' := (mkF m 11 #[.val (.int x0), .unset, .unset, .unset, .unset, .unset, .unset, .unset] [(.int (0 : Int32))])) (fun t k => XS.iconst X0.here hx rfl (hb hby at_10) k) ?_
      exact J1 (0 : Int32) (Or.inl ⟨hc3, rfl⟩)
    · -- pc 3: no
      refine Go.of (T' := s₁) (f' := (mkF m 6 #[.val (.int x0), .unset, .unset, .unset, .unset, .unset, .unset, .unset] [])) (fun t k => XS.ifNo X0.here hx rfl (hb hby at_3) rfl ((if0 _ _).trans (feq hc3).1) k) ?_
      refine Go.of (T' := s₁) (f' := (mkF m 7 #[.val (.int x0), .unset, .unset, .unset, .unset, .unset, .unset, .unset] [(.int (1 : Int32))])) (fun t k => XS.iconst X0.here hx rfl (hb hby at_6) k) ?_
      refine Go.of (T' := s₁) (f' := (mkF m 11 #[.val (.int x0), .unset, .unset, .unset, .unset, .unset, .unset, .unset] [(.int (1 : Int32))])) (fun t k => XS.goto X0.here hx rfl (pc0 := 7) (pc' := 11) rfl (hb hby at_7) (by decide) (by decide) k) ?_
      exact J1 (1 : Int32) (Or.inr ⟨hc3, rfl⟩)
  intro v1_s0 hj1
  obtain rfl : v1_s0 = bit x0 1 := by rcases hj1 with ⟨q, rfl⟩ | ⟨q, rfl⟩ <;> simp [bit, q]
  refine Go.of (T' := s₁) (f' := (mkF m 12 #[.val (.int x0), .val (.int (bit x0 1)), .unset, .unset, .unset, .unset, .unset, .unset] [])) (fun t k => XS.istoreN X0.here hx rfl (hb hby at_11) rfl (l' := #[.val (.int x0), .val (.int (bit x0 1)), .unset, .unset, .unset, .unset, .unset, .unset]) rfl k) ?_
  refine Go.of (T' := s₁) (f' := (mkF m 13 #[.val (.int x0), .val (.int (bit x0 1)), .unset, .unset, .unset, .unset, .unset, .unset] [(.int x0)])) (fun t k => XS.iloadN X0.here hx rfl (hb hby at_12) rfl k) ?_
  refine Go.of (T' := s₁) (f' := (mkF m 14 #[.val (.int x0), .val (.int (bit x0 1)), .unset, .unset, .unset, .unset, .unset, .unset] [(.int (2 : Int32)), (.int x0)])) (fun t k => XS.iconst X0.here hx rfl (hb hby at_13) k) ?_
  refine Go.of (T' := s₁) (f' := (mkF m 15 #[.val (.int x0), .val (.int (bit x0 1)), .unset, .unset, .unset, .unset, .unset, .unset] [(.int (x0 &&& (2 : Int32)))])) (fun t k => XS.iand X0.here hx rfl (hb hby at_14) rfl k) ?_
  suffices J2 : ∀  (v2_s0 : Int32) (hj2 : (((x0 &&& (2 : Int32)) = (0 : Int32)) ∧ v2_s0 = (0 : Int32)) ∨ (¬ ((x0 &&& (2 : Int32)) = (0 : Int32)) ∧ v2_s0 = (1 : Int32))), Go p e below s (Q0 Z x0 h0 n0) 16 128 s₁ (mkF m 23 #[.val (.int x0), .val (.int (bit x0 1)), .unset, .unset, .unset, .unset, .unset, .unset] [(.int v2_s0)]) by
    by_cases hc15 : (x0 &&& (2 : Int32)) = (0 : Int32)
    · -- pc 15: yes
      refine Go.of (T' := s₁) (f' := (mkF m 22 #[.val (.int x0), .val (.int (bit x0 1)), .unset, .unset, .unset, .unset, .unset, .unset] [])) (fun t k => XS.ifYes X0.here hx rfl (pc0 := 15) (pc' := 22) rfl (hb hby at_15) rfl ((if0 _ _).trans (teq hc15).1) (by decide) (by decide) k) ?_
      refine Go.of (T' := s₁) (f' := (mkF m 23 #[.val (.int x0), .val (.int (bit x0 1)), .unset, .unset, .unset, .unset, .unset, .unset] [(.int (0 : Int32))])) (fun t k => XS.iconst X0.here hx rfl (hb hby at_22) k) ?_
      exact J2 (0 : Int32) (Or.inl ⟨hc15, rfl⟩)
    · -- pc 15: no
      refine Go.of (T' := s₁) (f' := (mkF m 18 #[.val (.int x0), .val (.int (bit x0 1)), .unset, .unset, .unset, .unset, .unset, .unset] [])) (fun t k => XS.ifNo X0.here hx rfl (hb hby at_15) rfl ((if0 _ _).trans (feq hc15).1) k) ?_
      refine Go.of (T' := s₁) (f' := (mkF m 19 #[.val (.int x0), .val (.int (bit x0 1)), .unset, .unset, .unset, .unset, .unset, .unset] [(.int (1 : Int32))])) (fun t k => XS.iconst X0.here hx rfl (hb hby at_18) k) ?_
      refine Go.of (T' := s₁) (f' := (mkF m 23 #[.val (.int x0), .val (.int (bit x0 1)), .unset, .unset, .unset, .unset, .unset, .unset] [(.int (1 : Int32))])) (fun t k => XS.goto X0.here hx rfl (pc0 := 19) (pc' := 23) rfl (hb hby at_19) (by decide) (by decide) k) ?_
      exact J2 (1 : Int32) (Or.inr ⟨hc15, rfl⟩)
  intro v2_s0 hj2
  obtain rfl : v2_s0 = bit x0 2 := by rcases hj2 with ⟨q, rfl⟩ | ⟨q, rfl⟩ <;> simp [bit, q]
  refine Go.of (T' := s₁) (f' := (mkF m 24 #[.val (.int x0), .val (.int (bit x0 1)), .val (.int (bit x0 2)), .unset, .unset, .unset, .unset, .unset] [])) (fun t k => XS.istoreN X0.here hx rfl (hb hby at_23) rfl (l' := #[.val (.int x0), .val (.int (bit x0 1)), .val (.int (bit x0 2)), .unset, .unset, .unset, .unset, .unset]) rfl k) ?_
  refine Go.of (T' := s₁) (f' := (mkF m 25 #[.val (.int x0), .val (.int (bit x0 1)), .val (.int (bit x0 2)), .unset, .unset, .unset, .unset, .unset] [(.int x0)])) (fun t k => XS.iloadN X0.here hx rfl (hb hby at_24) rfl k) ?_
  refine Go.of (T' := s₁) (f' := (mkF m 26 #[.val (.int x0), .val (.int (bit x0 1)), .val (.int (bit x0 2)), .unset, .unset, .unset, .unset, .unset] [(.int (4 : Int32)), (.int x0)])) (fun t k => XS.iconst X0.here hx rfl (hb hby at_25) k) ?_
  refine Go.of (T' := s₁) (f' := (mkF m 27 #[.val (.int x0), .val (.int (bit x0 1)), .val (.int (bit x0 2)), .unset, .unset, .unset, .unset, .unset] [(.int (x0 &&& (4 : Int32)))])) (fun t k => XS.iand X0.here hx rfl (hb hby at_26) rfl k) ?_
  suffices J3 : ∀  (v3_s0 : Int32) (hj3 : (((x0 &&& (4 : Int32)) = (0 : Int32)) ∧ v3_s0 = (0 : Int32)) ∨ (¬ ((x0 &&& (4 : Int32)) = (0 : Int32)) ∧ v3_s0 = (1 : Int32))), Go p e below s (Q0 Z x0 h0 n0) 16 128 s₁ (mkF m 35 #[.val (.int x0), .val (.int (bit x0 1)), .val (.int (bit x0 2)), .unset, .unset, .unset, .unset, .unset] [(.int v3_s0)]) by
    by_cases hc27 : (x0 &&& (4 : Int32)) = (0 : Int32)
    · -- pc 27: yes
      refine Go.of (T' := s₁) (f' := (mkF m 34 #[.val (.int x0), .val (.int (bit x0 1)), .val (.int (bit x0 2)), .unset, .unset, .unset, .unset, .unset] [])) (fun t k => XS.ifYes X0.here hx rfl (pc0 := 27) (pc' := 34) rfl (hb hby at_27) rfl ((if0 _ _).trans (teq hc27).1) (by decide) (by decide) k) ?_
      refine Go.of (T' := s₁) (f' := (mkF m 35 #[.val (.int x0), .val (.int (bit x0 1)), .val (.int (bit x0 2)), .unset, .unset, .unset, .unset, .unset] [(.int (0 : Int32))])) (fun t k => XS.iconst X0.here hx rfl (hb hby at_34) k) ?_
      exact J3 (0 : Int32) (Or.inl ⟨hc27, rfl⟩)
    · -- pc 27: no
      refine Go.of (T' := s₁) (f' := (mkF m 30 #[.val (.int x0), .val (.int (bit x0 1)), .val (.int (bit x0 2)), .unset, .unset, .unset, .unset, .unset] [])) (fun t k => XS.ifNo X0.here hx rfl (hb hby at_27) rfl ((if0 _ _).trans (feq hc27).1) k) ?_
      refine Go.of (T' := s₁) (f' := (mkF m 31 #[.val (.int x0), .val (.int (bit x0 1)), .val (.int (bit x0 2)), .unset, .unset, .unset, .unset, .unset] [(.int (1 : Int32))])) (fun t k => XS.iconst X0.here hx rfl (hb hby at_30) k) ?_
      refine Go.of (T' := s₁) (f' := (mkF m 35 #[.val (.int x0), .val (.int (bit x0 1)), .val (.int (bit x0 2)), .unset, .unset, .unset, .unset, .unset] [(.int (1 : Int32))])) (fun t k => XS.goto X0.here hx rfl (pc0 := 31) (pc' := 35) rfl (hb hby at_31) (by decide) (by decide) k) ?_
      exact J3 (1 : Int32) (Or.inr ⟨hc27, rfl⟩)
  intro v3_s0 hj3
  obtain rfl : v3_s0 = bit x0 4 := by rcases hj3 with ⟨q, rfl⟩ | ⟨q, rfl⟩ <;> simp [bit, q]
  refine Go.of (T' := s₁) (f' := (mkF m 36 #[.val (.int x0), .val (.int (bit x0 1)), .val (.int (bit x0 2)), .val (.int (bit x0 4)), .unset, .unset, .unset, .unset] [])) (fun t k => XS.istoreN X0.here hx rfl (hb hby at_35) rfl (l' := #[.val (.int x0), .val (.int (bit x0 1)), .val (.int (bit x0 2)), .val (.int (bit x0 4)), .unset, .unset, .unset, .unset]) rfl k) ?_
  refine Go.of (T' := s₁) (f' := (mkF m 37 #[.val (.int x0), .val (.int (bit x0 1)), .val (.int (bit x0 2)), .val (.int (bit x0 4)), .unset, .unset, .unset, .unset] [(.int x0)])) (fun t k => XS.iloadN X0.here hx rfl (hb hby at_36) rfl k) ?_
  refine Go.of (T' := s₁) (f' := (mkF m 39 #[.val (.int x0), .val (.int (bit x0 1)), .val (.int (bit x0 2)), .val (.int (bit x0 4)), .unset, .unset, .unset, .unset] [(.int (8 : Int32)), (.int x0)])) (fun t k => XS.bipush X0.here hx rfl (hb hby at_37) k) ?_
  refine Go.of (T' := s₁) (f' := (mkF m 40 #[.val (.int x0), .val (.int (bit x0 1)), .val (.int (bit x0 2)), .val (.int (bit x0 4)), .unset, .unset, .unset, .unset] [(.int (x0 &&& (8 : Int32)))])) (fun t k => XS.iand X0.here hx rfl (hb hby at_39) rfl k) ?_
  suffices J4 : ∀  (v4_s0 : Int32) (hj4 : (((x0 &&& (8 : Int32)) = (0 : Int32)) ∧ v4_s0 = (0 : Int32)) ∨ (¬ ((x0 &&& (8 : Int32)) = (0 : Int32)) ∧ v4_s0 = (1 : Int32))), Go p e below s (Q0 Z x0 h0 n0) 16 128 s₁ (mkF m 48 #[.val (.int x0), .val (.int (bit x0 1)), .val (.int (bit x0 2)), .val (.int (bit x0 4)), .unset, .unset, .unset, .unset] [(.int v4_s0)]) by
    by_cases hc40 : (x0 &&& (8 : Int32)) = (0 : Int32)
    · -- pc 40: yes
      refine Go.of (T' := s₁) (f' := (mkF m 47 #[.val (.int x0), .val (.int (bit x0 1)), .val (.int (bit x0 2)), .val (.int (bit x0 4)), .unset, .unset, .unset, .unset] [])) (fun t k => XS.ifYes X0.here hx rfl (pc0 := 40) (pc' := 47) rfl (hb hby at_40) rfl ((if0 _ _).trans (teq hc40).1) (by decide) (by decide) k) ?_
      refine Go.of (T' := s₁) (f' := (mkF m 48 #[.val (.int x0), .val (.int (bit x0 1)), .val (.int (bit x0 2)), .val (.int (bit x0 4)), .unset, .unset, .unset, .unset] [(.int (0 : Int32))])) (fun t k => XS.iconst X0.here hx rfl (hb hby at_47) k) ?_
      exact J4 (0 : Int32) (Or.inl ⟨hc40, rfl⟩)
    · -- pc 40: no
      refine Go.of (T' := s₁) (f' := (mkF m 43 #[.val (.int x0), .val (.int (bit x0 1)), .val (.int (bit x0 2)), .val (.int (bit x0 4)), .unset, .unset, .unset, .unset] [])) (fun t k => XS.ifNo X0.here hx rfl (hb hby at_40) rfl ((if0 _ _).trans (feq hc40).1) k) ?_
      refine Go.of (T' := s₁) (f' := (mkF m 44 #[.val (.int x0), .val (.int (bit x0 1)), .val (.int (bit x0 2)), .val (.int (bit x0 4)), .unset, .unset, .unset, .unset] [(.int (1 : Int32))])) (fun t k => XS.iconst X0.here hx rfl (hb hby at_43) k) ?_
      refine Go.of (T' := s₁) (f' := (mkF m 48 #[.val (.int x0), .val (.int (bit x0 1)), .val (.int (bit x0 2)), .val (.int (bit x0 4)), .unset, .unset, .unset, .unset] [(.int (1 : Int32))])) (fun t k => XS.goto X0.here hx rfl (pc0 := 44) (pc' := 48) rfl (hb hby at_44) (by decide) (by decide) k) ?_
      exact J4 (1 : Int32) (Or.inr ⟨hc40, rfl⟩)
  intro v4_s0 hj4
  obtain rfl : v4_s0 = bit x0 8 := by rcases hj4 with ⟨q, rfl⟩ | ⟨q, rfl⟩ <;> simp [bit, q]
  refine Go.of (T' := s₁) (f' := (mkF m 50 #[.val (.int x0), .val (.int (bit x0 1)), .val (.int (bit x0 2)), .val (.int (bit x0 4)), .val (.int (bit x0 8)), .unset, .unset, .unset] [])) (fun t k => XS.istore X0.here hx rfl (hb hby at_48) rfl (l' := #[.val (.int x0), .val (.int (bit x0 1)), .val (.int (bit x0 2)), .val (.int (bit x0 4)), .val (.int (bit x0 8)), .unset, .unset, .unset]) rfl k) ?_
  refine Go.of (T' := s₁) (f' := (mkF m 51 #[.val (.int x0), .val (.int (bit x0 1)), .val (.int (bit x0 2)), .val (.int (bit x0 4)), .val (.int (bit x0 8)), .unset, .unset, .unset] [(.int x0)])) (fun t k => XS.iloadN X0.here hx rfl (hb hby at_50) rfl k) ?_
  refine Go.of (T' := s₁) (f' := (mkF m 53 #[.val (.int x0), .val (.int (bit x0 1)), .val (.int (bit x0 2)), .val (.int (bit x0 4)), .val (.int (bit x0 8)), .unset, .unset, .unset] [(.int (16 : Int32)), (.int x0)])) (fun t k => XS.bipush X0.here hx rfl (hb hby at_51) k) ?_
  refine Go.of (T' := s₁) (f' := (mkF m 54 #[.val (.int x0), .val (.int (bit x0 1)), .val (.int (bit x0 2)), .val (.int (bit x0 4)), .val (.int (bit x0 8)), .unset, .unset, .unset] [(.int (x0 &&& (16 : Int32)))])) (fun t k => XS.iand X0.here hx rfl (hb hby at_53) rfl k) ?_
  suffices J5 : ∀  (v5_s0 : Int32) (hj5 : (((x0 &&& (16 : Int32)) = (0 : Int32)) ∧ v5_s0 = (0 : Int32)) ∨ (¬ ((x0 &&& (16 : Int32)) = (0 : Int32)) ∧ v5_s0 = (1 : Int32))), Go p e below s (Q0 Z x0 h0 n0) 16 128 s₁ (mkF m 62 #[.val (.int x0), .val (.int (bit x0 1)), .val (.int (bit x0 2)), .val (.int (bit x0 4)), .val (.int (bit x0 8)), .unset, .unset, .unset] [(.int v5_s0)]) by
    by_cases hc54 : (x0 &&& (16 : Int32)) = (0 : Int32)
    · -- pc 54: yes
      refine Go.of (T' := s₁) (f' := (mkF m 61 #[.val (.int x0), .val (.int (bit x0 1)), .val (.int (bit x0 2)), .val (.int (bit x0 4)), .val (.int (bit x0 8)), .unset, .unset, .unset] [])) (fun t k => XS.ifYes X0.here hx rfl (pc0 := 54) (pc' := 61) rfl (hb hby at_54) rfl ((if0 _ _).trans (teq hc54).1) (by decide) (by decide) k) ?_
      refine Go.of (T' := s₁) (f' := (mkF m 62 #[.val (.int x0), .val (.int (bit x0 1)), .val (.int (bit x0 2)), .val (.int (bit x0 4)), .val (.int (bit x0 8)), .unset, .unset, .unset] [(.int (0 : Int32))])) (fun t k => XS.iconst X0.here hx rfl (hb hby at_61) k) ?_
      exact J5 (0 : Int32) (Or.inl ⟨hc54, rfl⟩)
    · -- pc 54: no
      refine Go.of (T' := s₁) (f' := (mkF m 57 #[.val (.int x0), .val (.int (bit x0 1)), .val (.int (bit x0 2)), .val (.int (bit x0 4)), .val (.int (bit x0 8)), .unset, .unset, .unset] [])) (fun t k => XS.ifNo X0.here hx rfl (hb hby at_54) rfl ((if0 _ _).trans (feq hc54).1) k) ?_
      refine Go.of (T' := s₁) (f' := (mkF m 58 #[.val (.int x0), .val (.int (bit x0 1)), .val (.int (bit x0 2)), .val (.int (bit x0 4)), .val (.int (bit x0 8)), .unset, .unset, .unset] [(.int (1 : Int32))])) (fun t k => XS.iconst X0.here hx rfl (hb hby at_57) k) ?_
      refine Go.of (T' := s₁) (f' := (mkF m 62 #[.val (.int x0), .val (.int (bit x0 1)), .val (.int (bit x0 2)), .val (.int (bit x0 4)), .val (.int (bit x0 8)), .unset, .unset, .unset] [(.int (1 : Int32))])) (fun t k => XS.goto X0.here hx rfl (pc0 := 58) (pc' := 62) rfl (hb hby at_58) (by decide) (by decide) k) ?_
      exact J5 (1 : Int32) (Or.inr ⟨hc54, rfl⟩)
  intro v5_s0 hj5
  obtain rfl : v5_s0 = bit x0 16 := by rcases hj5 with ⟨q, rfl⟩ | ⟨q, rfl⟩ <;> simp [bit, q]
  refine Go.of (T' := s₁) (f' := (mkF m 64 #[.val (.int x0), .val (.int (bit x0 1)), .val (.int (bit x0 2)), .val (.int (bit x0 4)), .val (.int (bit x0 8)), .val (.int (bit x0 16)), .unset, .unset] [])) (fun t k => XS.istore X0.here hx rfl (hb hby at_62) rfl (l' := #[.val (.int x0), .val (.int (bit x0 1)), .val (.int (bit x0 2)), .val (.int (bit x0 4)), .val (.int (bit x0 8)), .val (.int (bit x0 16)), .unset, .unset]) rfl k) ?_
  obtain ⟨T6, h6, X6, e6, E6, A6, D6, -, st6⟩ := newO X0 hx hZ hown (hw _ (List.mem_of_getElem? (i := 0) rfl)) (hw _ (List.mem_of_getElem? (i := 1) rfl)) (hw _ (List.mem_of_getElem? (i := 2) rfl)) e0 (g := (mkF m 64 #[.val (.int x0), .val (.int (bit x0 1)), .val (.int (bit x0 2)), .val (.int (bit x0 4)), .val (.int (bit x0 8)), .val (.int (bit x0 16)), .unset, .unset] [])) rfl (hb hby at_64) (by decide) (by decide)
  obtain ⟨b6, gb6⟩ : ∃ z, z = h0.size := ⟨_, rfl⟩
  rw [← gb6] at A6 D6 st6
  have g_b6 : n0 ≤ b6 := Nat.le_trans Z0 (Nat.le_of_eq gb6.symm)
  have sz_b6 : h0.size ≤ b6 := Nat.le_trans (Keep.refl h0 []).1 (Nat.le_of_eq gb6.symm)
  have ZS6 : n0 ≤ h6.size := Nat.le_trans Z0 E6.1
  have KK6 : Keep h0 h6 [] := (Keep.refl h0 []).ext E6
  have F6_b6_aca : Fld Z h6 b6 "com/example/tideglass/tideglass/history/Classification" "aca" "Z" (.int (0 : Int32)) := D6 (Or.inr (hw _ (List.mem_of_getElem? (i := 15) rfl))) (ty := .boolean) (by decide)
  have F6_b6_cons : Fld Z h6 b6 "com/example/tideglass/tideglass/history/Classification" "cons" "Z" (.int (0 : Int32)) := D6 (Or.inr (hw _ (List.mem_of_getElem? (i := 17) rfl))) (ty := .boolean) (by decide)
  have F6_b6_scons : Fld Z h6 b6 "com/example/tideglass/tideglass/history/Classification" "scons" "Z" (.int (0 : Int32)) := D6 (Or.inr (hw _ (List.mem_of_getElem? (i := 19) rfl))) (ty := .boolean) (by decide)
  have F6_b6_mon : Fld Z h6 b6 "com/example/tideglass/tideglass/history/Classification" "mon" "Z" (.int (0 : Int32)) := D6 (Or.inr (hw _ (List.mem_of_getElem? (i := 21) rfl))) (ty := .boolean) (by decide)
  have F6_b6_wcf : Fld Z h6 b6 "com/example/tideglass/tideglass/history/Classification" "wcf" "Z" (.int (0 : Int32)) := D6 (Or.inr (hw _ (List.mem_of_getElem? (i := 23) rfl))) (ty := .boolean) (by decide)
  refine Go.of (T' := T6) (f' := (mkF m 67 #[.val (.int x0), .val (.int (bit x0 1)), .val (.int (bit x0 2)), .val (.int (bit x0 4)), .val (.int (bit x0 8)), .val (.int (bit x0 16)), .unset, .unset] [(.ref b6)])) (fun t k => st6 t k) ?_
  refine Go.of (T' := T6) (f' := (mkF m 68 #[.val (.int x0), .val (.int (bit x0 1)), .val (.int (bit x0 2)), .val (.int (bit x0 4)), .val (.int (bit x0 8)), .val (.int (bit x0 16)), .unset, .unset] [(.ref b6), (.ref b6)])) (fun t k => XS.dup X6.here hx rfl (hb hby at_67) rfl rfl k) ?_
  refine Go.of (T' := T6) (f' := (mkF m 69 #[.val (.int x0), .val (.int (bit x0 1)), .val (.int (bit x0 2)), .val (.int (bit x0 4)), .val (.int (bit x0 8)), .val (.int (bit x0 16)), .unset, .unset] [(.int (bit x0 1)), (.ref b6), (.ref b6)])) (fun t k => XS.iloadN X6.here hx rfl (hb hby at_68) rfl k) ?_
  refine Go.of (T' := T6) (f' := (mkF m 70 #[.val (.int x0), .val (.int (bit x0 1)), .val (.int (bit x0 2)), .val (.int (bit x0 4)), .val (.int (bit x0 8)), .val (.int (bit x0 16)), .unset, .unset] [(.int (bit x0 2)), (.int (bit x0 1)), (.ref b6), (.ref b6)])) (fun t k => XS.iloadN X6.here hx rfl (hb hby at_69) rfl k) ?_
  refine Go.of (T' := T6) (f' := (mkF m 71 #[.val (.int x0), .val (.int (bit x0 1)), .val (.int (bit x0 2)), .val (.int (bit x0 4)), .val (.int (bit x0 8)), .val (.int (bit x0 16)), .unset, .unset] [(.int (bit x0 4)), (.int (bit x0 2)), (.int (bit x0 1)), (.ref b6), (.ref b6)])) (fun t k => XS.iloadN X6.here hx rfl (hb hby at_70) rfl k) ?_
  refine Go.of (T' := T6) (f' := (mkF m 73 #[.val (.int x0), .val (.int (bit x0 1)), .val (.int (bit x0 2)), .val (.int (bit x0 4)), .val (.int (bit x0 8)), .val (.int (bit x0 16)), .unset, .unset] [(.int (bit x0 8)), (.int (bit x0 4)), (.int (bit x0 2)), (.int (bit x0 1)), (.ref b6), (.ref b6)])) (fun t k => XS.iload X6.here hx rfl (hb hby at_71) rfl k) ?_
  refine Go.of (T' := T6) (f' := (mkF m 75 #[.val (.int x0), .val (.int (bit x0 1)), .val (.int (bit x0 2)), .val (.int (bit x0 4)), .val (.int (bit x0 8)), .val (.int (bit x0 16)), .unset, .unset] [(.int (bit x0 16)), (.int (bit x0 8)), (.int (bit x0 4)), (.int (bit x0 2)), (.int (bit x0 1)), (.ref b6), (.ref b6)])) (fun t k => XS.iload X6.here hx rfl (hb hby at_73) rfl k) ?_
  obtain ⟨_, _, ⟨T7, L7, k7, n7⟩, -, X7, ⟨Lc7, hQ7, l7, y7, z7⟩, st7⟩ := X6.specialBack hx (y := (⟨"com/example/tideglass/tideglass/history/Classification", "<init>", "(ZZZZZ)V"⟩ : MethodName)) rfl hown (mvT hZ (hw _ (List.mem_of_getElem? (i := 3) rfl))) (mvT hZ (hw _ (List.mem_of_getElem? (i := 4) rfl))) (mvT hZ (hw _ (List.mem_of_getElem? (i := 5) rfl))) (by decide) (backOf (W := 1) (rm1 l Z a0 hw [] b6 (bit x0 1) (bit x0 2) (bit x0 4) (bit x0 8) (bit x0 16) (.int (0 : Int32)) (.int (0 : Int32)) (.int (0 : Int32)) (.int (0 : Int32)) (.int (0 : Int32)) h6 n0 ZS6 A6 g_b6 F6_b6_aca F6_b6_cons F6_b6_scons F6_b6_mon F6_b6_wcf) hZ (hw _ (List.mem_of_getElem? (i := 5) rfl)) (hw _ (List.mem_of_getElem? (i := 2) rfl)) (by decide) (by decide)) (g := (mkF m 75 #[.val (.int x0), .val (.int (bit x0 1)), .val (.int (bit x0 2)), .val (.int (bit x0 4)), .val (.int (bit x0 8)), .val (.int (bit x0 16)), .unset, .unset] [(.int (bit x0 16)), (.int (bit x0 8)), (.int (bit x0 4)), (.int (bit x0 2)), (.int (bit x0 1)), (.ref b6), (.ref b6)])) rfl (by rw [hml]; rfl) (Steps.refl _) (a := b6) (argsL := [(.int (bit x0 1)), (.int (bit x0 2)), (.int (bit x0 4)), (.int (bit x0 8)), (.int (bit x0 16))]) (rest := [(.ref b6)]) (lenOf pd_1 rfl) rfl (by show 2 * 0 + _ ≤ _; exact Nat.le_of_eq rfl) (hb hby at_75) (fun _ _ => ⟨rfl, e6, (by decide : 1 + 0 ≤ _), (by decide : 5 + 0 ≤ _)⟩)
  dsimp only [Pt.U, Pt.locs, Pt.cells, Pt.slots] at X7 l7 y7 z7 st7 hQ7
  subst l7 y7 z7
  obtain ⟨rfl, N7q, K7, Fq7_aca, Fq7_cons, Fq7_scons, Fq7_mon, Fq7_wcf⟩ := hQ7
  have N7 := Fr.app N0 N7q
  have Ex7_b6 : Exa Z T7.heap b6 "com/example/tideglass/tideglass/history/Classification" := A6.keep K7
  have ZS7 : n0 ≤ T7.heap.size := Nat.le_trans ZS6 K7.1
  have KK7 : Keep h0 T7.heap [] := KK6.trans K7 (allS (Or.inr sz_b6) all0)
  refine Go.tr (T' := T7) (f' := (mkF m 78 #[.val (.int x0), .val (.int (bit x0 1)), .val (.int (bit x0 2)), .val (.int (bit x0 4)), .val (.int (bit x0 8)), .val (.int (bit x0 16)), .unset, .unset] [(.ref b6)])) st7 ?_
  refine Go.of (T' := T7) (f' := (mkF m 80 #[.val (.int x0), .val (.int (bit x0 1)), .val (.int (bit x0 2)), .val (.int (bit x0 4)), .val (.int (bit x0 8)), .val (.int (bit x0 16)), .val (.ref b6), .unset] [])) (fun t k => XS.astore X7.here hx rfl (hb hby at_78) rfl rfl (l' := #[.val (.int x0), .val (.int (bit x0 1)), .val (.int (bit x0 2)), .val (.int (bit x0 4)), .val (.int (bit x0 8)), .val (.int (bit x0 16)), .val (.ref b6), .unset]) rfl k) ?_
  refine Go.of (T' := T7) (f' := (mkF m 81 #[.val (.int x0), .val (.int (bit x0 1)), .val (.int (bit x0 2)), .val (.int (bit x0 4)), .val (.int (bit x0 8)), .val (.int (bit x0 16)), .val (.ref b6), .unset] [(.int x0)])) (fun t k => XS.iloadN X7.here hx rfl (hb hby at_80) rfl k) ?_
  refine Go.of (T' := T7) (f' := (mkF m 83 #[.val (.int x0), .val (.int (bit x0 1)), .val (.int (bit x0 2)), .val (.int (bit x0 4)), .val (.int (bit x0 8)), .val (.int (bit x0 16)), .val (.ref b6), .unset] [(.int (19 : Int32)), (.int x0)])) (fun t k => XS.bipush X7.here hx rfl (hb hby at_81) k) ?_
  refine Go.of (T' := T7) (f' := (mkF m 84 #[.val (.int x0), .val (.int (bit x0 1)), .val (.int (bit x0 2)), .val (.int (bit x0 4)), .val (.int (bit x0 8)), .val (.int (bit x0 16)), .val (.ref b6), .unset] [(.int (x0 &&& (19 : Int32)))])) (fun t k => XS.iand X7.here hx rfl (hb hby at_83) rfl k) ?_
  refine Go.of (T' := T7) (f' := (mkF m 86 #[.val (.int x0), .val (.int (bit x0 1)), .val (.int (bit x0 2)), .val (.int (bit x0 4)), .val (.int (bit x0 8)), .val (.int (bit x0 16)), .val (.ref b6), .unset] [(.int (19 : Int32)), (.int (x0 &&& (19 : Int32)))])) (fun t k => XS.bipush X7.here hx rfl (hb hby at_84) k) ?_
  suffices J8 : ∀  (v8_s0 : Int32) (hj8 : (((x0 &&& (19 : Int32)) = (19 : Int32)) ∧ v8_s0 = (1 : Int32)) ∨ (¬ ((x0 &&& (19 : Int32)) = (19 : Int32)) ∧ v8_s0 = (0 : Int32))), Go p e below s (Q0 Z x0 h0 n0) 16 128 T7 (mkF m 94 #[.val (.int x0), .val (.int (bit x0 1)), .val (.int (bit x0 2)), .val (.int (bit x0 4)), .val (.int (bit x0 8)), .val (.int (bit x0 16)), .val (.ref b6), .unset] [(.int v8_s0)]) by
    by_cases hc86 : (x0 &&& (19 : Int32)) = (19 : Int32)
    · -- pc 86: no
      refine Go.of (T' := T7) (f' := (mkF m 89 #[.val (.int x0), .val (.int (bit x0 1)), .val (.int (bit x0 2)), .val (.int (bit x0 4)), .val (.int (bit x0 8)), .val (.int (bit x0 16)), .val (.ref b6), .unset] [])) (fun t k => XS.icmpNo X7.here hx rfl (hb hby at_86) rfl ((teq hc86).2) k) ?_
      refine Go.of (T' := T7) (f' := (mkF m 90 #[.val (.int x0), .val (.int (bit x0 1)), .val (.int (bit x0 2)), .val (.int (bit x0 4)), .val (.int (bit x0 8)), .val (.int (bit x0 16)), .val (.ref b6), .unset] [(.int (1 : Int32))])) (fun t k => XS.iconst X7.here hx rfl (hb hby at_89) k) ?_
      refine Go.of (T' := T7) (f' := (mkF m 94 #[.val (.int x0), .val (.int (bit x0 1)), .val (.int (bit x0 2)), .val (.int (bit x0 4)), .val (.int (bit x0 8)), .val (.int (bit x0 16)), .val (.ref b6), .unset] [(.int (1 : Int32))])) (fun t k => XS.goto X7.here hx rfl (pc0 := 90) (pc' := 94) rfl (hb hby at_90) (by decide) (by decide) k) ?_
      exact J8 (1 : Int32) (Or.inl ⟨hc86, rfl⟩)
    · -- pc 86: yes
      refine Go.of (T' := T7) (f' := (mkF m 93 #[.val (.int x0), .val (.int (bit x0 1)), .val (.int (bit x0 2)), .val (.int (bit x0 4)), .val (.int (bit x0 8)), .val (.int (bit x0 16)), .val (.ref b6), .unset] [])) (fun t k => XS.icmpYes X7.here hx rfl (pc0 := 86) (pc' := 93) rfl (hb hby at_86) rfl ((feq hc86).2) (by decide) (by decide) k) ?_
      refine Go.of (T' := T7) (f' := (mkF m 94 #[.val (.int x0), .val (.int (bit x0 1)), .val (.int (bit x0 2)), .val (.int (bit x0 4)), .val (.int (bit x0 8)), .val (.int (bit x0 16)), .val (.ref b6), .unset] [(.int (0 : Int32))])) (fun t k => XS.iconst X7.here hx rfl (hb hby at_93) k) ?_
      exact J8 (0 : Int32) (Or.inr ⟨hc86, rfl⟩)
  intro v8_s0 hj8
  have hexp : v8_s0 = if x0 &&& 19 = 19 then 1 else 0 := by rcases hj8 with ⟨q, rfl⟩ | ⟨q, rfl⟩ <;> simp [q]
  refine Go.of (T' := T7) (f' := (mkF m 96 #[.val (.int x0), .val (.int (bit x0 1)), .val (.int (bit x0 2)), .val (.int (bit x0 4)), .val (.int (bit x0 8)), .val (.int (bit x0 16)), .val (.ref b6), .val (.int v8_s0)] [])) (fun t k => XS.istore X7.here hx rfl (hb hby at_94) rfl (l' := #[.val (.int x0), .val (.int (bit x0 1)), .val (.int (bit x0 2)), .val (.int (bit x0 4)), .val (.int (bit x0 8)), .val (.int (bit x0 16)), .val (.ref b6), .val (.int v8_s0)]) rfl k) ?_
  refine Go.of (T' := T7) (f' := (mkF m 98 #[.val (.int x0), .val (.int (bit x0 1)), .val (.int (bit x0 2)), .val (.int (bit x0 4)), .val (.int (bit x0 8)), .val (.int (bit x0 16)), .val (.ref b6), .val (.int v8_s0)] [(.ref b6)])) (fun t k => XS.aload X7.here hx rfl (hb hby at_96) rfl rfl k) ?_
  obtain ⟨cq9, kq9, q9a, q9b, q9c⟩ := isOf hZ rfl Ex7_b6
  obtain ⟨_, _, ⟨T9, L9, k9, n9⟩, -, X9, ⟨Lc9, hQ9, l9, y9, z9⟩, st9⟩ := X7.virtualBack hx (y := (⟨"com/example/tideglass/tideglass/history/Classification", "nmsi", "()Z"⟩ : MethodName)) (z := (⟨"com/example/tideglass/tideglass/history/Classification", "nmsi", "()Z"⟩ : MethodName)) hown (mvT hZ (hw _ (List.mem_of_getElem? (i := 24) rfl))) (mvT hZ (hw _ (List.mem_of_getElem? (i := 25) rfl))) (notFace_of_selects (args := #[]) (mvT hZ (hw _ (List.mem_of_getElem? (i := 27) rfl)))) (mvT hZ (hw _ (List.mem_of_getElem? (i := 27) rfl))) (mvT hZ (hw _ (List.mem_of_getElem? (i := 26) rfl))) (by decide) (backOf (W := 0) (rm4 l Z a0 hw [] b6 (nar .boolean (bit x0 1)) (nar .boolean (bit x0 2)) (nar .boolean (bit x0 16)) T7.heap n0 ZS7 Fq7_aca Fq7_cons Fq7_wcf) hZ (hw _ (List.mem_of_getElem? (i := 28) rfl)) (hw _ (List.mem_of_getElem? (i := 2) rfl)) (by decide) (by decide)) q9a q9c (g := (mkF m 98 #[.val (.int x0), .val (.int (bit x0 1)), .val (.int (bit x0 2)), .val (.int (bit x0 4)), .val (.int (bit x0 8)), .val (.int (bit x0 16)), .val (.ref b6), .val (.int v8_s0)] [(.ref b6)])) rfl (by rw [hml]; rfl) (Steps.refl _) (argsL := []) (rest := []) (lenOf pd_2 rfl) rfl (by show 2 * 0 + _ ≤ _; exact Nat.le_of_eq rfl) (hb hby at_98) (fun _ _ => ⟨rfl, rfl, (by decide : 1 + 0 ≤ _), (by decide : 5 + 0 ≤ _)⟩)
  dsimp only [Pt.U, Pt.locs, Pt.cells, Pt.slots] at X9 l9 y9 z9 st9 hQ9
  subst l9 y9 z9
  obtain ⟨rfl, N9q, e9⟩ := hQ9
  have N9 := Fr.app N7 N9q
  refine Go.tr (T' := T9) (f' := (mkF m 101 #[.val (.int x0), .val (.int (bit x0 1)), .val (.int (bit x0 2)), .val (.int (bit x0 4)), .val (.int (bit x0 8)), .val (.int (bit x0 16)), .val (.ref b6), .val (.int v8_s0)] [(.int (allV (nar .boolean (bit x0 1)) (nar .boolean (bit x0 2)) (nar .boolean (bit x0 16))))])) st9 ?_
  refine Go.of (T' := T9) (f' := (mkF m 103 #[.val (.int x0), .val (.int (bit x0 1)), .val (.int (bit x0 2)), .val (.int (bit x0 4)), .val (.int (bit x0 8)), .val (.int (bit x0 16)), .val (.ref b6), .val (.int v8_s0)] [(.int v8_s0), (.int (allV (nar .boolean (bit x0 1)) (nar .boolean (bit x0 2)) (nar .boolean (bit x0 16))))])) (fun t k => XS.iload X9.here hx rfl (hb hby at_101) rfl k) ?_
  have hc103 : (allV (nar .boolean (bit x0 1)) (nar .boolean (bit x0 2)) (nar .boolean (bit x0 16))) = v8_s0 := by simp only [nar_bit]; exact own_fin _ _ hexp
  refine Go.of (T' := T9) (f' := (mkF m 106 #[.val (.int x0), .val (.int (bit x0 1)), .val (.int (bit x0 2)), .val (.int (bit x0 4)), .val (.int (bit x0 8)), .val (.int (bit x0 16)), .val (.ref b6), .val (.int v8_s0)] [])) (fun t k => XS.icmpNo X9.here hx rfl (hb hby at_103) rfl ((teq hc103).2) k) ?_
  refine Go.of (T' := T9) (f' := (mkF m 107 #[.val (.int x0), .val (.int (bit x0 1)), .val (.int (bit x0 2)), .val (.int (bit x0 4)), .val (.int (bit x0 8)), .val (.int (bit x0 16)), .val (.ref b6), .val (.int v8_s0)] [(.int (1 : Int32))])) (fun t k => XS.iconst X9.here hx rfl (hb hby at_106) k) ?_
  refine Go.of (T' := T9) (f' := (mkF m 111 #[.val (.int x0), .val (.int (bit x0 1)), .val (.int (bit x0 2)), .val (.int (bit x0 4)), .val (.int (bit x0 8)), .val (.int (bit x0 16)), .val (.ref b6), .val (.int v8_s0)] [(.int (1 : Int32))])) (fun t k => XS.goto X9.here hx rfl (pc0 := 107) (pc' := 111) rfl (hb hby at_107) (by decide) (by decide) k) ?_
  refine Go.retZ X9 hx hk (t := .boolean) Bd.returns (by simp) (hb hby at_111) (by decide) (by decide) ?_
  rw [e9]
  exact ⟨rfl, N9⟩
set_option maxRecDepth 65536 in
set_option maxHeartbeats 40000000 in
theorem comes_1 {Post : Tables → Env → Array Value → State → Outcome → State → Prop} (hpost : ∀ tb e args s v u, (limb_1_1.after args s (.returned v) u = true ∧ limb_1_2.after args s (.returned v) u = true ∧ True) → FrameEnd s (.returned v) u (Jvm.fieldLocs frame_1_writes args s ++ Jvm.arrayLocs frame_1_arrays args s ++ Jvm.staticLocs frame_1_statics s) 16 128 → Post tb e args s (.returned v) u) :
    ArmFor flags0 classFile x code maxLocals ret World_1 tables_1 room_1 Calls_1 rest_1 Pre_1 Post := by
  intro l hfl _ _ p e ha hc hk s m args below hf hA hF happ hP
  obtain ⟨hcalls, hrest, hpre⟩ := hP
  obtain ⟨-, -, -, hnamed, -, -, -, hat⟩ := (Spec.applies_iff hf).mp happ
  obtain ⟨hg, hn⟩ := and_e (Cond.before_iff.mp (show (Jvm.Cond.and given_1 narrow_1).before args s = true from hpre))
  obtain ⟨g0, gr0⟩ := and_e hg
  have ga0 := gr0
  obtain ⟨w0, rfl⟩ : ∃ w0 : Value, args = #[w0] := by
    have hs : args.size = 1 := by simpa [Cond.value, given_1] using g0
    obtain ⟨L⟩ := args
    match L, hs with
    | [w0], _ => exact ⟨w0, rfl⟩
  have hw := fun d (hd : d ∈ tables_1) => atoms_spec (ws := Jvm.Cond.code x code maxLocals ret :: tables_1) hat d (List.mem_cons_of_mem _ hd)
  obtain ⟨i0, ei0⟩ := is_v ga0
  obtain rfl : w0 = (.int i0) := Option.some.inj ei0
  obtain ⟨n, o, h1, h2, h3, _, L, rfl, ⟨rfl, N⟩, hq⟩ := rm0 l s _ hw tables_1 i0 s.heap s.heap.size (Nat.le_refl _)  p e ha hc hk s m _ below hf ((Spec.applies_iff_loose hf).mp happ).1 ⟨rfl, State.Warmed39.refl s, rfl⟩ trivial
  refine ⟨n, _, h1, h2, h3, hpost _ _ _ _ _ _ ⟨Cond.after_iff.mpr rfl, Cond.after_iff.mpr (eq_i res_at (Term.int_eval (1)) rfl), trivial⟩ ⟨hq.1, hq.2.1, (hq.2.2.sift fun y hy => Or.inr (N y hy)).mono (by decide) (by decide)⟩⟩
theorem main_1_1 : Claimed_1_1 := comes_1 fun _ _ _ _ _ _ h hF => ⟨h.1, hF⟩
theorem main_1_2 : Claimed_1_2 := comes_1 fun _ _ _ _ _ _ h hF => ⟨h.2.1, hF⟩
end Jvm.Pilot.@@N@@
namespace Jvm.Pilot.@@N@@
open Jvm Jvm.ClassFile Sem Op Lib Jvm.Free Jvm.Stand Jvm.Pilot.@@N@@.Jvm.D
/-! MADE BY PROGRAM (witnessworld.py) out of the Statement's table words and the real class files: 10 classes; the members and pool entries that the words name. The judged class is class 1, her method 1. -/
namespace start1
open Jvm.ClassFile
def u (s : String) : CpInfo := .utf8 (stringToUtf16 s)
/-- a pool by its gaps: so many unusable entries, then the entry; so many at the end -/
def gap : Nat → List CpInfo → List CpInfo
  | 0, r => r
  | n + 1, r => .unusable :: gap n r
def poolList (es : List (Nat × CpInfo)) (last : Nat) : List CpInfo := es.foldr (fun e r => gap e.1 (e.2 :: r)) (gap last [])
def pool (es : List (Nat × CpInfo)) (last : Nat) : Array CpInfo := ⟨poolList es last⟩
def fileOf (pool : Array CpInfo) (this : Nat) (attrs : Array Attribute := #[]) (ms : Array MethodInfo := #[]) (fl : Nat := 33) (sup : Nat := 0) (ifs : Array Nat := #[]) (fds : Array FieldInfo := #[]) : ClassFile where
  minorVersion := 0
  majorVersion := 65
  constantPool := pool
  accessFlags := fl
  thisClass := this
  superClass := sup
  interfaces := ifs
  fields := fds
  methods := ms
  attributes := attrs
def plain (name : String) (sup : Option ClassId) : Class where
  name := name
  kind := .ordinary
  loader := none
  accessFlags := 33
  super := sup
  interfaces := #[]
  cf := none
  fields := #[]
  methods := #[]
  instanceTypes := #[]
  staticTypes := #[]
  resolved := #[]
  callSites := []
  init := .initialized
  statics := none
  mirror := none

def pool0 : Array CpInfo := pool [(5, u "<init>"), (0, u "()V"), (1, .class_ 10), (1, u "java/lang/Object")] 113

def k0c0 : Code := { maxStack := 0, maxLocals := 1, code := object_method_1_code, exceptionTable := #[], attributes := #[] }
def k0m0 : Method := { name := "<init>", desc := "()V", sig := { parameters := [], returnType := none }, accessFlags := 1, code := some k0c0 }
/-- java/lang/Object -/
def k0 : Class := { plain "java/lang/Object" none with
  accessFlags := 33
  interfaces := #[]
  cf := some (fileOf pool0 8 #[] #[{ accessFlags := 1, nameIndex := 5, descriptorIndex := 6, attributes := #[] }] 33 0 #[] #[])
  fields := #[]
  methods := #[k0m0]
  instanceTypes := #[]
  staticTypes := #[]
  resolved := Array.replicate 124 none
  statics := none }

def pool1 : Array CpInfo := pool [(2, .class_ 4), (1, u "java/lang/Object"), (0, u "<init>"), (0, u "()V"), (0, .class_ 8), (0, u "com/example/tideglass/tideglass/history/Classification"), (0, .methodref 7 10), (0, .nameAndType 5 11), (0, u "(ZZZZZ)V"), (0, .methodref 7 13), (0, .nameAndType 14 15), (0, u "nmsi"), (0, u "()Z"), (0, .class_ 17), (0, u "com/example/tideglass/tideglass/history/ClassificationNmsiPinLaw"), (2, u "law"), (0, u "(I)Z")] 3

def k1m0 : Method := { name := "<init>", desc := "()V", sig := { parameters := [], returnType := none }, accessFlags := 1, code := none }
def k1c1 : Code := { maxStack := 7, maxLocals := 8, code := code, exceptionTable := #[], attributes := #[] }
def k1m1 : Method := { name := "law", desc := "(I)Z", sig := { parameters := [.int], returnType := some .boolean }, accessFlags := 9, code := some k1c1 }
/-- com/example/tideglass/tideglass/history/ClassificationNmsiPinLaw -/
def k1 : Class := { plain "com/example/tideglass/tideglass/history/ClassificationNmsiPinLaw" (some 0) with
  accessFlags := 49
  interfaces := #[]
  cf := some (fileOf pool1 16 #[] #[{ accessFlags := 1, nameIndex := 5, descriptorIndex := 6, attributes := #[] }, { accessFlags := 9, nameIndex := 20, descriptorIndex := 21, attributes := #[] }] 49 2 #[] #[])
  fields := #[]
  methods := #[k1m0, k1m1]
  instanceTypes := #[]
  staticTypes := #[]
  resolved := Array.replicate 25 none
  statics := none }

def pool2 : Array CpInfo := pool [(1, .methodref 2 3), (0, .class_ 4), (0, .nameAndType 5 6), (0, u "java/lang/Object"), (0, u "<init>"), (0, u "()V"), (0, .class_ 8), (0, u "java/lang/Record")] 13

def k2c0 : Code := { maxStack := 1, maxLocals := 1, code := jdk_30_method_1_code, exceptionTable := #[], attributes := #[] }
def k2m0 : Method := { name := "<init>", desc := "()V", sig := { parameters := [], returnType := none }, accessFlags := 4, code := some k2c0 }
/-- java/lang/Record -/
def k2 : Class := { plain "java/lang/Record" (some 0) with
  accessFlags := 1057
  interfaces := #[]
  cf := some (fileOf pool2 7 #[] #[{ accessFlags := 4, nameIndex := 5, descriptorIndex := 6, attributes := #[] }] 1057 2 #[] #[])
  fields := #[]
  methods := #[k2m0]
  instanceTypes := #[]
  staticTypes := #[]
  resolved := Array.replicate 22 none
  statics := none }

def pool3 : Array CpInfo := pool [(1, .methodref 2 3), (0, .class_ 4), (0, .nameAndType 5 6), (0, u "java/lang/Record"), (0, u "<init>"), (0, u "()V"), (0, .fieldref 8 9), (0, .class_ 10), (0, .nameAndType 11 12), (0, u "com/example/tideglass/tideglass/history/Classification"), (0, u "aca"), (0, u "Z"), (0, .fieldref 8 14), (0, .nameAndType 15 12), (0, u "cons"), (0, .fieldref 8 17), (0, .nameAndType 18 12), (0, u "scons"), (0, .fieldref 8 20), (0, .nameAndType 21 12), (0, u "mon"), (0, .fieldref 8 23), (0, .nameAndType 24 12), (0, u "wcf"), (7, u "()Z"), (2, u "nmsi"), (20, u "(ZZZZZ)V")] 42

def k3c0 : Code := { maxStack := 2, maxLocals := 6, code := prog_19_method_1_code, exceptionTable := #[], attributes := #[] }
def k3m0 : Method := { name := "<init>", desc := "(ZZZZZ)V", sig := { parameters := [.boolean, .boolean, .boolean, .boolean, .boolean], returnType := none }, accessFlags := 1, code := some k3c0 }
def k3c1 : Code := { maxStack := 1, maxLocals := 1, code := prog_19_method_3_code, exceptionTable := #[], attributes := #[] }
def k3m1 : Method := { name := "nmsi", desc := "()Z", sig := { parameters := [], returnType := some .boolean }, accessFlags := 1, code := some k3c1 }
/-- com/example/tideglass/tideglass/history/Classification -/
def k3 : Class := { plain "com/example/tideglass/tideglass/history/Classification" (some 2) with
  accessFlags := 49
  interfaces := #[]
  cf := some (fileOf pool3 8 #[] #[{ accessFlags := 1, nameIndex := 5, descriptorIndex := 56, attributes := #[] }, { accessFlags := 1, nameIndex := 35, descriptorIndex := 32, attributes := #[] }] 49 2 #[] #[{ accessFlags := 18, nameIndex := 11, descriptorIndex := 12, attributes := #[] }, { accessFlags := 18, nameIndex := 15, descriptorIndex := 12, attributes := #[] }, { accessFlags := 18, nameIndex := 18, descriptorIndex := 12, attributes := #[] }, { accessFlags := 18, nameIndex := 21, descriptorIndex := 12, attributes := #[] }, { accessFlags := 18, nameIndex := 24, descriptorIndex := 12, attributes := #[] }])
  fields := #[{ name := "aca", type := .boolean, accessFlags := 18, slot := 0, constantValue := 0 }, { name := "cons", type := .boolean, accessFlags := 18, slot := 1, constantValue := 0 }, { name := "scons", type := .boolean, accessFlags := 18, slot := 2, constantValue := 0 }, { name := "mon", type := .boolean, accessFlags := 18, slot := 3, constantValue := 0 }, { name := "wcf", type := .boolean, accessFlags := 18, slot := 4, constantValue := 0 }]
  methods := #[k3m0, k3m1]
  instanceTypes := #[.boolean, .boolean, .boolean, .boolean, .boolean]
  staticTypes := #[]
  resolved := Array.replicate 99 none
  statics := none }

def pool4 : Array CpInfo := pool [(1, u "java/lang/Cloneable"), (0, .class_ 1), (0, u "java/lang/Object"), (0, .class_ 3)] 3

/-- java/lang/Cloneable -/
def k4 : Class := { plain "java/lang/Cloneable" (some 0) with
  accessFlags := 1537
  interfaces := #[]
  cf := some (fileOf pool4 2 #[] #[] 1537 4 #[] #[])
  fields := #[]
  methods := #[]
  instanceTypes := #[]
  staticTypes := #[]
  resolved := Array.replicate 8 none
  statics := none }

def pool5 : Array CpInfo := pool [(1, u "java/io/Serializable"), (0, .class_ 1), (0, u "java/lang/Object"), (0, .class_ 3)] 3

/-- java/io/Serializable -/
def k5 : Class := { plain "java/io/Serializable" (some 0) with
  accessFlags := 1537
  interfaces := #[]
  cf := some (fileOf pool5 2 #[] #[] 1537 4 #[] #[])
  fields := #[]
  methods := #[]
  instanceTypes := #[]
  staticTypes := #[]
  resolved := Array.replicate 8 none
  statics := none }

/-- the primitive byte -/
def k6 : Class := { plain "byte" none with kind := .primitive 'B', accessFlags := 0x411 }
/-- [B -/
def k7 : Class := { plain "[B" (some 0) with kind := .array 6 .byte, interfaces := #[4, 5], accessFlags := 1041 }

/-- the primitive int -/
def k8 : Class := { plain "int" none with kind := .primitive 'I', accessFlags := 0x411 }
/-- [I -/
def k9 : Class := { plain "[I" (some 0) with kind := .array 8 .int, interfaces := #[4, 5], accessFlags := 1041 }

def heap : Heap := #[]
def classes : Array Class := #[k0, k1, k2, k3, k4, k5, k6, k7, k8, k9]
def interned : List (Array UInt16 × Addr) := []
def slotsUsed : Nat := 0
def theMethod : MethodId := ⟨1, 1⟩
def args0 : Array Value := #[.int 5]
def aboutOver (below : List Frame) : State where
  vm := { classes := classes, interned := interned.toArray }
  heap := heap
  slotsUsed := slotsUsed
  threads := #[{ frames := .invoking theMethod args0 :: below }]
def below0 : List Frame := [.native { method := ⟨0, 0⟩, args := #[] }]
def about1 : State := aboutOver below0
def p0 : Program := .bare "" "" ""
def e0 : Env := launch0.env 0 0 0
theorem w_frames : about1.frames = Frame.invoking theMethod args0 :: below0 := rfl
set_option maxRecDepth 65536 in
theorem w_args : argsFit about1.vm theMethod args0 = true := by decide +kernel
set_option maxRecDepth 65536 in
theorem w_heap : heapFits about1 = true := by decide +kernel
set_option maxRecDepth 65536 in
theorem w_runnable : about1.curStatus? = some .runnable := by decide +kernel
set_option maxRecDepth 65536 in
theorem w_alone : about1.alone = true := by decide +kernel
set_option maxRecDepth 65536 in
theorem w_named : about1.methodNamed? x = some theMethod := by decide +kernel
set_option maxRecDepth 65536 in
theorem w_hears : about1.hears theMethod below0 = true := by decide +kernel
set_option maxRecDepth 65536 in
theorem w_ripe : about1.ripe theMethod args0 below0 = true := by decide +kernel
theorem w_running : about1.status = .running := rfl
set_option maxRecDepth 65536 in
theorem w_room : about1.hasRoom e0.platform room_1 = true :=
  launch0.hasRoom_least _ room_1 (by decide +kernel) (by decide +kernel) (by decide +kernel) (by decide +kernel) (by decide +kernel) (by decide +kernel)
theorem allAtoms_all (ts : List Jvm.Cond) (a : Array Jvm.Value) (st : Jvm.State) : (allAtoms ts).before a st = ts.all (fun c => c.before a st) := by
  induction ts with
  | nil => rfl
  | cons c t ih =>
    show (Jvm.Cond.and c (allAtoms t)).before a st = _
    rw [Jvm.Cond.before_and, ih, List.all_cons]
def words1 : List Jvm.Cond := Jvm.Cond.code x code maxLocals ret :: tables_1
/-- a 'code' word, met by the world's own term for the bytes: nothing is compared byte by byte -/
theorem code_word {y : MethodName} {bytes : ByteArray} {mx : Nat} {rt : Option FieldType} {a : Array Value} {s : State} {m : MethodId} {meth : Method} {c : Code} (h1 : s.methodNamed? y = some m) (h2 : s.vm.method? m = some meth) (h3 : meth.code = some c) (h4 : c.code = bytes)
    (h5 : (c.maxLocals == mx && c.exceptionTable.isEmpty && decide (c.maxStack ≤ mostOperands) && decide (meth.sig.returnType = rt) && !meth.locks && decide (parseMethodDescriptor y.desc = some meth.sig)) = true) : (Jvm.Cond.code y bytes mx rt).before a s = true := by
  simp only [Bool.and_eq_true, beq_iff_eq, Bool.not_eq_true', decide_eq_true_eq] at h5
  obtain ⟨⟨⟨⟨⟨g1, g2⟩, g3⟩, g4⟩, g5⟩, g6⟩ := h5
  simp [Cond.before, Cond.holds, Cond.value, h1, h2, h3, h4, g1, g2, g3, g4, g5, g6]
def isCode : Jvm.Cond → Bool
  | .code _ _ _ _ => true
  | _ => false
theorem all_split {L : List Jvm.Cond} {P : Jvm.Cond → Bool} (h1 : L.all (fun c => isCode c || P c) = true) (h2 : ∀ c ∈ L.filter isCode, P c = true) : L.all P = true := by
  refine List.all_eq_true.mpr fun c hc => ?_
  have h := List.all_eq_true.mp h1 c hc
  rcases Bool.eq_false_or_eq_true (isCode c) with hi | hi
  · exact h2 c (List.mem_filter.mpr ⟨hc, hi⟩)
  · simpa [hi] using h
set_option maxRecDepth 65536 in
theorem w_c0 : (Jvm.Cond.code x code maxLocals ret).before args0 about1 = true := code_word (m := ⟨1, 1⟩) (meth := k1m1) (c := k1c1) (by decide +kernel) rfl rfl rfl (by decide +kernel)
set_option maxRecDepth 65536 in
theorem w_c1 : (Jvm.Cond.code ({ cls := "com/example/tideglass/tideglass/history/Classification", name := "<init>", desc := "(ZZZZZ)V" } : Jvm.MethodName) prog_19_method_1_code (6 : Nat) (Option.none : Option Jvm.ClassFile.FieldType)).before args0 about1 = true := code_word (m := ⟨3, 0⟩) (meth := k3m0) (c := k3c0) (by decide +kernel) rfl rfl rfl (by decide +kernel)
set_option maxRecDepth 65536 in
theorem w_c2 : (Jvm.Cond.code ({ cls := "java/lang/Record", name := "<init>", desc := "()V" } : Jvm.MethodName) jdk_30_method_1_code (1 : Nat) (Option.none : Option Jvm.ClassFile.FieldType)).before args0 about1 = true := code_word (m := ⟨2, 0⟩) (meth := k2m0) (c := k2c0) (by decide +kernel) rfl rfl rfl (by decide +kernel)
set_option maxRecDepth 65536 in
theorem w_c3 : (Jvm.Cond.code ({ cls := "java/lang/Object", name := "<init>", desc := "()V" } : Jvm.MethodName) object_method_1_code (1 : Nat) (Option.none : Option Jvm.ClassFile.FieldType)).before args0 about1 = true := code_word (m := ⟨0, 0⟩) (meth := k0m0) (c := k0c0) (by decide +kernel) rfl rfl rfl (by decide +kernel)
set_option maxRecDepth 65536 in
theorem w_c4 : (Jvm.Cond.code ({ cls := "com/example/tideglass/tideglass/history/Classification", name := "nmsi", desc := "()Z" } : Jvm.MethodName) prog_19_method_3_code (1 : Nat) (Option.some Jvm.ClassFile.FieldType.boolean)).before args0 about1 = true := code_word (m := ⟨3, 1⟩) (meth := k3m1) (c := k3c1) (by decide +kernel) rfl rfl rfl (by decide +kernel)
def codes1 : List Jvm.Cond := [Jvm.Cond.code x code maxLocals ret, Jvm.Cond.code ({ cls := "com/example/tideglass/tideglass/history/Classification", name := "<init>", desc := "(ZZZZZ)V" } : Jvm.MethodName) prog_19_method_1_code (6 : Nat) (Option.none : Option Jvm.ClassFile.FieldType), Jvm.Cond.code ({ cls := "java/lang/Record", name := "<init>", desc := "()V" } : Jvm.MethodName) jdk_30_method_1_code (1 : Nat) (Option.none : Option Jvm.ClassFile.FieldType), Jvm.Cond.code ({ cls := "java/lang/Object", name := "<init>", desc := "()V" } : Jvm.MethodName) object_method_1_code (1 : Nat) (Option.none : Option Jvm.ClassFile.FieldType), Jvm.Cond.code ({ cls := "com/example/tideglass/tideglass/history/Classification", name := "nmsi", desc := "()Z" } : Jvm.MethodName) prog_19_method_3_code (1 : Nat) (Option.some Jvm.ClassFile.FieldType.boolean)]
set_option maxRecDepth 65536 in
theorem codes_eq : words1.filter isCode = codes1 := rfl
theorem w_codes : ∀ c ∈ words1.filter isCode, c.before args0 about1 = true := by
  rw [codes_eq]
  intro c hc
  simp only [codes1, List.mem_cons, List.not_mem_nil, or_false] at hc
  rcases hc with rfl | rfl | rfl | rfl | rfl
  · exact w_c0
  · exact w_c1
  · exact w_c2
  · exact w_c3
  · exact w_c4
set_option maxRecDepth 65536 in
theorem w_t1 : (words1.take 24).all (fun c => isCode c || c.before args0 about1) = true := by decide +kernel
set_option maxRecDepth 65536 in
theorem w_t2 : (words1.drop 24).all (fun c => isCode c || c.before args0 about1) = true := by decide +kernel
theorem w_tables : (allAtoms (Jvm.Cond.code x code maxLocals ret :: tables_1)).before args0 about1 = true := by
  rw [allAtoms_all]
  show words1.all (fun c => c.before args0 about1) = true
  refine all_split ?_ w_codes
  rw [← List.take_append_drop 24 words1, List.all_append, w_t1, w_t2]
  rfl
set_option maxRecDepth 65536 in
theorem w_case : (Jvm.Cond.and given_1 narrow_1).before args0 about1 = true := by decide +kernel
theorem w_applies : (headSpec (Jvm.Cond.code x code maxLocals ret :: tables_1) room_1).applies x e0.platform about1 = true :=
  (Spec.applies_iff w_frames).mpr ⟨w_running, w_runnable, w_alone, w_named, w_hears, w_ripe, w_room, w_tables⟩
theorem atStart : AtStart classFile x code maxLocals ret World_1 tables_1 room_1 Calls_1 rest_1 Pre_1 launch0 p0 e0 about1 theMethod args0 below0 :=
  ⟨lists_1, trivial, launch0.admits_env _ _ _, launch0.least_env, fairChoices_fair.cas, fairChoices_fair.clock, w_frames, w_args, w_heap, w_applies, trivial, trivial, w_case⟩
end start1
theorem witness_1 : WitnessClaimed_1 := ⟨start1.p0, start1.e0, start1.about1, start1.theMethod, start1.args0, start1.below0, start1.atStart⟩
end Jvm.Pilot.@@N@@
