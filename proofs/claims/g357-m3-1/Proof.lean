import JvmDerived
import JvmDerived.Pilot.@@N@@Statement
import JvmDerived.Pilot.@@N@@Code
set_option linter.unusedVariables false
set_option linter.unusedSimpArgs false
namespace Jvm.RoadKit
open Sem ClassFile Op Lib Jvm.Stand Jvm.Free Jvm.LawKit
section OwnGo
variable {p : Program} {l : Launch} {e : Env} {R : Room} {s : State} {m : MethodId} {args : Array Value} {below : List Frame} {meth : Method} {c : Code} {T T' : State} {locs : List Loc} {cells slots : Nat} {Z : State} {a0 : Array Value} {h h' : Heap}
/-- the walk comes to an end from here, and leaves what Q says -/
def Go (p : Program) (e : Env) (below : List Frame) (s : State) (Q : Option Value → Heap → List Loc → Prop) (nc ns : Nat) (T : State) (f : JFrame) : Prop :=
  ∃ s₂ o, Steps p.tables e below (T.setTop f) s₂ ∧ s₂.status = .running ∧ Ended s₂ below o ∧ ∃ v L, o = .returned v ∧ Q v s₂.heap L ∧ FrameEnd s o s₂ L nc ns
variable {Q : Option Value → Heap → List Loc → Prop} {nc ns : Nat}
theorem Go.of {f f' : JFrame} (k : ∀ t, Steps p.tables e below (T'.setTop f') t → Steps p.tables e below (T.setTop f) t) (g : Go p e below s Q nc ns T' f') : Go p e below s Q nc ns T f := by
  obtain ⟨s₂, o, h1, h2⟩ := g
  exact ⟨s₂, o, k _ h1, h2⟩
theorem Go.tr {f f' : JFrame} (k : Steps p.tables e below (T.setTop f) (T'.setTop f')) (g : Go p e below s Q nc ns T' f') : Go p e below s Q nc ns T f := by
  obtain ⟨s₂, o, h1, h2⟩ := g
  exact ⟨s₂, o, k.trans h1, h2⟩
theorem Go.cast {f f' : JFrame} (q : f = f') (g : Go p e below s Q nc ns T f') : Go p e below s Q nc ns T f := q ▸ g
theorem retI (X : Stand p l e R s m args below meth c T locs cells slots) (hx : p.tables.exec = Jvm.exec) {pc : Nat} {Ls : Array Slot} {z : Int32} {rest : List Value} (hret : meth.sig.returnType = some .int) (hd : decode c.code pc = .ok (.ireturn, 1)) {fs : List Frame}
    (hl : ∀ (f : JFrame) (acts : List Action), f.method = m → f.locked = none → f.entered = [] → (doReturn e (T.setTop f) acts (some (.int z))).1 = T.setFrames fs) : Steps p.tables e below (T.setTop (mkF m pc Ls (.int z :: rest))) (T.setFrames fs) :=
  retOut X hx hret rfl (Or.inl ⟨rfl, Or.inl rfl, _, rfl⟩) hd hl
theorem Go.end0 (X : Stand p l e R s m args below meth c T locs cells slots) (hk : meth.locks = false) {v : Option Value} (hv : meth.sig.returnType = none → v = none) {f : JFrame}
    (k : ∀ fs, (∀ (f : JFrame) (acts : List Action), f.method = m → f.locked = none → f.entered = [] → (doReturn e (T.setTop f) acts v).1 = T.setFrames fs) → Steps p.tables e below (T.setTop f) (T.setFrames fs))
    (hc : cells ≤ nc) (hs : slots ≤ ns) (hq : Q v T.heap locs) : Go p e below s Q nc ns T f := by
  obtain ⟨fs, hr, hrun, hended, hW, hsame⟩ := X.leave (v := v) hv
  exact ⟨_, _, k fs hr, hrun, hended, _, _, rfl, hq, ⟨_, rfl⟩, hW, hsame.mono hc hs⟩
theorem Go.retZ (X : Stand p l e R s m args below meth c T locs cells slots) (hx : p.tables.exec = Jvm.exec) (hk : meth.locks = false) {t : FieldType} (hret : meth.sig.returnType = some t) (ht : t = .boolean ∨ t = .byte ∨ t = .char ∨ t = .short) {pc : Nat} (hd : decode c.code pc = .ok (.ireturn, 1)) {Ls : Array Slot} {z : Int32} {rest : List Value}
    (hc : cells ≤ nc) (hs : slots ≤ ns) (hq : Q (some (.int (nar t z))) T.heap locs) : Go p e below s Q nc ns T (mkF m pc Ls (.int z :: rest)) :=
  Go.end0 X hk (fun q => by rw [hret] at q; cases q) (fun _ hr => retN X hx hret ht hd hr) hc hs hq
theorem Go.retI (X : Stand p l e R s m args below meth c T locs cells slots) (hx : p.tables.exec = Jvm.exec) (hk : meth.locks = false) (hret : meth.sig.returnType = some .int) {pc : Nat} (hd : decode c.code pc = .ok (.ireturn, 1)) {Ls : Array Slot} {z : Int32} {rest : List Value}
    (hc : cells ≤ nc) (hs : slots ≤ ns) (hq : Q (some (.int z)) T.heap locs) : Go p e below s Q nc ns T (mkF m pc Ls (.int z :: rest)) :=
  Go.end0 X hk (fun q => by rw [hret] at q; cases q) (fun _ hr => Jvm.RoadKit.retI X hx hret hd hr) hc hs hq
theorem Go.retJ (X : Stand p l e R s m args below meth c T locs cells slots) (hx : p.tables.exec = Jvm.exec) (hk : meth.locks = false) (hret : meth.sig.returnType = some .long) {pc : Nat} (hd : decode c.code pc = .ok (.lreturn, 1)) {Ls : Array Slot} {z : Int64} {rest : List Value}
    (hc : cells ≤ nc) (hs : slots ≤ ns) (hq : Q (some (.long z)) T.heap locs) : Go p e below s Q nc ns T (mkF m pc Ls (.long z :: rest)) :=
  Go.end0 X hk (fun q => by rw [hret] at q; cases q) (fun _ hr => retOut X hx hret rfl (Or.inr (Or.inl ⟨rfl, rfl, _, rfl⟩)) hd hr) hc hs hq
theorem Go.retA (X : Stand p l e R s m args below meth c T locs cells slots) (hx : p.tables.exec = Jvm.exec) (hk : meth.locks = false) {t : FieldType} (hret : meth.sig.returnType = some t) (ht : t.isReference = true) {pc : Nat} (hd : decode c.code pc = .ok (.areturn, 1)) {Ls : Array Slot} {a : Addr} {rest : List Value}
    (hc : cells ≤ nc) (hs : slots ≤ ns) (hq : Q (some (.ref a)) T.heap locs) : Go p e below s Q nc ns T (mkF m pc Ls (.ref a :: rest)) :=
  Go.end0 X hk (fun q => by rw [hret] at q; cases q) (fun _ hr => retOut X hx hret (by cases t <;> first | rfl | cases ht) (Or.inr (Or.inr (Or.inr (Or.inr ⟨rfl, ht, rfl⟩)))) hd hr) hc hs hq
theorem Go.retV (X : Stand p l e R s m args below meth c T locs cells slots) (hx : p.tables.exec = Jvm.exec) (hk : meth.locks = false) (hret : meth.sig.returnType = none) {pc : Nat} (hd : decode c.code pc = .ok (.return_, 1)) {Ls : Array Slot}
    (hc : cells ≤ nc) (hs : slots ≤ ns) (hq : Q none T.heap locs) : Go p e below s Q nc ns T (mkF m pc Ls []) :=
  Go.end0 X hk (fun _ => rfl) (fun _ hr => X.returnOut hx hret hd hr) hc hs hq
theorem lc_lt_t {x y : Int64} (q : x < y) : ifCond.holds .lt (lcmpW x y) = true := by rw [if0, lcW]; exact (tlt ((lc_lt x y).mpr q)).1
theorem lc_lt_f {x y : Int64} (q : ¬ x < y) : ifCond.holds .lt (lcmpW x y) = false := by rw [if0, lcW]; exact (flt (fun z => q ((lc_lt x y).mp z))).1
theorem lc_ge_f {x y : Int64} (q : x < y) : ifCond.holds .ge (lcmpW x y) = false := by rw [if0, lcW]; exact (tlt ((lc_lt x y).mpr q)).2.1
theorem lc_ge_t {x y : Int64} (q : ¬ x < y) : ifCond.holds .ge (lcmpW x y) = true := by rw [if0, lcW]; exact (flt (fun z => q ((lc_lt x y).mp z))).2.1
theorem lc_gt_t {x y : Int64} (q : y < x) : ifCond.holds .gt (lcmpW x y) = true := by rw [if0, lcW]; exact (tlt ((lc_gt x y).mpr q)).2.2.1
theorem lc_gt_f {x y : Int64} (q : ¬ y < x) : ifCond.holds .gt (lcmpW x y) = false := by rw [if0, lcW]; exact (flt (fun z => q ((lc_gt x y).mp z))).2.2.1
theorem lc_le_f {x y : Int64} (q : y < x) : ifCond.holds .le (lcmpW x y) = false := by rw [if0, lcW]; exact (tlt ((lc_gt x y).mpr q)).2.2.2
theorem lc_le_t {x y : Int64} (q : ¬ y < x) : ifCond.holds .le (lcmpW x y) = true := by rw [if0, lcW]; exact (flt (fun z => q ((lc_gt x y).mp z))).2.2.2
theorem lc_eq_t {x y : Int64} (q : x = y) : ifCond.holds .eq (lcmpW x y) = true := by rw [if0, lcW]; exact (teq ((lc_eq x y).mpr q)).1
theorem lc_eq_f {x y : Int64} (q : ¬ x = y) : ifCond.holds .eq (lcmpW x y) = false := by rw [if0, lcW]; exact (feq (fun z => q ((lc_eq x y).mp z))).1
theorem lc_ne_f {x y : Int64} (q : x = y) : ifCond.holds .ne (lcmpW x y) = false := by rw [if0, lcW]; exact (teq ((lc_eq x y).mpr q)).2
theorem lc_ne_t {x y : Int64} (q : ¬ x = y) : ifCond.holds .ne (lcmpW x y) = true := by rw [if0, lcW]; exact (feq (fun z => q ((lc_eq x y).mp z))).2
/-- an array of this kind that holds just these values -/
def VArr (Z : State) (h : Heap) (a : Addr) (ty : FieldType) (vs : List Value) : Prop := ∃ cl : Cell, Arr Z h a cl ty ∧ cl.slots = vs.toArray
variable {a b : Addr} {ty : FieldType} {vs : List Value} {sl : Nat} {v : Value} {ws : List Addr} {n : Int32}
theorem VArr.lt (F : VArr Z h a ty vs) : a < h.size := by obtain ⟨c, A, -⟩ := F; exact A.lt
theorem VArr.ext (F : VArr Z h a ty vs) (E : Ext h h') : VArr Z h' a ty vs := by obtain ⟨c, A, r⟩ := F; exact ⟨c, A.ext E, r⟩
theorem VArr.other (F : VArr Z h b ty vs) (W : Wr h h' a sl v) (q : b ≠ a) : VArr Z h' b ty vs := by obtain ⟨c, A, r⟩ := F; exact ⟨c, A.other W q, r⟩
theorem VArr.keep (F : VArr Z h a ty vs) (K : Keep h h' ws) (q : a ∉ ws) : VArr Z h' a ty vs := by obtain ⟨c, A, r⟩ := F; exact ⟨c, ⟨K.2.1 a c A.1 q, A.2⟩, r⟩
theorem VArr.new {k : ClassId} (A : Arr Z h a (newA k ty n) ty) : VArr Z h a ty (List.replicate n.toNatClampNeg (defaultValue ty)) := ⟨_, A, by simp [newA]⟩
theorem VArr.newL {k : ClassId} {i : Nat} (A : Arr Z h a (newA k ty n) ty) (hn : n.toNatClampNeg = i) : VArr Z h a ty (List.replicate i (defaultValue ty)) := hn ▸ VArr.new A
theorem VArr.wr (F : VArr Z h a ty vs) (W : Wr h h' a sl v) : VArr Z h' a ty (vs.set sl v) := by
  obtain ⟨c, A, r⟩ := F
  refine ⟨_, A.same W, ?_⟩
  show c.slots.setIfInBounds sl v = _
  rw [r]; simp
theorem VArr.inb {cl : Cell} {j : Int32} (r : cl.slots = vs.toArray) (hj : ¬ j < 0) (hi : j.toNatClampNeg < vs.length) : ¬ (j < 0 ∨ cl.slots.size ≤ j.toNatClampNeg) := by
  rw [r]; simp only [List.size_toArray]; rintro (q | q)
  · exact hj q
  · omega
theorem VArr.at {cl : Cell} {j : Int32} (r : cl.slots = vs.toArray) (hv : vs[j.toNatClampNeg]? = some v) : cl.slots[j.toNatClampNeg]? = some v := by rw [r]; simpa using hv
theorem lt_of_at {j : Nat} (hv : vs[j]? = some v) : j < vs.length := (List.getElem?_eq_some_iff.mp hv).1
theorem ldJ (X : Stand p l e R s m args below meth c T locs cells slots) (hx : p.tables.exec = Jvm.exec) (hZ : Z.Warmed39 s.vm) (eT : T.heap = h) (F : VArr Z h a .long vs) {j : Int32} {i : Nat} (hj : ¬ j < 0) (hji : j.toNatClampNeg = i) (hv : vs[i]? = some v)
    {g : JFrame} (hg : g.method = m) {rest : List Value} (hs : g.stack = .int j :: .ref a :: rest) (hd : decode c.code g.pc = .ok (.laload, 1)) (target : State)
    (hr : Steps p.tables e below (T.setTop { g with pc := g.pc + 1, stack := v :: rest }) target) : Steps p.tables e below (T.setTop g) target := by
  subst hji
  obtain ⟨cl, A, r⟩ := F
  exact X.laload hx (by rw [eT]; exact A.1) (State.isArrayOf_alike hZ.alike A.2.1) A.2.2 (VArr.inb r hj (lt_of_at hv)) (VArr.at r hv) hg hs hd target hr
theorem ldC (X : Stand p l e R s m args below meth c T locs cells slots) (hx : p.tables.exec = Jvm.exec) (hZ : Z.Warmed39 s.vm) (eT : T.heap = h) (F : VArr Z h a .char vs) {j : Int32} {i : Nat} (hj : ¬ j < 0) (hji : j.toNatClampNeg = i) (hv : vs[i]? = some v)
    {g : JFrame} (hg : g.method = m) {rest : List Value} (hs : g.stack = .int j :: .ref a :: rest) (hd : decode c.code g.pc = .ok (.caload, 1)) (target : State)
    (hr : Steps p.tables e below (T.setTop { g with pc := g.pc + 1, stack := v :: rest }) target) : Steps p.tables e below (T.setTop g) target := by
  subst hji
  obtain ⟨cl, A, r⟩ := F
  exact X.caload hx (by rw [eT]; exact A.1) (State.isArrayOf_alike hZ.alike A.2.1) A.2.2 (VArr.inb r hj (lt_of_at hv)) (VArr.at r hv) hg hs hd target hr
theorem ldB (X : Stand p l e R s m args below meth c T locs cells slots) (hx : p.tables.exec = Jvm.exec) (hZ : Z.Warmed39 s.vm) (eT : T.heap = h) (F : VArr Z h a .byte vs) {j : Int32} {i : Nat} (hj : ¬ j < 0) (hji : j.toNatClampNeg = i) (hv : vs[i]? = some v)
    {g : JFrame} (hg : g.method = m) {rest : List Value} (hs : g.stack = .int j :: .ref a :: rest) (hd : decode c.code g.pc = .ok (.baload, 1)) (target : State)
    (hr : Steps p.tables e below (T.setTop { g with pc := g.pc + 1, stack := v :: rest }) target) : Steps p.tables e below (T.setTop g) target := by
  subst hji
  obtain ⟨cl, A, r⟩ := F
  exact X.baloadBytes hx (by rw [eT]; exact A.1) (State.isArrayOf_alike hZ.alike A.2.1) A.2.2 (VArr.inb r hj (lt_of_at hv)) (VArr.at r hv) hg hs hd target hr
theorem lenV (X : Stand p l e R s m args below meth c T locs cells slots) (hx : p.tables.exec = Jvm.exec) (hZ : Z.Warmed39 s.vm) (eT : T.heap = h) (F : VArr Z h a ty vs) (hn : vs.length.toInt32 = n)
    {g : JFrame} (hg : g.method = m) {rest : List Value} (hs : g.stack = .ref a :: rest) (hd : decode c.code g.pc = .ok (.arraylength, 1)) (target : State)
    (hr : Steps p.tables e below (T.setTop { g with pc := g.pc + 1, stack := .int n :: rest }) target) : Steps p.tables e below (T.setTop g) target := by
  obtain ⟨cl, A, r⟩ := F
  refine X.arraylength hx (by rw [eT]; exact A.1) (State.isArrayOf_alike hZ.alike A.2.1) hg hs hd target ?_
  have q : cl.slots.size.toInt32 = n := by rw [r, ← hn]; simp
  rw [q]; exact hr
theorem saJ (X : Stand p l e R s m args below meth c T locs cells slots) (hx : p.tables.exec = Jvm.exec) (hZ : Z.Warmed39 s.vm) (eT : T.heap = h) (F : VArr Z h a .long vs) {j : Int32} {x : Int64} {i : Nat} (hj : ¬ j < 0) (hji : j.toNatClampNeg = i) (hi : i < vs.length)
    {g : JFrame} (hg : g.method = m) {rest : List Value} (hs : g.stack = .long x :: .int j :: .ref a :: rest) (hd : decode c.code g.pc = .ok (.lastore, 1)) :
    ∃ T' h', Stand p l e R s m args below meth c T' (locs ++ [⟨a, j.toNatClampNeg⟩]) cells slots ∧ T'.heap = h' ∧ Wr h h' a j.toNatClampNeg (.long x) ∧ VArr Z h' a .long (vs.set i (.long x)) ∧ ∀ target, Steps p.tables e below (T'.setTop { g with pc := g.pc + 1, stack := rest }) target → Steps p.tables e below (T.setTop g) target := by
  subst hji
  obtain ⟨cl, A, r⟩ := F
  obtain ⟨T', h', X', e', W, st⟩ := stJ X hx hZ eT A (x := x) (VArr.inb r hj hi) hg hs hd
  exact ⟨T', h', X', e', W, VArr.wr ⟨cl, A, r⟩ W, st⟩
theorem saC (X : Stand p l e R s m args below meth c T locs cells slots) (hx : p.tables.exec = Jvm.exec) (hZ : Z.Warmed39 s.vm) (eT : T.heap = h) (F : VArr Z h a .char vs) {j : Int32} {x : Int32} {i : Nat} (hj : ¬ j < 0) (hji : j.toNatClampNeg = i) (hi : i < vs.length)
    {g : JFrame} (hg : g.method = m) {rest : List Value} (hs : g.stack = .int x :: .int j :: .ref a :: rest) (hd : decode c.code g.pc = .ok (.castore, 1)) :
    ∃ T' h', Stand p l e R s m args below meth c T' (locs ++ [⟨a, j.toNatClampNeg⟩]) cells slots ∧ T'.heap = h' ∧ Wr h h' a j.toNatClampNeg (.int (nar .char x)) ∧ VArr Z h' a .char (vs.set i (.int (nar .char x))) ∧ ∀ target, Steps p.tables e below (T'.setTop { g with pc := g.pc + 1, stack := rest }) target → Steps p.tables e below (T.setTop g) target := by
  subst hji
  obtain ⟨cl, A, r⟩ := F
  obtain ⟨T', h', X', e', W, st⟩ := stC X hx hZ eT A (x := x) (VArr.inb r hj hi) hg hs hd
  exact ⟨T', h', X', e', W, VArr.wr ⟨cl, A, r⟩ W, st⟩
theorem saB (X : Stand p l e R s m args below meth c T locs cells slots) (hx : p.tables.exec = Jvm.exec) (hZ : Z.Warmed39 s.vm) (eT : T.heap = h) (F : VArr Z h a .byte vs) {j : Int32} {x : Int32} {i : Nat} (hj : ¬ j < 0) (hji : j.toNatClampNeg = i) (hi : i < vs.length)
    {g : JFrame} (hg : g.method = m) {rest : List Value} (hs : g.stack = .int x :: .int j :: .ref a :: rest) (hd : decode c.code g.pc = .ok (.bastore, 1)) :
    ∃ T' h', Stand p l e R s m args below meth c T' (locs ++ [⟨a, j.toNatClampNeg⟩]) cells slots ∧ T'.heap = h' ∧ Wr h h' a j.toNatClampNeg (.int (nar .byte x)) ∧ VArr Z h' a .byte (vs.set i (.int (nar .byte x))) ∧ ∀ target, Steps p.tables e below (T'.setTop { g with pc := g.pc + 1, stack := rest }) target → Steps p.tables e below (T.setTop g) target := by
  subst hji
  obtain ⟨cl, A, r⟩ := F
  obtain ⟨T', h', X', e', W, st⟩ := stB X hx hZ eT A (x := x) (VArr.inb r hj hi) hg hs hd
  exact ⟨T', h', X', e', W, VArr.wr ⟨cl, A, r⟩ W, st⟩
end OwnGo
end Jvm.RoadKit
namespace Jvm.Pilot.@@N@@
open Jvm Jvm.ClassFile Sem Op Lib Jvm.Free Jvm.Stand Jvm.LawKit Jvm.RoadKit Bundle Jvm.Pilot.@@N@@.Jvm.D
theorem d2_0 : decode jdk_30_method_1_code 0 = .ok (.aload_n 0, 1) := by decide +kernel
theorem d2_1 : decode jdk_30_method_1_code 1 = .ok (.invokespecial 1, 3) := by decide +kernel
theorem d2_4 : decode jdk_30_method_1_code 4 = .ok (.return_, 1) := by decide +kernel
theorem pn_0 : plainName "java/lang/Record" = true := by first | (simp [plainName, overriddenIn]; done) | decide +kernel
theorem ef_2 (m : MethodId) (x0 : Addr) : entryFrame m #[(.ref x0)] 1 = mkF m 0 #[.val (.ref x0)] [] := by first | (simp [entryFrame, mkF, argsToLocals, Value.category]; done) | rfl
def Q2 (Z : State) (x0 : Addr)  (h0 : Heap) (n0 : Nat) (v : Option Value) (h : Heap) (L : List Loc) : Prop := v = none ∧ Fr n0 L ∧ h = h0
set_option maxRecDepth 65536 in
set_option maxHeartbeats 40000000 in
theorem rm2 (l : Launch) (Z : State) (a0 : Array Value) (hw : ∀ d ∈ tables_1, d.before a0 Z = true) (ws : List Jvm.Cond) (x0 : Addr)  (h0 : Heap) (n0 : Nat) (Z0 : n0 ≤ h0.size)  :
    MetFree l (⟨"java/lang/Record", "<init>", "()V"⟩ : MethodName) (head1 (Jvm.Cond.code (⟨"java/lang/Record", "<init>", "()V"⟩ : MethodName) jdk_30_method_1_code 1 none :: ws) ({ frames := 1, cells := 0, slots := 0, locals := 12 } : Room)) (fun a U => a = #[(.ref x0)] ∧ Z.Warmed39 U.vm ∧ U.heap = h0) (fun _ _ _ _ _ => True) (fun _ U o U' => ∃ v L, o = .returned v ∧ Q2 Z x0 h0 n0 v U'.heap L ∧ FrameEnd U o U' L ({ frames := 1, cells := 0, slots := 0, locals := 12 } : Room).cells ({ frames := 1, cells := 0, slots := 0, locals := 12 } : Room).slots) := by
  refine MetFree.of_bodySF (plainFor_of_name pn_0) hisR ?_
  intro p e s m args below meth c s₁ Bd hml0 hP hK
  obtain ⟨rfl, hZ, hh⟩ := hP
  have hx := Bd.exec
  have hby := Bd.bytes
  have hml : c.maxLocals = 1 := hml0
  have hown : s.vm.findClass "java/lang/Record" = some m.cls := findClass_of_methodNamed Bd.named
  have hnm := (name_of_methodNamed Bd.named Bd.method).1
  have hk : meth.locks = false := BodyLoose.notSynchronized Bd
  have X0 : Stand p l e ({ frames := 1, cells := 0, slots := 0, locals := 12 } : Room) s m #[(.ref x0)] below meth c s₁ [] 0 0 := Stand.of_body Bd
  have e0 : s₁.heap = h0 := by rw [← hh, Bd.state]; rfl
  have N0 := Fr.nil n0
  show Go p e below s (Q2 Z x0 h0 n0) ({ frames := 1, cells := 0, slots := 0, locals := 12 } : Room).cells ({ frames := 1, cells := 0, slots := 0, locals := 12 } : Room).slots s₁ (entryFrame m #[(.ref x0)] 1)
  refine Go.cast (ef_2 m x0) ?_
  refine Go.of (T' := s₁) (f' := (mkF m 1 #[.val (.ref x0)] [(.ref x0)])) (fun t k => XS.aloadN X0.here hx rfl (hb hby d2_0) rfl rfl k) ?_
  obtain ⟨T1, X1, e1, st1⟩ := initO X0 hx hZ hown (hw _ (List.mem_of_getElem? (i := 11) rfl)) (hw _ (List.mem_of_getElem? (i := 12) rfl)) (hw _ (List.mem_of_getElem? (i := 13) rfl)) e0 (g := (mkF m 1 #[.val (.ref x0)] [(.ref x0)])) rfl (by rw [hml]; rfl) rfl (hb hby d2_1) (by decide) (W := 0) (by show 2 * 0 + _ ≤ _; exact Nat.le_of_eq rfl) (by decide)
  refine Go.of (T' := T1) (f' := (mkF m 4 #[.val (.ref x0)] [])) (fun t k => st1 t k) ?_
  refine Go.retV X1 hx hk Bd.returns (hb hby d2_4) (by decide) (by decide) ?_
  rw [e1]
  exact ⟨rfl, N0, rfl⟩
theorem pd_0 : parseMethodDescriptor "()V" = some ⟨[], none⟩ := by decide +kernel
theorem d1_0 : decode prog_11_method_1_code 0 = .ok (.aload_n 0, 1) := by decide +kernel
theorem d1_1 : decode prog_11_method_1_code 1 = .ok (.invokespecial 1, 3) := by decide +kernel
theorem d1_4 : decode prog_11_method_1_code 4 = .ok (.aload_n 0, 1) := by decide +kernel
theorem d1_5 : decode prog_11_method_1_code 5 = .ok (.lload_n 1, 1) := by decide +kernel
theorem d1_6 : decode prog_11_method_1_code 6 = .ok (.putfield 7, 3) := by decide +kernel
theorem d1_9 : decode prog_11_method_1_code 9 = .ok (.aload_n 0, 1) := by decide +kernel
theorem d1_10 : decode prog_11_method_1_code 10 = .ok (.lload_n 3, 1) := by decide +kernel
theorem d1_11 : decode prog_11_method_1_code 11 = .ok (.putfield 13, 3) := by decide +kernel
theorem d1_14 : decode prog_11_method_1_code 14 = .ok (.aload_n 0, 1) := by decide +kernel
theorem d1_15 : decode prog_11_method_1_code 15 = .ok (.lload 5, 2) := by decide +kernel
theorem d1_17 : decode prog_11_method_1_code 17 = .ok (.putfield 16, 3) := by decide +kernel
theorem d1_20 : decode prog_11_method_1_code 20 = .ok (.aload_n 0, 1) := by decide +kernel
theorem d1_21 : decode prog_11_method_1_code 21 = .ok (.lload 7, 2) := by decide +kernel
theorem d1_23 : decode prog_11_method_1_code 23 = .ok (.putfield 19, 3) := by decide +kernel
theorem d1_26 : decode prog_11_method_1_code 26 = .ok (.return_, 1) := by decide +kernel
theorem pn_1 : plainName "com/example/solofast/solofast/Counts" = true := by first | (simp [plainName, overriddenIn]; done) | decide +kernel
theorem ef_1 (m : MethodId) (x0 : Addr) (x1 : Int64) (x2 : Int64) (x3 : Int64) (x4 : Int64) : entryFrame m #[(.ref x0), (.long x1), (.long x2), (.long x3), (.long x4)] 9 = mkF m 0 #[.val (.ref x0), .val (.long x1), .second, .val (.long x2), .second, .val (.long x3), .second, .val (.long x4), .second] [] := by first | (simp [entryFrame, mkF, argsToLocals, Value.category]; done) | rfl
def Q1 (Z : State) (x0 : Addr) (x1 : Int64) (x2 : Int64) (x3 : Int64) (x4 : Int64) (u_reads : Value) (u_writes : Value) (u_cas : Value) (u_updates : Value) (h0 : Heap) (n0 : Nat) (v : Option Value) (h : Heap) (L : List Loc) : Prop := v = none ∧ Fr n0 L ∧ Keep h0 h [x0] ∧ Fld Z h x0 "com/example/solofast/solofast/Counts" "reads" "J" (.long x1) ∧ Fld Z h x0 "com/example/solofast/solofast/Counts" "writes" "J" (.long x2) ∧ Fld Z h x0 "com/example/solofast/solofast/Counts" "cas" "J" (.long x3) ∧ Fld Z h x0 "com/example/solofast/solofast/Counts" "updates" "J" (.long x4)
set_option maxRecDepth 65536 in
set_option maxHeartbeats 40000000 in
theorem rm1 (l : Launch) (Z : State) (a0 : Array Value) (hw : ∀ d ∈ tables_1, d.before a0 Z = true) (ws : List Jvm.Cond) (x0 : Addr) (x1 : Int64) (x2 : Int64) (x3 : Int64) (x4 : Int64) (u_reads : Value) (u_writes : Value) (u_cas : Value) (u_updates : Value) (h0 : Heap) (n0 : Nat) (Z0 : n0 ≤ h0.size) (E_a : Exa Z h0 x0 "com/example/solofast/solofast/Counts") (g_a : n0 ≤ x0) (F_reads : Fld Z h0 x0 "com/example/solofast/solofast/Counts" "reads" "J" u_reads) (F_writes : Fld Z h0 x0 "com/example/solofast/solofast/Counts" "writes" "J" u_writes) (F_cas : Fld Z h0 x0 "com/example/solofast/solofast/Counts" "cas" "J" u_cas) (F_updates : Fld Z h0 x0 "com/example/solofast/solofast/Counts" "updates" "J" u_updates) :
    MetFree l (⟨"com/example/solofast/solofast/Counts", "<init>", "(JJJJ)V"⟩ : MethodName) (head1 (Jvm.Cond.code (⟨"com/example/solofast/solofast/Counts", "<init>", "(JJJJ)V"⟩ : MethodName) prog_11_method_1_code 9 none :: ws) ({ frames := 2, cells := 0, slots := 0, locals := 24 } : Room)) (fun a U => a = #[(.ref x0), (.long x1), (.long x2), (.long x3), (.long x4)] ∧ Z.Warmed39 U.vm ∧ U.heap = h0) (fun _ _ _ _ _ => True) (fun _ U o U' => ∃ v L, o = .returned v ∧ Q1 Z x0 x1 x2 x3 x4 u_reads u_writes u_cas u_updates h0 n0 v U'.heap L ∧ FrameEnd U o U' L ({ frames := 2, cells := 0, slots := 0, locals := 24 } : Room).cells ({ frames := 2, cells := 0, slots := 0, locals := 24 } : Room).slots) := by
  refine MetFree.of_bodySF (plainFor_of_name pn_1) hisR ?_
  intro p e s m args below meth c s₁ Bd hml0 hP hK
  obtain ⟨rfl, hZ, hh⟩ := hP
  have hx := Bd.exec
  have hby := Bd.bytes
  have hml : c.maxLocals = 9 := hml0
  have hown : s.vm.findClass "com/example/solofast/solofast/Counts" = some m.cls := findClass_of_methodNamed Bd.named
  have hnm := (name_of_methodNamed Bd.named Bd.method).1
  have hk : meth.locks = false := BodyLoose.notSynchronized Bd
  have X0 : Stand p l e ({ frames := 2, cells := 0, slots := 0, locals := 24 } : Room) s m #[(.ref x0), (.long x1), (.long x2), (.long x3), (.long x4)] below meth c s₁ [] 0 0 := Stand.of_body Bd
  have e0 : s₁.heap = h0 := by rw [← hh, Bd.state]; rfl
  have N0 := Fr.nil n0
  show Go p e below s (Q1 Z x0 x1 x2 x3 x4 u_reads u_writes u_cas u_updates h0 n0) ({ frames := 2, cells := 0, slots := 0, locals := 24 } : Room).cells ({ frames := 2, cells := 0, slots := 0, locals := 24 } : Room).slots s₁ (entryFrame m #[(.ref x0), (.long x1), (.long x2), (.long x3), (.long x4)] 9)
  refine Go.cast (ef_1 m x0 x1 x2 x3 x4) ?_
  refine Go.of (T' := s₁) (f' := (mkF m 1 #[.val (.ref x0), .val (.long x1), .second, .val (.long x2), .second, .val (.long x3), .second, .val (.long x4), .second] [(.ref x0)])) (fun t k => XS.aloadN X0.here hx rfl (hb hby d1_0) rfl rfl k) ?_
  obtain ⟨_, _, ⟨T1, L1, k1, n1⟩, -, X1, ⟨Lc1, hQ1, l1, y1, z1⟩, st1⟩ := X0.specialBack hx (y := (⟨"java/lang/Record", "<init>", "()V"⟩ : MethodName)) rfl hown (mvT hZ (hw _ (List.mem_of_getElem? (i := 6) rfl))) (mvT hZ (hw _ (List.mem_of_getElem? (i := 7) rfl))) (mvT hZ (hw _ (List.mem_of_getElem? (i := 10) rfl))) (by decide) (backOf (W := 0) (rm2 l Z a0 hw [] x0 h0 n0 Z0 ) hZ (hw _ (List.mem_of_getElem? (i := 10) rfl)) (hw _ (List.mem_of_getElem? (i := 9) rfl)) (by decide) (by decide)) (g := (mkF m 1 #[.val (.ref x0), .val (.long x1), .second, .val (.long x2), .second, .val (.long x3), .second, .val (.long x4), .second] [(.ref x0)])) rfl (by rw [hml]; rfl) (Steps.refl _) (a := x0) (argsL := []) (rest := []) (lenOf pd_0 rfl) rfl (by show 2 * 0 + _ ≤ _; exact Nat.le_of_eq rfl) (hb hby d1_1) (fun _ _ => ⟨rfl, e0, (by decide : 0 + 0 ≤ _), (by decide : 0 + 0 ≤ _)⟩)
  dsimp only [Pt.U, Pt.locs, Pt.cells, Pt.slots] at X1 l1 y1 z1 st1 hQ1
  subst l1 y1 z1
  obtain ⟨rfl, N1q, e1⟩ := hQ1
  have N1 := Fr.app N0 N1q
  refine Go.tr (T' := T1) (f' := (mkF m 4 #[.val (.ref x0), .val (.long x1), .second, .val (.long x2), .second, .val (.long x3), .second, .val (.long x4), .second] [])) st1 ?_
  refine Go.of (T' := T1) (f' := (mkF m 5 #[.val (.ref x0), .val (.long x1), .second, .val (.long x2), .second, .val (.long x3), .second, .val (.long x4), .second] [(.ref x0)])) (fun t k => XS.aloadN X1.here hx rfl (hb hby d1_4) rfl rfl k) ?_
  refine Go.of (T' := T1) (f' := (mkF m 6 #[.val (.ref x0), .val (.long x1), .second, .val (.long x2), .second, .val (.long x3), .second, .val (.long x4), .second] [(.long x1), (.ref x0)])) (fun t k => XS.lloadN X1.here hx rfl (hb hby d1_5) rfl k) ?_
  obtain ⟨T2, h2, X2, e2, W2, st2⟩ := putF X1 hx hZ hown (host := "") (Or.inl (hw _ (List.mem_of_getElem? (i := 14) rfl))) Via.refl e1 F_reads E_a (Or.inr ⟨(hw _ (List.mem_of_getElem? (i := 15) rfl)), rfl, hnm⟩) (hw _ (List.mem_of_getElem? (i := 1) rfl)) (ty := .long) (by decide) rfl rfl (g := (mkF m 6 #[.val (.ref x0), .val (.long x1), .second, .val (.long x2), .second, .val (.long x3), .second, .val (.long x4), .second] [(.long x1), (.ref x0)])) rfl rfl (hb hby d1_6)
  have Fw2 : Fld Z h2 x0 "com/example/solofast/solofast/Counts" "reads" "J" (.long x1) := F_reads.same W2
  have F2_x0_writes : Fld Z h2 x0 "com/example/solofast/solofast/Counts" "writes" "J" u_writes := F_writes.other W2 (Or.inr (slot_ne (Or.inr (hw _ (List.mem_of_getElem? (i := 17) rfl))) (Or.inr (hw _ (List.mem_of_getElem? (i := 15) rfl))) (by decide) (t := .long) (t' := .long) (by decide) (by decide)))
  have F2_x0_cas : Fld Z h2 x0 "com/example/solofast/solofast/Counts" "cas" "J" u_cas := F_cas.other W2 (Or.inr (slot_ne (Or.inr (hw _ (List.mem_of_getElem? (i := 19) rfl))) (Or.inr (hw _ (List.mem_of_getElem? (i := 15) rfl))) (by decide) (t := .long) (t' := .long) (by decide) (by decide)))
  have F2_x0_updates : Fld Z h2 x0 "com/example/solofast/solofast/Counts" "updates" "J" u_updates := F_updates.other W2 (Or.inr (slot_ne (Or.inr (hw _ (List.mem_of_getElem? (i := 21) rfl))) (Or.inr (hw _ (List.mem_of_getElem? (i := 15) rfl))) (by decide) (t := .long) (t' := .long) (by decide) (by decide)))
  have Ex2_x0 : Exa Z h2 x0 "com/example/solofast/solofast/Counts" := E_a.wr W2
  have N2 := Fr.snoc X2 N1 g_a
  have KK2 : Keep h0 h2 [x0] := (Keep.refl h0 [x0]).wr W2 (Or.inl (List.mem_of_getElem? (i := 0) rfl))
  have ZS2 : n0 ≤ h2.size := Nat.le_trans Z0 (Keep.of_wr W2).1
  refine Go.of (T' := T2) (f' := (mkF m 9 #[.val (.ref x0), .val (.long x1), .second, .val (.long x2), .second, .val (.long x3), .second, .val (.long x4), .second] [])) (fun t k => st2 t k) ?_
  refine Go.of (T' := T2) (f' := (mkF m 10 #[.val (.ref x0), .val (.long x1), .second, .val (.long x2), .second, .val (.long x3), .second, .val (.long x4), .second] [(.ref x0)])) (fun t k => XS.aloadN X2.here hx rfl (hb hby d1_9) rfl rfl k) ?_
  refine Go.of (T' := T2) (f' := (mkF m 11 #[.val (.ref x0), .val (.long x1), .second, .val (.long x2), .second, .val (.long x3), .second, .val (.long x4), .second] [(.long x2), (.ref x0)])) (fun t k => XS.lloadN X2.here hx rfl (hb hby d1_10) rfl k) ?_
  obtain ⟨T3, h3, X3, e3, W3, st3⟩ := putF X2 hx hZ hown (host := "") (Or.inl (hw _ (List.mem_of_getElem? (i := 16) rfl))) Via.refl e2 F2_x0_writes Ex2_x0 (Or.inr ⟨(hw _ (List.mem_of_getElem? (i := 17) rfl)), rfl, hnm⟩) (hw _ (List.mem_of_getElem? (i := 1) rfl)) (ty := .long) (by decide) rfl rfl (g := (mkF m 11 #[.val (.ref x0), .val (.long x1), .second, .val (.long x2), .second, .val (.long x3), .second, .val (.long x4), .second] [(.long x2), (.ref x0)])) rfl rfl (hb hby d1_11)
  have Fw3 : Fld Z h3 x0 "com/example/solofast/solofast/Counts" "writes" "J" (.long x2) := F2_x0_writes.same W3
  have F3_x0_reads : Fld Z h3 x0 "com/example/solofast/solofast/Counts" "reads" "J" (.long x1) := Fw2.other W3 (Or.inr (slot_ne (Or.inr (hw _ (List.mem_of_getElem? (i := 15) rfl))) (Or.inr (hw _ (List.mem_of_getElem? (i := 17) rfl))) (by decide) (t := .long) (t' := .long) (by decide) (by decide)))
  have F3_x0_cas : Fld Z h3 x0 "com/example/solofast/solofast/Counts" "cas" "J" u_cas := F2_x0_cas.other W3 (Or.inr (slot_ne (Or.inr (hw _ (List.mem_of_getElem? (i := 19) rfl))) (Or.inr (hw _ (List.mem_of_getElem? (i := 17) rfl))) (by decide) (t := .long) (t' := .long) (by decide) (by decide)))
  have F3_x0_updates : Fld Z h3 x0 "com/example/solofast/solofast/Counts" "updates" "J" u_updates := F2_x0_updates.other W3 (Or.inr (slot_ne (Or.inr (hw _ (List.mem_of_getElem? (i := 21) rfl))) (Or.inr (hw _ (List.mem_of_getElem? (i := 17) rfl))) (by decide) (t := .long) (t' := .long) (by decide) (by decide)))
  have Ex3_x0 : Exa Z h3 x0 "com/example/solofast/solofast/Counts" := Ex2_x0.wr W3
  have N3 := Fr.snoc X3 N2 g_a
  have KK3 : Keep h0 h3 [x0] := KK2.wr W3 (Or.inl (List.mem_of_getElem? (i := 0) rfl))
  have ZS3 : n0 ≤ h3.size := Nat.le_trans ZS2 (Keep.of_wr W3).1
  refine Go.of (T' := T3) (f' := (mkF m 14 #[.val (.ref x0), .val (.long x1), .second, .val (.long x2), .second, .val (.long x3), .second, .val (.long x4), .second] [])) (fun t k => st3 t k) ?_
  refine Go.of (T' := T3) (f' := (mkF m 15 #[.val (.ref x0), .val (.long x1), .second, .val (.long x2), .second, .val (.long x3), .second, .val (.long x4), .second] [(.ref x0)])) (fun t k => XS.aloadN X3.here hx rfl (hb hby d1_14) rfl rfl k) ?_
  refine Go.of (T' := T3) (f' := (mkF m 17 #[.val (.ref x0), .val (.long x1), .second, .val (.long x2), .second, .val (.long x3), .second, .val (.long x4), .second] [(.long x3), (.ref x0)])) (fun t k => XS.lload X3.here hx rfl (hb hby d1_15) rfl k) ?_
  obtain ⟨T4, h4, X4, e4, W4, st4⟩ := putF X3 hx hZ hown (host := "") (Or.inl (hw _ (List.mem_of_getElem? (i := 18) rfl))) Via.refl e3 F3_x0_cas Ex3_x0 (Or.inr ⟨(hw _ (List.mem_of_getElem? (i := 19) rfl)), rfl, hnm⟩) (hw _ (List.mem_of_getElem? (i := 1) rfl)) (ty := .long) (by decide) rfl rfl (g := (mkF m 17 #[.val (.ref x0), .val (.long x1), .second, .val (.long x2), .second, .val (.long x3), .second, .val (.long x4), .second] [(.long x3), (.ref x0)])) rfl rfl (hb hby d1_17)
  have Fw4 : Fld Z h4 x0 "com/example/solofast/solofast/Counts" "cas" "J" (.long x3) := F3_x0_cas.same W4
  have F4_x0_reads : Fld Z h4 x0 "com/example/solofast/solofast/Counts" "reads" "J" (.long x1) := F3_x0_reads.other W4 (Or.inr (slot_ne (Or.inr (hw _ (List.mem_of_getElem? (i := 15) rfl))) (Or.inr (hw _ (List.mem_of_getElem? (i := 19) rfl))) (by decide) (t := .long) (t' := .long) (by decide) (by decide)))
  have F4_x0_writes : Fld Z h4 x0 "com/example/solofast/solofast/Counts" "writes" "J" (.long x2) := Fw3.other W4 (Or.inr (slot_ne (Or.inr (hw _ (List.mem_of_getElem? (i := 17) rfl))) (Or.inr (hw _ (List.mem_of_getElem? (i := 19) rfl))) (by decide) (t := .long) (t' := .long) (by decide) (by decide)))
  have F4_x0_updates : Fld Z h4 x0 "com/example/solofast/solofast/Counts" "updates" "J" u_updates := F3_x0_updates.other W4 (Or.inr (slot_ne (Or.inr (hw _ (List.mem_of_getElem? (i := 21) rfl))) (Or.inr (hw _ (List.mem_of_getElem? (i := 19) rfl))) (by decide) (t := .long) (t' := .long) (by decide) (by decide)))
  have Ex4_x0 : Exa Z h4 x0 "com/example/solofast/solofast/Counts" := Ex3_x0.wr W4
  have N4 := Fr.snoc X4 N3 g_a
  have KK4 : Keep h0 h4 [x0] := KK3.wr W4 (Or.inl (List.mem_of_getElem? (i := 0) rfl))
  have ZS4 : n0 ≤ h4.size := Nat.le_trans ZS3 (Keep.of_wr W4).1
  refine Go.of (T' := T4) (f' := (mkF m 20 #[.val (.ref x0), .val (.long x1), .second, .val (.long x2), .second, .val (.long x3), .second, .val (.long x4), .second] [])) (fun t k => st4 t k) ?_
  refine Go.of (T' := T4) (f' := (mkF m 21 #[.val (.ref x0), .val (.long x1), .second, .val (.long x2), .second, .val (.long x3), .second, .val (.long x4), .second] [(.ref x0)])) (fun t k => XS.aloadN X4.here hx rfl (hb hby d1_20) rfl rfl k) ?_
  refine Go.of (T' := T4) (f' := (mkF m 23 #[.val (.ref x0), .val (.long x1), .second, .val (.long x2), .second, .val (.long x3), .second, .val (.long x4), .second] [(.long x4), (.ref x0)])) (fun t k => XS.lload X4.here hx rfl (hb hby d1_21) rfl k) ?_
  obtain ⟨T5, h5, X5, e5, W5, st5⟩ := putF X4 hx hZ hown (host := "") (Or.inl (hw _ (List.mem_of_getElem? (i := 20) rfl))) Via.refl e4 F4_x0_updates Ex4_x0 (Or.inr ⟨(hw _ (List.mem_of_getElem? (i := 21) rfl)), rfl, hnm⟩) (hw _ (List.mem_of_getElem? (i := 1) rfl)) (ty := .long) (by decide) rfl rfl (g := (mkF m 23 #[.val (.ref x0), .val (.long x1), .second, .val (.long x2), .second, .val (.long x3), .second, .val (.long x4), .second] [(.long x4), (.ref x0)])) rfl rfl (hb hby d1_23)
  have Fw5 : Fld Z h5 x0 "com/example/solofast/solofast/Counts" "updates" "J" (.long x4) := F4_x0_updates.same W5
  have F5_x0_reads : Fld Z h5 x0 "com/example/solofast/solofast/Counts" "reads" "J" (.long x1) := F4_x0_reads.other W5 (Or.inr (slot_ne (Or.inr (hw _ (List.mem_of_getElem? (i := 15) rfl))) (Or.inr (hw _ (List.mem_of_getElem? (i := 21) rfl))) (by decide) (t := .long) (t' := .long) (by decide) (by decide)))
  have F5_x0_writes : Fld Z h5 x0 "com/example/solofast/solofast/Counts" "writes" "J" (.long x2) := F4_x0_writes.other W5 (Or.inr (slot_ne (Or.inr (hw _ (List.mem_of_getElem? (i := 17) rfl))) (Or.inr (hw _ (List.mem_of_getElem? (i := 21) rfl))) (by decide) (t := .long) (t' := .long) (by decide) (by decide)))
  have F5_x0_cas : Fld Z h5 x0 "com/example/solofast/solofast/Counts" "cas" "J" (.long x3) := Fw4.other W5 (Or.inr (slot_ne (Or.inr (hw _ (List.mem_of_getElem? (i := 19) rfl))) (Or.inr (hw _ (List.mem_of_getElem? (i := 21) rfl))) (by decide) (t := .long) (t' := .long) (by decide) (by decide)))
  have Ex5_x0 : Exa Z h5 x0 "com/example/solofast/solofast/Counts" := Ex4_x0.wr W5
  have N5 := Fr.snoc X5 N4 g_a
  have KK5 : Keep h0 h5 [x0] := KK4.wr W5 (Or.inl (List.mem_of_getElem? (i := 0) rfl))
  have ZS5 : n0 ≤ h5.size := Nat.le_trans ZS4 (Keep.of_wr W5).1
  refine Go.of (T' := T5) (f' := (mkF m 26 #[.val (.ref x0), .val (.long x1), .second, .val (.long x2), .second, .val (.long x3), .second, .val (.long x4), .second] [])) (fun t k => st5 t k) ?_
  refine Go.retV X5 hx hk Bd.returns (hb hby d1_26) (by decide) (by decide) ?_
  rw [e5]
  exact ⟨rfl, N5, KK5, F5_x0_reads, F5_x0_writes, F5_x0_cas, Fw5⟩
def stp (a b c d : Int64) : Int64 := a + b + c + d
theorem stp0 (a : Int64) : stp a 0 0 0 = a := by simp [stp]
theorem stp1 (a : Int64) : stp 0 a 0 0 = a := by simp [stp]
theorem stp2 (a : Int64) : stp 0 0 a 0 = a := by simp [stp]
theorem stp3 (a : Int64) : stp 0 0 0 a = a := by simp [stp]
theorem d4_0 : decode prog_11_method_2_code 0 = .ok (.aload_n 0, 1) := by decide +kernel
theorem d4_1 : decode prog_11_method_2_code 1 = .ok (.getfield 7, 3) := by decide +kernel
theorem d4_4 : decode prog_11_method_2_code 4 = .ok (.aload_n 0, 1) := by decide +kernel
theorem d4_5 : decode prog_11_method_2_code 5 = .ok (.getfield 13, 3) := by decide +kernel
theorem d4_8 : decode prog_11_method_2_code 8 = .ok (.ladd, 1) := by decide +kernel
theorem d4_9 : decode prog_11_method_2_code 9 = .ok (.aload_n 0, 1) := by decide +kernel
theorem d4_10 : decode prog_11_method_2_code 10 = .ok (.getfield 16, 3) := by decide +kernel
theorem d4_13 : decode prog_11_method_2_code 13 = .ok (.ladd, 1) := by decide +kernel
theorem d4_14 : decode prog_11_method_2_code 14 = .ok (.aload_n 0, 1) := by decide +kernel
theorem d4_15 : decode prog_11_method_2_code 15 = .ok (.getfield 19, 3) := by decide +kernel
theorem d4_18 : decode prog_11_method_2_code 18 = .ok (.ladd, 1) := by decide +kernel
theorem d4_19 : decode prog_11_method_2_code 19 = .ok (.lreturn, 1) := by decide +kernel
theorem ef_4 (m : MethodId) (x0 : Addr) : entryFrame m #[(.ref x0)] 1 = mkF m 0 #[.val (.ref x0)] [] := by first | (simp [entryFrame, mkF, argsToLocals, Value.category]; done) | rfl
def Q4 (Z : State) (x0 : Addr) (u0 : Int64) (u1 : Int64) (u2 : Int64) (u3 : Int64) (h0 : Heap) (n0 : Nat) (v : Option Value) (h : Heap) (L : List Loc) : Prop := v = some (.long (stp u0 u1 u2 u3)) ∧ Fr n0 L ∧ h = h0
set_option maxRecDepth 65536 in
set_option maxHeartbeats 40000000 in
theorem rm4 (l : Launch) (Z : State) (a0 : Array Value) (hw : ∀ d ∈ tables_1, d.before a0 Z = true) (ws : List Jvm.Cond) (x0 : Addr) (u0 : Int64) (u1 : Int64) (u2 : Int64) (u3 : Int64) (h0 : Heap) (n0 : Nat) (Z0 : n0 ≤ h0.size) (F_reads : Fld Z h0 x0 "com/example/solofast/solofast/Counts" "reads" "J" (.long u0)) (F_writes : Fld Z h0 x0 "com/example/solofast/solofast/Counts" "writes" "J" (.long u1)) (F_cas : Fld Z h0 x0 "com/example/solofast/solofast/Counts" "cas" "J" (.long u2)) (F_updates : Fld Z h0 x0 "com/example/solofast/solofast/Counts" "updates" "J" (.long u3)) :
    MetFree l (⟨"com/example/solofast/solofast/Counts", "steps", "()J"⟩ : MethodName) (head1 (Jvm.Cond.code (⟨"com/example/solofast/solofast/Counts", "steps", "()J"⟩ : MethodName) prog_11_method_2_code 1 (some .long) :: ws) ({ frames := 0, cells := 0, slots := 0, locals := 0 } : Room)) (fun a U => a = #[(.ref x0)] ∧ Z.Warmed39 U.vm ∧ U.heap = h0) (fun _ _ _ _ _ => True) (fun _ U o U' => ∃ v L, o = .returned v ∧ Q4 Z x0 u0 u1 u2 u3 h0 n0 v U'.heap L ∧ FrameEnd U o U' L ({ frames := 0, cells := 0, slots := 0, locals := 0 } : Room).cells ({ frames := 0, cells := 0, slots := 0, locals := 0 } : Room).slots) := by
  refine MetFree.of_bodySF (plainFor_of_name pn_1) hisR ?_
  intro p e s m args below meth c s₁ Bd hml0 hP hK
  obtain ⟨rfl, hZ, hh⟩ := hP
  have hx := Bd.exec
  have hby := Bd.bytes
  have hml : c.maxLocals = 1 := hml0
  have hown : s.vm.findClass "com/example/solofast/solofast/Counts" = some m.cls := findClass_of_methodNamed Bd.named
  have hnm := (name_of_methodNamed Bd.named Bd.method).1
  have hk : meth.locks = false := BodyLoose.notSynchronized Bd
  have X0 : Stand p l e ({ frames := 0, cells := 0, slots := 0, locals := 0 } : Room) s m #[(.ref x0)] below meth c s₁ [] 0 0 := Stand.of_body Bd
  have e0 : s₁.heap = h0 := by rw [← hh, Bd.state]; rfl
  have N0 := Fr.nil n0
  show Go p e below s (Q4 Z x0 u0 u1 u2 u3 h0 n0) ({ frames := 0, cells := 0, slots := 0, locals := 0 } : Room).cells ({ frames := 0, cells := 0, slots := 0, locals := 0 } : Room).slots s₁ (entryFrame m #[(.ref x0)] 1)
  refine Go.cast (ef_4 m x0) ?_
  refine Go.of (T' := s₁) (f' := (mkF m 1 #[.val (.ref x0)] [(.ref x0)])) (fun t k => XS.aloadN X0.here hx rfl (hb hby d4_0) rfl rfl k) ?_
  obtain ⟨T1, X1, e1, st1⟩ := getF X0 hx hZ hown (host := "") (Or.inl (hw _ (List.mem_of_getElem? (i := 14) rfl))) Via.refl e0 F_reads (g := (mkF m 1 #[.val (.ref x0)] [(.ref x0)])) rfl rfl (hb hby d4_1)
  refine Go.of (T' := T1) (f' := (mkF m 4 #[.val (.ref x0)] [(.long u0)])) (fun t k => st1 t k) ?_
  refine Go.of (T' := T1) (f' := (mkF m 5 #[.val (.ref x0)] [(.ref x0), (.long u0)])) (fun t k => XS.aloadN X1.here hx rfl (hb hby d4_4) rfl rfl k) ?_
  obtain ⟨T2, X2, e2, st2⟩ := getF X1 hx hZ hown (host := "") (Or.inl (hw _ (List.mem_of_getElem? (i := 16) rfl))) Via.refl e1 F_writes (g := (mkF m 5 #[.val (.ref x0)] [(.ref x0), (.long u0)])) rfl rfl (hb hby d4_5)
  refine Go.of (T' := T2) (f' := (mkF m 8 #[.val (.ref x0)] [(.long u1), (.long u0)])) (fun t k => st2 t k) ?_
  refine Go.of (T' := T2) (f' := (mkF m 9 #[.val (.ref x0)] [(.long (u0 + u1))])) (fun t k => XS.ladd X2.here hx rfl (hb hby d4_8) rfl k) ?_
  refine Go.of (T' := T2) (f' := (mkF m 10 #[.val (.ref x0)] [(.ref x0), (.long (u0 + u1))])) (fun t k => XS.aloadN X2.here hx rfl (hb hby d4_9) rfl rfl k) ?_
  obtain ⟨T3, X3, e3, st3⟩ := getF X2 hx hZ hown (host := "") (Or.inl (hw _ (List.mem_of_getElem? (i := 18) rfl))) Via.refl e2 F_cas (g := (mkF m 10 #[.val (.ref x0)] [(.ref x0), (.long (u0 + u1))])) rfl rfl (hb hby d4_10)
  refine Go.of (T' := T3) (f' := (mkF m 13 #[.val (.ref x0)] [(.long u2), (.long (u0 + u1))])) (fun t k => st3 t k) ?_
  refine Go.of (T' := T3) (f' := (mkF m 14 #[.val (.ref x0)] [(.long ((u0 + u1) + u2))])) (fun t k => XS.ladd X3.here hx rfl (hb hby d4_13) rfl k) ?_
  refine Go.of (T' := T3) (f' := (mkF m 15 #[.val (.ref x0)] [(.ref x0), (.long ((u0 + u1) + u2))])) (fun t k => XS.aloadN X3.here hx rfl (hb hby d4_14) rfl rfl k) ?_
  obtain ⟨T4, X4, e4, st4⟩ := getF X3 hx hZ hown (host := "") (Or.inl (hw _ (List.mem_of_getElem? (i := 20) rfl))) Via.refl e3 F_updates (g := (mkF m 15 #[.val (.ref x0)] [(.ref x0), (.long ((u0 + u1) + u2))])) rfl rfl (hb hby d4_15)
  refine Go.of (T' := T4) (f' := (mkF m 18 #[.val (.ref x0)] [(.long u3), (.long ((u0 + u1) + u2))])) (fun t k => st4 t k) ?_
  refine Go.of (T' := T4) (f' := (mkF m 19 #[.val (.ref x0)] [(.long (((u0 + u1) + u2) + u3))])) (fun t k => XS.ladd X4.here hx rfl (hb hby d4_18) rfl k) ?_
  refine Go.retJ X4 hx hk Bd.returns (hb hby d4_19) (by decide) (by decide) ?_
  rw [e4]
  exact ⟨rfl, N0, rfl⟩
theorem pd_1 : parseMethodDescriptor "(JJJJ)V" = some ⟨[.long, .long, .long, .long], none⟩ := by decide +kernel
theorem pd_2 : parseMethodDescriptor "()J" = some ⟨[], some .long⟩ := by decide +kernel
theorem pn_2 : plainName "com/example/solofast/solofast/CountsStepsPinLaw" = true := by first | (simp [plainName, overriddenIn]; done) | decide +kernel
theorem ef_0 (m : MethodId) (x0 : Int64) (x1 : Int64) (x2 : Int64) (x3 : Int64) : entryFrame m #[(.long x0), (.long x1), (.long x2), (.long x3)] maxLocals = mkF m 0 #[.val (.long x0), .second, .val (.long x1), .second, .val (.long x2), .second, .val (.long x3), .second, .unset, .unset, .unset, .unset, .unset, .unset, .unset, .unset, .unset, .unset, .unset, .unset, .unset, .unset, .unset, .unset, .unset] [] := by first | (simp [entryFrame, mkF, argsToLocals, Value.category, maxLocals]; done) | rfl
def Q0 (Z : State) (x0 : Int64) (x1 : Int64) (x2 : Int64) (x3 : Int64)  (h0 : Heap) (n0 : Nat) (v : Option Value) (h : Heap) (L : List Loc) : Prop := v = some (.int (1 : Int32)) ∧ Fr n0 L
set_option maxRecDepth 65536 in
set_option maxHeartbeats 40000000 in
theorem rm0 (l : Launch) (Z : State) (a0 : Array Value) (hw : ∀ d ∈ tables_1, d.before a0 Z = true) (ws : List Jvm.Cond) (x0 : Int64) (x1 : Int64) (x2 : Int64) (x3 : Int64)  (h0 : Heap) (n0 : Nat) (Z0 : n0 ≤ h0.size)  :
    MetFree l x (head1 (Jvm.Cond.code x code maxLocals ret :: ws) room_1) (fun a U => a = #[(.long x0), (.long x1), (.long x2), (.long x3)] ∧ Z.Warmed39 U.vm ∧ U.heap = h0) (fun _ _ _ _ _ => True) (fun _ U o U' => ∃ v L, o = .returned v ∧ Q0 Z x0 x1 x2 x3 h0 n0 v U'.heap L ∧ FrameEnd U o U' L 24 128) := by
  refine MetFree.of_bodySF (plainFor_of_name pn_2) hisR ?_
  intro p e s m args below meth c s₁ Bd hml0 hP hK
  obtain ⟨rfl, hZ, hh⟩ := hP
  have hx := Bd.exec
  have hby := Bd.bytes
  have hml : c.maxLocals = 25 := hml0
  have hown : s.vm.findClass "com/example/solofast/solofast/CountsStepsPinLaw" = some m.cls := findClass_of_methodNamed Bd.named
  have hnm := (name_of_methodNamed Bd.named Bd.method).1
  have hk : meth.locks = false := BodyLoose.notSynchronized Bd
  have X0 : Stand p l e room_1 s m #[(.long x0), (.long x1), (.long x2), (.long x3)] below meth c s₁ [] 0 0 := Stand.of_body Bd
  have e0 : s₁.heap = h0 := by rw [← hh, Bd.state]; rfl
  have N0 := Fr.nil n0
  show Go p e below s (Q0 Z x0 x1 x2 x3 h0 n0) 24 128 s₁ (entryFrame m #[(.long x0), (.long x1), (.long x2), (.long x3)] maxLocals)
  refine Go.cast (ef_0 m x0 x1 x2 x3) ?_
  obtain ⟨T1, h1, X1, e1, E1, A1, D1, -, st1⟩ := newO X0 hx hZ hown (hw _ (List.mem_of_getElem? (i := 0) rfl)) (hw _ (List.mem_of_getElem? (i := 1) rfl)) (hw _ (List.mem_of_getElem? (i := 2) rfl)) e0 (g := (mkF m 0 #[.val (.long x0), .second, .val (.long x1), .second, .val (.long x2), .second, .val (.long x3), .second, .unset, .unset, .unset, .unset, .unset, .unset, .unset, .unset, .unset, .unset, .unset, .unset, .unset, .unset, .unset, .unset, .unset] [])) rfl (hb hby at_0) (by decide) (by decide)
  obtain ⟨b1, gb1⟩ : ∃ z, z = h0.size := ⟨_, rfl⟩
  rw [← gb1] at A1 D1 st1
  have g_b1 : n0 ≤ b1 := Nat.le_trans Z0 (Nat.le_of_eq gb1.symm)
  have sz_b1 : h0.size ≤ b1 := Nat.le_trans (Keep.refl h0 []).1 (Nat.le_of_eq gb1.symm)
  have ZS1 : n0 ≤ h1.size := Nat.le_trans Z0 E1.1
  have KK1 : Keep h0 h1 [] := (Keep.refl h0 []).ext E1
  have F1_b1_reads : Fld Z h1 b1 "com/example/solofast/solofast/Counts" "reads" "J" (.long (0 : Int64)) := D1 (Or.inr (hw _ (List.mem_of_getElem? (i := 15) rfl))) (ty := .long) (by decide)
  have F1_b1_writes : Fld Z h1 b1 "com/example/solofast/solofast/Counts" "writes" "J" (.long (0 : Int64)) := D1 (Or.inr (hw _ (List.mem_of_getElem? (i := 17) rfl))) (ty := .long) (by decide)
  have F1_b1_cas : Fld Z h1 b1 "com/example/solofast/solofast/Counts" "cas" "J" (.long (0 : Int64)) := D1 (Or.inr (hw _ (List.mem_of_getElem? (i := 19) rfl))) (ty := .long) (by decide)
  have F1_b1_updates : Fld Z h1 b1 "com/example/solofast/solofast/Counts" "updates" "J" (.long (0 : Int64)) := D1 (Or.inr (hw _ (List.mem_of_getElem? (i := 21) rfl))) (ty := .long) (by decide)
  refine Go.of (T' := T1) (f' := (mkF m 3 #[.val (.long x0), .second, .val (.long x1), .second, .val (.long x2), .second, .val (.long x3), .second, .unset, .unset, .unset, .unset, .unset, .unset, .unset, .unset, .unset, .unset, .unset, .unset, .unset, .unset, .unset, .unset, .unset] [(.ref b1)])) (fun t k => st1 t k) ?_
  refine Go.of (T' := T1) (f' := (mkF m 4 #[.val (.long x0), .second, .val (.long x1), .second, .val (.long x2), .second, .val (.long x3), .second, .unset, .unset, .unset, .unset, .unset, .unset, .unset, .unset, .unset, .unset, .unset, .unset, .unset, .unset, .unset, .unset, .unset] [(.ref b1), (.ref b1)])) (fun t k => XS.dup X1.here hx rfl (hb hby at_3) rfl rfl k) ?_
  refine Go.of (T' := T1) (f' := (mkF m 5 #[.val (.long x0), .second, .val (.long x1), .second, .val (.long x2), .second, .val (.long x3), .second, .unset, .unset, .unset, .unset, .unset, .unset, .unset, .unset, .unset, .unset, .unset, .unset, .unset, .unset, .unset, .unset, .unset] [(.long x0), (.ref b1), (.ref b1)])) (fun t k => XS.lloadN X1.here hx rfl (hb hby at_4) rfl k) ?_
  refine Go.of (T' := T1) (f' := (mkF m 6 #[.val (.long x0), .second, .val (.long x1), .second, .val (.long x2), .second, .val (.long x3), .second, .unset, .unset, .unset, .unset, .unset, .unset, .unset, .unset, .unset, .unset, .unset, .unset, .unset, .unset, .unset, .unset, .unset] [(.long x1), (.long x0), (.ref b1), (.ref b1)])) (fun t k => XS.lloadN X1.here hx rfl (hb hby at_5) rfl k) ?_
  refine Go.of (T' := T1) (f' := (mkF m 8 #[.val (.long x0), .second, .val (.long x1), .second, .val (.long x2), .second, .val (.long x3), .second, .unset, .unset, .unset, .unset, .unset, .unset, .unset, .unset, .unset, .unset, .unset, .unset, .unset, .unset, .unset, .unset, .unset] [(.long x2), (.long x1), (.long x0), (.ref b1), (.ref b1)])) (fun t k => XS.lload X1.here hx rfl (hb hby at_6) rfl k) ?_
  refine Go.of (T' := T1) (f' := (mkF m 10 #[.val (.long x0), .second, .val (.long x1), .second, .val (.long x2), .second, .val (.long x3), .second, .unset, .unset, .unset, .unset, .unset, .unset, .unset, .unset, .unset, .unset, .unset, .unset, .unset, .unset, .unset, .unset, .unset] [(.long x3), (.long x2), (.long x1), (.long x0), (.ref b1), (.ref b1)])) (fun t k => XS.lload X1.here hx rfl (hb hby at_8) rfl k) ?_
  obtain ⟨_, _, ⟨T2, L2, k2, n2⟩, -, X2, ⟨Lc2, hQ2, l2, y2, z2⟩, st2⟩ := X1.specialBack hx (y := (⟨"com/example/solofast/solofast/Counts", "<init>", "(JJJJ)V"⟩ : MethodName)) rfl hown (mvT hZ (hw _ (List.mem_of_getElem? (i := 3) rfl))) (mvT hZ (hw _ (List.mem_of_getElem? (i := 4) rfl))) (mvT hZ (hw _ (List.mem_of_getElem? (i := 5) rfl))) (by decide) (backOf (W := 1) (rm1 l Z a0 hw [] b1 x0 x1 x2 x3 (.long (0 : Int64)) (.long (0 : Int64)) (.long (0 : Int64)) (.long (0 : Int64)) h1 n0 ZS1 A1 g_b1 F1_b1_reads F1_b1_writes F1_b1_cas F1_b1_updates) hZ (hw _ (List.mem_of_getElem? (i := 5) rfl)) (hw _ (List.mem_of_getElem? (i := 2) rfl)) (by decide) (by decide)) (g := (mkF m 10 #[.val (.long x0), .second, .val (.long x1), .second, .val (.long x2), .second, .val (.long x3), .second, .unset, .unset, .unset, .unset, .unset, .unset, .unset, .unset, .unset, .unset, .unset, .unset, .unset, .unset, .unset, .unset, .unset] [(.long x3), (.long x2), (.long x1), (.long x0), (.ref b1), (.ref b1)])) rfl (by rw [hml]; rfl) (Steps.refl _) (a := b1) (argsL := [(.long x0), (.long x1), (.long x2), (.long x3)]) (rest := [(.ref b1)]) (lenOf pd_1 rfl) rfl (by show 2 * 0 + _ ≤ _; exact Nat.le_of_eq rfl) (hb hby at_10) (fun _ _ => ⟨rfl, e1, (by decide : 1 + 0 ≤ _), (by decide : 4 + 0 ≤ _)⟩)
  dsimp only [Pt.U, Pt.locs, Pt.cells, Pt.slots] at X2 l2 y2 z2 st2 hQ2
  subst l2 y2 z2
  obtain ⟨rfl, N2q, K2, Fq2_reads, Fq2_writes, Fq2_cas, Fq2_updates⟩ := hQ2
  have N2 := Fr.app N0 N2q
  have Ex2_b1 : Exa Z T2.heap b1 "com/example/solofast/solofast/Counts" := A1.keep K2
  have ZS2 : n0 ≤ T2.heap.size := Nat.le_trans ZS1 K2.1
  have KK2 : Keep h0 T2.heap [] := KK1.trans K2 (allS (Or.inr sz_b1) all0)
  refine Go.tr (T' := T2) (f' := (mkF m 13 #[.val (.long x0), .second, .val (.long x1), .second, .val (.long x2), .second, .val (.long x3), .second, .unset, .unset, .unset, .unset, .unset, .unset, .unset, .unset, .unset, .unset, .unset, .unset, .unset, .unset, .unset, .unset, .unset] [(.ref b1)])) st2 ?_
  refine Go.of (T' := T2) (f' := (mkF m 15 #[.val (.long x0), .second, .val (.long x1), .second, .val (.long x2), .second, .val (.long x3), .second, .val (.ref b1), .unset, .unset, .unset, .unset, .unset, .unset, .unset, .unset, .unset, .unset, .unset, .unset, .unset, .unset, .unset, .unset] [])) (fun t k => XS.astore X2.here hx rfl (hb hby at_13) rfl rfl (l' := #[.val (.long x0), .second, .val (.long x1), .second, .val (.long x2), .second, .val (.long x3), .second, .val (.ref b1), .unset, .unset, .unset, .unset, .unset, .unset, .unset, .unset, .unset, .unset, .unset, .unset, .unset, .unset, .unset, .unset]) rfl k) ?_
  obtain ⟨T3, h3, X3, e3, E3, A3, D3, -, st3⟩ := newO X2 hx hZ hown (hw _ (List.mem_of_getElem? (i := 0) rfl)) (hw _ (List.mem_of_getElem? (i := 1) rfl)) (hw _ (List.mem_of_getElem? (i := 2) rfl)) rfl (g := (mkF m 15 #[.val (.long x0), .second, .val (.long x1), .second, .val (.long x2), .second, .val (.long x3), .second, .val (.ref b1), .unset, .unset, .unset, .unset, .unset, .unset, .unset, .unset, .unset, .unset, .unset, .unset, .unset, .unset, .unset, .unset] [])) rfl (hb hby at_15) (by decide) (by decide)
  obtain ⟨b3, gb3⟩ : ∃ z, z = T2.heap.size := ⟨_, rfl⟩
  rw [← gb3] at A3 D3 st3
  have g_b3 : n0 ≤ b3 := Nat.le_trans ZS2 (Nat.le_of_eq gb3.symm)
  have sz_b3 : h0.size ≤ b3 := Nat.le_trans KK2.1 (Nat.le_of_eq gb3.symm)
  have ne_b1_b3 : b1 ≠ b3 := Nat.ne_of_lt (Nat.lt_of_lt_of_le Fq2_reads.lt (Nat.le_of_eq gb3.symm))
  have ZS3 : n0 ≤ h3.size := Nat.le_trans ZS2 E3.1
  have KK3 : Keep h0 h3 [] := KK2.ext E3
  have F3_b1_reads : Fld Z h3 b1 "com/example/solofast/solofast/Counts" "reads" "J" (.long x0) := Fq2_reads.ext E3
  have F3_b1_writes : Fld Z h3 b1 "com/example/solofast/solofast/Counts" "writes" "J" (.long x1) := Fq2_writes.ext E3
  have F3_b1_cas : Fld Z h3 b1 "com/example/solofast/solofast/Counts" "cas" "J" (.long x2) := Fq2_cas.ext E3
  have F3_b1_updates : Fld Z h3 b1 "com/example/solofast/solofast/Counts" "updates" "J" (.long x3) := Fq2_updates.ext E3
  have Ex3_b1 : Exa Z h3 b1 "com/example/solofast/solofast/Counts" := Ex2_b1.ext E3
  have F3_b3_reads : Fld Z h3 b3 "com/example/solofast/solofast/Counts" "reads" "J" (.long (0 : Int64)) := D3 (Or.inr (hw _ (List.mem_of_getElem? (i := 15) rfl))) (ty := .long) (by decide)
  have F3_b3_writes : Fld Z h3 b3 "com/example/solofast/solofast/Counts" "writes" "J" (.long (0 : Int64)) := D3 (Or.inr (hw _ (List.mem_of_getElem? (i := 17) rfl))) (ty := .long) (by decide)
  have F3_b3_cas : Fld Z h3 b3 "com/example/solofast/solofast/Counts" "cas" "J" (.long (0 : Int64)) := D3 (Or.inr (hw _ (List.mem_of_getElem? (i := 19) rfl))) (ty := .long) (by decide)
  have F3_b3_updates : Fld Z h3 b3 "com/example/solofast/solofast/Counts" "updates" "J" (.long (0 : Int64)) := D3 (Or.inr (hw _ (List.mem_of_getElem? (i := 21) rfl))) (ty := .long) (by decide)
  refine Go.of (T' := T3) (f' := (mkF m 18 #[.val (.long x0), .second, .val (.long x1), .second, .val (.long x2), .second, .val (.long x3), .second, .val (.ref b1), .unset, .unset, .unset, .unset, .unset, .unset, .unset, .unset, .unset, .unset, .unset, .unset, .unset, .unset, .unset, .unset] [(.ref b3)])) (fun t k => st3 t k) ?_
  refine Go.of (T' := T3) (f' := (mkF m 19 #[.val (.long x0), .second, .val (.long x1), .second, .val (.long x2), .second, .val (.long x3), .second, .val (.ref b1), .unset, .unset, .unset, .unset, .unset, .unset, .unset, .unset, .unset, .unset, .unset, .unset, .unset, .unset, .unset, .unset] [(.ref b3), (.ref b3)])) (fun t k => XS.dup X3.here hx rfl (hb hby at_18) rfl rfl k) ?_
  refine Go.of (T' := T3) (f' := (mkF m 20 #[.val (.long x0), .second, .val (.long x1), .second, .val (.long x2), .second, .val (.long x3), .second, .val (.ref b1), .unset, .unset, .unset, .unset, .unset, .unset, .unset, .unset, .unset, .unset, .unset, .unset, .unset, .unset, .unset, .unset] [(.long x0), (.ref b3), (.ref b3)])) (fun t k => XS.lloadN X3.here hx rfl (hb hby at_19) rfl k) ?_
  refine Go.of (T' := T3) (f' := (mkF m 21 #[.val (.long x0), .second, .val (.long x1), .second, .val (.long x2), .second, .val (.long x3), .second, .val (.ref b1), .unset, .unset, .unset, .unset, .unset, .unset, .unset, .unset, .unset, .unset, .unset, .unset, .unset, .unset, .unset, .unset] [(.long (0 : Int64)), (.long x0), (.ref b3), (.ref b3)])) (fun t k => XS.lconst X3.here hx rfl (hb hby at_20) k) ?_
  refine Go.of (T' := T3) (f' := (mkF m 22 #[.val (.long x0), .second, .val (.long x1), .second, .val (.long x2), .second, .val (.long x3), .second, .val (.ref b1), .unset, .unset, .unset, .unset, .unset, .unset, .unset, .unset, .unset, .unset, .unset, .unset, .unset, .unset, .unset, .unset] [(.long (0 : Int64)), (.long (0 : Int64)), (.long x0), (.ref b3), (.ref b3)])) (fun t k => XS.lconst X3.here hx rfl (hb hby at_21) k) ?_
  refine Go.of (T' := T3) (f' := (mkF m 23 #[.val (.long x0), .second, .val (.long x1), .second, .val (.long x2), .second, .val (.long x3), .second, .val (.ref b1), .unset, .unset, .unset, .unset, .unset, .unset, .unset, .unset, .unset, .unset, .unset, .unset, .unset, .unset, .unset, .unset] [(.long (0 : Int64)), (.long (0 : Int64)), (.long (0 : Int64)), (.long x0), (.ref b3), (.ref b3)])) (fun t k => XS.lconst X3.here hx rfl (hb hby at_22) k) ?_
  obtain ⟨_, _, ⟨T4, L4, k4, n4⟩, -, X4, ⟨Lc4, hQ4, l4, y4, z4⟩, st4⟩ := X3.specialBack hx (y := (⟨"com/example/solofast/solofast/Counts", "<init>", "(JJJJ)V"⟩ : MethodName)) rfl hown (mvT hZ (hw _ (List.mem_of_getElem? (i := 3) rfl))) (mvT hZ (hw _ (List.mem_of_getElem? (i := 4) rfl))) (mvT hZ (hw _ (List.mem_of_getElem? (i := 5) rfl))) (by decide) (backOf (W := 1) (rm1 l Z a0 hw [] b3 x0 (0 : Int64) (0 : Int64) (0 : Int64) (.long (0 : Int64)) (.long (0 : Int64)) (.long (0 : Int64)) (.long (0 : Int64)) h3 n0 ZS3 A3 g_b3 F3_b3_reads F3_b3_writes F3_b3_cas F3_b3_updates) hZ (hw _ (List.mem_of_getElem? (i := 5) rfl)) (hw _ (List.mem_of_getElem? (i := 2) rfl)) (by decide) (by decide)) (g := (mkF m 23 #[.val (.long x0), .second, .val (.long x1), .second, .val (.long x2), .second, .val (.long x3), .second, .val (.ref b1), .unset, .unset, .unset, .unset, .unset, .unset, .unset, .unset, .unset, .unset, .unset, .unset, .unset, .unset, .unset, .unset] [(.long (0 : Int64)), (.long (0 : Int64)), (.long (0 : Int64)), (.long x0), (.ref b3), (.ref b3)])) rfl (by rw [hml]; rfl) (Steps.refl _) (a := b3) (argsL := [(.long x0), (.long (0 : Int64)), (.long (0 : Int64)), (.long (0 : Int64))]) (rest := [(.ref b3)]) (lenOf pd_1 rfl) rfl (by show 2 * 0 + _ ≤ _; exact Nat.le_of_eq rfl) (hb hby at_23) (fun _ _ => ⟨rfl, e3, (by decide : 2 + 0 ≤ _), (by decide : 8 + 0 ≤ _)⟩)
  dsimp only [Pt.U, Pt.locs, Pt.cells, Pt.slots] at X4 l4 y4 z4 st4 hQ4
  subst l4 y4 z4
  obtain ⟨rfl, N4q, K4, Fq4_reads, Fq4_writes, Fq4_cas, Fq4_updates⟩ := hQ4
  have N4 := Fr.app N2 N4q
  have F4_b1_reads : Fld Z T4.heap b1 "com/example/solofast/solofast/Counts" "reads" "J" (.long x0) := F3_b1_reads.keep K4 (ninS ne_b1_b3 nin0)
  have F4_b1_writes : Fld Z T4.heap b1 "com/example/solofast/solofast/Counts" "writes" "J" (.long x1) := F3_b1_writes.keep K4 (ninS ne_b1_b3 nin0)
  have F4_b1_cas : Fld Z T4.heap b1 "com/example/solofast/solofast/Counts" "cas" "J" (.long x2) := F3_b1_cas.keep K4 (ninS ne_b1_b3 nin0)
  have F4_b1_updates : Fld Z T4.heap b1 "com/example/solofast/solofast/Counts" "updates" "J" (.long x3) := F3_b1_updates.keep K4 (ninS ne_b1_b3 nin0)
  have Ex4_b1 : Exa Z T4.heap b1 "com/example/solofast/solofast/Counts" := Ex3_b1.keep K4
  have Ex4_b3 : Exa Z T4.heap b3 "com/example/solofast/solofast/Counts" := A3.keep K4
  have ZS4 : n0 ≤ T4.heap.size := Nat.le_trans ZS3 K4.1
  have KK4 : Keep h0 T4.heap [] := KK3.trans K4 (allS (Or.inr sz_b3) all0)
  refine Go.tr (T' := T4) (f' := (mkF m 26 #[.val (.long x0), .second, .val (.long x1), .second, .val (.long x2), .second, .val (.long x3), .second, .val (.ref b1), .unset, .unset, .unset, .unset, .unset, .unset, .unset, .unset, .unset, .unset, .unset, .unset, .unset, .unset, .unset, .unset] [(.ref b3)])) st4 ?_
  refine Go.of (T' := T4) (f' := (mkF m 28 #[.val (.long x0), .second, .val (.long x1), .second, .val (.long x2), .second, .val (.long x3), .second, .val (.ref b1), .val (.ref b3), .unset, .unset, .unset, .unset, .unset, .unset, .unset, .unset, .unset, .unset, .unset, .unset, .unset, .unset, .unset] [])) (fun t k => XS.astore X4.here hx rfl (hb hby at_26) rfl rfl (l' := #[.val (.long x0), .second, .val (.long x1), .second, .val (.long x2), .second, .val (.long x3), .second, .val (.ref b1), .val (.ref b3), .unset, .unset, .unset, .unset, .unset, .unset, .unset, .unset, .unset, .unset, .unset, .unset, .unset, .unset, .unset]) rfl k) ?_
  obtain ⟨T5, h5, X5, e5, E5, A5, D5, -, st5⟩ := newO X4 hx hZ hown (hw _ (List.mem_of_getElem? (i := 0) rfl)) (hw _ (List.mem_of_getElem? (i := 1) rfl)) (hw _ (List.mem_of_getElem? (i := 2) rfl)) rfl (g := (mkF m 28 #[.val (.long x0), .second, .val (.long x1), .second, .val (.long x2), .second, .val (.long x3), .second, .val (.ref b1), .val (.ref b3), .unset, .unset, .unset, .unset, .unset, .unset, .unset, .unset, .unset, .unset, .unset, .unset, .unset, .unset, .unset] [])) rfl (hb hby at_28) (by decide) (by decide)
  obtain ⟨b5, gb5⟩ : ∃ z, z = T4.heap.size := ⟨_, rfl⟩
  rw [← gb5] at A5 D5 st5
  have g_b5 : n0 ≤ b5 := Nat.le_trans ZS4 (Nat.le_of_eq gb5.symm)
  have sz_b5 : h0.size ≤ b5 := Nat.le_trans KK4.1 (Nat.le_of_eq gb5.symm)
  have ne_b1_b5 : b1 ≠ b5 := Nat.ne_of_lt (Nat.lt_of_lt_of_le F4_b1_reads.lt (Nat.le_of_eq gb5.symm))
  have ne_b3_b5 : b3 ≠ b5 := Nat.ne_of_lt (Nat.lt_of_lt_of_le Fq4_reads.lt (Nat.le_of_eq gb5.symm))
  have ZS5 : n0 ≤ h5.size := Nat.le_trans ZS4 E5.1
  have KK5 : Keep h0 h5 [] := KK4.ext E5
  have F5_b1_reads : Fld Z h5 b1 "com/example/solofast/solofast/Counts" "reads" "J" (.long x0) := F4_b1_reads.ext E5
  have F5_b1_writes : Fld Z h5 b1 "com/example/solofast/solofast/Counts" "writes" "J" (.long x1) := F4_b1_writes.ext E5
  have F5_b1_cas : Fld Z h5 b1 "com/example/solofast/solofast/Counts" "cas" "J" (.long x2) := F4_b1_cas.ext E5
  have F5_b1_updates : Fld Z h5 b1 "com/example/solofast/solofast/Counts" "updates" "J" (.long x3) := F4_b1_updates.ext E5
  have F5_b3_reads : Fld Z h5 b3 "com/example/solofast/solofast/Counts" "reads" "J" (.long x0) := Fq4_reads.ext E5
  have F5_b3_writes : Fld Z h5 b3 "com/example/solofast/solofast/Counts" "writes" "J" (.long (0 : Int64)) := Fq4_writes.ext E5
  have F5_b3_cas : Fld Z h5 b3 "com/example/solofast/solofast/Counts" "cas" "J" (.long (0 : Int64)) := Fq4_cas.ext E5
  have F5_b3_updates : Fld Z h5 b3 "com/example/solofast/solofast/Counts" "updates" "J" (.long (0 : Int64)) := Fq4_updates.ext E5
  have Ex5_b1 : Exa Z h5 b1 "com/example/solofast/solofast/Counts" := Ex4_b1.ext E5
  have Ex5_b3 : Exa Z h5 b3 "com/example/solofast/solofast/Counts" := Ex4_b3.ext E5
  have F5_b5_reads : Fld Z h5 b5 "com/example/solofast/solofast/Counts" "reads" "J" (.long (0 : Int64)) := D5 (Or.inr (hw _ (List.mem_of_getElem? (i := 15) rfl))) (ty := .long) (by decide)
  have F5_b5_writes : Fld Z h5 b5 "com/example/solofast/solofast/Counts" "writes" "J" (.long (0 : Int64)) := D5 (Or.inr (hw _ (List.mem_of_getElem? (i := 17) rfl))) (ty := .long) (by decide)
  have F5_b5_cas : Fld Z h5 b5 "com/example/solofast/solofast/Counts" "cas" "J" (.long (0 : Int64)) := D5 (Or.inr (hw _ (List.mem_of_getElem? (i := 19) rfl))) (ty := .long) (by decide)
  have F5_b5_updates : Fld Z h5 b5 "com/example/solofast/solofast/Counts" "updates" "J" (.long (0 : Int64)) := D5 (Or.inr (hw _ (List.mem_of_getElem? (i := 21) rfl))) (ty := .long) (by decide)
  refine Go.of (T' := T5) (f' := (mkF m 31 #[.val (.long x0), .second, .val (.long x1), .second, .val (.long x2), .second, .val (.long x3), .second, .val (.ref b1), .val (.ref b3), .unset, .unset, .unset, .unset, .unset, .unset, .unset, .unset, .unset, .unset, .unset, .unset, .unset, .unset, .unset] [(.ref b5)])) (fun t k => st5 t k) ?_
  refine Go.of (T' := T5) (f' := (mkF m 32 #[.val (.long x0), .second, .val (.long x1), .second, .val (.long x2), .second, .val (.long x3), .second, .val (.ref b1), .val (.ref b3), .unset, .unset, .unset, .unset, .unset, .unset, .unset, .unset, .unset, .unset, .unset, .unset, .unset, .unset, .unset] [(.ref b5), (.ref b5)])) (fun t k => XS.dup X5.here hx rfl (hb hby at_31) rfl rfl k) ?_
  refine Go.of (T' := T5) (f' := (mkF m 33 #[.val (.long x0), .second, .val (.long x1), .second, .val (.long x2), .second, .val (.long x3), .second, .val (.ref b1), .val (.ref b3), .unset, .unset, .unset, .unset, .unset, .unset, .unset, .unset, .unset, .unset, .unset, .unset, .unset, .unset, .unset] [(.long (0 : Int64)), (.ref b5), (.ref b5)])) (fun t k => XS.lconst X5.here hx rfl (hb hby at_32) k) ?_
  refine Go.of (T' := T5) (f' := (mkF m 34 #[.val (.long x0), .second, .val (.long x1), .second, .val (.long x2), .second, .val (.long x3), .second, .val (.ref b1), .val (.ref b3), .unset, .unset, .unset, .unset, .unset, .unset, .unset, .unset, .unset, .unset, .unset, .unset, .unset, .unset, .unset] [(.long x1), (.long (0 : Int64)), (.ref b5), (.ref b5)])) (fun t k => XS.lloadN X5.here hx rfl (hb hby at_33) rfl k) ?_
  refine Go.of (T' := T5) (f' := (mkF m 35 #[.val (.long x0), .second, .val (.long x1), .second, .val (.long x2), .second, .val (.long x3), .second, .val (.ref b1), .val (.ref b3), .unset, .unset, .unset, .unset, .unset, .unset, .unset, .unset, .unset, .unset, .unset, .unset, .unset, .unset, .unset] [(.long (0 : Int64)), (.long x1), (.long (0 : Int64)), (.ref b5), (.ref b5)])) (fun t k => XS.lconst X5.here hx rfl (hb hby at_34) k) ?_
  refine Go.of (T' := T5) (f' := (mkF m 36 #[.val (.long x0), .second, .val (.long x1), .second, .val (.long x2), .second, .val (.long x3), .second, .val (.ref b1), .val (.ref b3), .unset, .unset, .unset, .unset, .unset, .unset, .unset, .unset, .unset, .unset, .unset, .unset, .unset, .unset, .unset] [(.long (0 : Int64)), (.long (0 : Int64)), (.long x1), (.long (0 : Int64)), (.ref b5), (.ref b5)])) (fun t k => XS.lconst X5.here hx rfl (hb hby at_35) k) ?_
  obtain ⟨_, _, ⟨T6, L6, k6, n6⟩, -, X6, ⟨Lc6, hQ6, l6, y6, z6⟩, st6⟩ := X5.specialBack hx (y := (⟨"com/example/solofast/solofast/Counts", "<init>", "(JJJJ)V"⟩ : MethodName)) rfl hown (mvT hZ (hw _ (List.mem_of_getElem? (i := 3) rfl))) (mvT hZ (hw _ (List.mem_of_getElem? (i := 4) rfl))) (mvT hZ (hw _ (List.mem_of_getElem? (i := 5) rfl))) (by decide) (backOf (W := 1) (rm1 l Z a0 hw [] b5 (0 : Int64) x1 (0 : Int64) (0 : Int64) (.long (0 : Int64)) (.long (0 : Int64)) (.long (0 : Int64)) (.long (0 : Int64)) h5 n0 ZS5 A5 g_b5 F5_b5_reads F5_b5_writes F5_b5_cas F5_b5_updates) hZ (hw _ (List.mem_of_getElem? (i := 5) rfl)) (hw _ (List.mem_of_getElem? (i := 2) rfl)) (by decide) (by decide)) (g := (mkF m 36 #[.val (.long x0), .second, .val (.long x1), .second, .val (.long x2), .second, .val (.long x3), .second, .val (.ref b1), .val (.ref b3), .unset, .unset, .unset, .unset, .unset, .unset, .unset, .unset, .unset, .unset, .unset, .unset, .unset, .unset, .unset] [(.long (0 : Int64)), (.long (0 : Int64)), (.long x1), (.long (0 : Int64)), (.ref b5), (.ref b5)])) rfl (by rw [hml]; rfl) (Steps.refl _) (a := b5) (argsL := [(.long (0 : Int64)), (.long x1), (.long (0 : Int64)), (.long (0 : Int64))]) (rest := [(.ref b5)]) (lenOf pd_1 rfl) rfl (by show 2 * 0 + _ ≤ _; exact Nat.le_of_eq rfl) (hb hby at_36) (fun _ _ => ⟨rfl, e5, (by decide : 3 + 0 ≤ _), (by decide : 12 + 0 ≤ _)⟩)
  dsimp only [Pt.U, Pt.locs, Pt.cells, Pt.slots] at X6 l6 y6 z6 st6 hQ6
  subst l6 y6 z6
  obtain ⟨rfl, N6q, K6, Fq6_reads, Fq6_writes, Fq6_cas, Fq6_updates⟩ := hQ6
  have N6 := Fr.app N4 N6q
  have F6_b1_reads : Fld Z T6.heap b1 "com/example/solofast/solofast/Counts" "reads" "J" (.long x0) := F5_b1_reads.keep K6 (ninS ne_b1_b5 nin0)
  have F6_b1_writes : Fld Z T6.heap b1 "com/example/solofast/solofast/Counts" "writes" "J" (.long x1) := F5_b1_writes.keep K6 (ninS ne_b1_b5 nin0)
  have F6_b1_cas : Fld Z T6.heap b1 "com/example/solofast/solofast/Counts" "cas" "J" (.long x2) := F5_b1_cas.keep K6 (ninS ne_b1_b5 nin0)
  have F6_b1_updates : Fld Z T6.heap b1 "com/example/solofast/solofast/Counts" "updates" "J" (.long x3) := F5_b1_updates.keep K6 (ninS ne_b1_b5 nin0)
  have F6_b3_reads : Fld Z T6.heap b3 "com/example/solofast/solofast/Counts" "reads" "J" (.long x0) := F5_b3_reads.keep K6 (ninS ne_b3_b5 nin0)
  have F6_b3_writes : Fld Z T6.heap b3 "com/example/solofast/solofast/Counts" "writes" "J" (.long (0 : Int64)) := F5_b3_writes.keep K6 (ninS ne_b3_b5 nin0)
  have F6_b3_cas : Fld Z T6.heap b3 "com/example/solofast/solofast/Counts" "cas" "J" (.long (0 : Int64)) := F5_b3_cas.keep K6 (ninS ne_b3_b5 nin0)
  have F6_b3_updates : Fld Z T6.heap b3 "com/example/solofast/solofast/Counts" "updates" "J" (.long (0 : Int64)) := F5_b3_updates.keep K6 (ninS ne_b3_b5 nin0)
  have Ex6_b1 : Exa Z T6.heap b1 "com/example/solofast/solofast/Counts" := Ex5_b1.keep K6
  have Ex6_b3 : Exa Z T6.heap b3 "com/example/solofast/solofast/Counts" := Ex5_b3.keep K6
  have Ex6_b5 : Exa Z T6.heap b5 "com/example/solofast/solofast/Counts" := A5.keep K6
  have ZS6 : n0 ≤ T6.heap.size := Nat.le_trans ZS5 K6.1
  have KK6 : Keep h0 T6.heap [] := KK5.trans K6 (allS (Or.inr sz_b5) all0)
  refine Go.tr (T' := T6) (f' := (mkF m 39 #[.val (.long x0), .second, .val (.long x1), .second, .val (.long x2), .second, .val (.long x3), .second, .val (.ref b1), .val (.ref b3), .unset, .unset, .unset, .unset, .unset, .unset, .unset, .unset, .unset, .unset, .unset, .unset, .unset, .unset, .unset] [(.ref b5)])) st6 ?_
  refine Go.of (T' := T6) (f' := (mkF m 41 #[.val (.long x0), .second, .val (.long x1), .second, .val (.long x2), .second, .val (.long x3), .second, .val (.ref b1), .val (.ref b3), .val (.ref b5), .unset, .unset, .unset, .unset, .unset, .unset, .unset, .unset, .unset, .unset, .unset, .unset, .unset, .unset] [])) (fun t k => XS.astore X6.here hx rfl (hb hby at_39) rfl rfl (l' := #[.val (.long x0), .second, .val (.long x1), .second, .val (.long x2), .second, .val (.long x3), .second, .val (.ref b1), .val (.ref b3), .val (.ref b5), .unset, .unset, .unset, .unset, .unset, .unset, .unset, .unset, .unset, .unset, .unset, .unset, .unset, .unset]) rfl k) ?_
  obtain ⟨T7, h7, X7, e7, E7, A7, D7, -, st7⟩ := newO X6 hx hZ hown (hw _ (List.mem_of_getElem? (i := 0) rfl)) (hw _ (List.mem_of_getElem? (i := 1) rfl)) (hw _ (List.mem_of_getElem? (i := 2) rfl)) rfl (g := (mkF m 41 #[.val (.long x0), .second, .val (.long x1), .second, .val (.long x2), .second, .val (.long x3), .second, .val (.ref b1), .val (.ref b3), .val (.ref b5), .unset, .unset, .unset, .unset, .unset, .unset, .unset, .unset, .unset, .unset, .unset, .unset, .unset, .unset] [])) rfl (hb hby at_41) (by decide) (by decide)
  obtain ⟨b7, gb7⟩ : ∃ z, z = T6.heap.size := ⟨_, rfl⟩
  rw [← gb7] at A7 D7 st7
  have g_b7 : n0 ≤ b7 := Nat.le_trans ZS6 (Nat.le_of_eq gb7.symm)
  have sz_b7 : h0.size ≤ b7 := Nat.le_trans KK6.1 (Nat.le_of_eq gb7.symm)
  have ne_b1_b7 : b1 ≠ b7 := Nat.ne_of_lt (Nat.lt_of_lt_of_le F6_b1_reads.lt (Nat.le_of_eq gb7.symm))
  have ne_b3_b7 : b3 ≠ b7 := Nat.ne_of_lt (Nat.lt_of_lt_of_le F6_b3_reads.lt (Nat.le_of_eq gb7.symm))
  have ne_b5_b7 : b5 ≠ b7 := Nat.ne_of_lt (Nat.lt_of_lt_of_le Fq6_reads.lt (Nat.le_of_eq gb7.symm))
  have ZS7 : n0 ≤ h7.size := Nat.le_trans ZS6 E7.1
  have KK7 : Keep h0 h7 [] := KK6.ext E7
  have F7_b1_reads : Fld Z h7 b1 "com/example/solofast/solofast/Counts" "reads" "J" (.long x0) := F6_b1_reads.ext E7
  have F7_b1_writes : Fld Z h7 b1 "com/example/solofast/solofast/Counts" "writes" "J" (.long x1) := F6_b1_writes.ext E7
  have F7_b1_cas : Fld Z h7 b1 "com/example/solofast/solofast/Counts" "cas" "J" (.long x2) := F6_b1_cas.ext E7
  have F7_b1_updates : Fld Z h7 b1 "com/example/solofast/solofast/Counts" "updates" "J" (.long x3) := F6_b1_updates.ext E7
  have F7_b3_reads : Fld Z h7 b3 "com/example/solofast/solofast/Counts" "reads" "J" (.long x0) := F6_b3_reads.ext E7
  have F7_b3_writes : Fld Z h7 b3 "com/example/solofast/solofast/Counts" "writes" "J" (.long (0 : Int64)) := F6_b3_writes.ext E7
  have F7_b3_cas : Fld Z h7 b3 "com/example/solofast/solofast/Counts" "cas" "J" (.long (0 : Int64)) := F6_b3_cas.ext E7
  have F7_b3_updates : Fld Z h7 b3 "com/example/solofast/solofast/Counts" "updates" "J" (.long (0 : Int64)) := F6_b3_updates.ext E7
  have F7_b5_reads : Fld Z h7 b5 "com/example/solofast/solofast/Counts" "reads" "J" (.long (0 : Int64)) := Fq6_reads.ext E7
  have F7_b5_writes : Fld Z h7 b5 "com/example/solofast/solofast/Counts" "writes" "J" (.long x1) := Fq6_writes.ext E7
  have F7_b5_cas : Fld Z h7 b5 "com/example/solofast/solofast/Counts" "cas" "J" (.long (0 : Int64)) := Fq6_cas.ext E7
  have F7_b5_updates : Fld Z h7 b5 "com/example/solofast/solofast/Counts" "updates" "J" (.long (0 : Int64)) := Fq6_updates.ext E7
  have Ex7_b1 : Exa Z h7 b1 "com/example/solofast/solofast/Counts" := Ex6_b1.ext E7
  have Ex7_b3 : Exa Z h7 b3 "com/example/solofast/solofast/Counts" := Ex6_b3.ext E7
  have Ex7_b5 : Exa Z h7 b5 "com/example/solofast/solofast/Counts" := Ex6_b5.ext E7
  have F7_b7_reads : Fld Z h7 b7 "com/example/solofast/solofast/Counts" "reads" "J" (.long (0 : Int64)) := D7 (Or.inr (hw _ (List.mem_of_getElem? (i := 15) rfl))) (ty := .long) (by decide)
  have F7_b7_writes : Fld Z h7 b7 "com/example/solofast/solofast/Counts" "writes" "J" (.long (0 : Int64)) := D7 (Or.inr (hw _ (List.mem_of_getElem? (i := 17) rfl))) (ty := .long) (by decide)
  have F7_b7_cas : Fld Z h7 b7 "com/example/solofast/solofast/Counts" "cas" "J" (.long (0 : Int64)) := D7 (Or.inr (hw _ (List.mem_of_getElem? (i := 19) rfl))) (ty := .long) (by decide)
  have F7_b7_updates : Fld Z h7 b7 "com/example/solofast/solofast/Counts" "updates" "J" (.long (0 : Int64)) := D7 (Or.inr (hw _ (List.mem_of_getElem? (i := 21) rfl))) (ty := .long) (by decide)
  refine Go.of (T' := T7) (f' := (mkF m 44 #[.val (.long x0), .second, .val (.long x1), .second, .val (.long x2), .second, .val (.long x3), .second, .val (.ref b1), .val (.ref b3), .val (.ref b5), .unset, .unset, .unset, .unset, .unset, .unset, .unset, .unset, .unset, .unset, .unset, .unset, .unset, .unset] [(.ref b7)])) (fun t k => st7 t k) ?_
  refine Go.of (T' := T7) (f' := (mkF m 45 #[.val (.long x0), .second, .val (.long x1), .second, .val (.long x2), .second, .val (.long x3), .second, .val (.ref b1), .val (.ref b3), .val (.ref b5), .unset, .unset, .unset, .unset, .unset, .unset, .unset, .unset, .unset, .unset, .unset, .unset, .unset, .unset] [(.ref b7), (.ref b7)])) (fun t k => XS.dup X7.here hx rfl (hb hby at_44) rfl rfl k) ?_
  refine Go.of (T' := T7) (f' := (mkF m 46 #[.val (.long x0), .second, .val (.long x1), .second, .val (.long x2), .second, .val (.long x3), .second, .val (.ref b1), .val (.ref b3), .val (.ref b5), .unset, .unset, .unset, .unset, .unset, .unset, .unset, .unset, .unset, .unset, .unset, .unset, .unset, .unset] [(.long (0 : Int64)), (.ref b7), (.ref b7)])) (fun t k => XS.lconst X7.here hx rfl (hb hby at_45) k) ?_
  refine Go.of (T' := T7) (f' := (mkF m 47 #[.val (.long x0), .second, .val (.long x1), .second, .val (.long x2), .second, .val (.long x3), .second, .val (.ref b1), .val (.ref b3), .val (.ref b5), .unset, .unset, .unset, .unset, .unset, .unset, .unset, .unset, .unset, .unset, .unset, .unset, .unset, .unset] [(.long (0 : Int64)), (.long (0 : Int64)), (.ref b7), (.ref b7)])) (fun t k => XS.lconst X7.here hx rfl (hb hby at_46) k) ?_
  refine Go.of (T' := T7) (f' := (mkF m 49 #[.val (.long x0), .second, .val (.long x1), .second, .val (.long x2), .second, .val (.long x3), .second, .val (.ref b1), .val (.ref b3), .val (.ref b5), .unset, .unset, .unset, .unset, .unset, .unset, .unset, .unset, .unset, .unset, .unset, .unset, .unset, .unset] [(.long x2), (.long (0 : Int64)), (.long (0 : Int64)), (.ref b7), (.ref b7)])) (fun t k => XS.lload X7.here hx rfl (hb hby at_47) rfl k) ?_
  refine Go.of (T' := T7) (f' := (mkF m 50 #[.val (.long x0), .second, .val (.long x1), .second, .val (.long x2), .second, .val (.long x3), .second, .val (.ref b1), .val (.ref b3), .val (.ref b5), .unset, .unset, .unset, .unset, .unset, .unset, .unset, .unset, .unset, .unset, .unset, .unset, .unset, .unset] [(.long (0 : Int64)), (.long x2), (.long (0 : Int64)), (.long (0 : Int64)), (.ref b7), (.ref b7)])) (fun t k => XS.lconst X7.here hx rfl (hb hby at_49) k) ?_
  obtain ⟨_, _, ⟨T8, L8, k8, n8⟩, -, X8, ⟨Lc8, hQ8, l8, y8, z8⟩, st8⟩ := X7.specialBack hx (y := (⟨"com/example/solofast/solofast/Counts", "<init>", "(JJJJ)V"⟩ : MethodName)) rfl hown (mvT hZ (hw _ (List.mem_of_getElem? (i := 3) rfl))) (mvT hZ (hw _ (List.mem_of_getElem? (i := 4) rfl))) (mvT hZ (hw _ (List.mem_of_getElem? (i := 5) rfl))) (by decide) (backOf (W := 1) (rm1 l Z a0 hw [] b7 (0 : Int64) (0 : Int64) x2 (0 : Int64) (.long (0 : Int64)) (.long (0 : Int64)) (.long (0 : Int64)) (.long (0 : Int64)) h7 n0 ZS7 A7 g_b7 F7_b7_reads F7_b7_writes F7_b7_cas F7_b7_updates) hZ (hw _ (List.mem_of_getElem? (i := 5) rfl)) (hw _ (List.mem_of_getElem? (i := 2) rfl)) (by decide) (by decide)) (g := (mkF m 50 #[.val (.long x0), .second, .val (.long x1), .second, .val (.long x2), .second, .val (.long x3), .second, .val (.ref b1), .val (.ref b3), .val (.ref b5), .unset, .unset, .unset, .unset, .unset, .unset, .unset, .unset, .unset, .unset, .unset, .unset, .unset, .unset] [(.long (0 : Int64)), (.long x2), (.long (0 : Int64)), (.long (0 : Int64)), (.ref b7), (.ref b7)])) rfl (by rw [hml]; rfl) (Steps.refl _) (a := b7) (argsL := [(.long (0 : Int64)), (.long (0 : Int64)), (.long x2), (.long (0 : Int64))]) (rest := [(.ref b7)]) (lenOf pd_1 rfl) rfl (by show 2 * 0 + _ ≤ _; exact Nat.le_of_eq rfl) (hb hby at_50) (fun _ _ => ⟨rfl, e7, (by decide : 4 + 0 ≤ _), (by decide : 16 + 0 ≤ _)⟩)
  dsimp only [Pt.U, Pt.locs, Pt.cells, Pt.slots] at X8 l8 y8 z8 st8 hQ8
  subst l8 y8 z8
  obtain ⟨rfl, N8q, K8, Fq8_reads, Fq8_writes, Fq8_cas, Fq8_updates⟩ := hQ8
  have N8 := Fr.app N6 N8q
  have F8_b1_reads : Fld Z T8.heap b1 "com/example/solofast/solofast/Counts" "reads" "J" (.long x0) := F7_b1_reads.keep K8 (ninS ne_b1_b7 nin0)
  have F8_b1_writes : Fld Z T8.heap b1 "com/example/solofast/solofast/Counts" "writes" "J" (.long x1) := F7_b1_writes.keep K8 (ninS ne_b1_b7 nin0)
  have F8_b1_cas : Fld Z T8.heap b1 "com/example/solofast/solofast/Counts" "cas" "J" (.long x2) := F7_b1_cas.keep K8 (ninS ne_b1_b7 nin0)
  have F8_b1_updates : Fld Z T8.heap b1 "com/example/solofast/solofast/Counts" "updates" "J" (.long x3) := F7_b1_updates.keep K8 (ninS ne_b1_b7 nin0)
  have F8_b3_reads : Fld Z T8.heap b3 "com/example/solofast/solofast/Counts" "reads" "J" (.long x0) := F7_b3_reads.keep K8 (ninS ne_b3_b7 nin0)
  have F8_b3_writes : Fld Z T8.heap b3 "com/example/solofast/solofast/Counts" "writes" "J" (.long (0 : Int64)) := F7_b3_writes.keep K8 (ninS ne_b3_b7 nin0)
  have F8_b3_cas : Fld Z T8.heap b3 "com/example/solofast/solofast/Counts" "cas" "J" (.long (0 : Int64)) := F7_b3_cas.keep K8 (ninS ne_b3_b7 nin0)
  have F8_b3_updates : Fld Z T8.heap b3 "com/example/solofast/solofast/Counts" "updates" "J" (.long (0 : Int64)) := F7_b3_updates.keep K8 (ninS ne_b3_b7 nin0)
  have F8_b5_reads : Fld Z T8.heap b5 "com/example/solofast/solofast/Counts" "reads" "J" (.long (0 : Int64)) := F7_b5_reads.keep K8 (ninS ne_b5_b7 nin0)
  have F8_b5_writes : Fld Z T8.heap b5 "com/example/solofast/solofast/Counts" "writes" "J" (.long x1) := F7_b5_writes.keep K8 (ninS ne_b5_b7 nin0)
  have F8_b5_cas : Fld Z T8.heap b5 "com/example/solofast/solofast/Counts" "cas" "J" (.long (0 : Int64)) := F7_b5_cas.keep K8 (ninS ne_b5_b7 nin0)
  have F8_b5_updates : Fld Z T8.heap b5 "com/example/solofast/solofast/Counts" "updates" "J" (.long (0 : Int64)) := F7_b5_updates.keep K8 (ninS ne_b5_b7 nin0)
  have Ex8_b1 : Exa Z T8.heap b1 "com/example/solofast/solofast/Counts" := Ex7_b1.keep K8
  have Ex8_b3 : Exa Z T8.heap b3 "com/example/solofast/solofast/Counts" := Ex7_b3.keep K8
  have Ex8_b5 : Exa Z T8.heap b5 "com/example/solofast/solofast/Counts" := Ex7_b5.keep K8
  have Ex8_b7 : Exa Z T8.heap b7 "com/example/solofast/solofast/Counts" := A7.keep K8
  have ZS8 : n0 ≤ T8.heap.size := Nat.le_trans ZS7 K8.1
  have KK8 : Keep h0 T8.heap [] := KK7.trans K8 (allS (Or.inr sz_b7) all0)
  refine Go.tr (T' := T8) (f' := (mkF m 53 #[.val (.long x0), .second, .val (.long x1), .second, .val (.long x2), .second, .val (.long x3), .second, .val (.ref b1), .val (.ref b3), .val (.ref b5), .unset, .unset, .unset, .unset, .unset, .unset, .unset, .unset, .unset, .unset, .unset, .unset, .unset, .unset] [(.ref b7)])) st8 ?_
  refine Go.of (T' := T8) (f' := (mkF m 55 #[.val (.long x0), .second, .val (.long x1), .second, .val (.long x2), .second, .val (.long x3), .second, .val (.ref b1), .val (.ref b3), .val (.ref b5), .val (.ref b7), .unset, .unset, .unset, .unset, .unset, .unset, .unset, .unset, .unset, .unset, .unset, .unset, .unset] [])) (fun t k => XS.astore X8.here hx rfl (hb hby at_53) rfl rfl (l' := #[.val (.long x0), .second, .val (.long x1), .second, .val (.long x2), .second, .val (.long x3), .second, .val (.ref b1), .val (.ref b3), .val (.ref b5), .val (.ref b7), .unset, .unset, .unset, .unset, .unset, .unset, .unset, .unset, .unset, .unset, .unset, .unset, .unset]) rfl k) ?_
  obtain ⟨T9, h9, X9, e9, E9, A9, D9, -, st9⟩ := newO X8 hx hZ hown (hw _ (List.mem_of_getElem? (i := 0) rfl)) (hw _ (List.mem_of_getElem? (i := 1) rfl)) (hw _ (List.mem_of_getElem? (i := 2) rfl)) rfl (g := (mkF m 55 #[.val (.long x0), .second, .val (.long x1), .second, .val (.long x2), .second, .val (.long x3), .second, .val (.ref b1), .val (.ref b3), .val (.ref b5), .val (.ref b7), .unset, .unset, .unset, .unset, .unset, .unset, .unset, .unset, .unset, .unset, .unset, .unset, .unset] [])) rfl (hb hby at_55) (by decide) (by decide)
  obtain ⟨b9, gb9⟩ : ∃ z, z = T8.heap.size := ⟨_, rfl⟩
  rw [← gb9] at A9 D9 st9
  have g_b9 : n0 ≤ b9 := Nat.le_trans ZS8 (Nat.le_of_eq gb9.symm)
  have sz_b9 : h0.size ≤ b9 := Nat.le_trans KK8.1 (Nat.le_of_eq gb9.symm)
  have ne_b1_b9 : b1 ≠ b9 := Nat.ne_of_lt (Nat.lt_of_lt_of_le F8_b1_reads.lt (Nat.le_of_eq gb9.symm))
  have ne_b3_b9 : b3 ≠ b9 := Nat.ne_of_lt (Nat.lt_of_lt_of_le F8_b3_reads.lt (Nat.le_of_eq gb9.symm))
  have ne_b5_b9 : b5 ≠ b9 := Nat.ne_of_lt (Nat.lt_of_lt_of_le F8_b5_reads.lt (Nat.le_of_eq gb9.symm))
  have ne_b7_b9 : b7 ≠ b9 := Nat.ne_of_lt (Nat.lt_of_lt_of_le Fq8_reads.lt (Nat.le_of_eq gb9.symm))
  have ZS9 : n0 ≤ h9.size := Nat.le_trans ZS8 E9.1
  have KK9 : Keep h0 h9 [] := KK8.ext E9
  have F9_b1_reads : Fld Z h9 b1 "com/example/solofast/solofast/Counts" "reads" "J" (.long x0) := F8_b1_reads.ext E9
  have F9_b1_writes : Fld Z h9 b1 "com/example/solofast/solofast/Counts" "writes" "J" (.long x1) := F8_b1_writes.ext E9
  have F9_b1_cas : Fld Z h9 b1 "com/example/solofast/solofast/Counts" "cas" "J" (.long x2) := F8_b1_cas.ext E9
  have F9_b1_updates : Fld Z h9 b1 "com/example/solofast/solofast/Counts" "updates" "J" (.long x3) := F8_b1_updates.ext E9
  have F9_b3_reads : Fld Z h9 b3 "com/example/solofast/solofast/Counts" "reads" "J" (.long x0) := F8_b3_reads.ext E9
  have F9_b3_writes : Fld Z h9 b3 "com/example/solofast/solofast/Counts" "writes" "J" (.long (0 : Int64)) := F8_b3_writes.ext E9
  have F9_b3_cas : Fld Z h9 b3 "com/example/solofast/solofast/Counts" "cas" "J" (.long (0 : Int64)) := F8_b3_cas.ext E9
  have F9_b3_updates : Fld Z h9 b3 "com/example/solofast/solofast/Counts" "updates" "J" (.long (0 : Int64)) := F8_b3_updates.ext E9
  have F9_b5_reads : Fld Z h9 b5 "com/example/solofast/solofast/Counts" "reads" "J" (.long (0 : Int64)) := F8_b5_reads.ext E9
  have F9_b5_writes : Fld Z h9 b5 "com/example/solofast/solofast/Counts" "writes" "J" (.long x1) := F8_b5_writes.ext E9
  have F9_b5_cas : Fld Z h9 b5 "com/example/solofast/solofast/Counts" "cas" "J" (.long (0 : Int64)) := F8_b5_cas.ext E9
  have F9_b5_updates : Fld Z h9 b5 "com/example/solofast/solofast/Counts" "updates" "J" (.long (0 : Int64)) := F8_b5_updates.ext E9
  have F9_b7_reads : Fld Z h9 b7 "com/example/solofast/solofast/Counts" "reads" "J" (.long (0 : Int64)) := Fq8_reads.ext E9
  have F9_b7_writes : Fld Z h9 b7 "com/example/solofast/solofast/Counts" "writes" "J" (.long (0 : Int64)) := Fq8_writes.ext E9
  have F9_b7_cas : Fld Z h9 b7 "com/example/solofast/solofast/Counts" "cas" "J" (.long x2) := Fq8_cas.ext E9
  have F9_b7_updates : Fld Z h9 b7 "com/example/solofast/solofast/Counts" "updates" "J" (.long (0 : Int64)) := Fq8_updates.ext E9
  have Ex9_b1 : Exa Z h9 b1 "com/example/solofast/solofast/Counts" := Ex8_b1.ext E9
  have Ex9_b3 : Exa Z h9 b3 "com/example/solofast/solofast/Counts" := Ex8_b3.ext E9
  have Ex9_b5 : Exa Z h9 b5 "com/example/solofast/solofast/Counts" := Ex8_b5.ext E9
  have Ex9_b7 : Exa Z h9 b7 "com/example/solofast/solofast/Counts" := Ex8_b7.ext E9
  have F9_b9_reads : Fld Z h9 b9 "com/example/solofast/solofast/Counts" "reads" "J" (.long (0 : Int64)) := D9 (Or.inr (hw _ (List.mem_of_getElem? (i := 15) rfl))) (ty := .long) (by decide)
  have F9_b9_writes : Fld Z h9 b9 "com/example/solofast/solofast/Counts" "writes" "J" (.long (0 : Int64)) := D9 (Or.inr (hw _ (List.mem_of_getElem? (i := 17) rfl))) (ty := .long) (by decide)
  have F9_b9_cas : Fld Z h9 b9 "com/example/solofast/solofast/Counts" "cas" "J" (.long (0 : Int64)) := D9 (Or.inr (hw _ (List.mem_of_getElem? (i := 19) rfl))) (ty := .long) (by decide)
  have F9_b9_updates : Fld Z h9 b9 "com/example/solofast/solofast/Counts" "updates" "J" (.long (0 : Int64)) := D9 (Or.inr (hw _ (List.mem_of_getElem? (i := 21) rfl))) (ty := .long) (by decide)
  refine Go.of (T' := T9) (f' := (mkF m 58 #[.val (.long x0), .second, .val (.long x1), .second, .val (.long x2), .second, .val (.long x3), .second, .val (.ref b1), .val (.ref b3), .val (.ref b5), .val (.ref b7), .unset, .unset, .unset, .unset, .unset, .unset, .unset, .unset, .unset, .unset, .unset, .unset, .unset] [(.ref b9)])) (fun t k => st9 t k) ?_
  refine Go.of (T' := T9) (f' := (mkF m 59 #[.val (.long x0), .second, .val (.long x1), .second, .val (.long x2), .second, .val (.long x3), .second, .val (.ref b1), .val (.ref b3), .val (.ref b5), .val (.ref b7), .unset, .unset, .unset, .unset, .unset, .unset, .unset, .unset, .unset, .unset, .unset, .unset, .unset] [(.ref b9), (.ref b9)])) (fun t k => XS.dup X9.here hx rfl (hb hby at_58) rfl rfl k) ?_
  refine Go.of (T' := T9) (f' := (mkF m 60 #[.val (.long x0), .second, .val (.long x1), .second, .val (.long x2), .second, .val (.long x3), .second, .val (.ref b1), .val (.ref b3), .val (.ref b5), .val (.ref b7), .unset, .unset, .unset, .unset, .unset, .unset, .unset, .unset, .unset, .unset, .unset, .unset, .unset] [(.long (0 : Int64)), (.ref b9), (.ref b9)])) (fun t k => XS.lconst X9.here hx rfl (hb hby at_59) k) ?_
  refine Go.of (T' := T9) (f' := (mkF m 61 #[.val (.long x0), .second, .val (.long x1), .second, .val (.long x2), .second, .val (.long x3), .second, .val (.ref b1), .val (.ref b3), .val (.ref b5), .val (.ref b7), .unset, .unset, .unset, .unset, .unset, .unset, .unset, .unset, .unset, .unset, .unset, .unset, .unset] [(.long (0 : Int64)), (.long (0 : Int64)), (.ref b9), (.ref b9)])) (fun t k => XS.lconst X9.here hx rfl (hb hby at_60) k) ?_
  refine Go.of (T' := T9) (f' := (mkF m 62 #[.val (.long x0), .second, .val (.long x1), .second, .val (.long x2), .second, .val (.long x3), .second, .val (.ref b1), .val (.ref b3), .val (.ref b5), .val (.ref b7), .unset, .unset, .unset, .unset, .unset, .unset, .unset, .unset, .unset, .unset, .unset, .unset, .unset] [(.long (0 : Int64)), (.long (0 : Int64)), (.long (0 : Int64)), (.ref b9), (.ref b9)])) (fun t k => XS.lconst X9.here hx rfl (hb hby at_61) k) ?_
  refine Go.of (T' := T9) (f' := (mkF m 64 #[.val (.long x0), .second, .val (.long x1), .second, .val (.long x2), .second, .val (.long x3), .second, .val (.ref b1), .val (.ref b3), .val (.ref b5), .val (.ref b7), .unset, .unset, .unset, .unset, .unset, .unset, .unset, .unset, .unset, .unset, .unset, .unset, .unset] [(.long x3), (.long (0 : Int64)), (.long (0 : Int64)), (.long (0 : Int64)), (.ref b9), (.ref b9)])) (fun t k => XS.lload X9.here hx rfl (hb hby at_62) rfl k) ?_
  obtain ⟨_, _, ⟨T10, L10, k10, n10⟩, -, X10, ⟨Lc10, hQ10, l10, y10, z10⟩, st10⟩ := X9.specialBack hx (y := (⟨"com/example/solofast/solofast/Counts", "<init>", "(JJJJ)V"⟩ : MethodName)) rfl hown (mvT hZ (hw _ (List.mem_of_getElem? (i := 3) rfl))) (mvT hZ (hw _ (List.mem_of_getElem? (i := 4) rfl))) (mvT hZ (hw _ (List.mem_of_getElem? (i := 5) rfl))) (by decide) (backOf (W := 1) (rm1 l Z a0 hw [] b9 (0 : Int64) (0 : Int64) (0 : Int64) x3 (.long (0 : Int64)) (.long (0 : Int64)) (.long (0 : Int64)) (.long (0 : Int64)) h9 n0 ZS9 A9 g_b9 F9_b9_reads F9_b9_writes F9_b9_cas F9_b9_updates) hZ (hw _ (List.mem_of_getElem? (i := 5) rfl)) (hw _ (List.mem_of_getElem? (i := 2) rfl)) (by decide) (by decide)) (g := (mkF m 64 #[.val (.long x0), .second, .val (.long x1), .second, .val (.long x2), .second, .val (.long x3), .second, .val (.ref b1), .val (.ref b3), .val (.ref b5), .val (.ref b7), .unset, .unset, .unset, .unset, .unset, .unset, .unset, .unset, .unset, .unset, .unset, .unset, .unset] [(.long x3), (.long (0 : Int64)), (.long (0 : Int64)), (.long (0 : Int64)), (.ref b9), (.ref b9)])) rfl (by rw [hml]; rfl) (Steps.refl _) (a := b9) (argsL := [(.long (0 : Int64)), (.long (0 : Int64)), (.long (0 : Int64)), (.long x3)]) (rest := [(.ref b9)]) (lenOf pd_1 rfl) rfl (by show 2 * 0 + _ ≤ _; exact Nat.le_of_eq rfl) (hb hby at_64) (fun _ _ => ⟨rfl, e9, (by decide : 5 + 0 ≤ _), (by decide : 20 + 0 ≤ _)⟩)
  dsimp only [Pt.U, Pt.locs, Pt.cells, Pt.slots] at X10 l10 y10 z10 st10 hQ10
  subst l10 y10 z10
  obtain ⟨rfl, N10q, K10, Fq10_reads, Fq10_writes, Fq10_cas, Fq10_updates⟩ := hQ10
  have N10 := Fr.app N8 N10q
  have F10_b1_reads : Fld Z T10.heap b1 "com/example/solofast/solofast/Counts" "reads" "J" (.long x0) := F9_b1_reads.keep K10 (ninS ne_b1_b9 nin0)
  have F10_b1_writes : Fld Z T10.heap b1 "com/example/solofast/solofast/Counts" "writes" "J" (.long x1) := F9_b1_writes.keep K10 (ninS ne_b1_b9 nin0)
  have F10_b1_cas : Fld Z T10.heap b1 "com/example/solofast/solofast/Counts" "cas" "J" (.long x2) := F9_b1_cas.keep K10 (ninS ne_b1_b9 nin0)
  have F10_b1_updates : Fld Z T10.heap b1 "com/example/solofast/solofast/Counts" "updates" "J" (.long x3) := F9_b1_updates.keep K10 (ninS ne_b1_b9 nin0)
  have F10_b3_reads : Fld Z T10.heap b3 "com/example/solofast/solofast/Counts" "reads" "J" (.long x0) := F9_b3_reads.keep K10 (ninS ne_b3_b9 nin0)
  have F10_b3_writes : Fld Z T10.heap b3 "com/example/solofast/solofast/Counts" "writes" "J" (.long (0 : Int64)) := F9_b3_writes.keep K10 (ninS ne_b3_b9 nin0)
  have F10_b3_cas : Fld Z T10.heap b3 "com/example/solofast/solofast/Counts" "cas" "J" (.long (0 : Int64)) := F9_b3_cas.keep K10 (ninS ne_b3_b9 nin0)
  have F10_b3_updates : Fld Z T10.heap b3 "com/example/solofast/solofast/Counts" "updates" "J" (.long (0 : Int64)) := F9_b3_updates.keep K10 (ninS ne_b3_b9 nin0)
  have F10_b5_reads : Fld Z T10.heap b5 "com/example/solofast/solofast/Counts" "reads" "J" (.long (0 : Int64)) := F9_b5_reads.keep K10 (ninS ne_b5_b9 nin0)
  have F10_b5_writes : Fld Z T10.heap b5 "com/example/solofast/solofast/Counts" "writes" "J" (.long x1) := F9_b5_writes.keep K10 (ninS ne_b5_b9 nin0)
  have F10_b5_cas : Fld Z T10.heap b5 "com/example/solofast/solofast/Counts" "cas" "J" (.long (0 : Int64)) := F9_b5_cas.keep K10 (ninS ne_b5_b9 nin0)
  have F10_b5_updates : Fld Z T10.heap b5 "com/example/solofast/solofast/Counts" "updates" "J" (.long (0 : Int64)) := F9_b5_updates.keep K10 (ninS ne_b5_b9 nin0)
  have F10_b7_reads : Fld Z T10.heap b7 "com/example/solofast/solofast/Counts" "reads" "J" (.long (0 : Int64)) := F9_b7_reads.keep K10 (ninS ne_b7_b9 nin0)
  have F10_b7_writes : Fld Z T10.heap b7 "com/example/solofast/solofast/Counts" "writes" "J" (.long (0 : Int64)) := F9_b7_writes.keep K10 (ninS ne_b7_b9 nin0)
  have F10_b7_cas : Fld Z T10.heap b7 "com/example/solofast/solofast/Counts" "cas" "J" (.long x2) := F9_b7_cas.keep K10 (ninS ne_b7_b9 nin0)
  have F10_b7_updates : Fld Z T10.heap b7 "com/example/solofast/solofast/Counts" "updates" "J" (.long (0 : Int64)) := F9_b7_updates.keep K10 (ninS ne_b7_b9 nin0)
  have Ex10_b1 : Exa Z T10.heap b1 "com/example/solofast/solofast/Counts" := Ex9_b1.keep K10
  have Ex10_b3 : Exa Z T10.heap b3 "com/example/solofast/solofast/Counts" := Ex9_b3.keep K10
  have Ex10_b5 : Exa Z T10.heap b5 "com/example/solofast/solofast/Counts" := Ex9_b5.keep K10
  have Ex10_b7 : Exa Z T10.heap b7 "com/example/solofast/solofast/Counts" := Ex9_b7.keep K10
  have Ex10_b9 : Exa Z T10.heap b9 "com/example/solofast/solofast/Counts" := A9.keep K10
  have ZS10 : n0 ≤ T10.heap.size := Nat.le_trans ZS9 K10.1
  have KK10 : Keep h0 T10.heap [] := KK9.trans K10 (allS (Or.inr sz_b9) all0)
  refine Go.tr (T' := T10) (f' := (mkF m 67 #[.val (.long x0), .second, .val (.long x1), .second, .val (.long x2), .second, .val (.long x3), .second, .val (.ref b1), .val (.ref b3), .val (.ref b5), .val (.ref b7), .unset, .unset, .unset, .unset, .unset, .unset, .unset, .unset, .unset, .unset, .unset, .unset, .unset] [(.ref b9)])) st10 ?_
  refine Go.of (T' := T10) (f' := (mkF m 69 #[.val (.long x0), .second, .val (.long x1), .second, .val (.long x2), .second, .val (.long x3), .second, .val (.ref b1), .val (.ref b3), .val (.ref b5), .val (.ref b7), .val (.ref b9), .unset, .unset, .unset, .unset, .unset, .unset, .unset, .unset, .unset, .unset, .unset, .unset] [])) (fun t k => XS.astore X10.here hx rfl (hb hby at_67) rfl rfl (l' := #[.val (.long x0), .second, .val (.long x1), .second, .val (.long x2), .second, .val (.long x3), .second, .val (.ref b1), .val (.ref b3), .val (.ref b5), .val (.ref b7), .val (.ref b9), .unset, .unset, .unset, .unset, .unset, .unset, .unset, .unset, .unset, .unset, .unset, .unset]) rfl k) ?_
  refine Go.of (T' := T10) (f' := (mkF m 71 #[.val (.long x0), .second, .val (.long x1), .second, .val (.long x2), .second, .val (.long x3), .second, .val (.ref b1), .val (.ref b3), .val (.ref b5), .val (.ref b7), .val (.ref b9), .unset, .unset, .unset, .unset, .unset, .unset, .unset, .unset, .unset, .unset, .unset, .unset] [(.ref b3)])) (fun t k => XS.aload X10.here hx rfl (hb hby at_69) rfl rfl k) ?_
  obtain ⟨cq11, kq11, q11a, q11b, q11c⟩ := isOf hZ rfl Ex10_b3
  obtain ⟨_, _, ⟨T11, L11, k11, n11⟩, -, X11, ⟨Lc11, hQ11, l11, y11, z11⟩, st11⟩ := X10.virtualBack hx (y := (⟨"com/example/solofast/solofast/Counts", "steps", "()J"⟩ : MethodName)) (z := (⟨"com/example/solofast/solofast/Counts", "steps", "()J"⟩ : MethodName)) hown (mvT hZ (hw _ (List.mem_of_getElem? (i := 22) rfl))) (mvT hZ (hw _ (List.mem_of_getElem? (i := 23) rfl))) (notFace_of_selects (args := #[]) (mvT hZ (hw _ (List.mem_of_getElem? (i := 25) rfl)))) (mvT hZ (hw _ (List.mem_of_getElem? (i := 25) rfl))) (mvT hZ (hw _ (List.mem_of_getElem? (i := 24) rfl))) (by decide) (backOf (W := 0) (rm4 l Z a0 hw [] b3 x0 (0 : Int64) (0 : Int64) (0 : Int64) T10.heap n0 ZS10 F10_b3_reads F10_b3_writes F10_b3_cas F10_b3_updates) hZ (hw _ (List.mem_of_getElem? (i := 26) rfl)) (hw _ (List.mem_of_getElem? (i := 2) rfl)) (by decide) (by decide)) q11a q11c (g := (mkF m 71 #[.val (.long x0), .second, .val (.long x1), .second, .val (.long x2), .second, .val (.long x3), .second, .val (.ref b1), .val (.ref b3), .val (.ref b5), .val (.ref b7), .val (.ref b9), .unset, .unset, .unset, .unset, .unset, .unset, .unset, .unset, .unset, .unset, .unset, .unset] [(.ref b3)])) rfl (by rw [hml]; rfl) (Steps.refl _) (argsL := []) (rest := []) (lenOf pd_2 rfl) rfl (by show 2 * 0 + _ ≤ _; exact Nat.le_of_eq rfl) (hb hby at_71) (fun _ _ => ⟨rfl, rfl, (by decide : 5 + 0 ≤ _), (by decide : 20 + 0 ≤ _)⟩)
  dsimp only [Pt.U, Pt.locs, Pt.cells, Pt.slots] at X11 l11 y11 z11 st11 hQ11
  subst l11 y11 z11
  obtain ⟨rfl, N11q, e11⟩ := hQ11
  have N11 := Fr.app N10 N11q
  refine Go.tr (T' := T11) (f' := (mkF m 74 #[.val (.long x0), .second, .val (.long x1), .second, .val (.long x2), .second, .val (.long x3), .second, .val (.ref b1), .val (.ref b3), .val (.ref b5), .val (.ref b7), .val (.ref b9), .unset, .unset, .unset, .unset, .unset, .unset, .unset, .unset, .unset, .unset, .unset, .unset] [(.long (stp x0 (0 : Int64) (0 : Int64) (0 : Int64)))])) st11 ?_
  refine Go.of (T' := T11) (f' := (mkF m 76 #[.val (.long x0), .second, .val (.long x1), .second, .val (.long x2), .second, .val (.long x3), .second, .val (.ref b1), .val (.ref b3), .val (.ref b5), .val (.ref b7), .val (.ref b9), .val (.long (stp x0 (0 : Int64) (0 : Int64) (0 : Int64))), .second, .unset, .unset, .unset, .unset, .unset, .unset, .unset, .unset, .unset, .unset] [])) (fun t k => XS.lstore X11.here hx rfl (hb hby at_74) rfl (l' := #[.val (.long x0), .second, .val (.long x1), .second, .val (.long x2), .second, .val (.long x3), .second, .val (.ref b1), .val (.ref b3), .val (.ref b5), .val (.ref b7), .val (.ref b9), .val (.long (stp x0 (0 : Int64) (0 : Int64) (0 : Int64))), .second, .unset, .unset, .unset, .unset, .unset, .unset, .unset, .unset, .unset, .unset]) rfl k) ?_
  refine Go.of (T' := T11) (f' := (mkF m 78 #[.val (.long x0), .second, .val (.long x1), .second, .val (.long x2), .second, .val (.long x3), .second, .val (.ref b1), .val (.ref b3), .val (.ref b5), .val (.ref b7), .val (.ref b9), .val (.long (stp x0 (0 : Int64) (0 : Int64) (0 : Int64))), .second, .unset, .unset, .unset, .unset, .unset, .unset, .unset, .unset, .unset, .unset] [(.ref b5)])) (fun t k => XS.aload X11.here hx rfl (hb hby at_76) rfl rfl k) ?_
  obtain ⟨cq12, kq12, q12a, q12b, q12c⟩ := isOf hZ e11 Ex10_b5
  obtain ⟨_, _, ⟨T12, L12, k12, n12⟩, -, X12, ⟨Lc12, hQ12, l12, y12, z12⟩, st12⟩ := X11.virtualBack hx (y := (⟨"com/example/solofast/solofast/Counts", "steps", "()J"⟩ : MethodName)) (z := (⟨"com/example/solofast/solofast/Counts", "steps", "()J"⟩ : MethodName)) hown (mvT hZ (hw _ (List.mem_of_getElem? (i := 22) rfl))) (mvT hZ (hw _ (List.mem_of_getElem? (i := 23) rfl))) (notFace_of_selects (args := #[]) (mvT hZ (hw _ (List.mem_of_getElem? (i := 25) rfl)))) (mvT hZ (hw _ (List.mem_of_getElem? (i := 25) rfl))) (mvT hZ (hw _ (List.mem_of_getElem? (i := 24) rfl))) (by decide) (backOf (W := 0) (rm4 l Z a0 hw [] b5 (0 : Int64) x1 (0 : Int64) (0 : Int64) T10.heap n0 ZS10 F10_b5_reads F10_b5_writes F10_b5_cas F10_b5_updates) hZ (hw _ (List.mem_of_getElem? (i := 26) rfl)) (hw _ (List.mem_of_getElem? (i := 2) rfl)) (by decide) (by decide)) q12a q12c (g := (mkF m 78 #[.val (.long x0), .second, .val (.long x1), .second, .val (.long x2), .second, .val (.long x3), .second, .val (.ref b1), .val (.ref b3), .val (.ref b5), .val (.ref b7), .val (.ref b9), .val (.long (stp x0 (0 : Int64) (0 : Int64) (0 : Int64))), .second, .unset, .unset, .unset, .unset, .unset, .unset, .unset, .unset, .unset, .unset] [(.ref b5)])) rfl (by rw [hml]; rfl) (Steps.refl _) (argsL := []) (rest := []) (lenOf pd_2 rfl) rfl (by show 2 * 0 + _ ≤ _; exact Nat.le_of_eq rfl) (hb hby at_78) (fun _ _ => ⟨rfl, e11, (by decide : 5 + 0 ≤ _), (by decide : 20 + 0 ≤ _)⟩)
  dsimp only [Pt.U, Pt.locs, Pt.cells, Pt.slots] at X12 l12 y12 z12 st12 hQ12
  subst l12 y12 z12
  obtain ⟨rfl, N12q, e12⟩ := hQ12
  have N12 := Fr.app N11 N12q
  refine Go.tr (T' := T12) (f' := (mkF m 81 #[.val (.long x0), .second, .val (.long x1), .second, .val (.long x2), .second, .val (.long x3), .second, .val (.ref b1), .val (.ref b3), .val (.ref b5), .val (.ref b7), .val (.ref b9), .val (.long (stp x0 (0 : Int64) (0 : Int64) (0 : Int64))), .second, .unset, .unset, .unset, .unset, .unset, .unset, .unset, .unset, .unset, .unset] [(.long (stp (0 : Int64) x1 (0 : Int64) (0 : Int64)))])) st12 ?_
  refine Go.of (T' := T12) (f' := (mkF m 83 #[.val (.long x0), .second, .val (.long x1), .second, .val (.long x2), .second, .val (.long x3), .second, .val (.ref b1), .val (.ref b3), .val (.ref b5), .val (.ref b7), .val (.ref b9), .val (.long (stp x0 (0 : Int64) (0 : Int64) (0 : Int64))), .second, .val (.long (stp (0 : Int64) x1 (0 : Int64) (0 : Int64))), .second, .unset, .unset, .unset, .unset, .unset, .unset, .unset, .unset] [])) (fun t k => XS.lstore X12.here hx rfl (hb hby at_81) rfl (l' := #[.val (.long x0), .second, .val (.long x1), .second, .val (.long x2), .second, .val (.long x3), .second, .val (.ref b1), .val (.ref b3), .val (.ref b5), .val (.ref b7), .val (.ref b9), .val (.long (stp x0 (0 : Int64) (0 : Int64) (0 : Int64))), .second, .val (.long (stp (0 : Int64) x1 (0 : Int64) (0 : Int64))), .second, .unset, .unset, .unset, .unset, .unset, .unset, .unset, .unset]) rfl k) ?_
  refine Go.of (T' := T12) (f' := (mkF m 85 #[.val (.long x0), .second, .val (.long x1), .second, .val (.long x2), .second, .val (.long x3), .second, .val (.ref b1), .val (.ref b3), .val (.ref b5), .val (.ref b7), .val (.ref b9), .val (.long (stp x0 (0 : Int64) (0 : Int64) (0 : Int64))), .second, .val (.long (stp (0 : Int64) x1 (0 : Int64) (0 : Int64))), .second, .unset, .unset, .unset, .unset, .unset, .unset, .unset, .unset] [(.ref b7)])) (fun t k => XS.aload X12.here hx rfl (hb hby at_83) rfl rfl k) ?_
  obtain ⟨cq13, kq13, q13a, q13b, q13c⟩ := isOf hZ e12 Ex10_b7
  obtain ⟨_, _, ⟨T13, L13, k13, n13⟩, -, X13, ⟨Lc13, hQ13, l13, y13, z13⟩, st13⟩ := X12.virtualBack hx (y := (⟨"com/example/solofast/solofast/Counts", "steps", "()J"⟩ : MethodName)) (z := (⟨"com/example/solofast/solofast/Counts", "steps", "()J"⟩ : MethodName)) hown (mvT hZ (hw _ (List.mem_of_getElem? (i := 22) rfl))) (mvT hZ (hw _ (List.mem_of_getElem? (i := 23) rfl))) (notFace_of_selects (args := #[]) (mvT hZ (hw _ (List.mem_of_getElem? (i := 25) rfl)))) (mvT hZ (hw _ (List.mem_of_getElem? (i := 25) rfl))) (mvT hZ (hw _ (List.mem_of_getElem? (i := 24) rfl))) (by decide) (backOf (W := 0) (rm4 l Z a0 hw [] b7 (0 : Int64) (0 : Int64) x2 (0 : Int64) T10.heap n0 ZS10 F10_b7_reads F10_b7_writes F10_b7_cas F10_b7_updates) hZ (hw _ (List.mem_of_getElem? (i := 26) rfl)) (hw _ (List.mem_of_getElem? (i := 2) rfl)) (by decide) (by decide)) q13a q13c (g := (mkF m 85 #[.val (.long x0), .second, .val (.long x1), .second, .val (.long x2), .second, .val (.long x3), .second, .val (.ref b1), .val (.ref b3), .val (.ref b5), .val (.ref b7), .val (.ref b9), .val (.long (stp x0 (0 : Int64) (0 : Int64) (0 : Int64))), .second, .val (.long (stp (0 : Int64) x1 (0 : Int64) (0 : Int64))), .second, .unset, .unset, .unset, .unset, .unset, .unset, .unset, .unset] [(.ref b7)])) rfl (by rw [hml]; rfl) (Steps.refl _) (argsL := []) (rest := []) (lenOf pd_2 rfl) rfl (by show 2 * 0 + _ ≤ _; exact Nat.le_of_eq rfl) (hb hby at_85) (fun _ _ => ⟨rfl, e12, (by decide : 5 + 0 ≤ _), (by decide : 20 + 0 ≤ _)⟩)
  dsimp only [Pt.U, Pt.locs, Pt.cells, Pt.slots] at X13 l13 y13 z13 st13 hQ13
  subst l13 y13 z13
  obtain ⟨rfl, N13q, e13⟩ := hQ13
  have N13 := Fr.app N12 N13q
  refine Go.tr (T' := T13) (f' := (mkF m 88 #[.val (.long x0), .second, .val (.long x1), .second, .val (.long x2), .second, .val (.long x3), .second, .val (.ref b1), .val (.ref b3), .val (.ref b5), .val (.ref b7), .val (.ref b9), .val (.long (stp x0 (0 : Int64) (0 : Int64) (0 : Int64))), .second, .val (.long (stp (0 : Int64) x1 (0 : Int64) (0 : Int64))), .second, .unset, .unset, .unset, .unset, .unset, .unset, .unset, .unset] [(.long (stp (0 : Int64) (0 : Int64) x2 (0 : Int64)))])) st13 ?_
  refine Go.of (T' := T13) (f' := (mkF m 90 #[.val (.long x0), .second, .val (.long x1), .second, .val (.long x2), .second, .val (.long x3), .second, .val (.ref b1), .val (.ref b3), .val (.ref b5), .val (.ref b7), .val (.ref b9), .val (.long (stp x0 (0 : Int64) (0 : Int64) (0 : Int64))), .second, .val (.long (stp (0 : Int64) x1 (0 : Int64) (0 : Int64))), .second, .val (.long (stp (0 : Int64) (0 : Int64) x2 (0 : Int64))), .second, .unset, .unset, .unset, .unset, .unset, .unset] [])) (fun t k => XS.lstore X13.here hx rfl (hb hby at_88) rfl (l' := #[.val (.long x0), .second, .val (.long x1), .second, .val (.long x2), .second, .val (.long x3), .second, .val (.ref b1), .val (.ref b3), .val (.ref b5), .val (.ref b7), .val (.ref b9), .val (.long (stp x0 (0 : Int64) (0 : Int64) (0 : Int64))), .second, .val (.long (stp (0 : Int64) x1 (0 : Int64) (0 : Int64))), .second, .val (.long (stp (0 : Int64) (0 : Int64) x2 (0 : Int64))), .second, .unset, .unset, .unset, .unset, .unset, .unset]) rfl k) ?_
  refine Go.of (T' := T13) (f' := (mkF m 92 #[.val (.long x0), .second, .val (.long x1), .second, .val (.long x2), .second, .val (.long x3), .second, .val (.ref b1), .val (.ref b3), .val (.ref b5), .val (.ref b7), .val (.ref b9), .val (.long (stp x0 (0 : Int64) (0 : Int64) (0 : Int64))), .second, .val (.long (stp (0 : Int64) x1 (0 : Int64) (0 : Int64))), .second, .val (.long (stp (0 : Int64) (0 : Int64) x2 (0 : Int64))), .second, .unset, .unset, .unset, .unset, .unset, .unset] [(.ref b9)])) (fun t k => XS.aload X13.here hx rfl (hb hby at_90) rfl rfl k) ?_
  obtain ⟨cq14, kq14, q14a, q14b, q14c⟩ := isOf hZ e13 Ex10_b9
  obtain ⟨_, _, ⟨T14, L14, k14, n14⟩, -, X14, ⟨Lc14, hQ14, l14, y14, z14⟩, st14⟩ := X13.virtualBack hx (y := (⟨"com/example/solofast/solofast/Counts", "steps", "()J"⟩ : MethodName)) (z := (⟨"com/example/solofast/solofast/Counts", "steps", "()J"⟩ : MethodName)) hown (mvT hZ (hw _ (List.mem_of_getElem? (i := 22) rfl))) (mvT hZ (hw _ (List.mem_of_getElem? (i := 23) rfl))) (notFace_of_selects (args := #[]) (mvT hZ (hw _ (List.mem_of_getElem? (i := 25) rfl)))) (mvT hZ (hw _ (List.mem_of_getElem? (i := 25) rfl))) (mvT hZ (hw _ (List.mem_of_getElem? (i := 24) rfl))) (by decide) (backOf (W := 0) (rm4 l Z a0 hw [] b9 (0 : Int64) (0 : Int64) (0 : Int64) x3 T10.heap n0 ZS10 Fq10_reads Fq10_writes Fq10_cas Fq10_updates) hZ (hw _ (List.mem_of_getElem? (i := 26) rfl)) (hw _ (List.mem_of_getElem? (i := 2) rfl)) (by decide) (by decide)) q14a q14c (g := (mkF m 92 #[.val (.long x0), .second, .val (.long x1), .second, .val (.long x2), .second, .val (.long x3), .second, .val (.ref b1), .val (.ref b3), .val (.ref b5), .val (.ref b7), .val (.ref b9), .val (.long (stp x0 (0 : Int64) (0 : Int64) (0 : Int64))), .second, .val (.long (stp (0 : Int64) x1 (0 : Int64) (0 : Int64))), .second, .val (.long (stp (0 : Int64) (0 : Int64) x2 (0 : Int64))), .second, .unset, .unset, .unset, .unset, .unset, .unset] [(.ref b9)])) rfl (by rw [hml]; rfl) (Steps.refl _) (argsL := []) (rest := []) (lenOf pd_2 rfl) rfl (by show 2 * 0 + _ ≤ _; exact Nat.le_of_eq rfl) (hb hby at_92) (fun _ _ => ⟨rfl, e13, (by decide : 5 + 0 ≤ _), (by decide : 20 + 0 ≤ _)⟩)
  dsimp only [Pt.U, Pt.locs, Pt.cells, Pt.slots] at X14 l14 y14 z14 st14 hQ14
  subst l14 y14 z14
  obtain ⟨rfl, N14q, e14⟩ := hQ14
  have N14 := Fr.app N13 N14q
  refine Go.tr (T' := T14) (f' := (mkF m 95 #[.val (.long x0), .second, .val (.long x1), .second, .val (.long x2), .second, .val (.long x3), .second, .val (.ref b1), .val (.ref b3), .val (.ref b5), .val (.ref b7), .val (.ref b9), .val (.long (stp x0 (0 : Int64) (0 : Int64) (0 : Int64))), .second, .val (.long (stp (0 : Int64) x1 (0 : Int64) (0 : Int64))), .second, .val (.long (stp (0 : Int64) (0 : Int64) x2 (0 : Int64))), .second, .unset, .unset, .unset, .unset, .unset, .unset] [(.long (stp (0 : Int64) (0 : Int64) (0 : Int64) x3))])) st14 ?_
  refine Go.of (T' := T14) (f' := (mkF m 97 #[.val (.long x0), .second, .val (.long x1), .second, .val (.long x2), .second, .val (.long x3), .second, .val (.ref b1), .val (.ref b3), .val (.ref b5), .val (.ref b7), .val (.ref b9), .val (.long (stp x0 (0 : Int64) (0 : Int64) (0 : Int64))), .second, .val (.long (stp (0 : Int64) x1 (0 : Int64) (0 : Int64))), .second, .val (.long (stp (0 : Int64) (0 : Int64) x2 (0 : Int64))), .second, .val (.long (stp (0 : Int64) (0 : Int64) (0 : Int64) x3)), .second, .unset, .unset, .unset, .unset] [])) (fun t k => XS.lstore X14.here hx rfl (hb hby at_95) rfl (l' := #[.val (.long x0), .second, .val (.long x1), .second, .val (.long x2), .second, .val (.long x3), .second, .val (.ref b1), .val (.ref b3), .val (.ref b5), .val (.ref b7), .val (.ref b9), .val (.long (stp x0 (0 : Int64) (0 : Int64) (0 : Int64))), .second, .val (.long (stp (0 : Int64) x1 (0 : Int64) (0 : Int64))), .second, .val (.long (stp (0 : Int64) (0 : Int64) x2 (0 : Int64))), .second, .val (.long (stp (0 : Int64) (0 : Int64) (0 : Int64) x3)), .second, .unset, .unset, .unset, .unset]) rfl k) ?_
  refine Go.of (T' := T14) (f' := (mkF m 99 #[.val (.long x0), .second, .val (.long x1), .second, .val (.long x2), .second, .val (.long x3), .second, .val (.ref b1), .val (.ref b3), .val (.ref b5), .val (.ref b7), .val (.ref b9), .val (.long (stp x0 (0 : Int64) (0 : Int64) (0 : Int64))), .second, .val (.long (stp (0 : Int64) x1 (0 : Int64) (0 : Int64))), .second, .val (.long (stp (0 : Int64) (0 : Int64) x2 (0 : Int64))), .second, .val (.long (stp (0 : Int64) (0 : Int64) (0 : Int64) x3)), .second, .unset, .unset, .unset, .unset] [(.ref b1)])) (fun t k => XS.aload X14.here hx rfl (hb hby at_97) rfl rfl k) ?_
  obtain ⟨cq15, kq15, q15a, q15b, q15c⟩ := isOf hZ e14 Ex10_b1
  obtain ⟨_, _, ⟨T15, L15, k15, n15⟩, -, X15, ⟨Lc15, hQ15, l15, y15, z15⟩, st15⟩ := X14.virtualBack hx (y := (⟨"com/example/solofast/solofast/Counts", "steps", "()J"⟩ : MethodName)) (z := (⟨"com/example/solofast/solofast/Counts", "steps", "()J"⟩ : MethodName)) hown (mvT hZ (hw _ (List.mem_of_getElem? (i := 22) rfl))) (mvT hZ (hw _ (List.mem_of_getElem? (i := 23) rfl))) (notFace_of_selects (args := #[]) (mvT hZ (hw _ (List.mem_of_getElem? (i := 25) rfl)))) (mvT hZ (hw _ (List.mem_of_getElem? (i := 25) rfl))) (mvT hZ (hw _ (List.mem_of_getElem? (i := 24) rfl))) (by decide) (backOf (W := 0) (rm4 l Z a0 hw [] b1 x0 x1 x2 x3 T10.heap n0 ZS10 F10_b1_reads F10_b1_writes F10_b1_cas F10_b1_updates) hZ (hw _ (List.mem_of_getElem? (i := 26) rfl)) (hw _ (List.mem_of_getElem? (i := 2) rfl)) (by decide) (by decide)) q15a q15c (g := (mkF m 99 #[.val (.long x0), .second, .val (.long x1), .second, .val (.long x2), .second, .val (.long x3), .second, .val (.ref b1), .val (.ref b3), .val (.ref b5), .val (.ref b7), .val (.ref b9), .val (.long (stp x0 (0 : Int64) (0 : Int64) (0 : Int64))), .second, .val (.long (stp (0 : Int64) x1 (0 : Int64) (0 : Int64))), .second, .val (.long (stp (0 : Int64) (0 : Int64) x2 (0 : Int64))), .second, .val (.long (stp (0 : Int64) (0 : Int64) (0 : Int64) x3)), .second, .unset, .unset, .unset, .unset] [(.ref b1)])) rfl (by rw [hml]; rfl) (Steps.refl _) (argsL := []) (rest := []) (lenOf pd_2 rfl) rfl (by show 2 * 0 + _ ≤ _; exact Nat.le_of_eq rfl) (hb hby at_99) (fun _ _ => ⟨rfl, e14, (by decide : 5 + 0 ≤ _), (by decide : 20 + 0 ≤ _)⟩)
  dsimp only [Pt.U, Pt.locs, Pt.cells, Pt.slots] at X15 l15 y15 z15 st15 hQ15
  subst l15 y15 z15
  obtain ⟨rfl, N15q, e15⟩ := hQ15
  have N15 := Fr.app N14 N15q
  refine Go.tr (T' := T15) (f' := (mkF m 102 #[.val (.long x0), .second, .val (.long x1), .second, .val (.long x2), .second, .val (.long x3), .second, .val (.ref b1), .val (.ref b3), .val (.ref b5), .val (.ref b7), .val (.ref b9), .val (.long (stp x0 (0 : Int64) (0 : Int64) (0 : Int64))), .second, .val (.long (stp (0 : Int64) x1 (0 : Int64) (0 : Int64))), .second, .val (.long (stp (0 : Int64) (0 : Int64) x2 (0 : Int64))), .second, .val (.long (stp (0 : Int64) (0 : Int64) (0 : Int64) x3)), .second, .unset, .unset, .unset, .unset] [(.long (stp x0 x1 x2 x3))])) st15 ?_
  refine Go.of (T' := T15) (f' := (mkF m 104 #[.val (.long x0), .second, .val (.long x1), .second, .val (.long x2), .second, .val (.long x3), .second, .val (.ref b1), .val (.ref b3), .val (.ref b5), .val (.ref b7), .val (.ref b9), .val (.long (stp x0 (0 : Int64) (0 : Int64) (0 : Int64))), .second, .val (.long (stp (0 : Int64) x1 (0 : Int64) (0 : Int64))), .second, .val (.long (stp (0 : Int64) (0 : Int64) x2 (0 : Int64))), .second, .val (.long (stp (0 : Int64) (0 : Int64) (0 : Int64) x3)), .second, .val (.long (stp x0 x1 x2 x3)), .second, .unset, .unset] [])) (fun t k => XS.lstore X15.here hx rfl (hb hby at_102) rfl (l' := #[.val (.long x0), .second, .val (.long x1), .second, .val (.long x2), .second, .val (.long x3), .second, .val (.ref b1), .val (.ref b3), .val (.ref b5), .val (.ref b7), .val (.ref b9), .val (.long (stp x0 (0 : Int64) (0 : Int64) (0 : Int64))), .second, .val (.long (stp (0 : Int64) x1 (0 : Int64) (0 : Int64))), .second, .val (.long (stp (0 : Int64) (0 : Int64) x2 (0 : Int64))), .second, .val (.long (stp (0 : Int64) (0 : Int64) (0 : Int64) x3)), .second, .val (.long (stp x0 x1 x2 x3)), .second, .unset, .unset]) rfl k) ?_
  refine Go.of (T' := T15) (f' := (mkF m 106 #[.val (.long x0), .second, .val (.long x1), .second, .val (.long x2), .second, .val (.long x3), .second, .val (.ref b1), .val (.ref b3), .val (.ref b5), .val (.ref b7), .val (.ref b9), .val (.long (stp x0 (0 : Int64) (0 : Int64) (0 : Int64))), .second, .val (.long (stp (0 : Int64) x1 (0 : Int64) (0 : Int64))), .second, .val (.long (stp (0 : Int64) (0 : Int64) x2 (0 : Int64))), .second, .val (.long (stp (0 : Int64) (0 : Int64) (0 : Int64) x3)), .second, .val (.long (stp x0 x1 x2 x3)), .second, .unset, .unset] [(.long (stp x0 (0 : Int64) (0 : Int64) (0 : Int64)))])) (fun t k => XS.lload X15.here hx rfl (hb hby at_104) rfl k) ?_
  refine Go.of (T' := T15) (f' := (mkF m 107 #[.val (.long x0), .second, .val (.long x1), .second, .val (.long x2), .second, .val (.long x3), .second, .val (.ref b1), .val (.ref b3), .val (.ref b5), .val (.ref b7), .val (.ref b9), .val (.long (stp x0 (0 : Int64) (0 : Int64) (0 : Int64))), .second, .val (.long (stp (0 : Int64) x1 (0 : Int64) (0 : Int64))), .second, .val (.long (stp (0 : Int64) (0 : Int64) x2 (0 : Int64))), .second, .val (.long (stp (0 : Int64) (0 : Int64) (0 : Int64) x3)), .second, .val (.long (stp x0 x1 x2 x3)), .second, .unset, .unset] [(.long x0), (.long (stp x0 (0 : Int64) (0 : Int64) (0 : Int64)))])) (fun t k => XS.lloadN X15.here hx rfl (hb hby at_106) rfl k) ?_
  refine Go.of (T' := T15) (f' := (mkF m 108 #[.val (.long x0), .second, .val (.long x1), .second, .val (.long x2), .second, .val (.long x3), .second, .val (.ref b1), .val (.ref b3), .val (.ref b5), .val (.ref b7), .val (.ref b9), .val (.long (stp x0 (0 : Int64) (0 : Int64) (0 : Int64))), .second, .val (.long (stp (0 : Int64) x1 (0 : Int64) (0 : Int64))), .second, .val (.long (stp (0 : Int64) (0 : Int64) x2 (0 : Int64))), .second, .val (.long (stp (0 : Int64) (0 : Int64) (0 : Int64) x3)), .second, .val (.long (stp x0 x1 x2 x3)), .second, .unset, .unset] [(.int (lcmpW (stp x0 (0 : Int64) (0 : Int64) (0 : Int64)) x0))])) (fun t k => XS.lcmp X15.here hx rfl (hb hby at_107) rfl k) ?_
  have hc108 : (stp x0 (0 : Int64) (0 : Int64) (0 : Int64)) = x0 := stp0 _
  refine Go.of (T' := T15) (f' := (mkF m 111 #[.val (.long x0), .second, .val (.long x1), .second, .val (.long x2), .second, .val (.long x3), .second, .val (.ref b1), .val (.ref b3), .val (.ref b5), .val (.ref b7), .val (.ref b9), .val (.long (stp x0 (0 : Int64) (0 : Int64) (0 : Int64))), .second, .val (.long (stp (0 : Int64) x1 (0 : Int64) (0 : Int64))), .second, .val (.long (stp (0 : Int64) (0 : Int64) x2 (0 : Int64))), .second, .val (.long (stp (0 : Int64) (0 : Int64) (0 : Int64) x3)), .second, .val (.long (stp x0 x1 x2 x3)), .second, .unset, .unset] [])) (fun t k => XS.ifNo X15.here hx rfl (hb hby at_108) rfl (lc_ne_f hc108) k) ?_
  refine Go.of (T' := T15) (f' := (mkF m 113 #[.val (.long x0), .second, .val (.long x1), .second, .val (.long x2), .second, .val (.long x3), .second, .val (.ref b1), .val (.ref b3), .val (.ref b5), .val (.ref b7), .val (.ref b9), .val (.long (stp x0 (0 : Int64) (0 : Int64) (0 : Int64))), .second, .val (.long (stp (0 : Int64) x1 (0 : Int64) (0 : Int64))), .second, .val (.long (stp (0 : Int64) (0 : Int64) x2 (0 : Int64))), .second, .val (.long (stp (0 : Int64) (0 : Int64) (0 : Int64) x3)), .second, .val (.long (stp x0 x1 x2 x3)), .second, .unset, .unset] [(.long (stp (0 : Int64) x1 (0 : Int64) (0 : Int64)))])) (fun t k => XS.lload X15.here hx rfl (hb hby at_111) rfl k) ?_
  refine Go.of (T' := T15) (f' := (mkF m 114 #[.val (.long x0), .second, .val (.long x1), .second, .val (.long x2), .second, .val (.long x3), .second, .val (.ref b1), .val (.ref b3), .val (.ref b5), .val (.ref b7), .val (.ref b9), .val (.long (stp x0 (0 : Int64) (0 : Int64) (0 : Int64))), .second, .val (.long (stp (0 : Int64) x1 (0 : Int64) (0 : Int64))), .second, .val (.long (stp (0 : Int64) (0 : Int64) x2 (0 : Int64))), .second, .val (.long (stp (0 : Int64) (0 : Int64) (0 : Int64) x3)), .second, .val (.long (stp x0 x1 x2 x3)), .second, .unset, .unset] [(.long x1), (.long (stp (0 : Int64) x1 (0 : Int64) (0 : Int64)))])) (fun t k => XS.lloadN X15.here hx rfl (hb hby at_113) rfl k) ?_
  refine Go.of (T' := T15) (f' := (mkF m 115 #[.val (.long x0), .second, .val (.long x1), .second, .val (.long x2), .second, .val (.long x3), .second, .val (.ref b1), .val (.ref b3), .val (.ref b5), .val (.ref b7), .val (.ref b9), .val (.long (stp x0 (0 : Int64) (0 : Int64) (0 : Int64))), .second, .val (.long (stp (0 : Int64) x1 (0 : Int64) (0 : Int64))), .second, .val (.long (stp (0 : Int64) (0 : Int64) x2 (0 : Int64))), .second, .val (.long (stp (0 : Int64) (0 : Int64) (0 : Int64) x3)), .second, .val (.long (stp x0 x1 x2 x3)), .second, .unset, .unset] [(.int (lcmpW (stp (0 : Int64) x1 (0 : Int64) (0 : Int64)) x1))])) (fun t k => XS.lcmp X15.here hx rfl (hb hby at_114) rfl k) ?_
  have hc115 : (stp (0 : Int64) x1 (0 : Int64) (0 : Int64)) = x1 := stp1 _
  refine Go.of (T' := T15) (f' := (mkF m 118 #[.val (.long x0), .second, .val (.long x1), .second, .val (.long x2), .second, .val (.long x3), .second, .val (.ref b1), .val (.ref b3), .val (.ref b5), .val (.ref b7), .val (.ref b9), .val (.long (stp x0 (0 : Int64) (0 : Int64) (0 : Int64))), .second, .val (.long (stp (0 : Int64) x1 (0 : Int64) (0 : Int64))), .second, .val (.long (stp (0 : Int64) (0 : Int64) x2 (0 : Int64))), .second, .val (.long (stp (0 : Int64) (0 : Int64) (0 : Int64) x3)), .second, .val (.long (stp x0 x1 x2 x3)), .second, .unset, .unset] [])) (fun t k => XS.ifNo X15.here hx rfl (hb hby at_115) rfl (lc_ne_f hc115) k) ?_
  refine Go.of (T' := T15) (f' := (mkF m 120 #[.val (.long x0), .second, .val (.long x1), .second, .val (.long x2), .second, .val (.long x3), .second, .val (.ref b1), .val (.ref b3), .val (.ref b5), .val (.ref b7), .val (.ref b9), .val (.long (stp x0 (0 : Int64) (0 : Int64) (0 : Int64))), .second, .val (.long (stp (0 : Int64) x1 (0 : Int64) (0 : Int64))), .second, .val (.long (stp (0 : Int64) (0 : Int64) x2 (0 : Int64))), .second, .val (.long (stp (0 : Int64) (0 : Int64) (0 : Int64) x3)), .second, .val (.long (stp x0 x1 x2 x3)), .second, .unset, .unset] [(.long (stp (0 : Int64) (0 : Int64) x2 (0 : Int64)))])) (fun t k => XS.lload X15.here hx rfl (hb hby at_118) rfl k) ?_
  refine Go.of (T' := T15) (f' := (mkF m 122 #[.val (.long x0), .second, .val (.long x1), .second, .val (.long x2), .second, .val (.long x3), .second, .val (.ref b1), .val (.ref b3), .val (.ref b5), .val (.ref b7), .val (.ref b9), .val (.long (stp x0 (0 : Int64) (0 : Int64) (0 : Int64))), .second, .val (.long (stp (0 : Int64) x1 (0 : Int64) (0 : Int64))), .second, .val (.long (stp (0 : Int64) (0 : Int64) x2 (0 : Int64))), .second, .val (.long (stp (0 : Int64) (0 : Int64) (0 : Int64) x3)), .second, .val (.long (stp x0 x1 x2 x3)), .second, .unset, .unset] [(.long x2), (.long (stp (0 : Int64) (0 : Int64) x2 (0 : Int64)))])) (fun t k => XS.lload X15.here hx rfl (hb hby at_120) rfl k) ?_
  refine Go.of (T' := T15) (f' := (mkF m 123 #[.val (.long x0), .second, .val (.long x1), .second, .val (.long x2), .second, .val (.long x3), .second, .val (.ref b1), .val (.ref b3), .val (.ref b5), .val (.ref b7), .val (.ref b9), .val (.long (stp x0 (0 : Int64) (0 : Int64) (0 : Int64))), .second, .val (.long (stp (0 : Int64) x1 (0 : Int64) (0 : Int64))), .second, .val (.long (stp (0 : Int64) (0 : Int64) x2 (0 : Int64))), .second, .val (.long (stp (0 : Int64) (0 : Int64) (0 : Int64) x3)), .second, .val (.long (stp x0 x1 x2 x3)), .second, .unset, .unset] [(.int (lcmpW (stp (0 : Int64) (0 : Int64) x2 (0 : Int64)) x2))])) (fun t k => XS.lcmp X15.here hx rfl (hb hby at_122) rfl k) ?_
  have hc123 : (stp (0 : Int64) (0 : Int64) x2 (0 : Int64)) = x2 := stp2 _
  refine Go.of (T' := T15) (f' := (mkF m 126 #[.val (.long x0), .second, .val (.long x1), .second, .val (.long x2), .second, .val (.long x3), .second, .val (.ref b1), .val (.ref b3), .val (.ref b5), .val (.ref b7), .val (.ref b9), .val (.long (stp x0 (0 : Int64) (0 : Int64) (0 : Int64))), .second, .val (.long (stp (0 : Int64) x1 (0 : Int64) (0 : Int64))), .second, .val (.long (stp (0 : Int64) (0 : Int64) x2 (0 : Int64))), .second, .val (.long (stp (0 : Int64) (0 : Int64) (0 : Int64) x3)), .second, .val (.long (stp x0 x1 x2 x3)), .second, .unset, .unset] [])) (fun t k => XS.ifNo X15.here hx rfl (hb hby at_123) rfl (lc_ne_f hc123) k) ?_
  refine Go.of (T' := T15) (f' := (mkF m 128 #[.val (.long x0), .second, .val (.long x1), .second, .val (.long x2), .second, .val (.long x3), .second, .val (.ref b1), .val (.ref b3), .val (.ref b5), .val (.ref b7), .val (.ref b9), .val (.long (stp x0 (0 : Int64) (0 : Int64) (0 : Int64))), .second, .val (.long (stp (0 : Int64) x1 (0 : Int64) (0 : Int64))), .second, .val (.long (stp (0 : Int64) (0 : Int64) x2 (0 : Int64))), .second, .val (.long (stp (0 : Int64) (0 : Int64) (0 : Int64) x3)), .second, .val (.long (stp x0 x1 x2 x3)), .second, .unset, .unset] [(.long (stp (0 : Int64) (0 : Int64) (0 : Int64) x3))])) (fun t k => XS.lload X15.here hx rfl (hb hby at_126) rfl k) ?_
  refine Go.of (T' := T15) (f' := (mkF m 130 #[.val (.long x0), .second, .val (.long x1), .second, .val (.long x2), .second, .val (.long x3), .second, .val (.ref b1), .val (.ref b3), .val (.ref b5), .val (.ref b7), .val (.ref b9), .val (.long (stp x0 (0 : Int64) (0 : Int64) (0 : Int64))), .second, .val (.long (stp (0 : Int64) x1 (0 : Int64) (0 : Int64))), .second, .val (.long (stp (0 : Int64) (0 : Int64) x2 (0 : Int64))), .second, .val (.long (stp (0 : Int64) (0 : Int64) (0 : Int64) x3)), .second, .val (.long (stp x0 x1 x2 x3)), .second, .unset, .unset] [(.long x3), (.long (stp (0 : Int64) (0 : Int64) (0 : Int64) x3))])) (fun t k => XS.lload X15.here hx rfl (hb hby at_128) rfl k) ?_
  refine Go.of (T' := T15) (f' := (mkF m 131 #[.val (.long x0), .second, .val (.long x1), .second, .val (.long x2), .second, .val (.long x3), .second, .val (.ref b1), .val (.ref b3), .val (.ref b5), .val (.ref b7), .val (.ref b9), .val (.long (stp x0 (0 : Int64) (0 : Int64) (0 : Int64))), .second, .val (.long (stp (0 : Int64) x1 (0 : Int64) (0 : Int64))), .second, .val (.long (stp (0 : Int64) (0 : Int64) x2 (0 : Int64))), .second, .val (.long (stp (0 : Int64) (0 : Int64) (0 : Int64) x3)), .second, .val (.long (stp x0 x1 x2 x3)), .second, .unset, .unset] [(.int (lcmpW (stp (0 : Int64) (0 : Int64) (0 : Int64) x3) x3))])) (fun t k => XS.lcmp X15.here hx rfl (hb hby at_130) rfl k) ?_
  have hc131 : (stp (0 : Int64) (0 : Int64) (0 : Int64) x3) = x3 := stp3 _
  refine Go.of (T' := T15) (f' := (mkF m 134 #[.val (.long x0), .second, .val (.long x1), .second, .val (.long x2), .second, .val (.long x3), .second, .val (.ref b1), .val (.ref b3), .val (.ref b5), .val (.ref b7), .val (.ref b9), .val (.long (stp x0 (0 : Int64) (0 : Int64) (0 : Int64))), .second, .val (.long (stp (0 : Int64) x1 (0 : Int64) (0 : Int64))), .second, .val (.long (stp (0 : Int64) (0 : Int64) x2 (0 : Int64))), .second, .val (.long (stp (0 : Int64) (0 : Int64) (0 : Int64) x3)), .second, .val (.long (stp x0 x1 x2 x3)), .second, .unset, .unset] [])) (fun t k => XS.ifNo X15.here hx rfl (hb hby at_131) rfl (lc_ne_f hc131) k) ?_
  refine Go.of (T' := T15) (f' := (mkF m 135 #[.val (.long x0), .second, .val (.long x1), .second, .val (.long x2), .second, .val (.long x3), .second, .val (.ref b1), .val (.ref b3), .val (.ref b5), .val (.ref b7), .val (.ref b9), .val (.long (stp x0 (0 : Int64) (0 : Int64) (0 : Int64))), .second, .val (.long (stp (0 : Int64) x1 (0 : Int64) (0 : Int64))), .second, .val (.long (stp (0 : Int64) (0 : Int64) x2 (0 : Int64))), .second, .val (.long (stp (0 : Int64) (0 : Int64) (0 : Int64) x3)), .second, .val (.long (stp x0 x1 x2 x3)), .second, .unset, .unset] [(.int (1 : Int32))])) (fun t k => XS.iconst X15.here hx rfl (hb hby at_134) k) ?_
  refine Go.of (T' := T15) (f' := (mkF m 139 #[.val (.long x0), .second, .val (.long x1), .second, .val (.long x2), .second, .val (.long x3), .second, .val (.ref b1), .val (.ref b3), .val (.ref b5), .val (.ref b7), .val (.ref b9), .val (.long (stp x0 (0 : Int64) (0 : Int64) (0 : Int64))), .second, .val (.long (stp (0 : Int64) x1 (0 : Int64) (0 : Int64))), .second, .val (.long (stp (0 : Int64) (0 : Int64) x2 (0 : Int64))), .second, .val (.long (stp (0 : Int64) (0 : Int64) (0 : Int64) x3)), .second, .val (.long (stp x0 x1 x2 x3)), .second, .unset, .unset] [(.int (1 : Int32))])) (fun t k => XS.goto X15.here hx rfl (pc0 := 135) (pc' := 139) rfl (hb hby at_135) (by decide) (by decide) k) ?_
  refine Go.of (T' := T15) (f' := (mkF m 141 #[.val (.long x0), .second, .val (.long x1), .second, .val (.long x2), .second, .val (.long x3), .second, .val (.ref b1), .val (.ref b3), .val (.ref b5), .val (.ref b7), .val (.ref b9), .val (.long (stp x0 (0 : Int64) (0 : Int64) (0 : Int64))), .second, .val (.long (stp (0 : Int64) x1 (0 : Int64) (0 : Int64))), .second, .val (.long (stp (0 : Int64) (0 : Int64) x2 (0 : Int64))), .second, .val (.long (stp (0 : Int64) (0 : Int64) (0 : Int64) x3)), .second, .val (.long (stp x0 x1 x2 x3)), .second, .val (.int (1 : Int32)), .unset] [])) (fun t k => XS.istore X15.here hx rfl (hb hby at_139) rfl (l' := #[.val (.long x0), .second, .val (.long x1), .second, .val (.long x2), .second, .val (.long x3), .second, .val (.ref b1), .val (.ref b3), .val (.ref b5), .val (.ref b7), .val (.ref b9), .val (.long (stp x0 (0 : Int64) (0 : Int64) (0 : Int64))), .second, .val (.long (stp (0 : Int64) x1 (0 : Int64) (0 : Int64))), .second, .val (.long (stp (0 : Int64) (0 : Int64) x2 (0 : Int64))), .second, .val (.long (stp (0 : Int64) (0 : Int64) (0 : Int64) x3)), .second, .val (.long (stp x0 x1 x2 x3)), .second, .val (.int (1 : Int32)), .unset]) rfl k) ?_
  refine Go.of (T' := T15) (f' := (mkF m 143 #[.val (.long x0), .second, .val (.long x1), .second, .val (.long x2), .second, .val (.long x3), .second, .val (.ref b1), .val (.ref b3), .val (.ref b5), .val (.ref b7), .val (.ref b9), .val (.long (stp x0 (0 : Int64) (0 : Int64) (0 : Int64))), .second, .val (.long (stp (0 : Int64) x1 (0 : Int64) (0 : Int64))), .second, .val (.long (stp (0 : Int64) (0 : Int64) x2 (0 : Int64))), .second, .val (.long (stp (0 : Int64) (0 : Int64) (0 : Int64) x3)), .second, .val (.long (stp x0 x1 x2 x3)), .second, .val (.int (1 : Int32)), .unset] [(.long (stp x0 x1 x2 x3))])) (fun t k => XS.lload X15.here hx rfl (hb hby at_141) rfl k) ?_
  refine Go.of (T' := T15) (f' := (mkF m 145 #[.val (.long x0), .second, .val (.long x1), .second, .val (.long x2), .second, .val (.long x3), .second, .val (.ref b1), .val (.ref b3), .val (.ref b5), .val (.ref b7), .val (.ref b9), .val (.long (stp x0 (0 : Int64) (0 : Int64) (0 : Int64))), .second, .val (.long (stp (0 : Int64) x1 (0 : Int64) (0 : Int64))), .second, .val (.long (stp (0 : Int64) (0 : Int64) x2 (0 : Int64))), .second, .val (.long (stp (0 : Int64) (0 : Int64) (0 : Int64) x3)), .second, .val (.long (stp x0 x1 x2 x3)), .second, .val (.int (1 : Int32)), .unset] [(.long (stp x0 (0 : Int64) (0 : Int64) (0 : Int64))), (.long (stp x0 x1 x2 x3))])) (fun t k => XS.lload X15.here hx rfl (hb hby at_143) rfl k) ?_
  refine Go.of (T' := T15) (f' := (mkF m 147 #[.val (.long x0), .second, .val (.long x1), .second, .val (.long x2), .second, .val (.long x3), .second, .val (.ref b1), .val (.ref b3), .val (.ref b5), .val (.ref b7), .val (.ref b9), .val (.long (stp x0 (0 : Int64) (0 : Int64) (0 : Int64))), .second, .val (.long (stp (0 : Int64) x1 (0 : Int64) (0 : Int64))), .second, .val (.long (stp (0 : Int64) (0 : Int64) x2 (0 : Int64))), .second, .val (.long (stp (0 : Int64) (0 : Int64) (0 : Int64) x3)), .second, .val (.long (stp x0 x1 x2 x3)), .second, .val (.int (1 : Int32)), .unset] [(.long (stp (0 : Int64) x1 (0 : Int64) (0 : Int64))), (.long (stp x0 (0 : Int64) (0 : Int64) (0 : Int64))), (.long (stp x0 x1 x2 x3))])) (fun t k => XS.lload X15.here hx rfl (hb hby at_145) rfl k) ?_
  refine Go.of (T' := T15) (f' := (mkF m 148 #[.val (.long x0), .second, .val (.long x1), .second, .val (.long x2), .second, .val (.long x3), .second, .val (.ref b1), .val (.ref b3), .val (.ref b5), .val (.ref b7), .val (.ref b9), .val (.long (stp x0 (0 : Int64) (0 : Int64) (0 : Int64))), .second, .val (.long (stp (0 : Int64) x1 (0 : Int64) (0 : Int64))), .second, .val (.long (stp (0 : Int64) (0 : Int64) x2 (0 : Int64))), .second, .val (.long (stp (0 : Int64) (0 : Int64) (0 : Int64) x3)), .second, .val (.long (stp x0 x1 x2 x3)), .second, .val (.int (1 : Int32)), .unset] [(.long ((stp x0 (0 : Int64) (0 : Int64) (0 : Int64)) + (stp (0 : Int64) x1 (0 : Int64) (0 : Int64)))), (.long (stp x0 x1 x2 x3))])) (fun t k => XS.ladd X15.here hx rfl (hb hby at_147) rfl k) ?_
  refine Go.of (T' := T15) (f' := (mkF m 150 #[.val (.long x0), .second, .val (.long x1), .second, .val (.long x2), .second, .val (.long x3), .second, .val (.ref b1), .val (.ref b3), .val (.ref b5), .val (.ref b7), .val (.ref b9), .val (.long (stp x0 (0 : Int64) (0 : Int64) (0 : Int64))), .second, .val (.long (stp (0 : Int64) x1 (0 : Int64) (0 : Int64))), .second, .val (.long (stp (0 : Int64) (0 : Int64) x2 (0 : Int64))), .second, .val (.long (stp (0 : Int64) (0 : Int64) (0 : Int64) x3)), .second, .val (.long (stp x0 x1 x2 x3)), .second, .val (.int (1 : Int32)), .unset] [(.long (stp (0 : Int64) (0 : Int64) x2 (0 : Int64))), (.long ((stp x0 (0 : Int64) (0 : Int64) (0 : Int64)) + (stp (0 : Int64) x1 (0 : Int64) (0 : Int64)))), (.long (stp x0 x1 x2 x3))])) (fun t k => XS.lload X15.here hx rfl (hb hby at_148) rfl k) ?_
  refine Go.of (T' := T15) (f' := (mkF m 151 #[.val (.long x0), .second, .val (.long x1), .second, .val (.long x2), .second, .val (.long x3), .second, .val (.ref b1), .val (.ref b3), .val (.ref b5), .val (.ref b7), .val (.ref b9), .val (.long (stp x0 (0 : Int64) (0 : Int64) (0 : Int64))), .second, .val (.long (stp (0 : Int64) x1 (0 : Int64) (0 : Int64))), .second, .val (.long (stp (0 : Int64) (0 : Int64) x2 (0 : Int64))), .second, .val (.long (stp (0 : Int64) (0 : Int64) (0 : Int64) x3)), .second, .val (.long (stp x0 x1 x2 x3)), .second, .val (.int (1 : Int32)), .unset] [(.long (((stp x0 (0 : Int64) (0 : Int64) (0 : Int64)) + (stp (0 : Int64) x1 (0 : Int64) (0 : Int64))) + (stp (0 : Int64) (0 : Int64) x2 (0 : Int64)))), (.long (stp x0 x1 x2 x3))])) (fun t k => XS.ladd X15.here hx rfl (hb hby at_150) rfl k) ?_
  refine Go.of (T' := T15) (f' := (mkF m 153 #[.val (.long x0), .second, .val (.long x1), .second, .val (.long x2), .second, .val (.long x3), .second, .val (.ref b1), .val (.ref b3), .val (.ref b5), .val (.ref b7), .val (.ref b9), .val (.long (stp x0 (0 : Int64) (0 : Int64) (0 : Int64))), .second, .val (.long (stp (0 : Int64) x1 (0 : Int64) (0 : Int64))), .second, .val (.long (stp (0 : Int64) (0 : Int64) x2 (0 : Int64))), .second, .val (.long (stp (0 : Int64) (0 : Int64) (0 : Int64) x3)), .second, .val (.long (stp x0 x1 x2 x3)), .second, .val (.int (1 : Int32)), .unset] [(.long (stp (0 : Int64) (0 : Int64) (0 : Int64) x3)), (.long (((stp x0 (0 : Int64) (0 : Int64) (0 : Int64)) + (stp (0 : Int64) x1 (0 : Int64) (0 : Int64))) + (stp (0 : Int64) (0 : Int64) x2 (0 : Int64)))), (.long (stp x0 x1 x2 x3))])) (fun t k => XS.lload X15.here hx rfl (hb hby at_151) rfl k) ?_
  refine Go.of (T' := T15) (f' := (mkF m 154 #[.val (.long x0), .second, .val (.long x1), .second, .val (.long x2), .second, .val (.long x3), .second, .val (.ref b1), .val (.ref b3), .val (.ref b5), .val (.ref b7), .val (.ref b9), .val (.long (stp x0 (0 : Int64) (0 : Int64) (0 : Int64))), .second, .val (.long (stp (0 : Int64) x1 (0 : Int64) (0 : Int64))), .second, .val (.long (stp (0 : Int64) (0 : Int64) x2 (0 : Int64))), .second, .val (.long (stp (0 : Int64) (0 : Int64) (0 : Int64) x3)), .second, .val (.long (stp x0 x1 x2 x3)), .second, .val (.int (1 : Int32)), .unset] [(.long ((((stp x0 (0 : Int64) (0 : Int64) (0 : Int64)) + (stp (0 : Int64) x1 (0 : Int64) (0 : Int64))) + (stp (0 : Int64) (0 : Int64) x2 (0 : Int64))) + (stp (0 : Int64) (0 : Int64) (0 : Int64) x3))), (.long (stp x0 x1 x2 x3))])) (fun t k => XS.ladd X15.here hx rfl (hb hby at_153) rfl k) ?_
  refine Go.of (T' := T15) (f' := (mkF m 155 #[.val (.long x0), .second, .val (.long x1), .second, .val (.long x2), .second, .val (.long x3), .second, .val (.ref b1), .val (.ref b3), .val (.ref b5), .val (.ref b7), .val (.ref b9), .val (.long (stp x0 (0 : Int64) (0 : Int64) (0 : Int64))), .second, .val (.long (stp (0 : Int64) x1 (0 : Int64) (0 : Int64))), .second, .val (.long (stp (0 : Int64) (0 : Int64) x2 (0 : Int64))), .second, .val (.long (stp (0 : Int64) (0 : Int64) (0 : Int64) x3)), .second, .val (.long (stp x0 x1 x2 x3)), .second, .val (.int (1 : Int32)), .unset] [(.int (lcmpW (stp x0 x1 x2 x3) ((((stp x0 (0 : Int64) (0 : Int64) (0 : Int64)) + (stp (0 : Int64) x1 (0 : Int64) (0 : Int64))) + (stp (0 : Int64) (0 : Int64) x2 (0 : Int64))) + (stp (0 : Int64) (0 : Int64) (0 : Int64) x3))))])) (fun t k => XS.lcmp X15.here hx rfl (hb hby at_154) rfl k) ?_
  have hc155 : (stp x0 x1 x2 x3) = ((((stp x0 (0 : Int64) (0 : Int64) (0 : Int64)) + (stp (0 : Int64) x1 (0 : Int64) (0 : Int64))) + (stp (0 : Int64) (0 : Int64) x2 (0 : Int64))) + (stp (0 : Int64) (0 : Int64) (0 : Int64) x3)) := by rw [stp0, stp1, stp2, stp3]; rfl
  refine Go.of (T' := T15) (f' := (mkF m 158 #[.val (.long x0), .second, .val (.long x1), .second, .val (.long x2), .second, .val (.long x3), .second, .val (.ref b1), .val (.ref b3), .val (.ref b5), .val (.ref b7), .val (.ref b9), .val (.long (stp x0 (0 : Int64) (0 : Int64) (0 : Int64))), .second, .val (.long (stp (0 : Int64) x1 (0 : Int64) (0 : Int64))), .second, .val (.long (stp (0 : Int64) (0 : Int64) x2 (0 : Int64))), .second, .val (.long (stp (0 : Int64) (0 : Int64) (0 : Int64) x3)), .second, .val (.long (stp x0 x1 x2 x3)), .second, .val (.int (1 : Int32)), .unset] [])) (fun t k => XS.ifNo X15.here hx rfl (hb hby at_155) rfl (lc_ne_f hc155) k) ?_
  refine Go.of (T' := T15) (f' := (mkF m 159 #[.val (.long x0), .second, .val (.long x1), .second, .val (.long x2), .second, .val (.long x3), .second, .val (.ref b1), .val (.ref b3), .val (.ref b5), .val (.ref b7), .val (.ref b9), .val (.long (stp x0 (0 : Int64) (0 : Int64) (0 : Int64))), .second, .val (.long (stp (0 : Int64) x1 (0 : Int64) (0 : Int64))), .second, .val (.long (stp (0 : Int64) (0 : Int64) x2 (0 : Int64))), .second, .val (.long (stp (0 : Int64) (0 : Int64) (0 : Int64) x3)), .second, .val (.long (stp x0 x1 x2 x3)), .second, .val (.int (1 : Int32)), .unset] [(.int (1 : Int32))])) (fun t k => XS.iconst X15.here hx rfl (hb hby at_158) k) ?_
  refine Go.of (T' := T15) (f' := (mkF m 163 #[.val (.long x0), .second, .val (.long x1), .second, .val (.long x2), .second, .val (.long x3), .second, .val (.ref b1), .val (.ref b3), .val (.ref b5), .val (.ref b7), .val (.ref b9), .val (.long (stp x0 (0 : Int64) (0 : Int64) (0 : Int64))), .second, .val (.long (stp (0 : Int64) x1 (0 : Int64) (0 : Int64))), .second, .val (.long (stp (0 : Int64) (0 : Int64) x2 (0 : Int64))), .second, .val (.long (stp (0 : Int64) (0 : Int64) (0 : Int64) x3)), .second, .val (.long (stp x0 x1 x2 x3)), .second, .val (.int (1 : Int32)), .unset] [(.int (1 : Int32))])) (fun t k => XS.goto X15.here hx rfl (pc0 := 159) (pc' := 163) rfl (hb hby at_159) (by decide) (by decide) k) ?_
  refine Go.of (T' := T15) (f' := (mkF m 165 #[.val (.long x0), .second, .val (.long x1), .second, .val (.long x2), .second, .val (.long x3), .second, .val (.ref b1), .val (.ref b3), .val (.ref b5), .val (.ref b7), .val (.ref b9), .val (.long (stp x0 (0 : Int64) (0 : Int64) (0 : Int64))), .second, .val (.long (stp (0 : Int64) x1 (0 : Int64) (0 : Int64))), .second, .val (.long (stp (0 : Int64) (0 : Int64) x2 (0 : Int64))), .second, .val (.long (stp (0 : Int64) (0 : Int64) (0 : Int64) x3)), .second, .val (.long (stp x0 x1 x2 x3)), .second, .val (.int (1 : Int32)), .val (.int (1 : Int32))] [])) (fun t k => XS.istore X15.here hx rfl (hb hby at_163) rfl (l' := #[.val (.long x0), .second, .val (.long x1), .second, .val (.long x2), .second, .val (.long x3), .second, .val (.ref b1), .val (.ref b3), .val (.ref b5), .val (.ref b7), .val (.ref b9), .val (.long (stp x0 (0 : Int64) (0 : Int64) (0 : Int64))), .second, .val (.long (stp (0 : Int64) x1 (0 : Int64) (0 : Int64))), .second, .val (.long (stp (0 : Int64) (0 : Int64) x2 (0 : Int64))), .second, .val (.long (stp (0 : Int64) (0 : Int64) (0 : Int64) x3)), .second, .val (.long (stp x0 x1 x2 x3)), .second, .val (.int (1 : Int32)), .val (.int (1 : Int32))]) rfl k) ?_
  refine Go.of (T' := T15) (f' := (mkF m 167 #[.val (.long x0), .second, .val (.long x1), .second, .val (.long x2), .second, .val (.long x3), .second, .val (.ref b1), .val (.ref b3), .val (.ref b5), .val (.ref b7), .val (.ref b9), .val (.long (stp x0 (0 : Int64) (0 : Int64) (0 : Int64))), .second, .val (.long (stp (0 : Int64) x1 (0 : Int64) (0 : Int64))), .second, .val (.long (stp (0 : Int64) (0 : Int64) x2 (0 : Int64))), .second, .val (.long (stp (0 : Int64) (0 : Int64) (0 : Int64) x3)), .second, .val (.long (stp x0 x1 x2 x3)), .second, .val (.int (1 : Int32)), .val (.int (1 : Int32))] [(.int (1 : Int32))])) (fun t k => XS.iload X15.here hx rfl (hb hby at_165) rfl k) ?_
  have hc167 : ¬ ((1 : Int32) = (0 : Int32)) := by decide
  refine Go.of (T' := T15) (f' := (mkF m 170 #[.val (.long x0), .second, .val (.long x1), .second, .val (.long x2), .second, .val (.long x3), .second, .val (.ref b1), .val (.ref b3), .val (.ref b5), .val (.ref b7), .val (.ref b9), .val (.long (stp x0 (0 : Int64) (0 : Int64) (0 : Int64))), .second, .val (.long (stp (0 : Int64) x1 (0 : Int64) (0 : Int64))), .second, .val (.long (stp (0 : Int64) (0 : Int64) x2 (0 : Int64))), .second, .val (.long (stp (0 : Int64) (0 : Int64) (0 : Int64) x3)), .second, .val (.long (stp x0 x1 x2 x3)), .second, .val (.int (1 : Int32)), .val (.int (1 : Int32))] [])) (fun t k => XS.ifNo X15.here hx rfl (hb hby at_167) rfl ((if0 _ _).trans (feq hc167).1) k) ?_
  refine Go.of (T' := T15) (f' := (mkF m 172 #[.val (.long x0), .second, .val (.long x1), .second, .val (.long x2), .second, .val (.long x3), .second, .val (.ref b1), .val (.ref b3), .val (.ref b5), .val (.ref b7), .val (.ref b9), .val (.long (stp x0 (0 : Int64) (0 : Int64) (0 : Int64))), .second, .val (.long (stp (0 : Int64) x1 (0 : Int64) (0 : Int64))), .second, .val (.long (stp (0 : Int64) (0 : Int64) x2 (0 : Int64))), .second, .val (.long (stp (0 : Int64) (0 : Int64) (0 : Int64) x3)), .second, .val (.long (stp x0 x1 x2 x3)), .second, .val (.int (1 : Int32)), .val (.int (1 : Int32))] [(.int (1 : Int32))])) (fun t k => XS.iload X15.here hx rfl (hb hby at_170) rfl k) ?_
  have hc172 : ¬ ((1 : Int32) = (0 : Int32)) := by decide
  refine Go.of (T' := T15) (f' := (mkF m 175 #[.val (.long x0), .second, .val (.long x1), .second, .val (.long x2), .second, .val (.long x3), .second, .val (.ref b1), .val (.ref b3), .val (.ref b5), .val (.ref b7), .val (.ref b9), .val (.long (stp x0 (0 : Int64) (0 : Int64) (0 : Int64))), .second, .val (.long (stp (0 : Int64) x1 (0 : Int64) (0 : Int64))), .second, .val (.long (stp (0 : Int64) (0 : Int64) x2 (0 : Int64))), .second, .val (.long (stp (0 : Int64) (0 : Int64) (0 : Int64) x3)), .second, .val (.long (stp x0 x1 x2 x3)), .second, .val (.int (1 : Int32)), .val (.int (1 : Int32))] [])) (fun t k => XS.ifNo X15.here hx rfl (hb hby at_172) rfl ((if0 _ _).trans (feq hc172).1) k) ?_
  refine Go.of (T' := T15) (f' := (mkF m 176 #[.val (.long x0), .second, .val (.long x1), .second, .val (.long x2), .second, .val (.long x3), .second, .val (.ref b1), .val (.ref b3), .val (.ref b5), .val (.ref b7), .val (.ref b9), .val (.long (stp x0 (0 : Int64) (0 : Int64) (0 : Int64))), .second, .val (.long (stp (0 : Int64) x1 (0 : Int64) (0 : Int64))), .second, .val (.long (stp (0 : Int64) (0 : Int64) x2 (0 : Int64))), .second, .val (.long (stp (0 : Int64) (0 : Int64) (0 : Int64) x3)), .second, .val (.long (stp x0 x1 x2 x3)), .second, .val (.int (1 : Int32)), .val (.int (1 : Int32))] [(.int (1 : Int32))])) (fun t k => XS.iconst X15.here hx rfl (hb hby at_175) k) ?_
  refine Go.of (T' := T15) (f' := (mkF m 180 #[.val (.long x0), .second, .val (.long x1), .second, .val (.long x2), .second, .val (.long x3), .second, .val (.ref b1), .val (.ref b3), .val (.ref b5), .val (.ref b7), .val (.ref b9), .val (.long (stp x0 (0 : Int64) (0 : Int64) (0 : Int64))), .second, .val (.long (stp (0 : Int64) x1 (0 : Int64) (0 : Int64))), .second, .val (.long (stp (0 : Int64) (0 : Int64) x2 (0 : Int64))), .second, .val (.long (stp (0 : Int64) (0 : Int64) (0 : Int64) x3)), .second, .val (.long (stp x0 x1 x2 x3)), .second, .val (.int (1 : Int32)), .val (.int (1 : Int32))] [(.int (1 : Int32))])) (fun t k => XS.goto X15.here hx rfl (pc0 := 176) (pc' := 180) rfl (hb hby at_176) (by decide) (by decide) k) ?_
  refine Go.retZ X15 hx hk (t := .boolean) Bd.returns (by simp) (hb hby at_180) (by decide) (by decide) ?_
  rw [e15]
  exact ⟨rfl, N15⟩
set_option maxRecDepth 65536 in
set_option maxHeartbeats 40000000 in
theorem comes_1 {Post : Tables → Env → Array Value → State → Outcome → State → Prop} (hpost : ∀ tb e args s v u, (limb_1_1.after args s (.returned v) u = true ∧ limb_1_2.after args s (.returned v) u = true ∧ True) → FrameEnd s (.returned v) u (Jvm.fieldLocs frame_1_writes args s ++ Jvm.arrayLocs frame_1_arrays args s ++ Jvm.staticLocs frame_1_statics s) 24 128 → Post tb e args s (.returned v) u) :
    ArmFor flags0 classFile x code maxLocals ret World_1 tables_1 room_1 Calls_1 rest_1 Pre_1 Post := by
  intro l hfl _ _ p e ha hc hk s m args below hf hA hF happ hP
  obtain ⟨hcalls, hrest, hpre⟩ := hP
  obtain ⟨-, -, -, hnamed, -, -, -, hat⟩ := (Spec.applies_iff hf).mp happ
  obtain ⟨hg, hn⟩ := and_e (Cond.before_iff.mp (show (Jvm.Cond.and given_1 narrow_1).before args s = true from hpre))
  obtain ⟨g0, gr0⟩ := and_e hg
  obtain ⟨ga0, gr1⟩ := and_e gr0
  obtain ⟨ga1, gr2⟩ := and_e gr1
  obtain ⟨ga2, gr3⟩ := and_e gr2
  have ga3 := gr3
  obtain ⟨w0, w1, w2, w3, rfl⟩ : ∃ w0 w1 w2 w3 : Value, args = #[w0, w1, w2, w3] := by
    have hs : args.size = 4 := by simpa [Cond.value, given_1] using g0
    obtain ⟨L⟩ := args
    match L, hs with
    | [w0, w1, w2, w3], _ => exact ⟨w0, w1, w2, w3, rfl⟩
  have hw := fun d (hd : d ∈ tables_1) => atoms_spec (ws := Jvm.Cond.code x code maxLocals ret :: tables_1) hat d (List.mem_cons_of_mem _ hd)
  obtain ⟨i0, ei0⟩ := isL_v ga0
  obtain rfl : w0 = (.long i0) := Option.some.inj ei0
  obtain ⟨i1, ei1⟩ := isL_v ga1
  obtain rfl : w1 = (.long i1) := Option.some.inj ei1
  obtain ⟨i2, ei2⟩ := isL_v ga2
  obtain rfl : w2 = (.long i2) := Option.some.inj ei2
  obtain ⟨i3, ei3⟩ := isL_v ga3
  obtain rfl : w3 = (.long i3) := Option.some.inj ei3
  obtain ⟨n, o, h1, h2, h3, _, L, rfl, ⟨rfl, N⟩, hq⟩ := rm0 l s _ hw tables_1 i0 i1 i2 i3 s.heap s.heap.size (Nat.le_refl _)  p e ha hc hk s m _ below hf ((Spec.applies_iff_loose hf).mp happ).1 ⟨rfl, State.Warmed39.refl s, rfl⟩ trivial
  refine ⟨n, _, h1, h2, h3, hpost _ _ _ _ _ _ ⟨Cond.after_iff.mpr rfl, Cond.after_iff.mpr (eq_i res_at (Term.int_eval (1)) rfl), trivial⟩ ⟨hq.1, hq.2.1, (hq.2.2.sift fun y hy => Or.inr (N y hy)).mono (by decide) (by decide)⟩⟩
theorem main_1_1 : Claimed_1_1 := comes_1 fun _ _ _ _ _ _ h hF => ⟨h.1, hF⟩
theorem main_1_2 : Claimed_1_2 := comes_1 fun _ _ _ _ _ _ h hF => ⟨h.2.1, hF⟩
end Jvm.Pilot.@@N@@
namespace Jvm.Pilot.@@N@@
open Jvm Jvm.ClassFile Sem Op Lib Jvm.Free Jvm.Stand Jvm.Pilot.@@N@@.Jvm.D
/-! MADE BY PROGRAM (witnessworld.py) out of the Statement's table words and the real class files: 10 classes; the members and pool entries that the words name. The judged class is class 1, her method 1. -/
namespace start1
open Jvm.ClassFile
def u (s : String) : CpInfo := .utf8 (stringToUtf16 s)
/-- a pool by its gaps: so many unusable entries, then the entry; so many at the end -/
def gap : Nat → List CpInfo → List CpInfo
  | 0, r => r
  | n + 1, r => .unusable :: gap n r
def poolList (es : List (Nat × CpInfo)) (last : Nat) : List CpInfo := es.foldr (fun e r => gap e.1 (e.2 :: r)) (gap last [])
def pool (es : List (Nat × CpInfo)) (last : Nat) : Array CpInfo := ⟨poolList es last⟩
def fileOf (pool : Array CpInfo) (this : Nat) (attrs : Array Attribute := #[]) (ms : Array MethodInfo := #[]) (fl : Nat := 33) (sup : Nat := 0) (ifs : Array Nat := #[]) (fds : Array FieldInfo := #[]) : ClassFile where
  minorVersion := 0
  majorVersion := 65
  constantPool := pool
  accessFlags := fl
  thisClass := this
  superClass := sup
  interfaces := ifs
  fields := fds
  methods := ms
  attributes := attrs
def plain (name : String) (sup : Option ClassId) : Class where
  name := name
  kind := .ordinary
  loader := none
  accessFlags := 33
  super := sup
  interfaces := #[]
  cf := none
  fields := #[]
  methods := #[]
  instanceTypes := #[]
  staticTypes := #[]
  resolved := #[]
  callSites := []
  init := .initialized
  statics := none
  mirror := none

def pool0 : Array CpInfo := pool [(5, u "<init>"), (0, u "()V"), (1, .class_ 10), (1, u "java/lang/Object")] 113

def k0c0 : Code := { maxStack := 0, maxLocals := 1, code := object_method_1_code, exceptionTable := #[], attributes := #[] }
def k0m0 : Method := { name := "<init>", desc := "()V", sig := { parameters := [], returnType := none }, accessFlags := 1, code := some k0c0 }
/-- java/lang/Object -/
def k0 : Class := { plain "java/lang/Object" none with
  accessFlags := 33
  interfaces := #[]
  cf := some (fileOf pool0 8 #[] #[{ accessFlags := 1, nameIndex := 5, descriptorIndex := 6, attributes := #[] }] 33 0 #[] #[])
  fields := #[]
  methods := #[k0m0]
  instanceTypes := #[]
  staticTypes := #[]
  resolved := Array.replicate 124 none
  statics := none }

def pool1 : Array CpInfo := pool [(2, .class_ 4), (1, u "java/lang/Object"), (0, u "<init>"), (0, u "()V"), (0, .class_ 8), (0, u "com/example/solofast/solofast/Counts"), (0, .methodref 7 10), (0, .nameAndType 5 11), (0, u "(JJJJ)V"), (0, .methodref 7 13), (0, .nameAndType 14 15), (0, u "steps"), (0, u "()J"), (0, .class_ 17), (0, u "com/example/solofast/solofast/CountsStepsPinLaw"), (2, u "law"), (0, u "(JJJJ)Z")] 3

def k1m0 : Method := { name := "<init>", desc := "()V", sig := { parameters := [], returnType := none }, accessFlags := 1, code := none }
def k1c1 : Code := { maxStack := 10, maxLocals := 25, code := code, exceptionTable := #[], attributes := #[] }
def k1m1 : Method := { name := "law", desc := "(JJJJ)Z", sig := { parameters := [.long, .long, .long, .long], returnType := some .boolean }, accessFlags := 9, code := some k1c1 }
/-- com/example/solofast/solofast/CountsStepsPinLaw -/
def k1 : Class := { plain "com/example/solofast/solofast/CountsStepsPinLaw" (some 0) with
  accessFlags := 49
  interfaces := #[]
  cf := some (fileOf pool1 16 #[] #[{ accessFlags := 1, nameIndex := 5, descriptorIndex := 6, attributes := #[] }, { accessFlags := 9, nameIndex := 20, descriptorIndex := 21, attributes := #[] }] 49 2 #[] #[])
  fields := #[]
  methods := #[k1m0, k1m1]
  instanceTypes := #[]
  staticTypes := #[]
  resolved := Array.replicate 25 none
  statics := none }

def pool2 : Array CpInfo := pool [(1, .methodref 2 3), (0, .class_ 4), (0, .nameAndType 5 6), (0, u "java/lang/Object"), (0, u "<init>"), (0, u "()V"), (0, .class_ 8), (0, u "java/lang/Record")] 13

def k2c0 : Code := { maxStack := 1, maxLocals := 1, code := jdk_30_method_1_code, exceptionTable := #[], attributes := #[] }
def k2m0 : Method := { name := "<init>", desc := "()V", sig := { parameters := [], returnType := none }, accessFlags := 4, code := some k2c0 }
/-- java/lang/Record -/
def k2 : Class := { plain "java/lang/Record" (some 0) with
  accessFlags := 1057
  interfaces := #[]
  cf := some (fileOf pool2 7 #[] #[{ accessFlags := 4, nameIndex := 5, descriptorIndex := 6, attributes := #[] }] 1057 2 #[] #[])
  fields := #[]
  methods := #[k2m0]
  instanceTypes := #[]
  staticTypes := #[]
  resolved := Array.replicate 22 none
  statics := none }

def pool3 : Array CpInfo := pool [(1, .methodref 2 3), (0, .class_ 4), (0, .nameAndType 5 6), (0, u "java/lang/Record"), (0, u "<init>"), (0, u "()V"), (0, .fieldref 8 9), (0, .class_ 10), (0, .nameAndType 11 12), (0, u "com/example/solofast/solofast/Counts"), (0, u "reads"), (0, u "J"), (0, .fieldref 8 14), (0, .nameAndType 15 12), (0, u "writes"), (0, .fieldref 8 17), (0, .nameAndType 18 12), (0, u "cas"), (0, .fieldref 8 20), (0, .nameAndType 21 12), (0, u "updates"), (2, u "(JJJJ)V"), (15, u "steps"), (0, u "()J")] 28

def k3c0 : Code := { maxStack := 3, maxLocals := 9, code := prog_11_method_1_code, exceptionTable := #[], attributes := #[] }
def k3m0 : Method := { name := "<init>", desc := "(JJJJ)V", sig := { parameters := [.long, .long, .long, .long], returnType := none }, accessFlags := 1, code := some k3c0 }
def k3c1 : Code := { maxStack := 4, maxLocals := 1, code := prog_11_method_2_code, exceptionTable := #[], attributes := #[] }
def k3m1 : Method := { name := "steps", desc := "()J", sig := { parameters := [], returnType := some .long }, accessFlags := 1, code := some k3c1 }
/-- com/example/solofast/solofast/Counts -/
def k3 : Class := { plain "com/example/solofast/solofast/Counts" (some 2) with
  accessFlags := 49
  interfaces := #[]
  cf := some (fileOf pool3 8 #[] #[{ accessFlags := 1, nameIndex := 5, descriptorIndex := 24, attributes := #[] }, { accessFlags := 1, nameIndex := 40, descriptorIndex := 41, attributes := #[] }] 49 2 #[] #[{ accessFlags := 18, nameIndex := 11, descriptorIndex := 12, attributes := #[] }, { accessFlags := 18, nameIndex := 15, descriptorIndex := 12, attributes := #[] }, { accessFlags := 18, nameIndex := 18, descriptorIndex := 12, attributes := #[] }, { accessFlags := 18, nameIndex := 21, descriptorIndex := 12, attributes := #[] }])
  fields := #[{ name := "reads", type := .long, accessFlags := 18, slot := 0, constantValue := 0 }, { name := "writes", type := .long, accessFlags := 18, slot := 1, constantValue := 0 }, { name := "cas", type := .long, accessFlags := 18, slot := 2, constantValue := 0 }, { name := "updates", type := .long, accessFlags := 18, slot := 3, constantValue := 0 }]
  methods := #[k3m0, k3m1]
  instanceTypes := #[.long, .long, .long, .long]
  staticTypes := #[]
  resolved := Array.replicate 70 none
  statics := none }

def pool4 : Array CpInfo := pool [(1, u "java/lang/Cloneable"), (0, .class_ 1), (0, u "java/lang/Object"), (0, .class_ 3)] 3

/-- java/lang/Cloneable -/
def k4 : Class := { plain "java/lang/Cloneable" (some 0) with
  accessFlags := 1537
  interfaces := #[]
  cf := some (fileOf pool4 2 #[] #[] 1537 4 #[] #[])
  fields := #[]
  methods := #[]
  instanceTypes := #[]
  staticTypes := #[]
  resolved := Array.replicate 8 none
  statics := none }

def pool5 : Array CpInfo := pool [(1, u "java/io/Serializable"), (0, .class_ 1), (0, u "java/lang/Object"), (0, .class_ 3)] 3

/-- java/io/Serializable -/
def k5 : Class := { plain "java/io/Serializable" (some 0) with
  accessFlags := 1537
  interfaces := #[]
  cf := some (fileOf pool5 2 #[] #[] 1537 4 #[] #[])
  fields := #[]
  methods := #[]
  instanceTypes := #[]
  staticTypes := #[]
  resolved := Array.replicate 8 none
  statics := none }

/-- the primitive byte -/
def k6 : Class := { plain "byte" none with kind := .primitive 'B', accessFlags := 0x411 }
/-- [B -/
def k7 : Class := { plain "[B" (some 0) with kind := .array 6 .byte, interfaces := #[4, 5], accessFlags := 1041 }

/-- the primitive int -/
def k8 : Class := { plain "int" none with kind := .primitive 'I', accessFlags := 0x411 }
/-- [I -/
def k9 : Class := { plain "[I" (some 0) with kind := .array 8 .int, interfaces := #[4, 5], accessFlags := 1041 }

def heap : Heap := #[]
def classes : Array Class := #[k0, k1, k2, k3, k4, k5, k6, k7, k8, k9]
def interned : List (Array UInt16 × Addr) := []
def slotsUsed : Nat := 0
def theMethod : MethodId := ⟨1, 1⟩
def args0 : Array Value := #[.long 5, .long 6, .long 7, .long 8]
def aboutOver (below : List Frame) : State where
  vm := { classes := classes, interned := interned.toArray }
  heap := heap
  slotsUsed := slotsUsed
  threads := #[{ frames := .invoking theMethod args0 :: below }]
def below0 : List Frame := [.native { method := ⟨0, 0⟩, args := #[] }]
def about1 : State := aboutOver below0
def p0 : Program := .bare "" "" ""
def e0 : Env := launch0.env 0 0 0
theorem w_frames : about1.frames = Frame.invoking theMethod args0 :: below0 := rfl
set_option maxRecDepth 65536 in
theorem w_args : argsFit about1.vm theMethod args0 = true := by decide +kernel
set_option maxRecDepth 65536 in
theorem w_heap : heapFits about1 = true := by decide +kernel
set_option maxRecDepth 65536 in
theorem w_runnable : about1.curStatus? = some .runnable := by decide +kernel
set_option maxRecDepth 65536 in
theorem w_alone : about1.alone = true := by decide +kernel
set_option maxRecDepth 65536 in
theorem w_named : about1.methodNamed? x = some theMethod := by decide +kernel
set_option maxRecDepth 65536 in
theorem w_hears : about1.hears theMethod below0 = true := by decide +kernel
set_option maxRecDepth 65536 in
theorem w_ripe : about1.ripe theMethod args0 below0 = true := by decide +kernel
theorem w_running : about1.status = .running := rfl
set_option maxRecDepth 65536 in
theorem w_room : about1.hasRoom e0.platform room_1 = true :=
  launch0.hasRoom_least _ room_1 (by decide +kernel) (by decide +kernel) (by decide +kernel) (by decide +kernel) (by decide +kernel) (by decide +kernel)
theorem allAtoms_all (ts : List Jvm.Cond) (a : Array Jvm.Value) (st : Jvm.State) : (allAtoms ts).before a st = ts.all (fun c => c.before a st) := by
  induction ts with
  | nil => rfl
  | cons c t ih =>
    show (Jvm.Cond.and c (allAtoms t)).before a st = _
    rw [Jvm.Cond.before_and, ih, List.all_cons]
def words1 : List Jvm.Cond := Jvm.Cond.code x code maxLocals ret :: tables_1
/-- a 'code' word, met by the world's own term for the bytes: nothing is compared byte by byte -/
theorem code_word {y : MethodName} {bytes : ByteArray} {mx : Nat} {rt : Option FieldType} {a : Array Value} {s : State} {m : MethodId} {meth : Method} {c : Code} (h1 : s.methodNamed? y = some m) (h2 : s.vm.method? m = some meth) (h3 : meth.code = some c) (h4 : c.code = bytes)
    (h5 : (c.maxLocals == mx && c.exceptionTable.isEmpty && decide (c.maxStack ≤ mostOperands) && decide (meth.sig.returnType = rt) && !meth.locks && decide (parseMethodDescriptor y.desc = some meth.sig)) = true) : (Jvm.Cond.code y bytes mx rt).before a s = true := by
  simp only [Bool.and_eq_true, beq_iff_eq, Bool.not_eq_true', decide_eq_true_eq] at h5
  obtain ⟨⟨⟨⟨⟨g1, g2⟩, g3⟩, g4⟩, g5⟩, g6⟩ := h5
  simp [Cond.before, Cond.holds, Cond.value, h1, h2, h3, h4, g1, g2, g3, g4, g5, g6]
def isCode : Jvm.Cond → Bool
  | .code _ _ _ _ => true
  | _ => false
theorem all_split {L : List Jvm.Cond} {P : Jvm.Cond → Bool} (h1 : L.all (fun c => isCode c || P c) = true) (h2 : ∀ c ∈ L.filter isCode, P c = true) : L.all P = true := by
  refine List.all_eq_true.mpr fun c hc => ?_
  have h := List.all_eq_true.mp h1 c hc
  rcases Bool.eq_false_or_eq_true (isCode c) with hi | hi
  · exact h2 c (List.mem_filter.mpr ⟨hc, hi⟩)
  · simpa [hi] using h
set_option maxRecDepth 65536 in
theorem w_c0 : (Jvm.Cond.code x code maxLocals ret).before args0 about1 = true := code_word (m := ⟨1, 1⟩) (meth := k1m1) (c := k1c1) (by decide +kernel) rfl rfl rfl (by decide +kernel)
set_option maxRecDepth 65536 in
theorem w_c1 : (Jvm.Cond.code ({ cls := "com/example/solofast/solofast/Counts", name := "<init>", desc := "(JJJJ)V" } : Jvm.MethodName) prog_11_method_1_code (9 : Nat) (Option.none : Option Jvm.ClassFile.FieldType)).before args0 about1 = true := code_word (m := ⟨3, 0⟩) (meth := k3m0) (c := k3c0) (by decide +kernel) rfl rfl rfl (by decide +kernel)
set_option maxRecDepth 65536 in
theorem w_c2 : (Jvm.Cond.code ({ cls := "java/lang/Record", name := "<init>", desc := "()V" } : Jvm.MethodName) jdk_30_method_1_code (1 : Nat) (Option.none : Option Jvm.ClassFile.FieldType)).before args0 about1 = true := code_word (m := ⟨2, 0⟩) (meth := k2m0) (c := k2c0) (by decide +kernel) rfl rfl rfl (by decide +kernel)
set_option maxRecDepth 65536 in
theorem w_c3 : (Jvm.Cond.code ({ cls := "java/lang/Object", name := "<init>", desc := "()V" } : Jvm.MethodName) object_method_1_code (1 : Nat) (Option.none : Option Jvm.ClassFile.FieldType)).before args0 about1 = true := code_word (m := ⟨0, 0⟩) (meth := k0m0) (c := k0c0) (by decide +kernel) rfl rfl rfl (by decide +kernel)
set_option maxRecDepth 65536 in
theorem w_c4 : (Jvm.Cond.code ({ cls := "com/example/solofast/solofast/Counts", name := "steps", desc := "()J" } : Jvm.MethodName) prog_11_method_2_code (1 : Nat) (Option.some Jvm.ClassFile.FieldType.long)).before args0 about1 = true := code_word (m := ⟨3, 1⟩) (meth := k3m1) (c := k3c1) (by decide +kernel) rfl rfl rfl (by decide +kernel)
def codes1 : List Jvm.Cond := [Jvm.Cond.code x code maxLocals ret, Jvm.Cond.code ({ cls := "com/example/solofast/solofast/Counts", name := "<init>", desc := "(JJJJ)V" } : Jvm.MethodName) prog_11_method_1_code (9 : Nat) (Option.none : Option Jvm.ClassFile.FieldType), Jvm.Cond.code ({ cls := "java/lang/Record", name := "<init>", desc := "()V" } : Jvm.MethodName) jdk_30_method_1_code (1 : Nat) (Option.none : Option Jvm.ClassFile.FieldType), Jvm.Cond.code ({ cls := "java/lang/Object", name := "<init>", desc := "()V" } : Jvm.MethodName) object_method_1_code (1 : Nat) (Option.none : Option Jvm.ClassFile.FieldType), Jvm.Cond.code ({ cls := "com/example/solofast/solofast/Counts", name := "steps", desc := "()J" } : Jvm.MethodName) prog_11_method_2_code (1 : Nat) (Option.some Jvm.ClassFile.FieldType.long)]
set_option maxRecDepth 65536 in
theorem codes_eq : words1.filter isCode = codes1 := rfl
theorem w_codes : ∀ c ∈ words1.filter isCode, c.before args0 about1 = true := by
  rw [codes_eq]
  intro c hc
  simp only [codes1, List.mem_cons, List.not_mem_nil, or_false] at hc
  rcases hc with rfl | rfl | rfl | rfl | rfl
  · exact w_c0
  · exact w_c1
  · exact w_c2
  · exact w_c3
  · exact w_c4
set_option maxRecDepth 65536 in
theorem w_t1 : (words1.take 24).all (fun c => isCode c || c.before args0 about1) = true := by decide +kernel
set_option maxRecDepth 65536 in
theorem w_t2 : (words1.drop 24).all (fun c => isCode c || c.before args0 about1) = true := by decide +kernel
theorem w_tables : (allAtoms (Jvm.Cond.code x code maxLocals ret :: tables_1)).before args0 about1 = true := by
  rw [allAtoms_all]
  show words1.all (fun c => c.before args0 about1) = true
  refine all_split ?_ w_codes
  rw [← List.take_append_drop 24 words1, List.all_append, w_t1, w_t2]
  rfl
set_option maxRecDepth 65536 in
theorem w_case : (Jvm.Cond.and given_1 narrow_1).before args0 about1 = true := by decide +kernel
theorem w_applies : (headSpec (Jvm.Cond.code x code maxLocals ret :: tables_1) room_1).applies x e0.platform about1 = true :=
  (Spec.applies_iff w_frames).mpr ⟨w_running, w_runnable, w_alone, w_named, w_hears, w_ripe, w_room, w_tables⟩
theorem atStart : AtStart classFile x code maxLocals ret World_1 tables_1 room_1 Calls_1 rest_1 Pre_1 launch0 p0 e0 about1 theMethod args0 below0 :=
  ⟨lists_1, trivial, launch0.admits_env _ _ _, launch0.least_env, fairChoices_fair.cas, fairChoices_fair.clock, w_frames, w_args, w_heap, w_applies, trivial, trivial, w_case⟩
end start1
theorem witness_1 : WitnessClaimed_1 := ⟨start1.p0, start1.e0, start1.about1, start1.theMethod, start1.args0, start1.below0, start1.atStart⟩
end Jvm.Pilot.@@N@@
