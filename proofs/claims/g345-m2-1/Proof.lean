import JvmDerived
import JvmDerived.Pilot.@@N@@Statement
import JvmDerived.Pilot.@@N@@Code
set_option linter.unusedVariables false
set_option linter.unusedSimpArgs false
namespace Jvm.RoadKit
open Sem ClassFile Op Lib Jvm.Stand Jvm.Free Jvm.LawKit
section OwnGo
variable {p : Program} {l : Launch} {e : Env} {R : Room} {s : State} {m : MethodId} {args : Array Value} {below : List Frame} {meth : Method} {c : Code} {T T' : State} {locs : List Loc} {cells slots : Nat} {Z : State} {a0 : Array Value} {h h' : Heap}
/-- the walk comes to an end from here, and leaves what Q says -/
def Go (p : Program) (e : Env) (below : List Frame) (s : State) (Q : Option Value → Heap → List Loc → Prop) (nc ns : Nat) (T : State) (f : JFrame) : Prop :=
  ∃ s₂ o, Steps p.tables e below (T.setTop f) s₂ ∧ s₂.status = .running ∧ Ended s₂ below o ∧ ∃ v L, o = .returned v ∧ Q v s₂.heap L ∧ FrameEnd s o s₂ L nc ns
variable {Q : Option Value → Heap → List Loc → Prop} {nc ns : Nat}
theorem Go.of {f f' : JFrame} (k : ∀ t, Steps p.tables e below (T'.setTop f') t → Steps p.tables e below (T.setTop f) t) (g : Go p e below s Q nc ns T' f') : Go p e below s Q nc ns T f := by
  obtain ⟨s₂, o, h1, h2⟩ := g
  exact ⟨s₂, o, k _ h1, h2⟩
theorem Go.tr {f f' : JFrame} (k : Steps p.tables e below (T.setTop f) (T'.setTop f')) (g : Go p e below s Q nc ns T' f') : Go p e below s Q nc ns T f := by
  obtain ⟨s₂, o, h1, h2⟩ := g
  exact ⟨s₂, o, k.trans h1, h2⟩
theorem Go.cast {f f' : JFrame} (q : f = f') (g : Go p e below s Q nc ns T f') : Go p e below s Q nc ns T f := q ▸ g
theorem retI (X : Stand p l e R s m args below meth c T locs cells slots) (hx : p.tables.exec = Jvm.exec) {pc : Nat} {Ls : Array Slot} {z : Int32} {rest : List Value} (hret : meth.sig.returnType = some .int) (hd : decode c.code pc = .ok (.ireturn, 1)) {fs : List Frame}
    (hl : ∀ (f : JFrame) (acts : List Action), f.method = m → f.locked = none → f.entered = [] → (doReturn e (T.setTop f) acts (some (.int z))).1 = T.setFrames fs) : Steps p.tables e below (T.setTop (mkF m pc Ls (.int z :: rest))) (T.setFrames fs) :=
  retOut X hx hret rfl (Or.inl ⟨rfl, Or.inl rfl, _, rfl⟩) hd hl
theorem Go.end0 (X : Stand p l e R s m args below meth c T locs cells slots) (hk : meth.locks = false) {v : Option Value} (hv : meth.sig.returnType = none → v = none) {f : JFrame}
    (k : ∀ fs, (∀ (f : JFrame) (acts : List Action), f.method = m → f.locked = none → f.entered = [] → (doReturn e (T.setTop f) acts v).1 = T.setFrames fs) → Steps p.tables e below (T.setTop f) (T.setFrames fs))
    (hc : cells ≤ nc) (hs : slots ≤ ns) (hq : Q v T.heap locs) : Go p e below s Q nc ns T f := by
  obtain ⟨fs, hr, hrun, hended, hW, hsame⟩ := X.leave (v := v) hv
  exact ⟨_, _, k fs hr, hrun, hended, _, _, rfl, hq, ⟨_, rfl⟩, hW, hsame.mono hc hs⟩
theorem Go.retZ (X : Stand p l e R s m args below meth c T locs cells slots) (hx : p.tables.exec = Jvm.exec) (hk : meth.locks = false) {t : FieldType} (hret : meth.sig.returnType = some t) (ht : t = .boolean ∨ t = .byte ∨ t = .char ∨ t = .short) {pc : Nat} (hd : decode c.code pc = .ok (.ireturn, 1)) {Ls : Array Slot} {z : Int32} {rest : List Value}
    (hc : cells ≤ nc) (hs : slots ≤ ns) (hq : Q (some (.int (nar t z))) T.heap locs) : Go p e below s Q nc ns T (mkF m pc Ls (.int z :: rest)) :=
  Go.end0 X hk (fun q => by rw [hret] at q; cases q) (fun _ hr => retN X hx hret ht hd hr) hc hs hq
theorem Go.retI (X : Stand p l e R s m args below meth c T locs cells slots) (hx : p.tables.exec = Jvm.exec) (hk : meth.locks = false) (hret : meth.sig.returnType = some .int) {pc : Nat} (hd : decode c.code pc = .ok (.ireturn, 1)) {Ls : Array Slot} {z : Int32} {rest : List Value}
    (hc : cells ≤ nc) (hs : slots ≤ ns) (hq : Q (some (.int z)) T.heap locs) : Go p e below s Q nc ns T (mkF m pc Ls (.int z :: rest)) :=
  Go.end0 X hk (fun q => by rw [hret] at q; cases q) (fun _ hr => Jvm.RoadKit.retI X hx hret hd hr) hc hs hq
theorem Go.retJ (X : Stand p l e R s m args below meth c T locs cells slots) (hx : p.tables.exec = Jvm.exec) (hk : meth.locks = false) (hret : meth.sig.returnType = some .long) {pc : Nat} (hd : decode c.code pc = .ok (.lreturn, 1)) {Ls : Array Slot} {z : Int64} {rest : List Value}
    (hc : cells ≤ nc) (hs : slots ≤ ns) (hq : Q (some (.long z)) T.heap locs) : Go p e below s Q nc ns T (mkF m pc Ls (.long z :: rest)) :=
  Go.end0 X hk (fun q => by rw [hret] at q; cases q) (fun _ hr => retOut X hx hret rfl (Or.inr (Or.inl ⟨rfl, rfl, _, rfl⟩)) hd hr) hc hs hq
theorem Go.retA (X : Stand p l e R s m args below meth c T locs cells slots) (hx : p.tables.exec = Jvm.exec) (hk : meth.locks = false) {t : FieldType} (hret : meth.sig.returnType = some t) (ht : t.isReference = true) {pc : Nat} (hd : decode c.code pc = .ok (.areturn, 1)) {Ls : Array Slot} {a : Addr} {rest : List Value}
    (hc : cells ≤ nc) (hs : slots ≤ ns) (hq : Q (some (.ref a)) T.heap locs) : Go p e below s Q nc ns T (mkF m pc Ls (.ref a :: rest)) :=
  Go.end0 X hk (fun q => by rw [hret] at q; cases q) (fun _ hr => retOut X hx hret (by cases t <;> first | rfl | cases ht) (Or.inr (Or.inr (Or.inr (Or.inr ⟨rfl, ht, rfl⟩)))) hd hr) hc hs hq
theorem Go.retV (X : Stand p l e R s m args below meth c T locs cells slots) (hx : p.tables.exec = Jvm.exec) (hk : meth.locks = false) (hret : meth.sig.returnType = none) {pc : Nat} (hd : decode c.code pc = .ok (.return_, 1)) {Ls : Array Slot}
    (hc : cells ≤ nc) (hs : slots ≤ ns) (hq : Q none T.heap locs) : Go p e below s Q nc ns T (mkF m pc Ls []) :=
  Go.end0 X hk (fun _ => rfl) (fun _ hr => X.returnOut hx hret hd hr) hc hs hq
theorem lc_lt_t {x y : Int64} (q : x < y) : ifCond.holds .lt (lcmpW x y) = true := by rw [if0, lcW]; exact (tlt ((lc_lt x y).mpr q)).1
theorem lc_lt_f {x y : Int64} (q : ¬ x < y) : ifCond.holds .lt (lcmpW x y) = false := by rw [if0, lcW]; exact (flt (fun z => q ((lc_lt x y).mp z))).1
theorem lc_ge_f {x y : Int64} (q : x < y) : ifCond.holds .ge (lcmpW x y) = false := by rw [if0, lcW]; exact (tlt ((lc_lt x y).mpr q)).2.1
theorem lc_ge_t {x y : Int64} (q : ¬ x < y) : ifCond.holds .ge (lcmpW x y) = true := by rw [if0, lcW]; exact (flt (fun z => q ((lc_lt x y).mp z))).2.1
theorem lc_gt_t {x y : Int64} (q : y < x) : ifCond.holds .gt (lcmpW x y) = true := by rw [if0, lcW]; exact (tlt ((lc_gt x y).mpr q)).2.2.1
theorem lc_gt_f {x y : Int64} (q : ¬ y < x) : ifCond.holds .gt (lcmpW x y) = false := by rw [if0, lcW]; exact (flt (fun z => q ((lc_gt x y).mp z))).2.2.1
theorem lc_le_f {x y : Int64} (q : y < x) : ifCond.holds .le (lcmpW x y) = false := by rw [if0, lcW]; exact (tlt ((lc_gt x y).mpr q)).2.2.2
theorem lc_le_t {x y : Int64} (q : ¬ y < x) : ifCond.holds .le (lcmpW x y) = true := by rw [if0, lcW]; exact (flt (fun z => q ((lc_gt x y).mp z))).2.2.2
theorem lc_eq_t {x y : Int64} (q : x = y) : ifCond.holds .eq (lcmpW x y) = true := by rw [if0, lcW]; exact (teq ((lc_eq x y).mpr q)).1
theorem lc_eq_f {x y : Int64} (q : ¬ x = y) : ifCond.holds .eq (lcmpW x y) = false := by rw [if0, lcW]; exact (feq (fun z => q ((lc_eq x y).mp z))).1
theorem lc_ne_f {x y : Int64} (q : x = y) : ifCond.holds .ne (lcmpW x y) = false := by rw [if0, lcW]; exact (teq ((lc_eq x y).mpr q)).2
theorem lc_ne_t {x y : Int64} (q : ¬ x = y) : ifCond.holds .ne (lcmpW x y) = true := by rw [if0, lcW]; exact (feq (fun z => q ((lc_eq x y).mp z))).2
/-- an array of this kind that holds just these values -/
def VArr (Z : State) (h : Heap) (a : Addr) (ty : FieldType) (vs : List Value) : Prop := ∃ cl : Cell, Arr Z h a cl ty ∧ cl.slots = vs.toArray
variable {a b : Addr} {ty : FieldType} {vs : List Value} {sl : Nat} {v : Value} {ws : List Addr} {n : Int32}
theorem VArr.lt (F : VArr Z h a ty vs) : a < h.size := by obtain ⟨c, A, -⟩ := F; exact A.lt
theorem VArr.ext (F : VArr Z h a ty vs) (E : Ext h h') : VArr Z h' a ty vs := by obtain ⟨c, A, r⟩ := F; exact ⟨c, A.ext E, r⟩
theorem VArr.other (F : VArr Z h b ty vs) (W : Wr h h' a sl v) (q : b ≠ a) : VArr Z h' b ty vs := by obtain ⟨c, A, r⟩ := F; exact ⟨c, A.other W q, r⟩
theorem VArr.keep (F : VArr Z h a ty vs) (K : Keep h h' ws) (q : a ∉ ws) : VArr Z h' a ty vs := by obtain ⟨c, A, r⟩ := F; exact ⟨c, ⟨K.2.1 a c A.1 q, A.2⟩, r⟩
theorem VArr.new {k : ClassId} (A : Arr Z h a (newA k ty n) ty) : VArr Z h a ty (List.replicate n.toNatClampNeg (defaultValue ty)) := ⟨_, A, by simp [newA]⟩
theorem VArr.newL {k : ClassId} {i : Nat} (A : Arr Z h a (newA k ty n) ty) (hn : n.toNatClampNeg = i) : VArr Z h a ty (List.replicate i (defaultValue ty)) := hn ▸ VArr.new A
theorem VArr.wr (F : VArr Z h a ty vs) (W : Wr h h' a sl v) : VArr Z h' a ty (vs.set sl v) := by
  obtain ⟨c, A, r⟩ := F
  refine ⟨_, A.same W, ?_⟩
  show c.slots.setIfInBounds sl v = _
  rw [r]; simp
theorem VArr.inb {cl : Cell} {j : Int32} (r : cl.slots = vs.toArray) (hj : ¬ j < 0) (hi : j.toNatClampNeg < vs.length) : ¬ (j < 0 ∨ cl.slots.size ≤ j.toNatClampNeg) := by
  rw [r]; simp only [List.size_toArray]; rintro (q | q)
  · exact hj q
  · omega
theorem VArr.at {cl : Cell} {j : Int32} (r : cl.slots = vs.toArray) (hv : vs[j.toNatClampNeg]? = some v) : cl.slots[j.toNatClampNeg]? = some v := by rw [r]; simpa using hv
theorem lt_of_at {j : Nat} (hv : vs[j]? = some v) : j < vs.length := (List.getElem?_eq_some_iff.mp hv).1
theorem ldJ (X : Stand p l e R s m args below meth c T locs cells slots) (hx : p.tables.exec = Jvm.exec) (hZ : Z.Warmed39 s.vm) (eT : T.heap = h) (F : VArr Z h a .long vs) {j : Int32} {i : Nat} (hj : ¬ j < 0) (hji : j.toNatClampNeg = i) (hv : vs[i]? = some v)
    {g : JFrame} (hg : g.method = m) {rest : List Value} (hs : g.stack = .int j :: .ref a :: rest) (hd : decode c.code g.pc = .ok (.laload, 1)) (target : State)
    (hr : Steps p.tables e below (T.setTop { g with pc := g.pc + 1, stack := v :: rest }) target) : Steps p.tables e below (T.setTop g) target := by
  subst hji
  obtain ⟨cl, A, r⟩ := F
  exact X.laload hx (by rw [eT]; exact A.1) (State.isArrayOf_alike hZ.alike A.2.1) A.2.2 (VArr.inb r hj (lt_of_at hv)) (VArr.at r hv) hg hs hd target hr
theorem ldC (X : Stand p l e R s m args below meth c T locs cells slots) (hx : p.tables.exec = Jvm.exec) (hZ : Z.Warmed39 s.vm) (eT : T.heap = h) (F : VArr Z h a .char vs) {j : Int32} {i : Nat} (hj : ¬ j < 0) (hji : j.toNatClampNeg = i) (hv : vs[i]? = some v)
    {g : JFrame} (hg : g.method = m) {rest : List Value} (hs : g.stack = .int j :: .ref a :: rest) (hd : decode c.code g.pc = .ok (.caload, 1)) (target : State)
    (hr : Steps p.tables e below (T.setTop { g with pc := g.pc + 1, stack := v :: rest }) target) : Steps p.tables e below (T.setTop g) target := by
  subst hji
  obtain ⟨cl, A, r⟩ := F
  exact X.caload hx (by rw [eT]; exact A.1) (State.isArrayOf_alike hZ.alike A.2.1) A.2.2 (VArr.inb r hj (lt_of_at hv)) (VArr.at r hv) hg hs hd target hr
theorem ldB (X : Stand p l e R s m args below meth c T locs cells slots) (hx : p.tables.exec = Jvm.exec) (hZ : Z.Warmed39 s.vm) (eT : T.heap = h) (F : VArr Z h a .byte vs) {j : Int32} {i : Nat} (hj : ¬ j < 0) (hji : j.toNatClampNeg = i) (hv : vs[i]? = some v)
    {g : JFrame} (hg : g.method = m) {rest : List Value} (hs : g.stack = .int j :: .ref a :: rest) (hd : decode c.code g.pc = .ok (.baload, 1)) (target : State)
    (hr : Steps p.tables e below (T.setTop { g with pc := g.pc + 1, stack := v :: rest }) target) : Steps p.tables e below (T.setTop g) target := by
  subst hji
  obtain ⟨cl, A, r⟩ := F
  exact X.baloadBytes hx (by rw [eT]; exact A.1) (State.isArrayOf_alike hZ.alike A.2.1) A.2.2 (VArr.inb r hj (lt_of_at hv)) (VArr.at r hv) hg hs hd target hr
theorem lenV (X : Stand p l e R s m args below meth c T locs cells slots) (hx : p.tables.exec = Jvm.exec) (hZ : Z.Warmed39 s.vm) (eT : T.heap = h) (F : VArr Z h a ty vs) (hn : vs.length.toInt32 = n)
    {g : JFrame} (hg : g.method = m) {rest : List Value} (hs : g.stack = .ref a :: rest) (hd : decode c.code g.pc = .ok (.arraylength, 1)) (target : State)
    (hr : Steps p.tables e below (T.setTop { g with pc := g.pc + 1, stack := .int n :: rest }) target) : Steps p.tables e below (T.setTop g) target := by
  obtain ⟨cl, A, r⟩ := F
  refine X.arraylength hx (by rw [eT]; exact A.1) (State.isArrayOf_alike hZ.alike A.2.1) hg hs hd target ?_
  have q : cl.slots.size.toInt32 = n := by rw [r, ← hn]; simp
  rw [q]; exact hr
theorem saJ (X : Stand p l e R s m args below meth c T locs cells slots) (hx : p.tables.exec = Jvm.exec) (hZ : Z.Warmed39 s.vm) (eT : T.heap = h) (F : VArr Z h a .long vs) {j : Int32} {x : Int64} {i : Nat} (hj : ¬ j < 0) (hji : j.toNatClampNeg = i) (hi : i < vs.length)
    {g : JFrame} (hg : g.method = m) {rest : List Value} (hs : g.stack = .long x :: .int j :: .ref a :: rest) (hd : decode c.code g.pc = .ok (.lastore, 1)) :
    ∃ T' h', Stand p l e R s m args below meth c T' (locs ++ [⟨a, j.toNatClampNeg⟩]) cells slots ∧ T'.heap = h' ∧ Wr h h' a j.toNatClampNeg (.long x) ∧ VArr Z h' a .long (vs.set i (.long x)) ∧ ∀ target, Steps p.tables e below (T'.setTop { g with pc := g.pc + 1, stack := rest }) target → Steps p.tables e below (T.setTop g) target := by
  subst hji
  obtain ⟨cl, A, r⟩ := F
  obtain ⟨T', h', X', e', W, st⟩ := stJ X hx hZ eT A (x := x) (VArr.inb r hj hi) hg hs hd
  exact ⟨T', h', X', e', W, VArr.wr ⟨cl, A, r⟩ W, st⟩
theorem saC (X : Stand p l e R s m args below meth c T locs cells slots) (hx : p.tables.exec = Jvm.exec) (hZ : Z.Warmed39 s.vm) (eT : T.heap = h) (F : VArr Z h a .char vs) {j : Int32} {x : Int32} {i : Nat} (hj : ¬ j < 0) (hji : j.toNatClampNeg = i) (hi : i < vs.length)
    {g : JFrame} (hg : g.method = m) {rest : List Value} (hs : g.stack = .int x :: .int j :: .ref a :: rest) (hd : decode c.code g.pc = .ok (.castore, 1)) :
    ∃ T' h', Stand p l e R s m args below meth c T' (locs ++ [⟨a, j.toNatClampNeg⟩]) cells slots ∧ T'.heap = h' ∧ Wr h h' a j.toNatClampNeg (.int (nar .char x)) ∧ VArr Z h' a .char (vs.set i (.int (nar .char x))) ∧ ∀ target, Steps p.tables e below (T'.setTop { g with pc := g.pc + 1, stack := rest }) target → Steps p.tables e below (T.setTop g) target := by
  subst hji
  obtain ⟨cl, A, r⟩ := F
  obtain ⟨T', h', X', e', W, st⟩ := stC X hx hZ eT A (x := x) (VArr.inb r hj hi) hg hs hd
  exact ⟨T', h', X', e', W, VArr.wr ⟨cl, A, r⟩ W, st⟩
theorem saB (X : Stand p l e R s m args below meth c T locs cells slots) (hx : p.tables.exec = Jvm.exec) (hZ : Z.Warmed39 s.vm) (eT : T.heap = h) (F : VArr Z h a .byte vs) {j : Int32} {x : Int32} {i : Nat} (hj : ¬ j < 0) (hji : j.toNatClampNeg = i) (hi : i < vs.length)
    {g : JFrame} (hg : g.method = m) {rest : List Value} (hs : g.stack = .int x :: .int j :: .ref a :: rest) (hd : decode c.code g.pc = .ok (.bastore, 1)) :
    ∃ T' h', Stand p l e R s m args below meth c T' (locs ++ [⟨a, j.toNatClampNeg⟩]) cells slots ∧ T'.heap = h' ∧ Wr h h' a j.toNatClampNeg (.int (nar .byte x)) ∧ VArr Z h' a .byte (vs.set i (.int (nar .byte x))) ∧ ∀ target, Steps p.tables e below (T'.setTop { g with pc := g.pc + 1, stack := rest }) target → Steps p.tables e below (T.setTop g) target := by
  subst hji
  obtain ⟨cl, A, r⟩ := F
  obtain ⟨T', h', X', e', W, st⟩ := stB X hx hZ eT A (x := x) (VArr.inb r hj hi) hg hs hd
  exact ⟨T', h', X', e', W, VArr.wr ⟨cl, A, r⟩ W, st⟩
end OwnGo
end Jvm.RoadKit
namespace Jvm.Pilot.@@N@@
open Jvm Jvm.ClassFile Sem Op Lib Jvm.Free Jvm.Stand Jvm.LawKit Jvm.RoadKit Bundle Jvm.Pilot.@@N@@.Jvm.D
theorem own_bm {x : Int} (h1 : -9223372036854775808 ≤ x) (h2 : x < 9223372036854775808) : x.bmod (2 ^ 64) = x := Int.bmod_eq_of_le (by omega) (by omega)
theorem own_mul64 {a b : Int64} (h1 : -9223372036854775808 ≤ a.toInt * b.toInt) (h2 : a.toInt * b.toInt < 9223372036854775808) : (a * b).toInt = a.toInt * b.toInt := by rw [Int64.toInt_mul]; exact own_bm h1 h2
theorem own_add64 {a b : Int64} (h1 : -9223372036854775808 ≤ a.toInt + b.toInt) (h2 : a.toInt + b.toInt < 9223372036854775808) : (a + b).toInt = a.toInt + b.toInt := by rw [Int64.toInt_add]; exact own_bm h1 h2
theorem own_sub64 {a b : Int64} (h1 : -9223372036854775808 ≤ a.toInt - b.toInt) (h2 : a.toInt - b.toInt < 9223372036854775808) : (a - b).toInt = a.toInt - b.toInt := by rw [Int64.toInt_sub]; exact own_bm h1 h2
theorem own_nat64 (x : Int64) (h : x.toBitVec.toNat < 2 ^ 63) : x.toInt = x.toBitVec.toNat := by
  show x.toBitVec.toInt = _
  rw [BitVec.toInt_eq_toNat_cond, if_pos (by omega)]
theorem own_and64 (x m : Int64) {k : Nat} (hm : m.toBitVec.toNat ≤ k) (hk : k < 2 ^ 63) : 0 ≤ (x &&& m).toInt ∧ (x &&& m).toInt ≤ k := by
  have h : (x &&& m).toBitVec.toNat ≤ k := by
    rw [Int64.toBitVec_and, BitVec.toNat_and]; exact Nat.le_trans Nat.and_le_right hm
  rw [own_nat64 _ (by omega)]; omega
theorem own_ushr64 (x : Int64) (y : Int32) {k : Nat} (hx : x.toBitVec.toNat ≤ k) (hk : k < 2 ^ 63) : 0 ≤ ((x.toUInt64 >>> (y &&& 0x3f).toInt64.toUInt64).toInt64).toInt ∧ ((x.toUInt64 >>> (y &&& 0x3f).toInt64.toUInt64).toInt64).toInt ≤ k := by
  have h : ((x.toUInt64 >>> (y &&& 0x3f).toInt64.toUInt64).toInt64).toBitVec.toNat ≤ k := by
    show (x.toUInt64 >>> (y &&& 0x3f).toInt64.toUInt64).toNat ≤ k
    rw [UInt64.toNat_shiftRight]
    have : x.toUInt64.toNat = x.toBitVec.toNat := rfl
    rw [this, Nat.shiftRight_eq_div_pow]
    exact Nat.le_trans (Nat.div_le_self _ _) hx
  rw [own_nat64 _ (by omega)]; omega
theorem d2_0 : decode jdk_30_method_1_code 0 = .ok (.aload_n 0, 1) := by decide +kernel
theorem d2_1 : decode jdk_30_method_1_code 1 = .ok (.invokespecial 1, 3) := by decide +kernel
theorem d2_4 : decode jdk_30_method_1_code 4 = .ok (.return_, 1) := by decide +kernel
theorem pn_0 : plainName "java/lang/Record" = true := by first | (simp [plainName, overriddenIn]; done) | decide +kernel
theorem ef_2 (m : MethodId) (x0 : Addr) : entryFrame m #[(.ref x0)] 1 = mkF m 0 #[.val (.ref x0)] [] := by first | (simp [entryFrame, mkF, argsToLocals, Value.category]; done) | rfl
def Q2 (Z : State) (x0 : Addr)  (h0 : Heap) (n0 : Nat) (v : Option Value) (h : Heap) (L : List Loc) : Prop := v = none ∧ Fr n0 L ∧ h = h0
set_option maxRecDepth 65536 in
set_option maxHeartbeats 40000000 in
theorem rm2 (l : Launch) (Z : State) (a0 : Array Value) (hw : ∀ d ∈ tables_1, d.before a0 Z = true) (ws : List Jvm.Cond) (x0 : Addr)  (h0 : Heap) (n0 : Nat) (Z0 : n0 ≤ h0.size)  :
    MetFree l (⟨"java/lang/Record", "<init>", "()V"⟩ : MethodName) (head1 (Jvm.Cond.code (⟨"java/lang/Record", "<init>", "()V"⟩ : MethodName) jdk_30_method_1_code 1 none :: ws) ({ frames := 1, cells := 0, slots := 0, locals := 12 } : Room)) (fun a U => a = #[(.ref x0)] ∧ Z.Warmed39 U.vm ∧ U.heap = h0) (fun _ _ _ _ _ => True) (fun _ U o U' => ∃ v L, o = .returned v ∧ Q2 Z x0 h0 n0 v U'.heap L ∧ FrameEnd U o U' L ({ frames := 1, cells := 0, slots := 0, locals := 12 } : Room).cells ({ frames := 1, cells := 0, slots := 0, locals := 12 } : Room).slots) := by
  refine MetFree.of_bodySF (plainFor_of_name pn_0) hisR ?_
  intro p e s m args below meth c s₁ Bd hml0 hP hK
  obtain ⟨rfl, hZ, hh⟩ := hP
  have hx := Bd.exec
  have hby := Bd.bytes
  have hml : c.maxLocals = 1 := hml0
  have hown : s.vm.findClass "java/lang/Record" = some m.cls := findClass_of_methodNamed Bd.named
  have hnm := (name_of_methodNamed Bd.named Bd.method).1
  have hk : meth.locks = false := BodyLoose.notSynchronized Bd
  have X0 : Stand p l e ({ frames := 1, cells := 0, slots := 0, locals := 12 } : Room) s m #[(.ref x0)] below meth c s₁ [] 0 0 := Stand.of_body Bd
  have e0 : s₁.heap = h0 := by rw [← hh, Bd.state]; rfl
  have N0 := Fr.nil n0
  show Go p e below s (Q2 Z x0 h0 n0) ({ frames := 1, cells := 0, slots := 0, locals := 12 } : Room).cells ({ frames := 1, cells := 0, slots := 0, locals := 12 } : Room).slots s₁ (entryFrame m #[(.ref x0)] 1)
  refine Go.cast (ef_2 m x0) ?_
  refine Go.of (T' := s₁) (f' := (mkF m 1 #[.val (.ref x0)] [(.ref x0)])) (fun t k => XS.aloadN X0.here hx rfl (hb hby d2_0) rfl rfl k) ?_
  obtain ⟨T1, X1, e1, st1⟩ := initO X0 hx hZ hown (hw _ (List.mem_of_getElem? (i := 12) rfl)) (hw _ (List.mem_of_getElem? (i := 13) rfl)) (hw _ (List.mem_of_getElem? (i := 14) rfl)) e0 (g := (mkF m 1 #[.val (.ref x0)] [(.ref x0)])) rfl (by rw [hml]; rfl) rfl (hb hby d2_1) (by decide) (W := 0) (by show 2 * 0 + _ ≤ _; exact Nat.le_of_eq rfl) (by decide)
  refine Go.of (T' := T1) (f' := (mkF m 4 #[.val (.ref x0)] [])) (fun t k => st1 t k) ?_
  refine Go.retV X1 hx hk Bd.returns (hb hby d2_4) (by decide) (by decide) ?_
  rw [e1]
  exact ⟨rfl, N0, rfl⟩
theorem pd_0 : parseMethodDescriptor "()V" = some ⟨[], none⟩ := by decide +kernel
theorem d1_0 : decode prog_119_method_1_code 0 = .ok (.aload_n 0, 1) := by decide +kernel
theorem d1_1 : decode prog_119_method_1_code 1 = .ok (.invokespecial 1, 3) := by decide +kernel
theorem d1_4 : decode prog_119_method_1_code 4 = .ok (.aload_n 0, 1) := by decide +kernel
theorem d1_5 : decode prog_119_method_1_code 5 = .ok (.lload_n 1, 1) := by decide +kernel
theorem d1_6 : decode prog_119_method_1_code 6 = .ok (.putfield 7, 3) := by decide +kernel
theorem d1_9 : decode prog_119_method_1_code 9 = .ok (.aload_n 0, 1) := by decide +kernel
theorem d1_10 : decode prog_119_method_1_code 10 = .ok (.lload_n 3, 1) := by decide +kernel
theorem d1_11 : decode prog_119_method_1_code 11 = .ok (.putfield 13, 3) := by decide +kernel
theorem d1_14 : decode prog_119_method_1_code 14 = .ok (.return_, 1) := by decide +kernel
theorem pn_1 : plainName "com/example/keelson/keelson/store/DiskSpace$Usage" = true := by first | (simp [plainName, overriddenIn]; done) | decide +kernel
theorem ef_1 (m : MethodId) (x0 : Addr) (x1 : Int64) (x2 : Int64) : entryFrame m #[(.ref x0), (.long x1), (.long x2)] 5 = mkF m 0 #[.val (.ref x0), .val (.long x1), .second, .val (.long x2), .second] [] := by first | (simp [entryFrame, mkF, argsToLocals, Value.category]; done) | rfl
def Q1 (Z : State) (x0 : Addr) (x1 : Int64) (x2 : Int64) (u_used : Value) (u_available : Value) (h0 : Heap) (n0 : Nat) (v : Option Value) (h : Heap) (L : List Loc) : Prop := v = none ∧ Fr n0 L ∧ Keep h0 h [x0] ∧ Fld Z h x0 "com/example/keelson/keelson/store/DiskSpace$Usage" "used" "J" (.long x1) ∧ Fld Z h x0 "com/example/keelson/keelson/store/DiskSpace$Usage" "available" "J" (.long x2)
set_option maxRecDepth 65536 in
set_option maxHeartbeats 40000000 in
theorem rm1 (l : Launch) (Z : State) (a0 : Array Value) (hw : ∀ d ∈ tables_1, d.before a0 Z = true) (ws : List Jvm.Cond) (x0 : Addr) (x1 : Int64) (x2 : Int64) (u_used : Value) (u_available : Value) (h0 : Heap) (n0 : Nat) (Z0 : n0 ≤ h0.size) (E_a : Exa Z h0 x0 "com/example/keelson/keelson/store/DiskSpace$Usage") (g_a : n0 ≤ x0) (F_used : Fld Z h0 x0 "com/example/keelson/keelson/store/DiskSpace$Usage" "used" "J" u_used) (F_available : Fld Z h0 x0 "com/example/keelson/keelson/store/DiskSpace$Usage" "available" "J" u_available) :
    MetFree l (⟨"com/example/keelson/keelson/store/DiskSpace$Usage", "<init>", "(JJ)V"⟩ : MethodName) (head1 (Jvm.Cond.code (⟨"com/example/keelson/keelson/store/DiskSpace$Usage", "<init>", "(JJ)V"⟩ : MethodName) prog_119_method_1_code 5 none :: ws) ({ frames := 2, cells := 0, slots := 0, locals := 24 } : Room)) (fun a U => a = #[(.ref x0), (.long x1), (.long x2)] ∧ Z.Warmed39 U.vm ∧ U.heap = h0) (fun _ _ _ _ _ => True) (fun _ U o U' => ∃ v L, o = .returned v ∧ Q1 Z x0 x1 x2 u_used u_available h0 n0 v U'.heap L ∧ FrameEnd U o U' L ({ frames := 2, cells := 0, slots := 0, locals := 24 } : Room).cells ({ frames := 2, cells := 0, slots := 0, locals := 24 } : Room).slots) := by
  refine MetFree.of_bodySF (plainFor_of_name pn_1) hisR ?_
  intro p e s m args below meth c s₁ Bd hml0 hP hK
  obtain ⟨rfl, hZ, hh⟩ := hP
  have hx := Bd.exec
  have hby := Bd.bytes
  have hml : c.maxLocals = 5 := hml0
  have hown : s.vm.findClass "com/example/keelson/keelson/store/DiskSpace$Usage" = some m.cls := findClass_of_methodNamed Bd.named
  have hnm := (name_of_methodNamed Bd.named Bd.method).1
  have hk : meth.locks = false := BodyLoose.notSynchronized Bd
  have X0 : Stand p l e ({ frames := 2, cells := 0, slots := 0, locals := 24 } : Room) s m #[(.ref x0), (.long x1), (.long x2)] below meth c s₁ [] 0 0 := Stand.of_body Bd
  have e0 : s₁.heap = h0 := by rw [← hh, Bd.state]; rfl
  have N0 := Fr.nil n0
  show Go p e below s (Q1 Z x0 x1 x2 u_used u_available h0 n0) ({ frames := 2, cells := 0, slots := 0, locals := 24 } : Room).cells ({ frames := 2, cells := 0, slots := 0, locals := 24 } : Room).slots s₁ (entryFrame m #[(.ref x0), (.long x1), (.long x2)] 5)
  refine Go.cast (ef_1 m x0 x1 x2) ?_
  refine Go.of (T' := s₁) (f' := (mkF m 1 #[.val (.ref x0), .val (.long x1), .second, .val (.long x2), .second] [(.ref x0)])) (fun t k => XS.aloadN X0.here hx rfl (hb hby d1_0) rfl rfl k) ?_
  obtain ⟨_, _, ⟨T1, L1, k1, n1⟩, -, X1, ⟨Lc1, hQ1, l1, y1, z1⟩, st1⟩ := X0.specialBack hx (y := (⟨"java/lang/Record", "<init>", "()V"⟩ : MethodName)) rfl hown (mvT hZ (hw _ (List.mem_of_getElem? (i := 7) rfl))) (mvT hZ (hw _ (List.mem_of_getElem? (i := 8) rfl))) (mvT hZ (hw _ (List.mem_of_getElem? (i := 11) rfl))) (by decide) (backOf (W := 0) (rm2 l Z a0 hw [] x0 h0 n0 Z0 ) hZ (hw _ (List.mem_of_getElem? (i := 11) rfl)) (hw _ (List.mem_of_getElem? (i := 10) rfl)) (by decide) (by decide)) (g := (mkF m 1 #[.val (.ref x0), .val (.long x1), .second, .val (.long x2), .second] [(.ref x0)])) rfl (by rw [hml]; rfl) (Steps.refl _) (a := x0) (argsL := []) (rest := []) (lenOf pd_0 rfl) rfl (by show 2 * 0 + _ ≤ _; exact Nat.le_of_eq rfl) (hb hby d1_1) (fun _ _ => ⟨rfl, e0, (by decide : 0 + 0 ≤ _), (by decide : 0 + 0 ≤ _)⟩)
  dsimp only [Pt.U, Pt.locs, Pt.cells, Pt.slots] at X1 l1 y1 z1 st1 hQ1
  subst l1 y1 z1
  obtain ⟨rfl, N1q, e1⟩ := hQ1
  have N1 := Fr.app N0 N1q
  refine Go.tr (T' := T1) (f' := (mkF m 4 #[.val (.ref x0), .val (.long x1), .second, .val (.long x2), .second] [])) st1 ?_
  refine Go.of (T' := T1) (f' := (mkF m 5 #[.val (.ref x0), .val (.long x1), .second, .val (.long x2), .second] [(.ref x0)])) (fun t k => XS.aloadN X1.here hx rfl (hb hby d1_4) rfl rfl k) ?_
  refine Go.of (T' := T1) (f' := (mkF m 6 #[.val (.ref x0), .val (.long x1), .second, .val (.long x2), .second] [(.long x1), (.ref x0)])) (fun t k => XS.lloadN X1.here hx rfl (hb hby d1_5) rfl k) ?_
  obtain ⟨T2, h2, X2, e2, W2, st2⟩ := putF X1 hx hZ hown (host := "") (Or.inl (hw _ (List.mem_of_getElem? (i := 15) rfl))) Via.refl e1 F_used E_a (Or.inr ⟨(hw _ (List.mem_of_getElem? (i := 16) rfl)), rfl, hnm⟩) (hw _ (List.mem_of_getElem? (i := 2) rfl)) (ty := .long) (by decide) rfl rfl (g := (mkF m 6 #[.val (.ref x0), .val (.long x1), .second, .val (.long x2), .second] [(.long x1), (.ref x0)])) rfl rfl (hb hby d1_6)
  have Fw2 : Fld Z h2 x0 "com/example/keelson/keelson/store/DiskSpace$Usage" "used" "J" (.long x1) := F_used.same W2
  have F2_x0_available : Fld Z h2 x0 "com/example/keelson/keelson/store/DiskSpace$Usage" "available" "J" u_available := F_available.other W2 (Or.inr (slot_ne (Or.inr (hw _ (List.mem_of_getElem? (i := 18) rfl))) (Or.inr (hw _ (List.mem_of_getElem? (i := 16) rfl))) (by decide) (t := .long) (t' := .long) (by decide) (by decide)))
  have Ex2_x0 : Exa Z h2 x0 "com/example/keelson/keelson/store/DiskSpace$Usage" := E_a.wr W2
  have N2 := Fr.snoc X2 N1 g_a
  have KK2 : Keep h0 h2 [x0] := (Keep.refl h0 [x0]).wr W2 (Or.inl (List.mem_of_getElem? (i := 0) rfl))
  have ZS2 : n0 ≤ h2.size := Nat.le_trans Z0 (Keep.of_wr W2).1
  refine Go.of (T' := T2) (f' := (mkF m 9 #[.val (.ref x0), .val (.long x1), .second, .val (.long x2), .second] [])) (fun t k => st2 t k) ?_
  refine Go.of (T' := T2) (f' := (mkF m 10 #[.val (.ref x0), .val (.long x1), .second, .val (.long x2), .second] [(.ref x0)])) (fun t k => XS.aloadN X2.here hx rfl (hb hby d1_9) rfl rfl k) ?_
  refine Go.of (T' := T2) (f' := (mkF m 11 #[.val (.ref x0), .val (.long x1), .second, .val (.long x2), .second] [(.long x2), (.ref x0)])) (fun t k => XS.lloadN X2.here hx rfl (hb hby d1_10) rfl k) ?_
  obtain ⟨T3, h3, X3, e3, W3, st3⟩ := putF X2 hx hZ hown (host := "") (Or.inl (hw _ (List.mem_of_getElem? (i := 17) rfl))) Via.refl e2 F2_x0_available Ex2_x0 (Or.inr ⟨(hw _ (List.mem_of_getElem? (i := 18) rfl)), rfl, hnm⟩) (hw _ (List.mem_of_getElem? (i := 2) rfl)) (ty := .long) (by decide) rfl rfl (g := (mkF m 11 #[.val (.ref x0), .val (.long x1), .second, .val (.long x2), .second] [(.long x2), (.ref x0)])) rfl rfl (hb hby d1_11)
  have Fw3 : Fld Z h3 x0 "com/example/keelson/keelson/store/DiskSpace$Usage" "available" "J" (.long x2) := F2_x0_available.same W3
  have F3_x0_used : Fld Z h3 x0 "com/example/keelson/keelson/store/DiskSpace$Usage" "used" "J" (.long x1) := Fw2.other W3 (Or.inr (slot_ne (Or.inr (hw _ (List.mem_of_getElem? (i := 16) rfl))) (Or.inr (hw _ (List.mem_of_getElem? (i := 18) rfl))) (by decide) (t := .long) (t' := .long) (by decide) (by decide)))
  have Ex3_x0 : Exa Z h3 x0 "com/example/keelson/keelson/store/DiskSpace$Usage" := Ex2_x0.wr W3
  have N3 := Fr.snoc X3 N2 g_a
  have KK3 : Keep h0 h3 [x0] := KK2.wr W3 (Or.inl (List.mem_of_getElem? (i := 0) rfl))
  have ZS3 : n0 ≤ h3.size := Nat.le_trans ZS2 (Keep.of_wr W3).1
  refine Go.of (T' := T3) (f' := (mkF m 14 #[.val (.ref x0), .val (.long x1), .second, .val (.long x2), .second] [])) (fun t k => st3 t k) ?_
  refine Go.retV X3 hx hk Bd.returns (hb hby d1_14) (by decide) (by decide) ?_
  rw [e3]
  exact ⟨rfl, N3, KK3, F3_x0_used, Fw3⟩
def pct (u a : Int64) : Int64 := if u + a = 0 then 100 else (u * 100 + (u + a) - 1) / (u + a)
theorem d4_0 : decode prog_119_method_3_code 0 = .ok (.aload_n 0, 1) := by decide +kernel
theorem d4_1 : decode prog_119_method_3_code 1 = .ok (.getfield 7, 3) := by decide +kernel
theorem d4_4 : decode prog_119_method_3_code 4 = .ok (.aload_n 0, 1) := by decide +kernel
theorem d4_5 : decode prog_119_method_3_code 5 = .ok (.getfield 13, 3) := by decide +kernel
theorem d4_8 : decode prog_119_method_3_code 8 = .ok (.ladd, 1) := by decide +kernel
theorem d4_9 : decode prog_119_method_3_code 9 = .ok (.lstore_n 1, 1) := by decide +kernel
theorem d4_10 : decode prog_119_method_3_code 10 = .ok (.lload_n 1, 1) := by decide +kernel
theorem d4_11 : decode prog_119_method_3_code 11 = .ok (.lconst 0, 1) := by decide +kernel
theorem d4_12 : decode prog_119_method_3_code 12 = .ok (.lcmp, 1) := by decide +kernel
theorem d4_13 : decode prog_119_method_3_code 13 = .ok (.ifCond .ne 9, 3) := by decide +kernel
theorem d4_16 : decode prog_119_method_3_code 16 = .ok (.ldc2_w 16, 3) := by decide +kernel
theorem d4_19 : decode prog_119_method_3_code 19 = .ok (.goto 17, 3) := by decide +kernel
theorem d4_22 : decode prog_119_method_3_code 22 = .ok (.aload_n 0, 1) := by decide +kernel
theorem d4_23 : decode prog_119_method_3_code 23 = .ok (.getfield 7, 3) := by decide +kernel
theorem d4_26 : decode prog_119_method_3_code 26 = .ok (.ldc2_w 16, 3) := by decide +kernel
theorem d4_29 : decode prog_119_method_3_code 29 = .ok (.lmul, 1) := by decide +kernel
theorem d4_30 : decode prog_119_method_3_code 30 = .ok (.lload_n 1, 1) := by decide +kernel
theorem d4_31 : decode prog_119_method_3_code 31 = .ok (.ladd, 1) := by decide +kernel
theorem d4_32 : decode prog_119_method_3_code 32 = .ok (.lconst 1, 1) := by decide +kernel
theorem d4_33 : decode prog_119_method_3_code 33 = .ok (.lsub, 1) := by decide +kernel
theorem d4_34 : decode prog_119_method_3_code 34 = .ok (.lload_n 1, 1) := by decide +kernel
theorem d4_35 : decode prog_119_method_3_code 35 = .ok (.ldiv, 1) := by decide +kernel
theorem d4_36 : decode prog_119_method_3_code 36 = .ok (.lreturn, 1) := by decide +kernel
theorem ef_4 (m : MethodId) (x0 : Addr) : entryFrame m #[(.ref x0)] 3 = mkF m 0 #[.val (.ref x0), .unset, .unset] [] := by first | (simp [entryFrame, mkF, argsToLocals, Value.category]; done) | rfl
def Q4 (Z : State) (x0 : Addr) (u0 : Int64) (u1 : Int64) (h0 : Heap) (n0 : Nat) (v : Option Value) (h : Heap) (L : List Loc) : Prop := v = some (.long (pct u0 u1)) ∧ Fr n0 L ∧ h = h0
set_option maxRecDepth 65536 in
set_option maxHeartbeats 40000000 in
theorem rm4 (l : Launch) (Z : State) (a0 : Array Value) (hw : ∀ d ∈ tables_1, d.before a0 Z = true) (ws : List Jvm.Cond) (x0 : Addr) (u0 : Int64) (u1 : Int64) (h0 : Heap) (n0 : Nat) (Z0 : n0 ≤ h0.size) (F_used : Fld Z h0 x0 "com/example/keelson/keelson/store/DiskSpace$Usage" "used" "J" (.long u0)) (F_available : Fld Z h0 x0 "com/example/keelson/keelson/store/DiskSpace$Usage" "available" "J" (.long u1)) :
    MetFree l (⟨"com/example/keelson/keelson/store/DiskSpace$Usage", "percent", "()J"⟩ : MethodName) (head1 (Jvm.Cond.code (⟨"com/example/keelson/keelson/store/DiskSpace$Usage", "percent", "()J"⟩ : MethodName) prog_119_method_3_code 3 (some .long) :: ws) ({ frames := 0, cells := 0, slots := 0, locals := 0 } : Room)) (fun a U => a = #[(.ref x0)] ∧ Z.Warmed39 U.vm ∧ U.heap = h0) (fun _ _ _ _ _ => True) (fun _ U o U' => ∃ v L, o = .returned v ∧ Q4 Z x0 u0 u1 h0 n0 v U'.heap L ∧ FrameEnd U o U' L ({ frames := 0, cells := 0, slots := 0, locals := 0 } : Room).cells ({ frames := 0, cells := 0, slots := 0, locals := 0 } : Room).slots) := by
  refine MetFree.of_bodySF (plainFor_of_name pn_1) hisR ?_
  intro p e s m args below meth c s₁ Bd hml0 hP hK
  obtain ⟨rfl, hZ, hh⟩ := hP
  have hx := Bd.exec
  have hby := Bd.bytes
  have hml : c.maxLocals = 3 := hml0
  have hown : s.vm.findClass "com/example/keelson/keelson/store/DiskSpace$Usage" = some m.cls := findClass_of_methodNamed Bd.named
  have hnm := (name_of_methodNamed Bd.named Bd.method).1
  have hk : meth.locks = false := BodyLoose.notSynchronized Bd
  have X0 : Stand p l e ({ frames := 0, cells := 0, slots := 0, locals := 0 } : Room) s m #[(.ref x0)] below meth c s₁ [] 0 0 := Stand.of_body Bd
  have e0 : s₁.heap = h0 := by rw [← hh, Bd.state]; rfl
  have N0 := Fr.nil n0
  show Go p e below s (Q4 Z x0 u0 u1 h0 n0) ({ frames := 0, cells := 0, slots := 0, locals := 0 } : Room).cells ({ frames := 0, cells := 0, slots := 0, locals := 0 } : Room).slots s₁ (entryFrame m #[(.ref x0)] 3)
  refine Go.cast (ef_4 m x0) ?_
  refine Go.of (T' := s₁) (f' := (mkF m 1 #[.val (.ref x0), .unset, .unset] [(.ref x0)])) (fun t k => XS.aloadN X0.here hx rfl (hb hby d4_0) rfl rfl k) ?_
  obtain ⟨T1, X1, e1, st1⟩ := getF X0 hx hZ hown (host := "") (Or.inl (hw _ (List.mem_of_getElem? (i := 15) rfl))) Via.refl e0 F_used (g := (mkF m 1 #[.val (.ref x0), .unset, .unset] [(.ref x0)])) rfl rfl (hb hby d4_1)
  refine Go.of (T' := T1) (f' := (mkF m 4 #[.val (.ref x0), .unset, .unset] [(.long u0)])) (fun t k => st1 t k) ?_
  refine Go.of (T' := T1) (f' := (mkF m 5 #[.val (.ref x0), .unset, .unset] [(.ref x0), (.long u0)])) (fun t k => XS.aloadN X1.here hx rfl (hb hby d4_4) rfl rfl k) ?_
  obtain ⟨T2, X2, e2, st2⟩ := getF X1 hx hZ hown (host := "") (Or.inl (hw _ (List.mem_of_getElem? (i := 17) rfl))) Via.refl e1 F_available (g := (mkF m 5 #[.val (.ref x0), .unset, .unset] [(.ref x0), (.long u0)])) rfl rfl (hb hby d4_5)
  refine Go.of (T' := T2) (f' := (mkF m 8 #[.val (.ref x0), .unset, .unset] [(.long u1), (.long u0)])) (fun t k => st2 t k) ?_
  refine Go.of (T' := T2) (f' := (mkF m 9 #[.val (.ref x0), .unset, .unset] [(.long (u0 + u1))])) (fun t k => XS.ladd X2.here hx rfl (hb hby d4_8) rfl k) ?_
  refine Go.of (T' := T2) (f' := (mkF m 10 #[.val (.ref x0), .val (.long (u0 + u1)), .second] [])) (fun t k => XS.lstoreN X2.here hx rfl (hb hby d4_9) rfl (l' := #[.val (.ref x0), .val (.long (u0 + u1)), .second]) rfl k) ?_
  refine Go.of (T' := T2) (f' := (mkF m 11 #[.val (.ref x0), .val (.long (u0 + u1)), .second] [(.long (u0 + u1))])) (fun t k => XS.lloadN X2.here hx rfl (hb hby d4_10) rfl k) ?_
  refine Go.of (T' := T2) (f' := (mkF m 12 #[.val (.ref x0), .val (.long (u0 + u1)), .second] [(.long (0 : Int64)), (.long (u0 + u1))])) (fun t k => XS.lconst X2.here hx rfl (hb hby d4_11) k) ?_
  refine Go.of (T' := T2) (f' := (mkF m 13 #[.val (.ref x0), .val (.long (u0 + u1)), .second] [(.int (lcmpW (u0 + u1) (0 : Int64)))])) (fun t k => XS.lcmp X2.here hx rfl (hb hby d4_12) rfl k) ?_
  by_cases hc13 : (u0 + u1) = (0 : Int64)
  · -- pc 13: no
    refine Go.of (T' := T2) (f' := (mkF m 16 #[.val (.ref x0), .val (.long (u0 + u1)), .second] [])) (fun t k => XS.ifNo X2.here hx rfl (hb hby d4_13) rfl (lc_ne_f hc13) k) ?_
    refine Go.of (T' := T2) (f' := (mkF m 19 #[.val (.ref x0), .val (.long (u0 + u1)), .second] [(.long (100 : Int64))])) (fun t k => X2.ldc2Long hx hown (mvT hZ (hw _ (List.mem_of_getElem? (i := 24) rfl))) (g := (mkF m 16 #[.val (.ref x0), .val (.long (u0 + u1)), .second] [])) rfl (hb hby d4_16) t k) ?_
    refine Go.of (T' := T2) (f' := (mkF m 36 #[.val (.ref x0), .val (.long (u0 + u1)), .second] [(.long (100 : Int64))])) (fun t k => XS.goto X2.here hx rfl (pc0 := 19) (pc' := 36) rfl (hb hby d4_19) (by decide) (by decide) k) ?_
    refine Go.retJ X2 hx hk Bd.returns (hb hby d4_36) (by decide) (by decide) ?_
    rw [e2]
    exact ⟨by simp [pct, hc13], N0, rfl⟩
  · -- pc 13: yes
    refine Go.of (T' := T2) (f' := (mkF m 22 #[.val (.ref x0), .val (.long (u0 + u1)), .second] [])) (fun t k => XS.ifYes X2.here hx rfl (pc0 := 13) (pc' := 22) rfl (hb hby d4_13) rfl (lc_ne_t hc13) (by decide) (by decide) k) ?_
    refine Go.of (T' := T2) (f' := (mkF m 23 #[.val (.ref x0), .val (.long (u0 + u1)), .second] [(.ref x0)])) (fun t k => XS.aloadN X2.here hx rfl (hb hby d4_22) rfl rfl k) ?_
    obtain ⟨T3, X3, e3, st3⟩ := getF X2 hx hZ hown (host := "") (Or.inl (hw _ (List.mem_of_getElem? (i := 15) rfl))) Via.refl e2 F_used (g := (mkF m 23 #[.val (.ref x0), .val (.long (u0 + u1)), .second] [(.ref x0)])) rfl rfl (hb hby d4_23)
    refine Go.of (T' := T3) (f' := (mkF m 26 #[.val (.ref x0), .val (.long (u0 + u1)), .second] [(.long u0)])) (fun t k => st3 t k) ?_
    refine Go.of (T' := T3) (f' := (mkF m 29 #[.val (.ref x0), .val (.long (u0 + u1)), .second] [(.long (100 : Int64)), (.long u0)])) (fun t k => X3.ldc2Long hx hown (mvT hZ (hw _ (List.mem_of_getElem? (i := 24) rfl))) (g := (mkF m 26 #[.val (.ref x0), .val (.long (u0 + u1)), .second] [(.long u0)])) rfl (hb hby d4_26) t k) ?_
    refine Go.of (T' := T3) (f' := (mkF m 30 #[.val (.ref x0), .val (.long (u0 + u1)), .second] [(.long (u0 * (100 : Int64)))])) (fun t k => XS.lmul X3.here hx rfl (hb hby d4_29) rfl k) ?_
    refine Go.of (T' := T3) (f' := (mkF m 31 #[.val (.ref x0), .val (.long (u0 + u1)), .second] [(.long (u0 + u1)), (.long (u0 * (100 : Int64)))])) (fun t k => XS.lloadN X3.here hx rfl (hb hby d4_30) rfl k) ?_
    refine Go.of (T' := T3) (f' := (mkF m 32 #[.val (.ref x0), .val (.long (u0 + u1)), .second] [(.long ((u0 * (100 : Int64)) + (u0 + u1)))])) (fun t k => XS.ladd X3.here hx rfl (hb hby d4_31) rfl k) ?_
    refine Go.of (T' := T3) (f' := (mkF m 33 #[.val (.ref x0), .val (.long (u0 + u1)), .second] [(.long (1 : Int64)), (.long ((u0 * (100 : Int64)) + (u0 + u1)))])) (fun t k => XS.lconst X3.here hx rfl (hb hby d4_32) k) ?_
    refine Go.of (T' := T3) (f' := (mkF m 34 #[.val (.ref x0), .val (.long (u0 + u1)), .second] [(.long (((u0 * (100 : Int64)) + (u0 + u1)) - (1 : Int64)))])) (fun t k => XS.lsub X3.here hx rfl (hb hby d4_33) rfl k) ?_
    refine Go.of (T' := T3) (f' := (mkF m 35 #[.val (.ref x0), .val (.long (u0 + u1)), .second] [(.long (u0 + u1)), (.long (((u0 * (100 : Int64)) + (u0 + u1)) - (1 : Int64)))])) (fun t k => XS.lloadN X3.here hx rfl (hb hby d4_34) rfl k) ?_
    have nz35 : (u0 + u1) ≠ (0 : Int64) := hc13
    refine Go.of (T' := T3) (f' := (mkF m 36 #[.val (.ref x0), .val (.long (u0 + u1)), .second] [(.long ((((u0 * (100 : Int64)) + (u0 + u1)) - (1 : Int64)) / (u0 + u1)))])) (fun t k => XS.ldiv X3.here hx rfl (hb hby d4_35) rfl nz35 k) ?_
    refine Go.retJ X3 hx hk Bd.returns (hb hby d4_36) (by decide) (by decide) ?_
    rw [e3]
    exact ⟨by simp [pct, hc13], N0, rfl⟩
theorem own_p (u a : Int64) (hu : 0 ≤ u.toInt ∧ u.toInt ≤ 36028797018963967) (ha : 0 ≤ a.toInt ∧ a.toInt ≤ 36028797018963967) (ht : ¬ (u + a = 0)) :
    ¬ (pct u a < 0) ∧ ¬ (100 < pct u a) ∧ ¬ (pct u a * (u + a) < u * 100) ∧ (pct u a - 1) * (u + a) < u * 100 := by
  have h100 : (100 : Int64).toInt = 100 := by decide
  have h0 : (0 : Int64).toInt = 0 := by decide
  have h1 : (1 : Int64).toInt = 1 := by decide
  have hs : (u + a).toInt = u.toInt + a.toInt := own_add64 (by omega) (by omega)
  have hm : (u * 100).toInt = u.toInt * 100 := by rw [own_mul64 (by rw [h100]; omega) (by rw [h100]; omega), h100]
  have hz : (u + a = 0) ↔ u.toInt + a.toInt = 0 := by rw [← Int64.toInt_inj, hs, h0]
  have hne : ¬ (u.toInt + a.toInt = 0) := fun q => ht (hz.mpr q)
  have hpos : 0 < u.toInt + a.toInt := by omega
  have hn1 : (u * 100 + (u + a)).toInt = u.toInt * 100 + (u.toInt + a.toInt) := by rw [own_add64 (by rw [hm, hs]; omega) (by rw [hm, hs]; omega), hm, hs]
  have hn : (u * 100 + (u + a) - 1).toInt = u.toInt * 100 + (u.toInt + a.toInt) - 1 := by rw [own_sub64 (by rw [hn1, h1]; omega) (by rw [hn1, h1]; omega), hn1, h1]
  have hd : (pct u a).toInt = (u.toInt * 100 + (u.toInt + a.toInt) - 1) / (u.toInt + a.toInt) := by
    unfold pct; rw [if_neg ht, Int64.toInt_div, hn, hs, Int.tdiv_eq_ediv_of_nonneg (by omega)]
    have d0 : 0 ≤ (u.toInt * 100 + (u.toInt + a.toInt) - 1) / (u.toInt + a.toInt) := Int.ediv_nonneg (by omega) (by omega)
    have d1 : (u.toInt * 100 + (u.toInt + a.toInt) - 1) / (u.toInt + a.toInt) ≤ u.toInt * 100 + (u.toInt + a.toInt) - 1 := Int.ediv_le_self _ (by omega)
    exact own_bm (by omega) (by omega)
  generalize pct u a = P at *
  generalize ht' : u + a = t at *
  generalize hm' : u * 100 = m at *
  generalize hN : u.toInt * 100 + (u.toInt + a.toInt) - 1 = N at *
  generalize hS : u.toInt + a.toInt = S at *
  have l0 : 0 ≤ P.toInt := by rw [hd]; exact Int.ediv_nonneg (by omega) (by omega)
  have l1 : P.toInt * S ≤ N := by rw [hd]; exact Int.ediv_mul_le N (by omega)
  have l2 : N < (P.toInt + 1) * S := by rw [hd]; exact Int.lt_ediv_add_one_mul_self N hpos
  have l3 : P.toInt ≤ 100 := by
    have : P.toInt < 101 := by rw [hd]; exact (Int.ediv_lt_iff_lt_mul hpos).mpr (by omega)
    omega
  have e1 : (P.toInt + 1) * S = P.toInt * S + S := by rw [Int.add_mul, Int.one_mul]
  have e2 : (P.toInt - 1) * S = P.toInt * S - S := by rw [Int.sub_mul, Int.one_mul]
  have b0 : 0 ≤ P.toInt * S := Int.mul_nonneg l0 (by omega)
  have hPm : (P - 1).toInt = P.toInt - 1 := by rw [own_sub64 (by rw [h1]; omega) (by rw [h1]; omega), h1]
  have m1 : (P * t).toInt = P.toInt * S := by rw [own_mul64 (by rw [hs]; omega) (by rw [hs]; omega), hs]
  have m2 : ((P - 1) * t).toInt = P.toInt * S - S := by rw [own_mul64 (by rw [hPm, hs, e2]; omega) (by rw [hPm, hs, e2]; omega), hPm, hs, e2]
  refine ⟨?_, ?_, ?_, ?_⟩
  · rw [Int64.lt_iff_toInt_lt, h0]; omega
  · rw [Int64.lt_iff_toInt_lt, h100]; omega
  · rw [Int64.lt_iff_toInt_lt, m1, hm]; omega
  · rw [Int64.lt_iff_toInt_lt, m2, hm]; omega
theorem own_used (x : Int64) (y : Int32) : 0 ≤ (((x &&& 36028797018963967).toUInt64 >>> ((y &&& 63) &&& 0x3f).toInt64.toUInt64).toInt64).toInt ∧ (((x &&& 36028797018963967).toUInt64 >>> ((y &&& 63) &&& 0x3f).toInt64.toUInt64).toInt64).toInt ≤ 36028797018963967 := by
  refine own_ushr64 _ _ ?_ (by decide)
  rw [Int64.toBitVec_and, BitVec.toNat_and]; exact Nat.le_trans Nat.and_le_right (by decide)
theorem pd_1 : parseMethodDescriptor "(JJ)V" = some ⟨[.long, .long], none⟩ := by decide +kernel
theorem pd_2 : parseMethodDescriptor "()J" = some ⟨[], some .long⟩ := by decide +kernel
theorem pn_2 : plainName "com/example/keelson/keelson/store/DiskSpaceUsagePercentPinLaw" = true := by first | (simp [plainName, overriddenIn]; done) | decide +kernel
theorem ef_0 (m : MethodId) (x0 : Int64) (x1 : Int64) (x2 : Int32) (x3 : Int32) : entryFrame m #[(.long x0), (.long x1), (.int x2), (.int x3)] maxLocals = mkF m 0 #[.val (.long x0), .second, .val (.long x1), .second, .val (.int x2), .val (.int x3), .unset, .unset, .unset, .unset, .unset, .unset, .unset, .unset, .unset, .unset, .unset] [] := by first | (simp [entryFrame, mkF, argsToLocals, Value.category, maxLocals]; done) | rfl
def Q0 (Z : State) (x0 : Int64) (x1 : Int64) (x2 : Int32) (x3 : Int32)  (h0 : Heap) (n0 : Nat) (v : Option Value) (h : Heap) (L : List Loc) : Prop := v = some (.int (1 : Int32)) ∧ Fr n0 L
set_option maxRecDepth 65536 in
set_option maxHeartbeats 40000000 in
theorem rm0 (l : Launch) (Z : State) (a0 : Array Value) (hw : ∀ d ∈ tables_1, d.before a0 Z = true) (ws : List Jvm.Cond) (x0 : Int64) (x1 : Int64) (x2 : Int32) (x3 : Int32)  (h0 : Heap) (n0 : Nat) (Z0 : n0 ≤ h0.size)  :
    MetFree l x (head1 (Jvm.Cond.code x code maxLocals ret :: ws) room_1) (fun a U => a = #[(.long x0), (.long x1), (.int x2), (.int x3)] ∧ Z.Warmed39 U.vm ∧ U.heap = h0) (fun _ _ _ _ _ => True) (fun _ U o U' => ∃ v L, o = .returned v ∧ Q0 Z x0 x1 x2 x3 h0 n0 v U'.heap L ∧ FrameEnd U o U' L 16 128) := by
  refine MetFree.of_bodySF (plainFor_of_name pn_2) hisR ?_
  intro p e s m args below meth c s₁ Bd hml0 hP hK
  obtain ⟨rfl, hZ, hh⟩ := hP
  have hx := Bd.exec
  have hby := Bd.bytes
  have hml : c.maxLocals = 17 := hml0
  have hown : s.vm.findClass "com/example/keelson/keelson/store/DiskSpaceUsagePercentPinLaw" = some m.cls := findClass_of_methodNamed Bd.named
  have hnm := (name_of_methodNamed Bd.named Bd.method).1
  have hk : meth.locks = false := BodyLoose.notSynchronized Bd
  have X0 : Stand p l e room_1 s m #[(.long x0), (.long x1), (.int x2), (.int x3)] below meth c s₁ [] 0 0 := Stand.of_body Bd
  have e0 : s₁.heap = h0 := by rw [← hh, Bd.state]; rfl
  have N0 := Fr.nil n0
  show Go p e below s (Q0 Z x0 x1 x2 x3 h0 n0) 16 128 s₁ (entryFrame m #[(.long x0), (.long x1), (.int x2), (.int x3)] maxLocals)
  refine Go.cast (ef_0 m x0 x1 x2 x3) ?_
  refine Go.of (T' := s₁) (f' := (mkF m 1 #[.val (.long x0), .second, .val (.long x1), .second, .val (.int x2), .val (.int x3), .unset, .unset, .unset, .unset, .unset, .unset, .unset, .unset, .unset, .unset, .unset] [(.long x0)])) (fun t k => XS.lloadN X0.here hx rfl (hb hby at_0) rfl k) ?_
  refine Go.of (T' := s₁) (f' := (mkF m 4 #[.val (.long x0), .second, .val (.long x1), .second, .val (.int x2), .val (.int x3), .unset, .unset, .unset, .unset, .unset, .unset, .unset, .unset, .unset, .unset, .unset] [(.long (36028797018963967 : Int64)), (.long x0)])) (fun t k => X0.ldc2Long hx hown (mvT hZ (hw _ (List.mem_of_getElem? (i := 0) rfl))) (g := (mkF m 1 #[.val (.long x0), .second, .val (.long x1), .second, .val (.int x2), .val (.int x3), .unset, .unset, .unset, .unset, .unset, .unset, .unset, .unset, .unset, .unset, .unset] [(.long x0)])) rfl (hb hby at_1) t k) ?_
  refine Go.of (T' := s₁) (f' := (mkF m 5 #[.val (.long x0), .second, .val (.long x1), .second, .val (.int x2), .val (.int x3), .unset, .unset, .unset, .unset, .unset, .unset, .unset, .unset, .unset, .unset, .unset] [(.long (x0 &&& (36028797018963967 : Int64)))])) (fun t k => XS.land X0.here hx rfl (hb hby at_4) rfl k) ?_
  refine Go.of (T' := s₁) (f' := (mkF m 7 #[.val (.long x0), .second, .val (.long x1), .second, .val (.int x2), .val (.int x3), .unset, .unset, .unset, .unset, .unset, .unset, .unset, .unset, .unset, .unset, .unset] [(.int x2), (.long (x0 &&& (36028797018963967 : Int64)))])) (fun t k => XS.iload X0.here hx rfl (hb hby at_5) rfl k) ?_
  refine Go.of (T' := s₁) (f' := (mkF m 9 #[.val (.long x0), .second, .val (.long x1), .second, .val (.int x2), .val (.int x3), .unset, .unset, .unset, .unset, .unset, .unset, .unset, .unset, .unset, .unset, .unset] [(.int (63 : Int32)), (.int x2), (.long (x0 &&& (36028797018963967 : Int64)))])) (fun t k => XS.bipush X0.here hx rfl (hb hby at_7) k) ?_
  refine Go.of (T' := s₁) (f' := (mkF m 10 #[.val (.long x0), .second, .val (.long x1), .second, .val (.int x2), .val (.int x3), .unset, .unset, .unset, .unset, .unset, .unset, .unset, .unset, .unset, .unset, .unset] [(.int (x2 &&& (63 : Int32))), (.long (x0 &&& (36028797018963967 : Int64)))])) (fun t k => XS.iand X0.here hx rfl (hb hby at_9) rfl k) ?_
  refine Go.of (T' := s₁) (f' := (mkF m 11 #[.val (.long x0), .second, .val (.long x1), .second, .val (.int x2), .val (.int x3), .unset, .unset, .unset, .unset, .unset, .unset, .unset, .unset, .unset, .unset, .unset] [(.long (((x0 &&& (36028797018963967 : Int64)).toUInt64 >>> ((x2 &&& (63 : Int32)) &&& 0x3f).toInt64.toUInt64).toInt64))])) (fun t k => XS.lushr X0.here hx rfl (hb hby at_10) rfl k) ?_
  refine Go.of (T' := s₁) (f' := (mkF m 13 #[.val (.long x0), .second, .val (.long x1), .second, .val (.int x2), .val (.int x3), .val (.long (((x0 &&& (36028797018963967 : Int64)).toUInt64 >>> ((x2 &&& (63 : Int32)) &&& 0x3f).toInt64.toUInt64).toInt64)), .second, .unset, .unset, .unset, .unset, .unset, .unset, .unset, .unset, .unset] [])) (fun t k => XS.lstore X0.here hx rfl (hb hby at_11) rfl (l' := #[.val (.long x0), .second, .val (.long x1), .second, .val (.int x2), .val (.int x3), .val (.long (((x0 &&& (36028797018963967 : Int64)).toUInt64 >>> ((x2 &&& (63 : Int32)) &&& 0x3f).toInt64.toUInt64).toInt64)), .second, .unset, .unset, .unset, .unset, .unset, .unset, .unset, .unset, .unset]) rfl k) ?_
  refine Go.of (T' := s₁) (f' := (mkF m 14 #[.val (.long x0), .second, .val (.long x1), .second, .val (.int x2), .val (.int x3), .val (.long (((x0 &&& (36028797018963967 : Int64)).toUInt64 >>> ((x2 &&& (63 : Int32)) &&& 0x3f).toInt64.toUInt64).toInt64)), .second, .unset, .unset, .unset, .unset, .unset, .unset, .unset, .unset, .unset] [(.long x1)])) (fun t k => XS.lloadN X0.here hx rfl (hb hby at_13) rfl k) ?_
  refine Go.of (T' := s₁) (f' := (mkF m 17 #[.val (.long x0), .second, .val (.long x1), .second, .val (.int x2), .val (.int x3), .val (.long (((x0 &&& (36028797018963967 : Int64)).toUInt64 >>> ((x2 &&& (63 : Int32)) &&& 0x3f).toInt64.toUInt64).toInt64)), .second, .unset, .unset, .unset, .unset, .unset, .unset, .unset, .unset, .unset] [(.long (36028797018963967 : Int64)), (.long x1)])) (fun t k => X0.ldc2Long hx hown (mvT hZ (hw _ (List.mem_of_getElem? (i := 0) rfl))) (g := (mkF m 14 #[.val (.long x0), .second, .val (.long x1), .second, .val (.int x2), .val (.int x3), .val (.long (((x0 &&& (36028797018963967 : Int64)).toUInt64 >>> ((x2 &&& (63 : Int32)) &&& 0x3f).toInt64.toUInt64).toInt64)), .second, .unset, .unset, .unset, .unset, .unset, .unset, .unset, .unset, .unset] [(.long x1)])) rfl (hb hby at_14) t k) ?_
  refine Go.of (T' := s₁) (f' := (mkF m 18 #[.val (.long x0), .second, .val (.long x1), .second, .val (.int x2), .val (.int x3), .val (.long (((x0 &&& (36028797018963967 : Int64)).toUInt64 >>> ((x2 &&& (63 : Int32)) &&& 0x3f).toInt64.toUInt64).toInt64)), .second, .unset, .unset, .unset, .unset, .unset, .unset, .unset, .unset, .unset] [(.long (x1 &&& (36028797018963967 : Int64)))])) (fun t k => XS.land X0.here hx rfl (hb hby at_17) rfl k) ?_
  refine Go.of (T' := s₁) (f' := (mkF m 20 #[.val (.long x0), .second, .val (.long x1), .second, .val (.int x2), .val (.int x3), .val (.long (((x0 &&& (36028797018963967 : Int64)).toUInt64 >>> ((x2 &&& (63 : Int32)) &&& 0x3f).toInt64.toUInt64).toInt64)), .second, .unset, .unset, .unset, .unset, .unset, .unset, .unset, .unset, .unset] [(.int x3), (.long (x1 &&& (36028797018963967 : Int64)))])) (fun t k => XS.iload X0.here hx rfl (hb hby at_18) rfl k) ?_
  refine Go.of (T' := s₁) (f' := (mkF m 22 #[.val (.long x0), .second, .val (.long x1), .second, .val (.int x2), .val (.int x3), .val (.long (((x0 &&& (36028797018963967 : Int64)).toUInt64 >>> ((x2 &&& (63 : Int32)) &&& 0x3f).toInt64.toUInt64).toInt64)), .second, .unset, .unset, .unset, .unset, .unset, .unset, .unset, .unset, .unset] [(.int (63 : Int32)), (.int x3), (.long (x1 &&& (36028797018963967 : Int64)))])) (fun t k => XS.bipush X0.here hx rfl (hb hby at_20) k) ?_
  refine Go.of (T' := s₁) (f' := (mkF m 23 #[.val (.long x0), .second, .val (.long x1), .second, .val (.int x2), .val (.int x3), .val (.long (((x0 &&& (36028797018963967 : Int64)).toUInt64 >>> ((x2 &&& (63 : Int32)) &&& 0x3f).toInt64.toUInt64).toInt64)), .second, .unset, .unset, .unset, .unset, .unset, .unset, .unset, .unset, .unset] [(.int (x3 &&& (63 : Int32))), (.long (x1 &&& (36028797018963967 : Int64)))])) (fun t k => XS.iand X0.here hx rfl (hb hby at_22) rfl k) ?_
  refine Go.of (T' := s₁) (f' := (mkF m 24 #[.val (.long x0), .second, .val (.long x1), .second, .val (.int x2), .val (.int x3), .val (.long (((x0 &&& (36028797018963967 : Int64)).toUInt64 >>> ((x2 &&& (63 : Int32)) &&& 0x3f).toInt64.toUInt64).toInt64)), .second, .unset, .unset, .unset, .unset, .unset, .unset, .unset, .unset, .unset] [(.long (((x1 &&& (36028797018963967 : Int64)).toUInt64 >>> ((x3 &&& (63 : Int32)) &&& 0x3f).toInt64.toUInt64).toInt64))])) (fun t k => XS.lushr X0.here hx rfl (hb hby at_23) rfl k) ?_
  refine Go.of (T' := s₁) (f' := (mkF m 26 #[.val (.long x0), .second, .val (.long x1), .second, .val (.int x2), .val (.int x3), .val (.long (((x0 &&& (36028797018963967 : Int64)).toUInt64 >>> ((x2 &&& (63 : Int32)) &&& 0x3f).toInt64.toUInt64).toInt64)), .second, .val (.long (((x1 &&& (36028797018963967 : Int64)).toUInt64 >>> ((x3 &&& (63 : Int32)) &&& 0x3f).toInt64.toUInt64).toInt64)), .second, .unset, .unset, .unset, .unset, .unset, .unset, .unset] [])) (fun t k => XS.lstore X0.here hx rfl (hb hby at_24) rfl (l' := #[.val (.long x0), .second, .val (.long x1), .second, .val (.int x2), .val (.int x3), .val (.long (((x0 &&& (36028797018963967 : Int64)).toUInt64 >>> ((x2 &&& (63 : Int32)) &&& 0x3f).toInt64.toUInt64).toInt64)), .second, .val (.long (((x1 &&& (36028797018963967 : Int64)).toUInt64 >>> ((x3 &&& (63 : Int32)) &&& 0x3f).toInt64.toUInt64).toInt64)), .second, .unset, .unset, .unset, .unset, .unset, .unset, .unset]) rfl k) ?_
  have hus := own_used x0 x2
  have hav := own_used x1 x3
  generalize (((x0 &&& (36028797018963967 : Int64)).toUInt64 >>> ((x2 &&& (63 : Int32)) &&& 0x3f).toInt64.toUInt64).toInt64) = us at *
  generalize (((x1 &&& (36028797018963967 : Int64)).toUInt64 >>> ((x3 &&& (63 : Int32)) &&& 0x3f).toInt64.toUInt64).toInt64) = av at *
  obtain ⟨T1, h1, X1, e1, E1, A1, D1, -, st1⟩ := newO X0 hx hZ hown (hw _ (List.mem_of_getElem? (i := 1) rfl)) (hw _ (List.mem_of_getElem? (i := 2) rfl)) (hw _ (List.mem_of_getElem? (i := 3) rfl)) e0 (g := (mkF m 26 #[.val (.long x0), .second, .val (.long x1), .second, .val (.int x2), .val (.int x3), .val (.long us), .second, .val (.long av), .second, .unset, .unset, .unset, .unset, .unset, .unset, .unset] [])) rfl (hb hby at_26) (by decide) (by decide)
  obtain ⟨b1, gb1⟩ : ∃ z, z = h0.size := ⟨_, rfl⟩
  rw [← gb1] at A1 D1 st1
  have g_b1 : n0 ≤ b1 := Nat.le_trans Z0 (Nat.le_of_eq gb1.symm)
  have sz_b1 : h0.size ≤ b1 := Nat.le_trans (Keep.refl h0 []).1 (Nat.le_of_eq gb1.symm)
  have ZS1 : n0 ≤ h1.size := Nat.le_trans Z0 E1.1
  have KK1 : Keep h0 h1 [] := (Keep.refl h0 []).ext E1
  have F1_b1_used : Fld Z h1 b1 "com/example/keelson/keelson/store/DiskSpace$Usage" "used" "J" (.long (0 : Int64)) := D1 (Or.inr (hw _ (List.mem_of_getElem? (i := 16) rfl))) (ty := .long) (by decide)
  have F1_b1_available : Fld Z h1 b1 "com/example/keelson/keelson/store/DiskSpace$Usage" "available" "J" (.long (0 : Int64)) := D1 (Or.inr (hw _ (List.mem_of_getElem? (i := 18) rfl))) (ty := .long) (by decide)
  refine Go.of (T' := T1) (f' := (mkF m 29 #[.val (.long x0), .second, .val (.long x1), .second, .val (.int x2), .val (.int x3), .val (.long us), .second, .val (.long av), .second, .unset, .unset, .unset, .unset, .unset, .unset, .unset] [(.ref b1)])) (fun t k => st1 t k) ?_
  refine Go.of (T' := T1) (f' := (mkF m 30 #[.val (.long x0), .second, .val (.long x1), .second, .val (.int x2), .val (.int x3), .val (.long us), .second, .val (.long av), .second, .unset, .unset, .unset, .unset, .unset, .unset, .unset] [(.ref b1), (.ref b1)])) (fun t k => XS.dup X1.here hx rfl (hb hby at_29) rfl rfl k) ?_
  refine Go.of (T' := T1) (f' := (mkF m 32 #[.val (.long x0), .second, .val (.long x1), .second, .val (.int x2), .val (.int x3), .val (.long us), .second, .val (.long av), .second, .unset, .unset, .unset, .unset, .unset, .unset, .unset] [(.long us), (.ref b1), (.ref b1)])) (fun t k => XS.lload X1.here hx rfl (hb hby at_30) rfl k) ?_
  refine Go.of (T' := T1) (f' := (mkF m 34 #[.val (.long x0), .second, .val (.long x1), .second, .val (.int x2), .val (.int x3), .val (.long us), .second, .val (.long av), .second, .unset, .unset, .unset, .unset, .unset, .unset, .unset] [(.long av), (.long us), (.ref b1), (.ref b1)])) (fun t k => XS.lload X1.here hx rfl (hb hby at_32) rfl k) ?_
  obtain ⟨_, _, ⟨T2, L2, k2, n2⟩, -, X2, ⟨Lc2, hQ2, l2, y2, z2⟩, st2⟩ := X1.specialBack hx (y := (⟨"com/example/keelson/keelson/store/DiskSpace$Usage", "<init>", "(JJ)V"⟩ : MethodName)) rfl hown (mvT hZ (hw _ (List.mem_of_getElem? (i := 4) rfl))) (mvT hZ (hw _ (List.mem_of_getElem? (i := 5) rfl))) (mvT hZ (hw _ (List.mem_of_getElem? (i := 6) rfl))) (by decide) (backOf (W := 1) (rm1 l Z a0 hw [] b1 us av (.long (0 : Int64)) (.long (0 : Int64)) h1 n0 ZS1 A1 g_b1 F1_b1_used F1_b1_available) hZ (hw _ (List.mem_of_getElem? (i := 6) rfl)) (hw _ (List.mem_of_getElem? (i := 3) rfl)) (by decide) (by decide)) (g := (mkF m 34 #[.val (.long x0), .second, .val (.long x1), .second, .val (.int x2), .val (.int x3), .val (.long us), .second, .val (.long av), .second, .unset, .unset, .unset, .unset, .unset, .unset, .unset] [(.long av), (.long us), (.ref b1), (.ref b1)])) rfl (by rw [hml]; rfl) (Steps.refl _) (a := b1) (argsL := [(.long us), (.long av)]) (rest := [(.ref b1)]) (lenOf pd_1 rfl) rfl (by show 2 * 0 + _ ≤ _; exact Nat.le_of_eq rfl) (hb hby at_34) (fun _ _ => ⟨rfl, e1, (by decide : 1 + 0 ≤ _), (by decide : 2 + 0 ≤ _)⟩)
  dsimp only [Pt.U, Pt.locs, Pt.cells, Pt.slots] at X2 l2 y2 z2 st2 hQ2
  subst l2 y2 z2
  obtain ⟨rfl, N2q, K2, Fq2_used, Fq2_available⟩ := hQ2
  have N2 := Fr.app N0 N2q
  have Ex2_b1 : Exa Z T2.heap b1 "com/example/keelson/keelson/store/DiskSpace$Usage" := A1.keep K2
  have ZS2 : n0 ≤ T2.heap.size := Nat.le_trans ZS1 K2.1
  have KK2 : Keep h0 T2.heap [] := KK1.trans K2 (allS (Or.inr sz_b1) all0)
  refine Go.tr (T' := T2) (f' := (mkF m 37 #[.val (.long x0), .second, .val (.long x1), .second, .val (.int x2), .val (.int x3), .val (.long us), .second, .val (.long av), .second, .unset, .unset, .unset, .unset, .unset, .unset, .unset] [(.ref b1)])) st2 ?_
  refine Go.of (T' := T2) (f' := (mkF m 39 #[.val (.long x0), .second, .val (.long x1), .second, .val (.int x2), .val (.int x3), .val (.long us), .second, .val (.long av), .second, .val (.ref b1), .unset, .unset, .unset, .unset, .unset, .unset] [])) (fun t k => XS.astore X2.here hx rfl (hb hby at_37) rfl rfl (l' := #[.val (.long x0), .second, .val (.long x1), .second, .val (.int x2), .val (.int x3), .val (.long us), .second, .val (.long av), .second, .val (.ref b1), .unset, .unset, .unset, .unset, .unset, .unset]) rfl k) ?_
  refine Go.of (T' := T2) (f' := (mkF m 41 #[.val (.long x0), .second, .val (.long x1), .second, .val (.int x2), .val (.int x3), .val (.long us), .second, .val (.long av), .second, .val (.ref b1), .unset, .unset, .unset, .unset, .unset, .unset] [(.ref b1)])) (fun t k => XS.aload X2.here hx rfl (hb hby at_39) rfl rfl k) ?_
  obtain ⟨cq3, kq3, q3a, q3b, q3c⟩ := isOf hZ rfl Ex2_b1
  obtain ⟨_, _, ⟨T3, L3, k3, n3⟩, -, X3, ⟨Lc3, hQ3, l3, y3, z3⟩, st3⟩ := X2.virtualBack hx (y := (⟨"com/example/keelson/keelson/store/DiskSpace$Usage", "percent", "()J"⟩ : MethodName)) (z := (⟨"com/example/keelson/keelson/store/DiskSpace$Usage", "percent", "()J"⟩ : MethodName)) hown (mvT hZ (hw _ (List.mem_of_getElem? (i := 19) rfl))) (mvT hZ (hw _ (List.mem_of_getElem? (i := 20) rfl))) (notFace_of_selects (args := #[]) (mvT hZ (hw _ (List.mem_of_getElem? (i := 22) rfl)))) (mvT hZ (hw _ (List.mem_of_getElem? (i := 22) rfl))) (mvT hZ (hw _ (List.mem_of_getElem? (i := 21) rfl))) (by decide) (backOf (W := 0) (rm4 l Z a0 hw [] b1 us av T2.heap n0 ZS2 Fq2_used Fq2_available) hZ (hw _ (List.mem_of_getElem? (i := 23) rfl)) (hw _ (List.mem_of_getElem? (i := 3) rfl)) (by decide) (by decide)) q3a q3c (g := (mkF m 41 #[.val (.long x0), .second, .val (.long x1), .second, .val (.int x2), .val (.int x3), .val (.long us), .second, .val (.long av), .second, .val (.ref b1), .unset, .unset, .unset, .unset, .unset, .unset] [(.ref b1)])) rfl (by rw [hml]; rfl) (Steps.refl _) (argsL := []) (rest := []) (lenOf pd_2 rfl) rfl (by show 2 * 0 + _ ≤ _; exact Nat.le_of_eq rfl) (hb hby at_41) (fun _ _ => ⟨rfl, rfl, (by decide : 1 + 0 ≤ _), (by decide : 2 + 0 ≤ _)⟩)
  dsimp only [Pt.U, Pt.locs, Pt.cells, Pt.slots] at X3 l3 y3 z3 st3 hQ3
  subst l3 y3 z3
  obtain ⟨rfl, N3q, e3⟩ := hQ3
  have N3 := Fr.app N2 N3q
  refine Go.tr (T' := T3) (f' := (mkF m 44 #[.val (.long x0), .second, .val (.long x1), .second, .val (.int x2), .val (.int x3), .val (.long us), .second, .val (.long av), .second, .val (.ref b1), .unset, .unset, .unset, .unset, .unset, .unset] [(.long (pct us av))])) st3 ?_
  refine Go.of (T' := T3) (f' := (mkF m 46 #[.val (.long x0), .second, .val (.long x1), .second, .val (.int x2), .val (.int x3), .val (.long us), .second, .val (.long av), .second, .val (.ref b1), .val (.long (pct us av)), .second, .unset, .unset, .unset, .unset] [])) (fun t k => XS.lstore X3.here hx rfl (hb hby at_44) rfl (l' := #[.val (.long x0), .second, .val (.long x1), .second, .val (.int x2), .val (.int x3), .val (.long us), .second, .val (.long av), .second, .val (.ref b1), .val (.long (pct us av)), .second, .unset, .unset, .unset, .unset]) rfl k) ?_
  refine Go.of (T' := T3) (f' := (mkF m 48 #[.val (.long x0), .second, .val (.long x1), .second, .val (.int x2), .val (.int x3), .val (.long us), .second, .val (.long av), .second, .val (.ref b1), .val (.long (pct us av)), .second, .unset, .unset, .unset, .unset] [(.long us)])) (fun t k => XS.lload X3.here hx rfl (hb hby at_46) rfl k) ?_
  refine Go.of (T' := T3) (f' := (mkF m 50 #[.val (.long x0), .second, .val (.long x1), .second, .val (.int x2), .val (.int x3), .val (.long us), .second, .val (.long av), .second, .val (.ref b1), .val (.long (pct us av)), .second, .unset, .unset, .unset, .unset] [(.long av), (.long us)])) (fun t k => XS.lload X3.here hx rfl (hb hby at_48) rfl k) ?_
  refine Go.of (T' := T3) (f' := (mkF m 51 #[.val (.long x0), .second, .val (.long x1), .second, .val (.int x2), .val (.int x3), .val (.long us), .second, .val (.long av), .second, .val (.ref b1), .val (.long (pct us av)), .second, .unset, .unset, .unset, .unset] [(.long (us + av))])) (fun t k => XS.ladd X3.here hx rfl (hb hby at_50) rfl k) ?_
  refine Go.of (T' := T3) (f' := (mkF m 53 #[.val (.long x0), .second, .val (.long x1), .second, .val (.int x2), .val (.int x3), .val (.long us), .second, .val (.long av), .second, .val (.ref b1), .val (.long (pct us av)), .second, .val (.long (us + av)), .second, .unset, .unset] [])) (fun t k => XS.lstore X3.here hx rfl (hb hby at_51) rfl (l' := #[.val (.long x0), .second, .val (.long x1), .second, .val (.int x2), .val (.int x3), .val (.long us), .second, .val (.long av), .second, .val (.ref b1), .val (.long (pct us av)), .second, .val (.long (us + av)), .second, .unset, .unset]) rfl k) ?_
  refine Go.of (T' := T3) (f' := (mkF m 55 #[.val (.long x0), .second, .val (.long x1), .second, .val (.int x2), .val (.int x3), .val (.long us), .second, .val (.long av), .second, .val (.ref b1), .val (.long (pct us av)), .second, .val (.long (us + av)), .second, .unset, .unset] [(.long (us + av))])) (fun t k => XS.lload X3.here hx rfl (hb hby at_53) rfl k) ?_
  refine Go.of (T' := T3) (f' := (mkF m 56 #[.val (.long x0), .second, .val (.long x1), .second, .val (.int x2), .val (.int x3), .val (.long us), .second, .val (.long av), .second, .val (.ref b1), .val (.long (pct us av)), .second, .val (.long (us + av)), .second, .unset, .unset] [(.long (0 : Int64)), (.long (us + av))])) (fun t k => XS.lconst X3.here hx rfl (hb hby at_55) k) ?_
  refine Go.of (T' := T3) (f' := (mkF m 57 #[.val (.long x0), .second, .val (.long x1), .second, .val (.int x2), .val (.int x3), .val (.long us), .second, .val (.long av), .second, .val (.ref b1), .val (.long (pct us av)), .second, .val (.long (us + av)), .second, .unset, .unset] [(.int (lcmpW (us + av) (0 : Int64)))])) (fun t k => XS.lcmp X3.here hx rfl (hb hby at_56) rfl k) ?_
  by_cases hc57 : (us + av) = (0 : Int64)
  · -- pc 57: no
    refine Go.of (T' := T3) (f' := (mkF m 60 #[.val (.long x0), .second, .val (.long x1), .second, .val (.int x2), .val (.int x3), .val (.long us), .second, .val (.long av), .second, .val (.ref b1), .val (.long (pct us av)), .second, .val (.long (us + av)), .second, .unset, .unset] [])) (fun t k => XS.ifNo X3.here hx rfl (hb hby at_57) rfl (lc_ne_f hc57) k) ?_
    refine Go.of (T' := T3) (f' := (mkF m 62 #[.val (.long x0), .second, .val (.long x1), .second, .val (.int x2), .val (.int x3), .val (.long us), .second, .val (.long av), .second, .val (.ref b1), .val (.long (pct us av)), .second, .val (.long (us + av)), .second, .unset, .unset] [(.long (pct us av))])) (fun t k => XS.lload X3.here hx rfl (hb hby at_60) rfl k) ?_
    refine Go.of (T' := T3) (f' := (mkF m 65 #[.val (.long x0), .second, .val (.long x1), .second, .val (.int x2), .val (.int x3), .val (.long us), .second, .val (.long av), .second, .val (.ref b1), .val (.long (pct us av)), .second, .val (.long (us + av)), .second, .unset, .unset] [(.long (100 : Int64)), (.long (pct us av))])) (fun t k => X3.ldc2Long hx hown (mvT hZ (hw _ (List.mem_of_getElem? (i := 25) rfl))) (g := (mkF m 62 #[.val (.long x0), .second, .val (.long x1), .second, .val (.int x2), .val (.int x3), .val (.long us), .second, .val (.long av), .second, .val (.ref b1), .val (.long (pct us av)), .second, .val (.long (us + av)), .second, .unset, .unset] [(.long (pct us av))])) rfl (hb hby at_62) t k) ?_
    refine Go.of (T' := T3) (f' := (mkF m 66 #[.val (.long x0), .second, .val (.long x1), .second, .val (.int x2), .val (.int x3), .val (.long us), .second, .val (.long av), .second, .val (.ref b1), .val (.long (pct us av)), .second, .val (.long (us + av)), .second, .unset, .unset] [(.int (lcmpW (pct us av) (100 : Int64)))])) (fun t k => XS.lcmp X3.here hx rfl (hb hby at_65) rfl k) ?_
    have hc66 : (pct us av) = (100 : Int64) := by simp [pct, hc57]
    refine Go.of (T' := T3) (f' := (mkF m 69 #[.val (.long x0), .second, .val (.long x1), .second, .val (.int x2), .val (.int x3), .val (.long us), .second, .val (.long av), .second, .val (.ref b1), .val (.long (pct us av)), .second, .val (.long (us + av)), .second, .unset, .unset] [])) (fun t k => XS.ifNo X3.here hx rfl (hb hby at_66) rfl (lc_ne_f hc66) k) ?_
    refine Go.of (T' := T3) (f' := (mkF m 70 #[.val (.long x0), .second, .val (.long x1), .second, .val (.int x2), .val (.int x3), .val (.long us), .second, .val (.long av), .second, .val (.ref b1), .val (.long (pct us av)), .second, .val (.long (us + av)), .second, .unset, .unset] [(.int (1 : Int32))])) (fun t k => XS.iconst X3.here hx rfl (hb hby at_69) k) ?_
    refine Go.of (T' := T3) (f' := (mkF m 74 #[.val (.long x0), .second, .val (.long x1), .second, .val (.int x2), .val (.int x3), .val (.long us), .second, .val (.long av), .second, .val (.ref b1), .val (.long (pct us av)), .second, .val (.long (us + av)), .second, .unset, .unset] [(.int (1 : Int32))])) (fun t k => XS.goto X3.here hx rfl (pc0 := 70) (pc' := 74) rfl (hb hby at_70) (by decide) (by decide) k) ?_
    refine Go.retZ X3 hx hk (t := .boolean) Bd.returns (by simp) (hb hby at_74) (by decide) (by decide) ?_
    rw [e3]
    exact ⟨rfl, N3⟩
  · -- pc 57: yes
    refine Go.of (T' := T3) (f' := (mkF m 75 #[.val (.long x0), .second, .val (.long x1), .second, .val (.int x2), .val (.int x3), .val (.long us), .second, .val (.long av), .second, .val (.ref b1), .val (.long (pct us av)), .second, .val (.long (us + av)), .second, .unset, .unset] [])) (fun t k => XS.ifYes X3.here hx rfl (pc0 := 57) (pc' := 75) rfl (hb hby at_57) rfl (lc_ne_t hc57) (by decide) (by decide) k) ?_
    refine Go.of (T' := T3) (f' := (mkF m 77 #[.val (.long x0), .second, .val (.long x1), .second, .val (.int x2), .val (.int x3), .val (.long us), .second, .val (.long av), .second, .val (.ref b1), .val (.long (pct us av)), .second, .val (.long (us + av)), .second, .unset, .unset] [(.long (pct us av))])) (fun t k => XS.lload X3.here hx rfl (hb hby at_75) rfl k) ?_
    refine Go.of (T' := T3) (f' := (mkF m 78 #[.val (.long x0), .second, .val (.long x1), .second, .val (.int x2), .val (.int x3), .val (.long us), .second, .val (.long av), .second, .val (.ref b1), .val (.long (pct us av)), .second, .val (.long (us + av)), .second, .unset, .unset] [(.long (0 : Int64)), (.long (pct us av))])) (fun t k => XS.lconst X3.here hx rfl (hb hby at_77) k) ?_
    refine Go.of (T' := T3) (f' := (mkF m 79 #[.val (.long x0), .second, .val (.long x1), .second, .val (.int x2), .val (.int x3), .val (.long us), .second, .val (.long av), .second, .val (.ref b1), .val (.long (pct us av)), .second, .val (.long (us + av)), .second, .unset, .unset] [(.int (lcmpW (pct us av) (0 : Int64)))])) (fun t k => XS.lcmp X3.here hx rfl (hb hby at_78) rfl k) ?_
    have hc79 : ¬ ((pct us av) < (0 : Int64)) := (own_p _ _ hus hav hc57).1
    refine Go.of (T' := T3) (f' := (mkF m 82 #[.val (.long x0), .second, .val (.long x1), .second, .val (.int x2), .val (.int x3), .val (.long us), .second, .val (.long av), .second, .val (.ref b1), .val (.long (pct us av)), .second, .val (.long (us + av)), .second, .unset, .unset] [])) (fun t k => XS.ifNo X3.here hx rfl (hb hby at_79) rfl (lc_lt_f hc79) k) ?_
    refine Go.of (T' := T3) (f' := (mkF m 84 #[.val (.long x0), .second, .val (.long x1), .second, .val (.int x2), .val (.int x3), .val (.long us), .second, .val (.long av), .second, .val (.ref b1), .val (.long (pct us av)), .second, .val (.long (us + av)), .second, .unset, .unset] [(.long (pct us av))])) (fun t k => XS.lload X3.here hx rfl (hb hby at_82) rfl k) ?_
    refine Go.of (T' := T3) (f' := (mkF m 87 #[.val (.long x0), .second, .val (.long x1), .second, .val (.int x2), .val (.int x3), .val (.long us), .second, .val (.long av), .second, .val (.ref b1), .val (.long (pct us av)), .second, .val (.long (us + av)), .second, .unset, .unset] [(.long (100 : Int64)), (.long (pct us av))])) (fun t k => X3.ldc2Long hx hown (mvT hZ (hw _ (List.mem_of_getElem? (i := 25) rfl))) (g := (mkF m 84 #[.val (.long x0), .second, .val (.long x1), .second, .val (.int x2), .val (.int x3), .val (.long us), .second, .val (.long av), .second, .val (.ref b1), .val (.long (pct us av)), .second, .val (.long (us + av)), .second, .unset, .unset] [(.long (pct us av))])) rfl (hb hby at_84) t k) ?_
    refine Go.of (T' := T3) (f' := (mkF m 88 #[.val (.long x0), .second, .val (.long x1), .second, .val (.int x2), .val (.int x3), .val (.long us), .second, .val (.long av), .second, .val (.ref b1), .val (.long (pct us av)), .second, .val (.long (us + av)), .second, .unset, .unset] [(.int (lcmpW (pct us av) (100 : Int64)))])) (fun t k => XS.lcmp X3.here hx rfl (hb hby at_87) rfl k) ?_
    have hc88 : ¬ ((100 : Int64) < (pct us av)) := (own_p _ _ hus hav hc57).2.1
    refine Go.of (T' := T3) (f' := (mkF m 93 #[.val (.long x0), .second, .val (.long x1), .second, .val (.int x2), .val (.int x3), .val (.long us), .second, .val (.long av), .second, .val (.ref b1), .val (.long (pct us av)), .second, .val (.long (us + av)), .second, .unset, .unset] [])) (fun t k => XS.ifYes X3.here hx rfl (pc0 := 88) (pc' := 93) rfl (hb hby at_88) rfl (lc_le_t hc88) (by decide) (by decide) k) ?_
    refine Go.of (T' := T3) (f' := (mkF m 95 #[.val (.long x0), .second, .val (.long x1), .second, .val (.int x2), .val (.int x3), .val (.long us), .second, .val (.long av), .second, .val (.ref b1), .val (.long (pct us av)), .second, .val (.long (us + av)), .second, .unset, .unset] [(.long us)])) (fun t k => XS.lload X3.here hx rfl (hb hby at_93) rfl k) ?_
    refine Go.of (T' := T3) (f' := (mkF m 98 #[.val (.long x0), .second, .val (.long x1), .second, .val (.int x2), .val (.int x3), .val (.long us), .second, .val (.long av), .second, .val (.ref b1), .val (.long (pct us av)), .second, .val (.long (us + av)), .second, .unset, .unset] [(.long (100 : Int64)), (.long us)])) (fun t k => X3.ldc2Long hx hown (mvT hZ (hw _ (List.mem_of_getElem? (i := 25) rfl))) (g := (mkF m 95 #[.val (.long x0), .second, .val (.long x1), .second, .val (.int x2), .val (.int x3), .val (.long us), .second, .val (.long av), .second, .val (.ref b1), .val (.long (pct us av)), .second, .val (.long (us + av)), .second, .unset, .unset] [(.long us)])) rfl (hb hby at_95) t k) ?_
    refine Go.of (T' := T3) (f' := (mkF m 99 #[.val (.long x0), .second, .val (.long x1), .second, .val (.int x2), .val (.int x3), .val (.long us), .second, .val (.long av), .second, .val (.ref b1), .val (.long (pct us av)), .second, .val (.long (us + av)), .second, .unset, .unset] [(.long (us * (100 : Int64)))])) (fun t k => XS.lmul X3.here hx rfl (hb hby at_98) rfl k) ?_
    refine Go.of (T' := T3) (f' := (mkF m 101 #[.val (.long x0), .second, .val (.long x1), .second, .val (.int x2), .val (.int x3), .val (.long us), .second, .val (.long av), .second, .val (.ref b1), .val (.long (pct us av)), .second, .val (.long (us + av)), .second, .val (.long (us * (100 : Int64))), .second] [])) (fun t k => XS.lstore X3.here hx rfl (hb hby at_99) rfl (l' := #[.val (.long x0), .second, .val (.long x1), .second, .val (.int x2), .val (.int x3), .val (.long us), .second, .val (.long av), .second, .val (.ref b1), .val (.long (pct us av)), .second, .val (.long (us + av)), .second, .val (.long (us * (100 : Int64))), .second]) rfl k) ?_
    refine Go.of (T' := T3) (f' := (mkF m 103 #[.val (.long x0), .second, .val (.long x1), .second, .val (.int x2), .val (.int x3), .val (.long us), .second, .val (.long av), .second, .val (.ref b1), .val (.long (pct us av)), .second, .val (.long (us + av)), .second, .val (.long (us * (100 : Int64))), .second] [(.long (pct us av))])) (fun t k => XS.lload X3.here hx rfl (hb hby at_101) rfl k) ?_
    refine Go.of (T' := T3) (f' := (mkF m 105 #[.val (.long x0), .second, .val (.long x1), .second, .val (.int x2), .val (.int x3), .val (.long us), .second, .val (.long av), .second, .val (.ref b1), .val (.long (pct us av)), .second, .val (.long (us + av)), .second, .val (.long (us * (100 : Int64))), .second] [(.long (us + av)), (.long (pct us av))])) (fun t k => XS.lload X3.here hx rfl (hb hby at_103) rfl k) ?_
    refine Go.of (T' := T3) (f' := (mkF m 106 #[.val (.long x0), .second, .val (.long x1), .second, .val (.int x2), .val (.int x3), .val (.long us), .second, .val (.long av), .second, .val (.ref b1), .val (.long (pct us av)), .second, .val (.long (us + av)), .second, .val (.long (us * (100 : Int64))), .second] [(.long ((pct us av) * (us + av)))])) (fun t k => XS.lmul X3.here hx rfl (hb hby at_105) rfl k) ?_
    refine Go.of (T' := T3) (f' := (mkF m 108 #[.val (.long x0), .second, .val (.long x1), .second, .val (.int x2), .val (.int x3), .val (.long us), .second, .val (.long av), .second, .val (.ref b1), .val (.long (pct us av)), .second, .val (.long (us + av)), .second, .val (.long (us * (100 : Int64))), .second] [(.long (us * (100 : Int64))), (.long ((pct us av) * (us + av)))])) (fun t k => XS.lload X3.here hx rfl (hb hby at_106) rfl k) ?_
    refine Go.of (T' := T3) (f' := (mkF m 109 #[.val (.long x0), .second, .val (.long x1), .second, .val (.int x2), .val (.int x3), .val (.long us), .second, .val (.long av), .second, .val (.ref b1), .val (.long (pct us av)), .second, .val (.long (us + av)), .second, .val (.long (us * (100 : Int64))), .second] [(.int (lcmpW ((pct us av) * (us + av)) (us * (100 : Int64))))])) (fun t k => XS.lcmp X3.here hx rfl (hb hby at_108) rfl k) ?_
    have hc109 : ¬ (((pct us av) * (us + av)) < (us * (100 : Int64))) := (own_p _ _ hus hav hc57).2.2.1
    refine Go.of (T' := T3) (f' := (mkF m 112 #[.val (.long x0), .second, .val (.long x1), .second, .val (.int x2), .val (.int x3), .val (.long us), .second, .val (.long av), .second, .val (.ref b1), .val (.long (pct us av)), .second, .val (.long (us + av)), .second, .val (.long (us * (100 : Int64))), .second] [])) (fun t k => XS.ifNo X3.here hx rfl (hb hby at_109) rfl (lc_lt_f hc109) k) ?_
    refine Go.of (T' := T3) (f' := (mkF m 114 #[.val (.long x0), .second, .val (.long x1), .second, .val (.int x2), .val (.int x3), .val (.long us), .second, .val (.long av), .second, .val (.ref b1), .val (.long (pct us av)), .second, .val (.long (us + av)), .second, .val (.long (us * (100 : Int64))), .second] [(.long (pct us av))])) (fun t k => XS.lload X3.here hx rfl (hb hby at_112) rfl k) ?_
    refine Go.of (T' := T3) (f' := (mkF m 115 #[.val (.long x0), .second, .val (.long x1), .second, .val (.int x2), .val (.int x3), .val (.long us), .second, .val (.long av), .second, .val (.ref b1), .val (.long (pct us av)), .second, .val (.long (us + av)), .second, .val (.long (us * (100 : Int64))), .second] [(.long (1 : Int64)), (.long (pct us av))])) (fun t k => XS.lconst X3.here hx rfl (hb hby at_114) k) ?_
    refine Go.of (T' := T3) (f' := (mkF m 116 #[.val (.long x0), .second, .val (.long x1), .second, .val (.int x2), .val (.int x3), .val (.long us), .second, .val (.long av), .second, .val (.ref b1), .val (.long (pct us av)), .second, .val (.long (us + av)), .second, .val (.long (us * (100 : Int64))), .second] [(.long ((pct us av) - (1 : Int64)))])) (fun t k => XS.lsub X3.here hx rfl (hb hby at_115) rfl k) ?_
    refine Go.of (T' := T3) (f' := (mkF m 118 #[.val (.long x0), .second, .val (.long x1), .second, .val (.int x2), .val (.int x3), .val (.long us), .second, .val (.long av), .second, .val (.ref b1), .val (.long (pct us av)), .second, .val (.long (us + av)), .second, .val (.long (us * (100 : Int64))), .second] [(.long (us + av)), (.long ((pct us av) - (1 : Int64)))])) (fun t k => XS.lload X3.here hx rfl (hb hby at_116) rfl k) ?_
    refine Go.of (T' := T3) (f' := (mkF m 119 #[.val (.long x0), .second, .val (.long x1), .second, .val (.int x2), .val (.int x3), .val (.long us), .second, .val (.long av), .second, .val (.ref b1), .val (.long (pct us av)), .second, .val (.long (us + av)), .second, .val (.long (us * (100 : Int64))), .second] [(.long (((pct us av) - (1 : Int64)) * (us + av)))])) (fun t k => XS.lmul X3.here hx rfl (hb hby at_118) rfl k) ?_
    refine Go.of (T' := T3) (f' := (mkF m 121 #[.val (.long x0), .second, .val (.long x1), .second, .val (.int x2), .val (.int x3), .val (.long us), .second, .val (.long av), .second, .val (.ref b1), .val (.long (pct us av)), .second, .val (.long (us + av)), .second, .val (.long (us * (100 : Int64))), .second] [(.long (us * (100 : Int64))), (.long (((pct us av) - (1 : Int64)) * (us + av)))])) (fun t k => XS.lload X3.here hx rfl (hb hby at_119) rfl k) ?_
    refine Go.of (T' := T3) (f' := (mkF m 122 #[.val (.long x0), .second, .val (.long x1), .second, .val (.int x2), .val (.int x3), .val (.long us), .second, .val (.long av), .second, .val (.ref b1), .val (.long (pct us av)), .second, .val (.long (us + av)), .second, .val (.long (us * (100 : Int64))), .second] [(.int (lcmpW (((pct us av) - (1 : Int64)) * (us + av)) (us * (100 : Int64))))])) (fun t k => XS.lcmp X3.here hx rfl (hb hby at_121) rfl k) ?_
    have hc122 : (((pct us av) - (1 : Int64)) * (us + av)) < (us * (100 : Int64)) := (own_p _ _ hus hav hc57).2.2.2
    refine Go.of (T' := T3) (f' := (mkF m 125 #[.val (.long x0), .second, .val (.long x1), .second, .val (.int x2), .val (.int x3), .val (.long us), .second, .val (.long av), .second, .val (.ref b1), .val (.long (pct us av)), .second, .val (.long (us + av)), .second, .val (.long (us * (100 : Int64))), .second] [])) (fun t k => XS.ifNo X3.here hx rfl (hb hby at_122) rfl (lc_ge_f hc122) k) ?_
    refine Go.of (T' := T3) (f' := (mkF m 126 #[.val (.long x0), .second, .val (.long x1), .second, .val (.int x2), .val (.int x3), .val (.long us), .second, .val (.long av), .second, .val (.ref b1), .val (.long (pct us av)), .second, .val (.long (us + av)), .second, .val (.long (us * (100 : Int64))), .second] [(.int (1 : Int32))])) (fun t k => XS.iconst X3.here hx rfl (hb hby at_125) k) ?_
    refine Go.of (T' := T3) (f' := (mkF m 130 #[.val (.long x0), .second, .val (.long x1), .second, .val (.int x2), .val (.int x3), .val (.long us), .second, .val (.long av), .second, .val (.ref b1), .val (.long (pct us av)), .second, .val (.long (us + av)), .second, .val (.long (us * (100 : Int64))), .second] [(.int (1 : Int32))])) (fun t k => XS.goto X3.here hx rfl (pc0 := 126) (pc' := 130) rfl (hb hby at_126) (by decide) (by decide) k) ?_
    refine Go.retZ X3 hx hk (t := .boolean) Bd.returns (by simp) (hb hby at_130) (by decide) (by decide) ?_
    rw [e3]
    exact ⟨rfl, N3⟩
set_option maxRecDepth 65536 in
set_option maxHeartbeats 40000000 in
theorem comes_1 {Post : Tables → Env → Array Value → State → Outcome → State → Prop} (hpost : ∀ tb e args s v u, (limb_1_1.after args s (.returned v) u = true ∧ limb_1_2.after args s (.returned v) u = true ∧ True) → FrameEnd s (.returned v) u (Jvm.fieldLocs frame_1_writes args s ++ Jvm.arrayLocs frame_1_arrays args s ++ Jvm.staticLocs frame_1_statics s) 16 128 → Post tb e args s (.returned v) u) :
    ArmFor flags0 classFile x code maxLocals ret World_1 tables_1 room_1 Calls_1 rest_1 Pre_1 Post := by
  intro l hfl _ _ p e ha hc hk s m args below hf hA hF happ hP
  obtain ⟨hcalls, hrest, hpre⟩ := hP
  obtain ⟨-, -, -, hnamed, -, -, -, hat⟩ := (Spec.applies_iff hf).mp happ
  obtain ⟨hg, hn⟩ := and_e (Cond.before_iff.mp (show (Jvm.Cond.and given_1 narrow_1).before args s = true from hpre))
  obtain ⟨g0, gr0⟩ := and_e hg
  obtain ⟨ga0, gr1⟩ := and_e gr0
  obtain ⟨ga1, gr2⟩ := and_e gr1
  obtain ⟨ga2, gr3⟩ := and_e gr2
  have ga3 := gr3
  obtain ⟨w0, w1, w2, w3, rfl⟩ : ∃ w0 w1 w2 w3 : Value, args = #[w0, w1, w2, w3] := by
    have hs : args.size = 4 := by simpa [Cond.value, given_1] using g0
    obtain ⟨L⟩ := args
    match L, hs with
    | [w0, w1, w2, w3], _ => exact ⟨w0, w1, w2, w3, rfl⟩
  have hw := fun d (hd : d ∈ tables_1) => atoms_spec (ws := Jvm.Cond.code x code maxLocals ret :: tables_1) hat d (List.mem_cons_of_mem _ hd)
  obtain ⟨i0, ei0⟩ := isL_v ga0
  obtain rfl : w0 = (.long i0) := Option.some.inj ei0
  obtain ⟨i1, ei1⟩ := isL_v ga1
  obtain rfl : w1 = (.long i1) := Option.some.inj ei1
  obtain ⟨i2, ei2⟩ := is_v ga2
  obtain rfl : w2 = (.int i2) := Option.some.inj ei2
  obtain ⟨i3, ei3⟩ := is_v ga3
  obtain rfl : w3 = (.int i3) := Option.some.inj ei3
  obtain ⟨n, o, h1, h2, h3, _, L, rfl, ⟨rfl, N⟩, hq⟩ := rm0 l s _ hw tables_1 i0 i1 i2 i3 s.heap s.heap.size (Nat.le_refl _)  p e ha hc hk s m _ below hf ((Spec.applies_iff_loose hf).mp happ).1 ⟨rfl, State.Warmed39.refl s, rfl⟩ trivial
  refine ⟨n, _, h1, h2, h3, hpost _ _ _ _ _ _ ⟨Cond.after_iff.mpr rfl, Cond.after_iff.mpr (eq_i res_at (Term.int_eval (1)) rfl), trivial⟩ ⟨hq.1, hq.2.1, (hq.2.2.sift fun y hy => Or.inr (N y hy)).mono (by decide) (by decide)⟩⟩
theorem main_1_1 : Claimed_1_1 := comes_1 fun _ _ _ _ _ _ h hF => ⟨h.1, hF⟩
theorem main_1_2 : Claimed_1_2 := comes_1 fun _ _ _ _ _ _ h hF => ⟨h.2.1, hF⟩
end Jvm.Pilot.@@N@@
namespace Jvm.Pilot.@@N@@
open Jvm Jvm.ClassFile Sem Op Lib Jvm.Free Jvm.Stand Jvm.Pilot.@@N@@.Jvm.D
/-! MADE BY PROGRAM (witnessworld.py) out of the Statement's table words and the real class files: 10 classes; the members and pool entries that the words name. The judged class is class 1, her method 1. -/
namespace start1
open Jvm.ClassFile
def u (s : String) : CpInfo := .utf8 (stringToUtf16 s)
/-- a pool by its gaps: so many unusable entries, then the entry; so many at the end -/
def gap : Nat → List CpInfo → List CpInfo
  | 0, r => r
  | n + 1, r => .unusable :: gap n r
def poolList (es : List (Nat × CpInfo)) (last : Nat) : List CpInfo := es.foldr (fun e r => gap e.1 (e.2 :: r)) (gap last [])
def pool (es : List (Nat × CpInfo)) (last : Nat) : Array CpInfo := ⟨poolList es last⟩
def fileOf (pool : Array CpInfo) (this : Nat) (attrs : Array Attribute := #[]) (ms : Array MethodInfo := #[]) (fl : Nat := 33) (sup : Nat := 0) (ifs : Array Nat := #[]) (fds : Array FieldInfo := #[]) : ClassFile where
  minorVersion := 0
  majorVersion := 65
  constantPool := pool
  accessFlags := fl
  thisClass := this
  superClass := sup
  interfaces := ifs
  fields := fds
  methods := ms
  attributes := attrs
def plain (name : String) (sup : Option ClassId) : Class where
  name := name
  kind := .ordinary
  loader := none
  accessFlags := 33
  super := sup
  interfaces := #[]
  cf := none
  fields := #[]
  methods := #[]
  instanceTypes := #[]
  staticTypes := #[]
  resolved := #[]
  callSites := []
  init := .initialized
  statics := none
  mirror := none

def pool0 : Array CpInfo := pool [(5, u "<init>"), (0, u "()V"), (1, .class_ 10), (1, u "java/lang/Object")] 113

def k0c0 : Code := { maxStack := 0, maxLocals := 1, code := object_method_1_code, exceptionTable := #[], attributes := #[] }
def k0m0 : Method := { name := "<init>", desc := "()V", sig := { parameters := [], returnType := none }, accessFlags := 1, code := some k0c0 }
/-- java/lang/Object -/
def k0 : Class := { plain "java/lang/Object" none with
  accessFlags := 33
  interfaces := #[]
  cf := some (fileOf pool0 8 #[] #[{ accessFlags := 1, nameIndex := 5, descriptorIndex := 6, attributes := #[] }] 33 0 #[] #[])
  fields := #[]
  methods := #[k0m0]
  instanceTypes := #[]
  staticTypes := #[]
  resolved := Array.replicate 124 none
  statics := none }

def pool1 : Array CpInfo := pool [(2, .class_ 4), (1, u "java/lang/Object"), (0, u "<init>"), (0, u "()V"), (0, .class_ 8), (0, u "com/example/keelson/keelson/store/DiskSpaceUsagePercentPinLaw"), (0, .long 36028797018963967), (1, .class_ 12), (0, u "com/example/keelson/keelson/store/DiskSpace$Usage"), (0, .methodref 11 14), (0, .nameAndType 5 15), (0, u "(JJ)V"), (0, .methodref 11 17), (0, .nameAndType 18 19), (0, u "percent"), (0, u "()J"), (0, .long 100), (1, u "MASK"), (0, u "J"), (3, u "law"), (0, u "(JJII)Z")] 7

def k1m0 : Method := { name := "<init>", desc := "()V", sig := { parameters := [], returnType := none }, accessFlags := 1, code := none }
def k1c1 : Code := { maxStack := 6, maxLocals := 17, code := code, exceptionTable := #[], attributes := #[] }
def k1m1 : Method := { name := "law", desc := "(JJII)Z", sig := { parameters := [.long, .long, .int, .int], returnType := some .boolean }, accessFlags := 9, code := some k1c1 }
/-- com/example/keelson/keelson/store/DiskSpaceUsagePercentPinLaw -/
def k1 : Class := { plain "com/example/keelson/keelson/store/DiskSpaceUsagePercentPinLaw" (some 0) with
  accessFlags := 49
  interfaces := #[]
  cf := some (fileOf pool1 7 #[] #[{ accessFlags := 1, nameIndex := 5, descriptorIndex := 6, attributes := #[] }, { accessFlags := 9, nameIndex := 27, descriptorIndex := 28, attributes := #[] }] 49 2 #[] #[{ accessFlags := 26, nameIndex := 22, descriptorIndex := 23, attributes := #[] }])
  fields := #[{ name := "MASK", type := .long, accessFlags := 26, slot := 0, constantValue := 0 }]
  methods := #[k1m0, k1m1]
  instanceTypes := #[]
  staticTypes := #[.long]
  resolved := Array.replicate 36 none
  statics := none }

def pool2 : Array CpInfo := pool [(1, .methodref 2 3), (0, .class_ 4), (0, .nameAndType 5 6), (0, u "java/lang/Object"), (0, u "<init>"), (0, u "()V"), (0, .class_ 8), (0, u "java/lang/Record")] 13

def k2c0 : Code := { maxStack := 1, maxLocals := 1, code := jdk_30_method_1_code, exceptionTable := #[], attributes := #[] }
def k2m0 : Method := { name := "<init>", desc := "()V", sig := { parameters := [], returnType := none }, accessFlags := 4, code := some k2c0 }
/-- java/lang/Record -/
def k2 : Class := { plain "java/lang/Record" (some 0) with
  accessFlags := 1057
  interfaces := #[]
  cf := some (fileOf pool2 7 #[] #[{ accessFlags := 4, nameIndex := 5, descriptorIndex := 6, attributes := #[] }] 1057 2 #[] #[])
  fields := #[]
  methods := #[k2m0]
  instanceTypes := #[]
  staticTypes := #[]
  resolved := Array.replicate 22 none
  statics := none }

def pool3 : Array CpInfo := pool [(1, .methodref 2 3), (0, .class_ 4), (0, .nameAndType 5 6), (0, u "java/lang/Record"), (0, u "<init>"), (0, u "()V"), (0, .fieldref 8 9), (0, .class_ 10), (0, .nameAndType 11 12), (0, u "com/example/keelson/keelson/store/DiskSpace$Usage"), (0, u "used"), (0, u "J"), (0, .fieldref 8 14), (0, .nameAndType 15 12), (0, u "available"), (0, .long 100), (9, u "(JJ)V"), (18, u "percent"), (0, u "()J"), (8, .class_ 56), (0, u "com/example/keelson/keelson/store/DiskSpace")] 20

def k3c0 : Code := { maxStack := 3, maxLocals := 5, code := prog_119_method_1_code, exceptionTable := #[], attributes := #[] }
def k3m0 : Method := { name := "<init>", desc := "(JJ)V", sig := { parameters := [.long, .long], returnType := none }, accessFlags := 0, code := some k3c0 }
def k3c1 : Code := { maxStack := 4, maxLocals := 3, code := prog_119_method_3_code, exceptionTable := #[], attributes := #[] }
def k3m1 : Method := { name := "percent", desc := "()J", sig := { parameters := [], returnType := some .long }, accessFlags := 0, code := some k3c1 }
/-- com/example/keelson/keelson/store/DiskSpace$Usage -/
def k3 : Class := { plain "com/example/keelson/keelson/store/DiskSpace$Usage" (some 2) with
  accessFlags := 48
  interfaces := #[]
  cf := some (fileOf pool3 8 #[.nestHost 55] #[{ accessFlags := 0, nameIndex := 5, descriptorIndex := 26, attributes := #[] }, { accessFlags := 0, nameIndex := 45, descriptorIndex := 46, attributes := #[] }] 48 2 #[] #[{ accessFlags := 18, nameIndex := 11, descriptorIndex := 12, attributes := #[] }, { accessFlags := 18, nameIndex := 15, descriptorIndex := 12, attributes := #[] }])
  fields := #[{ name := "used", type := .long, accessFlags := 18, slot := 0, constantValue := 0 }, { name := "available", type := .long, accessFlags := 18, slot := 1, constantValue := 0 }]
  methods := #[k3m0, k3m1]
  instanceTypes := #[.long, .long]
  staticTypes := #[]
  resolved := Array.replicate 77 none
  statics := none }

def pool4 : Array CpInfo := pool [(1, u "java/lang/Cloneable"), (0, .class_ 1), (0, u "java/lang/Object"), (0, .class_ 3)] 3

/-- java/lang/Cloneable -/
def k4 : Class := { plain "java/lang/Cloneable" (some 0) with
  accessFlags := 1537
  interfaces := #[]
  cf := some (fileOf pool4 2 #[] #[] 1537 4 #[] #[])
  fields := #[]
  methods := #[]
  instanceTypes := #[]
  staticTypes := #[]
  resolved := Array.replicate 8 none
  statics := none }

def pool5 : Array CpInfo := pool [(1, u "java/io/Serializable"), (0, .class_ 1), (0, u "java/lang/Object"), (0, .class_ 3)] 3

/-- java/io/Serializable -/
def k5 : Class := { plain "java/io/Serializable" (some 0) with
  accessFlags := 1537
  interfaces := #[]
  cf := some (fileOf pool5 2 #[] #[] 1537 4 #[] #[])
  fields := #[]
  methods := #[]
  instanceTypes := #[]
  staticTypes := #[]
  resolved := Array.replicate 8 none
  statics := none }

/-- the primitive byte -/
def k6 : Class := { plain "byte" none with kind := .primitive 'B', accessFlags := 0x411 }
/-- [B -/
def k7 : Class := { plain "[B" (some 0) with kind := .array 6 .byte, interfaces := #[4, 5], accessFlags := 1041 }

/-- the primitive int -/
def k8 : Class := { plain "int" none with kind := .primitive 'I', accessFlags := 0x411 }
/-- [I -/
def k9 : Class := { plain "[I" (some 0) with kind := .array 8 .int, interfaces := #[4, 5], accessFlags := 1041 }

def heap : Heap := #[]
def classes : Array Class := #[k0, k1, k2, k3, k4, k5, k6, k7, k8, k9]
def interned : List (Array UInt16 × Addr) := []
def slotsUsed : Nat := 0
def theMethod : MethodId := ⟨1, 1⟩
def args0 : Array Value := #[.long 5, .long 6, .int 7, .int 8]
def aboutOver (below : List Frame) : State where
  vm := { classes := classes, interned := interned.toArray }
  heap := heap
  slotsUsed := slotsUsed
  threads := #[{ frames := .invoking theMethod args0 :: below }]
def below0 : List Frame := [.native { method := ⟨0, 0⟩, args := #[] }]
def about1 : State := aboutOver below0
def p0 : Program := .bare "" "" ""
def e0 : Env := launch0.env 0 0 0
theorem w_frames : about1.frames = Frame.invoking theMethod args0 :: below0 := rfl
set_option maxRecDepth 65536 in
theorem w_args : argsFit about1.vm theMethod args0 = true := by decide +kernel
set_option maxRecDepth 65536 in
theorem w_heap : heapFits about1 = true := by decide +kernel
set_option maxRecDepth 65536 in
theorem w_runnable : about1.curStatus? = some .runnable := by decide +kernel
set_option maxRecDepth 65536 in
theorem w_alone : about1.alone = true := by decide +kernel
set_option maxRecDepth 65536 in
theorem w_named : about1.methodNamed? x = some theMethod := by decide +kernel
set_option maxRecDepth 65536 in
theorem w_hears : about1.hears theMethod below0 = true := by decide +kernel
set_option maxRecDepth 65536 in
theorem w_ripe : about1.ripe theMethod args0 below0 = true := by decide +kernel
theorem w_running : about1.status = .running := rfl
set_option maxRecDepth 65536 in
theorem w_room : about1.hasRoom e0.platform room_1 = true :=
  launch0.hasRoom_least _ room_1 (by decide +kernel) (by decide +kernel) (by decide +kernel) (by decide +kernel) (by decide +kernel) (by decide +kernel)
theorem allAtoms_all (ts : List Jvm.Cond) (a : Array Jvm.Value) (st : Jvm.State) : (allAtoms ts).before a st = ts.all (fun c => c.before a st) := by
  induction ts with
  | nil => rfl
  | cons c t ih =>
    show (Jvm.Cond.and c (allAtoms t)).before a st = _
    rw [Jvm.Cond.before_and, ih, List.all_cons]
def words1 : List Jvm.Cond := Jvm.Cond.code x code maxLocals ret :: tables_1
/-- a 'code' word, met by the world's own term for the bytes: nothing is compared byte by byte -/
theorem code_word {y : MethodName} {bytes : ByteArray} {mx : Nat} {rt : Option FieldType} {a : Array Value} {s : State} {m : MethodId} {meth : Method} {c : Code} (h1 : s.methodNamed? y = some m) (h2 : s.vm.method? m = some meth) (h3 : meth.code = some c) (h4 : c.code = bytes)
    (h5 : (c.maxLocals == mx && c.exceptionTable.isEmpty && decide (c.maxStack ≤ mostOperands) && decide (meth.sig.returnType = rt) && !meth.locks && decide (parseMethodDescriptor y.desc = some meth.sig)) = true) : (Jvm.Cond.code y bytes mx rt).before a s = true := by
  simp only [Bool.and_eq_true, beq_iff_eq, Bool.not_eq_true', decide_eq_true_eq] at h5
  obtain ⟨⟨⟨⟨⟨g1, g2⟩, g3⟩, g4⟩, g5⟩, g6⟩ := h5
  simp [Cond.before, Cond.holds, Cond.value, h1, h2, h3, h4, g1, g2, g3, g4, g5, g6]
def isCode : Jvm.Cond → Bool
  | .code _ _ _ _ => true
  | _ => false
theorem all_split {L : List Jvm.Cond} {P : Jvm.Cond → Bool} (h1 : L.all (fun c => isCode c || P c) = true) (h2 : ∀ c ∈ L.filter isCode, P c = true) : L.all P = true := by
  refine List.all_eq_true.mpr fun c hc => ?_
  have h := List.all_eq_true.mp h1 c hc
  rcases Bool.eq_false_or_eq_true (isCode c) with hi | hi
  · exact h2 c (List.mem_filter.mpr ⟨hc, hi⟩)
  · simpa [hi] using h
set_option maxRecDepth 65536 in
theorem w_c0 : (Jvm.Cond.code x code maxLocals ret).before args0 about1 = true := code_word (m := ⟨1, 1⟩) (meth := k1m1) (c := k1c1) (by decide +kernel) rfl rfl rfl (by decide +kernel)
set_option maxRecDepth 65536 in
theorem w_c1 : (Jvm.Cond.code ({ cls := "com/example/keelson/keelson/store/DiskSpace$Usage", name := "<init>", desc := "(JJ)V" } : Jvm.MethodName) prog_119_method_1_code (5 : Nat) (Option.none : Option Jvm.ClassFile.FieldType)).before args0 about1 = true := code_word (m := ⟨3, 0⟩) (meth := k3m0) (c := k3c0) (by decide +kernel) rfl rfl rfl (by decide +kernel)
set_option maxRecDepth 65536 in
theorem w_c2 : (Jvm.Cond.code ({ cls := "java/lang/Record", name := "<init>", desc := "()V" } : Jvm.MethodName) jdk_30_method_1_code (1 : Nat) (Option.none : Option Jvm.ClassFile.FieldType)).before args0 about1 = true := code_word (m := ⟨2, 0⟩) (meth := k2m0) (c := k2c0) (by decide +kernel) rfl rfl rfl (by decide +kernel)
set_option maxRecDepth 65536 in
theorem w_c3 : (Jvm.Cond.code ({ cls := "java/lang/Object", name := "<init>", desc := "()V" } : Jvm.MethodName) object_method_1_code (1 : Nat) (Option.none : Option Jvm.ClassFile.FieldType)).before args0 about1 = true := code_word (m := ⟨0, 0⟩) (meth := k0m0) (c := k0c0) (by decide +kernel) rfl rfl rfl (by decide +kernel)
set_option maxRecDepth 65536 in
theorem w_c4 : (Jvm.Cond.code ({ cls := "com/example/keelson/keelson/store/DiskSpace$Usage", name := "percent", desc := "()J" } : Jvm.MethodName) prog_119_method_3_code (3 : Nat) (Option.some Jvm.ClassFile.FieldType.long)).before args0 about1 = true := code_word (m := ⟨3, 1⟩) (meth := k3m1) (c := k3c1) (by decide +kernel) rfl rfl rfl (by decide +kernel)
def codes1 : List Jvm.Cond := [Jvm.Cond.code x code maxLocals ret, Jvm.Cond.code ({ cls := "com/example/keelson/keelson/store/DiskSpace$Usage", name := "<init>", desc := "(JJ)V" } : Jvm.MethodName) prog_119_method_1_code (5 : Nat) (Option.none : Option Jvm.ClassFile.FieldType), Jvm.Cond.code ({ cls := "java/lang/Record", name := "<init>", desc := "()V" } : Jvm.MethodName) jdk_30_method_1_code (1 : Nat) (Option.none : Option Jvm.ClassFile.FieldType), Jvm.Cond.code ({ cls := "java/lang/Object", name := "<init>", desc := "()V" } : Jvm.MethodName) object_method_1_code (1 : Nat) (Option.none : Option Jvm.ClassFile.FieldType), Jvm.Cond.code ({ cls := "com/example/keelson/keelson/store/DiskSpace$Usage", name := "percent", desc := "()J" } : Jvm.MethodName) prog_119_method_3_code (3 : Nat) (Option.some Jvm.ClassFile.FieldType.long)]
set_option maxRecDepth 65536 in
theorem codes_eq : words1.filter isCode = codes1 := rfl
theorem w_codes : ∀ c ∈ words1.filter isCode, c.before args0 about1 = true := by
  rw [codes_eq]
  intro c hc
  simp only [codes1, List.mem_cons, List.not_mem_nil, or_false] at hc
  rcases hc with rfl | rfl | rfl | rfl | rfl
  · exact w_c0
  · exact w_c1
  · exact w_c2
  · exact w_c3
  · exact w_c4
set_option maxRecDepth 65536 in
theorem w_t1 : (words1.take 24).all (fun c => isCode c || c.before args0 about1) = true := by decide +kernel
set_option maxRecDepth 65536 in
theorem w_t2 : (words1.drop 24).all (fun c => isCode c || c.before args0 about1) = true := by decide +kernel
theorem w_tables : (allAtoms (Jvm.Cond.code x code maxLocals ret :: tables_1)).before args0 about1 = true := by
  rw [allAtoms_all]
  show words1.all (fun c => c.before args0 about1) = true
  refine all_split ?_ w_codes
  rw [← List.take_append_drop 24 words1, List.all_append, w_t1, w_t2]
  rfl
set_option maxRecDepth 65536 in
theorem w_case : (Jvm.Cond.and given_1 narrow_1).before args0 about1 = true := by decide +kernel
theorem w_applies : (headSpec (Jvm.Cond.code x code maxLocals ret :: tables_1) room_1).applies x e0.platform about1 = true :=
  (Spec.applies_iff w_frames).mpr ⟨w_running, w_runnable, w_alone, w_named, w_hears, w_ripe, w_room, w_tables⟩
theorem atStart : AtStart classFile x code maxLocals ret World_1 tables_1 room_1 Calls_1 rest_1 Pre_1 launch0 p0 e0 about1 theMethod args0 below0 :=
  ⟨lists_1, trivial, launch0.admits_env _ _ _, launch0.least_env, fairChoices_fair.cas, fairChoices_fair.clock, w_frames, w_args, w_heap, w_applies, trivial, trivial, w_case⟩
end start1
theorem witness_1 : WitnessClaimed_1 := ⟨start1.p0, start1.e0, start1.about1, start1.theMethod, start1.args0, start1.below0, start1.atStart⟩
end Jvm.Pilot.@@N@@
