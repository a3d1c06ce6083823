import JvmDerived
import JvmDerived.Pilot.@@N@@Statement
import JvmDerived.Pilot.@@N@@Code
set_option linter.unusedVariables false
set_option linter.unusedSimpArgs false
namespace Jvm.RoadKit
open Sem ClassFile Op Lib Jvm.Stand Jvm.Free Jvm.LawKit
section OwnGo
variable {p : Program} {l : Launch} {e : Env} {R : Room} {s : State} {m : MethodId} {args : Array Value} {below : List Frame} {meth : Method} {c : Code} {T T' : State} {locs : List Loc} {cells slots : Nat} {Z : State} {a0 : Array Value} {h h' : Heap}
/-- the walk comes to an end from here, and leaves what Q says -/
def Go (p : Program) (e : Env) (below : List Frame) (s : State) (Q : Option Value → Heap → List Loc → Prop) (nc ns : Nat) (T : State) (f : JFrame) : Prop :=
  ∃ s₂ o, Steps p.tables e below (T.setTop f) s₂ ∧ s₂.status = .running ∧ Ended s₂ below o ∧ ∃ v L, o = .returned v ∧ Q v s₂.heap L ∧ FrameEnd s o s₂ L nc ns
variable {Q : Option Value → Heap → List Loc → Prop} {nc ns : Nat}
theorem Go.of {f f' : JFrame} (k : ∀ t, Steps p.tables e below (T'.setTop f') t → Steps p.tables e below (T.setTop f) t) (g : Go p e below s Q nc ns T' f') : Go p e below s Q nc ns T f := by
  obtain ⟨s₂, o, h1, h2⟩ := g
  exact ⟨s₂, o, k _ h1, h2⟩
theorem Go.tr {f f' : JFrame} (k : Steps p.tables e below (T.setTop f) (T'.setTop f')) (g : Go p e below s Q nc ns T' f') : Go p e below s Q nc ns T f := by
  obtain ⟨s₂, o, h1, h2⟩ := g
  exact ⟨s₂, o, k.trans h1, h2⟩
theorem Go.cast {f f' : JFrame} (q : f = f') (g : Go p e below s Q nc ns T f') : Go p e below s Q nc ns T f := q ▸ g
theorem retI (X : Stand p l e R s m args below meth c T locs cells slots) (hx : p.tables.exec = Jvm.exec) {pc : Nat} {Ls : Array Slot} {z : Int32} {rest : List Value} (hret : meth.sig.returnType = some .int) (hd : decode c.code pc = .ok (.ireturn, 1)) {fs : List Frame}
    (hl : ∀ (f : JFrame) (acts : List Action), f.method = m → f.locked = none → f.entered = [] → (doReturn e (T.setTop f) acts (some (.int z))).1 = T.setFrames fs) : Steps p.tables e below (T.setTop (mkF m pc Ls (.int z :: rest))) (T.setFrames fs) :=
  retOut X hx hret rfl (Or.inl ⟨rfl, Or.inl rfl, _, rfl⟩) hd hl
theorem Go.end0 (X : Stand p l e R s m args below meth c T locs cells slots) (hk : meth.locks = false) {v : Option Value} (hv : meth.sig.returnType = none → v = none) {f : JFrame}
    (k : ∀ fs, (∀ (f : JFrame) (acts : List Action), f.method = m → f.locked = none → f.entered = [] → (doReturn e (T.setTop f) acts v).1 = T.setFrames fs) → Steps p.tables e below (T.setTop f) (T.setFrames fs))
    (hc : cells ≤ nc) (hs : slots ≤ ns) (hq : Q v T.heap locs) : Go p e below s Q nc ns T f := by
  obtain ⟨fs, hr, hrun, hended, hW, hsame⟩ := X.leave (v := v) hv
  exact ⟨_, _, k fs hr, hrun, hended, _, _, rfl, hq, ⟨_, rfl⟩, hW, hsame.mono hc hs⟩
theorem Go.retZ (X : Stand p l e R s m args below meth c T locs cells slots) (hx : p.tables.exec = Jvm.exec) (hk : meth.locks = false) {t : FieldType} (hret : meth.sig.returnType = some t) (ht : t = .boolean ∨ t = .byte ∨ t = .char ∨ t = .short) {pc : Nat} (hd : decode c.code pc = .ok (.ireturn, 1)) {Ls : Array Slot} {z : Int32} {rest : List Value}
    (hc : cells ≤ nc) (hs : slots ≤ ns) (hq : Q (some (.int (nar t z))) T.heap locs) : Go p e below s Q nc ns T (mkF m pc Ls (.int z :: rest)) :=
  Go.end0 X hk (fun q => by rw [hret] at q; cases q) (fun _ hr => retN X hx hret ht hd hr) hc hs hq
theorem Go.retI (X : Stand p l e R s m args below meth c T locs cells slots) (hx : p.tables.exec = Jvm.exec) (hk : meth.locks = false) (hret : meth.sig.returnType = some .int) {pc : Nat} (hd : decode c.code pc = .ok (.ireturn, 1)) {Ls : Array Slot} {z : Int32} {rest : List Value}
    (hc : cells ≤ nc) (hs : slots ≤ ns) (hq : Q (some (.int z)) T.heap locs) : Go p e below s Q nc ns T (mkF m pc Ls (.int z :: rest)) :=
  Go.end0 X hk (fun q => by rw [hret] at q; cases q) (fun _ hr => Jvm.RoadKit.retI X hx hret hd hr) hc hs hq
theorem Go.retJ (X : Stand p l e R s m args below meth c T locs cells slots) (hx : p.tables.exec = Jvm.exec) (hk : meth.locks = false) (hret : meth.sig.returnType = some .long) {pc : Nat} (hd : decode c.code pc = .ok (.lreturn, 1)) {Ls : Array Slot} {z : Int64} {rest : List Value}
    (hc : cells ≤ nc) (hs : slots ≤ ns) (hq : Q (some (.long z)) T.heap locs) : Go p e below s Q nc ns T (mkF m pc Ls (.long z :: rest)) :=
  Go.end0 X hk (fun q => by rw [hret] at q; cases q) (fun _ hr => retOut X hx hret rfl (Or.inr (Or.inl ⟨rfl, rfl, _, rfl⟩)) hd hr) hc hs hq
theorem Go.retA (X : Stand p l e R s m args below meth c T locs cells slots) (hx : p.tables.exec = Jvm.exec) (hk : meth.locks = false) {t : FieldType} (hret : meth.sig.returnType = some t) (ht : t.isReference = true) {pc : Nat} (hd : decode c.code pc = .ok (.areturn, 1)) {Ls : Array Slot} {a : Addr} {rest : List Value}
    (hc : cells ≤ nc) (hs : slots ≤ ns) (hq : Q (some (.ref a)) T.heap locs) : Go p e below s Q nc ns T (mkF m pc Ls (.ref a :: rest)) :=
  Go.end0 X hk (fun q => by rw [hret] at q; cases q) (fun _ hr => retOut X hx hret (by cases t <;> first | rfl | cases ht) (Or.inr (Or.inr (Or.inr (Or.inr ⟨rfl, ht, rfl⟩)))) hd hr) hc hs hq
theorem Go.retV (X : Stand p l e R s m args below meth c T locs cells slots) (hx : p.tables.exec = Jvm.exec) (hk : meth.locks = false) (hret : meth.sig.returnType = none) {pc : Nat} (hd : decode c.code pc = .ok (.return_, 1)) {Ls : Array Slot}
    (hc : cells ≤ nc) (hs : slots ≤ ns) (hq : Q none T.heap locs) : Go p e below s Q nc ns T (mkF m pc Ls []) :=
  Go.end0 X hk (fun _ => rfl) (fun _ hr => X.returnOut hx hret hd hr) hc hs hq
theorem lc_lt_t {x y : Int64} (q : x < y) : ifCond.holds .lt (lcmpW x y) = true := by rw [if0, lcW]; exact (tlt ((lc_lt x y).mpr q)).1
theorem lc_lt_f {x y : Int64} (q : ¬ x < y) : ifCond.holds .lt (lcmpW x y) = false := by rw [if0, lcW]; exact (flt (fun z => q ((lc_lt x y).mp z))).1
theorem lc_ge_f {x y : Int64} (q : x < y) : ifCond.holds .ge (lcmpW x y) = false := by rw [if0, lcW]; exact (tlt ((lc_lt x y).mpr q)).2.1
theorem lc_ge_t {x y : Int64} (q : ¬ x < y) : ifCond.holds .ge (lcmpW x y) = true := by rw [if0, lcW]; exact (flt (fun z => q ((lc_lt x y).mp z))).2.1
theorem lc_gt_t {x y : Int64} (q : y < x) : ifCond.holds .gt (lcmpW x y) = true := by rw [if0, lcW]; exact (tlt ((lc_gt x y).mpr q)).2.2.1
theorem lc_gt_f {x y : Int64} (q : ¬ y < x) : ifCond.holds .gt (lcmpW x y) = false := by rw [if0, lcW]; exact (flt (fun z => q ((lc_gt x y).mp z))).2.2.1
theorem lc_le_f {x y : Int64} (q : y < x) : ifCond.holds .le (lcmpW x y) = false := by rw [if0, lcW]; exact (tlt ((lc_gt x y).mpr q)).2.2.2
theorem lc_le_t {x y : Int64} (q : ¬ y < x) : ifCond.holds .le (lcmpW x y) = true := by rw [if0, lcW]; exact (flt (fun z => q ((lc_gt x y).mp z))).2.2.2
theorem lc_eq_t {x y : Int64} (q : x = y) : ifCond.holds .eq (lcmpW x y) = true := by rw [if0, lcW]; exact (teq ((lc_eq x y).mpr q)).1
theorem lc_eq_f {x y : Int64} (q : ¬ x = y) : ifCond.holds .eq (lcmpW x y) = false := by rw [if0, lcW]; exact (feq (fun z => q ((lc_eq x y).mp z))).1
theorem lc_ne_f {x y : Int64} (q : x = y) : ifCond.holds .ne (lcmpW x y) = false := by rw [if0, lcW]; exact (teq ((lc_eq x y).mpr q)).2
theorem lc_ne_t {x y : Int64} (q : ¬ x = y) : ifCond.holds .ne (lcmpW x y) = true := by rw [if0, lcW]; exact (feq (fun z => q ((lc_eq x y).mp z))).2
/-- an array of this kind that holds just these values -/
def VArr (Z : State) (h : Heap) (a : Addr) (ty : FieldType) (vs : List Value) : Prop := ∃ cl : Cell, Arr Z h a cl ty ∧ cl.slots = vs.toArray
variable {a b : Addr} {ty : FieldType} {vs : List Value} {sl : Nat} {v : Value} {ws : List Addr} {n : Int32}
theorem VArr.lt (F : VArr Z h a ty vs) : a < h.size := by obtain ⟨c, A, -⟩ := F; exact A.lt
theorem VArr.ext (F : VArr Z h a ty vs) (E : Ext h h') : VArr Z h' a ty vs := by obtain ⟨c, A, r⟩ := F; exact ⟨c, A.ext E, r⟩
theorem VArr.other (F : VArr Z h b ty vs) (W : Wr h h' a sl v) (q : b ≠ a) : VArr Z h' b ty vs := by obtain ⟨c, A, r⟩ := F; exact ⟨c, A.other W q, r⟩
theorem VArr.keep (F : VArr Z h a ty vs) (K : Keep h h' ws) (q : a ∉ ws) : VArr Z h' a ty vs := by obtain ⟨c, A, r⟩ := F; exact ⟨c, ⟨K.2.1 a c A.1 q, A.2⟩, r⟩
theorem VArr.new {k : ClassId} (A : Arr Z h a (newA k ty n) ty) : VArr Z h a ty (List.replicate n.toNatClampNeg (defaultValue ty)) := ⟨_, A, by simp [newA]⟩
theorem VArr.newL {k : ClassId} {i : Nat} (A : Arr Z h a (newA k ty n) ty) (hn : n.toNatClampNeg = i) : VArr Z h a ty (List.replicate i (defaultValue ty)) := hn ▸ VArr.new A
theorem VArr.wr (F : VArr Z h a ty vs) (W : Wr h h' a sl v) : VArr Z h' a ty (vs.set sl v) := by
  obtain ⟨c, A, r⟩ := F
  refine ⟨_, A.same W, ?_⟩
  show c.slots.setIfInBounds sl v = _
  rw [r]; simp
theorem VArr.inb {cl : Cell} {j : Int32} (r : cl.slots = vs.toArray) (hj : ¬ j < 0) (hi : j.toNatClampNeg < vs.length) : ¬ (j < 0 ∨ cl.slots.size ≤ j.toNatClampNeg) := by
  rw [r]; simp only [List.size_toArray]; rintro (q | q)
  · exact hj q
  · omega
theorem VArr.at {cl : Cell} {j : Int32} (r : cl.slots = vs.toArray) (hv : vs[j.toNatClampNeg]? = some v) : cl.slots[j.toNatClampNeg]? = some v := by rw [r]; simpa using hv
theorem lt_of_at {j : Nat} (hv : vs[j]? = some v) : j < vs.length := (List.getElem?_eq_some_iff.mp hv).1
theorem ldJ (X : Stand p l e R s m args below meth c T locs cells slots) (hx : p.tables.exec = Jvm.exec) (hZ : Z.Warmed39 s.vm) (eT : T.heap = h) (F : VArr Z h a .long vs) {j : Int32} {i : Nat} (hj : ¬ j < 0) (hji : j.toNatClampNeg = i) (hv : vs[i]? = some v)
    {g : JFrame} (hg : g.method = m) {rest : List Value} (hs : g.stack = .int j :: .ref a :: rest) (hd : decode c.code g.pc = .ok (.laload, 1)) (target : State)
    (hr : Steps p.tables e below (T.setTop { g with pc := g.pc + 1, stack := v :: rest }) target) : Steps p.tables e below (T.setTop g) target := by
  subst hji
  obtain ⟨cl, A, r⟩ := F
  exact X.laload hx (by rw [eT]; exact A.1) (State.isArrayOf_alike hZ.alike A.2.1) A.2.2 (VArr.inb r hj (lt_of_at hv)) (VArr.at r hv) hg hs hd target hr
theorem ldC (X : Stand p l e R s m args below meth c T locs cells slots) (hx : p.tables.exec = Jvm.exec) (hZ : Z.Warmed39 s.vm) (eT : T.heap = h) (F : VArr Z h a .char vs) {j : Int32} {i : Nat} (hj : ¬ j < 0) (hji : j.toNatClampNeg = i) (hv : vs[i]? = some v)
    {g : JFrame} (hg : g.method = m) {rest : List Value} (hs : g.stack = .int j :: .ref a :: rest) (hd : decode c.code g.pc = .ok (.caload, 1)) (target : State)
    (hr : Steps p.tables e below (T.setTop { g with pc := g.pc + 1, stack := v :: rest }) target) : Steps p.tables e below (T.setTop g) target := by
  subst hji
  obtain ⟨cl, A, r⟩ := F
  exact X.caload hx (by rw [eT]; exact A.1) (State.isArrayOf_alike hZ.alike A.2.1) A.2.2 (VArr.inb r hj (lt_of_at hv)) (VArr.at r hv) hg hs hd target hr
theorem ldB (X : Stand p l e R s m args below meth c T locs cells slots) (hx : p.tables.exec = Jvm.exec) (hZ : Z.Warmed39 s.vm) (eT : T.heap = h) (F : VArr Z h a .byte vs) {j : Int32} {i : Nat} (hj : ¬ j < 0) (hji : j.toNatClampNeg = i) (hv : vs[i]? = some v)
    {g : JFrame} (hg : g.method = m) {rest : List Value} (hs : g.stack = .int j :: .ref a :: rest) (hd : decode c.code g.pc = .ok (.baload, 1)) (target : State)
    (hr : Steps p.tables e below (T.setTop { g with pc := g.pc + 1, stack := v :: rest }) target) : Steps p.tables e below (T.setTop g) target := by
  subst hji
  obtain ⟨cl, A, r⟩ := F
  exact X.baloadBytes hx (by rw [eT]; exact A.1) (State.isArrayOf_alike hZ.alike A.2.1) A.2.2 (VArr.inb r hj (lt_of_at hv)) (VArr.at r hv) hg hs hd target hr
theorem lenV (X : Stand p l e R s m args below meth c T locs cells slots) (hx : p.tables.exec = Jvm.exec) (hZ : Z.Warmed39 s.vm) (eT : T.heap = h) (F : VArr Z h a ty vs) (hn : vs.length.toInt32 = n)
    {g : JFrame} (hg : g.method = m) {rest : List Value} (hs : g.stack = .ref a :: rest) (hd : decode c.code g.pc = .ok (.arraylength, 1)) (target : State)
    (hr : Steps p.tables e below (T.setTop { g with pc := g.pc + 1, stack := .int n :: rest }) target) : Steps p.tables e below (T.setTop g) target := by
  obtain ⟨cl, A, r⟩ := F
  refine X.arraylength hx (by rw [eT]; exact A.1) (State.isArrayOf_alike hZ.alike A.2.1) hg hs hd target ?_
  have q : cl.slots.size.toInt32 = n := by rw [r, ← hn]; simp
  rw [q]; exact hr
theorem saJ (X : Stand p l e R s m args below meth c T locs cells slots) (hx : p.tables.exec = Jvm.exec) (hZ : Z.Warmed39 s.vm) (eT : T.heap = h) (F : VArr Z h a .long vs) {j : Int32} {x : Int64} {i : Nat} (hj : ¬ j < 0) (hji : j.toNatClampNeg = i) (hi : i < vs.length)
    {g : JFrame} (hg : g.method = m) {rest : List Value} (hs : g.stack = .long x :: .int j :: .ref a :: rest) (hd : decode c.code g.pc = .ok (.lastore, 1)) :
    ∃ T' h', Stand p l e R s m args below meth c T' (locs ++ [⟨a, j.toNatClampNeg⟩]) cells slots ∧ T'.heap = h' ∧ Wr h h' a j.toNatClampNeg (.long x) ∧ VArr Z h' a .long (vs.set i (.long x)) ∧ ∀ target, Steps p.tables e below (T'.setTop { g with pc := g.pc + 1, stack := rest }) target → Steps p.tables e below (T.setTop g) target := by
  subst hji
  obtain ⟨cl, A, r⟩ := F
  obtain ⟨T', h', X', e', W, st⟩ := stJ X hx hZ eT A (x := x) (VArr.inb r hj hi) hg hs hd
  exact ⟨T', h', X', e', W, VArr.wr ⟨cl, A, r⟩ W, st⟩
theorem saC (X : Stand p l e R s m args below meth c T locs cells slots) (hx : p.tables.exec = Jvm.exec) (hZ : Z.Warmed39 s.vm) (eT : T.heap = h) (F : VArr Z h a .char vs) {j : Int32} {x : Int32} {i : Nat} (hj : ¬ j < 0) (hji : j.toNatClampNeg = i) (hi : i < vs.length)
    {g : JFrame} (hg : g.method = m) {rest : List Value} (hs : g.stack = .int x :: .int j :: .ref a :: rest) (hd : decode c.code g.pc = .ok (.castore, 1)) :
    ∃ T' h', Stand p l e R s m args below meth c T' (locs ++ [⟨a, j.toNatClampNeg⟩]) cells slots ∧ T'.heap = h' ∧ Wr h h' a j.toNatClampNeg (.int (nar .char x)) ∧ VArr Z h' a .char (vs.set i (.int (nar .char x))) ∧ ∀ target, Steps p.tables e below (T'.setTop { g with pc := g.pc + 1, stack := rest }) target → Steps p.tables e below (T.setTop g) target := by
  subst hji
  obtain ⟨cl, A, r⟩ := F
  obtain ⟨T', h', X', e', W, st⟩ := stC X hx hZ eT A (x := x) (VArr.inb r hj hi) hg hs hd
  exact ⟨T', h', X', e', W, VArr.wr ⟨cl, A, r⟩ W, st⟩
theorem saB (X : Stand p l e R s m args below meth c T locs cells slots) (hx : p.tables.exec = Jvm.exec) (hZ : Z.Warmed39 s.vm) (eT : T.heap = h) (F : VArr Z h a .byte vs) {j : Int32} {x : Int32} {i : Nat} (hj : ¬ j < 0) (hji : j.toNatClampNeg = i) (hi : i < vs.length)
    {g : JFrame} (hg : g.method = m) {rest : List Value} (hs : g.stack = .int x :: .int j :: .ref a :: rest) (hd : decode c.code g.pc = .ok (.bastore, 1)) :
    ∃ T' h', Stand p l e R s m args below meth c T' (locs ++ [⟨a, j.toNatClampNeg⟩]) cells slots ∧ T'.heap = h' ∧ Wr h h' a j.toNatClampNeg (.int (nar .byte x)) ∧ VArr Z h' a .byte (vs.set i (.int (nar .byte x))) ∧ ∀ target, Steps p.tables e below (T'.setTop { g with pc := g.pc + 1, stack := rest }) target → Steps p.tables e below (T.setTop g) target := by
  subst hji
  obtain ⟨cl, A, r⟩ := F
  obtain ⟨T', h', X', e', W, st⟩ := stB X hx hZ eT A (x := x) (VArr.inb r hj hi) hg hs hd
  exact ⟨T', h', X', e', W, VArr.wr ⟨cl, A, r⟩ W, st⟩
end OwnGo
end Jvm.RoadKit
namespace Jvm.Pilot.@@N@@
open Jvm Jvm.ClassFile Sem Op Lib Jvm.Free Jvm.Stand Jvm.LawKit Jvm.RoadKit Bundle Jvm.Pilot.@@N@@.Jvm.D
def wordI (i : Int64) (w : Int32) : Int32 := ((((i * (w.toInt64)).toUInt64 >>> ((6 : Int32) &&& 0x3f).toInt64.toUInt64).toInt64).toInt32)
def shI (i : Int64) (w : Int32) : Int32 := (((i * (w.toInt64)).toInt32) &&& (63 : Int32))
def getV (i : Int64) (w : Int32) (mk a0 a1 : Int64) : Int64 := (if (64 : Int32) < shI i w + w then ((a0.toUInt64 >>> (shI i w &&& 0x3f).toInt64.toUInt64).toInt64) ||| (a1 <<< (((64 : Int32) - shI i w) &&& 0x3f).toInt64) else ((a0.toUInt64 >>> (shI i w &&& 0x3f).toInt64.toUInt64).toInt64)) &&& mk
def set0 (i : Int64) (w : Int32) (mk v a0 : Int64) : Int64 := (a0 &&& ((mk <<< (shI i w &&& 0x3f).toInt64) ^^^ (-1 : Int64))) ||| ((v &&& mk) <<< (shI i w &&& 0x3f).toInt64)
def set1 (i : Int64) (w : Int32) (mk v a1 : Int64) : Int64 := (a1 &&& (((mk.toUInt64 >>> (((64 : Int32) - shI i w) &&& 0x3f).toInt64.toUInt64).toInt64) ^^^ (-1 : Int64))) ||| (((v &&& mk).toUInt64 >>> (((64 : Int32) - shI i w) &&& 0x3f).toInt64.toUInt64).toInt64)
def setW (i : Int64) (w : Int32) (mk v : Int64) (ws : List Int64) (a0 a1 : Int64) : List Int64 := if (64 : Int32) < shI i w + w then (ws.set (wordI i w).toNatClampNeg (set0 i w mk v a0)).set (wordI i w + 1).toNatClampNeg (set1 i w mk v a1) else ws.set (wordI i w).toNatClampNeg (set0 i w mk v a0)
theorem atmap {ws : List Int64} {i : Nat} {a : Int64} (h : ws[i]? = some a) : (ws.map Value.long)[i]? = some (.long a) := by rw [List.getElem?_map, h]; rfl
theorem atmap2 {ws : List Int64} {i j : Nat} {a : Int64} {v : Value} (hij : i ≠ j) (h : ws[j]? = some a) : ((ws.map Value.long).set i v)[j]? = some (.long a) := by rw [List.getElem?_set_ne hij]; exact atmap h
/-- the n-th bit of an array of words -/
def bitAt (ws : List Int64) (n : Nat) : Bool := (ws.getD (n / 64) 0).toBitVec.getLsbD (n % 64)
theorem own_sh6 : ∀ s : Fin 64, ((Int32.ofNat s.1 &&& 0x3f).toInt64.toUInt64).toBitVec % 64 = BitVec.ofNat 64 s.1 ∧ ((Int32.ofNat s.1 &&& 0x3f).toInt64).toBitVec.smod 64 = BitVec.ofNat 64 s.1 := by decide +kernel
theorem own_ushr {y : Int32} {s : Nat} (hs : s < 64) (hy : y = Int32.ofNat s) (x : Int64) : ((x.toUInt64 >>> (y &&& 0x3f).toInt64.toUInt64).toInt64).toBitVec = x.toBitVec >>> s := by
  subst hy
  show (x.toUInt64 >>> (Int32.ofNat s &&& 0x3f).toInt64.toUInt64).toBitVec = _
  rw [UInt64.toBitVec_shiftRight, (own_sh6 ⟨s, hs⟩).1, BitVec.ushiftRight_eq', BitVec.toNat_ofNat, Nat.mod_eq_of_lt (by omega)]
  rfl
theorem own_shl {y : Int32} {s : Nat} (hs : s < 64) (hy : y = Int32.ofNat s) (x : Int64) : (x <<< (y &&& 0x3f).toInt64).toBitVec = x.toBitVec <<< s := by
  subst hy
  rw [Int64.toBitVec_shiftLeft, (own_sh6 ⟨s, hs⟩).2, BitVec.shiftLeft_eq', BitVec.toNat_ofNat, Nat.mod_eq_of_lt (by omega)]
theorem own_W (x : Int32) : ∃ wn : Nat, 1 ≤ wn ∧ wn ≤ 64 ∧ (x &&& 63) + 1 = Int32.ofNat wn := by
  have h : (x &&& 63).toBitVec.toNat < 64 := by rw [Int32.toBitVec_and, BitVec.toNat_and]; exact Nat.lt_succ_of_le Nat.and_le_right
  have e : x &&& 63 = Int32.ofNat (x &&& 63).toBitVec.toNat := by
    apply Int32.toBitVec_inj.mp
    apply BitVec.eq_of_toNat_eq
    show _ = (BitVec.ofNat 32 _).toNat
    simp
  have key : ∀ n : Fin 64, Int32.ofNat n.1 + 1 = Int32.ofNat (n.1 + 1) := by decide +kernel
  generalize (x &&& 63).toBitVec.toNat = m at *
  exact ⟨m + 1, by omega, by omega, by rw [e]; exact key ⟨_, h⟩⟩
theorem own_bitI0 : ∀ q : Fin 66, ∀ r : Fin 64, (((Int64.ofNat (64 * q.1 + r.1)).toUInt64 >>> ((6 : Int32) &&& 0x3f).toInt64.toUInt64).toInt64).toInt32 = Int32.ofNat q.1 ∧ ((Int64.ofNat (64 * q.1 + r.1)).toInt32 &&& (63 : Int32)) = Int32.ofNat r.1 := by decide +kernel
theorem own_bitI (B : Nat) (hB : B < 4224) : (((Int64.ofNat B).toUInt64 >>> ((6 : Int32) &&& 0x3f).toInt64.toUInt64).toInt64).toInt32 = Int32.ofNat (B / 64) ∧ ((Int64.ofNat B).toInt32 &&& (63 : Int32)) = Int32.ofNat (B % 64) := by
  have h := own_bitI0 ⟨B / 64, by omega⟩ ⟨B % 64, by omega⟩
  have e : 64 * (B / 64) + B % 64 = B := Nat.div_add_mod B 64
  simp only [e] at h
  exact h
theorem own_mulI {a wn : Nat} (ha : a < 128) (hw : wn ≤ 64) : Int64.ofNat a * (Int32.ofNat wn).toInt64 = Int64.ofNat (a * wn) := by
  have k : ∀ n : Fin 65, (Int32.ofNat n.1).toInt64 = Int64.ofNat n.1 := by decide +kernel
  rw [k ⟨wn, by omega⟩, Int64.ofNat_mul]
theorem own_word {a wn : Nat} (ha : a < 128) (hw : wn ≤ 64) (hB : a * wn < 4224) : wordI (Int64.ofNat a) (Int32.ofNat wn) = Int32.ofNat (a * wn / 64) ∧ shI (Int64.ofNat a) (Int32.ofNat wn) = Int32.ofNat (a * wn % 64) := by
  unfold wordI shI
  rw [own_mulI ha hw]
  exact own_bitI _ hB
theorem own_lt64 : ∀ s : Fin 64, ∀ w : Fin 65, ((64 : Int32) < Int32.ofNat s.1 + Int32.ofNat w.1) ↔ 64 < s.1 + w.1 := by decide +kernel
theorem own_inv : ∀ s : Fin 65, (64 : Int32) - Int32.ofNat s.1 = Int32.ofNat (64 - s.1) := by decide +kernel
theorem own_clamp : ∀ s : Fin 70, (Int32.ofNat s.1).toNatClampNeg = s.1 ∧ ¬ Int32.ofNat s.1 < 0 ∧ Int32.ofNat s.1 + 1 = Int32.ofNat (s.1 + 1) := by decide +kernel
/-- the mask of a width -/
def maskOf (w : Int32) : Int64 := (((-1 : Int64).toUInt64 >>> (((64 : Int32) - w) &&& 0x3f).toInt64.toUInt64).toInt64)
theorem own_mask {wn : Nat} (h1 : 1 ≤ wn) (h2 : wn ≤ 64) (k : Nat) : (maskOf (Int32.ofNat wn)).toBitVec.getLsbD k = decide (k < wn) := by
  unfold maskOf
  rw [own_ushr (s := 64 - wn) (by omega) (own_inv ⟨wn, by omega⟩), BitVec.getLsbD_ushiftRight]
  have : (-1 : Int64).toBitVec = BitVec.allOnes 64 := by decide
  rw [this, BitVec.getLsbD_allOnes]
  congr 1; apply propext; omega
theorem own_getbits {a wn : Nat} (h1 : 1 ≤ wn) (h2 : wn ≤ 64) (ha : a < 128) (hB : a * wn < 4224) {ws : List Int64} {a0 a1 : Int64} (hw0 : ws[a * wn / 64]? = some a0) (hw1 : 64 < a * wn % 64 + wn → ws[a * wn / 64 + 1]? = some a1) (k : Nat) :
    (getV (Int64.ofNat a) (Int32.ofNat wn) (maskOf (Int32.ofNat wn)) a0 a1).toBitVec.getLsbD k = (decide (k < wn) && bitAt ws (a * wn + k)) := by
  unfold getV
  rw [(own_word ha h2 hB).2]
  generalize hs : a * wn % 64 = s at *
  have hs64 : s < 64 := by omega
  by_cases hc : 64 < s + wn
  · rw [if_pos ((own_lt64 ⟨s, hs64⟩ ⟨wn, by omega⟩).mpr hc), Int64.toBitVec_and, Int64.toBitVec_or, own_ushr hs64 rfl, own_shl (s := 64 - s) (by omega) (own_inv ⟨s, by omega⟩), BitVec.getLsbD_and, own_mask h1 h2, BitVec.getLsbD_or, BitVec.getLsbD_ushiftRight, BitVec.getLsbD_shiftLeft]
    by_cases hk : k < wn
    · simp only [hk, decide_true, Bool.and_true, Bool.true_and]
      unfold bitAt
      by_cases hsk : s + k < 64
      · have e1 : (a * wn + k) / 64 = a * wn / 64 := by omega
        have e2 : (a * wn + k) % 64 = s + k := by omega
        rw [e1, e2, List.getD_eq_getElem?_getD, hw0]
        have : (decide (k < 64 - s)) = true := by simp; omega
        simp [this]
      · have e1 : (a * wn + k) / 64 = a * wn / 64 + 1 := by omega
        have e2 : (a * wn + k) % 64 = k - (64 - s) := by omega
        rw [e1, e2, List.getD_eq_getElem?_getD, hw1 hc, BitVec.getLsbD_of_ge _ _ (by omega : 64 ≤ s + k)]
        have t1 : (decide (k < 64)) = true := by simp; omega
        have t2 : (decide (k < 64 - s)) = false := by simp; omega
        simp [t1, t2]
    · simp [hk]
  · rw [if_neg (fun q => hc ((own_lt64 ⟨s, hs64⟩ ⟨wn, by omega⟩).mp q)), Int64.toBitVec_and, own_ushr hs64 rfl, BitVec.getLsbD_and, own_mask h1 h2, BitVec.getLsbD_ushiftRight]
    by_cases hk : k < wn
    · simp only [hk, decide_true, Bool.and_true, Bool.true_and]
      unfold bitAt
      have e1 : (a * wn + k) / 64 = a * wn / 64 := by omega
      have e2 : (a * wn + k) % 64 = s + k := by omega
      rw [e1, e2, List.getD_eq_getElem?_getD, hw0]
      simp
    · simp [hk]
theorem own_and1 (x : Int64) {y : Int32} {s : Nat} (hs : s < 64) (hy : y = Int32.ofNat s) : (((x.toUInt64 >>> (y &&& 0x3f).toInt64.toUInt64).toInt64) &&& (1 : Int64)) = if x.toBitVec.getLsbD s then 1 else 0 := by
  apply Int64.toBitVec_inj.mp
  rw [Int64.toBitVec_and, own_ushr hs hy]
  apply BitVec.eq_of_getLsbD_eq
  intro i hi
  have h1 : (1 : Int64).toBitVec = 1#64 := rfl
  rw [BitVec.getLsbD_and, BitVec.getLsbD_ushiftRight, h1, BitVec.getLsbD_one]
  by_cases hi0 : i = 0
  · subst hi0
    by_cases hb : x.toBitVec.getLsbD s
    · simp [hb, h1]
    · simp [hb]
  · by_cases hb : x.toBitVec.getLsbD s
    · simp [hb, h1, hi0]
    · simp [hb, hi0]
def rdW (ws : List Int64) (j : Int32) : Int64 := ws.getD j.toNatClampNeg 0
def lowV (w : Int32) : Int64 := if w = 64 then -1 else ((1 : Int64) <<< (w &&& 0x3f).toInt64) - 1
theorem own_low {wn : Nat} (h1 : 1 ≤ wn) (h2 : wn ≤ 64) : lowV (Int32.ofNat wn) = maskOf (Int32.ofNat wn) := by
  have k : ∀ n : Fin 64, lowV (Int32.ofNat (n.1 + 1)) = maskOf (Int32.ofNat (n.1 + 1)) := by decide +kernel
  have := k ⟨wn - 1, by omega⟩
  rwa [show wn - 1 + 1 = wn by omega] at this
theorem own_room {n wn : Nat} (hn : n < 64) (h2 : wn ≤ 64) (h1 : 1 ≤ wn) : n * wn < 4224 ∧ n * wn / 64 < wn ∧ (64 < n * wn % 64 + wn → n * wn / 64 + 1 < wn) := by
  have h : n * wn ≤ 63 * wn := Nat.mul_le_mul_right _ (by omega)
  refine ⟨by omega, by omega, fun q => ?_⟩
  omega
theorem own_pre {n wn : Nat} (hn : n < 64) (h1 : 1 ≤ wn) (h2 : wn ≤ 64) {I : Int64} (hI : I = Int64.ofNat n) {W : Int32} (hW : W = Int32.ofNat wn) {ws : List Int64} (hl : ws.length = wn) :
    ¬ wordI I W < 0 ∧ ws[(wordI I W).toNatClampNeg]? = some (rdW ws (wordI I W)) ∧ ((64 : Int32) < shI I W + W → ¬ (wordI I W + 1) < 0 ∧ (wordI I W).toNatClampNeg ≠ (wordI I W + 1).toNatClampNeg ∧ ws[(wordI I W + 1).toNatClampNeg]? = some (rdW ws (wordI I W + 1))) := by
  subst hI hW
  obtain ⟨r1, r2, r3⟩ := own_room hn h2 h1
  obtain ⟨e1, e2⟩ := own_word (a := n) (wn := wn) (by omega) h2 r1
  rw [e1, e2]
  obtain ⟨c1, c2, c3⟩ := own_clamp ⟨n * wn / 64, by omega⟩
  simp only [] at c1 c2 c3
  refine ⟨c2, ?_, fun q => ?_⟩
  · rw [rdW, c1, List.getD_eq_getElem?_getD, List.getElem?_eq_getElem (by omega)]; rfl
  · have q' := (own_lt64 ⟨n * wn % 64, by omega⟩ ⟨wn, by omega⟩).mp q
    have r := r3 q'
    obtain ⟨d1, d2, d3⟩ := own_clamp ⟨n * wn / 64 + 1, by omega⟩
    simp only [] at d1 d2 d3
    rw [c3]
    refine ⟨d2, by rw [c1, d1]; omega, ?_⟩
    rw [rdW, d1, List.getD_eq_getElem?_getD, List.getElem?_eq_getElem (by omega)]; rfl
theorem own_set0 {s wn : Nat} (hs : s < 64) (h1 : 1 ≤ wn) (h2 : wn ≤ 64) {i : Int64} {W : Int32} (hW : W = Int32.ofNat wn) (hS : shI i W = Int32.ofNat s) (v a0 : Int64) {r : Nat} (hr : r < 64) :
    (set0 i W (maskOf W) v a0).toBitVec.getLsbD r = if s ≤ r ∧ r < s + wn then v.toBitVec.getLsbD (r - s) else a0.toBitVec.getLsbD r := by
  subst hW
  have hm : (-1 : Int64).toBitVec = BitVec.allOnes 64 := by decide
  rw [set0, Int64.toBitVec_or, Int64.toBitVec_and, Int64.toBitVec_xor, own_shl hs hS, own_shl hs hS, Int64.toBitVec_and, hm, BitVec.getLsbD_or, BitVec.getLsbD_and, BitVec.getLsbD_xor, BitVec.getLsbD_shiftLeft, BitVec.getLsbD_shiftLeft, BitVec.getLsbD_and, own_mask h1 h2, BitVec.getLsbD_allOnes]
  by_cases c1 : s ≤ r
  · by_cases c2 : r < s + wn
    · have t1 : r - s < wn := by omega
      have t2 : ¬ r < s := by omega
      simp [c1, c2, hr, t1, t2]
    · have t1 : ¬ r - s < wn := by omega
      have t2 : ¬ r < s := by omega
      simp [c1, c2, hr, t1, t2]
  · have t2 : r < s := by omega
    simp [c1, hr, t2]
theorem own_set1 {s wn : Nat} (hs : s < 64) (hs0 : 1 ≤ s) (h1 : 1 ≤ wn) (h2 : wn ≤ 64) {i : Int64} {W : Int32} (hW : W = Int32.ofNat wn) (hS : shI i W = Int32.ofNat s) (v a1 : Int64) {r : Nat} (hr : r < 64) :
    (set1 i W (maskOf W) v a1).toBitVec.getLsbD r = if r + (64 - s) < wn then v.toBitVec.getLsbD (r + (64 - s)) else a1.toBitVec.getLsbD r := by
  subst hW
  have hm : (-1 : Int64).toBitVec = BitVec.allOnes 64 := by decide
  have hI : (64 : Int32) - shI i (Int32.ofNat wn) = Int32.ofNat (64 - s) := by rw [hS]; exact own_inv ⟨s, by omega⟩
  rw [set1, Int64.toBitVec_or, Int64.toBitVec_and, Int64.toBitVec_xor, own_ushr (by omega) hI, own_ushr (by omega) hI, Int64.toBitVec_and, hm, BitVec.getLsbD_or, BitVec.getLsbD_and, BitVec.getLsbD_xor, BitVec.getLsbD_ushiftRight, BitVec.getLsbD_ushiftRight, BitVec.getLsbD_and, own_mask h1 h2, BitVec.getLsbD_allOnes, Nat.add_comm (64 - s) r]
  by_cases c1 : r + (64 - s) < wn
  · simp [c1, hr]
  · simp [c1, hr]
theorem own_bitset {ws : List Int64} {j : Nat} {x : Int64} (hj : j < ws.length) (n : Nat) : bitAt (ws.set j x) n = if n / 64 = j then x.toBitVec.getLsbD (n % 64) else bitAt ws n := by
  unfold bitAt
  rw [List.getD_eq_getElem?_getD, List.getD_eq_getElem?_getD]
  by_cases h : n / 64 = j
  · rw [if_pos h, h, List.getElem?_set_self hj]; rfl
  · rw [if_neg h, List.getElem?_set_ne (fun q => h q.symm)]
theorem own_set {n wn : Nat} (hn : n < 64) (h1 : 1 ≤ wn) (h2 : wn ≤ 64) {I : Int64} (hI : I = Int64.ofNat n) {W : Int32} (hW : W = Int32.ofNat wn) {ws : List Int64} (hl : ws.length = wn) (v : Int64) :
    (setW I W (maskOf W) v ws (rdW ws (wordI I W)) (rdW ws (wordI I W + 1))).length = wn ∧
    ∀ i k, i < 64 → k < wn → bitAt (setW I W (maskOf W) v ws (rdW ws (wordI I W)) (rdW ws (wordI I W + 1))) (i * wn + k) = if i = n then v.toBitVec.getLsbD k else bitAt ws (i * wn + k) := by
  obtain ⟨p1, p2, p3⟩ := own_pre hn h1 h2 hI hW hl
  obtain ⟨r1, r2, r3⟩ := own_room hn h2 h1
  have hI0 := hI
  have hW0 := hW
  subst hI hW
  obtain ⟨e1, e2⟩ := own_word (a := n) (wn := wn) (by omega) h2 r1
  obtain ⟨c1, c2, c3⟩ := own_clamp ⟨n * wn / 64, by omega⟩
  simp only [] at c1 c2 c3
  refine ⟨by unfold setW; split <;> simp [hl], fun i k hi hk => ?_⟩
  have hdis : i ≠ n → ¬ (n * wn ≤ i * wn + k ∧ i * wn + k < n * wn + wn) := by
    intro hne q
    rcases Nat.lt_or_gt_of_ne hne with c | c
    · have : (i + 1) * wn ≤ n * wn := Nat.mul_le_mul_right _ c
      rw [Nat.add_mul] at this; omega
    · have : (n + 1) * wn ≤ i * wn := Nat.mul_le_mul_right _ c
      rw [Nat.add_mul] at this; omega
  have hsame : i = n ↔ (n * wn ≤ i * wn + k ∧ i * wn + k < n * wn + wn) := ⟨fun q => by subst q; omega, fun q => Classical.byContradiction fun z => hdis z q⟩
  have hkk : i = n → k = i * wn + k - n * wn := fun q => by subst q; omega
  generalize hp : i * wn + k = p at *
  have goal2 : bitAt (setW (Int64.ofNat n) (Int32.ofNat wn) (maskOf (Int32.ofNat wn)) v ws (rdW ws (wordI (Int64.ofNat n) (Int32.ofNat wn))) (rdW ws (wordI (Int64.ofNat n) (Int32.ofNat wn) + 1))) p = if n * wn ≤ p ∧ p < n * wn + wn then v.toBitVec.getLsbD (p - n * wn) else bitAt ws p := by
    have hs64 : n * wn % 64 < 64 := by omega
    have hlow : rdW ws (wordI (Int64.ofNat n) (Int32.ofNat wn)) = ws.getD (n * wn / 64) 0 := by rw [e1, rdW, c1]
    unfold setW
    by_cases hc : (64 : Int32) < shI (Int64.ofNat n) (Int32.ofNat wn) + Int32.ofNat wn
    · rw [if_pos hc]
      have hc' : 64 < n * wn % 64 + wn := by rw [e2] at hc; exact (own_lt64 ⟨_, hs64⟩ ⟨wn, by omega⟩).mp hc
      have r3' := r3 hc'
      obtain ⟨d1, d2, d3⟩ := own_clamp ⟨n * wn / 64 + 1, by omega⟩
      simp only [] at d1 d2 d3
      have hhigh : rdW ws (wordI (Int64.ofNat n) (Int32.ofNat wn) + 1) = ws.getD (n * wn / 64 + 1) 0 := by rw [e1, c3, rdW, d1]
      have w1 : (wordI (Int64.ofNat n) (Int32.ofNat wn) + 1).toNatClampNeg = n * wn / 64 + 1 := by rw [e1, c3, d1]
      have w0 : (wordI (Int64.ofNat n) (Int32.ofNat wn)).toNatClampNeg = n * wn / 64 := by rw [e1, c1]
      rw [own_bitset (by rw [List.length_set, w1, hl]; exact r3'), own_bitset (by rw [w0, hl]; exact r2), w0, w1, hlow, hhigh]
      by_cases q1 : p / 64 = n * wn / 64 + 1
      · rw [if_pos q1, own_set1 hs64 (by omega) h1 h2 rfl e2 v _ (by omega)]
        by_cases q2 : p % 64 + (64 - n * wn % 64) < wn
        · rw [if_pos q2, if_pos (by omega)]; congr 1; omega
        · rw [if_neg q2, if_neg (by omega)]; unfold bitAt; rw [q1]
      · rw [if_neg q1]
        by_cases q0 : p / 64 = n * wn / 64
        · rw [if_pos q0, own_set0 hs64 h1 h2 rfl e2 v _ (by omega)]
          by_cases q2 : n * wn % 64 ≤ p % 64 ∧ p % 64 < n * wn % 64 + wn
          · rw [if_pos q2, if_pos (by omega)]; congr 1; omega
          · rw [if_neg q2, if_neg (by omega)]; unfold bitAt; rw [q0]
        · rw [if_neg q0, if_neg (by omega)]
    · rw [if_neg hc]
      have hc' : ¬ 64 < n * wn % 64 + wn := fun z => hc (by rw [e2]; exact (own_lt64 ⟨_, hs64⟩ ⟨wn, by omega⟩).mpr z)
      have w0 : (wordI (Int64.ofNat n) (Int32.ofNat wn)).toNatClampNeg = n * wn / 64 := by rw [e1, c1]
      rw [own_bitset (by rw [w0, hl]; exact r2), w0, hlow]
      by_cases q0 : p / 64 = n * wn / 64
      · rw [if_pos q0, own_set0 hs64 h1 h2 rfl e2 v _ (by omega)]
        by_cases q2 : n * wn % 64 ≤ p % 64 ∧ p % 64 < n * wn % 64 + wn
        · rw [if_pos q2, if_pos (by omega)]; congr 1; omega
        · rw [if_neg q2, if_neg (by omega)]; unfold bitAt; rw [q0]
      · rw [if_neg q0, if_neg (by omega)]
  rw [goal2]
  by_cases q : i = n
  · rw [if_pos q, if_pos (hsame.mp q), ← hkk q]
  · rw [if_neg q, if_neg (fun z => q (hsame.mpr z))]
theorem own_get {n wn : Nat} (hn : n < 64) (h1 : 1 ≤ wn) (h2 : wn ≤ 64) {I : Int64} (hI : I = Int64.ofNat n) {W : Int32} (hW : W = Int32.ofNat wn) {ws : List Int64} (hl : ws.length = wn) (x : Int64) (hx : ∀ k, k < wn → bitAt ws (n * wn + k) = x.toBitVec.getLsbD k) :
    getV I W (maskOf W) (rdW ws (wordI I W)) (rdW ws (wordI I W + 1)) = x &&& lowV W := by
  obtain ⟨p1, p2, p3⟩ := own_pre hn h1 h2 hI hW hl
  obtain ⟨r1, r2, r3⟩ := own_room hn h2 h1
  subst hI hW
  obtain ⟨e1, e2⟩ := own_word (a := n) (wn := wn) (by omega) h2 r1
  obtain ⟨c1, c2, c3⟩ := own_clamp ⟨n * wn / 64, by omega⟩
  simp only [] at c1 c2 c3
  rw [own_low h1 h2]
  apply Int64.toBitVec_inj.mp
  apply BitVec.eq_of_getLsbD_eq
  intro k hk
  rw [own_getbits (ws := ws) h1 h2 (by omega) r1 (by rw [e1, c1] at p2; rw [e1]; exact p2) (fun q => by
    obtain ⟨-, -, z⟩ := p3 (by rw [e2]; exact (own_lt64 ⟨_, by omega⟩ ⟨wn, by omega⟩).mpr q)
    obtain ⟨d1, d2, d3⟩ := own_clamp ⟨n * wn / 64 + 1, by have := r3 q; omega⟩
    simp only [] at d1 d2 d3
    rw [e1, c3, d1] at z; rw [e1, c3]; exact z) k, Int64.toBitVec_and, BitVec.getLsbD_and, own_mask h1 h2]
  by_cases q : k < wn
  · simp [q, hx k q]
  · simp [q]
theorem own_wf1 : ∀ n : Fin 64, ¬ Int32.ofNat (n.1 + 1) < 1 ∧ ¬ 64 < Int32.ofNat (n.1 + 1) ∧ (Int32.ofNat (n.1 + 1)).toInt64 ≠ 0 ∧ ¬ ((137438952896 : Int64) / (Int32.ofNat (n.1 + 1)).toInt64) < 64 ∧
    (((((64 : Int64) * ((Int32.ofNat (n.1 + 1)).toInt64)) + (64 : Int64)) - (1 : Int64)) / (64 : Int64)).toInt32 = Int32.ofNat (n.1 + 1) ∧ ¬ Int32.ofNat (n.1 + 1) < 0 ∧ (Int32.ofNat (n.1 + 1)).toNatClampNeg = n.1 + 1 := by decide +kernel
theorem own_wfS {wn : Nat} (h1 : 1 ≤ wn) (h2 : wn ≤ 64) {W : Int32} (hW : W = Int32.ofNat wn) : ¬ W < 1 ∧ ¬ 64 < W ∧ W.toInt64 ≠ 0 ∧ ¬ ((137438952896 : Int64) / W.toInt64) < 64 ∧
    (((((64 : Int64) * (W.toInt64)) + (64 : Int64)) - (1 : Int64)) / (64 : Int64)).toInt32 = W ∧ ¬ W < 0 ∧ W.toNatClampNeg = wn := by
  subst hW
  have := own_wf1 ⟨wn - 1, by omega⟩
  simp only [show wn - 1 + 1 = wn by omega] at this
  exact this
theorem own_ix0 : ∀ n : Fin 64, (Int32.ofNat n.1).toInt64 = Int64.ofNat n.1 ∧ ((Int32.ofNat n.1 + 63) &&& 63).toInt64 = Int64.ofNat ((n.1 + 63) % 64) ∧ ((Int32.ofNat n.1 + 1) &&& 63).toInt64 = Int64.ofNat ((n.1 + 1) % 64) ∧ ((Int32.ofNat n.1 + 32) &&& 63).toInt64 = Int64.ofNat ((n.1 + 32) % 64) := by decide +kernel
theorem own_ix (x : Int32) : ∃ a b c d : Nat, a < 64 ∧ b < 64 ∧ c < 64 ∧ d < 64 ∧ b ≠ a ∧ c ≠ a ∧ b ≠ c ∧ c ≠ b ∧ d ≠ a ∧ d ≠ b ∧ d ≠ c ∧ (x &&& 63).toInt64 = Int64.ofNat a ∧ (((x &&& 63) + 63) &&& 63).toInt64 = Int64.ofNat b ∧ (((x &&& 63) + 1) &&& 63).toInt64 = Int64.ofNat c ∧ (((x &&& 63) + 32) &&& 63).toInt64 = Int64.ofNat d := by
  have h : (x &&& 63).toBitVec.toNat < 64 := by rw [Int32.toBitVec_and, BitVec.toNat_and]; exact Nat.lt_succ_of_le Nat.and_le_right
  have e : x &&& 63 = Int32.ofNat (x &&& 63).toBitVec.toNat := by
    apply Int32.toBitVec_inj.mp
    apply BitVec.eq_of_toNat_eq
    show _ = (BitVec.ofNat 32 _).toNat
    simp
  generalize (x &&& 63).toBitVec.toNat = n at *
  rw [e]
  obtain ⟨k1, k2, k3, k4⟩ := own_ix0 ⟨n, h⟩
  exact ⟨n, (n + 63) % 64, (n + 1) % 64, (n + 32) % 64, h, by omega, by omega, by omega, by omega, by omega, by omega, by omega, by omega, by omega, by omega, k1, k2, k3, k4⟩
theorem own_zero {W : Int32} {wn : Nat} (hW : W.toNatClampNeg = wn) : (List.replicate (W).toNatClampNeg (0 : Int64)).length = wn ∧ ∀ n, bitAt (List.replicate (W).toNatClampNeg (0 : Int64)) n = false := by
  refine ⟨by rw [List.length_replicate, hW], fun n => ?_⟩
  unfold bitAt
  rw [List.getD_eq_getElem?_getD, List.getElem?_replicate]
  split <;> simp
theorem own_and0 (x : Int64) : (0 : Int64) &&& x = 0 := by
  apply Int64.toBitVec_inj.mp
  rw [Int64.toBitVec_and]; simp
theorem d1_0 : decode method_2_code 0 = .ok (.iload_n 0, 1) := by decide +kernel
theorem d1_1 : decode method_2_code 1 = .ok (.bipush 64, 2) := by decide +kernel
theorem d1_3 : decode method_2_code 3 = .ok (.if_icmp .ne 7, 3) := by decide +kernel
theorem d1_6 : decode method_2_code 6 = .ok (.ldc2_w 7, 3) := by decide +kernel
theorem d1_9 : decode method_2_code 9 = .ok (.lreturn, 1) := by decide +kernel
theorem d1_10 : decode method_2_code 10 = .ok (.lconst 1, 1) := by decide +kernel
theorem d1_11 : decode method_2_code 11 = .ok (.iload_n 0, 1) := by decide +kernel
theorem d1_12 : decode method_2_code 12 = .ok (.lshl, 1) := by decide +kernel
theorem d1_13 : decode method_2_code 13 = .ok (.lconst 1, 1) := by decide +kernel
theorem d1_14 : decode method_2_code 14 = .ok (.lsub, 1) := by decide +kernel
theorem d1_15 : decode method_2_code 15 = .ok (.lreturn, 1) := by decide +kernel
theorem pn_0 : plainName "com/example/bloom_filter_variants/bloomfiltervariants/PackedArraySetPinLaw" = true := by first | (simp [plainName, overriddenIn]; done) | decide +kernel
theorem ef_1 (m : MethodId) (x0 : Int32) : entryFrame m #[(.int x0)] 1 = mkF m 0 #[.val (.int x0)] [] := by first | (simp [entryFrame, mkF, argsToLocals, Value.category]; done) | rfl
def Q1 (Z : State) (x0 : Int32)  (h0 : Heap) (n0 : Nat) (v : Option Value) (h : Heap) (L : List Loc) : Prop := v = some (.long (lowV x0)) ∧ Fr n0 L ∧ h = h0
set_option maxRecDepth 65536 in
set_option maxHeartbeats 40000000 in
theorem rm1 (l : Launch) (Z : State) (a0 : Array Value) (hw : ∀ d ∈ tables_1, d.before a0 Z = true) (ws : List Jvm.Cond) (x0 : Int32)  (h0 : Heap) (n0 : Nat) (Z0 : n0 ≤ h0.size)  :
    MetFree l (⟨"com/example/bloom_filter_variants/bloomfiltervariants/PackedArraySetPinLaw", "lowBits", "(I)J"⟩ : MethodName) (head1 (Jvm.Cond.code (⟨"com/example/bloom_filter_variants/bloomfiltervariants/PackedArraySetPinLaw", "lowBits", "(I)J"⟩ : MethodName) method_2_code 1 (some .long) :: ws) ({ frames := 0, cells := 0, slots := 0, locals := 0 } : Room)) (fun a U => a = #[(.int x0)] ∧ Z.Warmed39 U.vm ∧ U.heap = h0) (fun _ _ _ _ _ => True) (fun _ U o U' => ∃ v L, o = .returned v ∧ Q1 Z x0 h0 n0 v U'.heap L ∧ FrameEnd U o U' L ({ frames := 0, cells := 0, slots := 0, locals := 0 } : Room).cells ({ frames := 0, cells := 0, slots := 0, locals := 0 } : Room).slots) := by
  refine MetFree.of_bodySF (plainFor_of_name pn_0) hisR ?_
  intro p e s m args below meth c s₁ Bd hml0 hP hK
  obtain ⟨rfl, hZ, hh⟩ := hP
  have hx := Bd.exec
  have hby := Bd.bytes
  have hml : c.maxLocals = 1 := hml0
  have hown : s.vm.findClass "com/example/bloom_filter_variants/bloomfiltervariants/PackedArraySetPinLaw" = some m.cls := findClass_of_methodNamed Bd.named
  have hnm := (name_of_methodNamed Bd.named Bd.method).1
  have hk : meth.locks = false := BodyLoose.notSynchronized Bd
  have X0 : Stand p l e ({ frames := 0, cells := 0, slots := 0, locals := 0 } : Room) s m #[(.int x0)] below meth c s₁ [] 0 0 := Stand.of_body Bd
  have e0 : s₁.heap = h0 := by rw [← hh, Bd.state]; rfl
  have N0 := Fr.nil n0
  show Go p e below s (Q1 Z x0 h0 n0) ({ frames := 0, cells := 0, slots := 0, locals := 0 } : Room).cells ({ frames := 0, cells := 0, slots := 0, locals := 0 } : Room).slots s₁ (entryFrame m #[(.int x0)] 1)
  refine Go.cast (ef_1 m x0) ?_
  refine Go.of (T' := s₁) (f' := (mkF m 1 #[.val (.int x0)] [(.int x0)])) (fun t k => XS.iloadN X0.here hx rfl (hb hby d1_0) rfl k) ?_
  refine Go.of (T' := s₁) (f' := (mkF m 3 #[.val (.int x0)] [(.int (64 : Int32)), (.int x0)])) (fun t k => XS.bipush X0.here hx rfl (hb hby d1_1) k) ?_
  by_cases hc3 : x0 = (64 : Int32)
  · -- pc 3: no
    refine Go.of (T' := s₁) (f' := (mkF m 6 #[.val (.int x0)] [])) (fun t k => XS.icmpNo X0.here hx rfl (hb hby d1_3) rfl ((teq hc3).2) k) ?_
    refine Go.of (T' := s₁) (f' := (mkF m 9 #[.val (.int x0)] [(.long (-1 : Int64))])) (fun t k => X0.ldc2Long hx hown (mvT hZ (hw _ (List.mem_of_getElem? (i := 39) rfl))) (g := (mkF m 6 #[.val (.int x0)] [])) rfl (hb hby d1_6) t k) ?_
    refine Go.retJ X0 hx hk Bd.returns (hb hby d1_9) (by decide) (by decide) ?_
    rw [e0]
    exact ⟨by rw [lowV, if_pos hc3], N0, rfl⟩
  · -- pc 3: yes
    refine Go.of (T' := s₁) (f' := (mkF m 10 #[.val (.int x0)] [])) (fun t k => XS.icmpYes X0.here hx rfl (pc0 := 3) (pc' := 10) rfl (hb hby d1_3) rfl ((feq hc3).2) (by decide) (by decide) k) ?_
    refine Go.of (T' := s₁) (f' := (mkF m 11 #[.val (.int x0)] [(.long (1 : Int64))])) (fun t k => XS.lconst X0.here hx rfl (hb hby d1_10) k) ?_
    refine Go.of (T' := s₁) (f' := (mkF m 12 #[.val (.int x0)] [(.int x0), (.long (1 : Int64))])) (fun t k => XS.iloadN X0.here hx rfl (hb hby d1_11) rfl k) ?_
    refine Go.of (T' := s₁) (f' := (mkF m 13 #[.val (.int x0)] [(.long ((1 : Int64) <<< (x0 &&& 0x3f).toInt64))])) (fun t k => XS.lshl X0.here hx rfl (hb hby d1_12) rfl k) ?_
    refine Go.of (T' := s₁) (f' := (mkF m 14 #[.val (.int x0)] [(.long (1 : Int64)), (.long ((1 : Int64) <<< (x0 &&& 0x3f).toInt64))])) (fun t k => XS.lconst X0.here hx rfl (hb hby d1_13) k) ?_
    refine Go.of (T' := s₁) (f' := (mkF m 15 #[.val (.int x0)] [(.long (((1 : Int64) <<< (x0 &&& 0x3f).toInt64) - (1 : Int64)))])) (fun t k => XS.lsub X0.here hx rfl (hb hby d1_14) rfl k) ?_
    refine Go.retJ X0 hx hk Bd.returns (hb hby d1_15) (by decide) (by decide) ?_
    rw [e0]
    exact ⟨by rw [lowV, if_neg hc3], N0, rfl⟩
theorem d4_0 : decode prog_23_method_4_code 0 = .ok (.iload_n 0, 1) := by decide +kernel
theorem d4_1 : decode prog_23_method_4_code 1 = .ok (.iconst 1, 1) := by decide +kernel
theorem d4_2 : decode prog_23_method_4_code 2 = .ok (.if_icmp .lt 9, 3) := by decide +kernel
theorem d4_5 : decode prog_23_method_4_code 5 = .ok (.iload_n 0, 1) := by decide +kernel
theorem d4_6 : decode prog_23_method_4_code 6 = .ok (.bipush 64, 2) := by decide +kernel
theorem d4_8 : decode prog_23_method_4_code 8 = .ok (.if_icmp .le 17, 3) := by decide +kernel
theorem d4_25 : decode prog_23_method_4_code 25 = .ok (.ldc2_w 56, 3) := by decide +kernel
theorem d4_28 : decode prog_23_method_4_code 28 = .ok (.iload_n 0, 1) := by decide +kernel
theorem d4_29 : decode prog_23_method_4_code 29 = .ok (.i2l, 1) := by decide +kernel
theorem d4_30 : decode prog_23_method_4_code 30 = .ok (.ldiv, 1) := by decide +kernel
theorem d4_31 : decode prog_23_method_4_code 31 = .ok (.lreturn, 1) := by decide +kernel
theorem pn_1 : plainName "com/example/bloom_filter_variants/bloomfiltervariants/PackedArray" = true := by first | (simp [plainName, overriddenIn]; done) | decide +kernel
theorem ef_4 (m : MethodId) (x0 : Int32) : entryFrame m #[(.int x0)] 1 = mkF m 0 #[.val (.int x0)] [] := by first | (simp [entryFrame, mkF, argsToLocals, Value.category]; done) | rfl
def Q4 (Z : State) (x0 : Int32)  (h0 : Heap) (n0 : Nat) (v : Option Value) (h : Heap) (L : List Loc) : Prop := v = some (.long (137438952896 / x0.toInt64)) ∧ Fr n0 L ∧ h = h0
set_option maxRecDepth 65536 in
set_option maxHeartbeats 40000000 in
theorem rm4 (l : Launch) (Z : State) (a0 : Array Value) (hw : ∀ d ∈ tables_1, d.before a0 Z = true) (ws : List Jvm.Cond) (x0 : Int32)  (h0 : Heap) (n0 : Nat) (Z0 : n0 ≤ h0.size) (hw1 : ¬ x0 < 1) (hw2 : ¬ 64 < x0) (hnz : (x0.toInt64) ≠ (0 : Int64)) :
    MetFree l (⟨"com/example/bloom_filter_variants/bloomfiltervariants/PackedArray", "maxLength", "(I)J"⟩ : MethodName) (head1 (Jvm.Cond.code (⟨"com/example/bloom_filter_variants/bloomfiltervariants/PackedArray", "maxLength", "(I)J"⟩ : MethodName) prog_23_method_4_code 1 (some .long) :: ws) ({ frames := 0, cells := 0, slots := 0, locals := 0 } : Room)) (fun a U => a = #[(.int x0)] ∧ Z.Warmed39 U.vm ∧ U.heap = h0) (fun _ _ _ _ _ => True) (fun _ U o U' => ∃ v L, o = .returned v ∧ Q4 Z x0 h0 n0 v U'.heap L ∧ FrameEnd U o U' L ({ frames := 0, cells := 0, slots := 0, locals := 0 } : Room).cells ({ frames := 0, cells := 0, slots := 0, locals := 0 } : Room).slots) := by
  refine MetFree.of_bodySF (plainFor_of_name pn_1) hisR ?_
  intro p e s m args below meth c s₁ Bd hml0 hP hK
  obtain ⟨rfl, hZ, hh⟩ := hP
  have hx := Bd.exec
  have hby := Bd.bytes
  have hml : c.maxLocals = 1 := hml0
  have hown : s.vm.findClass "com/example/bloom_filter_variants/bloomfiltervariants/PackedArray" = some m.cls := findClass_of_methodNamed Bd.named
  have hnm := (name_of_methodNamed Bd.named Bd.method).1
  have hk : meth.locks = false := BodyLoose.notSynchronized Bd
  have X0 : Stand p l e ({ frames := 0, cells := 0, slots := 0, locals := 0 } : Room) s m #[(.int x0)] below meth c s₁ [] 0 0 := Stand.of_body Bd
  have e0 : s₁.heap = h0 := by rw [← hh, Bd.state]; rfl
  have N0 := Fr.nil n0
  show Go p e below s (Q4 Z x0 h0 n0) ({ frames := 0, cells := 0, slots := 0, locals := 0 } : Room).cells ({ frames := 0, cells := 0, slots := 0, locals := 0 } : Room).slots s₁ (entryFrame m #[(.int x0)] 1)
  refine Go.cast (ef_4 m x0) ?_
  refine Go.of (T' := s₁) (f' := (mkF m 1 #[.val (.int x0)] [(.int x0)])) (fun t k => XS.iloadN X0.here hx rfl (hb hby d4_0) rfl k) ?_
  refine Go.of (T' := s₁) (f' := (mkF m 2 #[.val (.int x0)] [(.int (1 : Int32)), (.int x0)])) (fun t k => XS.iconst X0.here hx rfl (hb hby d4_1) k) ?_
  have hc2 : ¬ (x0 < (1 : Int32)) := hw1
  refine Go.of (T' := s₁) (f' := (mkF m 5 #[.val (.int x0)] [])) (fun t k => XS.icmpNo X0.here hx rfl (hb hby d4_2) rfl ((flt hc2).1) k) ?_
  refine Go.of (T' := s₁) (f' := (mkF m 6 #[.val (.int x0)] [(.int x0)])) (fun t k => XS.iloadN X0.here hx rfl (hb hby d4_5) rfl k) ?_
  refine Go.of (T' := s₁) (f' := (mkF m 8 #[.val (.int x0)] [(.int (64 : Int32)), (.int x0)])) (fun t k => XS.bipush X0.here hx rfl (hb hby d4_6) k) ?_
  have hc8 : ¬ ((64 : Int32) < x0) := hw2
  refine Go.of (T' := s₁) (f' := (mkF m 25 #[.val (.int x0)] [])) (fun t k => XS.icmpYes X0.here hx rfl (pc0 := 8) (pc' := 25) rfl (hb hby d4_8) rfl ((flt hc8).2.2.2) (by decide) (by decide) k) ?_
  refine Go.of (T' := s₁) (f' := (mkF m 28 #[.val (.int x0)] [(.long (137438952896 : Int64))])) (fun t k => X0.ldc2Long hx hown (mvT hZ (hw _ (List.mem_of_getElem? (i := 17) rfl))) (g := (mkF m 25 #[.val (.int x0)] [])) rfl (hb hby d4_25) t k) ?_
  refine Go.of (T' := s₁) (f' := (mkF m 29 #[.val (.int x0)] [(.int x0), (.long (137438952896 : Int64))])) (fun t k => XS.iloadN X0.here hx rfl (hb hby d4_28) rfl k) ?_
  refine Go.of (T' := s₁) (f' := (mkF m 30 #[.val (.int x0)] [(.long (x0.toInt64)), (.long (137438952896 : Int64))])) (fun t k => XS.i2l X0.here hx rfl (hb hby d4_29) rfl k) ?_
  have nz30 : (x0.toInt64) ≠ (0 : Int64) := hnz
  refine Go.of (T' := s₁) (f' := (mkF m 31 #[.val (.int x0)] [(.long ((137438952896 : Int64) / (x0.toInt64)))])) (fun t k => XS.ldiv X0.here hx rfl (hb hby d4_30) rfl nz30 k) ?_
  refine Go.retJ X0 hx hk Bd.returns (hb hby d4_31) (by decide) (by decide) ?_
  rw [e0]
  exact ⟨rfl, N0, rfl⟩
theorem pd_0 : parseMethodDescriptor "(I)J" = some ⟨[.int], some .long⟩ := by decide +kernel
theorem d2_0 : decode prog_23_method_1_code 0 = .ok (.aload_n 0, 1) := by decide +kernel
theorem d2_1 : decode prog_23_method_1_code 1 = .ok (.invokespecial 1, 3) := by decide +kernel
theorem d2_4 : decode prog_23_method_1_code 4 = .ok (.iload_n 3, 1) := by decide +kernel
theorem d2_5 : decode prog_23_method_1_code 5 = .ok (.invokestatic 7, 3) := by decide +kernel
theorem d2_8 : decode prog_23_method_1_code 8 = .ok (.lstore 4, 2) := by decide +kernel
theorem d2_10 : decode prog_23_method_1_code 10 = .ok (.lload_n 1, 1) := by decide +kernel
theorem d2_11 : decode prog_23_method_1_code 11 = .ok (.lconst 0, 1) := by decide +kernel
theorem d2_12 : decode prog_23_method_1_code 12 = .ok (.lcmp, 1) := by decide +kernel
theorem d2_13 : decode prog_23_method_1_code 13 = .ok (.ifCond .lt 10, 3) := by decide +kernel
theorem d2_16 : decode prog_23_method_1_code 16 = .ok (.lload_n 1, 1) := by decide +kernel
theorem d2_17 : decode prog_23_method_1_code 17 = .ok (.lload 4, 2) := by decide +kernel
theorem d2_19 : decode prog_23_method_1_code 19 = .ok (.lcmp, 1) := by decide +kernel
theorem d2_20 : decode prog_23_method_1_code 20 = .ok (.ifCond .le 20, 3) := by decide +kernel
theorem d2_40 : decode prog_23_method_1_code 40 = .ok (.aload_n 0, 1) := by decide +kernel
theorem d2_41 : decode prog_23_method_1_code 41 = .ok (.lload_n 1, 1) := by decide +kernel
theorem d2_42 : decode prog_23_method_1_code 42 = .ok (.putfield 22, 3) := by decide +kernel
theorem d2_45 : decode prog_23_method_1_code 45 = .ok (.aload_n 0, 1) := by decide +kernel
theorem d2_46 : decode prog_23_method_1_code 46 = .ok (.iload_n 3, 1) := by decide +kernel
theorem d2_47 : decode prog_23_method_1_code 47 = .ok (.putfield 26, 3) := by decide +kernel
theorem d2_50 : decode prog_23_method_1_code 50 = .ok (.aload_n 0, 1) := by decide +kernel
theorem d2_51 : decode prog_23_method_1_code 51 = .ok (.ldc2_w 30, 3) := by decide +kernel
theorem d2_54 : decode prog_23_method_1_code 54 = .ok (.bipush 64, 2) := by decide +kernel
theorem d2_56 : decode prog_23_method_1_code 56 = .ok (.iload_n 3, 1) := by decide +kernel
theorem d2_57 : decode prog_23_method_1_code 57 = .ok (.isub, 1) := by decide +kernel
theorem d2_58 : decode prog_23_method_1_code 58 = .ok (.lushr, 1) := by decide +kernel
theorem d2_59 : decode prog_23_method_1_code 59 = .ok (.putfield 34, 3) := by decide +kernel
theorem d2_62 : decode prog_23_method_1_code 62 = .ok (.aload_n 0, 1) := by decide +kernel
theorem d2_63 : decode prog_23_method_1_code 63 = .ok (.lload_n 1, 1) := by decide +kernel
theorem d2_64 : decode prog_23_method_1_code 64 = .ok (.iload_n 3, 1) := by decide +kernel
theorem d2_65 : decode prog_23_method_1_code 65 = .ok (.i2l, 1) := by decide +kernel
theorem d2_66 : decode prog_23_method_1_code 66 = .ok (.lmul, 1) := by decide +kernel
theorem d2_67 : decode prog_23_method_1_code 67 = .ok (.ldc2_w 37, 3) := by decide +kernel
theorem d2_70 : decode prog_23_method_1_code 70 = .ok (.ladd, 1) := by decide +kernel
theorem d2_71 : decode prog_23_method_1_code 71 = .ok (.lconst 1, 1) := by decide +kernel
theorem d2_72 : decode prog_23_method_1_code 72 = .ok (.lsub, 1) := by decide +kernel
theorem d2_73 : decode prog_23_method_1_code 73 = .ok (.ldc2_w 37, 3) := by decide +kernel
theorem d2_76 : decode prog_23_method_1_code 76 = .ok (.ldiv, 1) := by decide +kernel
theorem d2_77 : decode prog_23_method_1_code 77 = .ok (.l2i, 1) := by decide +kernel
theorem d2_78 : decode prog_23_method_1_code 78 = .ok (.newarray .long, 2) := by decide +kernel
theorem d2_80 : decode prog_23_method_1_code 80 = .ok (.putfield 39, 3) := by decide +kernel
theorem d2_83 : decode prog_23_method_1_code 83 = .ok (.return_, 1) := by decide +kernel
theorem ef_2 (m : MethodId) (x0 : Addr) (x1 : Int64) (x2 : Int32) : entryFrame m #[(.ref x0), (.long x1), (.int x2)] 6 = mkF m 0 #[.val (.ref x0), .val (.long x1), .second, .val (.int x2), .unset, .unset] [] := by first | (simp [entryFrame, mkF, argsToLocals, Value.category]; done) | rfl
def Q2 (Z : State) (x0 : Addr) (x1 : Int64) (x2 : Int32) (u_length : Value) (u_width : Value) (u_mask : Value) (u_words : Value) (h0 : Heap) (n0 : Nat) (v : Option Value) (h : Heap) (L : List Loc) : Prop := ∃ b : Addr, v = none ∧ Fr n0 L ∧ Keep h0 h [x0] ∧ h0.size ≤ b ∧ n0 ≤ b ∧ Fld Z h x0 "com/example/bloom_filter_variants/bloomfiltervariants/PackedArray" "length" "J" (.long x1) ∧ Fld Z h x0 "com/example/bloom_filter_variants/bloomfiltervariants/PackedArray" "width" "I" (.int x2) ∧ Fld Z h x0 "com/example/bloom_filter_variants/bloomfiltervariants/PackedArray" "mask" "J" (.long (((-1 : Int64).toUInt64 >>> (((64 : Int32) - x2) &&& 0x3f).toInt64.toUInt64).toInt64)) ∧ Fld Z h x0 "com/example/bloom_filter_variants/bloomfiltervariants/PackedArray" "words" "[J" (.ref b) ∧ VArr Z h b .long ((List.replicate (x2).toNatClampNeg (0 : Int64)).map Value.long)
set_option maxRecDepth 65536 in
set_option maxHeartbeats 40000000 in
theorem rm2 (l : Launch) (Z : State) (a0 : Array Value) (hw : ∀ d ∈ tables_1, d.before a0 Z = true) (ws : List Jvm.Cond) (x0 : Addr) (x1 : Int64) (x2 : Int32) (u_length : Value) (u_width : Value) (u_mask : Value) (u_words : Value) (h0 : Heap) (n0 : Nat) (Z0 : n0 ≤ h0.size) (E_a : Exa Z h0 x0 "com/example/bloom_filter_variants/bloomfiltervariants/PackedArray") (g_a : n0 ≤ x0) (F_length : Fld Z h0 x0 "com/example/bloom_filter_variants/bloomfiltervariants/PackedArray" "length" "J" u_length) (F_width : Fld Z h0 x0 "com/example/bloom_filter_variants/bloomfiltervariants/PackedArray" "width" "I" u_width) (F_mask : Fld Z h0 x0 "com/example/bloom_filter_variants/bloomfiltervariants/PackedArray" "mask" "J" u_mask) (F_words : Fld Z h0 x0 "com/example/bloom_filter_variants/bloomfiltervariants/PackedArray" "words" "[J" u_words) (hw1 : ¬ x2 < 1) (hw2 : ¬ 64 < x2) (hnz : (x2.toInt64) ≠ (0 : Int64)) (hl0 : ¬ x1 < 0) (hl1 : ¬ ((137438952896 : Int64) / (x2.toInt64)) < x1) (hz : ((((x1 * (x2.toInt64)) + (64 : Int64)) - (1 : Int64)) / (64 : Int64)).toInt32 = x2) (hz0 : ¬ x2 < 0) (hz1 : (x2).toNatClampNeg ≤ 64) :
    MetFree l (⟨"com/example/bloom_filter_variants/bloomfiltervariants/PackedArray", "<init>", "(JI)V"⟩ : MethodName) (head1 (Jvm.Cond.code (⟨"com/example/bloom_filter_variants/bloomfiltervariants/PackedArray", "<init>", "(JI)V"⟩ : MethodName) prog_23_method_1_code 6 none :: ws) ({ frames := 1, cells := 1, slots := 64, locals := 12 } : Room)) (fun a U => a = #[(.ref x0), (.long x1), (.int x2)] ∧ Z.Warmed39 U.vm ∧ U.heap = h0) (fun _ _ _ _ _ => True) (fun _ U o U' => ∃ v L, o = .returned v ∧ Q2 Z x0 x1 x2 u_length u_width u_mask u_words h0 n0 v U'.heap L ∧ FrameEnd U o U' L ({ frames := 1, cells := 1, slots := 64, locals := 12 } : Room).cells ({ frames := 1, cells := 1, slots := 64, locals := 12 } : Room).slots) := by
  refine MetFree.of_bodySF (plainFor_of_name pn_1) hisR ?_
  intro p e s m args below meth c s₁ Bd hml0 hP hK
  obtain ⟨rfl, hZ, hh⟩ := hP
  have hx := Bd.exec
  have hby := Bd.bytes
  have hml : c.maxLocals = 6 := hml0
  have hown : s.vm.findClass "com/example/bloom_filter_variants/bloomfiltervariants/PackedArray" = some m.cls := findClass_of_methodNamed Bd.named
  have hnm := (name_of_methodNamed Bd.named Bd.method).1
  have hk : meth.locks = false := BodyLoose.notSynchronized Bd
  have X0 : Stand p l e ({ frames := 1, cells := 1, slots := 64, locals := 12 } : Room) s m #[(.ref x0), (.long x1), (.int x2)] below meth c s₁ [] 0 0 := Stand.of_body Bd
  have e0 : s₁.heap = h0 := by rw [← hh, Bd.state]; rfl
  have N0 := Fr.nil n0
  show Go p e below s (Q2 Z x0 x1 x2 u_length u_width u_mask u_words h0 n0) ({ frames := 1, cells := 1, slots := 64, locals := 12 } : Room).cells ({ frames := 1, cells := 1, slots := 64, locals := 12 } : Room).slots s₁ (entryFrame m #[(.ref x0), (.long x1), (.int x2)] 6)
  refine Go.cast (ef_2 m x0 x1 x2) ?_
  refine Go.of (T' := s₁) (f' := (mkF m 1 #[.val (.ref x0), .val (.long x1), .second, .val (.int x2), .unset, .unset] [(.ref x0)])) (fun t k => XS.aloadN X0.here hx rfl (hb hby d2_0) rfl rfl k) ?_
  obtain ⟨T1, X1, e1, st1⟩ := initO X0 hx hZ hown (hw _ (List.mem_of_getElem? (i := 11) rfl)) (hw _ (List.mem_of_getElem? (i := 12) rfl)) (hw _ (List.mem_of_getElem? (i := 13) rfl)) e0 (g := (mkF m 1 #[.val (.ref x0), .val (.long x1), .second, .val (.int x2), .unset, .unset] [(.ref x0)])) rfl (by rw [hml]; rfl) rfl (hb hby d2_1) (by decide) (W := 0) (by show 2 * 0 + _ ≤ _; exact Nat.le_of_eq rfl) (by decide)
  refine Go.of (T' := T1) (f' := (mkF m 4 #[.val (.ref x0), .val (.long x1), .second, .val (.int x2), .unset, .unset] [])) (fun t k => st1 t k) ?_
  refine Go.of (T' := T1) (f' := (mkF m 5 #[.val (.ref x0), .val (.long x1), .second, .val (.int x2), .unset, .unset] [(.int x2)])) (fun t k => XS.iloadN X1.here hx rfl (hb hby d2_4) rfl k) ?_
  obtain ⟨_, _, ⟨T2, L2, k2, n2⟩, -, X2, ⟨Lc2, hQ2, l2, y2, z2⟩, st2⟩ := Jvm.LawKit.callS X1 hx (y := (⟨"com/example/bloom_filter_variants/bloomfiltervariants/PackedArray", "maxLength", "(I)J"⟩ : MethodName)) hown (mvT hZ (hw _ (List.mem_of_getElem? (i := 14) rfl))) (mvT hZ (hw _ (List.mem_of_getElem? (i := 15) rfl))) (mvT hZ (hw _ (List.mem_of_getElem? (i := 6) rfl))) (mvT hZ (hw _ (List.mem_of_getElem? (i := 16) rfl))) (by decide) (backOf (W := 0) (rm4 l Z a0 hw [] x2 h0 n0 Z0 hw1 hw2 hnz) hZ (hw _ (List.mem_of_getElem? (i := 16) rfl)) (hw _ (List.mem_of_getElem? (i := 6) rfl)) (by decide) (by decide)) (g := (mkF m 5 #[.val (.ref x0), .val (.long x1), .second, .val (.int x2), .unset, .unset] [(.int x2)])) rfl (by rw [hml]; rfl) (argsL := [(.int x2)]) (rest := []) (lenOf pd_0 rfl) rfl (by show 2 * 0 + _ ≤ _; exact Nat.le_of_eq rfl) (hb hby d2_5) (fun _ _ => ⟨rfl, e1, (by decide : 0 + 0 ≤ _), (by decide : 0 + 0 ≤ _)⟩)
  dsimp only [Pt.U, Pt.locs, Pt.cells, Pt.slots] at X2 l2 y2 z2 st2 hQ2
  subst l2 y2 z2
  obtain ⟨rfl, N2q, e2⟩ := hQ2
  have N2 := Fr.app N0 N2q
  refine Go.of (T' := T2) (f' := (mkF m 8 #[.val (.ref x0), .val (.long x1), .second, .val (.int x2), .unset, .unset] [(.long ((137438952896 : Int64) / (x2.toInt64)))])) (fun t k => st2 t k) ?_
  refine Go.of (T' := T2) (f' := (mkF m 10 #[.val (.ref x0), .val (.long x1), .second, .val (.int x2), .val (.long ((137438952896 : Int64) / (x2.toInt64))), .second] [])) (fun t k => XS.lstore X2.here hx rfl (hb hby d2_8) rfl (l' := #[.val (.ref x0), .val (.long x1), .second, .val (.int x2), .val (.long ((137438952896 : Int64) / (x2.toInt64))), .second]) rfl k) ?_
  refine Go.of (T' := T2) (f' := (mkF m 11 #[.val (.ref x0), .val (.long x1), .second, .val (.int x2), .val (.long ((137438952896 : Int64) / (x2.toInt64))), .second] [(.long x1)])) (fun t k => XS.lloadN X2.here hx rfl (hb hby d2_10) rfl k) ?_
  refine Go.of (T' := T2) (f' := (mkF m 12 #[.val (.ref x0), .val (.long x1), .second, .val (.int x2), .val (.long ((137438952896 : Int64) / (x2.toInt64))), .second] [(.long (0 : Int64)), (.long x1)])) (fun t k => XS.lconst X2.here hx rfl (hb hby d2_11) k) ?_
  refine Go.of (T' := T2) (f' := (mkF m 13 #[.val (.ref x0), .val (.long x1), .second, .val (.int x2), .val (.long ((137438952896 : Int64) / (x2.toInt64))), .second] [(.int (lcmpW x1 (0 : Int64)))])) (fun t k => XS.lcmp X2.here hx rfl (hb hby d2_12) rfl k) ?_
  have hc13 : ¬ (x1 < (0 : Int64)) := hl0
  refine Go.of (T' := T2) (f' := (mkF m 16 #[.val (.ref x0), .val (.long x1), .second, .val (.int x2), .val (.long ((137438952896 : Int64) / (x2.toInt64))), .second] [])) (fun t k => XS.ifNo X2.here hx rfl (hb hby d2_13) rfl (lc_lt_f hc13) k) ?_
  refine Go.of (T' := T2) (f' := (mkF m 17 #[.val (.ref x0), .val (.long x1), .second, .val (.int x2), .val (.long ((137438952896 : Int64) / (x2.toInt64))), .second] [(.long x1)])) (fun t k => XS.lloadN X2.here hx rfl (hb hby d2_16) rfl k) ?_
  refine Go.of (T' := T2) (f' := (mkF m 19 #[.val (.ref x0), .val (.long x1), .second, .val (.int x2), .val (.long ((137438952896 : Int64) / (x2.toInt64))), .second] [(.long ((137438952896 : Int64) / (x2.toInt64))), (.long x1)])) (fun t k => XS.lload X2.here hx rfl (hb hby d2_17) rfl k) ?_
  refine Go.of (T' := T2) (f' := (mkF m 20 #[.val (.ref x0), .val (.long x1), .second, .val (.int x2), .val (.long ((137438952896 : Int64) / (x2.toInt64))), .second] [(.int (lcmpW x1 ((137438952896 : Int64) / (x2.toInt64))))])) (fun t k => XS.lcmp X2.here hx rfl (hb hby d2_19) rfl k) ?_
  have hc20 : ¬ (((137438952896 : Int64) / (x2.toInt64)) < x1) := hl1
  refine Go.of (T' := T2) (f' := (mkF m 40 #[.val (.ref x0), .val (.long x1), .second, .val (.int x2), .val (.long ((137438952896 : Int64) / (x2.toInt64))), .second] [])) (fun t k => XS.ifYes X2.here hx rfl (pc0 := 20) (pc' := 40) rfl (hb hby d2_20) rfl (lc_le_t hc20) (by decide) (by decide) k) ?_
  refine Go.of (T' := T2) (f' := (mkF m 41 #[.val (.ref x0), .val (.long x1), .second, .val (.int x2), .val (.long ((137438952896 : Int64) / (x2.toInt64))), .second] [(.ref x0)])) (fun t k => XS.aloadN X2.here hx rfl (hb hby d2_40) rfl rfl k) ?_
  refine Go.of (T' := T2) (f' := (mkF m 42 #[.val (.ref x0), .val (.long x1), .second, .val (.int x2), .val (.long ((137438952896 : Int64) / (x2.toInt64))), .second] [(.long x1), (.ref x0)])) (fun t k => XS.lloadN X2.here hx rfl (hb hby d2_41) rfl k) ?_
  obtain ⟨T3, h3, X3, e3, W3, st3⟩ := putF X2 hx hZ hown (host := "") (Or.inl (hw _ (List.mem_of_getElem? (i := 18) rfl))) Via.refl e2 F_length E_a (Or.inr ⟨(hw _ (List.mem_of_getElem? (i := 19) rfl)), rfl, hnm⟩) (hw _ (List.mem_of_getElem? (i := 5) rfl)) (ty := .long) (by decide) rfl rfl (g := (mkF m 42 #[.val (.ref x0), .val (.long x1), .second, .val (.int x2), .val (.long ((137438952896 : Int64) / (x2.toInt64))), .second] [(.long x1), (.ref x0)])) rfl rfl (hb hby d2_42)
  have Fw3 : Fld Z h3 x0 "com/example/bloom_filter_variants/bloomfiltervariants/PackedArray" "length" "J" (.long x1) := F_length.same W3
  have F3_x0_width : Fld Z h3 x0 "com/example/bloom_filter_variants/bloomfiltervariants/PackedArray" "width" "I" u_width := F_width.other W3 (Or.inr (slot_ne (Or.inr (hw _ (List.mem_of_getElem? (i := 21) rfl))) (Or.inr (hw _ (List.mem_of_getElem? (i := 19) rfl))) (by decide) (t := .int) (t' := .long) (by decide) (by decide)))
  have F3_x0_mask : Fld Z h3 x0 "com/example/bloom_filter_variants/bloomfiltervariants/PackedArray" "mask" "J" u_mask := F_mask.other W3 (Or.inr (slot_ne (Or.inr (hw _ (List.mem_of_getElem? (i := 24) rfl))) (Or.inr (hw _ (List.mem_of_getElem? (i := 19) rfl))) (by decide) (t := .long) (t' := .long) (by decide) (by decide)))
  have F3_x0_words : Fld Z h3 x0 "com/example/bloom_filter_variants/bloomfiltervariants/PackedArray" "words" "[J" u_words := F_words.other W3 (Or.inr (slot_ne (Or.inr (hw _ (List.mem_of_getElem? (i := 28) rfl))) (Or.inr (hw _ (List.mem_of_getElem? (i := 19) rfl))) (by decide) (t := (.array .long)) (t' := .long) (by decide) (by decide)))
  have Ex3_x0 : Exa Z h3 x0 "com/example/bloom_filter_variants/bloomfiltervariants/PackedArray" := E_a.wr W3
  have N3 := Fr.snoc X3 N2 g_a
  have KK3 : Keep h0 h3 [x0] := (Keep.refl h0 [x0]).wr W3 (Or.inl (List.mem_of_getElem? (i := 0) rfl))
  have ZS3 : n0 ≤ h3.size := Nat.le_trans Z0 (Keep.of_wr W3).1
  refine Go.of (T' := T3) (f' := (mkF m 45 #[.val (.ref x0), .val (.long x1), .second, .val (.int x2), .val (.long ((137438952896 : Int64) / (x2.toInt64))), .second] [])) (fun t k => st3 t k) ?_
  refine Go.of (T' := T3) (f' := (mkF m 46 #[.val (.ref x0), .val (.long x1), .second, .val (.int x2), .val (.long ((137438952896 : Int64) / (x2.toInt64))), .second] [(.ref x0)])) (fun t k => XS.aloadN X3.here hx rfl (hb hby d2_45) rfl rfl k) ?_
  refine Go.of (T' := T3) (f' := (mkF m 47 #[.val (.ref x0), .val (.long x1), .second, .val (.int x2), .val (.long ((137438952896 : Int64) / (x2.toInt64))), .second] [(.int x2), (.ref x0)])) (fun t k => XS.iloadN X3.here hx rfl (hb hby d2_46) rfl k) ?_
  obtain ⟨T4, h4, X4, e4, W4, st4⟩ := putF X3 hx hZ hown (host := "") (Or.inl (hw _ (List.mem_of_getElem? (i := 20) rfl))) Via.refl e3 F3_x0_width Ex3_x0 (Or.inr ⟨(hw _ (List.mem_of_getElem? (i := 21) rfl)), rfl, hnm⟩) (hw _ (List.mem_of_getElem? (i := 5) rfl)) (ty := .int) (by decide) rfl rfl (g := (mkF m 47 #[.val (.ref x0), .val (.long x1), .second, .val (.int x2), .val (.long ((137438952896 : Int64) / (x2.toInt64))), .second] [(.int x2), (.ref x0)])) rfl rfl (hb hby d2_47)
  have Fw4 : Fld Z h4 x0 "com/example/bloom_filter_variants/bloomfiltervariants/PackedArray" "width" "I" (.int x2) := F3_x0_width.same W4
  have F4_x0_length : Fld Z h4 x0 "com/example/bloom_filter_variants/bloomfiltervariants/PackedArray" "length" "J" (.long x1) := Fw3.other W4 (Or.inr (slot_ne (Or.inr (hw _ (List.mem_of_getElem? (i := 19) rfl))) (Or.inr (hw _ (List.mem_of_getElem? (i := 21) rfl))) (by decide) (t := .long) (t' := .int) (by decide) (by decide)))
  have F4_x0_mask : Fld Z h4 x0 "com/example/bloom_filter_variants/bloomfiltervariants/PackedArray" "mask" "J" u_mask := F3_x0_mask.other W4 (Or.inr (slot_ne (Or.inr (hw _ (List.mem_of_getElem? (i := 24) rfl))) (Or.inr (hw _ (List.mem_of_getElem? (i := 21) rfl))) (by decide) (t := .long) (t' := .int) (by decide) (by decide)))
  have F4_x0_words : Fld Z h4 x0 "com/example/bloom_filter_variants/bloomfiltervariants/PackedArray" "words" "[J" u_words := F3_x0_words.other W4 (Or.inr (slot_ne (Or.inr (hw _ (List.mem_of_getElem? (i := 28) rfl))) (Or.inr (hw _ (List.mem_of_getElem? (i := 21) rfl))) (by decide) (t := (.array .long)) (t' := .int) (by decide) (by decide)))
  have Ex4_x0 : Exa Z h4 x0 "com/example/bloom_filter_variants/bloomfiltervariants/PackedArray" := Ex3_x0.wr W4
  have N4 := Fr.snoc X4 N3 g_a
  have KK4 : Keep h0 h4 [x0] := KK3.wr W4 (Or.inl (List.mem_of_getElem? (i := 0) rfl))
  have ZS4 : n0 ≤ h4.size := Nat.le_trans ZS3 (Keep.of_wr W4).1
  refine Go.of (T' := T4) (f' := (mkF m 50 #[.val (.ref x0), .val (.long x1), .second, .val (.int x2), .val (.long ((137438952896 : Int64) / (x2.toInt64))), .second] [])) (fun t k => st4 t k) ?_
  refine Go.of (T' := T4) (f' := (mkF m 51 #[.val (.ref x0), .val (.long x1), .second, .val (.int x2), .val (.long ((137438952896 : Int64) / (x2.toInt64))), .second] [(.ref x0)])) (fun t k => XS.aloadN X4.here hx rfl (hb hby d2_50) rfl rfl k) ?_
  refine Go.of (T' := T4) (f' := (mkF m 54 #[.val (.ref x0), .val (.long x1), .second, .val (.int x2), .val (.long ((137438952896 : Int64) / (x2.toInt64))), .second] [(.long (-1 : Int64)), (.ref x0)])) (fun t k => X4.ldc2Long hx hown (mvT hZ (hw _ (List.mem_of_getElem? (i := 22) rfl))) (g := (mkF m 51 #[.val (.ref x0), .val (.long x1), .second, .val (.int x2), .val (.long ((137438952896 : Int64) / (x2.toInt64))), .second] [(.ref x0)])) rfl (hb hby d2_51) t k) ?_
  refine Go.of (T' := T4) (f' := (mkF m 56 #[.val (.ref x0), .val (.long x1), .second, .val (.int x2), .val (.long ((137438952896 : Int64) / (x2.toInt64))), .second] [(.int (64 : Int32)), (.long (-1 : Int64)), (.ref x0)])) (fun t k => XS.bipush X4.here hx rfl (hb hby d2_54) k) ?_
  refine Go.of (T' := T4) (f' := (mkF m 57 #[.val (.ref x0), .val (.long x1), .second, .val (.int x2), .val (.long ((137438952896 : Int64) / (x2.toInt64))), .second] [(.int x2), (.int (64 : Int32)), (.long (-1 : Int64)), (.ref x0)])) (fun t k => XS.iloadN X4.here hx rfl (hb hby d2_56) rfl k) ?_
  refine Go.of (T' := T4) (f' := (mkF m 58 #[.val (.ref x0), .val (.long x1), .second, .val (.int x2), .val (.long ((137438952896 : Int64) / (x2.toInt64))), .second] [(.int ((64 : Int32) - x2)), (.long (-1 : Int64)), (.ref x0)])) (fun t k => XS.isub X4.here hx rfl (hb hby d2_57) rfl k) ?_
  refine Go.of (T' := T4) (f' := (mkF m 59 #[.val (.ref x0), .val (.long x1), .second, .val (.int x2), .val (.long ((137438952896 : Int64) / (x2.toInt64))), .second] [(.long (((-1 : Int64).toUInt64 >>> (((64 : Int32) - x2) &&& 0x3f).toInt64.toUInt64).toInt64)), (.ref x0)])) (fun t k => XS.lushr X4.here hx rfl (hb hby d2_58) rfl k) ?_
  obtain ⟨T5, h5, X5, e5, W5, st5⟩ := putF X4 hx hZ hown (host := "") (Or.inl (hw _ (List.mem_of_getElem? (i := 23) rfl))) Via.refl e4 F4_x0_mask Ex4_x0 (Or.inr ⟨(hw _ (List.mem_of_getElem? (i := 24) rfl)), rfl, hnm⟩) (hw _ (List.mem_of_getElem? (i := 5) rfl)) (ty := .long) (by decide) rfl rfl (g := (mkF m 59 #[.val (.ref x0), .val (.long x1), .second, .val (.int x2), .val (.long ((137438952896 : Int64) / (x2.toInt64))), .second] [(.long (((-1 : Int64).toUInt64 >>> (((64 : Int32) - x2) &&& 0x3f).toInt64.toUInt64).toInt64)), (.ref x0)])) rfl rfl (hb hby d2_59)
  have Fw5 : Fld Z h5 x0 "com/example/bloom_filter_variants/bloomfiltervariants/PackedArray" "mask" "J" (.long (((-1 : Int64).toUInt64 >>> (((64 : Int32) - x2) &&& 0x3f).toInt64.toUInt64).toInt64)) := F4_x0_mask.same W5
  have F5_x0_length : Fld Z h5 x0 "com/example/bloom_filter_variants/bloomfiltervariants/PackedArray" "length" "J" (.long x1) := F4_x0_length.other W5 (Or.inr (slot_ne (Or.inr (hw _ (List.mem_of_getElem? (i := 19) rfl))) (Or.inr (hw _ (List.mem_of_getElem? (i := 24) rfl))) (by decide) (t := .long) (t' := .long) (by decide) (by decide)))
  have F5_x0_width : Fld Z h5 x0 "com/example/bloom_filter_variants/bloomfiltervariants/PackedArray" "width" "I" (.int x2) := Fw4.other W5 (Or.inr (slot_ne (Or.inr (hw _ (List.mem_of_getElem? (i := 21) rfl))) (Or.inr (hw _ (List.mem_of_getElem? (i := 24) rfl))) (by decide) (t := .int) (t' := .long) (by decide) (by decide)))
  have F5_x0_words : Fld Z h5 x0 "com/example/bloom_filter_variants/bloomfiltervariants/PackedArray" "words" "[J" u_words := F4_x0_words.other W5 (Or.inr (slot_ne (Or.inr (hw _ (List.mem_of_getElem? (i := 28) rfl))) (Or.inr (hw _ (List.mem_of_getElem? (i := 24) rfl))) (by decide) (t := (.array .long)) (t' := .long) (by decide) (by decide)))
  have Ex5_x0 : Exa Z h5 x0 "com/example/bloom_filter_variants/bloomfiltervariants/PackedArray" := Ex4_x0.wr W5
  have N5 := Fr.snoc X5 N4 g_a
  have KK5 : Keep h0 h5 [x0] := KK4.wr W5 (Or.inl (List.mem_of_getElem? (i := 0) rfl))
  have ZS5 : n0 ≤ h5.size := Nat.le_trans ZS4 (Keep.of_wr W5).1
  refine Go.of (T' := T5) (f' := (mkF m 62 #[.val (.ref x0), .val (.long x1), .second, .val (.int x2), .val (.long ((137438952896 : Int64) / (x2.toInt64))), .second] [])) (fun t k => st5 t k) ?_
  refine Go.of (T' := T5) (f' := (mkF m 63 #[.val (.ref x0), .val (.long x1), .second, .val (.int x2), .val (.long ((137438952896 : Int64) / (x2.toInt64))), .second] [(.ref x0)])) (fun t k => XS.aloadN X5.here hx rfl (hb hby d2_62) rfl rfl k) ?_
  refine Go.of (T' := T5) (f' := (mkF m 64 #[.val (.ref x0), .val (.long x1), .second, .val (.int x2), .val (.long ((137438952896 : Int64) / (x2.toInt64))), .second] [(.long x1), (.ref x0)])) (fun t k => XS.lloadN X5.here hx rfl (hb hby d2_63) rfl k) ?_
  refine Go.of (T' := T5) (f' := (mkF m 65 #[.val (.ref x0), .val (.long x1), .second, .val (.int x2), .val (.long ((137438952896 : Int64) / (x2.toInt64))), .second] [(.int x2), (.long x1), (.ref x0)])) (fun t k => XS.iloadN X5.here hx rfl (hb hby d2_64) rfl k) ?_
  refine Go.of (T' := T5) (f' := (mkF m 66 #[.val (.ref x0), .val (.long x1), .second, .val (.int x2), .val (.long ((137438952896 : Int64) / (x2.toInt64))), .second] [(.long (x2.toInt64)), (.long x1), (.ref x0)])) (fun t k => XS.i2l X5.here hx rfl (hb hby d2_65) rfl k) ?_
  refine Go.of (T' := T5) (f' := (mkF m 67 #[.val (.ref x0), .val (.long x1), .second, .val (.int x2), .val (.long ((137438952896 : Int64) / (x2.toInt64))), .second] [(.long (x1 * (x2.toInt64))), (.ref x0)])) (fun t k => XS.lmul X5.here hx rfl (hb hby d2_66) rfl k) ?_
  refine Go.of (T' := T5) (f' := (mkF m 70 #[.val (.ref x0), .val (.long x1), .second, .val (.int x2), .val (.long ((137438952896 : Int64) / (x2.toInt64))), .second] [(.long (64 : Int64)), (.long (x1 * (x2.toInt64))), (.ref x0)])) (fun t k => X5.ldc2Long hx hown (mvT hZ (hw _ (List.mem_of_getElem? (i := 25) rfl))) (g := (mkF m 67 #[.val (.ref x0), .val (.long x1), .second, .val (.int x2), .val (.long ((137438952896 : Int64) / (x2.toInt64))), .second] [(.long (x1 * (x2.toInt64))), (.ref x0)])) rfl (hb hby d2_67) t k) ?_
  refine Go.of (T' := T5) (f' := (mkF m 71 #[.val (.ref x0), .val (.long x1), .second, .val (.int x2), .val (.long ((137438952896 : Int64) / (x2.toInt64))), .second] [(.long ((x1 * (x2.toInt64)) + (64 : Int64))), (.ref x0)])) (fun t k => XS.ladd X5.here hx rfl (hb hby d2_70) rfl k) ?_
  refine Go.of (T' := T5) (f' := (mkF m 72 #[.val (.ref x0), .val (.long x1), .second, .val (.int x2), .val (.long ((137438952896 : Int64) / (x2.toInt64))), .second] [(.long (1 : Int64)), (.long ((x1 * (x2.toInt64)) + (64 : Int64))), (.ref x0)])) (fun t k => XS.lconst X5.here hx rfl (hb hby d2_71) k) ?_
  refine Go.of (T' := T5) (f' := (mkF m 73 #[.val (.ref x0), .val (.long x1), .second, .val (.int x2), .val (.long ((137438952896 : Int64) / (x2.toInt64))), .second] [(.long (((x1 * (x2.toInt64)) + (64 : Int64)) - (1 : Int64))), (.ref x0)])) (fun t k => XS.lsub X5.here hx rfl (hb hby d2_72) rfl k) ?_
  refine Go.of (T' := T5) (f' := (mkF m 76 #[.val (.ref x0), .val (.long x1), .second, .val (.int x2), .val (.long ((137438952896 : Int64) / (x2.toInt64))), .second] [(.long (64 : Int64)), (.long (((x1 * (x2.toInt64)) + (64 : Int64)) - (1 : Int64))), (.ref x0)])) (fun t k => X5.ldc2Long hx hown (mvT hZ (hw _ (List.mem_of_getElem? (i := 25) rfl))) (g := (mkF m 73 #[.val (.ref x0), .val (.long x1), .second, .val (.int x2), .val (.long ((137438952896 : Int64) / (x2.toInt64))), .second] [(.long (((x1 * (x2.toInt64)) + (64 : Int64)) - (1 : Int64))), (.ref x0)])) rfl (hb hby d2_73) t k) ?_
  have nz76 : (64 : Int64) ≠ (0 : Int64) := by decide
  refine Go.of (T' := T5) (f' := (mkF m 77 #[.val (.ref x0), .val (.long x1), .second, .val (.int x2), .val (.long ((137438952896 : Int64) / (x2.toInt64))), .second] [(.long ((((x1 * (x2.toInt64)) + (64 : Int64)) - (1 : Int64)) / (64 : Int64))), (.ref x0)])) (fun t k => XS.ldiv X5.here hx rfl (hb hby d2_76) rfl nz76 k) ?_
  refine Go.of (T' := T5) (f' := (mkF m 78 #[.val (.ref x0), .val (.long x1), .second, .val (.int x2), .val (.long ((137438952896 : Int64) / (x2.toInt64))), .second] [(.int (((((x1 * (x2.toInt64)) + (64 : Int64)) - (1 : Int64)) / (64 : Int64)).toInt32)), (.ref x0)])) (fun t k => XS.l2i X5.here hx rfl (hb hby d2_77) rfl k) ?_
  rw [hz]
  obtain ⟨T6, h6, k6, X6, e6, E6, A6, st6⟩ := newP X5 hx hZ (hw _ (List.mem_of_getElem? (i := 26) rfl)) e5 (g := (mkF m 78 #[.val (.ref x0), .val (.long x1), .second, .val (.int x2), .val (.long ((137438952896 : Int64) / (x2.toInt64))), .second] [(.int x2), (.ref x0)])) rfl (hb hby d2_78) rfl hz0 (cap := 64) hz1 (by decide) (by decide) (by decide)
  obtain ⟨b6, gb6⟩ : ∃ z, z = h5.size := ⟨_, rfl⟩
  rw [← gb6] at A6 st6
  have g_b6 : n0 ≤ b6 := Nat.le_trans ZS5 (Nat.le_of_eq gb6.symm)
  have sz_b6 : h0.size ≤ b6 := Nat.le_trans KK5.1 (Nat.le_of_eq gb6.symm)
  have ne_x0_b6 : x0 ≠ b6 := Nat.ne_of_lt (Nat.lt_of_lt_of_le F5_x0_length.lt (Nat.le_of_eq gb6.symm))
  have ZS6 : n0 ≤ h6.size := Nat.le_trans ZS5 E6.1
  have KK6 : Keep h0 h6 [x0] := KK5.ext E6
  have F6_x0_length : Fld Z h6 x0 "com/example/bloom_filter_variants/bloomfiltervariants/PackedArray" "length" "J" (.long x1) := F5_x0_length.ext E6
  have F6_x0_width : Fld Z h6 x0 "com/example/bloom_filter_variants/bloomfiltervariants/PackedArray" "width" "I" (.int x2) := F5_x0_width.ext E6
  have F6_x0_mask : Fld Z h6 x0 "com/example/bloom_filter_variants/bloomfiltervariants/PackedArray" "mask" "J" (.long (((-1 : Int64).toUInt64 >>> (((64 : Int32) - x2) &&& 0x3f).toInt64.toUInt64).toInt64)) := Fw5.ext E6
  have F6_x0_words : Fld Z h6 x0 "com/example/bloom_filter_variants/bloomfiltervariants/PackedArray" "words" "[J" u_words := F5_x0_words.ext E6
  have Ex6_x0 : Exa Z h6 x0 "com/example/bloom_filter_variants/bloomfiltervariants/PackedArray" := Ex5_x0.ext E6
  have V6 : VArr Z h6 b6 .long (List.replicate (x2).toNatClampNeg (.long (0 : Int64))) := VArr.new A6
  refine Go.of (T' := T6) (f' := (mkF m 80 #[.val (.ref x0), .val (.long x1), .second, .val (.int x2), .val (.long ((137438952896 : Int64) / (x2.toInt64))), .second] [(.ref b6), (.ref x0)])) (fun t k => st6 t k) ?_
  obtain ⟨T7, h7, X7, e7, W7, st7⟩ := putF X6 hx hZ hown (host := "") (Or.inl (hw _ (List.mem_of_getElem? (i := 27) rfl))) Via.refl e6 F6_x0_words Ex6_x0 (Or.inr ⟨(hw _ (List.mem_of_getElem? (i := 28) rfl)), rfl, hnm⟩) (hw _ (List.mem_of_getElem? (i := 5) rfl)) (ty := (.array .long)) (by decide) rfl rfl (g := (mkF m 80 #[.val (.ref x0), .val (.long x1), .second, .val (.int x2), .val (.long ((137438952896 : Int64) / (x2.toInt64))), .second] [(.ref b6), (.ref x0)])) rfl rfl (hb hby d2_80)
  have Fw7 : Fld Z h7 x0 "com/example/bloom_filter_variants/bloomfiltervariants/PackedArray" "words" "[J" (.ref b6) := F6_x0_words.same W7
  have F7_x0_length : Fld Z h7 x0 "com/example/bloom_filter_variants/bloomfiltervariants/PackedArray" "length" "J" (.long x1) := F6_x0_length.other W7 (Or.inr (slot_ne (Or.inr (hw _ (List.mem_of_getElem? (i := 19) rfl))) (Or.inr (hw _ (List.mem_of_getElem? (i := 28) rfl))) (by decide) (t := .long) (t' := (.array .long)) (by decide) (by decide)))
  have F7_x0_width : Fld Z h7 x0 "com/example/bloom_filter_variants/bloomfiltervariants/PackedArray" "width" "I" (.int x2) := F6_x0_width.other W7 (Or.inr (slot_ne (Or.inr (hw _ (List.mem_of_getElem? (i := 21) rfl))) (Or.inr (hw _ (List.mem_of_getElem? (i := 28) rfl))) (by decide) (t := .int) (t' := (.array .long)) (by decide) (by decide)))
  have F7_x0_mask : Fld Z h7 x0 "com/example/bloom_filter_variants/bloomfiltervariants/PackedArray" "mask" "J" (.long (((-1 : Int64).toUInt64 >>> (((64 : Int32) - x2) &&& 0x3f).toInt64.toUInt64).toInt64)) := F6_x0_mask.other W7 (Or.inr (slot_ne (Or.inr (hw _ (List.mem_of_getElem? (i := 24) rfl))) (Or.inr (hw _ (List.mem_of_getElem? (i := 28) rfl))) (by decide) (t := .long) (t' := (.array .long)) (by decide) (by decide)))
  have Ex7_x0 : Exa Z h7 x0 "com/example/bloom_filter_variants/bloomfiltervariants/PackedArray" := Ex6_x0.wr W7
  have V7_b6 : VArr Z h7 b6 .long (List.replicate (x2).toNatClampNeg (.long (0 : Int64))) := V6.other W7 (Ne.symm ne_x0_b6)
  have N7 := Fr.snoc X7 N5 g_a
  have KK7 : Keep h0 h7 [x0] := KK6.wr W7 (Or.inl (List.mem_of_getElem? (i := 0) rfl))
  have ZS7 : n0 ≤ h7.size := Nat.le_trans ZS6 (Keep.of_wr W7).1
  refine Go.of (T' := T7) (f' := (mkF m 83 #[.val (.ref x0), .val (.long x1), .second, .val (.int x2), .val (.long ((137438952896 : Int64) / (x2.toInt64))), .second] [])) (fun t k => st7 t k) ?_
  refine Go.retV X7 hx hk Bd.returns (hb hby d2_83) (by decide) (by decide) ?_
  rw [e7]
  exact ⟨b6, rfl, N7, KK7, sz_b6, g_b6, F7_x0_length, F7_x0_width, F7_x0_mask, Fw7, by rw [List.map_replicate]; exact V7_b6⟩
theorem d5_0 : decode prog_23_method_9_code 0 = .ok (.lload_n 3, 1) := by decide +kernel
theorem d5_1 : decode prog_23_method_9_code 1 = .ok (.aload_n 0, 1) := by decide +kernel
theorem d5_2 : decode prog_23_method_9_code 2 = .ok (.getfield 34, 3) := by decide +kernel
theorem d5_5 : decode prog_23_method_9_code 5 = .ok (.land, 1) := by decide +kernel
theorem d5_6 : decode prog_23_method_9_code 6 = .ok (.lstore 5, 2) := by decide +kernel
theorem d5_8 : decode prog_23_method_9_code 8 = .ok (.lload_n 1, 1) := by decide +kernel
theorem d5_9 : decode prog_23_method_9_code 9 = .ok (.aload_n 0, 1) := by decide +kernel
theorem d5_10 : decode prog_23_method_9_code 10 = .ok (.getfield 26, 3) := by decide +kernel
theorem d5_13 : decode prog_23_method_9_code 13 = .ok (.i2l, 1) := by decide +kernel
theorem d5_14 : decode prog_23_method_9_code 14 = .ok (.lmul, 1) := by decide +kernel
theorem d5_15 : decode prog_23_method_9_code 15 = .ok (.lstore 7, 2) := by decide +kernel
theorem d5_17 : decode prog_23_method_9_code 17 = .ok (.lload 7, 2) := by decide +kernel
theorem d5_19 : decode prog_23_method_9_code 19 = .ok (.bipush 6, 2) := by decide +kernel
theorem d5_21 : decode prog_23_method_9_code 21 = .ok (.lushr, 1) := by decide +kernel
theorem d5_22 : decode prog_23_method_9_code 22 = .ok (.l2i, 1) := by decide +kernel
theorem d5_23 : decode prog_23_method_9_code 23 = .ok (.istore 9, 2) := by decide +kernel
theorem d5_25 : decode prog_23_method_9_code 25 = .ok (.lload 7, 2) := by decide +kernel
theorem d5_27 : decode prog_23_method_9_code 27 = .ok (.l2i, 1) := by decide +kernel
theorem d5_28 : decode prog_23_method_9_code 28 = .ok (.bipush 63, 2) := by decide +kernel
theorem d5_30 : decode prog_23_method_9_code 30 = .ok (.iand, 1) := by decide +kernel
theorem d5_31 : decode prog_23_method_9_code 31 = .ok (.istore 10, 2) := by decide +kernel
theorem d5_33 : decode prog_23_method_9_code 33 = .ok (.aload_n 0, 1) := by decide +kernel
theorem d5_34 : decode prog_23_method_9_code 34 = .ok (.getfield 39, 3) := by decide +kernel
theorem d5_37 : decode prog_23_method_9_code 37 = .ok (.iload 9, 2) := by decide +kernel
theorem d5_39 : decode prog_23_method_9_code 39 = .ok (.aload_n 0, 1) := by decide +kernel
theorem d5_40 : decode prog_23_method_9_code 40 = .ok (.getfield 39, 3) := by decide +kernel
theorem d5_43 : decode prog_23_method_9_code 43 = .ok (.iload 9, 2) := by decide +kernel
theorem d5_45 : decode prog_23_method_9_code 45 = .ok (.laload, 1) := by decide +kernel
theorem d5_46 : decode prog_23_method_9_code 46 = .ok (.aload_n 0, 1) := by decide +kernel
theorem d5_47 : decode prog_23_method_9_code 47 = .ok (.getfield 34, 3) := by decide +kernel
theorem d5_50 : decode prog_23_method_9_code 50 = .ok (.iload 10, 2) := by decide +kernel
theorem d5_52 : decode prog_23_method_9_code 52 = .ok (.lshl, 1) := by decide +kernel
theorem d5_53 : decode prog_23_method_9_code 53 = .ok (.ldc2_w 30, 3) := by decide +kernel
theorem d5_56 : decode prog_23_method_9_code 56 = .ok (.lxor, 1) := by decide +kernel
theorem d5_57 : decode prog_23_method_9_code 57 = .ok (.land, 1) := by decide +kernel
theorem d5_58 : decode prog_23_method_9_code 58 = .ok (.lload 5, 2) := by decide +kernel
theorem d5_60 : decode prog_23_method_9_code 60 = .ok (.iload 10, 2) := by decide +kernel
theorem d5_62 : decode prog_23_method_9_code 62 = .ok (.lshl, 1) := by decide +kernel
theorem d5_63 : decode prog_23_method_9_code 63 = .ok (.lor, 1) := by decide +kernel
theorem d5_64 : decode prog_23_method_9_code 64 = .ok (.lastore, 1) := by decide +kernel
theorem d5_65 : decode prog_23_method_9_code 65 = .ok (.iload 10, 2) := by decide +kernel
theorem d5_67 : decode prog_23_method_9_code 67 = .ok (.aload_n 0, 1) := by decide +kernel
theorem d5_68 : decode prog_23_method_9_code 68 = .ok (.getfield 26, 3) := by decide +kernel
theorem d5_71 : decode prog_23_method_9_code 71 = .ok (.iadd, 1) := by decide +kernel
theorem d5_72 : decode prog_23_method_9_code 72 = .ok (.bipush 64, 2) := by decide +kernel
theorem d5_74 : decode prog_23_method_9_code 74 = .ok (.if_icmp .le 46, 3) := by decide +kernel
theorem d5_77 : decode prog_23_method_9_code 77 = .ok (.bipush 64, 2) := by decide +kernel
theorem d5_79 : decode prog_23_method_9_code 79 = .ok (.iload 10, 2) := by decide +kernel
theorem d5_81 : decode prog_23_method_9_code 81 = .ok (.isub, 1) := by decide +kernel
theorem d5_82 : decode prog_23_method_9_code 82 = .ok (.istore 11, 2) := by decide +kernel
theorem d5_84 : decode prog_23_method_9_code 84 = .ok (.aload_n 0, 1) := by decide +kernel
theorem d5_85 : decode prog_23_method_9_code 85 = .ok (.getfield 39, 3) := by decide +kernel
theorem d5_88 : decode prog_23_method_9_code 88 = .ok (.iload 9, 2) := by decide +kernel
theorem d5_90 : decode prog_23_method_9_code 90 = .ok (.iconst 1, 1) := by decide +kernel
theorem d5_91 : decode prog_23_method_9_code 91 = .ok (.iadd, 1) := by decide +kernel
theorem d5_92 : decode prog_23_method_9_code 92 = .ok (.aload_n 0, 1) := by decide +kernel
theorem d5_93 : decode prog_23_method_9_code 93 = .ok (.getfield 39, 3) := by decide +kernel
theorem d5_96 : decode prog_23_method_9_code 96 = .ok (.iload 9, 2) := by decide +kernel
theorem d5_98 : decode prog_23_method_9_code 98 = .ok (.iconst 1, 1) := by decide +kernel
theorem d5_99 : decode prog_23_method_9_code 99 = .ok (.iadd, 1) := by decide +kernel
theorem d5_100 : decode prog_23_method_9_code 100 = .ok (.laload, 1) := by decide +kernel
theorem d5_101 : decode prog_23_method_9_code 101 = .ok (.aload_n 0, 1) := by decide +kernel
theorem d5_102 : decode prog_23_method_9_code 102 = .ok (.getfield 34, 3) := by decide +kernel
theorem d5_105 : decode prog_23_method_9_code 105 = .ok (.iload 11, 2) := by decide +kernel
theorem d5_107 : decode prog_23_method_9_code 107 = .ok (.lushr, 1) := by decide +kernel
theorem d5_108 : decode prog_23_method_9_code 108 = .ok (.ldc2_w 30, 3) := by decide +kernel
theorem d5_111 : decode prog_23_method_9_code 111 = .ok (.lxor, 1) := by decide +kernel
theorem d5_112 : decode prog_23_method_9_code 112 = .ok (.land, 1) := by decide +kernel
theorem d5_113 : decode prog_23_method_9_code 113 = .ok (.lload 5, 2) := by decide +kernel
theorem d5_115 : decode prog_23_method_9_code 115 = .ok (.iload 11, 2) := by decide +kernel
theorem d5_117 : decode prog_23_method_9_code 117 = .ok (.lushr, 1) := by decide +kernel
theorem d5_118 : decode prog_23_method_9_code 118 = .ok (.lor, 1) := by decide +kernel
theorem d5_119 : decode prog_23_method_9_code 119 = .ok (.lastore, 1) := by decide +kernel
theorem d5_120 : decode prog_23_method_9_code 120 = .ok (.return_, 1) := by decide +kernel
theorem ef_5 (m : MethodId) (x0 : Addr) (x1 : Int64) (x2 : Int64) : entryFrame m #[(.ref x0), (.long x1), (.long x2)] 12 = mkF m 0 #[.val (.ref x0), .val (.long x1), .second, .val (.long x2), .second, .unset, .unset, .unset, .unset, .unset, .unset, .unset] [] := by first | (simp [entryFrame, mkF, argsToLocals, Value.category]; done) | rfl
def Q5 (Z : State) (x0 : Addr) (x1 : Int64) (x2 : Int64) (uw : Int32) (um : Int64) (ub : Addr) (ws_ : List Int64) (a0_ : Int64) (a1_ : Int64) (h0 : Heap) (n0 : Nat) (v : Option Value) (h : Heap) (L : List Loc) : Prop := v = none ∧ Fr n0 L ∧ Keep h0 h [ub] ∧ VArr Z h ub .long ((setW x1 uw um x2 ws_ a0_ a1_).map Value.long)
set_option maxRecDepth 65536 in
set_option maxHeartbeats 40000000 in
theorem rm5 (l : Launch) (Z : State) (a0 : Array Value) (hw : ∀ d ∈ tables_1, d.before a0 Z = true) (ws : List Jvm.Cond) (x0 : Addr) (x1 : Int64) (x2 : Int64) (uw : Int32) (um : Int64) (ub : Addr) (ws_ : List Int64) (a0_ : Int64) (a1_ : Int64) (h0 : Heap) (n0 : Nat) (Z0 : n0 ≤ h0.size) (F_width : Fld Z h0 x0 "com/example/bloom_filter_variants/bloomfiltervariants/PackedArray" "width" "I" (.int uw)) (F_mask : Fld Z h0 x0 "com/example/bloom_filter_variants/bloomfiltervariants/PackedArray" "mask" "J" (.long um)) (F_words : Fld Z h0 x0 "com/example/bloom_filter_variants/bloomfiltervariants/PackedArray" "words" "[J" (.ref ub)) (V_b : VArr Z h0 ub .long (ws_.map Value.long)) (g_b : n0 ≤ ub) (ne_b : x0 ≠ ub) (hn0 : ¬ wordI x1 uw < 0) (hw0 : ws_[(wordI x1 uw).toNatClampNeg]? = some a0_) (hw1 : (64 : Int32) < shI x1 uw + uw → ¬ (wordI x1 uw + 1) < 0 ∧ (wordI x1 uw).toNatClampNeg ≠ (wordI x1 uw + 1).toNatClampNeg ∧ ws_[(wordI x1 uw + 1).toNatClampNeg]? = some a1_) :
    MetFree l (⟨"com/example/bloom_filter_variants/bloomfiltervariants/PackedArray", "set", "(JJ)V"⟩ : MethodName) (head1 (Jvm.Cond.code (⟨"com/example/bloom_filter_variants/bloomfiltervariants/PackedArray", "set", "(JJ)V"⟩ : MethodName) prog_23_method_9_code 12 none :: ws) ({ frames := 0, cells := 0, slots := 0, locals := 0 } : Room)) (fun a U => a = #[(.ref x0), (.long x1), (.long x2)] ∧ Z.Warmed39 U.vm ∧ U.heap = h0) (fun _ _ _ _ _ => True) (fun _ U o U' => ∃ v L, o = .returned v ∧ Q5 Z x0 x1 x2 uw um ub ws_ a0_ a1_ h0 n0 v U'.heap L ∧ FrameEnd U o U' L ({ frames := 0, cells := 0, slots := 0, locals := 0 } : Room).cells ({ frames := 0, cells := 0, slots := 0, locals := 0 } : Room).slots) := by
  refine MetFree.of_bodySF (plainFor_of_name pn_1) hisR ?_
  intro p e s m args below meth c s₁ Bd hml0 hP hK
  obtain ⟨rfl, hZ, hh⟩ := hP
  have hx := Bd.exec
  have hby := Bd.bytes
  have hml : c.maxLocals = 12 := hml0
  have hown : s.vm.findClass "com/example/bloom_filter_variants/bloomfiltervariants/PackedArray" = some m.cls := findClass_of_methodNamed Bd.named
  have hnm := (name_of_methodNamed Bd.named Bd.method).1
  have hk : meth.locks = false := BodyLoose.notSynchronized Bd
  have X0 : Stand p l e ({ frames := 0, cells := 0, slots := 0, locals := 0 } : Room) s m #[(.ref x0), (.long x1), (.long x2)] below meth c s₁ [] 0 0 := Stand.of_body Bd
  have e0 : s₁.heap = h0 := by rw [← hh, Bd.state]; rfl
  have N0 := Fr.nil n0
  show Go p e below s (Q5 Z x0 x1 x2 uw um ub ws_ a0_ a1_ h0 n0) ({ frames := 0, cells := 0, slots := 0, locals := 0 } : Room).cells ({ frames := 0, cells := 0, slots := 0, locals := 0 } : Room).slots s₁ (entryFrame m #[(.ref x0), (.long x1), (.long x2)] 12)
  refine Go.cast (ef_5 m x0 x1 x2) ?_
  refine Go.of (T' := s₁) (f' := (mkF m 1 #[.val (.ref x0), .val (.long x1), .second, .val (.long x2), .second, .unset, .unset, .unset, .unset, .unset, .unset, .unset] [(.long x2)])) (fun t k => XS.lloadN X0.here hx rfl (hb hby d5_0) rfl k) ?_
  refine Go.of (T' := s₁) (f' := (mkF m 2 #[.val (.ref x0), .val (.long x1), .second, .val (.long x2), .second, .unset, .unset, .unset, .unset, .unset, .unset, .unset] [(.ref x0), (.long x2)])) (fun t k => XS.aloadN X0.here hx rfl (hb hby d5_1) rfl rfl k) ?_
  obtain ⟨T1, X1, e1, st1⟩ := getF X0 hx hZ hown (host := "") (Or.inl (hw _ (List.mem_of_getElem? (i := 23) rfl))) Via.refl e0 F_mask (g := (mkF m 2 #[.val (.ref x0), .val (.long x1), .second, .val (.long x2), .second, .unset, .unset, .unset, .unset, .unset, .unset, .unset] [(.ref x0), (.long x2)])) rfl rfl (hb hby d5_2)
  refine Go.of (T' := T1) (f' := (mkF m 5 #[.val (.ref x0), .val (.long x1), .second, .val (.long x2), .second, .unset, .unset, .unset, .unset, .unset, .unset, .unset] [(.long um), (.long x2)])) (fun t k => st1 t k) ?_
  refine Go.of (T' := T1) (f' := (mkF m 6 #[.val (.ref x0), .val (.long x1), .second, .val (.long x2), .second, .unset, .unset, .unset, .unset, .unset, .unset, .unset] [(.long (x2 &&& um))])) (fun t k => XS.land X1.here hx rfl (hb hby d5_5) rfl k) ?_
  refine Go.of (T' := T1) (f' := (mkF m 8 #[.val (.ref x0), .val (.long x1), .second, .val (.long x2), .second, .val (.long (x2 &&& um)), .second, .unset, .unset, .unset, .unset, .unset] [])) (fun t k => XS.lstore X1.here hx rfl (hb hby d5_6) rfl (l' := #[.val (.ref x0), .val (.long x1), .second, .val (.long x2), .second, .val (.long (x2 &&& um)), .second, .unset, .unset, .unset, .unset, .unset]) rfl k) ?_
  refine Go.of (T' := T1) (f' := (mkF m 9 #[.val (.ref x0), .val (.long x1), .second, .val (.long x2), .second, .val (.long (x2 &&& um)), .second, .unset, .unset, .unset, .unset, .unset] [(.long x1)])) (fun t k => XS.lloadN X1.here hx rfl (hb hby d5_8) rfl k) ?_
  refine Go.of (T' := T1) (f' := (mkF m 10 #[.val (.ref x0), .val (.long x1), .second, .val (.long x2), .second, .val (.long (x2 &&& um)), .second, .unset, .unset, .unset, .unset, .unset] [(.ref x0), (.long x1)])) (fun t k => XS.aloadN X1.here hx rfl (hb hby d5_9) rfl rfl k) ?_
  obtain ⟨T2, X2, e2, st2⟩ := getF X1 hx hZ hown (host := "") (Or.inl (hw _ (List.mem_of_getElem? (i := 20) rfl))) Via.refl e1 F_width (g := (mkF m 10 #[.val (.ref x0), .val (.long x1), .second, .val (.long x2), .second, .val (.long (x2 &&& um)), .second, .unset, .unset, .unset, .unset, .unset] [(.ref x0), (.long x1)])) rfl rfl (hb hby d5_10)
  refine Go.of (T' := T2) (f' := (mkF m 13 #[.val (.ref x0), .val (.long x1), .second, .val (.long x2), .second, .val (.long (x2 &&& um)), .second, .unset, .unset, .unset, .unset, .unset] [(.int uw), (.long x1)])) (fun t k => st2 t k) ?_
  refine Go.of (T' := T2) (f' := (mkF m 14 #[.val (.ref x0), .val (.long x1), .second, .val (.long x2), .second, .val (.long (x2 &&& um)), .second, .unset, .unset, .unset, .unset, .unset] [(.long (uw.toInt64)), (.long x1)])) (fun t k => XS.i2l X2.here hx rfl (hb hby d5_13) rfl k) ?_
  refine Go.of (T' := T2) (f' := (mkF m 15 #[.val (.ref x0), .val (.long x1), .second, .val (.long x2), .second, .val (.long (x2 &&& um)), .second, .unset, .unset, .unset, .unset, .unset] [(.long (x1 * (uw.toInt64)))])) (fun t k => XS.lmul X2.here hx rfl (hb hby d5_14) rfl k) ?_
  refine Go.of (T' := T2) (f' := (mkF m 17 #[.val (.ref x0), .val (.long x1), .second, .val (.long x2), .second, .val (.long (x2 &&& um)), .second, .val (.long (x1 * (uw.toInt64))), .second, .unset, .unset, .unset] [])) (fun t k => XS.lstore X2.here hx rfl (hb hby d5_15) rfl (l' := #[.val (.ref x0), .val (.long x1), .second, .val (.long x2), .second, .val (.long (x2 &&& um)), .second, .val (.long (x1 * (uw.toInt64))), .second, .unset, .unset, .unset]) rfl k) ?_
  refine Go.of (T' := T2) (f' := (mkF m 19 #[.val (.ref x0), .val (.long x1), .second, .val (.long x2), .second, .val (.long (x2 &&& um)), .second, .val (.long (x1 * (uw.toInt64))), .second, .unset, .unset, .unset] [(.long (x1 * (uw.toInt64)))])) (fun t k => XS.lload X2.here hx rfl (hb hby d5_17) rfl k) ?_
  refine Go.of (T' := T2) (f' := (mkF m 21 #[.val (.ref x0), .val (.long x1), .second, .val (.long x2), .second, .val (.long (x2 &&& um)), .second, .val (.long (x1 * (uw.toInt64))), .second, .unset, .unset, .unset] [(.int (6 : Int32)), (.long (x1 * (uw.toInt64)))])) (fun t k => XS.bipush X2.here hx rfl (hb hby d5_19) k) ?_
  refine Go.of (T' := T2) (f' := (mkF m 22 #[.val (.ref x0), .val (.long x1), .second, .val (.long x2), .second, .val (.long (x2 &&& um)), .second, .val (.long (x1 * (uw.toInt64))), .second, .unset, .unset, .unset] [(.long (((x1 * (uw.toInt64)).toUInt64 >>> ((6 : Int32) &&& 0x3f).toInt64.toUInt64).toInt64))])) (fun t k => XS.lushr X2.here hx rfl (hb hby d5_21) rfl k) ?_
  refine Go.of (T' := T2) (f' := (mkF m 23 #[.val (.ref x0), .val (.long x1), .second, .val (.long x2), .second, .val (.long (x2 &&& um)), .second, .val (.long (x1 * (uw.toInt64))), .second, .unset, .unset, .unset] [(.int ((((x1 * (uw.toInt64)).toUInt64 >>> ((6 : Int32) &&& 0x3f).toInt64.toUInt64).toInt64).toInt32))])) (fun t k => XS.l2i X2.here hx rfl (hb hby d5_22) rfl k) ?_
  refine Go.of (T' := T2) (f' := (mkF m 25 #[.val (.ref x0), .val (.long x1), .second, .val (.long x2), .second, .val (.long (x2 &&& um)), .second, .val (.long (x1 * (uw.toInt64))), .second, .val (.int ((((x1 * (uw.toInt64)).toUInt64 >>> ((6 : Int32) &&& 0x3f).toInt64.toUInt64).toInt64).toInt32)), .unset, .unset] [])) (fun t k => XS.istore X2.here hx rfl (hb hby d5_23) rfl (l' := #[.val (.ref x0), .val (.long x1), .second, .val (.long x2), .second, .val (.long (x2 &&& um)), .second, .val (.long (x1 * (uw.toInt64))), .second, .val (.int ((((x1 * (uw.toInt64)).toUInt64 >>> ((6 : Int32) &&& 0x3f).toInt64.toUInt64).toInt64).toInt32)), .unset, .unset]) rfl k) ?_
  refine Go.of (T' := T2) (f' := (mkF m 27 #[.val (.ref x0), .val (.long x1), .second, .val (.long x2), .second, .val (.long (x2 &&& um)), .second, .val (.long (x1 * (uw.toInt64))), .second, .val (.int ((((x1 * (uw.toInt64)).toUInt64 >>> ((6 : Int32) &&& 0x3f).toInt64.toUInt64).toInt64).toInt32)), .unset, .unset] [(.long (x1 * (uw.toInt64)))])) (fun t k => XS.lload X2.here hx rfl (hb hby d5_25) rfl k) ?_
  refine Go.of (T' := T2) (f' := (mkF m 28 #[.val (.ref x0), .val (.long x1), .second, .val (.long x2), .second, .val (.long (x2 &&& um)), .second, .val (.long (x1 * (uw.toInt64))), .second, .val (.int ((((x1 * (uw.toInt64)).toUInt64 >>> ((6 : Int32) &&& 0x3f).toInt64.toUInt64).toInt64).toInt32)), .unset, .unset] [(.int ((x1 * (uw.toInt64)).toInt32))])) (fun t k => XS.l2i X2.here hx rfl (hb hby d5_27) rfl k) ?_
  refine Go.of (T' := T2) (f' := (mkF m 30 #[.val (.ref x0), .val (.long x1), .second, .val (.long x2), .second, .val (.long (x2 &&& um)), .second, .val (.long (x1 * (uw.toInt64))), .second, .val (.int ((((x1 * (uw.toInt64)).toUInt64 >>> ((6 : Int32) &&& 0x3f).toInt64.toUInt64).toInt64).toInt32)), .unset, .unset] [(.int (63 : Int32)), (.int ((x1 * (uw.toInt64)).toInt32))])) (fun t k => XS.bipush X2.here hx rfl (hb hby d5_28) k) ?_
  refine Go.of (T' := T2) (f' := (mkF m 31 #[.val (.ref x0), .val (.long x1), .second, .val (.long x2), .second, .val (.long (x2 &&& um)), .second, .val (.long (x1 * (uw.toInt64))), .second, .val (.int ((((x1 * (uw.toInt64)).toUInt64 >>> ((6 : Int32) &&& 0x3f).toInt64.toUInt64).toInt64).toInt32)), .unset, .unset] [(.int (((x1 * (uw.toInt64)).toInt32) &&& (63 : Int32)))])) (fun t k => XS.iand X2.here hx rfl (hb hby d5_30) rfl k) ?_
  refine Go.of (T' := T2) (f' := (mkF m 33 #[.val (.ref x0), .val (.long x1), .second, .val (.long x2), .second, .val (.long (x2 &&& um)), .second, .val (.long (x1 * (uw.toInt64))), .second, .val (.int ((((x1 * (uw.toInt64)).toUInt64 >>> ((6 : Int32) &&& 0x3f).toInt64.toUInt64).toInt64).toInt32)), .val (.int (((x1 * (uw.toInt64)).toInt32) &&& (63 : Int32))), .unset] [])) (fun t k => XS.istore X2.here hx rfl (hb hby d5_31) rfl (l' := #[.val (.ref x0), .val (.long x1), .second, .val (.long x2), .second, .val (.long (x2 &&& um)), .second, .val (.long (x1 * (uw.toInt64))), .second, .val (.int ((((x1 * (uw.toInt64)).toUInt64 >>> ((6 : Int32) &&& 0x3f).toInt64.toUInt64).toInt64).toInt32)), .val (.int (((x1 * (uw.toInt64)).toInt32) &&& (63 : Int32))), .unset]) rfl k) ?_
  refine Go.of (T' := T2) (f' := (mkF m 34 #[.val (.ref x0), .val (.long x1), .second, .val (.long x2), .second, .val (.long (x2 &&& um)), .second, .val (.long (x1 * (uw.toInt64))), .second, .val (.int ((((x1 * (uw.toInt64)).toUInt64 >>> ((6 : Int32) &&& 0x3f).toInt64.toUInt64).toInt64).toInt32)), .val (.int (((x1 * (uw.toInt64)).toInt32) &&& (63 : Int32))), .unset] [(.ref x0)])) (fun t k => XS.aloadN X2.here hx rfl (hb hby d5_33) rfl rfl k) ?_
  obtain ⟨T3, X3, e3, st3⟩ := getF X2 hx hZ hown (host := "") (Or.inl (hw _ (List.mem_of_getElem? (i := 27) rfl))) Via.refl e2 F_words (g := (mkF m 34 #[.val (.ref x0), .val (.long x1), .second, .val (.long x2), .second, .val (.long (x2 &&& um)), .second, .val (.long (x1 * (uw.toInt64))), .second, .val (.int ((((x1 * (uw.toInt64)).toUInt64 >>> ((6 : Int32) &&& 0x3f).toInt64.toUInt64).toInt64).toInt32)), .val (.int (((x1 * (uw.toInt64)).toInt32) &&& (63 : Int32))), .unset] [(.ref x0)])) rfl rfl (hb hby d5_34)
  refine Go.of (T' := T3) (f' := (mkF m 37 #[.val (.ref x0), .val (.long x1), .second, .val (.long x2), .second, .val (.long (x2 &&& um)), .second, .val (.long (x1 * (uw.toInt64))), .second, .val (.int ((((x1 * (uw.toInt64)).toUInt64 >>> ((6 : Int32) &&& 0x3f).toInt64.toUInt64).toInt64).toInt32)), .val (.int (((x1 * (uw.toInt64)).toInt32) &&& (63 : Int32))), .unset] [(.ref ub)])) (fun t k => st3 t k) ?_
  refine Go.of (T' := T3) (f' := (mkF m 39 #[.val (.ref x0), .val (.long x1), .second, .val (.long x2), .second, .val (.long (x2 &&& um)), .second, .val (.long (x1 * (uw.toInt64))), .second, .val (.int ((((x1 * (uw.toInt64)).toUInt64 >>> ((6 : Int32) &&& 0x3f).toInt64.toUInt64).toInt64).toInt32)), .val (.int (((x1 * (uw.toInt64)).toInt32) &&& (63 : Int32))), .unset] [(.int ((((x1 * (uw.toInt64)).toUInt64 >>> ((6 : Int32) &&& 0x3f).toInt64.toUInt64).toInt64).toInt32)), (.ref ub)])) (fun t k => XS.iload X3.here hx rfl (hb hby d5_37) rfl k) ?_
  refine Go.of (T' := T3) (f' := (mkF m 40 #[.val (.ref x0), .val (.long x1), .second, .val (.long x2), .second, .val (.long (x2 &&& um)), .second, .val (.long (x1 * (uw.toInt64))), .second, .val (.int ((((x1 * (uw.toInt64)).toUInt64 >>> ((6 : Int32) &&& 0x3f).toInt64.toUInt64).toInt64).toInt32)), .val (.int (((x1 * (uw.toInt64)).toInt32) &&& (63 : Int32))), .unset] [(.ref x0), (.int ((((x1 * (uw.toInt64)).toUInt64 >>> ((6 : Int32) &&& 0x3f).toInt64.toUInt64).toInt64).toInt32)), (.ref ub)])) (fun t k => XS.aloadN X3.here hx rfl (hb hby d5_39) rfl rfl k) ?_
  obtain ⟨T4, X4, e4, st4⟩ := getF X3 hx hZ hown (host := "") (Or.inl (hw _ (List.mem_of_getElem? (i := 27) rfl))) Via.refl e3 F_words (g := (mkF m 40 #[.val (.ref x0), .val (.long x1), .second, .val (.long x2), .second, .val (.long (x2 &&& um)), .second, .val (.long (x1 * (uw.toInt64))), .second, .val (.int ((((x1 * (uw.toInt64)).toUInt64 >>> ((6 : Int32) &&& 0x3f).toInt64.toUInt64).toInt64).toInt32)), .val (.int (((x1 * (uw.toInt64)).toInt32) &&& (63 : Int32))), .unset] [(.ref x0), (.int ((((x1 * (uw.toInt64)).toUInt64 >>> ((6 : Int32) &&& 0x3f).toInt64.toUInt64).toInt64).toInt32)), (.ref ub)])) rfl rfl (hb hby d5_40)
  refine Go.of (T' := T4) (f' := (mkF m 43 #[.val (.ref x0), .val (.long x1), .second, .val (.long x2), .second, .val (.long (x2 &&& um)), .second, .val (.long (x1 * (uw.toInt64))), .second, .val (.int ((((x1 * (uw.toInt64)).toUInt64 >>> ((6 : Int32) &&& 0x3f).toInt64.toUInt64).toInt64).toInt32)), .val (.int (((x1 * (uw.toInt64)).toInt32) &&& (63 : Int32))), .unset] [(.ref ub), (.int ((((x1 * (uw.toInt64)).toUInt64 >>> ((6 : Int32) &&& 0x3f).toInt64.toUInt64).toInt64).toInt32)), (.ref ub)])) (fun t k => st4 t k) ?_
  refine Go.of (T' := T4) (f' := (mkF m 45 #[.val (.ref x0), .val (.long x1), .second, .val (.long x2), .second, .val (.long (x2 &&& um)), .second, .val (.long (x1 * (uw.toInt64))), .second, .val (.int ((((x1 * (uw.toInt64)).toUInt64 >>> ((6 : Int32) &&& 0x3f).toInt64.toUInt64).toInt64).toInt32)), .val (.int (((x1 * (uw.toInt64)).toInt32) &&& (63 : Int32))), .unset] [(.int ((((x1 * (uw.toInt64)).toUInt64 >>> ((6 : Int32) &&& 0x3f).toInt64.toUInt64).toInt64).toInt32)), (.ref ub), (.int ((((x1 * (uw.toInt64)).toUInt64 >>> ((6 : Int32) &&& 0x3f).toInt64.toUInt64).toInt64).toInt32)), (.ref ub)])) (fun t k => XS.iload X4.here hx rfl (hb hby d5_43) rfl k) ?_
  refine Go.of (T' := T4) (f' := (mkF m 46 #[.val (.ref x0), .val (.long x1), .second, .val (.long x2), .second, .val (.long (x2 &&& um)), .second, .val (.long (x1 * (uw.toInt64))), .second, .val (.int ((((x1 * (uw.toInt64)).toUInt64 >>> ((6 : Int32) &&& 0x3f).toInt64.toUInt64).toInt64).toInt32)), .val (.int (((x1 * (uw.toInt64)).toInt32) &&& (63 : Int32))), .unset] [(.long a0_), (.int ((((x1 * (uw.toInt64)).toUInt64 >>> ((6 : Int32) &&& 0x3f).toInt64.toUInt64).toInt64).toInt32)), (.ref ub)])) (fun t k => ldJ X4 hx hZ e4 V_b (j := ((((x1 * (uw.toInt64)).toUInt64 >>> ((6 : Int32) &&& 0x3f).toInt64.toUInt64).toInt64).toInt32)) (v := (.long a0_)) hn0 rfl (atmap hw0) (g := (mkF m 45 #[.val (.ref x0), .val (.long x1), .second, .val (.long x2), .second, .val (.long (x2 &&& um)), .second, .val (.long (x1 * (uw.toInt64))), .second, .val (.int ((((x1 * (uw.toInt64)).toUInt64 >>> ((6 : Int32) &&& 0x3f).toInt64.toUInt64).toInt64).toInt32)), .val (.int (((x1 * (uw.toInt64)).toInt32) &&& (63 : Int32))), .unset] [(.int ((((x1 * (uw.toInt64)).toUInt64 >>> ((6 : Int32) &&& 0x3f).toInt64.toUInt64).toInt64).toInt32)), (.ref ub), (.int ((((x1 * (uw.toInt64)).toUInt64 >>> ((6 : Int32) &&& 0x3f).toInt64.toUInt64).toInt64).toInt32)), (.ref ub)])) rfl rfl (hb hby d5_45) t k) ?_
  refine Go.of (T' := T4) (f' := (mkF m 47 #[.val (.ref x0), .val (.long x1), .second, .val (.long x2), .second, .val (.long (x2 &&& um)), .second, .val (.long (x1 * (uw.toInt64))), .second, .val (.int ((((x1 * (uw.toInt64)).toUInt64 >>> ((6 : Int32) &&& 0x3f).toInt64.toUInt64).toInt64).toInt32)), .val (.int (((x1 * (uw.toInt64)).toInt32) &&& (63 : Int32))), .unset] [(.ref x0), (.long a0_), (.int ((((x1 * (uw.toInt64)).toUInt64 >>> ((6 : Int32) &&& 0x3f).toInt64.toUInt64).toInt64).toInt32)), (.ref ub)])) (fun t k => XS.aloadN X4.here hx rfl (hb hby d5_46) rfl rfl k) ?_
  obtain ⟨T5, X5, e5, st5⟩ := getF X4 hx hZ hown (host := "") (Or.inl (hw _ (List.mem_of_getElem? (i := 23) rfl))) Via.refl e4 F_mask (g := (mkF m 47 #[.val (.ref x0), .val (.long x1), .second, .val (.long x2), .second, .val (.long (x2 &&& um)), .second, .val (.long (x1 * (uw.toInt64))), .second, .val (.int ((((x1 * (uw.toInt64)).toUInt64 >>> ((6 : Int32) &&& 0x3f).toInt64.toUInt64).toInt64).toInt32)), .val (.int (((x1 * (uw.toInt64)).toInt32) &&& (63 : Int32))), .unset] [(.ref x0), (.long a0_), (.int ((((x1 * (uw.toInt64)).toUInt64 >>> ((6 : Int32) &&& 0x3f).toInt64.toUInt64).toInt64).toInt32)), (.ref ub)])) rfl rfl (hb hby d5_47)
  refine Go.of (T' := T5) (f' := (mkF m 50 #[.val (.ref x0), .val (.long x1), .second, .val (.long x2), .second, .val (.long (x2 &&& um)), .second, .val (.long (x1 * (uw.toInt64))), .second, .val (.int ((((x1 * (uw.toInt64)).toUInt64 >>> ((6 : Int32) &&& 0x3f).toInt64.toUInt64).toInt64).toInt32)), .val (.int (((x1 * (uw.toInt64)).toInt32) &&& (63 : Int32))), .unset] [(.long um), (.long a0_), (.int ((((x1 * (uw.toInt64)).toUInt64 >>> ((6 : Int32) &&& 0x3f).toInt64.toUInt64).toInt64).toInt32)), (.ref ub)])) (fun t k => st5 t k) ?_
  refine Go.of (T' := T5) (f' := (mkF m 52 #[.val (.ref x0), .val (.long x1), .second, .val (.long x2), .second, .val (.long (x2 &&& um)), .second, .val (.long (x1 * (uw.toInt64))), .second, .val (.int ((((x1 * (uw.toInt64)).toUInt64 >>> ((6 : Int32) &&& 0x3f).toInt64.toUInt64).toInt64).toInt32)), .val (.int (((x1 * (uw.toInt64)).toInt32) &&& (63 : Int32))), .unset] [(.int (((x1 * (uw.toInt64)).toInt32) &&& (63 : Int32))), (.long um), (.long a0_), (.int ((((x1 * (uw.toInt64)).toUInt64 >>> ((6 : Int32) &&& 0x3f).toInt64.toUInt64).toInt64).toInt32)), (.ref ub)])) (fun t k => XS.iload X5.here hx rfl (hb hby d5_50) rfl k) ?_
  refine Go.of (T' := T5) (f' := (mkF m 53 #[.val (.ref x0), .val (.long x1), .second, .val (.long x2), .second, .val (.long (x2 &&& um)), .second, .val (.long (x1 * (uw.toInt64))), .second, .val (.int ((((x1 * (uw.toInt64)).toUInt64 >>> ((6 : Int32) &&& 0x3f).toInt64.toUInt64).toInt64).toInt32)), .val (.int (((x1 * (uw.toInt64)).toInt32) &&& (63 : Int32))), .unset] [(.long (um <<< ((((x1 * (uw.toInt64)).toInt32) &&& (63 : Int32)) &&& 0x3f).toInt64)), (.long a0_), (.int ((((x1 * (uw.toInt64)).toUInt64 >>> ((6 : Int32) &&& 0x3f).toInt64.toUInt64).toInt64).toInt32)), (.ref ub)])) (fun t k => XS.lshl X5.here hx rfl (hb hby d5_52) rfl k) ?_
  refine Go.of (T' := T5) (f' := (mkF m 56 #[.val (.ref x0), .val (.long x1), .second, .val (.long x2), .second, .val (.long (x2 &&& um)), .second, .val (.long (x1 * (uw.toInt64))), .second, .val (.int ((((x1 * (uw.toInt64)).toUInt64 >>> ((6 : Int32) &&& 0x3f).toInt64.toUInt64).toInt64).toInt32)), .val (.int (((x1 * (uw.toInt64)).toInt32) &&& (63 : Int32))), .unset] [(.long (-1 : Int64)), (.long (um <<< ((((x1 * (uw.toInt64)).toInt32) &&& (63 : Int32)) &&& 0x3f).toInt64)), (.long a0_), (.int ((((x1 * (uw.toInt64)).toUInt64 >>> ((6 : Int32) &&& 0x3f).toInt64.toUInt64).toInt64).toInt32)), (.ref ub)])) (fun t k => X5.ldc2Long hx hown (mvT hZ (hw _ (List.mem_of_getElem? (i := 22) rfl))) (g := (mkF m 53 #[.val (.ref x0), .val (.long x1), .second, .val (.long x2), .second, .val (.long (x2 &&& um)), .second, .val (.long (x1 * (uw.toInt64))), .second, .val (.int ((((x1 * (uw.toInt64)).toUInt64 >>> ((6 : Int32) &&& 0x3f).toInt64.toUInt64).toInt64).toInt32)), .val (.int (((x1 * (uw.toInt64)).toInt32) &&& (63 : Int32))), .unset] [(.long (um <<< ((((x1 * (uw.toInt64)).toInt32) &&& (63 : Int32)) &&& 0x3f).toInt64)), (.long a0_), (.int ((((x1 * (uw.toInt64)).toUInt64 >>> ((6 : Int32) &&& 0x3f).toInt64.toUInt64).toInt64).toInt32)), (.ref ub)])) rfl (hb hby d5_53) t k) ?_
  refine Go.of (T' := T5) (f' := (mkF m 57 #[.val (.ref x0), .val (.long x1), .second, .val (.long x2), .second, .val (.long (x2 &&& um)), .second, .val (.long (x1 * (uw.toInt64))), .second, .val (.int ((((x1 * (uw.toInt64)).toUInt64 >>> ((6 : Int32) &&& 0x3f).toInt64.toUInt64).toInt64).toInt32)), .val (.int (((x1 * (uw.toInt64)).toInt32) &&& (63 : Int32))), .unset] [(.long ((um <<< ((((x1 * (uw.toInt64)).toInt32) &&& (63 : Int32)) &&& 0x3f).toInt64) ^^^ (-1 : Int64))), (.long a0_), (.int ((((x1 * (uw.toInt64)).toUInt64 >>> ((6 : Int32) &&& 0x3f).toInt64.toUInt64).toInt64).toInt32)), (.ref ub)])) (fun t k => XS.lxor X5.here hx rfl (hb hby d5_56) rfl k) ?_
  refine Go.of (T' := T5) (f' := (mkF m 58 #[.val (.ref x0), .val (.long x1), .second, .val (.long x2), .second, .val (.long (x2 &&& um)), .second, .val (.long (x1 * (uw.toInt64))), .second, .val (.int ((((x1 * (uw.toInt64)).toUInt64 >>> ((6 : Int32) &&& 0x3f).toInt64.toUInt64).toInt64).toInt32)), .val (.int (((x1 * (uw.toInt64)).toInt32) &&& (63 : Int32))), .unset] [(.long (a0_ &&& ((um <<< ((((x1 * (uw.toInt64)).toInt32) &&& (63 : Int32)) &&& 0x3f).toInt64) ^^^ (-1 : Int64)))), (.int ((((x1 * (uw.toInt64)).toUInt64 >>> ((6 : Int32) &&& 0x3f).toInt64.toUInt64).toInt64).toInt32)), (.ref ub)])) (fun t k => XS.land X5.here hx rfl (hb hby d5_57) rfl k) ?_
  refine Go.of (T' := T5) (f' := (mkF m 60 #[.val (.ref x0), .val (.long x1), .second, .val (.long x2), .second, .val (.long (x2 &&& um)), .second, .val (.long (x1 * (uw.toInt64))), .second, .val (.int ((((x1 * (uw.toInt64)).toUInt64 >>> ((6 : Int32) &&& 0x3f).toInt64.toUInt64).toInt64).toInt32)), .val (.int (((x1 * (uw.toInt64)).toInt32) &&& (63 : Int32))), .unset] [(.long (x2 &&& um)), (.long (a0_ &&& ((um <<< ((((x1 * (uw.toInt64)).toInt32) &&& (63 : Int32)) &&& 0x3f).toInt64) ^^^ (-1 : Int64)))), (.int ((((x1 * (uw.toInt64)).toUInt64 >>> ((6 : Int32) &&& 0x3f).toInt64.toUInt64).toInt64).toInt32)), (.ref ub)])) (fun t k => XS.lload X5.here hx rfl (hb hby d5_58) rfl k) ?_
  refine Go.of (T' := T5) (f' := (mkF m 62 #[.val (.ref x0), .val (.long x1), .second, .val (.long x2), .second, .val (.long (x2 &&& um)), .second, .val (.long (x1 * (uw.toInt64))), .second, .val (.int ((((x1 * (uw.toInt64)).toUInt64 >>> ((6 : Int32) &&& 0x3f).toInt64.toUInt64).toInt64).toInt32)), .val (.int (((x1 * (uw.toInt64)).toInt32) &&& (63 : Int32))), .unset] [(.int (((x1 * (uw.toInt64)).toInt32) &&& (63 : Int32))), (.long (x2 &&& um)), (.long (a0_ &&& ((um <<< ((((x1 * (uw.toInt64)).toInt32) &&& (63 : Int32)) &&& 0x3f).toInt64) ^^^ (-1 : Int64)))), (.int ((((x1 * (uw.toInt64)).toUInt64 >>> ((6 : Int32) &&& 0x3f).toInt64.toUInt64).toInt64).toInt32)), (.ref ub)])) (fun t k => XS.iload X5.here hx rfl (hb hby d5_60) rfl k) ?_
  refine Go.of (T' := T5) (f' := (mkF m 63 #[.val (.ref x0), .val (.long x1), .second, .val (.long x2), .second, .val (.long (x2 &&& um)), .second, .val (.long (x1 * (uw.toInt64))), .second, .val (.int ((((x1 * (uw.toInt64)).toUInt64 >>> ((6 : Int32) &&& 0x3f).toInt64.toUInt64).toInt64).toInt32)), .val (.int (((x1 * (uw.toInt64)).toInt32) &&& (63 : Int32))), .unset] [(.long ((x2 &&& um) <<< ((((x1 * (uw.toInt64)).toInt32) &&& (63 : Int32)) &&& 0x3f).toInt64)), (.long (a0_ &&& ((um <<< ((((x1 * (uw.toInt64)).toInt32) &&& (63 : Int32)) &&& 0x3f).toInt64) ^^^ (-1 : Int64)))), (.int ((((x1 * (uw.toInt64)).toUInt64 >>> ((6 : Int32) &&& 0x3f).toInt64.toUInt64).toInt64).toInt32)), (.ref ub)])) (fun t k => XS.lshl X5.here hx rfl (hb hby d5_62) rfl k) ?_
  refine Go.of (T' := T5) (f' := (mkF m 64 #[.val (.ref x0), .val (.long x1), .second, .val (.long x2), .second, .val (.long (x2 &&& um)), .second, .val (.long (x1 * (uw.toInt64))), .second, .val (.int ((((x1 * (uw.toInt64)).toUInt64 >>> ((6 : Int32) &&& 0x3f).toInt64.toUInt64).toInt64).toInt32)), .val (.int (((x1 * (uw.toInt64)).toInt32) &&& (63 : Int32))), .unset] [(.long ((a0_ &&& ((um <<< ((((x1 * (uw.toInt64)).toInt32) &&& (63 : Int32)) &&& 0x3f).toInt64) ^^^ (-1 : Int64))) ||| ((x2 &&& um) <<< ((((x1 * (uw.toInt64)).toInt32) &&& (63 : Int32)) &&& 0x3f).toInt64))), (.int ((((x1 * (uw.toInt64)).toUInt64 >>> ((6 : Int32) &&& 0x3f).toInt64.toUInt64).toInt64).toInt32)), (.ref ub)])) (fun t k => XS.lor X5.here hx rfl (hb hby d5_63) rfl k) ?_
  obtain ⟨T6, h6, X6, e6, W6, V6, st6⟩ := saJ X5 hx hZ e5 V_b (j := ((((x1 * (uw.toInt64)).toUInt64 >>> ((6 : Int32) &&& 0x3f).toInt64.toUInt64).toInt64).toInt32)) (x := ((a0_ &&& ((um <<< ((((x1 * (uw.toInt64)).toInt32) &&& (63 : Int32)) &&& 0x3f).toInt64) ^^^ (-1 : Int64))) ||| ((x2 &&& um) <<< ((((x1 * (uw.toInt64)).toInt32) &&& (63 : Int32)) &&& 0x3f).toInt64))) hn0 rfl (by rw [List.length_map]; exact (List.getElem?_eq_some_iff.mp hw0).1) (g := (mkF m 64 #[.val (.ref x0), .val (.long x1), .second, .val (.long x2), .second, .val (.long (x2 &&& um)), .second, .val (.long (x1 * (uw.toInt64))), .second, .val (.int ((((x1 * (uw.toInt64)).toUInt64 >>> ((6 : Int32) &&& 0x3f).toInt64.toUInt64).toInt64).toInt32)), .val (.int (((x1 * (uw.toInt64)).toInt32) &&& (63 : Int32))), .unset] [(.long ((a0_ &&& ((um <<< ((((x1 * (uw.toInt64)).toInt32) &&& (63 : Int32)) &&& 0x3f).toInt64) ^^^ (-1 : Int64))) ||| ((x2 &&& um) <<< ((((x1 * (uw.toInt64)).toInt32) &&& (63 : Int32)) &&& 0x3f).toInt64))), (.int ((((x1 * (uw.toInt64)).toUInt64 >>> ((6 : Int32) &&& 0x3f).toInt64.toUInt64).toInt64).toInt32)), (.ref ub)])) rfl rfl (hb hby d5_64)
  have F6_x0_width : Fld Z h6 x0 "com/example/bloom_filter_variants/bloomfiltervariants/PackedArray" "width" "I" (.int uw) := F_width.other W6 (Or.inl ne_b)
  have F6_x0_mask : Fld Z h6 x0 "com/example/bloom_filter_variants/bloomfiltervariants/PackedArray" "mask" "J" (.long um) := F_mask.other W6 (Or.inl ne_b)
  have F6_x0_words : Fld Z h6 x0 "com/example/bloom_filter_variants/bloomfiltervariants/PackedArray" "words" "[J" (.ref ub) := F_words.other W6 (Or.inl ne_b)
  have N6 := Fr.snoc X6 N0 g_b
  have KK6 : Keep h0 h6 [ub] := (Keep.refl h0 [ub]).wr W6 (Or.inl (List.mem_of_getElem? (i := 0) rfl))
  have ZS6 : n0 ≤ h6.size := Nat.le_trans Z0 (Keep.of_wr W6).1
  refine Go.of (T' := T6) (f' := (mkF m 65 #[.val (.ref x0), .val (.long x1), .second, .val (.long x2), .second, .val (.long (x2 &&& um)), .second, .val (.long (x1 * (uw.toInt64))), .second, .val (.int ((((x1 * (uw.toInt64)).toUInt64 >>> ((6 : Int32) &&& 0x3f).toInt64.toUInt64).toInt64).toInt32)), .val (.int (((x1 * (uw.toInt64)).toInt32) &&& (63 : Int32))), .unset] [])) (fun t k => st6 t k) ?_
  refine Go.of (T' := T6) (f' := (mkF m 67 #[.val (.ref x0), .val (.long x1), .second, .val (.long x2), .second, .val (.long (x2 &&& um)), .second, .val (.long (x1 * (uw.toInt64))), .second, .val (.int ((((x1 * (uw.toInt64)).toUInt64 >>> ((6 : Int32) &&& 0x3f).toInt64.toUInt64).toInt64).toInt32)), .val (.int (((x1 * (uw.toInt64)).toInt32) &&& (63 : Int32))), .unset] [(.int (((x1 * (uw.toInt64)).toInt32) &&& (63 : Int32)))])) (fun t k => XS.iload X6.here hx rfl (hb hby d5_65) rfl k) ?_
  refine Go.of (T' := T6) (f' := (mkF m 68 #[.val (.ref x0), .val (.long x1), .second, .val (.long x2), .second, .val (.long (x2 &&& um)), .second, .val (.long (x1 * (uw.toInt64))), .second, .val (.int ((((x1 * (uw.toInt64)).toUInt64 >>> ((6 : Int32) &&& 0x3f).toInt64.toUInt64).toInt64).toInt32)), .val (.int (((x1 * (uw.toInt64)).toInt32) &&& (63 : Int32))), .unset] [(.ref x0), (.int (((x1 * (uw.toInt64)).toInt32) &&& (63 : Int32)))])) (fun t k => XS.aloadN X6.here hx rfl (hb hby d5_67) rfl rfl k) ?_
  obtain ⟨T7, X7, e7, st7⟩ := getF X6 hx hZ hown (host := "") (Or.inl (hw _ (List.mem_of_getElem? (i := 20) rfl))) Via.refl e6 F6_x0_width (g := (mkF m 68 #[.val (.ref x0), .val (.long x1), .second, .val (.long x2), .second, .val (.long (x2 &&& um)), .second, .val (.long (x1 * (uw.toInt64))), .second, .val (.int ((((x1 * (uw.toInt64)).toUInt64 >>> ((6 : Int32) &&& 0x3f).toInt64.toUInt64).toInt64).toInt32)), .val (.int (((x1 * (uw.toInt64)).toInt32) &&& (63 : Int32))), .unset] [(.ref x0), (.int (((x1 * (uw.toInt64)).toInt32) &&& (63 : Int32)))])) rfl rfl (hb hby d5_68)
  refine Go.of (T' := T7) (f' := (mkF m 71 #[.val (.ref x0), .val (.long x1), .second, .val (.long x2), .second, .val (.long (x2 &&& um)), .second, .val (.long (x1 * (uw.toInt64))), .second, .val (.int ((((x1 * (uw.toInt64)).toUInt64 >>> ((6 : Int32) &&& 0x3f).toInt64.toUInt64).toInt64).toInt32)), .val (.int (((x1 * (uw.toInt64)).toInt32) &&& (63 : Int32))), .unset] [(.int uw), (.int (((x1 * (uw.toInt64)).toInt32) &&& (63 : Int32)))])) (fun t k => st7 t k) ?_
  refine Go.of (T' := T7) (f' := (mkF m 72 #[.val (.ref x0), .val (.long x1), .second, .val (.long x2), .second, .val (.long (x2 &&& um)), .second, .val (.long (x1 * (uw.toInt64))), .second, .val (.int ((((x1 * (uw.toInt64)).toUInt64 >>> ((6 : Int32) &&& 0x3f).toInt64.toUInt64).toInt64).toInt32)), .val (.int (((x1 * (uw.toInt64)).toInt32) &&& (63 : Int32))), .unset] [(.int ((((x1 * (uw.toInt64)).toInt32) &&& (63 : Int32)) + uw))])) (fun t k => XS.iadd X7.here hx rfl (hb hby d5_71) rfl k) ?_
  refine Go.of (T' := T7) (f' := (mkF m 74 #[.val (.ref x0), .val (.long x1), .second, .val (.long x2), .second, .val (.long (x2 &&& um)), .second, .val (.long (x1 * (uw.toInt64))), .second, .val (.int ((((x1 * (uw.toInt64)).toUInt64 >>> ((6 : Int32) &&& 0x3f).toInt64.toUInt64).toInt64).toInt32)), .val (.int (((x1 * (uw.toInt64)).toInt32) &&& (63 : Int32))), .unset] [(.int (64 : Int32)), (.int ((((x1 * (uw.toInt64)).toInt32) &&& (63 : Int32)) + uw))])) (fun t k => XS.bipush X7.here hx rfl (hb hby d5_72) k) ?_
  by_cases hc74 : (64 : Int32) < ((((x1 * (uw.toInt64)).toInt32) &&& (63 : Int32)) + uw)
  · -- pc 74: no
    refine Go.of (T' := T7) (f' := (mkF m 77 #[.val (.ref x0), .val (.long x1), .second, .val (.long x2), .second, .val (.long (x2 &&& um)), .second, .val (.long (x1 * (uw.toInt64))), .second, .val (.int ((((x1 * (uw.toInt64)).toUInt64 >>> ((6 : Int32) &&& 0x3f).toInt64.toUInt64).toInt64).toInt32)), .val (.int (((x1 * (uw.toInt64)).toInt32) &&& (63 : Int32))), .unset] [])) (fun t k => XS.icmpNo X7.here hx rfl (hb hby d5_74) rfl ((tlt hc74).2.2.2) k) ?_
    refine Go.of (T' := T7) (f' := (mkF m 79 #[.val (.ref x0), .val (.long x1), .second, .val (.long x2), .second, .val (.long (x2 &&& um)), .second, .val (.long (x1 * (uw.toInt64))), .second, .val (.int ((((x1 * (uw.toInt64)).toUInt64 >>> ((6 : Int32) &&& 0x3f).toInt64.toUInt64).toInt64).toInt32)), .val (.int (((x1 * (uw.toInt64)).toInt32) &&& (63 : Int32))), .unset] [(.int (64 : Int32))])) (fun t k => XS.bipush X7.here hx rfl (hb hby d5_77) k) ?_
    refine Go.of (T' := T7) (f' := (mkF m 81 #[.val (.ref x0), .val (.long x1), .second, .val (.long x2), .second, .val (.long (x2 &&& um)), .second, .val (.long (x1 * (uw.toInt64))), .second, .val (.int ((((x1 * (uw.toInt64)).toUInt64 >>> ((6 : Int32) &&& 0x3f).toInt64.toUInt64).toInt64).toInt32)), .val (.int (((x1 * (uw.toInt64)).toInt32) &&& (63 : Int32))), .unset] [(.int (((x1 * (uw.toInt64)).toInt32) &&& (63 : Int32))), (.int (64 : Int32))])) (fun t k => XS.iload X7.here hx rfl (hb hby d5_79) rfl k) ?_
    refine Go.of (T' := T7) (f' := (mkF m 82 #[.val (.ref x0), .val (.long x1), .second, .val (.long x2), .second, .val (.long (x2 &&& um)), .second, .val (.long (x1 * (uw.toInt64))), .second, .val (.int ((((x1 * (uw.toInt64)).toUInt64 >>> ((6 : Int32) &&& 0x3f).toInt64.toUInt64).toInt64).toInt32)), .val (.int (((x1 * (uw.toInt64)).toInt32) &&& (63 : Int32))), .unset] [(.int ((64 : Int32) - (((x1 * (uw.toInt64)).toInt32) &&& (63 : Int32))))])) (fun t k => XS.isub X7.here hx rfl (hb hby d5_81) rfl k) ?_
    refine Go.of (T' := T7) (f' := (mkF m 84 #[.val (.ref x0), .val (.long x1), .second, .val (.long x2), .second, .val (.long (x2 &&& um)), .second, .val (.long (x1 * (uw.toInt64))), .second, .val (.int ((((x1 * (uw.toInt64)).toUInt64 >>> ((6 : Int32) &&& 0x3f).toInt64.toUInt64).toInt64).toInt32)), .val (.int (((x1 * (uw.toInt64)).toInt32) &&& (63 : Int32))), .val (.int ((64 : Int32) - (((x1 * (uw.toInt64)).toInt32) &&& (63 : Int32))))] [])) (fun t k => XS.istore X7.here hx rfl (hb hby d5_82) rfl (l' := #[.val (.ref x0), .val (.long x1), .second, .val (.long x2), .second, .val (.long (x2 &&& um)), .second, .val (.long (x1 * (uw.toInt64))), .second, .val (.int ((((x1 * (uw.toInt64)).toUInt64 >>> ((6 : Int32) &&& 0x3f).toInt64.toUInt64).toInt64).toInt32)), .val (.int (((x1 * (uw.toInt64)).toInt32) &&& (63 : Int32))), .val (.int ((64 : Int32) - (((x1 * (uw.toInt64)).toInt32) &&& (63 : Int32))))]) rfl k) ?_
    refine Go.of (T' := T7) (f' := (mkF m 85 #[.val (.ref x0), .val (.long x1), .second, .val (.long x2), .second, .val (.long (x2 &&& um)), .second, .val (.long (x1 * (uw.toInt64))), .second, .val (.int ((((x1 * (uw.toInt64)).toUInt64 >>> ((6 : Int32) &&& 0x3f).toInt64.toUInt64).toInt64).toInt32)), .val (.int (((x1 * (uw.toInt64)).toInt32) &&& (63 : Int32))), .val (.int ((64 : Int32) - (((x1 * (uw.toInt64)).toInt32) &&& (63 : Int32))))] [(.ref x0)])) (fun t k => XS.aloadN X7.here hx rfl (hb hby d5_84) rfl rfl k) ?_
    obtain ⟨T8, X8, e8, st8⟩ := getF X7 hx hZ hown (host := "") (Or.inl (hw _ (List.mem_of_getElem? (i := 27) rfl))) Via.refl e7 F6_x0_words (g := (mkF m 85 #[.val (.ref x0), .val (.long x1), .second, .val (.long x2), .second, .val (.long (x2 &&& um)), .second, .val (.long (x1 * (uw.toInt64))), .second, .val (.int ((((x1 * (uw.toInt64)).toUInt64 >>> ((6 : Int32) &&& 0x3f).toInt64.toUInt64).toInt64).toInt32)), .val (.int (((x1 * (uw.toInt64)).toInt32) &&& (63 : Int32))), .val (.int ((64 : Int32) - (((x1 * (uw.toInt64)).toInt32) &&& (63 : Int32))))] [(.ref x0)])) rfl rfl (hb hby d5_85)
    refine Go.of (T' := T8) (f' := (mkF m 88 #[.val (.ref x0), .val (.long x1), .second, .val (.long x2), .second, .val (.long (x2 &&& um)), .second, .val (.long (x1 * (uw.toInt64))), .second, .val (.int ((((x1 * (uw.toInt64)).toUInt64 >>> ((6 : Int32) &&& 0x3f).toInt64.toUInt64).toInt64).toInt32)), .val (.int (((x1 * (uw.toInt64)).toInt32) &&& (63 : Int32))), .val (.int ((64 : Int32) - (((x1 * (uw.toInt64)).toInt32) &&& (63 : Int32))))] [(.ref ub)])) (fun t k => st8 t k) ?_
    refine Go.of (T' := T8) (f' := (mkF m 90 #[.val (.ref x0), .val (.long x1), .second, .val (.long x2), .second, .val (.long (x2 &&& um)), .second, .val (.long (x1 * (uw.toInt64))), .second, .val (.int ((((x1 * (uw.toInt64)).toUInt64 >>> ((6 : Int32) &&& 0x3f).toInt64.toUInt64).toInt64).toInt32)), .val (.int (((x1 * (uw.toInt64)).toInt32) &&& (63 : Int32))), .val (.int ((64 : Int32) - (((x1 * (uw.toInt64)).toInt32) &&& (63 : Int32))))] [(.int ((((x1 * (uw.toInt64)).toUInt64 >>> ((6 : Int32) &&& 0x3f).toInt64.toUInt64).toInt64).toInt32)), (.ref ub)])) (fun t k => XS.iload X8.here hx rfl (hb hby d5_88) rfl k) ?_
    refine Go.of (T' := T8) (f' := (mkF m 91 #[.val (.ref x0), .val (.long x1), .second, .val (.long x2), .second, .val (.long (x2 &&& um)), .second, .val (.long (x1 * (uw.toInt64))), .second, .val (.int ((((x1 * (uw.toInt64)).toUInt64 >>> ((6 : Int32) &&& 0x3f).toInt64.toUInt64).toInt64).toInt32)), .val (.int (((x1 * (uw.toInt64)).toInt32) &&& (63 : Int32))), .val (.int ((64 : Int32) - (((x1 * (uw.toInt64)).toInt32) &&& (63 : Int32))))] [(.int (1 : Int32)), (.int ((((x1 * (uw.toInt64)).toUInt64 >>> ((6 : Int32) &&& 0x3f).toInt64.toUInt64).toInt64).toInt32)), (.ref ub)])) (fun t k => XS.iconst X8.here hx rfl (hb hby d5_90) k) ?_
    refine Go.of (T' := T8) (f' := (mkF m 92 #[.val (.ref x0), .val (.long x1), .second, .val (.long x2), .second, .val (.long (x2 &&& um)), .second, .val (.long (x1 * (uw.toInt64))), .second, .val (.int ((((x1 * (uw.toInt64)).toUInt64 >>> ((6 : Int32) &&& 0x3f).toInt64.toUInt64).toInt64).toInt32)), .val (.int (((x1 * (uw.toInt64)).toInt32) &&& (63 : Int32))), .val (.int ((64 : Int32) - (((x1 * (uw.toInt64)).toInt32) &&& (63 : Int32))))] [(.int (((((x1 * (uw.toInt64)).toUInt64 >>> ((6 : Int32) &&& 0x3f).toInt64.toUInt64).toInt64).toInt32) + (1 : Int32))), (.ref ub)])) (fun t k => XS.iadd X8.here hx rfl (hb hby d5_91) rfl k) ?_
    refine Go.of (T' := T8) (f' := (mkF m 93 #[.val (.ref x0), .val (.long x1), .second, .val (.long x2), .second, .val (.long (x2 &&& um)), .second, .val (.long (x1 * (uw.toInt64))), .second, .val (.int ((((x1 * (uw.toInt64)).toUInt64 >>> ((6 : Int32) &&& 0x3f).toInt64.toUInt64).toInt64).toInt32)), .val (.int (((x1 * (uw.toInt64)).toInt32) &&& (63 : Int32))), .val (.int ((64 : Int32) - (((x1 * (uw.toInt64)).toInt32) &&& (63 : Int32))))] [(.ref x0), (.int (((((x1 * (uw.toInt64)).toUInt64 >>> ((6 : Int32) &&& 0x3f).toInt64.toUInt64).toInt64).toInt32) + (1 : Int32))), (.ref ub)])) (fun t k => XS.aloadN X8.here hx rfl (hb hby d5_92) rfl rfl k) ?_
    obtain ⟨T9, X9, e9, st9⟩ := getF X8 hx hZ hown (host := "") (Or.inl (hw _ (List.mem_of_getElem? (i := 27) rfl))) Via.refl e8 F6_x0_words (g := (mkF m 93 #[.val (.ref x0), .val (.long x1), .second, .val (.long x2), .second, .val (.long (x2 &&& um)), .second, .val (.long (x1 * (uw.toInt64))), .second, .val (.int ((((x1 * (uw.toInt64)).toUInt64 >>> ((6 : Int32) &&& 0x3f).toInt64.toUInt64).toInt64).toInt32)), .val (.int (((x1 * (uw.toInt64)).toInt32) &&& (63 : Int32))), .val (.int ((64 : Int32) - (((x1 * (uw.toInt64)).toInt32) &&& (63 : Int32))))] [(.ref x0), (.int (((((x1 * (uw.toInt64)).toUInt64 >>> ((6 : Int32) &&& 0x3f).toInt64.toUInt64).toInt64).toInt32) + (1 : Int32))), (.ref ub)])) rfl rfl (hb hby d5_93)
    refine Go.of (T' := T9) (f' := (mkF m 96 #[.val (.ref x0), .val (.long x1), .second, .val (.long x2), .second, .val (.long (x2 &&& um)), .second, .val (.long (x1 * (uw.toInt64))), .second, .val (.int ((((x1 * (uw.toInt64)).toUInt64 >>> ((6 : Int32) &&& 0x3f).toInt64.toUInt64).toInt64).toInt32)), .val (.int (((x1 * (uw.toInt64)).toInt32) &&& (63 : Int32))), .val (.int ((64 : Int32) - (((x1 * (uw.toInt64)).toInt32) &&& (63 : Int32))))] [(.ref ub), (.int (((((x1 * (uw.toInt64)).toUInt64 >>> ((6 : Int32) &&& 0x3f).toInt64.toUInt64).toInt64).toInt32) + (1 : Int32))), (.ref ub)])) (fun t k => st9 t k) ?_
    refine Go.of (T' := T9) (f' := (mkF m 98 #[.val (.ref x0), .val (.long x1), .second, .val (.long x2), .second, .val (.long (x2 &&& um)), .second, .val (.long (x1 * (uw.toInt64))), .second, .val (.int ((((x1 * (uw.toInt64)).toUInt64 >>> ((6 : Int32) &&& 0x3f).toInt64.toUInt64).toInt64).toInt32)), .val (.int (((x1 * (uw.toInt64)).toInt32) &&& (63 : Int32))), .val (.int ((64 : Int32) - (((x1 * (uw.toInt64)).toInt32) &&& (63 : Int32))))] [(.int ((((x1 * (uw.toInt64)).toUInt64 >>> ((6 : Int32) &&& 0x3f).toInt64.toUInt64).toInt64).toInt32)), (.ref ub), (.int (((((x1 * (uw.toInt64)).toUInt64 >>> ((6 : Int32) &&& 0x3f).toInt64.toUInt64).toInt64).toInt32) + (1 : Int32))), (.ref ub)])) (fun t k => XS.iload X9.here hx rfl (hb hby d5_96) rfl k) ?_
    refine Go.of (T' := T9) (f' := (mkF m 99 #[.val (.ref x0), .val (.long x1), .second, .val (.long x2), .second, .val (.long (x2 &&& um)), .second, .val (.long (x1 * (uw.toInt64))), .second, .val (.int ((((x1 * (uw.toInt64)).toUInt64 >>> ((6 : Int32) &&& 0x3f).toInt64.toUInt64).toInt64).toInt32)), .val (.int (((x1 * (uw.toInt64)).toInt32) &&& (63 : Int32))), .val (.int ((64 : Int32) - (((x1 * (uw.toInt64)).toInt32) &&& (63 : Int32))))] [(.int (1 : Int32)), (.int ((((x1 * (uw.toInt64)).toUInt64 >>> ((6 : Int32) &&& 0x3f).toInt64.toUInt64).toInt64).toInt32)), (.ref ub), (.int (((((x1 * (uw.toInt64)).toUInt64 >>> ((6 : Int32) &&& 0x3f).toInt64.toUInt64).toInt64).toInt32) + (1 : Int32))), (.ref ub)])) (fun t k => XS.iconst X9.here hx rfl (hb hby d5_98) k) ?_
    refine Go.of (T' := T9) (f' := (mkF m 100 #[.val (.ref x0), .val (.long x1), .second, .val (.long x2), .second, .val (.long (x2 &&& um)), .second, .val (.long (x1 * (uw.toInt64))), .second, .val (.int ((((x1 * (uw.toInt64)).toUInt64 >>> ((6 : Int32) &&& 0x3f).toInt64.toUInt64).toInt64).toInt32)), .val (.int (((x1 * (uw.toInt64)).toInt32) &&& (63 : Int32))), .val (.int ((64 : Int32) - (((x1 * (uw.toInt64)).toInt32) &&& (63 : Int32))))] [(.int (((((x1 * (uw.toInt64)).toUInt64 >>> ((6 : Int32) &&& 0x3f).toInt64.toUInt64).toInt64).toInt32) + (1 : Int32))), (.ref ub), (.int (((((x1 * (uw.toInt64)).toUInt64 >>> ((6 : Int32) &&& 0x3f).toInt64.toUInt64).toInt64).toInt32) + (1 : Int32))), (.ref ub)])) (fun t k => XS.iadd X9.here hx rfl (hb hby d5_99) rfl k) ?_
    refine Go.of (T' := T9) (f' := (mkF m 101 #[.val (.ref x0), .val (.long x1), .second, .val (.long x2), .second, .val (.long (x2 &&& um)), .second, .val (.long (x1 * (uw.toInt64))), .second, .val (.int ((((x1 * (uw.toInt64)).toUInt64 >>> ((6 : Int32) &&& 0x3f).toInt64.toUInt64).toInt64).toInt32)), .val (.int (((x1 * (uw.toInt64)).toInt32) &&& (63 : Int32))), .val (.int ((64 : Int32) - (((x1 * (uw.toInt64)).toInt32) &&& (63 : Int32))))] [(.long a1_), (.int (((((x1 * (uw.toInt64)).toUInt64 >>> ((6 : Int32) &&& 0x3f).toInt64.toUInt64).toInt64).toInt32) + (1 : Int32))), (.ref ub)])) (fun t k => ldJ X9 hx hZ e9 V6 (j := (((((x1 * (uw.toInt64)).toUInt64 >>> ((6 : Int32) &&& 0x3f).toInt64.toUInt64).toInt64).toInt32) + (1 : Int32))) (v := (.long a1_)) (hw1 hc74).1 rfl (atmap2 (hw1 hc74).2.1 (hw1 hc74).2.2) (g := (mkF m 100 #[.val (.ref x0), .val (.long x1), .second, .val (.long x2), .second, .val (.long (x2 &&& um)), .second, .val (.long (x1 * (uw.toInt64))), .second, .val (.int ((((x1 * (uw.toInt64)).toUInt64 >>> ((6 : Int32) &&& 0x3f).toInt64.toUInt64).toInt64).toInt32)), .val (.int (((x1 * (uw.toInt64)).toInt32) &&& (63 : Int32))), .val (.int ((64 : Int32) - (((x1 * (uw.toInt64)).toInt32) &&& (63 : Int32))))] [(.int (((((x1 * (uw.toInt64)).toUInt64 >>> ((6 : Int32) &&& 0x3f).toInt64.toUInt64).toInt64).toInt32) + (1 : Int32))), (.ref ub), (.int (((((x1 * (uw.toInt64)).toUInt64 >>> ((6 : Int32) &&& 0x3f).toInt64.toUInt64).toInt64).toInt32) + (1 : Int32))), (.ref ub)])) rfl rfl (hb hby d5_100) t k) ?_
    refine Go.of (T' := T9) (f' := (mkF m 102 #[.val (.ref x0), .val (.long x1), .second, .val (.long x2), .second, .val (.long (x2 &&& um)), .second, .val (.long (x1 * (uw.toInt64))), .second, .val (.int ((((x1 * (uw.toInt64)).toUInt64 >>> ((6 : Int32) &&& 0x3f).toInt64.toUInt64).toInt64).toInt32)), .val (.int (((x1 * (uw.toInt64)).toInt32) &&& (63 : Int32))), .val (.int ((64 : Int32) - (((x1 * (uw.toInt64)).toInt32) &&& (63 : Int32))))] [(.ref x0), (.long a1_), (.int (((((x1 * (uw.toInt64)).toUInt64 >>> ((6 : Int32) &&& 0x3f).toInt64.toUInt64).toInt64).toInt32) + (1 : Int32))), (.ref ub)])) (fun t k => XS.aloadN X9.here hx rfl (hb hby d5_101) rfl rfl k) ?_
    obtain ⟨T10, X10, e10, st10⟩ := getF X9 hx hZ hown (host := "") (Or.inl (hw _ (List.mem_of_getElem? (i := 23) rfl))) Via.refl e9 F6_x0_mask (g := (mkF m 102 #[.val (.ref x0), .val (.long x1), .second, .val (.long x2), .second, .val (.long (x2 &&& um)), .second, .val (.long (x1 * (uw.toInt64))), .second, .val (.int ((((x1 * (uw.toInt64)).toUInt64 >>> ((6 : Int32) &&& 0x3f).toInt64.toUInt64).toInt64).toInt32)), .val (.int (((x1 * (uw.toInt64)).toInt32) &&& (63 : Int32))), .val (.int ((64 : Int32) - (((x1 * (uw.toInt64)).toInt32) &&& (63 : Int32))))] [(.ref x0), (.long a1_), (.int (((((x1 * (uw.toInt64)).toUInt64 >>> ((6 : Int32) &&& 0x3f).toInt64.toUInt64).toInt64).toInt32) + (1 : Int32))), (.ref ub)])) rfl rfl (hb hby d5_102)
    refine Go.of (T' := T10) (f' := (mkF m 105 #[.val (.ref x0), .val (.long x1), .second, .val (.long x2), .second, .val (.long (x2 &&& um)), .second, .val (.long (x1 * (uw.toInt64))), .second, .val (.int ((((x1 * (uw.toInt64)).toUInt64 >>> ((6 : Int32) &&& 0x3f).toInt64.toUInt64).toInt64).toInt32)), .val (.int (((x1 * (uw.toInt64)).toInt32) &&& (63 : Int32))), .val (.int ((64 : Int32) - (((x1 * (uw.toInt64)).toInt32) &&& (63 : Int32))))] [(.long um), (.long a1_), (.int (((((x1 * (uw.toInt64)).toUInt64 >>> ((6 : Int32) &&& 0x3f).toInt64.toUInt64).toInt64).toInt32) + (1 : Int32))), (.ref ub)])) (fun t k => st10 t k) ?_
    refine Go.of (T' := T10) (f' := (mkF m 107 #[.val (.ref x0), .val (.long x1), .second, .val (.long x2), .second, .val (.long (x2 &&& um)), .second, .val (.long (x1 * (uw.toInt64))), .second, .val (.int ((((x1 * (uw.toInt64)).toUInt64 >>> ((6 : Int32) &&& 0x3f).toInt64.toUInt64).toInt64).toInt32)), .val (.int (((x1 * (uw.toInt64)).toInt32) &&& (63 : Int32))), .val (.int ((64 : Int32) - (((x1 * (uw.toInt64)).toInt32) &&& (63 : Int32))))] [(.int ((64 : Int32) - (((x1 * (uw.toInt64)).toInt32) &&& (63 : Int32)))), (.long um), (.long a1_), (.int (((((x1 * (uw.toInt64)).toUInt64 >>> ((6 : Int32) &&& 0x3f).toInt64.toUInt64).toInt64).toInt32) + (1 : Int32))), (.ref ub)])) (fun t k => XS.iload X10.here hx rfl (hb hby d5_105) rfl k) ?_
    refine Go.of (T' := T10) (f' := (mkF m 108 #[.val (.ref x0), .val (.long x1), .second, .val (.long x2), .second, .val (.long (x2 &&& um)), .second, .val (.long (x1 * (uw.toInt64))), .second, .val (.int ((((x1 * (uw.toInt64)).toUInt64 >>> ((6 : Int32) &&& 0x3f).toInt64.toUInt64).toInt64).toInt32)), .val (.int (((x1 * (uw.toInt64)).toInt32) &&& (63 : Int32))), .val (.int ((64 : Int32) - (((x1 * (uw.toInt64)).toInt32) &&& (63 : Int32))))] [(.long ((um.toUInt64 >>> (((64 : Int32) - (((x1 * (uw.toInt64)).toInt32) &&& (63 : Int32))) &&& 0x3f).toInt64.toUInt64).toInt64)), (.long a1_), (.int (((((x1 * (uw.toInt64)).toUInt64 >>> ((6 : Int32) &&& 0x3f).toInt64.toUInt64).toInt64).toInt32) + (1 : Int32))), (.ref ub)])) (fun t k => XS.lushr X10.here hx rfl (hb hby d5_107) rfl k) ?_
    refine Go.of (T' := T10) (f' := (mkF m 111 #[.val (.ref x0), .val (.long x1), .second, .val (.long x2), .second, .val (.long (x2 &&& um)), .second, .val (.long (x1 * (uw.toInt64))), .second, .val (.int ((((x1 * (uw.toInt64)).toUInt64 >>> ((6 : Int32) &&& 0x3f).toInt64.toUInt64).toInt64).toInt32)), .val (.int (((x1 * (uw.toInt64)).toInt32) &&& (63 : Int32))), .val (.int ((64 : Int32) - (((x1 * (uw.toInt64)).toInt32) &&& (63 : Int32))))] [(.long (-1 : Int64)), (.long ((um.toUInt64 >>> (((64 : Int32) - (((x1 * (uw.toInt64)).toInt32) &&& (63 : Int32))) &&& 0x3f).toInt64.toUInt64).toInt64)), (.long a1_), (.int (((((x1 * (uw.toInt64)).toUInt64 >>> ((6 : Int32) &&& 0x3f).toInt64.toUInt64).toInt64).toInt32) + (1 : Int32))), (.ref ub)])) (fun t k => X10.ldc2Long hx hown (mvT hZ (hw _ (List.mem_of_getElem? (i := 22) rfl))) (g := (mkF m 108 #[.val (.ref x0), .val (.long x1), .second, .val (.long x2), .second, .val (.long (x2 &&& um)), .second, .val (.long (x1 * (uw.toInt64))), .second, .val (.int ((((x1 * (uw.toInt64)).toUInt64 >>> ((6 : Int32) &&& 0x3f).toInt64.toUInt64).toInt64).toInt32)), .val (.int (((x1 * (uw.toInt64)).toInt32) &&& (63 : Int32))), .val (.int ((64 : Int32) - (((x1 * (uw.toInt64)).toInt32) &&& (63 : Int32))))] [(.long ((um.toUInt64 >>> (((64 : Int32) - (((x1 * (uw.toInt64)).toInt32) &&& (63 : Int32))) &&& 0x3f).toInt64.toUInt64).toInt64)), (.long a1_), (.int (((((x1 * (uw.toInt64)).toUInt64 >>> ((6 : Int32) &&& 0x3f).toInt64.toUInt64).toInt64).toInt32) + (1 : Int32))), (.ref ub)])) rfl (hb hby d5_108) t k) ?_
    refine Go.of (T' := T10) (f' := (mkF m 112 #[.val (.ref x0), .val (.long x1), .second, .val (.long x2), .second, .val (.long (x2 &&& um)), .second, .val (.long (x1 * (uw.toInt64))), .second, .val (.int ((((x1 * (uw.toInt64)).toUInt64 >>> ((6 : Int32) &&& 0x3f).toInt64.toUInt64).toInt64).toInt32)), .val (.int (((x1 * (uw.toInt64)).toInt32) &&& (63 : Int32))), .val (.int ((64 : Int32) - (((x1 * (uw.toInt64)).toInt32) &&& (63 : Int32))))] [(.long (((um.toUInt64 >>> (((64 : Int32) - (((x1 * (uw.toInt64)).toInt32) &&& (63 : Int32))) &&& 0x3f).toInt64.toUInt64).toInt64) ^^^ (-1 : Int64))), (.long a1_), (.int (((((x1 * (uw.toInt64)).toUInt64 >>> ((6 : Int32) &&& 0x3f).toInt64.toUInt64).toInt64).toInt32) + (1 : Int32))), (.ref ub)])) (fun t k => XS.lxor X10.here hx rfl (hb hby d5_111) rfl k) ?_
    refine Go.of (T' := T10) (f' := (mkF m 113 #[.val (.ref x0), .val (.long x1), .second, .val (.long x2), .second, .val (.long (x2 &&& um)), .second, .val (.long (x1 * (uw.toInt64))), .second, .val (.int ((((x1 * (uw.toInt64)).toUInt64 >>> ((6 : Int32) &&& 0x3f).toInt64.toUInt64).toInt64).toInt32)), .val (.int (((x1 * (uw.toInt64)).toInt32) &&& (63 : Int32))), .val (.int ((64 : Int32) - (((x1 * (uw.toInt64)).toInt32) &&& (63 : Int32))))] [(.long (a1_ &&& (((um.toUInt64 >>> (((64 : Int32) - (((x1 * (uw.toInt64)).toInt32) &&& (63 : Int32))) &&& 0x3f).toInt64.toUInt64).toInt64) ^^^ (-1 : Int64)))), (.int (((((x1 * (uw.toInt64)).toUInt64 >>> ((6 : Int32) &&& 0x3f).toInt64.toUInt64).toInt64).toInt32) + (1 : Int32))), (.ref ub)])) (fun t k => XS.land X10.here hx rfl (hb hby d5_112) rfl k) ?_
    refine Go.of (T' := T10) (f' := (mkF m 115 #[.val (.ref x0), .val (.long x1), .second, .val (.long x2), .second, .val (.long (x2 &&& um)), .second, .val (.long (x1 * (uw.toInt64))), .second, .val (.int ((((x1 * (uw.toInt64)).toUInt64 >>> ((6 : Int32) &&& 0x3f).toInt64.toUInt64).toInt64).toInt32)), .val (.int (((x1 * (uw.toInt64)).toInt32) &&& (63 : Int32))), .val (.int ((64 : Int32) - (((x1 * (uw.toInt64)).toInt32) &&& (63 : Int32))))] [(.long (x2 &&& um)), (.long (a1_ &&& (((um.toUInt64 >>> (((64 : Int32) - (((x1 * (uw.toInt64)).toInt32) &&& (63 : Int32))) &&& 0x3f).toInt64.toUInt64).toInt64) ^^^ (-1 : Int64)))), (.int (((((x1 * (uw.toInt64)).toUInt64 >>> ((6 : Int32) &&& 0x3f).toInt64.toUInt64).toInt64).toInt32) + (1 : Int32))), (.ref ub)])) (fun t k => XS.lload X10.here hx rfl (hb hby d5_113) rfl k) ?_
    refine Go.of (T' := T10) (f' := (mkF m 117 #[.val (.ref x0), .val (.long x1), .second, .val (.long x2), .second, .val (.long (x2 &&& um)), .second, .val (.long (x1 * (uw.toInt64))), .second, .val (.int ((((x1 * (uw.toInt64)).toUInt64 >>> ((6 : Int32) &&& 0x3f).toInt64.toUInt64).toInt64).toInt32)), .val (.int (((x1 * (uw.toInt64)).toInt32) &&& (63 : Int32))), .val (.int ((64 : Int32) - (((x1 * (uw.toInt64)).toInt32) &&& (63 : Int32))))] [(.int ((64 : Int32) - (((x1 * (uw.toInt64)).toInt32) &&& (63 : Int32)))), (.long (x2 &&& um)), (.long (a1_ &&& (((um.toUInt64 >>> (((64 : Int32) - (((x1 * (uw.toInt64)).toInt32) &&& (63 : Int32))) &&& 0x3f).toInt64.toUInt64).toInt64) ^^^ (-1 : Int64)))), (.int (((((x1 * (uw.toInt64)).toUInt64 >>> ((6 : Int32) &&& 0x3f).toInt64.toUInt64).toInt64).toInt32) + (1 : Int32))), (.ref ub)])) (fun t k => XS.iload X10.here hx rfl (hb hby d5_115) rfl k) ?_
    refine Go.of (T' := T10) (f' := (mkF m 118 #[.val (.ref x0), .val (.long x1), .second, .val (.long x2), .second, .val (.long (x2 &&& um)), .second, .val (.long (x1 * (uw.toInt64))), .second, .val (.int ((((x1 * (uw.toInt64)).toUInt64 >>> ((6 : Int32) &&& 0x3f).toInt64.toUInt64).toInt64).toInt32)), .val (.int (((x1 * (uw.toInt64)).toInt32) &&& (63 : Int32))), .val (.int ((64 : Int32) - (((x1 * (uw.toInt64)).toInt32) &&& (63 : Int32))))] [(.long (((x2 &&& um).toUInt64 >>> (((64 : Int32) - (((x1 * (uw.toInt64)).toInt32) &&& (63 : Int32))) &&& 0x3f).toInt64.toUInt64).toInt64)), (.long (a1_ &&& (((um.toUInt64 >>> (((64 : Int32) - (((x1 * (uw.toInt64)).toInt32) &&& (63 : Int32))) &&& 0x3f).toInt64.toUInt64).toInt64) ^^^ (-1 : Int64)))), (.int (((((x1 * (uw.toInt64)).toUInt64 >>> ((6 : Int32) &&& 0x3f).toInt64.toUInt64).toInt64).toInt32) + (1 : Int32))), (.ref ub)])) (fun t k => XS.lushr X10.here hx rfl (hb hby d5_117) rfl k) ?_
    refine Go.of (T' := T10) (f' := (mkF m 119 #[.val (.ref x0), .val (.long x1), .second, .val (.long x2), .second, .val (.long (x2 &&& um)), .second, .val (.long (x1 * (uw.toInt64))), .second, .val (.int ((((x1 * (uw.toInt64)).toUInt64 >>> ((6 : Int32) &&& 0x3f).toInt64.toUInt64).toInt64).toInt32)), .val (.int (((x1 * (uw.toInt64)).toInt32) &&& (63 : Int32))), .val (.int ((64 : Int32) - (((x1 * (uw.toInt64)).toInt32) &&& (63 : Int32))))] [(.long ((a1_ &&& (((um.toUInt64 >>> (((64 : Int32) - (((x1 * (uw.toInt64)).toInt32) &&& (63 : Int32))) &&& 0x3f).toInt64.toUInt64).toInt64) ^^^ (-1 : Int64))) ||| (((x2 &&& um).toUInt64 >>> (((64 : Int32) - (((x1 * (uw.toInt64)).toInt32) &&& (63 : Int32))) &&& 0x3f).toInt64.toUInt64).toInt64))), (.int (((((x1 * (uw.toInt64)).toUInt64 >>> ((6 : Int32) &&& 0x3f).toInt64.toUInt64).toInt64).toInt32) + (1 : Int32))), (.ref ub)])) (fun t k => XS.lor X10.here hx rfl (hb hby d5_118) rfl k) ?_
    obtain ⟨T11, h11, X11, e11, W11, V11, st11⟩ := saJ X10 hx hZ e10 V6 (j := (((((x1 * (uw.toInt64)).toUInt64 >>> ((6 : Int32) &&& 0x3f).toInt64.toUInt64).toInt64).toInt32) + (1 : Int32))) (x := ((a1_ &&& (((um.toUInt64 >>> (((64 : Int32) - (((x1 * (uw.toInt64)).toInt32) &&& (63 : Int32))) &&& 0x3f).toInt64.toUInt64).toInt64) ^^^ (-1 : Int64))) ||| (((x2 &&& um).toUInt64 >>> (((64 : Int32) - (((x1 * (uw.toInt64)).toInt32) &&& (63 : Int32))) &&& 0x3f).toInt64.toUInt64).toInt64))) (hw1 hc74).1 rfl (by rw [List.length_set, List.length_map]; exact (List.getElem?_eq_some_iff.mp (hw1 hc74).2.2).1) (g := (mkF m 119 #[.val (.ref x0), .val (.long x1), .second, .val (.long x2), .second, .val (.long (x2 &&& um)), .second, .val (.long (x1 * (uw.toInt64))), .second, .val (.int ((((x1 * (uw.toInt64)).toUInt64 >>> ((6 : Int32) &&& 0x3f).toInt64.toUInt64).toInt64).toInt32)), .val (.int (((x1 * (uw.toInt64)).toInt32) &&& (63 : Int32))), .val (.int ((64 : Int32) - (((x1 * (uw.toInt64)).toInt32) &&& (63 : Int32))))] [(.long ((a1_ &&& (((um.toUInt64 >>> (((64 : Int32) - (((x1 * (uw.toInt64)).toInt32) &&& (63 : Int32))) &&& 0x3f).toInt64.toUInt64).toInt64) ^^^ (-1 : Int64))) ||| (((x2 &&& um).toUInt64 >>> (((64 : Int32) - (((x1 * (uw.toInt64)).toInt32) &&& (63 : Int32))) &&& 0x3f).toInt64.toUInt64).toInt64))), (.int (((((x1 * (uw.toInt64)).toUInt64 >>> ((6 : Int32) &&& 0x3f).toInt64.toUInt64).toInt64).toInt32) + (1 : Int32))), (.ref ub)])) rfl rfl (hb hby d5_119)
    have F11_x0_width : Fld Z h11 x0 "com/example/bloom_filter_variants/bloomfiltervariants/PackedArray" "width" "I" (.int uw) := F6_x0_width.other W11 (Or.inl ne_b)
    have F11_x0_mask : Fld Z h11 x0 "com/example/bloom_filter_variants/bloomfiltervariants/PackedArray" "mask" "J" (.long um) := F6_x0_mask.other W11 (Or.inl ne_b)
    have F11_x0_words : Fld Z h11 x0 "com/example/bloom_filter_variants/bloomfiltervariants/PackedArray" "words" "[J" (.ref ub) := F6_x0_words.other W11 (Or.inl ne_b)
    have N11 := Fr.snoc X11 N6 g_b
    have KK11 : Keep h0 h11 [ub] := KK6.wr W11 (Or.inl (List.mem_of_getElem? (i := 0) rfl))
    have ZS11 : n0 ≤ h11.size := Nat.le_trans ZS6 (Keep.of_wr W11).1
    refine Go.of (T' := T11) (f' := (mkF m 120 #[.val (.ref x0), .val (.long x1), .second, .val (.long x2), .second, .val (.long (x2 &&& um)), .second, .val (.long (x1 * (uw.toInt64))), .second, .val (.int ((((x1 * (uw.toInt64)).toUInt64 >>> ((6 : Int32) &&& 0x3f).toInt64.toUInt64).toInt64).toInt32)), .val (.int (((x1 * (uw.toInt64)).toInt32) &&& (63 : Int32))), .val (.int ((64 : Int32) - (((x1 * (uw.toInt64)).toInt32) &&& (63 : Int32))))] [])) (fun t k => st11 t k) ?_
    refine Go.retV X11 hx hk Bd.returns (hb hby d5_120) (by decide) (by decide) ?_
    rw [e11]
    have VF := V11
    refine ⟨rfl, N11, KK11, ?_⟩
    rw [setW, if_pos (show (64 : Int32) < shI x1 uw + uw from hc74), List.map_set, List.map_set]
    exact VF
  · -- pc 74: yes
    refine Go.of (T' := T7) (f' := (mkF m 120 #[.val (.ref x0), .val (.long x1), .second, .val (.long x2), .second, .val (.long (x2 &&& um)), .second, .val (.long (x1 * (uw.toInt64))), .second, .val (.int ((((x1 * (uw.toInt64)).toUInt64 >>> ((6 : Int32) &&& 0x3f).toInt64.toUInt64).toInt64).toInt32)), .val (.int (((x1 * (uw.toInt64)).toInt32) &&& (63 : Int32))), .unset] [])) (fun t k => XS.icmpYes X7.here hx rfl (pc0 := 74) (pc' := 120) rfl (hb hby d5_74) rfl ((flt hc74).2.2.2) (by decide) (by decide) k) ?_
    refine Go.retV X7 hx hk Bd.returns (hb hby d5_120) (by decide) (by decide) ?_
    rw [e7]
    have VF := V6
    refine ⟨rfl, N6, KK6, ?_⟩
    rw [setW, if_neg (show ¬ (64 : Int32) < shI x1 uw + uw from hc74), List.map_set]
    exact VF
theorem d6_0 : decode prog_23_method_8_code 0 = .ok (.lload_n 1, 1) := by decide +kernel
theorem d6_1 : decode prog_23_method_8_code 1 = .ok (.aload_n 0, 1) := by decide +kernel
theorem d6_2 : decode prog_23_method_8_code 2 = .ok (.getfield 26, 3) := by decide +kernel
theorem d6_5 : decode prog_23_method_8_code 5 = .ok (.i2l, 1) := by decide +kernel
theorem d6_6 : decode prog_23_method_8_code 6 = .ok (.lmul, 1) := by decide +kernel
theorem d6_7 : decode prog_23_method_8_code 7 = .ok (.lstore_n 3, 1) := by decide +kernel
theorem d6_8 : decode prog_23_method_8_code 8 = .ok (.lload_n 3, 1) := by decide +kernel
theorem d6_9 : decode prog_23_method_8_code 9 = .ok (.bipush 6, 2) := by decide +kernel
theorem d6_11 : decode prog_23_method_8_code 11 = .ok (.lushr, 1) := by decide +kernel
theorem d6_12 : decode prog_23_method_8_code 12 = .ok (.l2i, 1) := by decide +kernel
theorem d6_13 : decode prog_23_method_8_code 13 = .ok (.istore 5, 2) := by decide +kernel
theorem d6_15 : decode prog_23_method_8_code 15 = .ok (.lload_n 3, 1) := by decide +kernel
theorem d6_16 : decode prog_23_method_8_code 16 = .ok (.l2i, 1) := by decide +kernel
theorem d6_17 : decode prog_23_method_8_code 17 = .ok (.bipush 63, 2) := by decide +kernel
theorem d6_19 : decode prog_23_method_8_code 19 = .ok (.iand, 1) := by decide +kernel
theorem d6_20 : decode prog_23_method_8_code 20 = .ok (.istore 6, 2) := by decide +kernel
theorem d6_22 : decode prog_23_method_8_code 22 = .ok (.aload_n 0, 1) := by decide +kernel
theorem d6_23 : decode prog_23_method_8_code 23 = .ok (.getfield 39, 3) := by decide +kernel
theorem d6_26 : decode prog_23_method_8_code 26 = .ok (.iload 5, 2) := by decide +kernel
theorem d6_28 : decode prog_23_method_8_code 28 = .ok (.laload, 1) := by decide +kernel
theorem d6_29 : decode prog_23_method_8_code 29 = .ok (.iload 6, 2) := by decide +kernel
theorem d6_31 : decode prog_23_method_8_code 31 = .ok (.lushr, 1) := by decide +kernel
theorem d6_32 : decode prog_23_method_8_code 32 = .ok (.lstore 7, 2) := by decide +kernel
theorem d6_34 : decode prog_23_method_8_code 34 = .ok (.iload 6, 2) := by decide +kernel
theorem d6_36 : decode prog_23_method_8_code 36 = .ok (.aload_n 0, 1) := by decide +kernel
theorem d6_37 : decode prog_23_method_8_code 37 = .ok (.getfield 26, 3) := by decide +kernel
theorem d6_40 : decode prog_23_method_8_code 40 = .ok (.iadd, 1) := by decide +kernel
theorem d6_41 : decode prog_23_method_8_code 41 = .ok (.bipush 64, 2) := by decide +kernel
theorem d6_43 : decode prog_23_method_8_code 43 = .ok (.if_icmp .le 23, 3) := by decide +kernel
theorem d6_46 : decode prog_23_method_8_code 46 = .ok (.lload 7, 2) := by decide +kernel
theorem d6_48 : decode prog_23_method_8_code 48 = .ok (.aload_n 0, 1) := by decide +kernel
theorem d6_49 : decode prog_23_method_8_code 49 = .ok (.getfield 39, 3) := by decide +kernel
theorem d6_52 : decode prog_23_method_8_code 52 = .ok (.iload 5, 2) := by decide +kernel
theorem d6_54 : decode prog_23_method_8_code 54 = .ok (.iconst 1, 1) := by decide +kernel
theorem d6_55 : decode prog_23_method_8_code 55 = .ok (.iadd, 1) := by decide +kernel
theorem d6_56 : decode prog_23_method_8_code 56 = .ok (.laload, 1) := by decide +kernel
theorem d6_57 : decode prog_23_method_8_code 57 = .ok (.bipush 64, 2) := by decide +kernel
theorem d6_59 : decode prog_23_method_8_code 59 = .ok (.iload 6, 2) := by decide +kernel
theorem d6_61 : decode prog_23_method_8_code 61 = .ok (.isub, 1) := by decide +kernel
theorem d6_62 : decode prog_23_method_8_code 62 = .ok (.lshl, 1) := by decide +kernel
theorem d6_63 : decode prog_23_method_8_code 63 = .ok (.lor, 1) := by decide +kernel
theorem d6_64 : decode prog_23_method_8_code 64 = .ok (.lstore 7, 2) := by decide +kernel
theorem d6_66 : decode prog_23_method_8_code 66 = .ok (.lload 7, 2) := by decide +kernel
theorem d6_68 : decode prog_23_method_8_code 68 = .ok (.aload_n 0, 1) := by decide +kernel
theorem d6_69 : decode prog_23_method_8_code 69 = .ok (.getfield 34, 3) := by decide +kernel
theorem d6_72 : decode prog_23_method_8_code 72 = .ok (.land, 1) := by decide +kernel
theorem d6_73 : decode prog_23_method_8_code 73 = .ok (.lreturn, 1) := by decide +kernel
theorem ef_6 (m : MethodId) (x0 : Addr) (x1 : Int64) : entryFrame m #[(.ref x0), (.long x1)] 9 = mkF m 0 #[.val (.ref x0), .val (.long x1), .second, .unset, .unset, .unset, .unset, .unset, .unset] [] := by first | (simp [entryFrame, mkF, argsToLocals, Value.category]; done) | rfl
def Q6 (Z : State) (x0 : Addr) (x1 : Int64) (uw : Int32) (um : Int64) (ub : Addr) (ws_ : List Int64) (a0_ : Int64) (a1_ : Int64) (h0 : Heap) (n0 : Nat) (v : Option Value) (h : Heap) (L : List Loc) : Prop := v = some (.long (getV x1 uw um a0_ a1_)) ∧ Fr n0 L ∧ h = h0
set_option maxRecDepth 65536 in
set_option maxHeartbeats 40000000 in
theorem rm6 (l : Launch) (Z : State) (a0 : Array Value) (hw : ∀ d ∈ tables_1, d.before a0 Z = true) (ws : List Jvm.Cond) (x0 : Addr) (x1 : Int64) (uw : Int32) (um : Int64) (ub : Addr) (ws_ : List Int64) (a0_ : Int64) (a1_ : Int64) (h0 : Heap) (n0 : Nat) (Z0 : n0 ≤ h0.size) (F_width : Fld Z h0 x0 "com/example/bloom_filter_variants/bloomfiltervariants/PackedArray" "width" "I" (.int uw)) (F_mask : Fld Z h0 x0 "com/example/bloom_filter_variants/bloomfiltervariants/PackedArray" "mask" "J" (.long um)) (F_words : Fld Z h0 x0 "com/example/bloom_filter_variants/bloomfiltervariants/PackedArray" "words" "[J" (.ref ub)) (V_b : VArr Z h0 ub .long (ws_.map Value.long)) (hn0 : ¬ wordI x1 uw < 0) (hw0 : ws_[(wordI x1 uw).toNatClampNeg]? = some a0_) (hw1 : (64 : Int32) < shI x1 uw + uw → ¬ (wordI x1 uw + 1) < 0 ∧ ws_[(wordI x1 uw + 1).toNatClampNeg]? = some a1_) :
    MetFree l (⟨"com/example/bloom_filter_variants/bloomfiltervariants/PackedArray", "get", "(J)J"⟩ : MethodName) (head1 (Jvm.Cond.code (⟨"com/example/bloom_filter_variants/bloomfiltervariants/PackedArray", "get", "(J)J"⟩ : MethodName) prog_23_method_8_code 9 (some .long) :: ws) ({ frames := 0, cells := 0, slots := 0, locals := 0 } : Room)) (fun a U => a = #[(.ref x0), (.long x1)] ∧ Z.Warmed39 U.vm ∧ U.heap = h0) (fun _ _ _ _ _ => True) (fun _ U o U' => ∃ v L, o = .returned v ∧ Q6 Z x0 x1 uw um ub ws_ a0_ a1_ h0 n0 v U'.heap L ∧ FrameEnd U o U' L ({ frames := 0, cells := 0, slots := 0, locals := 0 } : Room).cells ({ frames := 0, cells := 0, slots := 0, locals := 0 } : Room).slots) := by
  refine MetFree.of_bodySF (plainFor_of_name pn_1) hisR ?_
  intro p e s m args below meth c s₁ Bd hml0 hP hK
  obtain ⟨rfl, hZ, hh⟩ := hP
  have hx := Bd.exec
  have hby := Bd.bytes
  have hml : c.maxLocals = 9 := hml0
  have hown : s.vm.findClass "com/example/bloom_filter_variants/bloomfiltervariants/PackedArray" = some m.cls := findClass_of_methodNamed Bd.named
  have hnm := (name_of_methodNamed Bd.named Bd.method).1
  have hk : meth.locks = false := BodyLoose.notSynchronized Bd
  have X0 : Stand p l e ({ frames := 0, cells := 0, slots := 0, locals := 0 } : Room) s m #[(.ref x0), (.long x1)] below meth c s₁ [] 0 0 := Stand.of_body Bd
  have e0 : s₁.heap = h0 := by rw [← hh, Bd.state]; rfl
  have N0 := Fr.nil n0
  show Go p e below s (Q6 Z x0 x1 uw um ub ws_ a0_ a1_ h0 n0) ({ frames := 0, cells := 0, slots := 0, locals := 0 } : Room).cells ({ frames := 0, cells := 0, slots := 0, locals := 0 } : Room).slots s₁ (entryFrame m #[(.ref x0), (.long x1)] 9)
  refine Go.cast (ef_6 m x0 x1) ?_
  refine Go.of (T' := s₁) (f' := (mkF m 1 #[.val (.ref x0), .val (.long x1), .second, .unset, .unset, .unset, .unset, .unset, .unset] [(.long x1)])) (fun t k => XS.lloadN X0.here hx rfl (hb hby d6_0) rfl k) ?_
  refine Go.of (T' := s₁) (f' := (mkF m 2 #[.val (.ref x0), .val (.long x1), .second, .unset, .unset, .unset, .unset, .unset, .unset] [(.ref x0), (.long x1)])) (fun t k => XS.aloadN X0.here hx rfl (hb hby d6_1) rfl rfl k) ?_
  obtain ⟨T1, X1, e1, st1⟩ := getF X0 hx hZ hown (host := "") (Or.inl (hw _ (List.mem_of_getElem? (i := 20) rfl))) Via.refl e0 F_width (g := (mkF m 2 #[.val (.ref x0), .val (.long x1), .second, .unset, .unset, .unset, .unset, .unset, .unset] [(.ref x0), (.long x1)])) rfl rfl (hb hby d6_2)
  refine Go.of (T' := T1) (f' := (mkF m 5 #[.val (.ref x0), .val (.long x1), .second, .unset, .unset, .unset, .unset, .unset, .unset] [(.int uw), (.long x1)])) (fun t k => st1 t k) ?_
  refine Go.of (T' := T1) (f' := (mkF m 6 #[.val (.ref x0), .val (.long x1), .second, .unset, .unset, .unset, .unset, .unset, .unset] [(.long (uw.toInt64)), (.long x1)])) (fun t k => XS.i2l X1.here hx rfl (hb hby d6_5) rfl k) ?_
  refine Go.of (T' := T1) (f' := (mkF m 7 #[.val (.ref x0), .val (.long x1), .second, .unset, .unset, .unset, .unset, .unset, .unset] [(.long (x1 * (uw.toInt64)))])) (fun t k => XS.lmul X1.here hx rfl (hb hby d6_6) rfl k) ?_
  refine Go.of (T' := T1) (f' := (mkF m 8 #[.val (.ref x0), .val (.long x1), .second, .val (.long (x1 * (uw.toInt64))), .second, .unset, .unset, .unset, .unset] [])) (fun t k => XS.lstoreN X1.here hx rfl (hb hby d6_7) rfl (l' := #[.val (.ref x0), .val (.long x1), .second, .val (.long (x1 * (uw.toInt64))), .second, .unset, .unset, .unset, .unset]) rfl k) ?_
  refine Go.of (T' := T1) (f' := (mkF m 9 #[.val (.ref x0), .val (.long x1), .second, .val (.long (x1 * (uw.toInt64))), .second, .unset, .unset, .unset, .unset] [(.long (x1 * (uw.toInt64)))])) (fun t k => XS.lloadN X1.here hx rfl (hb hby d6_8) rfl k) ?_
  refine Go.of (T' := T1) (f' := (mkF m 11 #[.val (.ref x0), .val (.long x1), .second, .val (.long (x1 * (uw.toInt64))), .second, .unset, .unset, .unset, .unset] [(.int (6 : Int32)), (.long (x1 * (uw.toInt64)))])) (fun t k => XS.bipush X1.here hx rfl (hb hby d6_9) k) ?_
  refine Go.of (T' := T1) (f' := (mkF m 12 #[.val (.ref x0), .val (.long x1), .second, .val (.long (x1 * (uw.toInt64))), .second, .unset, .unset, .unset, .unset] [(.long (((x1 * (uw.toInt64)).toUInt64 >>> ((6 : Int32) &&& 0x3f).toInt64.toUInt64).toInt64))])) (fun t k => XS.lushr X1.here hx rfl (hb hby d6_11) rfl k) ?_
  refine Go.of (T' := T1) (f' := (mkF m 13 #[.val (.ref x0), .val (.long x1), .second, .val (.long (x1 * (uw.toInt64))), .second, .unset, .unset, .unset, .unset] [(.int ((((x1 * (uw.toInt64)).toUInt64 >>> ((6 : Int32) &&& 0x3f).toInt64.toUInt64).toInt64).toInt32))])) (fun t k => XS.l2i X1.here hx rfl (hb hby d6_12) rfl k) ?_
  refine Go.of (T' := T1) (f' := (mkF m 15 #[.val (.ref x0), .val (.long x1), .second, .val (.long (x1 * (uw.toInt64))), .second, .val (.int ((((x1 * (uw.toInt64)).toUInt64 >>> ((6 : Int32) &&& 0x3f).toInt64.toUInt64).toInt64).toInt32)), .unset, .unset, .unset] [])) (fun t k => XS.istore X1.here hx rfl (hb hby d6_13) rfl (l' := #[.val (.ref x0), .val (.long x1), .second, .val (.long (x1 * (uw.toInt64))), .second, .val (.int ((((x1 * (uw.toInt64)).toUInt64 >>> ((6 : Int32) &&& 0x3f).toInt64.toUInt64).toInt64).toInt32)), .unset, .unset, .unset]) rfl k) ?_
  refine Go.of (T' := T1) (f' := (mkF m 16 #[.val (.ref x0), .val (.long x1), .second, .val (.long (x1 * (uw.toInt64))), .second, .val (.int ((((x1 * (uw.toInt64)).toUInt64 >>> ((6 : Int32) &&& 0x3f).toInt64.toUInt64).toInt64).toInt32)), .unset, .unset, .unset] [(.long (x1 * (uw.toInt64)))])) (fun t k => XS.lloadN X1.here hx rfl (hb hby d6_15) rfl k) ?_
  refine Go.of (T' := T1) (f' := (mkF m 17 #[.val (.ref x0), .val (.long x1), .second, .val (.long (x1 * (uw.toInt64))), .second, .val (.int ((((x1 * (uw.toInt64)).toUInt64 >>> ((6 : Int32) &&& 0x3f).toInt64.toUInt64).toInt64).toInt32)), .unset, .unset, .unset] [(.int ((x1 * (uw.toInt64)).toInt32))])) (fun t k => XS.l2i X1.here hx rfl (hb hby d6_16) rfl k) ?_
  refine Go.of (T' := T1) (f' := (mkF m 19 #[.val (.ref x0), .val (.long x1), .second, .val (.long (x1 * (uw.toInt64))), .second, .val (.int ((((x1 * (uw.toInt64)).toUInt64 >>> ((6 : Int32) &&& 0x3f).toInt64.toUInt64).toInt64).toInt32)), .unset, .unset, .unset] [(.int (63 : Int32)), (.int ((x1 * (uw.toInt64)).toInt32))])) (fun t k => XS.bipush X1.here hx rfl (hb hby d6_17) k) ?_
  refine Go.of (T' := T1) (f' := (mkF m 20 #[.val (.ref x0), .val (.long x1), .second, .val (.long (x1 * (uw.toInt64))), .second, .val (.int ((((x1 * (uw.toInt64)).toUInt64 >>> ((6 : Int32) &&& 0x3f).toInt64.toUInt64).toInt64).toInt32)), .unset, .unset, .unset] [(.int (((x1 * (uw.toInt64)).toInt32) &&& (63 : Int32)))])) (fun t k => XS.iand X1.here hx rfl (hb hby d6_19) rfl k) ?_
  refine Go.of (T' := T1) (f' := (mkF m 22 #[.val (.ref x0), .val (.long x1), .second, .val (.long (x1 * (uw.toInt64))), .second, .val (.int ((((x1 * (uw.toInt64)).toUInt64 >>> ((6 : Int32) &&& 0x3f).toInt64.toUInt64).toInt64).toInt32)), .val (.int (((x1 * (uw.toInt64)).toInt32) &&& (63 : Int32))), .unset, .unset] [])) (fun t k => XS.istore X1.here hx rfl (hb hby d6_20) rfl (l' := #[.val (.ref x0), .val (.long x1), .second, .val (.long (x1 * (uw.toInt64))), .second, .val (.int ((((x1 * (uw.toInt64)).toUInt64 >>> ((6 : Int32) &&& 0x3f).toInt64.toUInt64).toInt64).toInt32)), .val (.int (((x1 * (uw.toInt64)).toInt32) &&& (63 : Int32))), .unset, .unset]) rfl k) ?_
  refine Go.of (T' := T1) (f' := (mkF m 23 #[.val (.ref x0), .val (.long x1), .second, .val (.long (x1 * (uw.toInt64))), .second, .val (.int ((((x1 * (uw.toInt64)).toUInt64 >>> ((6 : Int32) &&& 0x3f).toInt64.toUInt64).toInt64).toInt32)), .val (.int (((x1 * (uw.toInt64)).toInt32) &&& (63 : Int32))), .unset, .unset] [(.ref x0)])) (fun t k => XS.aloadN X1.here hx rfl (hb hby d6_22) rfl rfl k) ?_
  obtain ⟨T2, X2, e2, st2⟩ := getF X1 hx hZ hown (host := "") (Or.inl (hw _ (List.mem_of_getElem? (i := 27) rfl))) Via.refl e1 F_words (g := (mkF m 23 #[.val (.ref x0), .val (.long x1), .second, .val (.long (x1 * (uw.toInt64))), .second, .val (.int ((((x1 * (uw.toInt64)).toUInt64 >>> ((6 : Int32) &&& 0x3f).toInt64.toUInt64).toInt64).toInt32)), .val (.int (((x1 * (uw.toInt64)).toInt32) &&& (63 : Int32))), .unset, .unset] [(.ref x0)])) rfl rfl (hb hby d6_23)
  refine Go.of (T' := T2) (f' := (mkF m 26 #[.val (.ref x0), .val (.long x1), .second, .val (.long (x1 * (uw.toInt64))), .second, .val (.int ((((x1 * (uw.toInt64)).toUInt64 >>> ((6 : Int32) &&& 0x3f).toInt64.toUInt64).toInt64).toInt32)), .val (.int (((x1 * (uw.toInt64)).toInt32) &&& (63 : Int32))), .unset, .unset] [(.ref ub)])) (fun t k => st2 t k) ?_
  refine Go.of (T' := T2) (f' := (mkF m 28 #[.val (.ref x0), .val (.long x1), .second, .val (.long (x1 * (uw.toInt64))), .second, .val (.int ((((x1 * (uw.toInt64)).toUInt64 >>> ((6 : Int32) &&& 0x3f).toInt64.toUInt64).toInt64).toInt32)), .val (.int (((x1 * (uw.toInt64)).toInt32) &&& (63 : Int32))), .unset, .unset] [(.int ((((x1 * (uw.toInt64)).toUInt64 >>> ((6 : Int32) &&& 0x3f).toInt64.toUInt64).toInt64).toInt32)), (.ref ub)])) (fun t k => XS.iload X2.here hx rfl (hb hby d6_26) rfl k) ?_
  refine Go.of (T' := T2) (f' := (mkF m 29 #[.val (.ref x0), .val (.long x1), .second, .val (.long (x1 * (uw.toInt64))), .second, .val (.int ((((x1 * (uw.toInt64)).toUInt64 >>> ((6 : Int32) &&& 0x3f).toInt64.toUInt64).toInt64).toInt32)), .val (.int (((x1 * (uw.toInt64)).toInt32) &&& (63 : Int32))), .unset, .unset] [(.long a0_)])) (fun t k => ldJ X2 hx hZ e2 V_b (j := ((((x1 * (uw.toInt64)).toUInt64 >>> ((6 : Int32) &&& 0x3f).toInt64.toUInt64).toInt64).toInt32)) (v := (.long a0_)) hn0 rfl (atmap hw0) (g := (mkF m 28 #[.val (.ref x0), .val (.long x1), .second, .val (.long (x1 * (uw.toInt64))), .second, .val (.int ((((x1 * (uw.toInt64)).toUInt64 >>> ((6 : Int32) &&& 0x3f).toInt64.toUInt64).toInt64).toInt32)), .val (.int (((x1 * (uw.toInt64)).toInt32) &&& (63 : Int32))), .unset, .unset] [(.int ((((x1 * (uw.toInt64)).toUInt64 >>> ((6 : Int32) &&& 0x3f).toInt64.toUInt64).toInt64).toInt32)), (.ref ub)])) rfl rfl (hb hby d6_28) t k) ?_
  refine Go.of (T' := T2) (f' := (mkF m 31 #[.val (.ref x0), .val (.long x1), .second, .val (.long (x1 * (uw.toInt64))), .second, .val (.int ((((x1 * (uw.toInt64)).toUInt64 >>> ((6 : Int32) &&& 0x3f).toInt64.toUInt64).toInt64).toInt32)), .val (.int (((x1 * (uw.toInt64)).toInt32) &&& (63 : Int32))), .unset, .unset] [(.int (((x1 * (uw.toInt64)).toInt32) &&& (63 : Int32))), (.long a0_)])) (fun t k => XS.iload X2.here hx rfl (hb hby d6_29) rfl k) ?_
  refine Go.of (T' := T2) (f' := (mkF m 32 #[.val (.ref x0), .val (.long x1), .second, .val (.long (x1 * (uw.toInt64))), .second, .val (.int ((((x1 * (uw.toInt64)).toUInt64 >>> ((6 : Int32) &&& 0x3f).toInt64.toUInt64).toInt64).toInt32)), .val (.int (((x1 * (uw.toInt64)).toInt32) &&& (63 : Int32))), .unset, .unset] [(.long ((a0_.toUInt64 >>> ((((x1 * (uw.toInt64)).toInt32) &&& (63 : Int32)) &&& 0x3f).toInt64.toUInt64).toInt64))])) (fun t k => XS.lushr X2.here hx rfl (hb hby d6_31) rfl k) ?_
  refine Go.of (T' := T2) (f' := (mkF m 34 #[.val (.ref x0), .val (.long x1), .second, .val (.long (x1 * (uw.toInt64))), .second, .val (.int ((((x1 * (uw.toInt64)).toUInt64 >>> ((6 : Int32) &&& 0x3f).toInt64.toUInt64).toInt64).toInt32)), .val (.int (((x1 * (uw.toInt64)).toInt32) &&& (63 : Int32))), .val (.long ((a0_.toUInt64 >>> ((((x1 * (uw.toInt64)).toInt32) &&& (63 : Int32)) &&& 0x3f).toInt64.toUInt64).toInt64)), .second] [])) (fun t k => XS.lstore X2.here hx rfl (hb hby d6_32) rfl (l' := #[.val (.ref x0), .val (.long x1), .second, .val (.long (x1 * (uw.toInt64))), .second, .val (.int ((((x1 * (uw.toInt64)).toUInt64 >>> ((6 : Int32) &&& 0x3f).toInt64.toUInt64).toInt64).toInt32)), .val (.int (((x1 * (uw.toInt64)).toInt32) &&& (63 : Int32))), .val (.long ((a0_.toUInt64 >>> ((((x1 * (uw.toInt64)).toInt32) &&& (63 : Int32)) &&& 0x3f).toInt64.toUInt64).toInt64)), .second]) rfl k) ?_
  refine Go.of (T' := T2) (f' := (mkF m 36 #[.val (.ref x0), .val (.long x1), .second, .val (.long (x1 * (uw.toInt64))), .second, .val (.int ((((x1 * (uw.toInt64)).toUInt64 >>> ((6 : Int32) &&& 0x3f).toInt64.toUInt64).toInt64).toInt32)), .val (.int (((x1 * (uw.toInt64)).toInt32) &&& (63 : Int32))), .val (.long ((a0_.toUInt64 >>> ((((x1 * (uw.toInt64)).toInt32) &&& (63 : Int32)) &&& 0x3f).toInt64.toUInt64).toInt64)), .second] [(.int (((x1 * (uw.toInt64)).toInt32) &&& (63 : Int32)))])) (fun t k => XS.iload X2.here hx rfl (hb hby d6_34) rfl k) ?_
  refine Go.of (T' := T2) (f' := (mkF m 37 #[.val (.ref x0), .val (.long x1), .second, .val (.long (x1 * (uw.toInt64))), .second, .val (.int ((((x1 * (uw.toInt64)).toUInt64 >>> ((6 : Int32) &&& 0x3f).toInt64.toUInt64).toInt64).toInt32)), .val (.int (((x1 * (uw.toInt64)).toInt32) &&& (63 : Int32))), .val (.long ((a0_.toUInt64 >>> ((((x1 * (uw.toInt64)).toInt32) &&& (63 : Int32)) &&& 0x3f).toInt64.toUInt64).toInt64)), .second] [(.ref x0), (.int (((x1 * (uw.toInt64)).toInt32) &&& (63 : Int32)))])) (fun t k => XS.aloadN X2.here hx rfl (hb hby d6_36) rfl rfl k) ?_
  obtain ⟨T3, X3, e3, st3⟩ := getF X2 hx hZ hown (host := "") (Or.inl (hw _ (List.mem_of_getElem? (i := 20) rfl))) Via.refl e2 F_width (g := (mkF m 37 #[.val (.ref x0), .val (.long x1), .second, .val (.long (x1 * (uw.toInt64))), .second, .val (.int ((((x1 * (uw.toInt64)).toUInt64 >>> ((6 : Int32) &&& 0x3f).toInt64.toUInt64).toInt64).toInt32)), .val (.int (((x1 * (uw.toInt64)).toInt32) &&& (63 : Int32))), .val (.long ((a0_.toUInt64 >>> ((((x1 * (uw.toInt64)).toInt32) &&& (63 : Int32)) &&& 0x3f).toInt64.toUInt64).toInt64)), .second] [(.ref x0), (.int (((x1 * (uw.toInt64)).toInt32) &&& (63 : Int32)))])) rfl rfl (hb hby d6_37)
  refine Go.of (T' := T3) (f' := (mkF m 40 #[.val (.ref x0), .val (.long x1), .second, .val (.long (x1 * (uw.toInt64))), .second, .val (.int ((((x1 * (uw.toInt64)).toUInt64 >>> ((6 : Int32) &&& 0x3f).toInt64.toUInt64).toInt64).toInt32)), .val (.int (((x1 * (uw.toInt64)).toInt32) &&& (63 : Int32))), .val (.long ((a0_.toUInt64 >>> ((((x1 * (uw.toInt64)).toInt32) &&& (63 : Int32)) &&& 0x3f).toInt64.toUInt64).toInt64)), .second] [(.int uw), (.int (((x1 * (uw.toInt64)).toInt32) &&& (63 : Int32)))])) (fun t k => st3 t k) ?_
  refine Go.of (T' := T3) (f' := (mkF m 41 #[.val (.ref x0), .val (.long x1), .second, .val (.long (x1 * (uw.toInt64))), .second, .val (.int ((((x1 * (uw.toInt64)).toUInt64 >>> ((6 : Int32) &&& 0x3f).toInt64.toUInt64).toInt64).toInt32)), .val (.int (((x1 * (uw.toInt64)).toInt32) &&& (63 : Int32))), .val (.long ((a0_.toUInt64 >>> ((((x1 * (uw.toInt64)).toInt32) &&& (63 : Int32)) &&& 0x3f).toInt64.toUInt64).toInt64)), .second] [(.int ((((x1 * (uw.toInt64)).toInt32) &&& (63 : Int32)) + uw))])) (fun t k => XS.iadd X3.here hx rfl (hb hby d6_40) rfl k) ?_
  refine Go.of (T' := T3) (f' := (mkF m 43 #[.val (.ref x0), .val (.long x1), .second, .val (.long (x1 * (uw.toInt64))), .second, .val (.int ((((x1 * (uw.toInt64)).toUInt64 >>> ((6 : Int32) &&& 0x3f).toInt64.toUInt64).toInt64).toInt32)), .val (.int (((x1 * (uw.toInt64)).toInt32) &&& (63 : Int32))), .val (.long ((a0_.toUInt64 >>> ((((x1 * (uw.toInt64)).toInt32) &&& (63 : Int32)) &&& 0x3f).toInt64.toUInt64).toInt64)), .second] [(.int (64 : Int32)), (.int ((((x1 * (uw.toInt64)).toInt32) &&& (63 : Int32)) + uw))])) (fun t k => XS.bipush X3.here hx rfl (hb hby d6_41) k) ?_
  by_cases hc43 : (64 : Int32) < ((((x1 * (uw.toInt64)).toInt32) &&& (63 : Int32)) + uw)
  · -- pc 43: no
    refine Go.of (T' := T3) (f' := (mkF m 46 #[.val (.ref x0), .val (.long x1), .second, .val (.long (x1 * (uw.toInt64))), .second, .val (.int ((((x1 * (uw.toInt64)).toUInt64 >>> ((6 : Int32) &&& 0x3f).toInt64.toUInt64).toInt64).toInt32)), .val (.int (((x1 * (uw.toInt64)).toInt32) &&& (63 : Int32))), .val (.long ((a0_.toUInt64 >>> ((((x1 * (uw.toInt64)).toInt32) &&& (63 : Int32)) &&& 0x3f).toInt64.toUInt64).toInt64)), .second] [])) (fun t k => XS.icmpNo X3.here hx rfl (hb hby d6_43) rfl ((tlt hc43).2.2.2) k) ?_
    refine Go.of (T' := T3) (f' := (mkF m 48 #[.val (.ref x0), .val (.long x1), .second, .val (.long (x1 * (uw.toInt64))), .second, .val (.int ((((x1 * (uw.toInt64)).toUInt64 >>> ((6 : Int32) &&& 0x3f).toInt64.toUInt64).toInt64).toInt32)), .val (.int (((x1 * (uw.toInt64)).toInt32) &&& (63 : Int32))), .val (.long ((a0_.toUInt64 >>> ((((x1 * (uw.toInt64)).toInt32) &&& (63 : Int32)) &&& 0x3f).toInt64.toUInt64).toInt64)), .second] [(.long ((a0_.toUInt64 >>> ((((x1 * (uw.toInt64)).toInt32) &&& (63 : Int32)) &&& 0x3f).toInt64.toUInt64).toInt64))])) (fun t k => XS.lload X3.here hx rfl (hb hby d6_46) rfl k) ?_
    refine Go.of (T' := T3) (f' := (mkF m 49 #[.val (.ref x0), .val (.long x1), .second, .val (.long (x1 * (uw.toInt64))), .second, .val (.int ((((x1 * (uw.toInt64)).toUInt64 >>> ((6 : Int32) &&& 0x3f).toInt64.toUInt64).toInt64).toInt32)), .val (.int (((x1 * (uw.toInt64)).toInt32) &&& (63 : Int32))), .val (.long ((a0_.toUInt64 >>> ((((x1 * (uw.toInt64)).toInt32) &&& (63 : Int32)) &&& 0x3f).toInt64.toUInt64).toInt64)), .second] [(.ref x0), (.long ((a0_.toUInt64 >>> ((((x1 * (uw.toInt64)).toInt32) &&& (63 : Int32)) &&& 0x3f).toInt64.toUInt64).toInt64))])) (fun t k => XS.aloadN X3.here hx rfl (hb hby d6_48) rfl rfl k) ?_
    obtain ⟨T4, X4, e4, st4⟩ := getF X3 hx hZ hown (host := "") (Or.inl (hw _ (List.mem_of_getElem? (i := 27) rfl))) Via.refl e3 F_words (g := (mkF m 49 #[.val (.ref x0), .val (.long x1), .second, .val (.long (x1 * (uw.toInt64))), .second, .val (.int ((((x1 * (uw.toInt64)).toUInt64 >>> ((6 : Int32) &&& 0x3f).toInt64.toUInt64).toInt64).toInt32)), .val (.int (((x1 * (uw.toInt64)).toInt32) &&& (63 : Int32))), .val (.long ((a0_.toUInt64 >>> ((((x1 * (uw.toInt64)).toInt32) &&& (63 : Int32)) &&& 0x3f).toInt64.toUInt64).toInt64)), .second] [(.ref x0), (.long ((a0_.toUInt64 >>> ((((x1 * (uw.toInt64)).toInt32) &&& (63 : Int32)) &&& 0x3f).toInt64.toUInt64).toInt64))])) rfl rfl (hb hby d6_49)
    refine Go.of (T' := T4) (f' := (mkF m 52 #[.val (.ref x0), .val (.long x1), .second, .val (.long (x1 * (uw.toInt64))), .second, .val (.int ((((x1 * (uw.toInt64)).toUInt64 >>> ((6 : Int32) &&& 0x3f).toInt64.toUInt64).toInt64).toInt32)), .val (.int (((x1 * (uw.toInt64)).toInt32) &&& (63 : Int32))), .val (.long ((a0_.toUInt64 >>> ((((x1 * (uw.toInt64)).toInt32) &&& (63 : Int32)) &&& 0x3f).toInt64.toUInt64).toInt64)), .second] [(.ref ub), (.long ((a0_.toUInt64 >>> ((((x1 * (uw.toInt64)).toInt32) &&& (63 : Int32)) &&& 0x3f).toInt64.toUInt64).toInt64))])) (fun t k => st4 t k) ?_
    refine Go.of (T' := T4) (f' := (mkF m 54 #[.val (.ref x0), .val (.long x1), .second, .val (.long (x1 * (uw.toInt64))), .second, .val (.int ((((x1 * (uw.toInt64)).toUInt64 >>> ((6 : Int32) &&& 0x3f).toInt64.toUInt64).toInt64).toInt32)), .val (.int (((x1 * (uw.toInt64)).toInt32) &&& (63 : Int32))), .val (.long ((a0_.toUInt64 >>> ((((x1 * (uw.toInt64)).toInt32) &&& (63 : Int32)) &&& 0x3f).toInt64.toUInt64).toInt64)), .second] [(.int ((((x1 * (uw.toInt64)).toUInt64 >>> ((6 : Int32) &&& 0x3f).toInt64.toUInt64).toInt64).toInt32)), (.ref ub), (.long ((a0_.toUInt64 >>> ((((x1 * (uw.toInt64)).toInt32) &&& (63 : Int32)) &&& 0x3f).toInt64.toUInt64).toInt64))])) (fun t k => XS.iload X4.here hx rfl (hb hby d6_52) rfl k) ?_
    refine Go.of (T' := T4) (f' := (mkF m 55 #[.val (.ref x0), .val (.long x1), .second, .val (.long (x1 * (uw.toInt64))), .second, .val (.int ((((x1 * (uw.toInt64)).toUInt64 >>> ((6 : Int32) &&& 0x3f).toInt64.toUInt64).toInt64).toInt32)), .val (.int (((x1 * (uw.toInt64)).toInt32) &&& (63 : Int32))), .val (.long ((a0_.toUInt64 >>> ((((x1 * (uw.toInt64)).toInt32) &&& (63 : Int32)) &&& 0x3f).toInt64.toUInt64).toInt64)), .second] [(.int (1 : Int32)), (.int ((((x1 * (uw.toInt64)).toUInt64 >>> ((6 : Int32) &&& 0x3f).toInt64.toUInt64).toInt64).toInt32)), (.ref ub), (.long ((a0_.toUInt64 >>> ((((x1 * (uw.toInt64)).toInt32) &&& (63 : Int32)) &&& 0x3f).toInt64.toUInt64).toInt64))])) (fun t k => XS.iconst X4.here hx rfl (hb hby d6_54) k) ?_
    refine Go.of (T' := T4) (f' := (mkF m 56 #[.val (.ref x0), .val (.long x1), .second, .val (.long (x1 * (uw.toInt64))), .second, .val (.int ((((x1 * (uw.toInt64)).toUInt64 >>> ((6 : Int32) &&& 0x3f).toInt64.toUInt64).toInt64).toInt32)), .val (.int (((x1 * (uw.toInt64)).toInt32) &&& (63 : Int32))), .val (.long ((a0_.toUInt64 >>> ((((x1 * (uw.toInt64)).toInt32) &&& (63 : Int32)) &&& 0x3f).toInt64.toUInt64).toInt64)), .second] [(.int (((((x1 * (uw.toInt64)).toUInt64 >>> ((6 : Int32) &&& 0x3f).toInt64.toUInt64).toInt64).toInt32) + (1 : Int32))), (.ref ub), (.long ((a0_.toUInt64 >>> ((((x1 * (uw.toInt64)).toInt32) &&& (63 : Int32)) &&& 0x3f).toInt64.toUInt64).toInt64))])) (fun t k => XS.iadd X4.here hx rfl (hb hby d6_55) rfl k) ?_
    refine Go.of (T' := T4) (f' := (mkF m 57 #[.val (.ref x0), .val (.long x1), .second, .val (.long (x1 * (uw.toInt64))), .second, .val (.int ((((x1 * (uw.toInt64)).toUInt64 >>> ((6 : Int32) &&& 0x3f).toInt64.toUInt64).toInt64).toInt32)), .val (.int (((x1 * (uw.toInt64)).toInt32) &&& (63 : Int32))), .val (.long ((a0_.toUInt64 >>> ((((x1 * (uw.toInt64)).toInt32) &&& (63 : Int32)) &&& 0x3f).toInt64.toUInt64).toInt64)), .second] [(.long a1_), (.long ((a0_.toUInt64 >>> ((((x1 * (uw.toInt64)).toInt32) &&& (63 : Int32)) &&& 0x3f).toInt64.toUInt64).toInt64))])) (fun t k => ldJ X4 hx hZ e4 V_b (j := (((((x1 * (uw.toInt64)).toUInt64 >>> ((6 : Int32) &&& 0x3f).toInt64.toUInt64).toInt64).toInt32) + (1 : Int32))) (v := (.long a1_)) (hw1 hc43).1 rfl (atmap (hw1 hc43).2) (g := (mkF m 56 #[.val (.ref x0), .val (.long x1), .second, .val (.long (x1 * (uw.toInt64))), .second, .val (.int ((((x1 * (uw.toInt64)).toUInt64 >>> ((6 : Int32) &&& 0x3f).toInt64.toUInt64).toInt64).toInt32)), .val (.int (((x1 * (uw.toInt64)).toInt32) &&& (63 : Int32))), .val (.long ((a0_.toUInt64 >>> ((((x1 * (uw.toInt64)).toInt32) &&& (63 : Int32)) &&& 0x3f).toInt64.toUInt64).toInt64)), .second] [(.int (((((x1 * (uw.toInt64)).toUInt64 >>> ((6 : Int32) &&& 0x3f).toInt64.toUInt64).toInt64).toInt32) + (1 : Int32))), (.ref ub), (.long ((a0_.toUInt64 >>> ((((x1 * (uw.toInt64)).toInt32) &&& (63 : Int32)) &&& 0x3f).toInt64.toUInt64).toInt64))])) rfl rfl (hb hby d6_56) t k) ?_
    refine Go.of (T' := T4) (f' := (mkF m 59 #[.val (.ref x0), .val (.long x1), .second, .val (.long (x1 * (uw.toInt64))), .second, .val (.int ((((x1 * (uw.toInt64)).toUInt64 >>> ((6 : Int32) &&& 0x3f).toInt64.toUInt64).toInt64).toInt32)), .val (.int (((x1 * (uw.toInt64)).toInt32) &&& (63 : Int32))), .val (.long ((a0_.toUInt64 >>> ((((x1 * (uw.toInt64)).toInt32) &&& (63 : Int32)) &&& 0x3f).toInt64.toUInt64).toInt64)), .second] [(.int (64 : Int32)), (.long a1_), (.long ((a0_.toUInt64 >>> ((((x1 * (uw.toInt64)).toInt32) &&& (63 : Int32)) &&& 0x3f).toInt64.toUInt64).toInt64))])) (fun t k => XS.bipush X4.here hx rfl (hb hby d6_57) k) ?_
    refine Go.of (T' := T4) (f' := (mkF m 61 #[.val (.ref x0), .val (.long x1), .second, .val (.long (x1 * (uw.toInt64))), .second, .val (.int ((((x1 * (uw.toInt64)).toUInt64 >>> ((6 : Int32) &&& 0x3f).toInt64.toUInt64).toInt64).toInt32)), .val (.int (((x1 * (uw.toInt64)).toInt32) &&& (63 : Int32))), .val (.long ((a0_.toUInt64 >>> ((((x1 * (uw.toInt64)).toInt32) &&& (63 : Int32)) &&& 0x3f).toInt64.toUInt64).toInt64)), .second] [(.int (((x1 * (uw.toInt64)).toInt32) &&& (63 : Int32))), (.int (64 : Int32)), (.long a1_), (.long ((a0_.toUInt64 >>> ((((x1 * (uw.toInt64)).toInt32) &&& (63 : Int32)) &&& 0x3f).toInt64.toUInt64).toInt64))])) (fun t k => XS.iload X4.here hx rfl (hb hby d6_59) rfl k) ?_
    refine Go.of (T' := T4) (f' := (mkF m 62 #[.val (.ref x0), .val (.long x1), .second, .val (.long (x1 * (uw.toInt64))), .second, .val (.int ((((x1 * (uw.toInt64)).toUInt64 >>> ((6 : Int32) &&& 0x3f).toInt64.toUInt64).toInt64).toInt32)), .val (.int (((x1 * (uw.toInt64)).toInt32) &&& (63 : Int32))), .val (.long ((a0_.toUInt64 >>> ((((x1 * (uw.toInt64)).toInt32) &&& (63 : Int32)) &&& 0x3f).toInt64.toUInt64).toInt64)), .second] [(.int ((64 : Int32) - (((x1 * (uw.toInt64)).toInt32) &&& (63 : Int32)))), (.long a1_), (.long ((a0_.toUInt64 >>> ((((x1 * (uw.toInt64)).toInt32) &&& (63 : Int32)) &&& 0x3f).toInt64.toUInt64).toInt64))])) (fun t k => XS.isub X4.here hx rfl (hb hby d6_61) rfl k) ?_
    refine Go.of (T' := T4) (f' := (mkF m 63 #[.val (.ref x0), .val (.long x1), .second, .val (.long (x1 * (uw.toInt64))), .second, .val (.int ((((x1 * (uw.toInt64)).toUInt64 >>> ((6 : Int32) &&& 0x3f).toInt64.toUInt64).toInt64).toInt32)), .val (.int (((x1 * (uw.toInt64)).toInt32) &&& (63 : Int32))), .val (.long ((a0_.toUInt64 >>> ((((x1 * (uw.toInt64)).toInt32) &&& (63 : Int32)) &&& 0x3f).toInt64.toUInt64).toInt64)), .second] [(.long (a1_ <<< (((64 : Int32) - (((x1 * (uw.toInt64)).toInt32) &&& (63 : Int32))) &&& 0x3f).toInt64)), (.long ((a0_.toUInt64 >>> ((((x1 * (uw.toInt64)).toInt32) &&& (63 : Int32)) &&& 0x3f).toInt64.toUInt64).toInt64))])) (fun t k => XS.lshl X4.here hx rfl (hb hby d6_62) rfl k) ?_
    refine Go.of (T' := T4) (f' := (mkF m 64 #[.val (.ref x0), .val (.long x1), .second, .val (.long (x1 * (uw.toInt64))), .second, .val (.int ((((x1 * (uw.toInt64)).toUInt64 >>> ((6 : Int32) &&& 0x3f).toInt64.toUInt64).toInt64).toInt32)), .val (.int (((x1 * (uw.toInt64)).toInt32) &&& (63 : Int32))), .val (.long ((a0_.toUInt64 >>> ((((x1 * (uw.toInt64)).toInt32) &&& (63 : Int32)) &&& 0x3f).toInt64.toUInt64).toInt64)), .second] [(.long (((a0_.toUInt64 >>> ((((x1 * (uw.toInt64)).toInt32) &&& (63 : Int32)) &&& 0x3f).toInt64.toUInt64).toInt64) ||| (a1_ <<< (((64 : Int32) - (((x1 * (uw.toInt64)).toInt32) &&& (63 : Int32))) &&& 0x3f).toInt64)))])) (fun t k => XS.lor X4.here hx rfl (hb hby d6_63) rfl k) ?_
    refine Go.of (T' := T4) (f' := (mkF m 66 #[.val (.ref x0), .val (.long x1), .second, .val (.long (x1 * (uw.toInt64))), .second, .val (.int ((((x1 * (uw.toInt64)).toUInt64 >>> ((6 : Int32) &&& 0x3f).toInt64.toUInt64).toInt64).toInt32)), .val (.int (((x1 * (uw.toInt64)).toInt32) &&& (63 : Int32))), .val (.long (((a0_.toUInt64 >>> ((((x1 * (uw.toInt64)).toInt32) &&& (63 : Int32)) &&& 0x3f).toInt64.toUInt64).toInt64) ||| (a1_ <<< (((64 : Int32) - (((x1 * (uw.toInt64)).toInt32) &&& (63 : Int32))) &&& 0x3f).toInt64))), .second] [])) (fun t k => XS.lstore X4.here hx rfl (hb hby d6_64) rfl (l' := #[.val (.ref x0), .val (.long x1), .second, .val (.long (x1 * (uw.toInt64))), .second, .val (.int ((((x1 * (uw.toInt64)).toUInt64 >>> ((6 : Int32) &&& 0x3f).toInt64.toUInt64).toInt64).toInt32)), .val (.int (((x1 * (uw.toInt64)).toInt32) &&& (63 : Int32))), .val (.long (((a0_.toUInt64 >>> ((((x1 * (uw.toInt64)).toInt32) &&& (63 : Int32)) &&& 0x3f).toInt64.toUInt64).toInt64) ||| (a1_ <<< (((64 : Int32) - (((x1 * (uw.toInt64)).toInt32) &&& (63 : Int32))) &&& 0x3f).toInt64))), .second]) rfl k) ?_
    refine Go.of (T' := T4) (f' := (mkF m 68 #[.val (.ref x0), .val (.long x1), .second, .val (.long (x1 * (uw.toInt64))), .second, .val (.int ((((x1 * (uw.toInt64)).toUInt64 >>> ((6 : Int32) &&& 0x3f).toInt64.toUInt64).toInt64).toInt32)), .val (.int (((x1 * (uw.toInt64)).toInt32) &&& (63 : Int32))), .val (.long (((a0_.toUInt64 >>> ((((x1 * (uw.toInt64)).toInt32) &&& (63 : Int32)) &&& 0x3f).toInt64.toUInt64).toInt64) ||| (a1_ <<< (((64 : Int32) - (((x1 * (uw.toInt64)).toInt32) &&& (63 : Int32))) &&& 0x3f).toInt64))), .second] [(.long (((a0_.toUInt64 >>> ((((x1 * (uw.toInt64)).toInt32) &&& (63 : Int32)) &&& 0x3f).toInt64.toUInt64).toInt64) ||| (a1_ <<< (((64 : Int32) - (((x1 * (uw.toInt64)).toInt32) &&& (63 : Int32))) &&& 0x3f).toInt64)))])) (fun t k => XS.lload X4.here hx rfl (hb hby d6_66) rfl k) ?_
    refine Go.of (T' := T4) (f' := (mkF m 69 #[.val (.ref x0), .val (.long x1), .second, .val (.long (x1 * (uw.toInt64))), .second, .val (.int ((((x1 * (uw.toInt64)).toUInt64 >>> ((6 : Int32) &&& 0x3f).toInt64.toUInt64).toInt64).toInt32)), .val (.int (((x1 * (uw.toInt64)).toInt32) &&& (63 : Int32))), .val (.long (((a0_.toUInt64 >>> ((((x1 * (uw.toInt64)).toInt32) &&& (63 : Int32)) &&& 0x3f).toInt64.toUInt64).toInt64) ||| (a1_ <<< (((64 : Int32) - (((x1 * (uw.toInt64)).toInt32) &&& (63 : Int32))) &&& 0x3f).toInt64))), .second] [(.ref x0), (.long (((a0_.toUInt64 >>> ((((x1 * (uw.toInt64)).toInt32) &&& (63 : Int32)) &&& 0x3f).toInt64.toUInt64).toInt64) ||| (a1_ <<< (((64 : Int32) - (((x1 * (uw.toInt64)).toInt32) &&& (63 : Int32))) &&& 0x3f).toInt64)))])) (fun t k => XS.aloadN X4.here hx rfl (hb hby d6_68) rfl rfl k) ?_
    obtain ⟨T5, X5, e5, st5⟩ := getF X4 hx hZ hown (host := "") (Or.inl (hw _ (List.mem_of_getElem? (i := 23) rfl))) Via.refl e4 F_mask (g := (mkF m 69 #[.val (.ref x0), .val (.long x1), .second, .val (.long (x1 * (uw.toInt64))), .second, .val (.int ((((x1 * (uw.toInt64)).toUInt64 >>> ((6 : Int32) &&& 0x3f).toInt64.toUInt64).toInt64).toInt32)), .val (.int (((x1 * (uw.toInt64)).toInt32) &&& (63 : Int32))), .val (.long (((a0_.toUInt64 >>> ((((x1 * (uw.toInt64)).toInt32) &&& (63 : Int32)) &&& 0x3f).toInt64.toUInt64).toInt64) ||| (a1_ <<< (((64 : Int32) - (((x1 * (uw.toInt64)).toInt32) &&& (63 : Int32))) &&& 0x3f).toInt64))), .second] [(.ref x0), (.long (((a0_.toUInt64 >>> ((((x1 * (uw.toInt64)).toInt32) &&& (63 : Int32)) &&& 0x3f).toInt64.toUInt64).toInt64) ||| (a1_ <<< (((64 : Int32) - (((x1 * (uw.toInt64)).toInt32) &&& (63 : Int32))) &&& 0x3f).toInt64)))])) rfl rfl (hb hby d6_69)
    refine Go.of (T' := T5) (f' := (mkF m 72 #[.val (.ref x0), .val (.long x1), .second, .val (.long (x1 * (uw.toInt64))), .second, .val (.int ((((x1 * (uw.toInt64)).toUInt64 >>> ((6 : Int32) &&& 0x3f).toInt64.toUInt64).toInt64).toInt32)), .val (.int (((x1 * (uw.toInt64)).toInt32) &&& (63 : Int32))), .val (.long (((a0_.toUInt64 >>> ((((x1 * (uw.toInt64)).toInt32) &&& (63 : Int32)) &&& 0x3f).toInt64.toUInt64).toInt64) ||| (a1_ <<< (((64 : Int32) - (((x1 * (uw.toInt64)).toInt32) &&& (63 : Int32))) &&& 0x3f).toInt64))), .second] [(.long um), (.long (((a0_.toUInt64 >>> ((((x1 * (uw.toInt64)).toInt32) &&& (63 : Int32)) &&& 0x3f).toInt64.toUInt64).toInt64) ||| (a1_ <<< (((64 : Int32) - (((x1 * (uw.toInt64)).toInt32) &&& (63 : Int32))) &&& 0x3f).toInt64)))])) (fun t k => st5 t k) ?_
    refine Go.of (T' := T5) (f' := (mkF m 73 #[.val (.ref x0), .val (.long x1), .second, .val (.long (x1 * (uw.toInt64))), .second, .val (.int ((((x1 * (uw.toInt64)).toUInt64 >>> ((6 : Int32) &&& 0x3f).toInt64.toUInt64).toInt64).toInt32)), .val (.int (((x1 * (uw.toInt64)).toInt32) &&& (63 : Int32))), .val (.long (((a0_.toUInt64 >>> ((((x1 * (uw.toInt64)).toInt32) &&& (63 : Int32)) &&& 0x3f).toInt64.toUInt64).toInt64) ||| (a1_ <<< (((64 : Int32) - (((x1 * (uw.toInt64)).toInt32) &&& (63 : Int32))) &&& 0x3f).toInt64))), .second] [(.long ((((a0_.toUInt64 >>> ((((x1 * (uw.toInt64)).toInt32) &&& (63 : Int32)) &&& 0x3f).toInt64.toUInt64).toInt64) ||| (a1_ <<< (((64 : Int32) - (((x1 * (uw.toInt64)).toInt32) &&& (63 : Int32))) &&& 0x3f).toInt64)) &&& um))])) (fun t k => XS.land X5.here hx rfl (hb hby d6_72) rfl k) ?_
    refine Go.retJ X5 hx hk Bd.returns (hb hby d6_73) (by decide) (by decide) ?_
    rw [e5]
    exact ⟨by rw [getV, if_pos (show (64 : Int32) < shI x1 uw + uw from hc43)]; rfl, N0, rfl⟩
  · -- pc 43: yes
    refine Go.of (T' := T3) (f' := (mkF m 66 #[.val (.ref x0), .val (.long x1), .second, .val (.long (x1 * (uw.toInt64))), .second, .val (.int ((((x1 * (uw.toInt64)).toUInt64 >>> ((6 : Int32) &&& 0x3f).toInt64.toUInt64).toInt64).toInt32)), .val (.int (((x1 * (uw.toInt64)).toInt32) &&& (63 : Int32))), .val (.long ((a0_.toUInt64 >>> ((((x1 * (uw.toInt64)).toInt32) &&& (63 : Int32)) &&& 0x3f).toInt64.toUInt64).toInt64)), .second] [])) (fun t k => XS.icmpYes X3.here hx rfl (pc0 := 43) (pc' := 66) rfl (hb hby d6_43) rfl ((flt hc43).2.2.2) (by decide) (by decide) k) ?_
    refine Go.of (T' := T3) (f' := (mkF m 68 #[.val (.ref x0), .val (.long x1), .second, .val (.long (x1 * (uw.toInt64))), .second, .val (.int ((((x1 * (uw.toInt64)).toUInt64 >>> ((6 : Int32) &&& 0x3f).toInt64.toUInt64).toInt64).toInt32)), .val (.int (((x1 * (uw.toInt64)).toInt32) &&& (63 : Int32))), .val (.long ((a0_.toUInt64 >>> ((((x1 * (uw.toInt64)).toInt32) &&& (63 : Int32)) &&& 0x3f).toInt64.toUInt64).toInt64)), .second] [(.long ((a0_.toUInt64 >>> ((((x1 * (uw.toInt64)).toInt32) &&& (63 : Int32)) &&& 0x3f).toInt64.toUInt64).toInt64))])) (fun t k => XS.lload X3.here hx rfl (hb hby d6_66) rfl k) ?_
    refine Go.of (T' := T3) (f' := (mkF m 69 #[.val (.ref x0), .val (.long x1), .second, .val (.long (x1 * (uw.toInt64))), .second, .val (.int ((((x1 * (uw.toInt64)).toUInt64 >>> ((6 : Int32) &&& 0x3f).toInt64.toUInt64).toInt64).toInt32)), .val (.int (((x1 * (uw.toInt64)).toInt32) &&& (63 : Int32))), .val (.long ((a0_.toUInt64 >>> ((((x1 * (uw.toInt64)).toInt32) &&& (63 : Int32)) &&& 0x3f).toInt64.toUInt64).toInt64)), .second] [(.ref x0), (.long ((a0_.toUInt64 >>> ((((x1 * (uw.toInt64)).toInt32) &&& (63 : Int32)) &&& 0x3f).toInt64.toUInt64).toInt64))])) (fun t k => XS.aloadN X3.here hx rfl (hb hby d6_68) rfl rfl k) ?_
    obtain ⟨T6, X6, e6, st6⟩ := getF X3 hx hZ hown (host := "") (Or.inl (hw _ (List.mem_of_getElem? (i := 23) rfl))) Via.refl e3 F_mask (g := (mkF m 69 #[.val (.ref x0), .val (.long x1), .second, .val (.long (x1 * (uw.toInt64))), .second, .val (.int ((((x1 * (uw.toInt64)).toUInt64 >>> ((6 : Int32) &&& 0x3f).toInt64.toUInt64).toInt64).toInt32)), .val (.int (((x1 * (uw.toInt64)).toInt32) &&& (63 : Int32))), .val (.long ((a0_.toUInt64 >>> ((((x1 * (uw.toInt64)).toInt32) &&& (63 : Int32)) &&& 0x3f).toInt64.toUInt64).toInt64)), .second] [(.ref x0), (.long ((a0_.toUInt64 >>> ((((x1 * (uw.toInt64)).toInt32) &&& (63 : Int32)) &&& 0x3f).toInt64.toUInt64).toInt64))])) rfl rfl (hb hby d6_69)
    refine Go.of (T' := T6) (f' := (mkF m 72 #[.val (.ref x0), .val (.long x1), .second, .val (.long (x1 * (uw.toInt64))), .second, .val (.int ((((x1 * (uw.toInt64)).toUInt64 >>> ((6 : Int32) &&& 0x3f).toInt64.toUInt64).toInt64).toInt32)), .val (.int (((x1 * (uw.toInt64)).toInt32) &&& (63 : Int32))), .val (.long ((a0_.toUInt64 >>> ((((x1 * (uw.toInt64)).toInt32) &&& (63 : Int32)) &&& 0x3f).toInt64.toUInt64).toInt64)), .second] [(.long um), (.long ((a0_.toUInt64 >>> ((((x1 * (uw.toInt64)).toInt32) &&& (63 : Int32)) &&& 0x3f).toInt64.toUInt64).toInt64))])) (fun t k => st6 t k) ?_
    refine Go.of (T' := T6) (f' := (mkF m 73 #[.val (.ref x0), .val (.long x1), .second, .val (.long (x1 * (uw.toInt64))), .second, .val (.int ((((x1 * (uw.toInt64)).toUInt64 >>> ((6 : Int32) &&& 0x3f).toInt64.toUInt64).toInt64).toInt32)), .val (.int (((x1 * (uw.toInt64)).toInt32) &&& (63 : Int32))), .val (.long ((a0_.toUInt64 >>> ((((x1 * (uw.toInt64)).toInt32) &&& (63 : Int32)) &&& 0x3f).toInt64.toUInt64).toInt64)), .second] [(.long (((a0_.toUInt64 >>> ((((x1 * (uw.toInt64)).toInt32) &&& (63 : Int32)) &&& 0x3f).toInt64.toUInt64).toInt64) &&& um))])) (fun t k => XS.land X6.here hx rfl (hb hby d6_72) rfl k) ?_
    refine Go.retJ X6 hx hk Bd.returns (hb hby d6_73) (by decide) (by decide) ?_
    rw [e6]
    exact ⟨by rw [getV, if_neg (show ¬ (64 : Int32) < shI x1 uw + uw from hc43)]; rfl, N0, rfl⟩
theorem pd_1 : parseMethodDescriptor "(JI)V" = some ⟨[.long, .int], none⟩ := by decide +kernel
theorem pd_2 : parseMethodDescriptor "(JJ)V" = some ⟨[.long, .long], none⟩ := by decide +kernel
theorem pd_3 : parseMethodDescriptor "(J)J" = some ⟨[.long], some .long⟩ := by decide +kernel
theorem ef_0 (m : MethodId) (x0 : Int32) (x1 : Int32) (x2 : Int64) (x3 : Int64) (x4 : Int64) (x5 : Int64) : entryFrame m #[(.int x0), (.int x1), (.long x2), (.long x3), (.long x4), (.long x5)] maxLocals = mkF m 0 #[.val (.int x0), .val (.int x1), .val (.long x2), .second, .val (.long x3), .second, .val (.long x4), .second, .val (.long x5), .second, .unset, .unset, .unset, .unset, .unset, .unset, .unset, .unset, .unset, .unset, .unset, .unset] [] := by first | (simp [entryFrame, mkF, argsToLocals, Value.category, maxLocals]; done) | rfl
def Q0 (Z : State) (x0 : Int32) (x1 : Int32) (x2 : Int64) (x3 : Int64) (x4 : Int64) (x5 : Int64)  (h0 : Heap) (n0 : Nat) (v : Option Value) (h : Heap) (L : List Loc) : Prop := v = some (.int (1 : Int32)) ∧ Fr n0 L
set_option maxRecDepth 65536 in
set_option maxHeartbeats 40000000 in
theorem rm0 (l : Launch) (Z : State) (a0 : Array Value) (hw : ∀ d ∈ tables_1, d.before a0 Z = true) (ws : List Jvm.Cond) (x0 : Int32) (x1 : Int32) (x2 : Int64) (x3 : Int64) (x4 : Int64) (x5 : Int64)  (h0 : Heap) (n0 : Nat) (Z0 : n0 ≤ h0.size)  :
    MetFree l x (head1 (Jvm.Cond.code x code maxLocals ret :: ws) room_1) (fun a U => a = #[(.int x0), (.int x1), (.long x2), (.long x3), (.long x4), (.long x5)] ∧ Z.Warmed39 U.vm ∧ U.heap = h0) (fun _ _ _ _ _ => True) (fun _ U o U' => ∃ v L, o = .returned v ∧ Q0 Z x0 x1 x2 x3 x4 x5 h0 n0 v U'.heap L ∧ FrameEnd U o U' L 16 256) := by
  refine MetFree.of_bodySF (plainFor_of_name pn_0) hisR ?_
  intro p e s m args below meth c s₁ Bd hml0 hP hK
  obtain ⟨rfl, hZ, hh⟩ := hP
  have hx := Bd.exec
  have hby := Bd.bytes
  have hml : c.maxLocals = 22 := hml0
  have hown : s.vm.findClass "com/example/bloom_filter_variants/bloomfiltervariants/PackedArraySetPinLaw" = some m.cls := findClass_of_methodNamed Bd.named
  have hnm := (name_of_methodNamed Bd.named Bd.method).1
  have hk : meth.locks = false := BodyLoose.notSynchronized Bd
  have X0 : Stand p l e room_1 s m #[(.int x0), (.int x1), (.long x2), (.long x3), (.long x4), (.long x5)] below meth c s₁ [] 0 0 := Stand.of_body Bd
  have e0 : s₁.heap = h0 := by rw [← hh, Bd.state]; rfl
  have N0 := Fr.nil n0
  show Go p e below s (Q0 Z x0 x1 x2 x3 x4 x5 h0 n0) 16 256 s₁ (entryFrame m #[(.int x0), (.int x1), (.long x2), (.long x3), (.long x4), (.long x5)] maxLocals)
  refine Go.cast (ef_0 m x0 x1 x2 x3 x4 x5) ?_
  refine Go.of (T' := s₁) (f' := (mkF m 1 #[.val (.int x0), .val (.int x1), .val (.long x2), .second, .val (.long x3), .second, .val (.long x4), .second, .val (.long x5), .second, .unset, .unset, .unset, .unset, .unset, .unset, .unset, .unset, .unset, .unset, .unset, .unset] [(.int x0)])) (fun t k => XS.iloadN X0.here hx rfl (hb hby at_0) rfl k) ?_
  refine Go.of (T' := s₁) (f' := (mkF m 3 #[.val (.int x0), .val (.int x1), .val (.long x2), .second, .val (.long x3), .second, .val (.long x4), .second, .val (.long x5), .second, .unset, .unset, .unset, .unset, .unset, .unset, .unset, .unset, .unset, .unset, .unset, .unset] [(.int (63 : Int32)), (.int x0)])) (fun t k => XS.bipush X0.here hx rfl (hb hby at_1) k) ?_
  refine Go.of (T' := s₁) (f' := (mkF m 4 #[.val (.int x0), .val (.int x1), .val (.long x2), .second, .val (.long x3), .second, .val (.long x4), .second, .val (.long x5), .second, .unset, .unset, .unset, .unset, .unset, .unset, .unset, .unset, .unset, .unset, .unset, .unset] [(.int (x0 &&& (63 : Int32)))])) (fun t k => XS.iand X0.here hx rfl (hb hby at_3) rfl k) ?_
  refine Go.of (T' := s₁) (f' := (mkF m 5 #[.val (.int x0), .val (.int x1), .val (.long x2), .second, .val (.long x3), .second, .val (.long x4), .second, .val (.long x5), .second, .unset, .unset, .unset, .unset, .unset, .unset, .unset, .unset, .unset, .unset, .unset, .unset] [(.int (1 : Int32)), (.int (x0 &&& (63 : Int32)))])) (fun t k => XS.iconst X0.here hx rfl (hb hby at_4) k) ?_
  refine Go.of (T' := s₁) (f' := (mkF m 6 #[.val (.int x0), .val (.int x1), .val (.long x2), .second, .val (.long x3), .second, .val (.long x4), .second, .val (.long x5), .second, .unset, .unset, .unset, .unset, .unset, .unset, .unset, .unset, .unset, .unset, .unset, .unset] [(.int ((x0 &&& (63 : Int32)) + (1 : Int32)))])) (fun t k => XS.iadd X0.here hx rfl (hb hby at_5) rfl k) ?_
  refine Go.of (T' := s₁) (f' := (mkF m 8 #[.val (.int x0), .val (.int x1), .val (.long x2), .second, .val (.long x3), .second, .val (.long x4), .second, .val (.long x5), .second, .val (.int ((x0 &&& (63 : Int32)) + (1 : Int32))), .unset, .unset, .unset, .unset, .unset, .unset, .unset, .unset, .unset, .unset, .unset] [])) (fun t k => XS.istore X0.here hx rfl (hb hby at_6) rfl (l' := #[.val (.int x0), .val (.int x1), .val (.long x2), .second, .val (.long x3), .second, .val (.long x4), .second, .val (.long x5), .second, .val (.int ((x0 &&& (63 : Int32)) + (1 : Int32))), .unset, .unset, .unset, .unset, .unset, .unset, .unset, .unset, .unset, .unset, .unset]) rfl k) ?_
  refine Go.of (T' := s₁) (f' := (mkF m 9 #[.val (.int x0), .val (.int x1), .val (.long x2), .second, .val (.long x3), .second, .val (.long x4), .second, .val (.long x5), .second, .val (.int ((x0 &&& (63 : Int32)) + (1 : Int32))), .unset, .unset, .unset, .unset, .unset, .unset, .unset, .unset, .unset, .unset, .unset] [(.int x1)])) (fun t k => XS.iloadN X0.here hx rfl (hb hby at_8) rfl k) ?_
  refine Go.of (T' := s₁) (f' := (mkF m 11 #[.val (.int x0), .val (.int x1), .val (.long x2), .second, .val (.long x3), .second, .val (.long x4), .second, .val (.long x5), .second, .val (.int ((x0 &&& (63 : Int32)) + (1 : Int32))), .unset, .unset, .unset, .unset, .unset, .unset, .unset, .unset, .unset, .unset, .unset] [(.int (63 : Int32)), (.int x1)])) (fun t k => XS.bipush X0.here hx rfl (hb hby at_9) k) ?_
  refine Go.of (T' := s₁) (f' := (mkF m 12 #[.val (.int x0), .val (.int x1), .val (.long x2), .second, .val (.long x3), .second, .val (.long x4), .second, .val (.long x5), .second, .val (.int ((x0 &&& (63 : Int32)) + (1 : Int32))), .unset, .unset, .unset, .unset, .unset, .unset, .unset, .unset, .unset, .unset, .unset] [(.int (x1 &&& (63 : Int32)))])) (fun t k => XS.iand X0.here hx rfl (hb hby at_11) rfl k) ?_
  refine Go.of (T' := s₁) (f' := (mkF m 14 #[.val (.int x0), .val (.int x1), .val (.long x2), .second, .val (.long x3), .second, .val (.long x4), .second, .val (.long x5), .second, .val (.int ((x0 &&& (63 : Int32)) + (1 : Int32))), .val (.int (x1 &&& (63 : Int32))), .unset, .unset, .unset, .unset, .unset, .unset, .unset, .unset, .unset, .unset] [])) (fun t k => XS.istore X0.here hx rfl (hb hby at_12) rfl (l' := #[.val (.int x0), .val (.int x1), .val (.long x2), .second, .val (.long x3), .second, .val (.long x4), .second, .val (.long x5), .second, .val (.int ((x0 &&& (63 : Int32)) + (1 : Int32))), .val (.int (x1 &&& (63 : Int32))), .unset, .unset, .unset, .unset, .unset, .unset, .unset, .unset, .unset, .unset]) rfl k) ?_
  refine Go.of (T' := s₁) (f' := (mkF m 16 #[.val (.int x0), .val (.int x1), .val (.long x2), .second, .val (.long x3), .second, .val (.long x4), .second, .val (.long x5), .second, .val (.int ((x0 &&& (63 : Int32)) + (1 : Int32))), .val (.int (x1 &&& (63 : Int32))), .unset, .unset, .unset, .unset, .unset, .unset, .unset, .unset, .unset, .unset] [(.int (x1 &&& (63 : Int32)))])) (fun t k => XS.iload X0.here hx rfl (hb hby at_14) rfl k) ?_
  refine Go.of (T' := s₁) (f' := (mkF m 18 #[.val (.int x0), .val (.int x1), .val (.long x2), .second, .val (.long x3), .second, .val (.long x4), .second, .val (.long x5), .second, .val (.int ((x0 &&& (63 : Int32)) + (1 : Int32))), .val (.int (x1 &&& (63 : Int32))), .unset, .unset, .unset, .unset, .unset, .unset, .unset, .unset, .unset, .unset] [(.int (63 : Int32)), (.int (x1 &&& (63 : Int32)))])) (fun t k => XS.bipush X0.here hx rfl (hb hby at_16) k) ?_
  refine Go.of (T' := s₁) (f' := (mkF m 19 #[.val (.int x0), .val (.int x1), .val (.long x2), .second, .val (.long x3), .second, .val (.long x4), .second, .val (.long x5), .second, .val (.int ((x0 &&& (63 : Int32)) + (1 : Int32))), .val (.int (x1 &&& (63 : Int32))), .unset, .unset, .unset, .unset, .unset, .unset, .unset, .unset, .unset, .unset] [(.int ((x1 &&& (63 : Int32)) + (63 : Int32)))])) (fun t k => XS.iadd X0.here hx rfl (hb hby at_18) rfl k) ?_
  refine Go.of (T' := s₁) (f' := (mkF m 21 #[.val (.int x0), .val (.int x1), .val (.long x2), .second, .val (.long x3), .second, .val (.long x4), .second, .val (.long x5), .second, .val (.int ((x0 &&& (63 : Int32)) + (1 : Int32))), .val (.int (x1 &&& (63 : Int32))), .unset, .unset, .unset, .unset, .unset, .unset, .unset, .unset, .unset, .unset] [(.int (63 : Int32)), (.int ((x1 &&& (63 : Int32)) + (63 : Int32)))])) (fun t k => XS.bipush X0.here hx rfl (hb hby at_19) k) ?_
  refine Go.of (T' := s₁) (f' := (mkF m 22 #[.val (.int x0), .val (.int x1), .val (.long x2), .second, .val (.long x3), .second, .val (.long x4), .second, .val (.long x5), .second, .val (.int ((x0 &&& (63 : Int32)) + (1 : Int32))), .val (.int (x1 &&& (63 : Int32))), .unset, .unset, .unset, .unset, .unset, .unset, .unset, .unset, .unset, .unset] [(.int (((x1 &&& (63 : Int32)) + (63 : Int32)) &&& (63 : Int32)))])) (fun t k => XS.iand X0.here hx rfl (hb hby at_21) rfl k) ?_
  refine Go.of (T' := s₁) (f' := (mkF m 24 #[.val (.int x0), .val (.int x1), .val (.long x2), .second, .val (.long x3), .second, .val (.long x4), .second, .val (.long x5), .second, .val (.int ((x0 &&& (63 : Int32)) + (1 : Int32))), .val (.int (x1 &&& (63 : Int32))), .val (.int (((x1 &&& (63 : Int32)) + (63 : Int32)) &&& (63 : Int32))), .unset, .unset, .unset, .unset, .unset, .unset, .unset, .unset, .unset] [])) (fun t k => XS.istore X0.here hx rfl (hb hby at_22) rfl (l' := #[.val (.int x0), .val (.int x1), .val (.long x2), .second, .val (.long x3), .second, .val (.long x4), .second, .val (.long x5), .second, .val (.int ((x0 &&& (63 : Int32)) + (1 : Int32))), .val (.int (x1 &&& (63 : Int32))), .val (.int (((x1 &&& (63 : Int32)) + (63 : Int32)) &&& (63 : Int32))), .unset, .unset, .unset, .unset, .unset, .unset, .unset, .unset, .unset]) rfl k) ?_
  refine Go.of (T' := s₁) (f' := (mkF m 26 #[.val (.int x0), .val (.int x1), .val (.long x2), .second, .val (.long x3), .second, .val (.long x4), .second, .val (.long x5), .second, .val (.int ((x0 &&& (63 : Int32)) + (1 : Int32))), .val (.int (x1 &&& (63 : Int32))), .val (.int (((x1 &&& (63 : Int32)) + (63 : Int32)) &&& (63 : Int32))), .unset, .unset, .unset, .unset, .unset, .unset, .unset, .unset, .unset] [(.int (x1 &&& (63 : Int32)))])) (fun t k => XS.iload X0.here hx rfl (hb hby at_24) rfl k) ?_
  refine Go.of (T' := s₁) (f' := (mkF m 27 #[.val (.int x0), .val (.int x1), .val (.long x2), .second, .val (.long x3), .second, .val (.long x4), .second, .val (.long x5), .second, .val (.int ((x0 &&& (63 : Int32)) + (1 : Int32))), .val (.int (x1 &&& (63 : Int32))), .val (.int (((x1 &&& (63 : Int32)) + (63 : Int32)) &&& (63 : Int32))), .unset, .unset, .unset, .unset, .unset, .unset, .unset, .unset, .unset] [(.int (1 : Int32)), (.int (x1 &&& (63 : Int32)))])) (fun t k => XS.iconst X0.here hx rfl (hb hby at_26) k) ?_
  refine Go.of (T' := s₁) (f' := (mkF m 28 #[.val (.int x0), .val (.int x1), .val (.long x2), .second, .val (.long x3), .second, .val (.long x4), .second, .val (.long x5), .second, .val (.int ((x0 &&& (63 : Int32)) + (1 : Int32))), .val (.int (x1 &&& (63 : Int32))), .val (.int (((x1 &&& (63 : Int32)) + (63 : Int32)) &&& (63 : Int32))), .unset, .unset, .unset, .unset, .unset, .unset, .unset, .unset, .unset] [(.int ((x1 &&& (63 : Int32)) + (1 : Int32)))])) (fun t k => XS.iadd X0.here hx rfl (hb hby at_27) rfl k) ?_
  refine Go.of (T' := s₁) (f' := (mkF m 30 #[.val (.int x0), .val (.int x1), .val (.long x2), .second, .val (.long x3), .second, .val (.long x4), .second, .val (.long x5), .second, .val (.int ((x0 &&& (63 : Int32)) + (1 : Int32))), .val (.int (x1 &&& (63 : Int32))), .val (.int (((x1 &&& (63 : Int32)) + (63 : Int32)) &&& (63 : Int32))), .unset, .unset, .unset, .unset, .unset, .unset, .unset, .unset, .unset] [(.int (63 : Int32)), (.int ((x1 &&& (63 : Int32)) + (1 : Int32)))])) (fun t k => XS.bipush X0.here hx rfl (hb hby at_28) k) ?_
  refine Go.of (T' := s₁) (f' := (mkF m 31 #[.val (.int x0), .val (.int x1), .val (.long x2), .second, .val (.long x3), .second, .val (.long x4), .second, .val (.long x5), .second, .val (.int ((x0 &&& (63 : Int32)) + (1 : Int32))), .val (.int (x1 &&& (63 : Int32))), .val (.int (((x1 &&& (63 : Int32)) + (63 : Int32)) &&& (63 : Int32))), .unset, .unset, .unset, .unset, .unset, .unset, .unset, .unset, .unset] [(.int (((x1 &&& (63 : Int32)) + (1 : Int32)) &&& (63 : Int32)))])) (fun t k => XS.iand X0.here hx rfl (hb hby at_30) rfl k) ?_
  refine Go.of (T' := s₁) (f' := (mkF m 33 #[.val (.int x0), .val (.int x1), .val (.long x2), .second, .val (.long x3), .second, .val (.long x4), .second, .val (.long x5), .second, .val (.int ((x0 &&& (63 : Int32)) + (1 : Int32))), .val (.int (x1 &&& (63 : Int32))), .val (.int (((x1 &&& (63 : Int32)) + (63 : Int32)) &&& (63 : Int32))), .val (.int (((x1 &&& (63 : Int32)) + (1 : Int32)) &&& (63 : Int32))), .unset, .unset, .unset, .unset, .unset, .unset, .unset, .unset] [])) (fun t k => XS.istore X0.here hx rfl (hb hby at_31) rfl (l' := #[.val (.int x0), .val (.int x1), .val (.long x2), .second, .val (.long x3), .second, .val (.long x4), .second, .val (.long x5), .second, .val (.int ((x0 &&& (63 : Int32)) + (1 : Int32))), .val (.int (x1 &&& (63 : Int32))), .val (.int (((x1 &&& (63 : Int32)) + (63 : Int32)) &&& (63 : Int32))), .val (.int (((x1 &&& (63 : Int32)) + (1 : Int32)) &&& (63 : Int32))), .unset, .unset, .unset, .unset, .unset, .unset, .unset, .unset]) rfl k) ?_
  refine Go.of (T' := s₁) (f' := (mkF m 35 #[.val (.int x0), .val (.int x1), .val (.long x2), .second, .val (.long x3), .second, .val (.long x4), .second, .val (.long x5), .second, .val (.int ((x0 &&& (63 : Int32)) + (1 : Int32))), .val (.int (x1 &&& (63 : Int32))), .val (.int (((x1 &&& (63 : Int32)) + (63 : Int32)) &&& (63 : Int32))), .val (.int (((x1 &&& (63 : Int32)) + (1 : Int32)) &&& (63 : Int32))), .unset, .unset, .unset, .unset, .unset, .unset, .unset, .unset] [(.int (x1 &&& (63 : Int32)))])) (fun t k => XS.iload X0.here hx rfl (hb hby at_33) rfl k) ?_
  refine Go.of (T' := s₁) (f' := (mkF m 37 #[.val (.int x0), .val (.int x1), .val (.long x2), .second, .val (.long x3), .second, .val (.long x4), .second, .val (.long x5), .second, .val (.int ((x0 &&& (63 : Int32)) + (1 : Int32))), .val (.int (x1 &&& (63 : Int32))), .val (.int (((x1 &&& (63 : Int32)) + (63 : Int32)) &&& (63 : Int32))), .val (.int (((x1 &&& (63 : Int32)) + (1 : Int32)) &&& (63 : Int32))), .unset, .unset, .unset, .unset, .unset, .unset, .unset, .unset] [(.int (32 : Int32)), (.int (x1 &&& (63 : Int32)))])) (fun t k => XS.bipush X0.here hx rfl (hb hby at_35) k) ?_
  refine Go.of (T' := s₁) (f' := (mkF m 38 #[.val (.int x0), .val (.int x1), .val (.long x2), .second, .val (.long x3), .second, .val (.long x4), .second, .val (.long x5), .second, .val (.int ((x0 &&& (63 : Int32)) + (1 : Int32))), .val (.int (x1 &&& (63 : Int32))), .val (.int (((x1 &&& (63 : Int32)) + (63 : Int32)) &&& (63 : Int32))), .val (.int (((x1 &&& (63 : Int32)) + (1 : Int32)) &&& (63 : Int32))), .unset, .unset, .unset, .unset, .unset, .unset, .unset, .unset] [(.int ((x1 &&& (63 : Int32)) + (32 : Int32)))])) (fun t k => XS.iadd X0.here hx rfl (hb hby at_37) rfl k) ?_
  refine Go.of (T' := s₁) (f' := (mkF m 40 #[.val (.int x0), .val (.int x1), .val (.long x2), .second, .val (.long x3), .second, .val (.long x4), .second, .val (.long x5), .second, .val (.int ((x0 &&& (63 : Int32)) + (1 : Int32))), .val (.int (x1 &&& (63 : Int32))), .val (.int (((x1 &&& (63 : Int32)) + (63 : Int32)) &&& (63 : Int32))), .val (.int (((x1 &&& (63 : Int32)) + (1 : Int32)) &&& (63 : Int32))), .unset, .unset, .unset, .unset, .unset, .unset, .unset, .unset] [(.int (63 : Int32)), (.int ((x1 &&& (63 : Int32)) + (32 : Int32)))])) (fun t k => XS.bipush X0.here hx rfl (hb hby at_38) k) ?_
  refine Go.of (T' := s₁) (f' := (mkF m 41 #[.val (.int x0), .val (.int x1), .val (.long x2), .second, .val (.long x3), .second, .val (.long x4), .second, .val (.long x5), .second, .val (.int ((x0 &&& (63 : Int32)) + (1 : Int32))), .val (.int (x1 &&& (63 : Int32))), .val (.int (((x1 &&& (63 : Int32)) + (63 : Int32)) &&& (63 : Int32))), .val (.int (((x1 &&& (63 : Int32)) + (1 : Int32)) &&& (63 : Int32))), .unset, .unset, .unset, .unset, .unset, .unset, .unset, .unset] [(.int (((x1 &&& (63 : Int32)) + (32 : Int32)) &&& (63 : Int32)))])) (fun t k => XS.iand X0.here hx rfl (hb hby at_40) rfl k) ?_
  refine Go.of (T' := s₁) (f' := (mkF m 43 #[.val (.int x0), .val (.int x1), .val (.long x2), .second, .val (.long x3), .second, .val (.long x4), .second, .val (.long x5), .second, .val (.int ((x0 &&& (63 : Int32)) + (1 : Int32))), .val (.int (x1 &&& (63 : Int32))), .val (.int (((x1 &&& (63 : Int32)) + (63 : Int32)) &&& (63 : Int32))), .val (.int (((x1 &&& (63 : Int32)) + (1 : Int32)) &&& (63 : Int32))), .val (.int (((x1 &&& (63 : Int32)) + (32 : Int32)) &&& (63 : Int32))), .unset, .unset, .unset, .unset, .unset, .unset, .unset] [])) (fun t k => XS.istore X0.here hx rfl (hb hby at_41) rfl (l' := #[.val (.int x0), .val (.int x1), .val (.long x2), .second, .val (.long x3), .second, .val (.long x4), .second, .val (.long x5), .second, .val (.int ((x0 &&& (63 : Int32)) + (1 : Int32))), .val (.int (x1 &&& (63 : Int32))), .val (.int (((x1 &&& (63 : Int32)) + (63 : Int32)) &&& (63 : Int32))), .val (.int (((x1 &&& (63 : Int32)) + (1 : Int32)) &&& (63 : Int32))), .val (.int (((x1 &&& (63 : Int32)) + (32 : Int32)) &&& (63 : Int32))), .unset, .unset, .unset, .unset, .unset, .unset, .unset]) rfl k) ?_
  obtain ⟨wn, hwa, hwb, hW⟩ := own_W x0
  obtain ⟨na, nb, nc, nd, ha, hb_, hc_, hd_, nba, nca, nbc, ncb, nda, ndb, ndc, Ia, Ib, Ic, Id⟩ := own_ix x1
  generalize ((x0 &&& (63 : Int32)) + (1 : Int32)) = W at *
  generalize (((x1 &&& (63 : Int32)) + (63 : Int32)) &&& (63 : Int32)) = lo at *
  generalize (((x1 &&& (63 : Int32)) + (1 : Int32)) &&& (63 : Int32)) = hi at *
  generalize (((x1 &&& (63 : Int32)) + (32 : Int32)) &&& (63 : Int32)) = far at *
  generalize (x1 &&& (63 : Int32)) = ii at *
  obtain ⟨hw1, hw2, hnz, hl1, hz, hz0, hWn⟩ := own_wfS hwa hwb hW
  have hl0 : ¬ (64 : Int64) < 0 := by decide
  have hz1 : (W).toNatClampNeg ≤ 64 := by rw [hWn]; exact hwb
  refine Go.of (T' := s₁) (f' := (mkF m 45 #[.val (.int x0), .val (.int x1), .val (.long x2), .second, .val (.long x3), .second, .val (.long x4), .second, .val (.long x5), .second, .val (.int W), .val (.int ii), .val (.int lo), .val (.int hi), .val (.int far), .unset, .unset, .unset, .unset, .unset, .unset, .unset] [(.int W)])) (fun t k => XS.iload X0.here hx rfl (hb hby at_43) rfl k) ?_
  obtain ⟨_, _, ⟨T1, L1, k1, n1⟩, -, X1, ⟨Lc1, hQ1, l1, y1, z1⟩, st1⟩ := Jvm.LawKit.callS X0 hx (y := (⟨"com/example/bloom_filter_variants/bloomfiltervariants/PackedArraySetPinLaw", "lowBits", "(I)J"⟩ : MethodName)) hown (mvT hZ (hw _ (List.mem_of_getElem? (i := 0) rfl))) (mvT hZ (hw _ (List.mem_of_getElem? (i := 1) rfl))) (mvT hZ (hw _ (List.mem_of_getElem? (i := 2) rfl))) (mvT hZ (hw _ (List.mem_of_getElem? (i := 3) rfl))) (by decide) (backOf (W := 0) (rm1 l Z a0 hw [] W h0 n0 Z0 ) hZ (hw _ (List.mem_of_getElem? (i := 3) rfl)) (hw _ (List.mem_of_getElem? (i := 2) rfl)) (by decide) (by decide)) (g := (mkF m 45 #[.val (.int x0), .val (.int x1), .val (.long x2), .second, .val (.long x3), .second, .val (.long x4), .second, .val (.long x5), .second, .val (.int W), .val (.int ii), .val (.int lo), .val (.int hi), .val (.int far), .unset, .unset, .unset, .unset, .unset, .unset, .unset] [(.int W)])) rfl (by rw [hml]; rfl) (argsL := [(.int W)]) (rest := []) (lenOf pd_0 rfl) rfl (by show 2 * 0 + _ ≤ _; exact Nat.le_of_eq rfl) (hb hby at_45) (fun _ _ => ⟨rfl, e0, (by decide : 0 + 0 ≤ _), (by decide : 0 + 0 ≤ _)⟩)
  dsimp only [Pt.U, Pt.locs, Pt.cells, Pt.slots] at X1 l1 y1 z1 st1 hQ1
  subst l1 y1 z1
  obtain ⟨rfl, N1q, e1⟩ := hQ1
  have N1 := Fr.app N0 N1q
  refine Go.of (T' := T1) (f' := (mkF m 48 #[.val (.int x0), .val (.int x1), .val (.long x2), .second, .val (.long x3), .second, .val (.long x4), .second, .val (.long x5), .second, .val (.int W), .val (.int ii), .val (.int lo), .val (.int hi), .val (.int far), .unset, .unset, .unset, .unset, .unset, .unset, .unset] [(.long (lowV W))])) (fun t k => st1 t k) ?_
  refine Go.of (T' := T1) (f' := (mkF m 50 #[.val (.int x0), .val (.int x1), .val (.long x2), .second, .val (.long x3), .second, .val (.long x4), .second, .val (.long x5), .second, .val (.int W), .val (.int ii), .val (.int lo), .val (.int hi), .val (.int far), .val (.long (lowV W)), .second, .unset, .unset, .unset, .unset, .unset] [])) (fun t k => XS.lstore X1.here hx rfl (hb hby at_48) rfl (l' := #[.val (.int x0), .val (.int x1), .val (.long x2), .second, .val (.long x3), .second, .val (.long x4), .second, .val (.long x5), .second, .val (.int W), .val (.int ii), .val (.int lo), .val (.int hi), .val (.int far), .val (.long (lowV W)), .second, .unset, .unset, .unset, .unset, .unset]) rfl k) ?_
  obtain ⟨T2, h2, X2, e2, E2, A2, D2, -, st2⟩ := newO X1 hx hZ hown (hw _ (List.mem_of_getElem? (i := 4) rfl)) (hw _ (List.mem_of_getElem? (i := 5) rfl)) (hw _ (List.mem_of_getElem? (i := 6) rfl)) e1 (g := (mkF m 50 #[.val (.int x0), .val (.int x1), .val (.long x2), .second, .val (.long x3), .second, .val (.long x4), .second, .val (.long x5), .second, .val (.int W), .val (.int ii), .val (.int lo), .val (.int hi), .val (.int far), .val (.long (lowV W)), .second, .unset, .unset, .unset, .unset, .unset] [])) rfl (hb hby at_50) (by decide) (by decide)
  obtain ⟨b2, gb2⟩ : ∃ z, z = h0.size := ⟨_, rfl⟩
  rw [← gb2] at A2 D2 st2
  have g_b2 : n0 ≤ b2 := Nat.le_trans Z0 (Nat.le_of_eq gb2.symm)
  have sz_b2 : h0.size ≤ b2 := Nat.le_trans (Keep.refl h0 []).1 (Nat.le_of_eq gb2.symm)
  have ZS2 : n0 ≤ h2.size := Nat.le_trans Z0 E2.1
  have KK2 : Keep h0 h2 [] := (Keep.refl h0 []).ext E2
  have F2_b2_length : Fld Z h2 b2 "com/example/bloom_filter_variants/bloomfiltervariants/PackedArray" "length" "J" (.long (0 : Int64)) := D2 (Or.inr (hw _ (List.mem_of_getElem? (i := 19) rfl))) (ty := .long) (by decide)
  have F2_b2_width : Fld Z h2 b2 "com/example/bloom_filter_variants/bloomfiltervariants/PackedArray" "width" "I" (.int (0 : Int32)) := D2 (Or.inr (hw _ (List.mem_of_getElem? (i := 21) rfl))) (ty := .int) (by decide)
  have F2_b2_mask : Fld Z h2 b2 "com/example/bloom_filter_variants/bloomfiltervariants/PackedArray" "mask" "J" (.long (0 : Int64)) := D2 (Or.inr (hw _ (List.mem_of_getElem? (i := 24) rfl))) (ty := .long) (by decide)
  have F2_b2_words : Fld Z h2 b2 "com/example/bloom_filter_variants/bloomfiltervariants/PackedArray" "words" "[J" .null := D2 (Or.inr (hw _ (List.mem_of_getElem? (i := 28) rfl))) (ty := (.array .long)) (by decide)
  refine Go.of (T' := T2) (f' := (mkF m 53 #[.val (.int x0), .val (.int x1), .val (.long x2), .second, .val (.long x3), .second, .val (.long x4), .second, .val (.long x5), .second, .val (.int W), .val (.int ii), .val (.int lo), .val (.int hi), .val (.int far), .val (.long (lowV W)), .second, .unset, .unset, .unset, .unset, .unset] [(.ref b2)])) (fun t k => st2 t k) ?_
  refine Go.of (T' := T2) (f' := (mkF m 54 #[.val (.int x0), .val (.int x1), .val (.long x2), .second, .val (.long x3), .second, .val (.long x4), .second, .val (.long x5), .second, .val (.int W), .val (.int ii), .val (.int lo), .val (.int hi), .val (.int far), .val (.long (lowV W)), .second, .unset, .unset, .unset, .unset, .unset] [(.ref b2), (.ref b2)])) (fun t k => XS.dup X2.here hx rfl (hb hby at_53) rfl rfl k) ?_
  refine Go.of (T' := T2) (f' := (mkF m 57 #[.val (.int x0), .val (.int x1), .val (.long x2), .second, .val (.long x3), .second, .val (.long x4), .second, .val (.long x5), .second, .val (.int W), .val (.int ii), .val (.int lo), .val (.int hi), .val (.int far), .val (.long (lowV W)), .second, .unset, .unset, .unset, .unset, .unset] [(.long (64 : Int64)), (.ref b2), (.ref b2)])) (fun t k => X2.ldc2Long hx hown (mvT hZ (hw _ (List.mem_of_getElem? (i := 7) rfl))) (g := (mkF m 54 #[.val (.int x0), .val (.int x1), .val (.long x2), .second, .val (.long x3), .second, .val (.long x4), .second, .val (.long x5), .second, .val (.int W), .val (.int ii), .val (.int lo), .val (.int hi), .val (.int far), .val (.long (lowV W)), .second, .unset, .unset, .unset, .unset, .unset] [(.ref b2), (.ref b2)])) rfl (hb hby at_54) t k) ?_
  refine Go.of (T' := T2) (f' := (mkF m 59 #[.val (.int x0), .val (.int x1), .val (.long x2), .second, .val (.long x3), .second, .val (.long x4), .second, .val (.long x5), .second, .val (.int W), .val (.int ii), .val (.int lo), .val (.int hi), .val (.int far), .val (.long (lowV W)), .second, .unset, .unset, .unset, .unset, .unset] [(.int W), (.long (64 : Int64)), (.ref b2), (.ref b2)])) (fun t k => XS.iload X2.here hx rfl (hb hby at_57) rfl k) ?_
  obtain ⟨_, _, ⟨T3, L3, k3, n3⟩, -, X3, ⟨Lc3, hQ3, l3, y3, z3⟩, st3⟩ := X2.specialBack hx (y := (⟨"com/example/bloom_filter_variants/bloomfiltervariants/PackedArray", "<init>", "(JI)V"⟩ : MethodName)) rfl hown (mvT hZ (hw _ (List.mem_of_getElem? (i := 8) rfl))) (mvT hZ (hw _ (List.mem_of_getElem? (i := 9) rfl))) (mvT hZ (hw _ (List.mem_of_getElem? (i := 10) rfl))) (by decide) (backOf (W := 1) (rm2 l Z a0 hw [] b2 (64 : Int64) W (.long (0 : Int64)) (.int (0 : Int32)) (.long (0 : Int64)) .null h2 n0 ZS2 A2 g_b2 F2_b2_length F2_b2_width F2_b2_mask F2_b2_words hw1 hw2 hnz hl0 hl1 hz hz0 hz1) hZ (hw _ (List.mem_of_getElem? (i := 10) rfl)) (hw _ (List.mem_of_getElem? (i := 6) rfl)) (by decide) (by decide)) (g := (mkF m 59 #[.val (.int x0), .val (.int x1), .val (.long x2), .second, .val (.long x3), .second, .val (.long x4), .second, .val (.long x5), .second, .val (.int W), .val (.int ii), .val (.int lo), .val (.int hi), .val (.int far), .val (.long (lowV W)), .second, .unset, .unset, .unset, .unset, .unset] [(.int W), (.long (64 : Int64)), (.ref b2), (.ref b2)])) rfl (by rw [hml]; rfl) (Steps.refl _) (a := b2) (argsL := [(.long (64 : Int64)), (.int W)]) (rest := [(.ref b2)]) (lenOf pd_1 rfl) rfl (by show 2 * 0 + _ ≤ _; exact Nat.le_of_eq rfl) (hb hby at_59) (fun _ _ => ⟨rfl, e2, (by decide : 1 + 1 ≤ _), (by decide : 4 + 64 ≤ _)⟩)
  dsimp only [Pt.U, Pt.locs, Pt.cells, Pt.slots] at X3 l3 y3 z3 st3 hQ3
  subst l3 y3 z3
  obtain ⟨b3, rfl, N3q, K3, sb3, g_b3, Fq3_length, Fq3_width, Fq3_mask, Fq3_words, Vb3⟩ := hQ3
  have N3 := Fr.app N1 N3q
  have ne_b2_b3 : b2 ≠ b3 := Nat.ne_of_lt (Nat.lt_of_lt_of_le F2_b2_length.lt sb3)
  have sz_b3 : h0.size ≤ b3 := Nat.le_trans KK2.1 sb3
  have Ex3_b2 : Exa Z T3.heap b2 "com/example/bloom_filter_variants/bloomfiltervariants/PackedArray" := A2.keep K3
  have Fm3 : Fld Z T3.heap b2 "com/example/bloom_filter_variants/bloomfiltervariants/PackedArray" "mask" "J" (.long (maskOf W)) := Fq3_mask
  obtain ⟨hlen0, hbit0⟩ := own_zero hWn
  generalize (List.replicate (W).toNatClampNeg (0 : Int64)) = ws0 at *
  have ZS3 : n0 ≤ T3.heap.size := Nat.le_trans ZS2 K3.1
  have KK3 : Keep h0 T3.heap [] := KK2.trans K3 (allS (Or.inr sz_b2) all0)
  refine Go.tr (T' := T3) (f' := (mkF m 62 #[.val (.int x0), .val (.int x1), .val (.long x2), .second, .val (.long x3), .second, .val (.long x4), .second, .val (.long x5), .second, .val (.int W), .val (.int ii), .val (.int lo), .val (.int hi), .val (.int far), .val (.long (lowV W)), .second, .unset, .unset, .unset, .unset, .unset] [(.ref b2)])) st3 ?_
  refine Go.of (T' := T3) (f' := (mkF m 64 #[.val (.int x0), .val (.int x1), .val (.long x2), .second, .val (.long x3), .second, .val (.long x4), .second, .val (.long x5), .second, .val (.int W), .val (.int ii), .val (.int lo), .val (.int hi), .val (.int far), .val (.long (lowV W)), .second, .val (.ref b2), .unset, .unset, .unset, .unset] [])) (fun t k => XS.astore X3.here hx rfl (hb hby at_62) rfl rfl (l' := #[.val (.int x0), .val (.int x1), .val (.long x2), .second, .val (.long x3), .second, .val (.long x4), .second, .val (.long x5), .second, .val (.int W), .val (.int ii), .val (.int lo), .val (.int hi), .val (.int far), .val (.long (lowV W)), .second, .val (.ref b2), .unset, .unset, .unset, .unset]) rfl k) ?_
  refine Go.of (T' := T3) (f' := (mkF m 66 #[.val (.int x0), .val (.int x1), .val (.long x2), .second, .val (.long x3), .second, .val (.long x4), .second, .val (.long x5), .second, .val (.int W), .val (.int ii), .val (.int lo), .val (.int hi), .val (.int far), .val (.long (lowV W)), .second, .val (.ref b2), .unset, .unset, .unset, .unset] [(.ref b2)])) (fun t k => XS.aload X3.here hx rfl (hb hby at_64) rfl rfl k) ?_
  refine Go.of (T' := T3) (f' := (mkF m 68 #[.val (.int x0), .val (.int x1), .val (.long x2), .second, .val (.long x3), .second, .val (.long x4), .second, .val (.long x5), .second, .val (.int W), .val (.int ii), .val (.int lo), .val (.int hi), .val (.int far), .val (.long (lowV W)), .second, .val (.ref b2), .unset, .unset, .unset, .unset] [(.int lo), (.ref b2)])) (fun t k => XS.iload X3.here hx rfl (hb hby at_66) rfl k) ?_
  refine Go.of (T' := T3) (f' := (mkF m 69 #[.val (.int x0), .val (.int x1), .val (.long x2), .second, .val (.long x3), .second, .val (.long x4), .second, .val (.long x5), .second, .val (.int W), .val (.int ii), .val (.int lo), .val (.int hi), .val (.int far), .val (.long (lowV W)), .second, .val (.ref b2), .unset, .unset, .unset, .unset] [(.long (lo.toInt64)), (.ref b2)])) (fun t k => XS.i2l X3.here hx rfl (hb hby at_68) rfl k) ?_
  refine Go.of (T' := T3) (f' := (mkF m 70 #[.val (.int x0), .val (.int x1), .val (.long x2), .second, .val (.long x3), .second, .val (.long x4), .second, .val (.long x5), .second, .val (.int W), .val (.int ii), .val (.int lo), .val (.int hi), .val (.int far), .val (.long (lowV W)), .second, .val (.ref b2), .unset, .unset, .unset, .unset] [(.long x2), (.long (lo.toInt64)), (.ref b2)])) (fun t k => XS.lloadN X3.here hx rfl (hb hby at_69) rfl k) ?_
  have hp0 := own_pre hb_ hwa hwb Ib hW hlen0
  obtain ⟨cq4, kq4, q4a, q4b, q4c⟩ := isOf hZ rfl Ex3_b2
  obtain ⟨_, _, ⟨T4, L4, k4, n4⟩, -, X4, ⟨Lc4, hQ4, l4, y4, z4⟩, st4⟩ := X3.virtualBack hx (y := (⟨"com/example/bloom_filter_variants/bloomfiltervariants/PackedArray", "set", "(JJ)V"⟩ : MethodName)) (z := (⟨"com/example/bloom_filter_variants/bloomfiltervariants/PackedArray", "set", "(JJ)V"⟩ : MethodName)) hown (mvT hZ (hw _ (List.mem_of_getElem? (i := 29) rfl))) (mvT hZ (hw _ (List.mem_of_getElem? (i := 30) rfl))) (notFace_of_selects (args := #[]) (mvT hZ (hw _ (List.mem_of_getElem? (i := 32) rfl)))) (mvT hZ (hw _ (List.mem_of_getElem? (i := 32) rfl))) (mvT hZ (hw _ (List.mem_of_getElem? (i := 31) rfl))) (by decide) (backOf (W := 0) (rm5 l Z a0 hw [] b2 (lo.toInt64) x2 W (maskOf W) b3 ws0 (rdW ws0 (wordI (lo.toInt64) W)) (rdW ws0 (wordI (lo.toInt64) W + 1)) T3.heap n0 ZS3 Fq3_width Fm3 Fq3_words Vb3 g_b3 ne_b2_b3 hp0.1 hp0.2.1 hp0.2.2) hZ (hw _ (List.mem_of_getElem? (i := 33) rfl)) (hw _ (List.mem_of_getElem? (i := 6) rfl)) (by decide) (by decide)) q4a q4c (g := (mkF m 70 #[.val (.int x0), .val (.int x1), .val (.long x2), .second, .val (.long x3), .second, .val (.long x4), .second, .val (.long x5), .second, .val (.int W), .val (.int ii), .val (.int lo), .val (.int hi), .val (.int far), .val (.long (lowV W)), .second, .val (.ref b2), .unset, .unset, .unset, .unset] [(.long x2), (.long (lo.toInt64)), (.ref b2)])) rfl (by rw [hml]; rfl) (Steps.refl _) (argsL := [(.long (lo.toInt64)), (.long x2)]) (rest := []) (lenOf pd_2 rfl) rfl (by show 2 * 0 + _ ≤ _; exact Nat.le_of_eq rfl) (hb hby at_70) (fun _ _ => ⟨rfl, rfl, (by decide : 2 + 0 ≤ _), (by decide : 68 + 0 ≤ _)⟩)
  dsimp only [Pt.U, Pt.locs, Pt.cells, Pt.slots] at X4 l4 y4 z4 st4 hQ4
  subst l4 y4 z4
  obtain ⟨rfl, N4q, K4, Vb4⟩ := hQ4
  have N4 := Fr.app N3 N4q
  have F4_b2_length : Fld Z T4.heap b2 "com/example/bloom_filter_variants/bloomfiltervariants/PackedArray" "length" "J" (.long (64 : Int64)) := Fq3_length.keep K4 (ninS ne_b2_b3 nin0)
  have F4_b2_width : Fld Z T4.heap b2 "com/example/bloom_filter_variants/bloomfiltervariants/PackedArray" "width" "I" (.int W) := Fq3_width.keep K4 (ninS ne_b2_b3 nin0)
  have F4_b2_mask : Fld Z T4.heap b2 "com/example/bloom_filter_variants/bloomfiltervariants/PackedArray" "mask" "J" (.long (maskOf W)) := Fm3.keep K4 (ninS ne_b2_b3 nin0)
  have F4_b2_words : Fld Z T4.heap b2 "com/example/bloom_filter_variants/bloomfiltervariants/PackedArray" "words" "[J" (.ref b3) := Fq3_words.keep K4 (ninS ne_b2_b3 nin0)
  have Ex4_b2 : Exa Z T4.heap b2 "com/example/bloom_filter_variants/bloomfiltervariants/PackedArray" := Ex3_b2.keep K4
  obtain ⟨hlen1, hbit1⟩ := own_set hb_ hwa hwb Ib hW hlen0 x2
  generalize (setW (lo.toInt64) W (maskOf W) x2 ws0 (rdW ws0 (wordI (lo.toInt64) W)) (rdW ws0 (wordI (lo.toInt64) W + 1))) = ws1 at *
  have ZS4 : n0 ≤ T4.heap.size := Nat.le_trans ZS3 K4.1
  have KK4 : Keep h0 T4.heap [] := KK3.trans K4 (allS (Or.inr sz_b3) all0)
  refine Go.tr (T' := T4) (f' := (mkF m 73 #[.val (.int x0), .val (.int x1), .val (.long x2), .second, .val (.long x3), .second, .val (.long x4), .second, .val (.long x5), .second, .val (.int W), .val (.int ii), .val (.int lo), .val (.int hi), .val (.int far), .val (.long (lowV W)), .second, .val (.ref b2), .unset, .unset, .unset, .unset] [])) st4 ?_
  refine Go.of (T' := T4) (f' := (mkF m 75 #[.val (.int x0), .val (.int x1), .val (.long x2), .second, .val (.long x3), .second, .val (.long x4), .second, .val (.long x5), .second, .val (.int W), .val (.int ii), .val (.int lo), .val (.int hi), .val (.int far), .val (.long (lowV W)), .second, .val (.ref b2), .unset, .unset, .unset, .unset] [(.ref b2)])) (fun t k => XS.aload X4.here hx rfl (hb hby at_73) rfl rfl k) ?_
  refine Go.of (T' := T4) (f' := (mkF m 77 #[.val (.int x0), .val (.int x1), .val (.long x2), .second, .val (.long x3), .second, .val (.long x4), .second, .val (.long x5), .second, .val (.int W), .val (.int ii), .val (.int lo), .val (.int hi), .val (.int far), .val (.long (lowV W)), .second, .val (.ref b2), .unset, .unset, .unset, .unset] [(.int hi), (.ref b2)])) (fun t k => XS.iload X4.here hx rfl (hb hby at_75) rfl k) ?_
  refine Go.of (T' := T4) (f' := (mkF m 78 #[.val (.int x0), .val (.int x1), .val (.long x2), .second, .val (.long x3), .second, .val (.long x4), .second, .val (.long x5), .second, .val (.int W), .val (.int ii), .val (.int lo), .val (.int hi), .val (.int far), .val (.long (lowV W)), .second, .val (.ref b2), .unset, .unset, .unset, .unset] [(.long (hi.toInt64)), (.ref b2)])) (fun t k => XS.i2l X4.here hx rfl (hb hby at_77) rfl k) ?_
  refine Go.of (T' := T4) (f' := (mkF m 80 #[.val (.int x0), .val (.int x1), .val (.long x2), .second, .val (.long x3), .second, .val (.long x4), .second, .val (.long x5), .second, .val (.int W), .val (.int ii), .val (.int lo), .val (.int hi), .val (.int far), .val (.long (lowV W)), .second, .val (.ref b2), .unset, .unset, .unset, .unset] [(.long x3), (.long (hi.toInt64)), (.ref b2)])) (fun t k => XS.lload X4.here hx rfl (hb hby at_78) rfl k) ?_
  have hp1 := own_pre hc_ hwa hwb Ic hW hlen1
  obtain ⟨cq5, kq5, q5a, q5b, q5c⟩ := isOf hZ rfl Ex4_b2
  obtain ⟨_, _, ⟨T5, L5, k5, n5⟩, -, X5, ⟨Lc5, hQ5, l5, y5, z5⟩, st5⟩ := X4.virtualBack hx (y := (⟨"com/example/bloom_filter_variants/bloomfiltervariants/PackedArray", "set", "(JJ)V"⟩ : MethodName)) (z := (⟨"com/example/bloom_filter_variants/bloomfiltervariants/PackedArray", "set", "(JJ)V"⟩ : MethodName)) hown (mvT hZ (hw _ (List.mem_of_getElem? (i := 29) rfl))) (mvT hZ (hw _ (List.mem_of_getElem? (i := 30) rfl))) (notFace_of_selects (args := #[]) (mvT hZ (hw _ (List.mem_of_getElem? (i := 32) rfl)))) (mvT hZ (hw _ (List.mem_of_getElem? (i := 32) rfl))) (mvT hZ (hw _ (List.mem_of_getElem? (i := 31) rfl))) (by decide) (backOf (W := 0) (rm5 l Z a0 hw [] b2 (hi.toInt64) x3 W (maskOf W) b3 ws1 (rdW ws1 (wordI (hi.toInt64) W)) (rdW ws1 (wordI (hi.toInt64) W + 1)) T4.heap n0 ZS4 F4_b2_width F4_b2_mask F4_b2_words Vb4 g_b3 ne_b2_b3 hp1.1 hp1.2.1 hp1.2.2) hZ (hw _ (List.mem_of_getElem? (i := 33) rfl)) (hw _ (List.mem_of_getElem? (i := 6) rfl)) (by decide) (by decide)) q5a q5c (g := (mkF m 80 #[.val (.int x0), .val (.int x1), .val (.long x2), .second, .val (.long x3), .second, .val (.long x4), .second, .val (.long x5), .second, .val (.int W), .val (.int ii), .val (.int lo), .val (.int hi), .val (.int far), .val (.long (lowV W)), .second, .val (.ref b2), .unset, .unset, .unset, .unset] [(.long x3), (.long (hi.toInt64)), (.ref b2)])) rfl (by rw [hml]; rfl) (Steps.refl _) (argsL := [(.long (hi.toInt64)), (.long x3)]) (rest := []) (lenOf pd_2 rfl) rfl (by show 2 * 0 + _ ≤ _; exact Nat.le_of_eq rfl) (hb hby at_80) (fun _ _ => ⟨rfl, rfl, (by decide : 2 + 0 ≤ _), (by decide : 68 + 0 ≤ _)⟩)
  dsimp only [Pt.U, Pt.locs, Pt.cells, Pt.slots] at X5 l5 y5 z5 st5 hQ5
  subst l5 y5 z5
  obtain ⟨rfl, N5q, K5, Vb5⟩ := hQ5
  have N5 := Fr.app N4 N5q
  have F5_b2_length : Fld Z T5.heap b2 "com/example/bloom_filter_variants/bloomfiltervariants/PackedArray" "length" "J" (.long (64 : Int64)) := F4_b2_length.keep K5 (ninS ne_b2_b3 nin0)
  have F5_b2_width : Fld Z T5.heap b2 "com/example/bloom_filter_variants/bloomfiltervariants/PackedArray" "width" "I" (.int W) := F4_b2_width.keep K5 (ninS ne_b2_b3 nin0)
  have F5_b2_mask : Fld Z T5.heap b2 "com/example/bloom_filter_variants/bloomfiltervariants/PackedArray" "mask" "J" (.long (maskOf W)) := F4_b2_mask.keep K5 (ninS ne_b2_b3 nin0)
  have F5_b2_words : Fld Z T5.heap b2 "com/example/bloom_filter_variants/bloomfiltervariants/PackedArray" "words" "[J" (.ref b3) := F4_b2_words.keep K5 (ninS ne_b2_b3 nin0)
  have Ex5_b2 : Exa Z T5.heap b2 "com/example/bloom_filter_variants/bloomfiltervariants/PackedArray" := Ex4_b2.keep K5
  obtain ⟨hlen2, hbit2⟩ := own_set hc_ hwa hwb Ic hW hlen1 x3
  generalize (setW (hi.toInt64) W (maskOf W) x3 ws1 (rdW ws1 (wordI (hi.toInt64) W)) (rdW ws1 (wordI (hi.toInt64) W + 1))) = ws2 at *
  have ZS5 : n0 ≤ T5.heap.size := Nat.le_trans ZS4 K5.1
  have KK5 : Keep h0 T5.heap [] := KK4.trans K5 (allS (Or.inr sz_b3) all0)
  refine Go.tr (T' := T5) (f' := (mkF m 83 #[.val (.int x0), .val (.int x1), .val (.long x2), .second, .val (.long x3), .second, .val (.long x4), .second, .val (.long x5), .second, .val (.int W), .val (.int ii), .val (.int lo), .val (.int hi), .val (.int far), .val (.long (lowV W)), .second, .val (.ref b2), .unset, .unset, .unset, .unset] [])) st5 ?_
  refine Go.of (T' := T5) (f' := (mkF m 85 #[.val (.int x0), .val (.int x1), .val (.long x2), .second, .val (.long x3), .second, .val (.long x4), .second, .val (.long x5), .second, .val (.int W), .val (.int ii), .val (.int lo), .val (.int hi), .val (.int far), .val (.long (lowV W)), .second, .val (.ref b2), .unset, .unset, .unset, .unset] [(.ref b2)])) (fun t k => XS.aload X5.here hx rfl (hb hby at_83) rfl rfl k) ?_
  refine Go.of (T' := T5) (f' := (mkF m 87 #[.val (.int x0), .val (.int x1), .val (.long x2), .second, .val (.long x3), .second, .val (.long x4), .second, .val (.long x5), .second, .val (.int W), .val (.int ii), .val (.int lo), .val (.int hi), .val (.int far), .val (.long (lowV W)), .second, .val (.ref b2), .unset, .unset, .unset, .unset] [(.int ii), (.ref b2)])) (fun t k => XS.iload X5.here hx rfl (hb hby at_85) rfl k) ?_
  refine Go.of (T' := T5) (f' := (mkF m 88 #[.val (.int x0), .val (.int x1), .val (.long x2), .second, .val (.long x3), .second, .val (.long x4), .second, .val (.long x5), .second, .val (.int W), .val (.int ii), .val (.int lo), .val (.int hi), .val (.int far), .val (.long (lowV W)), .second, .val (.ref b2), .unset, .unset, .unset, .unset] [(.long (ii.toInt64)), (.ref b2)])) (fun t k => XS.i2l X5.here hx rfl (hb hby at_87) rfl k) ?_
  refine Go.of (T' := T5) (f' := (mkF m 90 #[.val (.int x0), .val (.int x1), .val (.long x2), .second, .val (.long x3), .second, .val (.long x4), .second, .val (.long x5), .second, .val (.int W), .val (.int ii), .val (.int lo), .val (.int hi), .val (.int far), .val (.long (lowV W)), .second, .val (.ref b2), .unset, .unset, .unset, .unset] [(.long x4), (.long (ii.toInt64)), (.ref b2)])) (fun t k => XS.lload X5.here hx rfl (hb hby at_88) rfl k) ?_
  have hp2 := own_pre ha hwa hwb Ia hW hlen2
  obtain ⟨cq6, kq6, q6a, q6b, q6c⟩ := isOf hZ rfl Ex5_b2
  obtain ⟨_, _, ⟨T6, L6, k6, n6⟩, -, X6, ⟨Lc6, hQ6, l6, y6, z6⟩, st6⟩ := X5.virtualBack hx (y := (⟨"com/example/bloom_filter_variants/bloomfiltervariants/PackedArray", "set", "(JJ)V"⟩ : MethodName)) (z := (⟨"com/example/bloom_filter_variants/bloomfiltervariants/PackedArray", "set", "(JJ)V"⟩ : MethodName)) hown (mvT hZ (hw _ (List.mem_of_getElem? (i := 29) rfl))) (mvT hZ (hw _ (List.mem_of_getElem? (i := 30) rfl))) (notFace_of_selects (args := #[]) (mvT hZ (hw _ (List.mem_of_getElem? (i := 32) rfl)))) (mvT hZ (hw _ (List.mem_of_getElem? (i := 32) rfl))) (mvT hZ (hw _ (List.mem_of_getElem? (i := 31) rfl))) (by decide) (backOf (W := 0) (rm5 l Z a0 hw [] b2 (ii.toInt64) x4 W (maskOf W) b3 ws2 (rdW ws2 (wordI (ii.toInt64) W)) (rdW ws2 (wordI (ii.toInt64) W + 1)) T5.heap n0 ZS5 F5_b2_width F5_b2_mask F5_b2_words Vb5 g_b3 ne_b2_b3 hp2.1 hp2.2.1 hp2.2.2) hZ (hw _ (List.mem_of_getElem? (i := 33) rfl)) (hw _ (List.mem_of_getElem? (i := 6) rfl)) (by decide) (by decide)) q6a q6c (g := (mkF m 90 #[.val (.int x0), .val (.int x1), .val (.long x2), .second, .val (.long x3), .second, .val (.long x4), .second, .val (.long x5), .second, .val (.int W), .val (.int ii), .val (.int lo), .val (.int hi), .val (.int far), .val (.long (lowV W)), .second, .val (.ref b2), .unset, .unset, .unset, .unset] [(.long x4), (.long (ii.toInt64)), (.ref b2)])) rfl (by rw [hml]; rfl) (Steps.refl _) (argsL := [(.long (ii.toInt64)), (.long x4)]) (rest := []) (lenOf pd_2 rfl) rfl (by show 2 * 0 + _ ≤ _; exact Nat.le_of_eq rfl) (hb hby at_90) (fun _ _ => ⟨rfl, rfl, (by decide : 2 + 0 ≤ _), (by decide : 68 + 0 ≤ _)⟩)
  dsimp only [Pt.U, Pt.locs, Pt.cells, Pt.slots] at X6 l6 y6 z6 st6 hQ6
  subst l6 y6 z6
  obtain ⟨rfl, N6q, K6, Vb6⟩ := hQ6
  have N6 := Fr.app N5 N6q
  have F6_b2_length : Fld Z T6.heap b2 "com/example/bloom_filter_variants/bloomfiltervariants/PackedArray" "length" "J" (.long (64 : Int64)) := F5_b2_length.keep K6 (ninS ne_b2_b3 nin0)
  have F6_b2_width : Fld Z T6.heap b2 "com/example/bloom_filter_variants/bloomfiltervariants/PackedArray" "width" "I" (.int W) := F5_b2_width.keep K6 (ninS ne_b2_b3 nin0)
  have F6_b2_mask : Fld Z T6.heap b2 "com/example/bloom_filter_variants/bloomfiltervariants/PackedArray" "mask" "J" (.long (maskOf W)) := F5_b2_mask.keep K6 (ninS ne_b2_b3 nin0)
  have F6_b2_words : Fld Z T6.heap b2 "com/example/bloom_filter_variants/bloomfiltervariants/PackedArray" "words" "[J" (.ref b3) := F5_b2_words.keep K6 (ninS ne_b2_b3 nin0)
  have Ex6_b2 : Exa Z T6.heap b2 "com/example/bloom_filter_variants/bloomfiltervariants/PackedArray" := Ex5_b2.keep K6
  obtain ⟨hlen3, hbit3⟩ := own_set ha hwa hwb Ia hW hlen2 x4
  generalize (setW (ii.toInt64) W (maskOf W) x4 ws2 (rdW ws2 (wordI (ii.toInt64) W)) (rdW ws2 (wordI (ii.toInt64) W + 1))) = ws3 at *
  have ZS6 : n0 ≤ T6.heap.size := Nat.le_trans ZS5 K6.1
  have KK6 : Keep h0 T6.heap [] := KK5.trans K6 (allS (Or.inr sz_b3) all0)
  refine Go.tr (T' := T6) (f' := (mkF m 93 #[.val (.int x0), .val (.int x1), .val (.long x2), .second, .val (.long x3), .second, .val (.long x4), .second, .val (.long x5), .second, .val (.int W), .val (.int ii), .val (.int lo), .val (.int hi), .val (.int far), .val (.long (lowV W)), .second, .val (.ref b2), .unset, .unset, .unset, .unset] [])) st6 ?_
  refine Go.of (T' := T6) (f' := (mkF m 95 #[.val (.int x0), .val (.int x1), .val (.long x2), .second, .val (.long x3), .second, .val (.long x4), .second, .val (.long x5), .second, .val (.int W), .val (.int ii), .val (.int lo), .val (.int hi), .val (.int far), .val (.long (lowV W)), .second, .val (.ref b2), .unset, .unset, .unset, .unset] [(.ref b2)])) (fun t k => XS.aload X6.here hx rfl (hb hby at_93) rfl rfl k) ?_
  refine Go.of (T' := T6) (f' := (mkF m 97 #[.val (.int x0), .val (.int x1), .val (.long x2), .second, .val (.long x3), .second, .val (.long x4), .second, .val (.long x5), .second, .val (.int W), .val (.int ii), .val (.int lo), .val (.int hi), .val (.int far), .val (.long (lowV W)), .second, .val (.ref b2), .unset, .unset, .unset, .unset] [(.int ii), (.ref b2)])) (fun t k => XS.iload X6.here hx rfl (hb hby at_95) rfl k) ?_
  refine Go.of (T' := T6) (f' := (mkF m 98 #[.val (.int x0), .val (.int x1), .val (.long x2), .second, .val (.long x3), .second, .val (.long x4), .second, .val (.long x5), .second, .val (.int W), .val (.int ii), .val (.int lo), .val (.int hi), .val (.int far), .val (.long (lowV W)), .second, .val (.ref b2), .unset, .unset, .unset, .unset] [(.long (ii.toInt64)), (.ref b2)])) (fun t k => XS.i2l X6.here hx rfl (hb hby at_97) rfl k) ?_
  refine Go.of (T' := T6) (f' := (mkF m 100 #[.val (.int x0), .val (.int x1), .val (.long x2), .second, .val (.long x3), .second, .val (.long x4), .second, .val (.long x5), .second, .val (.int W), .val (.int ii), .val (.int lo), .val (.int hi), .val (.int far), .val (.long (lowV W)), .second, .val (.ref b2), .unset, .unset, .unset, .unset] [(.long x5), (.long (ii.toInt64)), (.ref b2)])) (fun t k => XS.lload X6.here hx rfl (hb hby at_98) rfl k) ?_
  have hp3 := own_pre ha hwa hwb Ia hW hlen3
  obtain ⟨cq7, kq7, q7a, q7b, q7c⟩ := isOf hZ rfl Ex6_b2
  obtain ⟨_, _, ⟨T7, L7, k7, n7⟩, -, X7, ⟨Lc7, hQ7, l7, y7, z7⟩, st7⟩ := X6.virtualBack hx (y := (⟨"com/example/bloom_filter_variants/bloomfiltervariants/PackedArray", "set", "(JJ)V"⟩ : MethodName)) (z := (⟨"com/example/bloom_filter_variants/bloomfiltervariants/PackedArray", "set", "(JJ)V"⟩ : MethodName)) hown (mvT hZ (hw _ (List.mem_of_getElem? (i := 29) rfl))) (mvT hZ (hw _ (List.mem_of_getElem? (i := 30) rfl))) (notFace_of_selects (args := #[]) (mvT hZ (hw _ (List.mem_of_getElem? (i := 32) rfl)))) (mvT hZ (hw _ (List.mem_of_getElem? (i := 32) rfl))) (mvT hZ (hw _ (List.mem_of_getElem? (i := 31) rfl))) (by decide) (backOf (W := 0) (rm5 l Z a0 hw [] b2 (ii.toInt64) x5 W (maskOf W) b3 ws3 (rdW ws3 (wordI (ii.toInt64) W)) (rdW ws3 (wordI (ii.toInt64) W + 1)) T6.heap n0 ZS6 F6_b2_width F6_b2_mask F6_b2_words Vb6 g_b3 ne_b2_b3 hp3.1 hp3.2.1 hp3.2.2) hZ (hw _ (List.mem_of_getElem? (i := 33) rfl)) (hw _ (List.mem_of_getElem? (i := 6) rfl)) (by decide) (by decide)) q7a q7c (g := (mkF m 100 #[.val (.int x0), .val (.int x1), .val (.long x2), .second, .val (.long x3), .second, .val (.long x4), .second, .val (.long x5), .second, .val (.int W), .val (.int ii), .val (.int lo), .val (.int hi), .val (.int far), .val (.long (lowV W)), .second, .val (.ref b2), .unset, .unset, .unset, .unset] [(.long x5), (.long (ii.toInt64)), (.ref b2)])) rfl (by rw [hml]; rfl) (Steps.refl _) (argsL := [(.long (ii.toInt64)), (.long x5)]) (rest := []) (lenOf pd_2 rfl) rfl (by show 2 * 0 + _ ≤ _; exact Nat.le_of_eq rfl) (hb hby at_100) (fun _ _ => ⟨rfl, rfl, (by decide : 2 + 0 ≤ _), (by decide : 68 + 0 ≤ _)⟩)
  dsimp only [Pt.U, Pt.locs, Pt.cells, Pt.slots] at X7 l7 y7 z7 st7 hQ7
  subst l7 y7 z7
  obtain ⟨rfl, N7q, K7, Vb7⟩ := hQ7
  have N7 := Fr.app N6 N7q
  have F7_b2_length : Fld Z T7.heap b2 "com/example/bloom_filter_variants/bloomfiltervariants/PackedArray" "length" "J" (.long (64 : Int64)) := F6_b2_length.keep K7 (ninS ne_b2_b3 nin0)
  have F7_b2_width : Fld Z T7.heap b2 "com/example/bloom_filter_variants/bloomfiltervariants/PackedArray" "width" "I" (.int W) := F6_b2_width.keep K7 (ninS ne_b2_b3 nin0)
  have F7_b2_mask : Fld Z T7.heap b2 "com/example/bloom_filter_variants/bloomfiltervariants/PackedArray" "mask" "J" (.long (maskOf W)) := F6_b2_mask.keep K7 (ninS ne_b2_b3 nin0)
  have F7_b2_words : Fld Z T7.heap b2 "com/example/bloom_filter_variants/bloomfiltervariants/PackedArray" "words" "[J" (.ref b3) := F6_b2_words.keep K7 (ninS ne_b2_b3 nin0)
  have Ex7_b2 : Exa Z T7.heap b2 "com/example/bloom_filter_variants/bloomfiltervariants/PackedArray" := Ex6_b2.keep K7
  obtain ⟨hlen4, hbit4⟩ := own_set ha hwa hwb Ia hW hlen3 x5
  generalize (setW (ii.toInt64) W (maskOf W) x5 ws3 (rdW ws3 (wordI (ii.toInt64) W)) (rdW ws3 (wordI (ii.toInt64) W + 1))) = ws4 at *
  have ZS7 : n0 ≤ T7.heap.size := Nat.le_trans ZS6 K7.1
  have KK7 : Keep h0 T7.heap [] := KK6.trans K7 (allS (Or.inr sz_b3) all0)
  refine Go.tr (T' := T7) (f' := (mkF m 103 #[.val (.int x0), .val (.int x1), .val (.long x2), .second, .val (.long x3), .second, .val (.long x4), .second, .val (.long x5), .second, .val (.int W), .val (.int ii), .val (.int lo), .val (.int hi), .val (.int far), .val (.long (lowV W)), .second, .val (.ref b2), .unset, .unset, .unset, .unset] [])) st7 ?_
  refine Go.of (T' := T7) (f' := (mkF m 105 #[.val (.int x0), .val (.int x1), .val (.long x2), .second, .val (.long x3), .second, .val (.long x4), .second, .val (.long x5), .second, .val (.int W), .val (.int ii), .val (.int lo), .val (.int hi), .val (.int far), .val (.long (lowV W)), .second, .val (.ref b2), .unset, .unset, .unset, .unset] [(.ref b2)])) (fun t k => XS.aload X7.here hx rfl (hb hby at_103) rfl rfl k) ?_
  refine Go.of (T' := T7) (f' := (mkF m 107 #[.val (.int x0), .val (.int x1), .val (.long x2), .second, .val (.long x3), .second, .val (.long x4), .second, .val (.long x5), .second, .val (.int W), .val (.int ii), .val (.int lo), .val (.int hi), .val (.int far), .val (.long (lowV W)), .second, .val (.ref b2), .unset, .unset, .unset, .unset] [(.int ii), (.ref b2)])) (fun t k => XS.iload X7.here hx rfl (hb hby at_105) rfl k) ?_
  refine Go.of (T' := T7) (f' := (mkF m 108 #[.val (.int x0), .val (.int x1), .val (.long x2), .second, .val (.long x3), .second, .val (.long x4), .second, .val (.long x5), .second, .val (.int W), .val (.int ii), .val (.int lo), .val (.int hi), .val (.int far), .val (.long (lowV W)), .second, .val (.ref b2), .unset, .unset, .unset, .unset] [(.long (ii.toInt64)), (.ref b2)])) (fun t k => XS.i2l X7.here hx rfl (hb hby at_107) rfl k) ?_
  have hq9 := own_pre ha hwa hwb Ia hW hlen4
  obtain ⟨cq8, kq8, q8a, q8b, q8c⟩ := isOf hZ rfl Ex7_b2
  obtain ⟨_, _, ⟨T8, L8, k8, n8⟩, -, X8, ⟨Lc8, hQ8, l8, y8, z8⟩, st8⟩ := X7.virtualBack hx (y := (⟨"com/example/bloom_filter_variants/bloomfiltervariants/PackedArray", "get", "(J)J"⟩ : MethodName)) (z := (⟨"com/example/bloom_filter_variants/bloomfiltervariants/PackedArray", "get", "(J)J"⟩ : MethodName)) hown (mvT hZ (hw _ (List.mem_of_getElem? (i := 34) rfl))) (mvT hZ (hw _ (List.mem_of_getElem? (i := 35) rfl))) (notFace_of_selects (args := #[]) (mvT hZ (hw _ (List.mem_of_getElem? (i := 37) rfl)))) (mvT hZ (hw _ (List.mem_of_getElem? (i := 37) rfl))) (mvT hZ (hw _ (List.mem_of_getElem? (i := 36) rfl))) (by decide) (backOf (W := 0) (rm6 l Z a0 hw [] b2 (ii.toInt64) W (maskOf W) b3 ws4 (rdW ws4 (wordI (ii.toInt64) W)) (rdW ws4 (wordI (ii.toInt64) W + 1)) T7.heap n0 ZS7 F7_b2_width F7_b2_mask F7_b2_words Vb7 hq9.1 hq9.2.1 (fun q => ⟨(hq9.2.2 q).1, (hq9.2.2 q).2.2⟩)) hZ (hw _ (List.mem_of_getElem? (i := 38) rfl)) (hw _ (List.mem_of_getElem? (i := 6) rfl)) (by decide) (by decide)) q8a q8c (g := (mkF m 108 #[.val (.int x0), .val (.int x1), .val (.long x2), .second, .val (.long x3), .second, .val (.long x4), .second, .val (.long x5), .second, .val (.int W), .val (.int ii), .val (.int lo), .val (.int hi), .val (.int far), .val (.long (lowV W)), .second, .val (.ref b2), .unset, .unset, .unset, .unset] [(.long (ii.toInt64)), (.ref b2)])) rfl (by rw [hml]; rfl) (Steps.refl _) (argsL := [(.long (ii.toInt64))]) (rest := []) (lenOf pd_3 rfl) rfl (by show 2 * 0 + _ ≤ _; exact Nat.le_of_eq rfl) (hb hby at_108) (fun _ _ => ⟨rfl, rfl, (by decide : 2 + 0 ≤ _), (by decide : 68 + 0 ≤ _)⟩)
  dsimp only [Pt.U, Pt.locs, Pt.cells, Pt.slots] at X8 l8 y8 z8 st8 hQ8
  subst l8 y8 z8
  obtain ⟨rfl, N8q, e8⟩ := hQ8
  have N8 := Fr.app N7 N8q
  refine Go.tr (T' := T8) (f' := (mkF m 111 #[.val (.int x0), .val (.int x1), .val (.long x2), .second, .val (.long x3), .second, .val (.long x4), .second, .val (.long x5), .second, .val (.int W), .val (.int ii), .val (.int lo), .val (.int hi), .val (.int far), .val (.long (lowV W)), .second, .val (.ref b2), .unset, .unset, .unset, .unset] [(.long (getV (ii.toInt64) W (maskOf W) (rdW ws4 (wordI (ii.toInt64) W)) (rdW ws4 (wordI (ii.toInt64) W + 1))))])) st8 ?_
  refine Go.of (T' := T8) (f' := (mkF m 113 #[.val (.int x0), .val (.int x1), .val (.long x2), .second, .val (.long x3), .second, .val (.long x4), .second, .val (.long x5), .second, .val (.int W), .val (.int ii), .val (.int lo), .val (.int hi), .val (.int far), .val (.long (lowV W)), .second, .val (.ref b2), .unset, .unset, .unset, .unset] [(.long x5), (.long (getV (ii.toInt64) W (maskOf W) (rdW ws4 (wordI (ii.toInt64) W)) (rdW ws4 (wordI (ii.toInt64) W + 1))))])) (fun t k => XS.lload X8.here hx rfl (hb hby at_111) rfl k) ?_
  refine Go.of (T' := T8) (f' := (mkF m 115 #[.val (.int x0), .val (.int x1), .val (.long x2), .second, .val (.long x3), .second, .val (.long x4), .second, .val (.long x5), .second, .val (.int W), .val (.int ii), .val (.int lo), .val (.int hi), .val (.int far), .val (.long (lowV W)), .second, .val (.ref b2), .unset, .unset, .unset, .unset] [(.long (lowV W)), (.long x5), (.long (getV (ii.toInt64) W (maskOf W) (rdW ws4 (wordI (ii.toInt64) W)) (rdW ws4 (wordI (ii.toInt64) W + 1))))])) (fun t k => XS.lload X8.here hx rfl (hb hby at_113) rfl k) ?_
  refine Go.of (T' := T8) (f' := (mkF m 116 #[.val (.int x0), .val (.int x1), .val (.long x2), .second, .val (.long x3), .second, .val (.long x4), .second, .val (.long x5), .second, .val (.int W), .val (.int ii), .val (.int lo), .val (.int hi), .val (.int far), .val (.long (lowV W)), .second, .val (.ref b2), .unset, .unset, .unset, .unset] [(.long (x5 &&& (lowV W))), (.long (getV (ii.toInt64) W (maskOf W) (rdW ws4 (wordI (ii.toInt64) W)) (rdW ws4 (wordI (ii.toInt64) W + 1))))])) (fun t k => XS.land X8.here hx rfl (hb hby at_115) rfl k) ?_
  refine Go.of (T' := T8) (f' := (mkF m 117 #[.val (.int x0), .val (.int x1), .val (.long x2), .second, .val (.long x3), .second, .val (.long x4), .second, .val (.long x5), .second, .val (.int W), .val (.int ii), .val (.int lo), .val (.int hi), .val (.int far), .val (.long (lowV W)), .second, .val (.ref b2), .unset, .unset, .unset, .unset] [(.int (lcmpW (getV (ii.toInt64) W (maskOf W) (rdW ws4 (wordI (ii.toInt64) W)) (rdW ws4 (wordI (ii.toInt64) W + 1))) (x5 &&& (lowV W))))])) (fun t k => XS.lcmp X8.here hx rfl (hb hby at_116) rfl k) ?_
  have hc117 : (getV (ii.toInt64) W (maskOf W) (rdW ws4 (wordI (ii.toInt64) W)) (rdW ws4 (wordI (ii.toInt64) W + 1))) = (x5 &&& (lowV W)) := own_get ha hwa hwb Ia hW hlen4 x5 (fun k hk => by rw [hbit4 _ _ ha hk, if_pos rfl])
  refine Go.of (T' := T8) (f' := (mkF m 120 #[.val (.int x0), .val (.int x1), .val (.long x2), .second, .val (.long x3), .second, .val (.long x4), .second, .val (.long x5), .second, .val (.int W), .val (.int ii), .val (.int lo), .val (.int hi), .val (.int far), .val (.long (lowV W)), .second, .val (.ref b2), .unset, .unset, .unset, .unset] [])) (fun t k => XS.ifNo X8.here hx rfl (hb hby at_117) rfl (lc_ne_f hc117) k) ?_
  refine Go.of (T' := T8) (f' := (mkF m 121 #[.val (.int x0), .val (.int x1), .val (.long x2), .second, .val (.long x3), .second, .val (.long x4), .second, .val (.long x5), .second, .val (.int W), .val (.int ii), .val (.int lo), .val (.int hi), .val (.int far), .val (.long (lowV W)), .second, .val (.ref b2), .unset, .unset, .unset, .unset] [(.int (1 : Int32))])) (fun t k => XS.iconst X8.here hx rfl (hb hby at_120) k) ?_
  refine Go.of (T' := T8) (f' := (mkF m 125 #[.val (.int x0), .val (.int x1), .val (.long x2), .second, .val (.long x3), .second, .val (.long x4), .second, .val (.long x5), .second, .val (.int W), .val (.int ii), .val (.int lo), .val (.int hi), .val (.int far), .val (.long (lowV W)), .second, .val (.ref b2), .unset, .unset, .unset, .unset] [(.int (1 : Int32))])) (fun t k => XS.goto X8.here hx rfl (pc0 := 121) (pc' := 125) rfl (hb hby at_121) (by decide) (by decide) k) ?_
  refine Go.of (T' := T8) (f' := (mkF m 127 #[.val (.int x0), .val (.int x1), .val (.long x2), .second, .val (.long x3), .second, .val (.long x4), .second, .val (.long x5), .second, .val (.int W), .val (.int ii), .val (.int lo), .val (.int hi), .val (.int far), .val (.long (lowV W)), .second, .val (.ref b2), .val (.int (1 : Int32)), .unset, .unset, .unset] [])) (fun t k => XS.istore X8.here hx rfl (hb hby at_125) rfl (l' := #[.val (.int x0), .val (.int x1), .val (.long x2), .second, .val (.long x3), .second, .val (.long x4), .second, .val (.long x5), .second, .val (.int W), .val (.int ii), .val (.int lo), .val (.int hi), .val (.int far), .val (.long (lowV W)), .second, .val (.ref b2), .val (.int (1 : Int32)), .unset, .unset, .unset]) rfl k) ?_
  refine Go.of (T' := T8) (f' := (mkF m 129 #[.val (.int x0), .val (.int x1), .val (.long x2), .second, .val (.long x3), .second, .val (.long x4), .second, .val (.long x5), .second, .val (.int W), .val (.int ii), .val (.int lo), .val (.int hi), .val (.int far), .val (.long (lowV W)), .second, .val (.ref b2), .val (.int (1 : Int32)), .unset, .unset, .unset] [(.ref b2)])) (fun t k => XS.aload X8.here hx rfl (hb hby at_127) rfl rfl k) ?_
  refine Go.of (T' := T8) (f' := (mkF m 131 #[.val (.int x0), .val (.int x1), .val (.long x2), .second, .val (.long x3), .second, .val (.long x4), .second, .val (.long x5), .second, .val (.int W), .val (.int ii), .val (.int lo), .val (.int hi), .val (.int far), .val (.long (lowV W)), .second, .val (.ref b2), .val (.int (1 : Int32)), .unset, .unset, .unset] [(.int lo), (.ref b2)])) (fun t k => XS.iload X8.here hx rfl (hb hby at_129) rfl k) ?_
  refine Go.of (T' := T8) (f' := (mkF m 132 #[.val (.int x0), .val (.int x1), .val (.long x2), .second, .val (.long x3), .second, .val (.long x4), .second, .val (.long x5), .second, .val (.int W), .val (.int ii), .val (.int lo), .val (.int hi), .val (.int far), .val (.long (lowV W)), .second, .val (.ref b2), .val (.int (1 : Int32)), .unset, .unset, .unset] [(.long (lo.toInt64)), (.ref b2)])) (fun t k => XS.i2l X8.here hx rfl (hb hby at_131) rfl k) ?_
  have hq11 := own_pre hb_ hwa hwb Ib hW hlen4
  obtain ⟨cq10, kq10, q10a, q10b, q10c⟩ := isOf hZ e8 Ex7_b2
  obtain ⟨_, _, ⟨T10, L10, k10, n10⟩, -, X10, ⟨Lc10, hQ10, l10, y10, z10⟩, st10⟩ := X8.virtualBack hx (y := (⟨"com/example/bloom_filter_variants/bloomfiltervariants/PackedArray", "get", "(J)J"⟩ : MethodName)) (z := (⟨"com/example/bloom_filter_variants/bloomfiltervariants/PackedArray", "get", "(J)J"⟩ : MethodName)) hown (mvT hZ (hw _ (List.mem_of_getElem? (i := 34) rfl))) (mvT hZ (hw _ (List.mem_of_getElem? (i := 35) rfl))) (notFace_of_selects (args := #[]) (mvT hZ (hw _ (List.mem_of_getElem? (i := 37) rfl)))) (mvT hZ (hw _ (List.mem_of_getElem? (i := 37) rfl))) (mvT hZ (hw _ (List.mem_of_getElem? (i := 36) rfl))) (by decide) (backOf (W := 0) (rm6 l Z a0 hw [] b2 (lo.toInt64) W (maskOf W) b3 ws4 (rdW ws4 (wordI (lo.toInt64) W)) (rdW ws4 (wordI (lo.toInt64) W + 1)) T7.heap n0 ZS7 F7_b2_width F7_b2_mask F7_b2_words Vb7 hq11.1 hq11.2.1 (fun q => ⟨(hq11.2.2 q).1, (hq11.2.2 q).2.2⟩)) hZ (hw _ (List.mem_of_getElem? (i := 38) rfl)) (hw _ (List.mem_of_getElem? (i := 6) rfl)) (by decide) (by decide)) q10a q10c (g := (mkF m 132 #[.val (.int x0), .val (.int x1), .val (.long x2), .second, .val (.long x3), .second, .val (.long x4), .second, .val (.long x5), .second, .val (.int W), .val (.int ii), .val (.int lo), .val (.int hi), .val (.int far), .val (.long (lowV W)), .second, .val (.ref b2), .val (.int (1 : Int32)), .unset, .unset, .unset] [(.long (lo.toInt64)), (.ref b2)])) rfl (by rw [hml]; rfl) (Steps.refl _) (argsL := [(.long (lo.toInt64))]) (rest := []) (lenOf pd_3 rfl) rfl (by show 2 * 0 + _ ≤ _; exact Nat.le_of_eq rfl) (hb hby at_132) (fun _ _ => ⟨rfl, e8, (by decide : 2 + 0 ≤ _), (by decide : 68 + 0 ≤ _)⟩)
  dsimp only [Pt.U, Pt.locs, Pt.cells, Pt.slots] at X10 l10 y10 z10 st10 hQ10
  subst l10 y10 z10
  obtain ⟨rfl, N10q, e10⟩ := hQ10
  have N10 := Fr.app N8 N10q
  refine Go.tr (T' := T10) (f' := (mkF m 135 #[.val (.int x0), .val (.int x1), .val (.long x2), .second, .val (.long x3), .second, .val (.long x4), .second, .val (.long x5), .second, .val (.int W), .val (.int ii), .val (.int lo), .val (.int hi), .val (.int far), .val (.long (lowV W)), .second, .val (.ref b2), .val (.int (1 : Int32)), .unset, .unset, .unset] [(.long (getV (lo.toInt64) W (maskOf W) (rdW ws4 (wordI (lo.toInt64) W)) (rdW ws4 (wordI (lo.toInt64) W + 1))))])) st10 ?_
  refine Go.of (T' := T10) (f' := (mkF m 136 #[.val (.int x0), .val (.int x1), .val (.long x2), .second, .val (.long x3), .second, .val (.long x4), .second, .val (.long x5), .second, .val (.int W), .val (.int ii), .val (.int lo), .val (.int hi), .val (.int far), .val (.long (lowV W)), .second, .val (.ref b2), .val (.int (1 : Int32)), .unset, .unset, .unset] [(.long x2), (.long (getV (lo.toInt64) W (maskOf W) (rdW ws4 (wordI (lo.toInt64) W)) (rdW ws4 (wordI (lo.toInt64) W + 1))))])) (fun t k => XS.lloadN X10.here hx rfl (hb hby at_135) rfl k) ?_
  refine Go.of (T' := T10) (f' := (mkF m 138 #[.val (.int x0), .val (.int x1), .val (.long x2), .second, .val (.long x3), .second, .val (.long x4), .second, .val (.long x5), .second, .val (.int W), .val (.int ii), .val (.int lo), .val (.int hi), .val (.int far), .val (.long (lowV W)), .second, .val (.ref b2), .val (.int (1 : Int32)), .unset, .unset, .unset] [(.long (lowV W)), (.long x2), (.long (getV (lo.toInt64) W (maskOf W) (rdW ws4 (wordI (lo.toInt64) W)) (rdW ws4 (wordI (lo.toInt64) W + 1))))])) (fun t k => XS.lload X10.here hx rfl (hb hby at_136) rfl k) ?_
  refine Go.of (T' := T10) (f' := (mkF m 139 #[.val (.int x0), .val (.int x1), .val (.long x2), .second, .val (.long x3), .second, .val (.long x4), .second, .val (.long x5), .second, .val (.int W), .val (.int ii), .val (.int lo), .val (.int hi), .val (.int far), .val (.long (lowV W)), .second, .val (.ref b2), .val (.int (1 : Int32)), .unset, .unset, .unset] [(.long (x2 &&& (lowV W))), (.long (getV (lo.toInt64) W (maskOf W) (rdW ws4 (wordI (lo.toInt64) W)) (rdW ws4 (wordI (lo.toInt64) W + 1))))])) (fun t k => XS.land X10.here hx rfl (hb hby at_138) rfl k) ?_
  refine Go.of (T' := T10) (f' := (mkF m 140 #[.val (.int x0), .val (.int x1), .val (.long x2), .second, .val (.long x3), .second, .val (.long x4), .second, .val (.long x5), .second, .val (.int W), .val (.int ii), .val (.int lo), .val (.int hi), .val (.int far), .val (.long (lowV W)), .second, .val (.ref b2), .val (.int (1 : Int32)), .unset, .unset, .unset] [(.int (lcmpW (getV (lo.toInt64) W (maskOf W) (rdW ws4 (wordI (lo.toInt64) W)) (rdW ws4 (wordI (lo.toInt64) W + 1))) (x2 &&& (lowV W))))])) (fun t k => XS.lcmp X10.here hx rfl (hb hby at_139) rfl k) ?_
  have hc140 : (getV (lo.toInt64) W (maskOf W) (rdW ws4 (wordI (lo.toInt64) W)) (rdW ws4 (wordI (lo.toInt64) W + 1))) = (x2 &&& (lowV W)) := own_get hb_ hwa hwb Ib hW hlen4 x2 (fun k hk => by rw [hbit4 _ _ hb_ hk, if_neg nba, hbit3 _ _ hb_ hk, if_neg nba, hbit2 _ _ hb_ hk, if_neg nbc, hbit1 _ _ hb_ hk, if_pos rfl])
  refine Go.of (T' := T10) (f' := (mkF m 143 #[.val (.int x0), .val (.int x1), .val (.long x2), .second, .val (.long x3), .second, .val (.long x4), .second, .val (.long x5), .second, .val (.int W), .val (.int ii), .val (.int lo), .val (.int hi), .val (.int far), .val (.long (lowV W)), .second, .val (.ref b2), .val (.int (1 : Int32)), .unset, .unset, .unset] [])) (fun t k => XS.ifNo X10.here hx rfl (hb hby at_140) rfl (lc_ne_f hc140) k) ?_
  refine Go.of (T' := T10) (f' := (mkF m 144 #[.val (.int x0), .val (.int x1), .val (.long x2), .second, .val (.long x3), .second, .val (.long x4), .second, .val (.long x5), .second, .val (.int W), .val (.int ii), .val (.int lo), .val (.int hi), .val (.int far), .val (.long (lowV W)), .second, .val (.ref b2), .val (.int (1 : Int32)), .unset, .unset, .unset] [(.int (1 : Int32))])) (fun t k => XS.iconst X10.here hx rfl (hb hby at_143) k) ?_
  refine Go.of (T' := T10) (f' := (mkF m 148 #[.val (.int x0), .val (.int x1), .val (.long x2), .second, .val (.long x3), .second, .val (.long x4), .second, .val (.long x5), .second, .val (.int W), .val (.int ii), .val (.int lo), .val (.int hi), .val (.int far), .val (.long (lowV W)), .second, .val (.ref b2), .val (.int (1 : Int32)), .unset, .unset, .unset] [(.int (1 : Int32))])) (fun t k => XS.goto X10.here hx rfl (pc0 := 144) (pc' := 148) rfl (hb hby at_144) (by decide) (by decide) k) ?_
  refine Go.of (T' := T10) (f' := (mkF m 150 #[.val (.int x0), .val (.int x1), .val (.long x2), .second, .val (.long x3), .second, .val (.long x4), .second, .val (.long x5), .second, .val (.int W), .val (.int ii), .val (.int lo), .val (.int hi), .val (.int far), .val (.long (lowV W)), .second, .val (.ref b2), .val (.int (1 : Int32)), .val (.int (1 : Int32)), .unset, .unset] [])) (fun t k => XS.istore X10.here hx rfl (hb hby at_148) rfl (l' := #[.val (.int x0), .val (.int x1), .val (.long x2), .second, .val (.long x3), .second, .val (.long x4), .second, .val (.long x5), .second, .val (.int W), .val (.int ii), .val (.int lo), .val (.int hi), .val (.int far), .val (.long (lowV W)), .second, .val (.ref b2), .val (.int (1 : Int32)), .val (.int (1 : Int32)), .unset, .unset]) rfl k) ?_
  refine Go.of (T' := T10) (f' := (mkF m 152 #[.val (.int x0), .val (.int x1), .val (.long x2), .second, .val (.long x3), .second, .val (.long x4), .second, .val (.long x5), .second, .val (.int W), .val (.int ii), .val (.int lo), .val (.int hi), .val (.int far), .val (.long (lowV W)), .second, .val (.ref b2), .val (.int (1 : Int32)), .val (.int (1 : Int32)), .unset, .unset] [(.ref b2)])) (fun t k => XS.aload X10.here hx rfl (hb hby at_150) rfl rfl k) ?_
  refine Go.of (T' := T10) (f' := (mkF m 154 #[.val (.int x0), .val (.int x1), .val (.long x2), .second, .val (.long x3), .second, .val (.long x4), .second, .val (.long x5), .second, .val (.int W), .val (.int ii), .val (.int lo), .val (.int hi), .val (.int far), .val (.long (lowV W)), .second, .val (.ref b2), .val (.int (1 : Int32)), .val (.int (1 : Int32)), .unset, .unset] [(.int hi), (.ref b2)])) (fun t k => XS.iload X10.here hx rfl (hb hby at_152) rfl k) ?_
  refine Go.of (T' := T10) (f' := (mkF m 155 #[.val (.int x0), .val (.int x1), .val (.long x2), .second, .val (.long x3), .second, .val (.long x4), .second, .val (.long x5), .second, .val (.int W), .val (.int ii), .val (.int lo), .val (.int hi), .val (.int far), .val (.long (lowV W)), .second, .val (.ref b2), .val (.int (1 : Int32)), .val (.int (1 : Int32)), .unset, .unset] [(.long (hi.toInt64)), (.ref b2)])) (fun t k => XS.i2l X10.here hx rfl (hb hby at_154) rfl k) ?_
  have hq13 := own_pre hc_ hwa hwb Ic hW hlen4
  obtain ⟨cq12, kq12, q12a, q12b, q12c⟩ := isOf hZ e10 Ex7_b2
  obtain ⟨_, _, ⟨T12, L12, k12, n12⟩, -, X12, ⟨Lc12, hQ12, l12, y12, z12⟩, st12⟩ := X10.virtualBack hx (y := (⟨"com/example/bloom_filter_variants/bloomfiltervariants/PackedArray", "get", "(J)J"⟩ : MethodName)) (z := (⟨"com/example/bloom_filter_variants/bloomfiltervariants/PackedArray", "get", "(J)J"⟩ : MethodName)) hown (mvT hZ (hw _ (List.mem_of_getElem? (i := 34) rfl))) (mvT hZ (hw _ (List.mem_of_getElem? (i := 35) rfl))) (notFace_of_selects (args := #[]) (mvT hZ (hw _ (List.mem_of_getElem? (i := 37) rfl)))) (mvT hZ (hw _ (List.mem_of_getElem? (i := 37) rfl))) (mvT hZ (hw _ (List.mem_of_getElem? (i := 36) rfl))) (by decide) (backOf (W := 0) (rm6 l Z a0 hw [] b2 (hi.toInt64) W (maskOf W) b3 ws4 (rdW ws4 (wordI (hi.toInt64) W)) (rdW ws4 (wordI (hi.toInt64) W + 1)) T7.heap n0 ZS7 F7_b2_width F7_b2_mask F7_b2_words Vb7 hq13.1 hq13.2.1 (fun q => ⟨(hq13.2.2 q).1, (hq13.2.2 q).2.2⟩)) hZ (hw _ (List.mem_of_getElem? (i := 38) rfl)) (hw _ (List.mem_of_getElem? (i := 6) rfl)) (by decide) (by decide)) q12a q12c (g := (mkF m 155 #[.val (.int x0), .val (.int x1), .val (.long x2), .second, .val (.long x3), .second, .val (.long x4), .second, .val (.long x5), .second, .val (.int W), .val (.int ii), .val (.int lo), .val (.int hi), .val (.int far), .val (.long (lowV W)), .second, .val (.ref b2), .val (.int (1 : Int32)), .val (.int (1 : Int32)), .unset, .unset] [(.long (hi.toInt64)), (.ref b2)])) rfl (by rw [hml]; rfl) (Steps.refl _) (argsL := [(.long (hi.toInt64))]) (rest := []) (lenOf pd_3 rfl) rfl (by show 2 * 0 + _ ≤ _; exact Nat.le_of_eq rfl) (hb hby at_155) (fun _ _ => ⟨rfl, e10, (by decide : 2 + 0 ≤ _), (by decide : 68 + 0 ≤ _)⟩)
  dsimp only [Pt.U, Pt.locs, Pt.cells, Pt.slots] at X12 l12 y12 z12 st12 hQ12
  subst l12 y12 z12
  obtain ⟨rfl, N12q, e12⟩ := hQ12
  have N12 := Fr.app N10 N12q
  refine Go.tr (T' := T12) (f' := (mkF m 158 #[.val (.int x0), .val (.int x1), .val (.long x2), .second, .val (.long x3), .second, .val (.long x4), .second, .val (.long x5), .second, .val (.int W), .val (.int ii), .val (.int lo), .val (.int hi), .val (.int far), .val (.long (lowV W)), .second, .val (.ref b2), .val (.int (1 : Int32)), .val (.int (1 : Int32)), .unset, .unset] [(.long (getV (hi.toInt64) W (maskOf W) (rdW ws4 (wordI (hi.toInt64) W)) (rdW ws4 (wordI (hi.toInt64) W + 1))))])) st12 ?_
  refine Go.of (T' := T12) (f' := (mkF m 160 #[.val (.int x0), .val (.int x1), .val (.long x2), .second, .val (.long x3), .second, .val (.long x4), .second, .val (.long x5), .second, .val (.int W), .val (.int ii), .val (.int lo), .val (.int hi), .val (.int far), .val (.long (lowV W)), .second, .val (.ref b2), .val (.int (1 : Int32)), .val (.int (1 : Int32)), .unset, .unset] [(.long x3), (.long (getV (hi.toInt64) W (maskOf W) (rdW ws4 (wordI (hi.toInt64) W)) (rdW ws4 (wordI (hi.toInt64) W + 1))))])) (fun t k => XS.lload X12.here hx rfl (hb hby at_158) rfl k) ?_
  refine Go.of (T' := T12) (f' := (mkF m 162 #[.val (.int x0), .val (.int x1), .val (.long x2), .second, .val (.long x3), .second, .val (.long x4), .second, .val (.long x5), .second, .val (.int W), .val (.int ii), .val (.int lo), .val (.int hi), .val (.int far), .val (.long (lowV W)), .second, .val (.ref b2), .val (.int (1 : Int32)), .val (.int (1 : Int32)), .unset, .unset] [(.long (lowV W)), (.long x3), (.long (getV (hi.toInt64) W (maskOf W) (rdW ws4 (wordI (hi.toInt64) W)) (rdW ws4 (wordI (hi.toInt64) W + 1))))])) (fun t k => XS.lload X12.here hx rfl (hb hby at_160) rfl k) ?_
  refine Go.of (T' := T12) (f' := (mkF m 163 #[.val (.int x0), .val (.int x1), .val (.long x2), .second, .val (.long x3), .second, .val (.long x4), .second, .val (.long x5), .second, .val (.int W), .val (.int ii), .val (.int lo), .val (.int hi), .val (.int far), .val (.long (lowV W)), .second, .val (.ref b2), .val (.int (1 : Int32)), .val (.int (1 : Int32)), .unset, .unset] [(.long (x3 &&& (lowV W))), (.long (getV (hi.toInt64) W (maskOf W) (rdW ws4 (wordI (hi.toInt64) W)) (rdW ws4 (wordI (hi.toInt64) W + 1))))])) (fun t k => XS.land X12.here hx rfl (hb hby at_162) rfl k) ?_
  refine Go.of (T' := T12) (f' := (mkF m 164 #[.val (.int x0), .val (.int x1), .val (.long x2), .second, .val (.long x3), .second, .val (.long x4), .second, .val (.long x5), .second, .val (.int W), .val (.int ii), .val (.int lo), .val (.int hi), .val (.int far), .val (.long (lowV W)), .second, .val (.ref b2), .val (.int (1 : Int32)), .val (.int (1 : Int32)), .unset, .unset] [(.int (lcmpW (getV (hi.toInt64) W (maskOf W) (rdW ws4 (wordI (hi.toInt64) W)) (rdW ws4 (wordI (hi.toInt64) W + 1))) (x3 &&& (lowV W))))])) (fun t k => XS.lcmp X12.here hx rfl (hb hby at_163) rfl k) ?_
  have hc164 : (getV (hi.toInt64) W (maskOf W) (rdW ws4 (wordI (hi.toInt64) W)) (rdW ws4 (wordI (hi.toInt64) W + 1))) = (x3 &&& (lowV W)) := own_get hc_ hwa hwb Ic hW hlen4 x3 (fun k hk => by rw [hbit4 _ _ hc_ hk, if_neg nca, hbit3 _ _ hc_ hk, if_neg nca, hbit2 _ _ hc_ hk, if_pos rfl])
  refine Go.of (T' := T12) (f' := (mkF m 167 #[.val (.int x0), .val (.int x1), .val (.long x2), .second, .val (.long x3), .second, .val (.long x4), .second, .val (.long x5), .second, .val (.int W), .val (.int ii), .val (.int lo), .val (.int hi), .val (.int far), .val (.long (lowV W)), .second, .val (.ref b2), .val (.int (1 : Int32)), .val (.int (1 : Int32)), .unset, .unset] [])) (fun t k => XS.ifNo X12.here hx rfl (hb hby at_164) rfl (lc_ne_f hc164) k) ?_
  refine Go.of (T' := T12) (f' := (mkF m 168 #[.val (.int x0), .val (.int x1), .val (.long x2), .second, .val (.long x3), .second, .val (.long x4), .second, .val (.long x5), .second, .val (.int W), .val (.int ii), .val (.int lo), .val (.int hi), .val (.int far), .val (.long (lowV W)), .second, .val (.ref b2), .val (.int (1 : Int32)), .val (.int (1 : Int32)), .unset, .unset] [(.int (1 : Int32))])) (fun t k => XS.iconst X12.here hx rfl (hb hby at_167) k) ?_
  refine Go.of (T' := T12) (f' := (mkF m 172 #[.val (.int x0), .val (.int x1), .val (.long x2), .second, .val (.long x3), .second, .val (.long x4), .second, .val (.long x5), .second, .val (.int W), .val (.int ii), .val (.int lo), .val (.int hi), .val (.int far), .val (.long (lowV W)), .second, .val (.ref b2), .val (.int (1 : Int32)), .val (.int (1 : Int32)), .unset, .unset] [(.int (1 : Int32))])) (fun t k => XS.goto X12.here hx rfl (pc0 := 168) (pc' := 172) rfl (hb hby at_168) (by decide) (by decide) k) ?_
  refine Go.of (T' := T12) (f' := (mkF m 174 #[.val (.int x0), .val (.int x1), .val (.long x2), .second, .val (.long x3), .second, .val (.long x4), .second, .val (.long x5), .second, .val (.int W), .val (.int ii), .val (.int lo), .val (.int hi), .val (.int far), .val (.long (lowV W)), .second, .val (.ref b2), .val (.int (1 : Int32)), .val (.int (1 : Int32)), .val (.int (1 : Int32)), .unset] [])) (fun t k => XS.istore X12.here hx rfl (hb hby at_172) rfl (l' := #[.val (.int x0), .val (.int x1), .val (.long x2), .second, .val (.long x3), .second, .val (.long x4), .second, .val (.long x5), .second, .val (.int W), .val (.int ii), .val (.int lo), .val (.int hi), .val (.int far), .val (.long (lowV W)), .second, .val (.ref b2), .val (.int (1 : Int32)), .val (.int (1 : Int32)), .val (.int (1 : Int32)), .unset]) rfl k) ?_
  refine Go.of (T' := T12) (f' := (mkF m 176 #[.val (.int x0), .val (.int x1), .val (.long x2), .second, .val (.long x3), .second, .val (.long x4), .second, .val (.long x5), .second, .val (.int W), .val (.int ii), .val (.int lo), .val (.int hi), .val (.int far), .val (.long (lowV W)), .second, .val (.ref b2), .val (.int (1 : Int32)), .val (.int (1 : Int32)), .val (.int (1 : Int32)), .unset] [(.ref b2)])) (fun t k => XS.aload X12.here hx rfl (hb hby at_174) rfl rfl k) ?_
  refine Go.of (T' := T12) (f' := (mkF m 178 #[.val (.int x0), .val (.int x1), .val (.long x2), .second, .val (.long x3), .second, .val (.long x4), .second, .val (.long x5), .second, .val (.int W), .val (.int ii), .val (.int lo), .val (.int hi), .val (.int far), .val (.long (lowV W)), .second, .val (.ref b2), .val (.int (1 : Int32)), .val (.int (1 : Int32)), .val (.int (1 : Int32)), .unset] [(.int far), (.ref b2)])) (fun t k => XS.iload X12.here hx rfl (hb hby at_176) rfl k) ?_
  refine Go.of (T' := T12) (f' := (mkF m 179 #[.val (.int x0), .val (.int x1), .val (.long x2), .second, .val (.long x3), .second, .val (.long x4), .second, .val (.long x5), .second, .val (.int W), .val (.int ii), .val (.int lo), .val (.int hi), .val (.int far), .val (.long (lowV W)), .second, .val (.ref b2), .val (.int (1 : Int32)), .val (.int (1 : Int32)), .val (.int (1 : Int32)), .unset] [(.long (far.toInt64)), (.ref b2)])) (fun t k => XS.i2l X12.here hx rfl (hb hby at_178) rfl k) ?_
  have hq15 := own_pre hd_ hwa hwb Id hW hlen4
  obtain ⟨cq14, kq14, q14a, q14b, q14c⟩ := isOf hZ e12 Ex7_b2
  obtain ⟨_, _, ⟨T14, L14, k14, n14⟩, -, X14, ⟨Lc14, hQ14, l14, y14, z14⟩, st14⟩ := X12.virtualBack hx (y := (⟨"com/example/bloom_filter_variants/bloomfiltervariants/PackedArray", "get", "(J)J"⟩ : MethodName)) (z := (⟨"com/example/bloom_filter_variants/bloomfiltervariants/PackedArray", "get", "(J)J"⟩ : MethodName)) hown (mvT hZ (hw _ (List.mem_of_getElem? (i := 34) rfl))) (mvT hZ (hw _ (List.mem_of_getElem? (i := 35) rfl))) (notFace_of_selects (args := #[]) (mvT hZ (hw _ (List.mem_of_getElem? (i := 37) rfl)))) (mvT hZ (hw _ (List.mem_of_getElem? (i := 37) rfl))) (mvT hZ (hw _ (List.mem_of_getElem? (i := 36) rfl))) (by decide) (backOf (W := 0) (rm6 l Z a0 hw [] b2 (far.toInt64) W (maskOf W) b3 ws4 (rdW ws4 (wordI (far.toInt64) W)) (rdW ws4 (wordI (far.toInt64) W + 1)) T7.heap n0 ZS7 F7_b2_width F7_b2_mask F7_b2_words Vb7 hq15.1 hq15.2.1 (fun q => ⟨(hq15.2.2 q).1, (hq15.2.2 q).2.2⟩)) hZ (hw _ (List.mem_of_getElem? (i := 38) rfl)) (hw _ (List.mem_of_getElem? (i := 6) rfl)) (by decide) (by decide)) q14a q14c (g := (mkF m 179 #[.val (.int x0), .val (.int x1), .val (.long x2), .second, .val (.long x3), .second, .val (.long x4), .second, .val (.long x5), .second, .val (.int W), .val (.int ii), .val (.int lo), .val (.int hi), .val (.int far), .val (.long (lowV W)), .second, .val (.ref b2), .val (.int (1 : Int32)), .val (.int (1 : Int32)), .val (.int (1 : Int32)), .unset] [(.long (far.toInt64)), (.ref b2)])) rfl (by rw [hml]; rfl) (Steps.refl _) (argsL := [(.long (far.toInt64))]) (rest := []) (lenOf pd_3 rfl) rfl (by show 2 * 0 + _ ≤ _; exact Nat.le_of_eq rfl) (hb hby at_179) (fun _ _ => ⟨rfl, e12, (by decide : 2 + 0 ≤ _), (by decide : 68 + 0 ≤ _)⟩)
  dsimp only [Pt.U, Pt.locs, Pt.cells, Pt.slots] at X14 l14 y14 z14 st14 hQ14
  subst l14 y14 z14
  obtain ⟨rfl, N14q, e14⟩ := hQ14
  have N14 := Fr.app N12 N14q
  refine Go.tr (T' := T14) (f' := (mkF m 182 #[.val (.int x0), .val (.int x1), .val (.long x2), .second, .val (.long x3), .second, .val (.long x4), .second, .val (.long x5), .second, .val (.int W), .val (.int ii), .val (.int lo), .val (.int hi), .val (.int far), .val (.long (lowV W)), .second, .val (.ref b2), .val (.int (1 : Int32)), .val (.int (1 : Int32)), .val (.int (1 : Int32)), .unset] [(.long (getV (far.toInt64) W (maskOf W) (rdW ws4 (wordI (far.toInt64) W)) (rdW ws4 (wordI (far.toInt64) W + 1))))])) st14 ?_
  refine Go.of (T' := T14) (f' := (mkF m 183 #[.val (.int x0), .val (.int x1), .val (.long x2), .second, .val (.long x3), .second, .val (.long x4), .second, .val (.long x5), .second, .val (.int W), .val (.int ii), .val (.int lo), .val (.int hi), .val (.int far), .val (.long (lowV W)), .second, .val (.ref b2), .val (.int (1 : Int32)), .val (.int (1 : Int32)), .val (.int (1 : Int32)), .unset] [(.long (0 : Int64)), (.long (getV (far.toInt64) W (maskOf W) (rdW ws4 (wordI (far.toInt64) W)) (rdW ws4 (wordI (far.toInt64) W + 1))))])) (fun t k => XS.lconst X14.here hx rfl (hb hby at_182) k) ?_
  refine Go.of (T' := T14) (f' := (mkF m 184 #[.val (.int x0), .val (.int x1), .val (.long x2), .second, .val (.long x3), .second, .val (.long x4), .second, .val (.long x5), .second, .val (.int W), .val (.int ii), .val (.int lo), .val (.int hi), .val (.int far), .val (.long (lowV W)), .second, .val (.ref b2), .val (.int (1 : Int32)), .val (.int (1 : Int32)), .val (.int (1 : Int32)), .unset] [(.int (lcmpW (getV (far.toInt64) W (maskOf W) (rdW ws4 (wordI (far.toInt64) W)) (rdW ws4 (wordI (far.toInt64) W + 1))) (0 : Int64)))])) (fun t k => XS.lcmp X14.here hx rfl (hb hby at_183) rfl k) ?_
  have hc184 : (getV (far.toInt64) W (maskOf W) (rdW ws4 (wordI (far.toInt64) W)) (rdW ws4 (wordI (far.toInt64) W + 1))) = (0 : Int64) := (own_get hd_ hwa hwb Id hW hlen4 0 (fun k hk => by rw [hbit4 _ _ hd_ hk, if_neg nda, hbit3 _ _ hd_ hk, if_neg nda, hbit2 _ _ hd_ hk, if_neg ndc, hbit1 _ _ hd_ hk, if_neg ndb, hbit0]; simp)).trans (own_and0 _)
  refine Go.of (T' := T14) (f' := (mkF m 187 #[.val (.int x0), .val (.int x1), .val (.long x2), .second, .val (.long x3), .second, .val (.long x4), .second, .val (.long x5), .second, .val (.int W), .val (.int ii), .val (.int lo), .val (.int hi), .val (.int far), .val (.long (lowV W)), .second, .val (.ref b2), .val (.int (1 : Int32)), .val (.int (1 : Int32)), .val (.int (1 : Int32)), .unset] [])) (fun t k => XS.ifNo X14.here hx rfl (hb hby at_184) rfl (lc_ne_f hc184) k) ?_
  refine Go.of (T' := T14) (f' := (mkF m 188 #[.val (.int x0), .val (.int x1), .val (.long x2), .second, .val (.long x3), .second, .val (.long x4), .second, .val (.long x5), .second, .val (.int W), .val (.int ii), .val (.int lo), .val (.int hi), .val (.int far), .val (.long (lowV W)), .second, .val (.ref b2), .val (.int (1 : Int32)), .val (.int (1 : Int32)), .val (.int (1 : Int32)), .unset] [(.int (1 : Int32))])) (fun t k => XS.iconst X14.here hx rfl (hb hby at_187) k) ?_
  refine Go.of (T' := T14) (f' := (mkF m 192 #[.val (.int x0), .val (.int x1), .val (.long x2), .second, .val (.long x3), .second, .val (.long x4), .second, .val (.long x5), .second, .val (.int W), .val (.int ii), .val (.int lo), .val (.int hi), .val (.int far), .val (.long (lowV W)), .second, .val (.ref b2), .val (.int (1 : Int32)), .val (.int (1 : Int32)), .val (.int (1 : Int32)), .unset] [(.int (1 : Int32))])) (fun t k => XS.goto X14.here hx rfl (pc0 := 188) (pc' := 192) rfl (hb hby at_188) (by decide) (by decide) k) ?_
  refine Go.of (T' := T14) (f' := (mkF m 194 #[.val (.int x0), .val (.int x1), .val (.long x2), .second, .val (.long x3), .second, .val (.long x4), .second, .val (.long x5), .second, .val (.int W), .val (.int ii), .val (.int lo), .val (.int hi), .val (.int far), .val (.long (lowV W)), .second, .val (.ref b2), .val (.int (1 : Int32)), .val (.int (1 : Int32)), .val (.int (1 : Int32)), .val (.int (1 : Int32))] [])) (fun t k => XS.istore X14.here hx rfl (hb hby at_192) rfl (l' := #[.val (.int x0), .val (.int x1), .val (.long x2), .second, .val (.long x3), .second, .val (.long x4), .second, .val (.long x5), .second, .val (.int W), .val (.int ii), .val (.int lo), .val (.int hi), .val (.int far), .val (.long (lowV W)), .second, .val (.ref b2), .val (.int (1 : Int32)), .val (.int (1 : Int32)), .val (.int (1 : Int32)), .val (.int (1 : Int32))]) rfl k) ?_
  refine Go.of (T' := T14) (f' := (mkF m 196 #[.val (.int x0), .val (.int x1), .val (.long x2), .second, .val (.long x3), .second, .val (.long x4), .second, .val (.long x5), .second, .val (.int W), .val (.int ii), .val (.int lo), .val (.int hi), .val (.int far), .val (.long (lowV W)), .second, .val (.ref b2), .val (.int (1 : Int32)), .val (.int (1 : Int32)), .val (.int (1 : Int32)), .val (.int (1 : Int32))] [(.int (1 : Int32))])) (fun t k => XS.iload X14.here hx rfl (hb hby at_194) rfl k) ?_
  have hc196 : ¬ ((1 : Int32) = (0 : Int32)) := by decide
  refine Go.of (T' := T14) (f' := (mkF m 199 #[.val (.int x0), .val (.int x1), .val (.long x2), .second, .val (.long x3), .second, .val (.long x4), .second, .val (.long x5), .second, .val (.int W), .val (.int ii), .val (.int lo), .val (.int hi), .val (.int far), .val (.long (lowV W)), .second, .val (.ref b2), .val (.int (1 : Int32)), .val (.int (1 : Int32)), .val (.int (1 : Int32)), .val (.int (1 : Int32))] [])) (fun t k => XS.ifNo X14.here hx rfl (hb hby at_196) rfl ((if0 _ _).trans (feq hc196).1) k) ?_
  refine Go.of (T' := T14) (f' := (mkF m 201 #[.val (.int x0), .val (.int x1), .val (.long x2), .second, .val (.long x3), .second, .val (.long x4), .second, .val (.long x5), .second, .val (.int W), .val (.int ii), .val (.int lo), .val (.int hi), .val (.int far), .val (.long (lowV W)), .second, .val (.ref b2), .val (.int (1 : Int32)), .val (.int (1 : Int32)), .val (.int (1 : Int32)), .val (.int (1 : Int32))] [(.int (1 : Int32))])) (fun t k => XS.iload X14.here hx rfl (hb hby at_199) rfl k) ?_
  have hc201 : ¬ ((1 : Int32) = (0 : Int32)) := by decide
  refine Go.of (T' := T14) (f' := (mkF m 204 #[.val (.int x0), .val (.int x1), .val (.long x2), .second, .val (.long x3), .second, .val (.long x4), .second, .val (.long x5), .second, .val (.int W), .val (.int ii), .val (.int lo), .val (.int hi), .val (.int far), .val (.long (lowV W)), .second, .val (.ref b2), .val (.int (1 : Int32)), .val (.int (1 : Int32)), .val (.int (1 : Int32)), .val (.int (1 : Int32))] [])) (fun t k => XS.ifNo X14.here hx rfl (hb hby at_201) rfl ((if0 _ _).trans (feq hc201).1) k) ?_
  refine Go.of (T' := T14) (f' := (mkF m 206 #[.val (.int x0), .val (.int x1), .val (.long x2), .second, .val (.long x3), .second, .val (.long x4), .second, .val (.long x5), .second, .val (.int W), .val (.int ii), .val (.int lo), .val (.int hi), .val (.int far), .val (.long (lowV W)), .second, .val (.ref b2), .val (.int (1 : Int32)), .val (.int (1 : Int32)), .val (.int (1 : Int32)), .val (.int (1 : Int32))] [(.int (1 : Int32))])) (fun t k => XS.iload X14.here hx rfl (hb hby at_204) rfl k) ?_
  have hc206 : ¬ ((1 : Int32) = (0 : Int32)) := by decide
  refine Go.of (T' := T14) (f' := (mkF m 209 #[.val (.int x0), .val (.int x1), .val (.long x2), .second, .val (.long x3), .second, .val (.long x4), .second, .val (.long x5), .second, .val (.int W), .val (.int ii), .val (.int lo), .val (.int hi), .val (.int far), .val (.long (lowV W)), .second, .val (.ref b2), .val (.int (1 : Int32)), .val (.int (1 : Int32)), .val (.int (1 : Int32)), .val (.int (1 : Int32))] [])) (fun t k => XS.ifNo X14.here hx rfl (hb hby at_206) rfl ((if0 _ _).trans (feq hc206).1) k) ?_
  refine Go.of (T' := T14) (f' := (mkF m 211 #[.val (.int x0), .val (.int x1), .val (.long x2), .second, .val (.long x3), .second, .val (.long x4), .second, .val (.long x5), .second, .val (.int W), .val (.int ii), .val (.int lo), .val (.int hi), .val (.int far), .val (.long (lowV W)), .second, .val (.ref b2), .val (.int (1 : Int32)), .val (.int (1 : Int32)), .val (.int (1 : Int32)), .val (.int (1 : Int32))] [(.int (1 : Int32))])) (fun t k => XS.iload X14.here hx rfl (hb hby at_209) rfl k) ?_
  have hc211 : ¬ ((1 : Int32) = (0 : Int32)) := by decide
  refine Go.of (T' := T14) (f' := (mkF m 214 #[.val (.int x0), .val (.int x1), .val (.long x2), .second, .val (.long x3), .second, .val (.long x4), .second, .val (.long x5), .second, .val (.int W), .val (.int ii), .val (.int lo), .val (.int hi), .val (.int far), .val (.long (lowV W)), .second, .val (.ref b2), .val (.int (1 : Int32)), .val (.int (1 : Int32)), .val (.int (1 : Int32)), .val (.int (1 : Int32))] [])) (fun t k => XS.ifNo X14.here hx rfl (hb hby at_211) rfl ((if0 _ _).trans (feq hc211).1) k) ?_
  refine Go.of (T' := T14) (f' := (mkF m 215 #[.val (.int x0), .val (.int x1), .val (.long x2), .second, .val (.long x3), .second, .val (.long x4), .second, .val (.long x5), .second, .val (.int W), .val (.int ii), .val (.int lo), .val (.int hi), .val (.int far), .val (.long (lowV W)), .second, .val (.ref b2), .val (.int (1 : Int32)), .val (.int (1 : Int32)), .val (.int (1 : Int32)), .val (.int (1 : Int32))] [(.int (1 : Int32))])) (fun t k => XS.iconst X14.here hx rfl (hb hby at_214) k) ?_
  refine Go.of (T' := T14) (f' := (mkF m 219 #[.val (.int x0), .val (.int x1), .val (.long x2), .second, .val (.long x3), .second, .val (.long x4), .second, .val (.long x5), .second, .val (.int W), .val (.int ii), .val (.int lo), .val (.int hi), .val (.int far), .val (.long (lowV W)), .second, .val (.ref b2), .val (.int (1 : Int32)), .val (.int (1 : Int32)), .val (.int (1 : Int32)), .val (.int (1 : Int32))] [(.int (1 : Int32))])) (fun t k => XS.goto X14.here hx rfl (pc0 := 215) (pc' := 219) rfl (hb hby at_215) (by decide) (by decide) k) ?_
  refine Go.retZ X14 hx hk (t := .boolean) Bd.returns (by simp) (hb hby at_219) (by decide) (by decide) ?_
  rw [e14]
  exact ⟨rfl, N14⟩
set_option maxRecDepth 65536 in
set_option maxHeartbeats 40000000 in
theorem comes_1 {Post : Tables → Env → Array Value → State → Outcome → State → Prop} (hpost : ∀ tb e args s v u, (limb_1_1.after args s (.returned v) u = true ∧ limb_1_2.after args s (.returned v) u = true ∧ True) → FrameEnd s (.returned v) u (Jvm.fieldLocs frame_1_writes args s ++ Jvm.arrayLocs frame_1_arrays args s ++ Jvm.staticLocs frame_1_statics s) 16 256 → Post tb e args s (.returned v) u) :
    ArmFor flags0 classFile x code maxLocals ret World_1 tables_1 room_1 Calls_1 rest_1 Pre_1 Post := by
  intro l hfl _ _ p e ha hc hk s m args below hf hA hF happ hP
  obtain ⟨hcalls, hrest, hpre⟩ := hP
  obtain ⟨-, -, -, hnamed, -, -, -, hat⟩ := (Spec.applies_iff hf).mp happ
  obtain ⟨hg, hn⟩ := and_e (Cond.before_iff.mp (show (Jvm.Cond.and given_1 narrow_1).before args s = true from hpre))
  obtain ⟨g0, gr0⟩ := and_e hg
  obtain ⟨ga0, gr1⟩ := and_e gr0
  obtain ⟨ga1, gr2⟩ := and_e gr1
  obtain ⟨ga2, gr3⟩ := and_e gr2
  obtain ⟨ga3, gr4⟩ := and_e gr3
  obtain ⟨ga4, gr5⟩ := and_e gr4
  have ga5 := gr5
  obtain ⟨w0, w1, w2, w3, w4, w5, rfl⟩ : ∃ w0 w1 w2 w3 w4 w5 : Value, args = #[w0, w1, w2, w3, w4, w5] := by
    have hs : args.size = 6 := by simpa [Cond.value, given_1] using g0
    obtain ⟨L⟩ := args
    match L, hs with
    | [w0, w1, w2, w3, w4, w5], _ => exact ⟨w0, w1, w2, w3, w4, w5, rfl⟩
  have hw := fun d (hd : d ∈ tables_1) => atoms_spec (ws := Jvm.Cond.code x code maxLocals ret :: tables_1) hat d (List.mem_cons_of_mem _ hd)
  obtain ⟨i0, ei0⟩ := is_v ga0
  obtain rfl : w0 = (.int i0) := Option.some.inj ei0
  obtain ⟨i1, ei1⟩ := is_v ga1
  obtain rfl : w1 = (.int i1) := Option.some.inj ei1
  obtain ⟨i2, ei2⟩ := isL_v ga2
  obtain rfl : w2 = (.long i2) := Option.some.inj ei2
  obtain ⟨i3, ei3⟩ := isL_v ga3
  obtain rfl : w3 = (.long i3) := Option.some.inj ei3
  obtain ⟨i4, ei4⟩ := isL_v ga4
  obtain rfl : w4 = (.long i4) := Option.some.inj ei4
  obtain ⟨i5, ei5⟩ := isL_v ga5
  obtain rfl : w5 = (.long i5) := Option.some.inj ei5
  obtain ⟨n, o, h1, h2, h3, _, L, rfl, ⟨rfl, N⟩, hq⟩ := rm0 l s _ hw tables_1 i0 i1 i2 i3 i4 i5 s.heap s.heap.size (Nat.le_refl _)  p e ha hc hk s m _ below hf ((Spec.applies_iff_loose hf).mp happ).1 ⟨rfl, State.Warmed39.refl s, rfl⟩ trivial
  refine ⟨n, _, h1, h2, h3, hpost _ _ _ _ _ _ ⟨Cond.after_iff.mpr rfl, Cond.after_iff.mpr (eq_i res_at (Term.int_eval (1)) rfl), trivial⟩ ⟨hq.1, hq.2.1, (hq.2.2.sift fun y hy => Or.inr (N y hy)).mono (by decide) (by decide)⟩⟩
theorem main_1_1 : Claimed_1_1 := comes_1 fun _ _ _ _ _ _ h hF => ⟨h.1, hF⟩
theorem main_1_2 : Claimed_1_2 := comes_1 fun _ _ _ _ _ _ h hF => ⟨h.2.1, hF⟩
end Jvm.Pilot.@@N@@
namespace Jvm.Pilot.@@N@@
open Jvm Jvm.ClassFile Sem Op Lib Jvm.Free Jvm.Stand Jvm.Pilot.@@N@@.Jvm.D
/-! MADE BY PROGRAM (witnessworld.py) out of the Statement's table words and the real class files: 11 classes; the members and pool entries that the words name. The judged class is class 1, her method 2. -/
namespace start1
open Jvm.ClassFile
def u (s : String) : CpInfo := .utf8 (stringToUtf16 s)
/-- a pool by its gaps: so many unusable entries, then the entry; so many at the end -/
def gap : Nat → List CpInfo → List CpInfo
  | 0, r => r
  | n + 1, r => .unusable :: gap n r
def poolList (es : List (Nat × CpInfo)) (last : Nat) : List CpInfo := es.foldr (fun e r => gap e.1 (e.2 :: r)) (gap last [])
def pool (es : List (Nat × CpInfo)) (last : Nat) : Array CpInfo := ⟨poolList es last⟩
def fileOf (pool : Array CpInfo) (this : Nat) (attrs : Array Attribute := #[]) (ms : Array MethodInfo := #[]) (fl : Nat := 33) (sup : Nat := 0) (ifs : Array Nat := #[]) (fds : Array FieldInfo := #[]) : ClassFile where
  minorVersion := 0
  majorVersion := 65
  constantPool := pool
  accessFlags := fl
  thisClass := this
  superClass := sup
  interfaces := ifs
  fields := fds
  methods := ms
  attributes := attrs
def plain (name : String) (sup : Option ClassId) : Class where
  name := name
  kind := .ordinary
  loader := none
  accessFlags := 33
  super := sup
  interfaces := #[]
  cf := none
  fields := #[]
  methods := #[]
  instanceTypes := #[]
  staticTypes := #[]
  resolved := #[]
  callSites := []
  init := .initialized
  statics := none
  mirror := none

def pool0 : Array CpInfo := pool [(5, u "<init>"), (0, u "()V"), (1, .class_ 10), (1, u "java/lang/Object")] 113

def k0c0 : Code := { maxStack := 0, maxLocals := 1, code := object_method_1_code, exceptionTable := #[], attributes := #[] }
def k0m0 : Method := { name := "<init>", desc := "()V", sig := { parameters := [], returnType := none }, accessFlags := 1, code := some k0c0 }
/-- java/lang/Object -/
def k0 : Class := { plain "java/lang/Object" none with
  accessFlags := 33
  interfaces := #[]
  cf := some (fileOf pool0 8 #[] #[{ accessFlags := 1, nameIndex := 5, descriptorIndex := 6, attributes := #[] }] 33 0 #[] #[])
  fields := #[]
  methods := #[k0m0]
  instanceTypes := #[]
  staticTypes := #[]
  resolved := Array.replicate 124 none
  statics := none }

def pool1 : Array CpInfo := pool [(2, .class_ 4), (1, u "java/lang/Object"), (0, u "<init>"), (0, u "()V"), (0, .long 18446744073709551615), (1, .methodref 10 11), (0, .class_ 12), (0, .nameAndType 13 14), (0, u "com/example/bloom_filter_variants/bloomfiltervariants/PackedArraySetPinLaw"), (0, u "lowBits"), (0, u "(I)J"), (0, .class_ 16), (0, u "com/example/bloom_filter_variants/bloomfiltervariants/PackedArray"), (0, .long 64), (1, .methodref 15 20), (0, .nameAndType 5 21), (0, u "(JI)V"), (0, .methodref 15 23), (0, .nameAndType 24 25), (0, u "set"), (0, u "(JJ)V"), (0, .methodref 15 27), (0, .nameAndType 28 29), (0, u "get"), (0, u "(J)J"), (3, u "law"), (0, u "(IIJJJJ)Z")] 2

def k1m0 : Method := { name := "<init>", desc := "()V", sig := { parameters := [], returnType := none }, accessFlags := 2, code := none }
def k1c1 : Code := { maxStack := 4, maxLocals := 1, code := method_2_code, exceptionTable := #[], attributes := #[] }
def k1m1 : Method := { name := "lowBits", desc := "(I)J", sig := { parameters := [.int], returnType := some .long }, accessFlags := 10, code := some k1c1 }
def k1c2 : Code := { maxStack := 6, maxLocals := 22, code := code, exceptionTable := #[], attributes := #[] }
def k1m2 : Method := { name := "law", desc := "(IIJJJJ)Z", sig := { parameters := [.int, .int, .long, .long, .long, .long], returnType := some .boolean }, accessFlags := 9, code := some k1c2 }
/-- com/example/bloom_filter_variants/bloomfiltervariants/PackedArraySetPinLaw -/
def k1 : Class := { plain "com/example/bloom_filter_variants/bloomfiltervariants/PackedArraySetPinLaw" (some 0) with
  accessFlags := 49
  interfaces := #[]
  cf := some (fileOf pool1 10 #[] #[{ accessFlags := 2, nameIndex := 5, descriptorIndex := 6, attributes := #[] }, { accessFlags := 10, nameIndex := 13, descriptorIndex := 14, attributes := #[] }, { accessFlags := 9, nameIndex := 33, descriptorIndex := 34, attributes := #[] }] 49 2 #[] #[])
  fields := #[]
  methods := #[k1m0, k1m1, k1m2]
  instanceTypes := #[]
  staticTypes := #[]
  resolved := Array.replicate 37 none
  statics := none }

def pool2 : Array CpInfo := pool [(1, .methodref 2 3), (0, .class_ 4), (0, .nameAndType 5 6), (0, u "java/lang/Object"), (0, u "<init>"), (0, u "()V"), (0, .methodref 8 9), (0, .class_ 10), (0, .nameAndType 11 12), (0, u "com/example/bloom_filter_variants/bloomfiltervariants/PackedArray"), (0, u "maxLength"), (0, u "(I)J"), (9, .fieldref 8 23), (0, .nameAndType 24 25), (0, u "length"), (0, u "J"), (0, .fieldref 8 27), (0, .nameAndType 28 29), (0, u "width"), (0, u "I"), (0, .long 18446744073709551615), (3, .fieldref 8 35), (0, .nameAndType 36 25), (0, u "mask"), (0, .long 64), (1, .fieldref 8 40), (0, .nameAndType 41 42), (0, u "words"), (0, u "[J"), (13, .long 137438952896), (1, u "(JI)V"), (8, u "get"), (0, u "(J)J"), (0, u "set"), (0, u "(JJ)V")] 19

def k2c0 : Code := { maxStack := 7, maxLocals := 6, code := prog_23_method_1_code, exceptionTable := #[], attributes := #[] }
def k2m0 : Method := { name := "<init>", desc := "(JI)V", sig := { parameters := [.long, .int], returnType := none }, accessFlags := 1, code := some k2c0 }
def k2c1 : Code := { maxStack := 4, maxLocals := 1, code := prog_23_method_4_code, exceptionTable := #[], attributes := #[] }
def k2m1 : Method := { name := "maxLength", desc := "(I)J", sig := { parameters := [.int], returnType := some .long }, accessFlags := 9, code := some k2c1 }
def k2c2 : Code := { maxStack := 6, maxLocals := 9, code := prog_23_method_8_code, exceptionTable := #[], attributes := #[] }
def k2m2 : Method := { name := "get", desc := "(J)J", sig := { parameters := [.long], returnType := some .long }, accessFlags := 1, code := some k2c2 }
def k2c3 : Code := { maxStack := 8, maxLocals := 12, code := prog_23_method_9_code, exceptionTable := #[], attributes := #[] }
def k2m3 : Method := { name := "set", desc := "(JJ)V", sig := { parameters := [.long, .long], returnType := none }, accessFlags := 1, code := some k2c3 }
/-- com/example/bloom_filter_variants/bloomfiltervariants/PackedArray -/
def k2 : Class := { plain "com/example/bloom_filter_variants/bloomfiltervariants/PackedArray" (some 0) with
  accessFlags := 49
  interfaces := #[]
  cf := some (fileOf pool2 8 #[] #[{ accessFlags := 1, nameIndex := 5, descriptorIndex := 58, attributes := #[] }, { accessFlags := 9, nameIndex := 11, descriptorIndex := 12, attributes := #[] }, { accessFlags := 1, nameIndex := 67, descriptorIndex := 68, attributes := #[] }, { accessFlags := 1, nameIndex := 69, descriptorIndex := 70, attributes := #[] }] 49 2 #[] #[{ accessFlags := 18, nameIndex := 24, descriptorIndex := 25, attributes := #[] }, { accessFlags := 18, nameIndex := 28, descriptorIndex := 29, attributes := #[] }, { accessFlags := 18, nameIndex := 36, descriptorIndex := 25, attributes := #[] }, { accessFlags := 18, nameIndex := 41, descriptorIndex := 42, attributes := #[] }])
  fields := #[{ name := "length", type := .long, accessFlags := 18, slot := 0, constantValue := 0 }, { name := "width", type := .int, accessFlags := 18, slot := 1, constantValue := 0 }, { name := "mask", type := .long, accessFlags := 18, slot := 2, constantValue := 0 }, { name := "words", type := (.array .long), accessFlags := 18, slot := 3, constantValue := 0 }]
  methods := #[k2m0, k2m1, k2m2, k2m3]
  instanceTypes := #[.long, .int, .long, (.array .long)]
  staticTypes := #[]
  resolved := Array.replicate 90 none
  statics := none }

def pool3 : Array CpInfo := pool [(1, u "java/lang/Cloneable"), (0, .class_ 1), (0, u "java/lang/Object"), (0, .class_ 3)] 3

/-- java/lang/Cloneable -/
def k3 : Class := { plain "java/lang/Cloneable" (some 0) with
  accessFlags := 1537
  interfaces := #[]
  cf := some (fileOf pool3 2 #[] #[] 1537 4 #[] #[])
  fields := #[]
  methods := #[]
  instanceTypes := #[]
  staticTypes := #[]
  resolved := Array.replicate 8 none
  statics := none }

def pool4 : Array CpInfo := pool [(1, u "java/io/Serializable"), (0, .class_ 1), (0, u "java/lang/Object"), (0, .class_ 3)] 3

/-- java/io/Serializable -/
def k4 : Class := { plain "java/io/Serializable" (some 0) with
  accessFlags := 1537
  interfaces := #[]
  cf := some (fileOf pool4 2 #[] #[] 1537 4 #[] #[])
  fields := #[]
  methods := #[]
  instanceTypes := #[]
  staticTypes := #[]
  resolved := Array.replicate 8 none
  statics := none }

/-- the primitive byte -/
def k5 : Class := { plain "byte" none with kind := .primitive 'B', accessFlags := 0x411 }
/-- [B -/
def k6 : Class := { plain "[B" (some 0) with kind := .array 5 .byte, interfaces := #[3, 4], accessFlags := 1041 }

/-- the primitive int -/
def k7 : Class := { plain "int" none with kind := .primitive 'I', accessFlags := 0x411 }
/-- [I -/
def k8 : Class := { plain "[I" (some 0) with kind := .array 7 .int, interfaces := #[3, 4], accessFlags := 1041 }

/-- the primitive long -/
def k9 : Class := { plain "long" none with kind := .primitive 'J', accessFlags := 0x411 }
/-- [J -/
def k10 : Class := { plain "[J" (some 0) with kind := .array 9 .long, interfaces := #[3, 4], accessFlags := 1041 }

def heap : Heap := #[]
def classes : Array Class := #[k0, k1, k2, k3, k4, k5, k6, k7, k8, k9, k10]
def interned : List (Array UInt16 × Addr) := []
def slotsUsed : Nat := 0
def theMethod : MethodId := ⟨1, 2⟩
def args0 : Array Value := #[.int 5, .int 6, .long 7, .long 8, .long 3, .long 2]
def aboutOver (below : List Frame) : State where
  vm := { classes := classes, interned := interned.toArray }
  heap := heap
  slotsUsed := slotsUsed
  threads := #[{ frames := .invoking theMethod args0 :: below }]
def below0 : List Frame := [.native { method := ⟨0, 0⟩, args := #[] }]
def about1 : State := aboutOver below0
def p0 : Program := .bare "" "" ""
def e0 : Env := launch0.env 0 0 0
theorem w_frames : about1.frames = Frame.invoking theMethod args0 :: below0 := rfl
set_option maxRecDepth 65536 in
theorem w_args : argsFit about1.vm theMethod args0 = true := by decide +kernel
set_option maxRecDepth 65536 in
theorem w_heap : heapFits about1 = true := by decide +kernel
set_option maxRecDepth 65536 in
theorem w_runnable : about1.curStatus? = some .runnable := by decide +kernel
set_option maxRecDepth 65536 in
theorem w_alone : about1.alone = true := by decide +kernel
set_option maxRecDepth 65536 in
theorem w_named : about1.methodNamed? x = some theMethod := by decide +kernel
set_option maxRecDepth 65536 in
theorem w_hears : about1.hears theMethod below0 = true := by decide +kernel
set_option maxRecDepth 65536 in
theorem w_ripe : about1.ripe theMethod args0 below0 = true := by decide +kernel
theorem w_running : about1.status = .running := rfl
set_option maxRecDepth 65536 in
theorem w_room : about1.hasRoom e0.platform room_1 = true :=
  launch0.hasRoom_least _ room_1 (by decide +kernel) (by decide +kernel) (by decide +kernel) (by decide +kernel) (by decide +kernel) (by decide +kernel)
theorem allAtoms_all (ts : List Jvm.Cond) (a : Array Jvm.Value) (st : Jvm.State) : (allAtoms ts).before a st = ts.all (fun c => c.before a st) := by
  induction ts with
  | nil => rfl
  | cons c t ih =>
    show (Jvm.Cond.and c (allAtoms t)).before a st = _
    rw [Jvm.Cond.before_and, ih, List.all_cons]
def words1 : List Jvm.Cond := Jvm.Cond.code x code maxLocals ret :: tables_1
/-- a 'code' word, met by the world's own term for the bytes: nothing is compared byte by byte -/
theorem code_word {y : MethodName} {bytes : ByteArray} {mx : Nat} {rt : Option FieldType} {a : Array Value} {s : State} {m : MethodId} {meth : Method} {c : Code} (h1 : s.methodNamed? y = some m) (h2 : s.vm.method? m = some meth) (h3 : meth.code = some c) (h4 : c.code = bytes)
    (h5 : (c.maxLocals == mx && c.exceptionTable.isEmpty && decide (c.maxStack ≤ mostOperands) && decide (meth.sig.returnType = rt) && !meth.locks && decide (parseMethodDescriptor y.desc = some meth.sig)) = true) : (Jvm.Cond.code y bytes mx rt).before a s = true := by
  simp only [Bool.and_eq_true, beq_iff_eq, Bool.not_eq_true', decide_eq_true_eq] at h5
  obtain ⟨⟨⟨⟨⟨g1, g2⟩, g3⟩, g4⟩, g5⟩, g6⟩ := h5
  simp [Cond.before, Cond.holds, Cond.value, h1, h2, h3, h4, g1, g2, g3, g4, g5, g6]
def isCode : Jvm.Cond → Bool
  | .code _ _ _ _ => true
  | _ => false
theorem all_split {L : List Jvm.Cond} {P : Jvm.Cond → Bool} (h1 : L.all (fun c => isCode c || P c) = true) (h2 : ∀ c ∈ L.filter isCode, P c = true) : L.all P = true := by
  refine List.all_eq_true.mpr fun c hc => ?_
  have h := List.all_eq_true.mp h1 c hc
  rcases Bool.eq_false_or_eq_true (isCode c) with hi | hi
  · exact h2 c (List.mem_filter.mpr ⟨hc, hi⟩)
  · simpa [hi] using h
set_option maxRecDepth 65536 in
theorem w_c0 : (Jvm.Cond.code x code maxLocals ret).before args0 about1 = true := code_word (m := ⟨1, 2⟩) (meth := k1m2) (c := k1c2) (by decide +kernel) rfl rfl rfl (by decide +kernel)
set_option maxRecDepth 65536 in
theorem w_c1 : (Jvm.Cond.code ({ cls := "com/example/bloom_filter_variants/bloomfiltervariants/PackedArraySetPinLaw", name := "lowBits", desc := "(I)J" } : Jvm.MethodName) method_2_code (1 : Nat) (Option.some Jvm.ClassFile.FieldType.long)).before args0 about1 = true := code_word (m := ⟨1, 1⟩) (meth := k1m1) (c := k1c1) (by decide +kernel) rfl rfl rfl (by decide +kernel)
set_option maxRecDepth 65536 in
theorem w_c2 : (Jvm.Cond.code ({ cls := "com/example/bloom_filter_variants/bloomfiltervariants/PackedArray", name := "<init>", desc := "(JI)V" } : Jvm.MethodName) prog_23_method_1_code (6 : Nat) (Option.none : Option Jvm.ClassFile.FieldType)).before args0 about1 = true := code_word (m := ⟨2, 0⟩) (meth := k2m0) (c := k2c0) (by decide +kernel) rfl rfl rfl (by decide +kernel)
set_option maxRecDepth 65536 in
theorem w_c3 : (Jvm.Cond.code ({ cls := "java/lang/Object", name := "<init>", desc := "()V" } : Jvm.MethodName) object_method_1_code (1 : Nat) (Option.none : Option Jvm.ClassFile.FieldType)).before args0 about1 = true := code_word (m := ⟨0, 0⟩) (meth := k0m0) (c := k0c0) (by decide +kernel) rfl rfl rfl (by decide +kernel)
set_option maxRecDepth 65536 in
theorem w_c4 : (Jvm.Cond.code ({ cls := "com/example/bloom_filter_variants/bloomfiltervariants/PackedArray", name := "maxLength", desc := "(I)J" } : Jvm.MethodName) prog_23_method_4_code (1 : Nat) (Option.some Jvm.ClassFile.FieldType.long)).before args0 about1 = true := code_word (m := ⟨2, 1⟩) (meth := k2m1) (c := k2c1) (by decide +kernel) rfl rfl rfl (by decide +kernel)
set_option maxRecDepth 65536 in
theorem w_c5 : (Jvm.Cond.code ({ cls := "com/example/bloom_filter_variants/bloomfiltervariants/PackedArray", name := "set", desc := "(JJ)V" } : Jvm.MethodName) prog_23_method_9_code (12 : Nat) (Option.none : Option Jvm.ClassFile.FieldType)).before args0 about1 = true := code_word (m := ⟨2, 3⟩) (meth := k2m3) (c := k2c3) (by decide +kernel) rfl rfl rfl (by decide +kernel)
set_option maxRecDepth 65536 in
theorem w_c6 : (Jvm.Cond.code ({ cls := "com/example/bloom_filter_variants/bloomfiltervariants/PackedArray", name := "get", desc := "(J)J" } : Jvm.MethodName) prog_23_method_8_code (9 : Nat) (Option.some Jvm.ClassFile.FieldType.long)).before args0 about1 = true := code_word (m := ⟨2, 2⟩) (meth := k2m2) (c := k2c2) (by decide +kernel) rfl rfl rfl (by decide +kernel)
def codes1 : List Jvm.Cond := [Jvm.Cond.code x code maxLocals ret, Jvm.Cond.code ({ cls := "com/example/bloom_filter_variants/bloomfiltervariants/PackedArraySetPinLaw", name := "lowBits", desc := "(I)J" } : Jvm.MethodName) method_2_code (1 : Nat) (Option.some Jvm.ClassFile.FieldType.long), Jvm.Cond.code ({ cls := "com/example/bloom_filter_variants/bloomfiltervariants/PackedArray", name := "<init>", desc := "(JI)V" } : Jvm.MethodName) prog_23_method_1_code (6 : Nat) (Option.none : Option Jvm.ClassFile.FieldType), Jvm.Cond.code ({ cls := "java/lang/Object", name := "<init>", desc := "()V" } : Jvm.MethodName) object_method_1_code (1 : Nat) (Option.none : Option Jvm.ClassFile.FieldType), Jvm.Cond.code ({ cls := "com/example/bloom_filter_variants/bloomfiltervariants/PackedArray", name := "maxLength", desc := "(I)J" } : Jvm.MethodName) prog_23_method_4_code (1 : Nat) (Option.some Jvm.ClassFile.FieldType.long), Jvm.Cond.code ({ cls := "com/example/bloom_filter_variants/bloomfiltervariants/PackedArray", name := "set", desc := "(JJ)V" } : Jvm.MethodName) prog_23_method_9_code (12 : Nat) (Option.none : Option Jvm.ClassFile.FieldType), Jvm.Cond.code ({ cls := "com/example/bloom_filter_variants/bloomfiltervariants/PackedArray", name := "get", desc := "(J)J" } : Jvm.MethodName) prog_23_method_8_code (9 : Nat) (Option.some Jvm.ClassFile.FieldType.long)]
set_option maxRecDepth 65536 in
theorem codes_eq : words1.filter isCode = codes1 := rfl
theorem w_codes : ∀ c ∈ words1.filter isCode, c.before args0 about1 = true := by
  rw [codes_eq]
  intro c hc
  simp only [codes1, List.mem_cons, List.not_mem_nil, or_false] at hc
  rcases hc with rfl | rfl | rfl | rfl | rfl | rfl | rfl
  · exact w_c0
  · exact w_c1
  · exact w_c2
  · exact w_c3
  · exact w_c4
  · exact w_c5
  · exact w_c6
set_option maxRecDepth 65536 in
theorem w_t1 : (words1.take 24).all (fun c => isCode c || c.before args0 about1) = true := by decide +kernel
set_option maxRecDepth 65536 in
theorem w_t2 : (words1.drop 24).all (fun c => isCode c || c.before args0 about1) = true := by decide +kernel
theorem w_tables : (allAtoms (Jvm.Cond.code x code maxLocals ret :: tables_1)).before args0 about1 = true := by
  rw [allAtoms_all]
  show words1.all (fun c => c.before args0 about1) = true
  refine all_split ?_ w_codes
  rw [← List.take_append_drop 24 words1, List.all_append, w_t1, w_t2]
  rfl
set_option maxRecDepth 65536 in
theorem w_case : (Jvm.Cond.and given_1 narrow_1).before args0 about1 = true := by decide +kernel
theorem w_applies : (headSpec (Jvm.Cond.code x code maxLocals ret :: tables_1) room_1).applies x e0.platform about1 = true :=
  (Spec.applies_iff w_frames).mpr ⟨w_running, w_runnable, w_alone, w_named, w_hears, w_ripe, w_room, w_tables⟩
theorem atStart : AtStart classFile x code maxLocals ret World_1 tables_1 room_1 Calls_1 rest_1 Pre_1 launch0 p0 e0 about1 theMethod args0 below0 :=
  ⟨lists_1, trivial, launch0.admits_env _ _ _, launch0.least_env, fairChoices_fair.cas, fairChoices_fair.clock, w_frames, w_args, w_heap, w_applies, trivial, trivial, w_case⟩
end start1
theorem witness_1 : WitnessClaimed_1 := ⟨start1.p0, start1.e0, start1.about1, start1.theMethod, start1.args0, start1.below0, start1.atStart⟩
end Jvm.Pilot.@@N@@
