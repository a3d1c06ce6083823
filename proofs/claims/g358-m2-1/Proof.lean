import JvmDerived
import JvmDerived.Pilot.@@N@@Statement
import JvmDerived.Pilot.@@N@@Code
set_option linter.unusedVariables false
set_option linter.unusedSimpArgs false
namespace Jvm.RoadKit
open Sem ClassFile Op Lib Jvm.Stand Jvm.Free Jvm.LawKit
section OwnGo
variable {p : Program} {l : Launch} {e : Env} {R : Room} {s : State} {m : MethodId} {args : Array Value} {below : List Frame} {meth : Method} {c : Code} {T T' : State} {locs : List Loc} {cells slots : Nat} {Z : State} {a0 : Array Value} {h h' : Heap}
/-- the walk comes to an end from here, and leaves what Q says -/
def Go (p : Program) (e : Env) (below : List Frame) (s : State) (Q : Option Value → Heap → List Loc → Prop) (nc ns : Nat) (T : State) (f : JFrame) : Prop :=
  ∃ s₂ o, Steps p.tables e below (T.setTop f) s₂ ∧ s₂.status = .running ∧ Ended s₂ below o ∧ ∃ v L, o = .returned v ∧ Q v s₂.heap L ∧ FrameEnd s o s₂ L nc ns
variable {Q : Option Value → Heap → List Loc → Prop} {nc ns : Nat}
theorem Go.of {f f' : JFrame} (k : ∀ t, Steps p.tables e below (T'.setTop f') t → Steps p.tables e below (T.setTop f) t) (g : Go p e below s Q nc ns T' f') : Go p e below s Q nc ns T f := by
  obtain ⟨s₂, o, h1, h2⟩ := g
  exact ⟨s₂, o, k _ h1, h2⟩
theorem Go.tr {f f' : JFrame} (k : Steps p.tables e below (T.setTop f) (T'.setTop f')) (g : Go p e below s Q nc ns T' f') : Go p e below s Q nc ns T f := by
  obtain ⟨s₂, o, h1, h2⟩ := g
  exact ⟨s₂, o, k.trans h1, h2⟩
theorem Go.cast {f f' : JFrame} (q : f = f') (g : Go p e below s Q nc ns T f') : Go p e below s Q nc ns T f := q ▸ g
theorem retI (X : Stand p l e R s m args below meth c T locs cells slots) (hx : p.tables.exec = Jvm.exec) {pc : Nat} {Ls : Array Slot} {z : Int32} {rest : List Value} (hret : meth.sig.returnType = some .int) (hd : decode c.code pc = .ok (.ireturn, 1)) {fs : List Frame}
    (hl : ∀ (f : JFrame) (acts : List Action), f.method = m → f.locked = none → f.entered = [] → (doReturn e (T.setTop f) acts (some (.int z))).1 = T.setFrames fs) : Steps p.tables e below (T.setTop (mkF m pc Ls (.int z :: rest))) (T.setFrames fs) :=
  retOut X hx hret rfl (Or.inl ⟨rfl, Or.inl rfl, _, rfl⟩) hd hl
theorem Go.end0 (X : Stand p l e R s m args below meth c T locs cells slots) (hk : meth.locks = false) {v : Option Value} (hv : meth.sig.returnType = none → v = none) {f : JFrame}
    (k : ∀ fs, (∀ (f : JFrame) (acts : List Action), f.method = m → f.locked = none → f.entered = [] → (doReturn e (T.setTop f) acts v).1 = T.setFrames fs) → Steps p.tables e below (T.setTop f) (T.setFrames fs))
    (hc : cells ≤ nc) (hs : slots ≤ ns) (hq : Q v T.heap locs) : Go p e below s Q nc ns T f := by
  obtain ⟨fs, hr, hrun, hended, hW, hsame⟩ := X.leave (v := v) hv
  exact ⟨_, _, k fs hr, hrun, hended, _, _, rfl, hq, ⟨_, rfl⟩, hW, hsame.mono hc hs⟩
theorem Go.retZ (X : Stand p l e R s m args below meth c T locs cells slots) (hx : p.tables.exec = Jvm.exec) (hk : meth.locks = false) {t : FieldType} (hret : meth.sig.returnType = some t) (ht : t = .boolean ∨ t = .byte ∨ t = .char ∨ t = .short) {pc : Nat} (hd : decode c.code pc = .ok (.ireturn, 1)) {Ls : Array Slot} {z : Int32} {rest : List Value}
    (hc : cells ≤ nc) (hs : slots ≤ ns) (hq : Q (some (.int (nar t z))) T.heap locs) : Go p e below s Q nc ns T (mkF m pc Ls (.int z :: rest)) :=
  Go.end0 X hk (fun q => by rw [hret] at q; cases q) (fun _ hr => retN X hx hret ht hd hr) hc hs hq
theorem Go.retI (X : Stand p l e R s m args below meth c T locs cells slots) (hx : p.tables.exec = Jvm.exec) (hk : meth.locks = false) (hret : meth.sig.returnType = some .int) {pc : Nat} (hd : decode c.code pc = .ok (.ireturn, 1)) {Ls : Array Slot} {z : Int32} {rest : List Value}
    (hc : cells ≤ nc) (hs : slots ≤ ns) (hq : Q (some (.int z)) T.heap locs) : Go p e below s Q nc ns T (mkF m pc Ls (.int z :: rest)) :=
  Go.end0 X hk (fun q => by rw [hret] at q; cases q) (fun _ hr => Jvm.RoadKit.retI X hx hret hd hr) hc hs hq
theorem Go.retJ (X : Stand p l e R s m args below meth c T locs cells slots) (hx : p.tables.exec = Jvm.exec) (hk : meth.locks = false) (hret : meth.sig.returnType = some .long) {pc : Nat} (hd : decode c.code pc = .ok (.lreturn, 1)) {Ls : Array Slot} {z : Int64} {rest : List Value}
    (hc : cells ≤ nc) (hs : slots ≤ ns) (hq : Q (some (.long z)) T.heap locs) : Go p e below s Q nc ns T (mkF m pc Ls (.long z :: rest)) :=
  Go.end0 X hk (fun q => by rw [hret] at q; cases q) (fun _ hr => retOut X hx hret rfl (Or.inr (Or.inl ⟨rfl, rfl, _, rfl⟩)) hd hr) hc hs hq
theorem Go.retA (X : Stand p l e R s m args below meth c T locs cells slots) (hx : p.tables.exec = Jvm.exec) (hk : meth.locks = false) {t : FieldType} (hret : meth.sig.returnType = some t) (ht : t.isReference = true) {pc : Nat} (hd : decode c.code pc = .ok (.areturn, 1)) {Ls : Array Slot} {a : Addr} {rest : List Value}
    (hc : cells ≤ nc) (hs : slots ≤ ns) (hq : Q (some (.ref a)) T.heap locs) : Go p e below s Q nc ns T (mkF m pc Ls (.ref a :: rest)) :=
  Go.end0 X hk (fun q => by rw [hret] at q; cases q) (fun _ hr => retOut X hx hret (by cases t <;> first | rfl | cases ht) (Or.inr (Or.inr (Or.inr (Or.inr ⟨rfl, ht, rfl⟩)))) hd hr) hc hs hq
theorem Go.retV (X : Stand p l e R s m args below meth c T locs cells slots) (hx : p.tables.exec = Jvm.exec) (hk : meth.locks = false) (hret : meth.sig.returnType = none) {pc : Nat} (hd : decode c.code pc = .ok (.return_, 1)) {Ls : Array Slot}
    (hc : cells ≤ nc) (hs : slots ≤ ns) (hq : Q none T.heap locs) : Go p e below s Q nc ns T (mkF m pc Ls []) :=
  Go.end0 X hk (fun _ => rfl) (fun _ hr => X.returnOut hx hret hd hr) hc hs hq
theorem lc_lt_t {x y : Int64} (q : x < y) : ifCond.holds .lt (lcmpW x y) = true := by rw [if0, lcW]; exact (tlt ((lc_lt x y).mpr q)).1
theorem lc_lt_f {x y : Int64} (q : ¬ x < y) : ifCond.holds .lt (lcmpW x y) = false := by rw [if0, lcW]; exact (flt (fun z => q ((lc_lt x y).mp z))).1
theorem lc_ge_f {x y : Int64} (q : x < y) : ifCond.holds .ge (lcmpW x y) = false := by rw [if0, lcW]; exact (tlt ((lc_lt x y).mpr q)).2.1
theorem lc_ge_t {x y : Int64} (q : ¬ x < y) : ifCond.holds .ge (lcmpW x y) = true := by rw [if0, lcW]; exact (flt (fun z => q ((lc_lt x y).mp z))).2.1
theorem lc_gt_t {x y : Int64} (q : y < x) : ifCond.holds .gt (lcmpW x y) = true := by rw [if0, lcW]; exact (tlt ((lc_gt x y).mpr q)).2.2.1
theorem lc_gt_f {x y : Int64} (q : ¬ y < x) : ifCond.holds .gt (lcmpW x y) = false := by rw [if0, lcW]; exact (flt (fun z => q ((lc_gt x y).mp z))).2.2.1
theorem lc_le_f {x y : Int64} (q : y < x) : ifCond.holds .le (lcmpW x y) = false := by rw [if0, lcW]; exact (tlt ((lc_gt x y).mpr q)).2.2.2
theorem lc_le_t {x y : Int64} (q : ¬ y < x) : ifCond.holds .le (lcmpW x y) = true := by rw [if0, lcW]; exact (flt (fun z => q ((lc_gt x y).mp z))).2.2.2
theorem lc_eq_t {x y : Int64} (q : x = y) : ifCond.holds .eq (lcmpW x y) = true := by rw [if0, lcW]; exact (teq ((lc_eq x y).mpr q)).1
theorem lc_eq_f {x y : Int64} (q : ¬ x = y) : ifCond.holds .eq (lcmpW x y) = false := by rw [if0, lcW]; exact (feq (fun z => q ((lc_eq x y).mp z))).1
theorem lc_ne_f {x y : Int64} (q : x = y) : ifCond.holds .ne (lcmpW x y) = false := by rw [if0, lcW]; exact (teq ((lc_eq x y).mpr q)).2
theorem lc_ne_t {x y : Int64} (q : ¬ x = y) : ifCond.holds .ne (lcmpW x y) = true := by rw [if0, lcW]; exact (feq (fun z => q ((lc_eq x y).mp z))).2
/-- an array of this kind that holds just these values -/
def VArr (Z : State) (h : Heap) (a : Addr) (ty : FieldType) (vs : List Value) : Prop := ∃ cl : Cell, Arr Z h a cl ty ∧ cl.slots = vs.toArray
variable {a b : Addr} {ty : FieldType} {vs : List Value} {sl : Nat} {v : Value} {ws : List Addr} {n : Int32}
theorem VArr.lt (F : VArr Z h a ty vs) : a < h.size := by obtain ⟨c, A, -⟩ := F; exact A.lt
theorem VArr.ext (F : VArr Z h a ty vs) (E : Ext h h') : VArr Z h' a ty vs := by obtain ⟨c, A, r⟩ := F; exact ⟨c, A.ext E, r⟩
theorem VArr.other (F : VArr Z h b ty vs) (W : Wr h h' a sl v) (q : b ≠ a) : VArr Z h' b ty vs := by obtain ⟨c, A, r⟩ := F; exact ⟨c, A.other W q, r⟩
theorem VArr.keep (F : VArr Z h a ty vs) (K : Keep h h' ws) (q : a ∉ ws) : VArr Z h' a ty vs := by obtain ⟨c, A, r⟩ := F; exact ⟨c, ⟨K.2.1 a c A.1 q, A.2⟩, r⟩
theorem VArr.new {k : ClassId} (A : Arr Z h a (newA k ty n) ty) : VArr Z h a ty (List.replicate n.toNatClampNeg (defaultValue ty)) := ⟨_, A, by simp [newA]⟩
theorem VArr.newL {k : ClassId} {i : Nat} (A : Arr Z h a (newA k ty n) ty) (hn : n.toNatClampNeg = i) : VArr Z h a ty (List.replicate i (defaultValue ty)) := hn ▸ VArr.new A
theorem VArr.wr (F : VArr Z h a ty vs) (W : Wr h h' a sl v) : VArr Z h' a ty (vs.set sl v) := by
  obtain ⟨c, A, r⟩ := F
  refine ⟨_, A.same W, ?_⟩
  show c.slots.setIfInBounds sl v = _
  rw [r]; simp
theorem VArr.inb {cl : Cell} {j : Int32} (r : cl.slots = vs.toArray) (hj : ¬ j < 0) (hi : j.toNatClampNeg < vs.length) : ¬ (j < 0 ∨ cl.slots.size ≤ j.toNatClampNeg) := by
  rw [r]; simp only [List.size_toArray]; rintro (q | q)
  · exact hj q
  · omega
theorem VArr.at {cl : Cell} {j : Int32} (r : cl.slots = vs.toArray) (hv : vs[j.toNatClampNeg]? = some v) : cl.slots[j.toNatClampNeg]? = some v := by rw [r]; simpa using hv
theorem lt_of_at {j : Nat} (hv : vs[j]? = some v) : j < vs.length := (List.getElem?_eq_some_iff.mp hv).1
theorem ldJ (X : Stand p l e R s m args below meth c T locs cells slots) (hx : p.tables.exec = Jvm.exec) (hZ : Z.Warmed39 s.vm) (eT : T.heap = h) (F : VArr Z h a .long vs) {j : Int32} {i : Nat} (hj : ¬ j < 0) (hji : j.toNatClampNeg = i) (hv : vs[i]? = some v)
    {g : JFrame} (hg : g.method = m) {rest : List Value} (hs : g.stack = .int j :: .ref a :: rest) (hd : decode c.code g.pc = .ok (.laload, 1)) (target : State)
    (hr : Steps p.tables e below (T.setTop { g with pc := g.pc + 1, stack := v :: rest }) target) : Steps p.tables e below (T.setTop g) target := by
  subst hji
  obtain ⟨cl, A, r⟩ := F
  exact X.laload hx (by rw [eT]; exact A.1) (State.isArrayOf_alike hZ.alike A.2.1) A.2.2 (VArr.inb r hj (lt_of_at hv)) (VArr.at r hv) hg hs hd target hr
theorem ldC (X : Stand p l e R s m args below meth c T locs cells slots) (hx : p.tables.exec = Jvm.exec) (hZ : Z.Warmed39 s.vm) (eT : T.heap = h) (F : VArr Z h a .char vs) {j : Int32} {i : Nat} (hj : ¬ j < 0) (hji : j.toNatClampNeg = i) (hv : vs[i]? = some v)
    {g : JFrame} (hg : g.method = m) {rest : List Value} (hs : g.stack = .int j :: .ref a :: rest) (hd : decode c.code g.pc = .ok (.caload, 1)) (target : State)
    (hr : Steps p.tables e below (T.setTop { g with pc := g.pc + 1, stack := v :: rest }) target) : Steps p.tables e below (T.setTop g) target := by
  subst hji
  obtain ⟨cl, A, r⟩ := F
  exact X.caload hx (by rw [eT]; exact A.1) (State.isArrayOf_alike hZ.alike A.2.1) A.2.2 (VArr.inb r hj (lt_of_at hv)) (VArr.at r hv) hg hs hd target hr
theorem ldB (X : Stand p l e R s m args below meth c T locs cells slots) (hx : p.tables.exec = Jvm.exec) (hZ : Z.Warmed39 s.vm) (eT : T.heap = h) (F : VArr Z h a .byte vs) {j : Int32} {i : Nat} (hj : ¬ j < 0) (hji : j.toNatClampNeg = i) (hv : vs[i]? = some v)
    {g : JFrame} (hg : g.method = m) {rest : List Value} (hs : g.stack = .int j :: .ref a :: rest) (hd : decode c.code g.pc = .ok (.baload, 1)) (target : State)
    (hr : Steps p.tables e below (T.setTop { g with pc := g.pc + 1, stack := v :: rest }) target) : Steps p.tables e below (T.setTop g) target := by
  subst hji
  obtain ⟨cl, A, r⟩ := F
  exact X.baloadBytes hx (by rw [eT]; exact A.1) (State.isArrayOf_alike hZ.alike A.2.1) A.2.2 (VArr.inb r hj (lt_of_at hv)) (VArr.at r hv) hg hs hd target hr
theorem lenV (X : Stand p l e R s m args below meth c T locs cells slots) (hx : p.tables.exec = Jvm.exec) (hZ : Z.Warmed39 s.vm) (eT : T.heap = h) (F : VArr Z h a ty vs) (hn : vs.length.toInt32 = n)
    {g : JFrame} (hg : g.method = m) {rest : List Value} (hs : g.stack = .ref a :: rest) (hd : decode c.code g.pc = .ok (.arraylength, 1)) (target : State)
    (hr : Steps p.tables e below (T.setTop { g with pc := g.pc + 1, stack := .int n :: rest }) target) : Steps p.tables e below (T.setTop g) target := by
  obtain ⟨cl, A, r⟩ := F
  refine X.arraylength hx (by rw [eT]; exact A.1) (State.isArrayOf_alike hZ.alike A.2.1) hg hs hd target ?_
  have q : cl.slots.size.toInt32 = n := by rw [r, ← hn]; simp
  rw [q]; exact hr
theorem saJ (X : Stand p l e R s m args below meth c T locs cells slots) (hx : p.tables.exec = Jvm.exec) (hZ : Z.Warmed39 s.vm) (eT : T.heap = h) (F : VArr Z h a .long vs) {j : Int32} {x : Int64} {i : Nat} (hj : ¬ j < 0) (hji : j.toNatClampNeg = i) (hi : i < vs.length)
    {g : JFrame} (hg : g.method = m) {rest : List Value} (hs : g.stack = .long x :: .int j :: .ref a :: rest) (hd : decode c.code g.pc = .ok (.lastore, 1)) :
    ∃ T' h', Stand p l e R s m args below meth c T' (locs ++ [⟨a, j.toNatClampNeg⟩]) cells slots ∧ T'.heap = h' ∧ Wr h h' a j.toNatClampNeg (.long x) ∧ VArr Z h' a .long (vs.set i (.long x)) ∧ ∀ target, Steps p.tables e below (T'.setTop { g with pc := g.pc + 1, stack := rest }) target → Steps p.tables e below (T.setTop g) target := by
  subst hji
  obtain ⟨cl, A, r⟩ := F
  obtain ⟨T', h', X', e', W, st⟩ := stJ X hx hZ eT A (x := x) (VArr.inb r hj hi) hg hs hd
  exact ⟨T', h', X', e', W, VArr.wr ⟨cl, A, r⟩ W, st⟩
theorem saC (X : Stand p l e R s m args below meth c T locs cells slots) (hx : p.tables.exec = Jvm.exec) (hZ : Z.Warmed39 s.vm) (eT : T.heap = h) (F : VArr Z h a .char vs) {j : Int32} {x : Int32} {i : Nat} (hj : ¬ j < 0) (hji : j.toNatClampNeg = i) (hi : i < vs.length)
    {g : JFrame} (hg : g.method = m) {rest : List Value} (hs : g.stack = .int x :: .int j :: .ref a :: rest) (hd : decode c.code g.pc = .ok (.castore, 1)) :
    ∃ T' h', Stand p l e R s m args below meth c T' (locs ++ [⟨a, j.toNatClampNeg⟩]) cells slots ∧ T'.heap = h' ∧ Wr h h' a j.toNatClampNeg (.int (nar .char x)) ∧ VArr Z h' a .char (vs.set i (.int (nar .char x))) ∧ ∀ target, Steps p.tables e below (T'.setTop { g with pc := g.pc + 1, stack := rest }) target → Steps p.tables e below (T.setTop g) target := by
  subst hji
  obtain ⟨cl, A, r⟩ := F
  obtain ⟨T', h', X', e', W, st⟩ := stC X hx hZ eT A (x := x) (VArr.inb r hj hi) hg hs hd
  exact ⟨T', h', X', e', W, VArr.wr ⟨cl, A, r⟩ W, st⟩
theorem saB (X : Stand p l e R s m args below meth c T locs cells slots) (hx : p.tables.exec = Jvm.exec) (hZ : Z.Warmed39 s.vm) (eT : T.heap = h) (F : VArr Z h a .byte vs) {j : Int32} {x : Int32} {i : Nat} (hj : ¬ j < 0) (hji : j.toNatClampNeg = i) (hi : i < vs.length)
    {g : JFrame} (hg : g.method = m) {rest : List Value} (hs : g.stack = .int x :: .int j :: .ref a :: rest) (hd : decode c.code g.pc = .ok (.bastore, 1)) :
    ∃ T' h', Stand p l e R s m args below meth c T' (locs ++ [⟨a, j.toNatClampNeg⟩]) cells slots ∧ T'.heap = h' ∧ Wr h h' a j.toNatClampNeg (.int (nar .byte x)) ∧ VArr Z h' a .byte (vs.set i (.int (nar .byte x))) ∧ ∀ target, Steps p.tables e below (T'.setTop { g with pc := g.pc + 1, stack := rest }) target → Steps p.tables e below (T.setTop g) target := by
  subst hji
  obtain ⟨cl, A, r⟩ := F
  obtain ⟨T', h', X', e', W, st⟩ := stB X hx hZ eT A (x := x) (VArr.inb r hj hi) hg hs hd
  exact ⟨T', h', X', e', W, VArr.wr ⟨cl, A, r⟩ W, st⟩
end OwnGo
end Jvm.RoadKit
namespace Jvm.Pilot.@@N@@
open Jvm Jvm.ClassFile Sem Op Lib Jvm.Free Jvm.Stand Jvm.LawKit Jvm.RoadKit Bundle Jvm.Pilot.@@N@@.Jvm.D
def wordI (i : Int64) (w : Int32) : Int32 := ((((i * (w.toInt64)).toUInt64 >>> ((6 : Int32) &&& 0x3f).toInt64.toUInt64).toInt64).toInt32)
def shI (i : Int64) (w : Int32) : Int32 := (((i * (w.toInt64)).toInt32) &&& (63 : Int32))
def getV (i : Int64) (w : Int32) (mk a0 a1 : Int64) : Int64 := (if (64 : Int32) < shI i w + w then ((a0.toUInt64 >>> (shI i w &&& 0x3f).toInt64.toUInt64).toInt64) ||| (a1 <<< (((64 : Int32) - shI i w) &&& 0x3f).toInt64) else ((a0.toUInt64 >>> (shI i w &&& 0x3f).toInt64.toUInt64).toInt64)) &&& mk
def set0 (i : Int64) (w : Int32) (mk v a0 : Int64) : Int64 := (a0 &&& ((mk <<< (shI i w &&& 0x3f).toInt64) ^^^ (-1 : Int64))) ||| ((v &&& mk) <<< (shI i w &&& 0x3f).toInt64)
def set1 (i : Int64) (w : Int32) (mk v a1 : Int64) : Int64 := (a1 &&& (((mk.toUInt64 >>> (((64 : Int32) - shI i w) &&& 0x3f).toInt64.toUInt64).toInt64) ^^^ (-1 : Int64))) ||| (((v &&& mk).toUInt64 >>> (((64 : Int32) - shI i w) &&& 0x3f).toInt64.toUInt64).toInt64)
def setW (i : Int64) (w : Int32) (mk v : Int64) (ws : List Int64) (a0 a1 : Int64) : List Int64 := if (64 : Int32) < shI i w + w then (ws.set (wordI i w).toNatClampNeg (set0 i w mk v a0)).set (wordI i w + 1).toNatClampNeg (set1 i w mk v a1) else ws.set (wordI i w).toNatClampNeg (set0 i w mk v a0)
theorem atmap {ws : List Int64} {i : Nat} {a : Int64} (h : ws[i]? = some a) : (ws.map Value.long)[i]? = some (.long a) := by rw [List.getElem?_map, h]; rfl
theorem atmap2 {ws : List Int64} {i j : Nat} {a : Int64} {v : Value} (hij : i ≠ j) (h : ws[j]? = some a) : ((ws.map Value.long).set i v)[j]? = some (.long a) := by rw [List.getElem?_set_ne hij]; exact atmap h
/-- the n-th bit of an array of words -/
def bitAt (ws : List Int64) (n : Nat) : Bool := (ws.getD (n / 64) 0).toBitVec.getLsbD (n % 64)
theorem own_sh6 : ∀ s : Fin 64, ((Int32.ofNat s.1 &&& 0x3f).toInt64.toUInt64).toBitVec % 64 = BitVec.ofNat 64 s.1 ∧ ((Int32.ofNat s.1 &&& 0x3f).toInt64).toBitVec.smod 64 = BitVec.ofNat 64 s.1 := by decide +kernel
theorem own_ushr {y : Int32} {s : Nat} (hs : s < 64) (hy : y = Int32.ofNat s) (x : Int64) : ((x.toUInt64 >>> (y &&& 0x3f).toInt64.toUInt64).toInt64).toBitVec = x.toBitVec >>> s := by
  subst hy
  show (x.toUInt64 >>> (Int32.ofNat s &&& 0x3f).toInt64.toUInt64).toBitVec = _
  rw [UInt64.toBitVec_shiftRight, (own_sh6 ⟨s, hs⟩).1, BitVec.ushiftRight_eq', BitVec.toNat_ofNat, Nat.mod_eq_of_lt (by omega)]
  rfl
theorem own_shl {y : Int32} {s : Nat} (hs : s < 64) (hy : y = Int32.ofNat s) (x : Int64) : (x <<< (y &&& 0x3f).toInt64).toBitVec = x.toBitVec <<< s := by
  subst hy
  rw [Int64.toBitVec_shiftLeft, (own_sh6 ⟨s, hs⟩).2, BitVec.shiftLeft_eq', BitVec.toNat_ofNat, Nat.mod_eq_of_lt (by omega)]
theorem own_W (x : Int32) : ∃ wn : Nat, 1 ≤ wn ∧ wn ≤ 64 ∧ (x &&& 63) + 1 = Int32.ofNat wn := by
  have h : (x &&& 63).toBitVec.toNat < 64 := by rw [Int32.toBitVec_and, BitVec.toNat_and]; exact Nat.lt_succ_of_le Nat.and_le_right
  have e : x &&& 63 = Int32.ofNat (x &&& 63).toBitVec.toNat := by
    apply Int32.toBitVec_inj.mp
    apply BitVec.eq_of_toNat_eq
    show _ = (BitVec.ofNat 32 _).toNat
    simp
  have key : ∀ n : Fin 64, Int32.ofNat n.1 + 1 = Int32.ofNat (n.1 + 1) := by decide +kernel
  generalize (x &&& 63).toBitVec.toNat = m at *
  exact ⟨m + 1, by omega, by omega, by rw [e]; exact key ⟨_, h⟩⟩
theorem own_bitI0 : ∀ q : Fin 66, ∀ r : Fin 64, (((Int64.ofNat (64 * q.1 + r.1)).toUInt64 >>> ((6 : Int32) &&& 0x3f).toInt64.toUInt64).toInt64).toInt32 = Int32.ofNat q.1 ∧ ((Int64.ofNat (64 * q.1 + r.1)).toInt32 &&& (63 : Int32)) = Int32.ofNat r.1 := by decide +kernel
theorem own_bitI (B : Nat) (hB : B < 4224) : (((Int64.ofNat B).toUInt64 >>> ((6 : Int32) &&& 0x3f).toInt64.toUInt64).toInt64).toInt32 = Int32.ofNat (B / 64) ∧ ((Int64.ofNat B).toInt32 &&& (63 : Int32)) = Int32.ofNat (B % 64) := by
  have h := own_bitI0 ⟨B / 64, by omega⟩ ⟨B % 64, by omega⟩
  have e : 64 * (B / 64) + B % 64 = B := Nat.div_add_mod B 64
  simp only [e] at h
  exact h
theorem own_mulI {a wn : Nat} (ha : a < 128) (hw : wn ≤ 64) : Int64.ofNat a * (Int32.ofNat wn).toInt64 = Int64.ofNat (a * wn) := by
  have k : ∀ n : Fin 65, (Int32.ofNat n.1).toInt64 = Int64.ofNat n.1 := by decide +kernel
  rw [k ⟨wn, by omega⟩, Int64.ofNat_mul]
theorem own_word {a wn : Nat} (ha : a < 128) (hw : wn ≤ 64) (hB : a * wn < 4224) : wordI (Int64.ofNat a) (Int32.ofNat wn) = Int32.ofNat (a * wn / 64) ∧ shI (Int64.ofNat a) (Int32.ofNat wn) = Int32.ofNat (a * wn % 64) := by
  unfold wordI shI
  rw [own_mulI ha hw]
  exact own_bitI _ hB
theorem own_lt64 : ∀ s : Fin 64, ∀ w : Fin 65, ((64 : Int32) < Int32.ofNat s.1 + Int32.ofNat w.1) ↔ 64 < s.1 + w.1 := by decide +kernel
theorem own_inv : ∀ s : Fin 65, (64 : Int32) - Int32.ofNat s.1 = Int32.ofNat (64 - s.1) := by decide +kernel
theorem own_clamp : ∀ s : Fin 70, (Int32.ofNat s.1).toNatClampNeg = s.1 ∧ ¬ Int32.ofNat s.1 < 0 ∧ Int32.ofNat s.1 + 1 = Int32.ofNat (s.1 + 1) := by decide +kernel
/-- the mask of a width -/
def maskOf (w : Int32) : Int64 := (((-1 : Int64).toUInt64 >>> (((64 : Int32) - w) &&& 0x3f).toInt64.toUInt64).toInt64)
theorem own_mask {wn : Nat} (h1 : 1 ≤ wn) (h2 : wn ≤ 64) (k : Nat) : (maskOf (Int32.ofNat wn)).toBitVec.getLsbD k = decide (k < wn) := by
  unfold maskOf
  rw [own_ushr (s := 64 - wn) (by omega) (own_inv ⟨wn, by omega⟩), BitVec.getLsbD_ushiftRight]
  have : (-1 : Int64).toBitVec = BitVec.allOnes 64 := by decide
  rw [this, BitVec.getLsbD_allOnes]
  congr 1; apply propext; omega
theorem own_getbits {a wn : Nat} (h1 : 1 ≤ wn) (h2 : wn ≤ 64) (ha : a < 128) (hB : a * wn < 4224) {ws : List Int64} {a0 a1 : Int64} (hw0 : ws[a * wn / 64]? = some a0) (hw1 : 64 < a * wn % 64 + wn → ws[a * wn / 64 + 1]? = some a1) (k : Nat) :
    (getV (Int64.ofNat a) (Int32.ofNat wn) (maskOf (Int32.ofNat wn)) a0 a1).toBitVec.getLsbD k = (decide (k < wn) && bitAt ws (a * wn + k)) := by
  unfold getV
  rw [(own_word ha h2 hB).2]
  generalize hs : a * wn % 64 = s at *
  have hs64 : s < 64 := by omega
  by_cases hc : 64 < s + wn
  · rw [if_pos ((own_lt64 ⟨s, hs64⟩ ⟨wn, by omega⟩).mpr hc), Int64.toBitVec_and, Int64.toBitVec_or, own_ushr hs64 rfl, own_shl (s := 64 - s) (by omega) (own_inv ⟨s, by omega⟩), BitVec.getLsbD_and, own_mask h1 h2, BitVec.getLsbD_or, BitVec.getLsbD_ushiftRight, BitVec.getLsbD_shiftLeft]
    by_cases hk : k < wn
    · simp only [hk, decide_true, Bool.and_true, Bool.true_and]
      unfold bitAt
      by_cases hsk : s + k < 64
      · have e1 : (a * wn + k) / 64 = a * wn / 64 := by omega
        have e2 : (a * wn + k) % 64 = s + k := by omega
        rw [e1, e2, List.getD_eq_getElem?_getD, hw0]
        have : (decide (k < 64 - s)) = true := by simp; omega
        simp [this]
      · have e1 : (a * wn + k) / 64 = a * wn / 64 + 1 := by omega
        have e2 : (a * wn + k) % 64 = k - (64 - s) := by omega
        rw [e1, e2, List.getD_eq_getElem?_getD, hw1 hc, BitVec.getLsbD_of_ge _ _ (by omega : 64 ≤ s + k)]
        have t1 : (decide (k < 64)) = true := by simp; omega
        have t2 : (decide (k < 64 - s)) = false := by simp; omega
        simp [t1, t2]
    · simp [hk]
  · rw [if_neg (fun q => hc ((own_lt64 ⟨s, hs64⟩ ⟨wn, by omega⟩).mp q)), Int64.toBitVec_and, own_ushr hs64 rfl, BitVec.getLsbD_and, own_mask h1 h2, BitVec.getLsbD_ushiftRight]
    by_cases hk : k < wn
    · simp only [hk, decide_true, Bool.and_true, Bool.true_and]
      unfold bitAt
      have e1 : (a * wn + k) / 64 = a * wn / 64 := by omega
      have e2 : (a * wn + k) % 64 = s + k := by omega
      rw [e1, e2, List.getD_eq_getElem?_getD, hw0]
      simp
    · simp [hk]
theorem own_and1 (x : Int64) {y : Int32} {s : Nat} (hs : s < 64) (hy : y = Int32.ofNat s) : (((x.toUInt64 >>> (y &&& 0x3f).toInt64.toUInt64).toInt64) &&& (1 : Int64)) = if x.toBitVec.getLsbD s then 1 else 0 := by
  apply Int64.toBitVec_inj.mp
  rw [Int64.toBitVec_and, own_ushr hs hy]
  apply BitVec.eq_of_getLsbD_eq
  intro i hi
  have h1 : (1 : Int64).toBitVec = 1#64 := rfl
  rw [BitVec.getLsbD_and, BitVec.getLsbD_ushiftRight, h1, BitVec.getLsbD_one]
  by_cases hi0 : i = 0
  · subst hi0
    by_cases hb : x.toBitVec.getLsbD s
    · simp [hb, h1]
    · simp [hb]
  · by_cases hb : x.toBitVec.getLsbD s
    · simp [hb, h1, hi0]
    · simp [hb, hi0]
def rdW (ws : List Int64) (j : Int32) : Int64 := ws.getD j.toNatClampNeg 0
def lowV (w : Int32) : Int64 := if w = 64 then -1 else ((1 : Int64) <<< (w &&& 0x3f).toInt64) - 1
theorem own_low {wn : Nat} (h1 : 1 ≤ wn) (h2 : wn ≤ 64) : lowV (Int32.ofNat wn) = maskOf (Int32.ofNat wn) := by
  have k : ∀ n : Fin 64, lowV (Int32.ofNat (n.1 + 1)) = maskOf (Int32.ofNat (n.1 + 1)) := by decide +kernel
  have := k ⟨wn - 1, by omega⟩
  rwa [show wn - 1 + 1 = wn by omega] at this
theorem own_room {n wn : Nat} (hn : n < 64) (h2 : wn ≤ 64) (h1 : 1 ≤ wn) : n * wn < 4224 ∧ n * wn / 64 < wn ∧ (64 < n * wn % 64 + wn → n * wn / 64 + 1 < wn) := by
  have h : n * wn ≤ 63 * wn := Nat.mul_le_mul_right _ (by omega)
  refine ⟨by omega, by omega, fun q => ?_⟩
  omega
theorem own_pre {n wn : Nat} (hn : n < 64) (h1 : 1 ≤ wn) (h2 : wn ≤ 64) {I : Int64} (hI : I = Int64.ofNat n) {W : Int32} (hW : W = Int32.ofNat wn) {ws : List Int64} (hl : ws.length = wn) :
    ¬ wordI I W < 0 ∧ ws[(wordI I W).toNatClampNeg]? = some (rdW ws (wordI I W)) ∧ ((64 : Int32) < shI I W + W → ¬ (wordI I W + 1) < 0 ∧ (wordI I W).toNatClampNeg ≠ (wordI I W + 1).toNatClampNeg ∧ ws[(wordI I W + 1).toNatClampNeg]? = some (rdW ws (wordI I W + 1))) := by
  subst hI hW
  obtain ⟨r1, r2, r3⟩ := own_room hn h2 h1
  obtain ⟨e1, e2⟩ := own_word (a := n) (wn := wn) (by omega) h2 r1
  rw [e1, e2]
  obtain ⟨c1, c2, c3⟩ := own_clamp ⟨n * wn / 64, by omega⟩
  simp only [] at c1 c2 c3
  refine ⟨c2, ?_, fun q => ?_⟩
  · rw [rdW, c1, List.getD_eq_getElem?_getD, List.getElem?_eq_getElem (by omega)]; rfl
  · have q' := (own_lt64 ⟨n * wn % 64, by omega⟩ ⟨wn, by omega⟩).mp q
    have r := r3 q'
    obtain ⟨d1, d2, d3⟩ := own_clamp ⟨n * wn / 64 + 1, by omega⟩
    simp only [] at d1 d2 d3
    rw [c3]
    refine ⟨d2, by rw [c1, d1]; omega, ?_⟩
    rw [rdW, d1, List.getD_eq_getElem?_getD, List.getElem?_eq_getElem (by omega)]; rfl
theorem own_set0 {s wn : Nat} (hs : s < 64) (h1 : 1 ≤ wn) (h2 : wn ≤ 64) {i : Int64} {W : Int32} (hW : W = Int32.ofNat wn) (hS : shI i W = Int32.ofNat s) (v a0 : Int64) {r : Nat} (hr : r < 64) :
    (set0 i W (maskOf W) v a0).toBitVec.getLsbD r = if s ≤ r ∧ r < s + wn then v.toBitVec.getLsbD (r - s) else a0.toBitVec.getLsbD r := by
  subst hW
  have hm : (-1 : Int64).toBitVec = BitVec.allOnes 64 := by decide
  rw [set0, Int64.toBitVec_or, Int64.toBitVec_and, Int64.toBitVec_xor, own_shl hs hS, own_shl hs hS, Int64.toBitVec_and, hm, BitVec.getLsbD_or, BitVec.getLsbD_and, BitVec.getLsbD_xor, BitVec.getLsbD_shiftLeft, BitVec.getLsbD_shiftLeft, BitVec.getLsbD_and, own_mask h1 h2, BitVec.getLsbD_allOnes]
  by_cases c1 : s ≤ r
  · by_cases c2 : r < s + wn
    · have t1 : r - s < wn := by omega
      have t2 : ¬ r < s := by omega
      simp [c1, c2, hr, t1, t2]
    · have t1 : ¬ r - s < wn := by omega
      have t2 : ¬ r < s := by omega
      simp [c1, c2, hr, t1, t2]
  · have t2 : r < s := by omega
    simp [c1, hr, t2]
theorem own_set1 {s wn : Nat} (hs : s < 64) (hs0 : 1 ≤ s) (h1 : 1 ≤ wn) (h2 : wn ≤ 64) {i : Int64} {W : Int32} (hW : W = Int32.ofNat wn) (hS : shI i W = Int32.ofNat s) (v a1 : Int64) {r : Nat} (hr : r < 64) :
    (set1 i W (maskOf W) v a1).toBitVec.getLsbD r = if r + (64 - s) < wn then v.toBitVec.getLsbD (r + (64 - s)) else a1.toBitVec.getLsbD r := by
  subst hW
  have hm : (-1 : Int64).toBitVec = BitVec.allOnes 64 := by decide
  have hI : (64 : Int32) - shI i (Int32.ofNat wn) = Int32.ofNat (64 - s) := by rw [hS]; exact own_inv ⟨s, by omega⟩
  rw [set1, Int64.toBitVec_or, Int64.toBitVec_and, Int64.toBitVec_xor, own_ushr (by omega) hI, own_ushr (by omega) hI, Int64.toBitVec_and, hm, BitVec.getLsbD_or, BitVec.getLsbD_and, BitVec.getLsbD_xor, BitVec.getLsbD_ushiftRight, BitVec.getLsbD_ushiftRight, BitVec.getLsbD_and, own_mask h1 h2, BitVec.getLsbD_allOnes, Nat.add_comm (64 - s) r]
  by_cases c1 : r + (64 - s) < wn
  · simp [c1, hr]
  · simp [c1, hr]
theorem own_bitset {ws : List Int64} {j : Nat} {x : Int64} (hj : j < ws.length) (n : Nat) : bitAt (ws.set j x) n = if n / 64 = j then x.toBitVec.getLsbD (n % 64) else bitAt ws n := by
  unfold bitAt
  rw [List.getD_eq_getElem?_getD, List.getD_eq_getElem?_getD]
  by_cases h : n / 64 = j
  · rw [if_pos h, h, List.getElem?_set_self hj]; rfl
  · rw [if_neg h, List.getElem?_set_ne (fun q => h q.symm)]
theorem own_set {n wn : Nat} (hn : n < 64) (h1 : 1 ≤ wn) (h2 : wn ≤ 64) {I : Int64} (hI : I = Int64.ofNat n) {W : Int32} (hW : W = Int32.ofNat wn) {ws : List Int64} (hl : ws.length = wn) (v : Int64) :
    (setW I W (maskOf W) v ws (rdW ws (wordI I W)) (rdW ws (wordI I W + 1))).length = wn ∧
    ∀ i k, i < 64 → k < wn → bitAt (setW I W (maskOf W) v ws (rdW ws (wordI I W)) (rdW ws (wordI I W + 1))) (i * wn + k) = if i = n then v.toBitVec.getLsbD k else bitAt ws (i * wn + k) := by
  obtain ⟨p1, p2, p3⟩ := own_pre hn h1 h2 hI hW hl
  obtain ⟨r1, r2, r3⟩ := own_room hn h2 h1
  have hI0 := hI
  have hW0 := hW
  subst hI hW
  obtain ⟨e1, e2⟩ := own_word (a := n) (wn := wn) (by omega) h2 r1
  obtain ⟨c1, c2, c3⟩ := own_clamp ⟨n * wn / 64, by omega⟩
  simp only [] at c1 c2 c3
  refine ⟨by unfold setW; split <;> simp [hl], fun i k hi hk => ?_⟩
  have hdis : i ≠ n → ¬ (n * wn ≤ i * wn + k ∧ i * wn + k < n * wn + wn) := by
    intro hne q
    rcases Nat.lt_or_gt_of_ne hne with c | c
    · have : (i + 1) * wn ≤ n * wn := Nat.mul_le_mul_right _ c
      rw [Nat.add_mul] at this; omega
    · have : (n + 1) * wn ≤ i * wn := Nat.mul_le_mul_right _ c
      rw [Nat.add_mul] at this; omega
  have hsame : i = n ↔ (n * wn ≤ i * wn + k ∧ i * wn + k < n * wn + wn) := ⟨fun q => by subst q; omega, fun q => Classical.byContradiction fun z => hdis z q⟩
  have hkk : i = n → k = i * wn + k - n * wn := fun q => by subst q; omega
  generalize hp : i * wn + k = p at *
  have goal2 : bitAt (setW (Int64.ofNat n) (Int32.ofNat wn) (maskOf (Int32.ofNat wn)) v ws (rdW ws (wordI (Int64.ofNat n) (Int32.ofNat wn))) (rdW ws (wordI (Int64.ofNat n) (Int32.ofNat wn) + 1))) p = if n * wn ≤ p ∧ p < n * wn + wn then v.toBitVec.getLsbD (p - n * wn) else bitAt ws p := by
    have hs64 : n * wn % 64 < 64 := by omega
    have hlow : rdW ws (wordI (Int64.ofNat n) (Int32.ofNat wn)) = ws.getD (n * wn / 64) 0 := by rw [e1, rdW, c1]
    unfold setW
    by_cases hc : (64 : Int32) < shI (Int64.ofNat n) (Int32.ofNat wn) + Int32.ofNat wn
    · rw [if_pos hc]
      have hc' : 64 < n * wn % 64 + wn := by rw [e2] at hc; exact (own_lt64 ⟨_, hs64⟩ ⟨wn, by omega⟩).mp hc
      have r3' := r3 hc'
      obtain ⟨d1, d2, d3⟩ := own_clamp ⟨n * wn / 64 + 1, by omega⟩
      simp only [] at d1 d2 d3
      have hhigh : rdW ws (wordI (Int64.ofNat n) (Int32.ofNat wn) + 1) = ws.getD (n * wn / 64 + 1) 0 := by rw [e1, c3, rdW, d1]
      have w1 : (wordI (Int64.ofNat n) (Int32.ofNat wn) + 1).toNatClampNeg = n * wn / 64 + 1 := by rw [e1, c3, d1]
      have w0 : (wordI (Int64.ofNat n) (Int32.ofNat wn)).toNatClampNeg = n * wn / 64 := by rw [e1, c1]
      rw [own_bitset (by rw [List.length_set, w1, hl]; exact r3'), own_bitset (by rw [w0, hl]; exact r2), w0, w1, hlow, hhigh]
      by_cases q1 : p / 64 = n * wn / 64 + 1
      · rw [if_pos q1, own_set1 hs64 (by omega) h1 h2 rfl e2 v _ (by omega)]
        by_cases q2 : p % 64 + (64 - n * wn % 64) < wn
        · rw [if_pos q2, if_pos (by omega)]; congr 1; omega
        · rw [if_neg q2, if_neg (by omega)]; unfold bitAt; rw [q1]
      · rw [if_neg q1]
        by_cases q0 : p / 64 = n * wn / 64
        · rw [if_pos q0, own_set0 hs64 h1 h2 rfl e2 v _ (by omega)]
          by_cases q2 : n * wn % 64 ≤ p % 64 ∧ p % 64 < n * wn % 64 + wn
          · rw [if_pos q2, if_pos (by omega)]; congr 1; omega
          · rw [if_neg q2, if_neg (by omega)]; unfold bitAt; rw [q0]
        · rw [if_neg q0, if_neg (by omega)]
    · rw [if_neg hc]
      have hc' : ¬ 64 < n * wn % 64 + wn := fun z => hc (by rw [e2]; exact (own_lt64 ⟨_, hs64⟩ ⟨wn, by omega⟩).mpr z)
      have w0 : (wordI (Int64.ofNat n) (Int32.ofNat wn)).toNatClampNeg = n * wn / 64 := by rw [e1, c1]
      rw [own_bitset (by rw [w0, hl]; exact r2), w0, hlow]
      by_cases q0 : p / 64 = n * wn / 64
      · rw [if_pos q0, own_set0 hs64 h1 h2 rfl e2 v _ (by omega)]
        by_cases q2 : n * wn % 64 ≤ p % 64 ∧ p % 64 < n * wn % 64 + wn
        · rw [if_pos q2, if_pos (by omega)]; congr 1; omega
        · rw [if_neg q2, if_neg (by omega)]; unfold bitAt; rw [q0]
      · rw [if_neg q0, if_neg (by omega)]
  rw [goal2]
  by_cases q : i = n
  · rw [if_pos q, if_pos (hsame.mp q), ← hkk q]
  · rw [if_neg q, if_neg (fun z => q (hsame.mpr z))]
theorem own_get {n wn : Nat} (hn : n < 64) (h1 : 1 ≤ wn) (h2 : wn ≤ 64) {I : Int64} (hI : I = Int64.ofNat n) {W : Int32} (hW : W = Int32.ofNat wn) {ws : List Int64} (hl : ws.length = wn) (x : Int64) (hx : ∀ k, k < wn → bitAt ws (n * wn + k) = x.toBitVec.getLsbD k) :
    getV I W (maskOf W) (rdW ws (wordI I W)) (rdW ws (wordI I W + 1)) = x &&& lowV W := by
  obtain ⟨p1, p2, p3⟩ := own_pre hn h1 h2 hI hW hl
  obtain ⟨r1, r2, r3⟩ := own_room hn h2 h1
  subst hI hW
  obtain ⟨e1, e2⟩ := own_word (a := n) (wn := wn) (by omega) h2 r1
  obtain ⟨c1, c2, c3⟩ := own_clamp ⟨n * wn / 64, by omega⟩
  simp only [] at c1 c2 c3
  rw [own_low h1 h2]
  apply Int64.toBitVec_inj.mp
  apply BitVec.eq_of_getLsbD_eq
  intro k hk
  rw [own_getbits (ws := ws) h1 h2 (by omega) r1 (by rw [e1, c1] at p2; rw [e1]; exact p2) (fun q => by
    obtain ⟨-, -, z⟩ := p3 (by rw [e2]; exact (own_lt64 ⟨_, by omega⟩ ⟨wn, by omega⟩).mpr q)
    obtain ⟨d1, d2, d3⟩ := own_clamp ⟨n * wn / 64 + 1, by have := r3 q; omega⟩
    simp only [] at d1 d2 d3
    rw [e1, c3, d1] at z; rw [e1, c3]; exact z) k, Int64.toBitVec_and, BitVec.getLsbD_and, own_mask h1 h2]
  by_cases q : k < wn
  · simp [q, hx k q]
  · simp [q]
theorem own_lit32 {n : Nat} (h : n < 2147483648) : (Int32.ofNat n).toInt = n := by
  show (Nat.toInt32 n).toInt = _
  exact len_toInt (by omega)
theorem own_mod (y : Int32) (hy : 0 ≤ y.toInt) {q : Nat} (hq : 1 ≤ q) (hq2 : q ≤ 128) : ∃ r : Nat, r < q ∧ y % Int32.ofNat q = Int32.ofNat r := by
  have e : (Int32.ofNat q).toInt = q := own_lit32 (by omega)
  have a1 := Int.tmod_nonneg (q : Int) hy
  have a2 := Int.tmod_lt_of_pos y.toInt (by omega : (0 : Int) < q)
  refine ⟨(y.toInt.tmod q).toNat, by omega, ?_⟩
  apply Int32.toInt_inj.mp
  rw [Int32.toInt_mod, e, own_lit32 (by omega)]
  omega
theorem own_pos31 (x : Int32) : 0 ≤ (x &&& 2147483647).toInt := by
  have h : (x &&& 2147483647).toBitVec.toNat ≤ 2147483647 := by rw [Int32.toBitVec_and, BitVec.toNat_and]; exact Nat.and_le_right
  show 0 ≤ (x &&& 2147483647).toBitVec.toInt
  rw [BitVec.toInt_eq_toNat_cond, if_pos (by omega)]; omega
theorem own_wf0 : ∀ n : Fin 64, ¬ Int32.ofNat (n.1 + 1) < 1 ∧ ¬ 64 < Int32.ofNat (n.1 + 1) ∧ (Int32.ofNat (n.1 + 1)).toInt64 ≠ 0 ∧ ¬ ((128 : Int64) / (Int32.ofNat (n.1 + 1)).toInt64) < 0 ∧ ¬ ((137438952896 : Int64) / (Int32.ofNat (n.1 + 1)).toInt64) < ((128 : Int64) / (Int32.ofNat (n.1 + 1)).toInt64) ∧
    (((((((128 : Int64) / (Int32.ofNat (n.1 + 1)).toInt64)) * ((Int32.ofNat (n.1 + 1)).toInt64)) + (64 : Int64)) - (1 : Int64)) / (64 : Int64)).toInt32 = 2 ∧ ((128 : Int64) / (Int32.ofNat (n.1 + 1)).toInt64).toInt32 = Int32.ofNat (128 / (n.1 + 1)) ∧ Int32.ofNat (n.1 + 1) ≠ 0 := by decide +kernel
theorem own_wf {wn : Nat} (h1 : 1 ≤ wn) (h2 : wn ≤ 64) {W : Int32} (hW : W = Int32.ofNat wn) : ¬ W < 1 ∧ ¬ 64 < W ∧ W.toInt64 ≠ 0 ∧ ¬ ((128 : Int64) / W.toInt64) < 0 ∧ ¬ ((137438952896 : Int64) / W.toInt64) < ((128 : Int64) / W.toInt64) ∧
    (((((((128 : Int64) / W.toInt64)) * (W.toInt64)) + (64 : Int64)) - (1 : Int64)) / (64 : Int64)).toInt32 = 2 ∧ ((128 : Int64) / W.toInt64).toInt32 = Int32.ofNat (128 / wn) ∧ W ≠ 0 := by
  subst hW
  have := own_wf0 ⟨wn - 1, by omega⟩
  simp only [show wn - 1 + 1 = wn by omega] at this
  exact this
theorem own_nzW (x : Int32) : ((x &&& 63) + 1).toInt64 ≠ 0 := by
  obtain ⟨wn, h1, h2, h⟩ := own_W x
  exact (own_wf h1 h2 h).2.2.1
theorem own_i2l {r : Nat} (h : r < 128) : (Int32.ofNat r).toInt64 = Int64.ofNat r := by
  have k : ∀ n : Fin 128, (Int32.ofNat n.1).toInt64 = Int64.ofNat n.1 := by decide +kernel
  exact k ⟨r, h⟩
theorem own_ik {wn : Nat} (h1 : 1 ≤ wn) (h2 : wn ≤ 64) {W : Int32} (hW : W = Int32.ofNat wn) (x y : Int32) :
    (∃ an : Nat, (an + 1) * wn ≤ 128 ∧ ((x &&& 2147483647) % ((128 : Int64) / W.toInt64).toInt32).toInt64 = Int64.ofNat an) ∧ ∃ kn : Nat, kn < wn ∧ (y &&& 2147483647) % W = Int32.ofNat kn := by
  have hL := (own_wf h1 h2 hW).2.2.2.2.2.2.1
  have hq : 1 ≤ 128 / wn := (Nat.le_div_iff_mul_le (by omega)).mpr (by omega)
  have hq2 : 128 / wn ≤ 128 := Nat.div_le_self _ _
  refine ⟨?_, ?_⟩
  · obtain ⟨r, hr, e⟩ := own_mod (x &&& 2147483647) (own_pos31 x) hq hq2
    refine ⟨r, ?_, by rw [hL, e, own_i2l (by omega)]⟩
    exact Nat.le_trans (Nat.mul_le_mul_right wn hr) (Nat.div_mul_le_self 128 wn)
  · obtain ⟨r, hr, e⟩ := own_mod (y &&& 2147483647) (own_pos31 y) h1 (by omega)
    exact ⟨r, hr, by rw [hW, e]⟩
theorem own_preG {n wn : Nat} (hn : n < 128) (h1 : 1 ≤ wn) (h2 : wn ≤ 64) {I : Int64} (hI : I = Int64.ofNat n) {W : Int32} (hW : W = Int32.ofNat wn) {ws : List Int64} (r1 : n * wn < 4224) (hl : n * wn / 64 < ws.length) (hl2 : 64 < n * wn % 64 + wn → n * wn / 64 + 1 < ws.length) (hw : ws.length ≤ 64) :
    ¬ wordI I W < 0 ∧ ws[(wordI I W).toNatClampNeg]? = some (rdW ws (wordI I W)) ∧ ((64 : Int32) < shI I W + W → ¬ (wordI I W + 1) < 0 ∧ ws[(wordI I W + 1).toNatClampNeg]? = some (rdW ws (wordI I W + 1))) ∧
    ∀ k, (getV I W (maskOf W) (rdW ws (wordI I W)) (rdW ws (wordI I W + 1))).toBitVec.getLsbD k = (decide (k < wn) && bitAt ws (n * wn + k)) := by
  subst hI hW
  obtain ⟨e1, e2⟩ := own_word (a := n) (wn := wn) hn h2 r1
  obtain ⟨c1, c2, c3⟩ := own_clamp ⟨n * wn / 64, by omega⟩
  simp only [] at c1 c2 c3
  have p1 : ws[n * wn / 64]? = some (rdW ws (wordI (Int64.ofNat n) (Int32.ofNat wn))) := by
    rw [rdW, e1, c1, List.getD_eq_getElem?_getD, List.getElem?_eq_getElem (by omega)]; rfl
  have p2 : 64 < n * wn % 64 + wn → ¬ (wordI (Int64.ofNat n) (Int32.ofNat wn) + 1) < 0 ∧ (wordI (Int64.ofNat n) (Int32.ofNat wn) + 1).toNatClampNeg = n * wn / 64 + 1 ∧ ws[n * wn / 64 + 1]? = some (rdW ws (wordI (Int64.ofNat n) (Int32.ofNat wn) + 1)) := fun q' => by
    have r := hl2 q'
    obtain ⟨d1, d2, d3⟩ := own_clamp ⟨n * wn / 64 + 1, by omega⟩
    simp only [] at d1 d2 d3
    rw [e1, c3]
    refine ⟨d2, d1, ?_⟩
    rw [rdW, d1, List.getD_eq_getElem?_getD, List.getElem?_eq_getElem (by omega)]; rfl
  refine ⟨by rw [e1]; exact c2, by rw [e1, c1, ← e1]; exact p1, fun q => ?_, fun k => own_getbits h1 h2 hn r1 p1 (fun q => (p2 q).2.2) k⟩
  have q' := (own_lt64 ⟨n * wn % 64, by omega⟩ ⟨wn, by omega⟩).mp (by rw [e2] at q; exact q)
  obtain ⟨s1, s2, s3⟩ := p2 q'
  exact ⟨s1, by rw [s2]; exact s3⟩
theorem own_pre2 {an wn : Nat} (h1 : 1 ≤ wn) (h2 : wn ≤ 64) (ha : (an + 1) * wn ≤ 128) {I : Int64} (hI : I = Int64.ofNat an) {W : Int32} (hW : W = Int32.ofNat wn) (c0 c1 : Int64) :
    ¬ wordI I W < 0 ∧ [c0, c1][(wordI I W).toNatClampNeg]? = some (rdW [c0, c1] (wordI I W)) ∧ ((64 : Int32) < shI I W + W → ¬ (wordI I W + 1) < 0 ∧ [c0, c1][(wordI I W + 1).toNatClampNeg]? = some (rdW [c0, c1] (wordI I W + 1))) ∧
    ∀ k, (getV I W (maskOf W) (rdW [c0, c1] (wordI I W)) (rdW [c0, c1] (wordI I W + 1))).toBitVec.getLsbD k = (decide (k < wn) && bitAt [c0, c1] (an * wn + k)) := by
  rw [Nat.add_mul, Nat.one_mul] at ha
  have hn : an < 128 := by
    have : an * 1 ≤ an * wn := Nat.mul_le_mul_left _ h1
    omega
  refine own_preG hn h1 h2 hI hW (by omega) ?_ ?_ (by simp)
  · show _ < 2; omega
  · intro q; show _ < 2; omega
theorem own_P : ∀ P : Fin 128, ((Int64.ofNat P.1 < 64) ↔ P.1 < 64) ∧ (Int64.ofNat P.1).toInt32 = Int32.ofNat P.1 ∧ (64 ≤ P.1 → (Int64.ofNat P.1 - 64).toInt32 = Int32.ofNat (P.1 - 64)) := by decide +kernel
theorem own_bit {an wn kn : Nat} (h1 : 1 ≤ wn) (h2 : wn ≤ 64) (ha : (an + 1) * wn ≤ 128) (hk : kn < wn) {I : Int64} (hI : I = Int64.ofNat an) {W : Int32} (hW : W = Int32.ofNat wn) {kk : Int32} (hK : kk = Int32.ofNat kn) (c0 c1 : Int64) {v : Int64}
    (hexp : ((I * W.toInt64 + kk.toInt64 < 64) ∧ v = (((c0.toUInt64 >>> ((I * W.toInt64 + kk.toInt64).toInt32 &&& 0x3f).toInt64.toUInt64).toInt64) &&& (1 : Int64))) ∨ (¬ (I * W.toInt64 + kk.toInt64 < 64) ∧ v = (((c1.toUInt64 >>> (((I * W.toInt64 + kk.toInt64) - 64).toInt32 &&& 0x3f).toInt64.toUInt64).toInt64) &&& (1 : Int64)))) :
    ((((getV I W (maskOf W) (rdW [c0, c1] (wordI I W)) (rdW [c0, c1] (wordI I W + 1))).toUInt64 >>> (kk &&& 0x3f).toInt64.toUInt64).toInt64) &&& (1 : Int64)) = v := by
  have hb := (own_pre2 h1 h2 ha hI hW c0 c1).2.2.2 kn
  have ha2 := ha
  rw [Nat.add_mul, Nat.one_mul] at ha2
  have hn : an < 128 := by
    have : an * 1 ≤ an * wn := Nat.mul_le_mul_left _ h1
    omega
  have hP : I * W.toInt64 + kk.toInt64 = Int64.ofNat (an * wn + kn) := by
    rw [hI, hW, hK, own_mulI hn h2, own_i2l (by omega), ← Int64.ofNat_add]
  rw [own_and1 _ (by omega : kn < 64) hK, hb]
  rw [hP] at hexp
  generalize hPP : an * wn + kn = P at *
  obtain ⟨q1, q2, q3⟩ := own_P ⟨P, by omega⟩
  simp only [] at q1 q2 q3
  simp only [hk, decide_true, Bool.true_and]
  rcases hexp with ⟨c, rfl⟩ | ⟨c, rfl⟩
  · have hp : P < 64 := q1.mp c
    rw [own_and1 _ hp q2]
    have : bitAt [c0, c1] P = c0.toBitVec.getLsbD P := by
      unfold bitAt; rw [show P / 64 = 0 by omega, show P % 64 = P by omega]; rfl
    rw [this]
  · have hp : ¬ P < 64 := fun z => c (q1.mpr z)
    rw [own_and1 _ (by omega : P - 64 < 64) (q3 (by omega))]
    have : bitAt [c0, c1] P = c1.toBitVec.getLsbD (P - 64) := by
      unfold bitAt; rw [show P / 64 = 1 by omega, show P % 64 = P - 64 by omega]; rfl
    rw [this]
theorem own_bound {an wn : Nat} (h1 : 1 ≤ wn) (h2 : wn ≤ 64) (ha : (an + 1) * wn ≤ 128) {I : Int64} (hI : I = Int64.ofNat an) {W : Int32} (hW : W = Int32.ofNat wn) (c0 c1 : Int64) (hne : ¬ W = 64) :
    (((getV I W (maskOf W) (rdW [c0, c1] (wordI I W)) (rdW [c0, c1] (wordI I W + 1))).toUInt64 >>> (W &&& 0x3f).toInt64.toUInt64).toInt64) = 0 := by
  have hb := (own_pre2 h1 h2 ha hI hW c0 c1).2.2.2
  have hlt : wn < 64 := by
    rcases Nat.lt_or_ge wn 64 with c | c
    · exact c
    · exact absurd (by rw [hW, show wn = 64 by omega]; rfl) hne
  apply Int64.toBitVec_inj.mp
  rw [own_ushr hlt hW]
  apply BitVec.eq_of_getLsbD_eq
  intro i hi
  rw [BitVec.getLsbD_ushiftRight, hb]
  have z : ¬ wn + i < wn := by omega
  simp [z]
theorem d3_0 : decode prog_23_method_4_code 0 = .ok (.iload_n 0, 1) := by decide +kernel
theorem d3_1 : decode prog_23_method_4_code 1 = .ok (.iconst 1, 1) := by decide +kernel
theorem d3_2 : decode prog_23_method_4_code 2 = .ok (.if_icmp .lt 9, 3) := by decide +kernel
theorem d3_5 : decode prog_23_method_4_code 5 = .ok (.iload_n 0, 1) := by decide +kernel
theorem d3_6 : decode prog_23_method_4_code 6 = .ok (.bipush 64, 2) := by decide +kernel
theorem d3_8 : decode prog_23_method_4_code 8 = .ok (.if_icmp .le 17, 3) := by decide +kernel
theorem d3_25 : decode prog_23_method_4_code 25 = .ok (.ldc2_w 56, 3) := by decide +kernel
theorem d3_28 : decode prog_23_method_4_code 28 = .ok (.iload_n 0, 1) := by decide +kernel
theorem d3_29 : decode prog_23_method_4_code 29 = .ok (.i2l, 1) := by decide +kernel
theorem d3_30 : decode prog_23_method_4_code 30 = .ok (.ldiv, 1) := by decide +kernel
theorem d3_31 : decode prog_23_method_4_code 31 = .ok (.lreturn, 1) := by decide +kernel
theorem pn_0 : plainName "com/example/bloom_filter_variants/bloomfiltervariants/PackedArray" = true := by first | (simp [plainName, overriddenIn]; done) | decide +kernel
theorem ef_3 (m : MethodId) (x0 : Int32) : entryFrame m #[(.int x0)] 1 = mkF m 0 #[.val (.int x0)] [] := by first | (simp [entryFrame, mkF, argsToLocals, Value.category]; done) | rfl
def Q3 (Z : State) (x0 : Int32)  (h0 : Heap) (n0 : Nat) (v : Option Value) (h : Heap) (L : List Loc) : Prop := v = some (.long (137438952896 / x0.toInt64)) ∧ Fr n0 L ∧ h = h0
set_option maxRecDepth 65536 in
set_option maxHeartbeats 40000000 in
theorem rm3 (l : Launch) (Z : State) (a0 : Array Value) (hw : ∀ d ∈ tables_1, d.before a0 Z = true) (ws : List Jvm.Cond) (x0 : Int32)  (h0 : Heap) (n0 : Nat) (Z0 : n0 ≤ h0.size) (hw1 : ¬ x0 < 1) (hw2 : ¬ 64 < x0) (hnz : (x0.toInt64) ≠ (0 : Int64)) :
    MetFree l (⟨"com/example/bloom_filter_variants/bloomfiltervariants/PackedArray", "maxLength", "(I)J"⟩ : MethodName) (head1 (Jvm.Cond.code (⟨"com/example/bloom_filter_variants/bloomfiltervariants/PackedArray", "maxLength", "(I)J"⟩ : MethodName) prog_23_method_4_code 1 (some .long) :: ws) ({ frames := 0, cells := 0, slots := 0, locals := 0 } : Room)) (fun a U => a = #[(.int x0)] ∧ Z.Warmed39 U.vm ∧ U.heap = h0) (fun _ _ _ _ _ => True) (fun _ U o U' => ∃ v L, o = .returned v ∧ Q3 Z x0 h0 n0 v U'.heap L ∧ FrameEnd U o U' L ({ frames := 0, cells := 0, slots := 0, locals := 0 } : Room).cells ({ frames := 0, cells := 0, slots := 0, locals := 0 } : Room).slots) := by
  refine MetFree.of_bodySF (plainFor_of_name pn_0) hisR ?_
  intro p e s m args below meth c s₁ Bd hml0 hP hK
  obtain ⟨rfl, hZ, hh⟩ := hP
  have hx := Bd.exec
  have hby := Bd.bytes
  have hml : c.maxLocals = 1 := hml0
  have hown : s.vm.findClass "com/example/bloom_filter_variants/bloomfiltervariants/PackedArray" = some m.cls := findClass_of_methodNamed Bd.named
  have hnm := (name_of_methodNamed Bd.named Bd.method).1
  have hk : meth.locks = false := BodyLoose.notSynchronized Bd
  have X0 : Stand p l e ({ frames := 0, cells := 0, slots := 0, locals := 0 } : Room) s m #[(.int x0)] below meth c s₁ [] 0 0 := Stand.of_body Bd
  have e0 : s₁.heap = h0 := by rw [← hh, Bd.state]; rfl
  have N0 := Fr.nil n0
  show Go p e below s (Q3 Z x0 h0 n0) ({ frames := 0, cells := 0, slots := 0, locals := 0 } : Room).cells ({ frames := 0, cells := 0, slots := 0, locals := 0 } : Room).slots s₁ (entryFrame m #[(.int x0)] 1)
  refine Go.cast (ef_3 m x0) ?_
  refine Go.of (T' := s₁) (f' := (mkF m 1 #[.val (.int x0)] [(.int x0)])) (fun t k => XS.iloadN X0.here hx rfl (hb hby d3_0) rfl k) ?_
  refine Go.of (T' := s₁) (f' := (mkF m 2 #[.val (.int x0)] [(.int (1 : Int32)), (.int x0)])) (fun t k => XS.iconst X0.here hx rfl (hb hby d3_1) k) ?_
  have hc2 : ¬ (x0 < (1 : Int32)) := hw1
  refine Go.of (T' := s₁) (f' := (mkF m 5 #[.val (.int x0)] [])) (fun t k => XS.icmpNo X0.here hx rfl (hb hby d3_2) rfl ((flt hc2).1) k) ?_
  refine Go.of (T' := s₁) (f' := (mkF m 6 #[.val (.int x0)] [(.int x0)])) (fun t k => XS.iloadN X0.here hx rfl (hb hby d3_5) rfl k) ?_
  refine Go.of (T' := s₁) (f' := (mkF m 8 #[.val (.int x0)] [(.int (64 : Int32)), (.int x0)])) (fun t k => XS.bipush X0.here hx rfl (hb hby d3_6) k) ?_
  have hc8 : ¬ ((64 : Int32) < x0) := hw2
  refine Go.of (T' := s₁) (f' := (mkF m 25 #[.val (.int x0)] [])) (fun t k => XS.icmpYes X0.here hx rfl (pc0 := 8) (pc' := 25) rfl (hb hby d3_8) rfl ((flt hc8).2.2.2) (by decide) (by decide) k) ?_
  refine Go.of (T' := s₁) (f' := (mkF m 28 #[.val (.int x0)] [(.long (137438952896 : Int64))])) (fun t k => X0.ldc2Long hx hown (mvT hZ (hw _ (List.mem_of_getElem? (i := 14) rfl))) (g := (mkF m 25 #[.val (.int x0)] [])) rfl (hb hby d3_25) t k) ?_
  refine Go.of (T' := s₁) (f' := (mkF m 29 #[.val (.int x0)] [(.int x0), (.long (137438952896 : Int64))])) (fun t k => XS.iloadN X0.here hx rfl (hb hby d3_28) rfl k) ?_
  refine Go.of (T' := s₁) (f' := (mkF m 30 #[.val (.int x0)] [(.long (x0.toInt64)), (.long (137438952896 : Int64))])) (fun t k => XS.i2l X0.here hx rfl (hb hby d3_29) rfl k) ?_
  have nz30 : (x0.toInt64) ≠ (0 : Int64) := hnz
  refine Go.of (T' := s₁) (f' := (mkF m 31 #[.val (.int x0)] [(.long ((137438952896 : Int64) / (x0.toInt64)))])) (fun t k => XS.ldiv X0.here hx rfl (hb hby d3_30) rfl nz30 k) ?_
  refine Go.retJ X0 hx hk Bd.returns (hb hby d3_31) (by decide) (by decide) ?_
  rw [e0]
  exact ⟨rfl, N0, rfl⟩
theorem pd_0 : parseMethodDescriptor "(I)J" = some ⟨[.int], some .long⟩ := by decide +kernel
theorem d1_0 : decode prog_23_method_1_code 0 = .ok (.aload_n 0, 1) := by decide +kernel
theorem d1_1 : decode prog_23_method_1_code 1 = .ok (.invokespecial 1, 3) := by decide +kernel
theorem d1_4 : decode prog_23_method_1_code 4 = .ok (.iload_n 3, 1) := by decide +kernel
theorem d1_5 : decode prog_23_method_1_code 5 = .ok (.invokestatic 7, 3) := by decide +kernel
theorem d1_8 : decode prog_23_method_1_code 8 = .ok (.lstore 4, 2) := by decide +kernel
theorem d1_10 : decode prog_23_method_1_code 10 = .ok (.lload_n 1, 1) := by decide +kernel
theorem d1_11 : decode prog_23_method_1_code 11 = .ok (.lconst 0, 1) := by decide +kernel
theorem d1_12 : decode prog_23_method_1_code 12 = .ok (.lcmp, 1) := by decide +kernel
theorem d1_13 : decode prog_23_method_1_code 13 = .ok (.ifCond .lt 10, 3) := by decide +kernel
theorem d1_16 : decode prog_23_method_1_code 16 = .ok (.lload_n 1, 1) := by decide +kernel
theorem d1_17 : decode prog_23_method_1_code 17 = .ok (.lload 4, 2) := by decide +kernel
theorem d1_19 : decode prog_23_method_1_code 19 = .ok (.lcmp, 1) := by decide +kernel
theorem d1_20 : decode prog_23_method_1_code 20 = .ok (.ifCond .le 20, 3) := by decide +kernel
theorem d1_40 : decode prog_23_method_1_code 40 = .ok (.aload_n 0, 1) := by decide +kernel
theorem d1_41 : decode prog_23_method_1_code 41 = .ok (.lload_n 1, 1) := by decide +kernel
theorem d1_42 : decode prog_23_method_1_code 42 = .ok (.putfield 22, 3) := by decide +kernel
theorem d1_45 : decode prog_23_method_1_code 45 = .ok (.aload_n 0, 1) := by decide +kernel
theorem d1_46 : decode prog_23_method_1_code 46 = .ok (.iload_n 3, 1) := by decide +kernel
theorem d1_47 : decode prog_23_method_1_code 47 = .ok (.putfield 26, 3) := by decide +kernel
theorem d1_50 : decode prog_23_method_1_code 50 = .ok (.aload_n 0, 1) := by decide +kernel
theorem d1_51 : decode prog_23_method_1_code 51 = .ok (.ldc2_w 30, 3) := by decide +kernel
theorem d1_54 : decode prog_23_method_1_code 54 = .ok (.bipush 64, 2) := by decide +kernel
theorem d1_56 : decode prog_23_method_1_code 56 = .ok (.iload_n 3, 1) := by decide +kernel
theorem d1_57 : decode prog_23_method_1_code 57 = .ok (.isub, 1) := by decide +kernel
theorem d1_58 : decode prog_23_method_1_code 58 = .ok (.lushr, 1) := by decide +kernel
theorem d1_59 : decode prog_23_method_1_code 59 = .ok (.putfield 34, 3) := by decide +kernel
theorem d1_62 : decode prog_23_method_1_code 62 = .ok (.aload_n 0, 1) := by decide +kernel
theorem d1_63 : decode prog_23_method_1_code 63 = .ok (.lload_n 1, 1) := by decide +kernel
theorem d1_64 : decode prog_23_method_1_code 64 = .ok (.iload_n 3, 1) := by decide +kernel
theorem d1_65 : decode prog_23_method_1_code 65 = .ok (.i2l, 1) := by decide +kernel
theorem d1_66 : decode prog_23_method_1_code 66 = .ok (.lmul, 1) := by decide +kernel
theorem d1_67 : decode prog_23_method_1_code 67 = .ok (.ldc2_w 37, 3) := by decide +kernel
theorem d1_70 : decode prog_23_method_1_code 70 = .ok (.ladd, 1) := by decide +kernel
theorem d1_71 : decode prog_23_method_1_code 71 = .ok (.lconst 1, 1) := by decide +kernel
theorem d1_72 : decode prog_23_method_1_code 72 = .ok (.lsub, 1) := by decide +kernel
theorem d1_73 : decode prog_23_method_1_code 73 = .ok (.ldc2_w 37, 3) := by decide +kernel
theorem d1_76 : decode prog_23_method_1_code 76 = .ok (.ldiv, 1) := by decide +kernel
theorem d1_77 : decode prog_23_method_1_code 77 = .ok (.l2i, 1) := by decide +kernel
theorem d1_78 : decode prog_23_method_1_code 78 = .ok (.newarray .long, 2) := by decide +kernel
theorem d1_80 : decode prog_23_method_1_code 80 = .ok (.putfield 39, 3) := by decide +kernel
theorem d1_83 : decode prog_23_method_1_code 83 = .ok (.return_, 1) := by decide +kernel
theorem ef_1 (m : MethodId) (x0 : Addr) (x1 : Int64) (x2 : Int32) : entryFrame m #[(.ref x0), (.long x1), (.int x2)] 6 = mkF m 0 #[.val (.ref x0), .val (.long x1), .second, .val (.int x2), .unset, .unset] [] := by first | (simp [entryFrame, mkF, argsToLocals, Value.category]; done) | rfl
def Q1 (Z : State) (x0 : Addr) (x1 : Int64) (x2 : Int32) (u_length : Value) (u_width : Value) (u_mask : Value) (u_words : Value) (h0 : Heap) (n0 : Nat) (v : Option Value) (h : Heap) (L : List Loc) : Prop := ∃ b : Addr, v = none ∧ Fr n0 L ∧ Keep h0 h [x0] ∧ h0.size ≤ b ∧ n0 ≤ b ∧ Fld Z h x0 "com/example/bloom_filter_variants/bloomfiltervariants/PackedArray" "length" "J" (.long x1) ∧ Fld Z h x0 "com/example/bloom_filter_variants/bloomfiltervariants/PackedArray" "width" "I" (.int x2) ∧ Fld Z h x0 "com/example/bloom_filter_variants/bloomfiltervariants/PackedArray" "mask" "J" (.long (((-1 : Int64).toUInt64 >>> (((64 : Int32) - x2) &&& 0x3f).toInt64.toUInt64).toInt64)) ∧ Fld Z h x0 "com/example/bloom_filter_variants/bloomfiltervariants/PackedArray" "words" "[J" (.ref b) ∧ VArr Z h b .long [.long (0 : Int64), .long (0 : Int64)]
set_option maxRecDepth 65536 in
set_option maxHeartbeats 40000000 in
theorem rm1 (l : Launch) (Z : State) (a0 : Array Value) (hw : ∀ d ∈ tables_1, d.before a0 Z = true) (ws : List Jvm.Cond) (x0 : Addr) (x1 : Int64) (x2 : Int32) (u_length : Value) (u_width : Value) (u_mask : Value) (u_words : Value) (h0 : Heap) (n0 : Nat) (Z0 : n0 ≤ h0.size) (E_a : Exa Z h0 x0 "com/example/bloom_filter_variants/bloomfiltervariants/PackedArray") (g_a : n0 ≤ x0) (F_length : Fld Z h0 x0 "com/example/bloom_filter_variants/bloomfiltervariants/PackedArray" "length" "J" u_length) (F_width : Fld Z h0 x0 "com/example/bloom_filter_variants/bloomfiltervariants/PackedArray" "width" "I" u_width) (F_mask : Fld Z h0 x0 "com/example/bloom_filter_variants/bloomfiltervariants/PackedArray" "mask" "J" u_mask) (F_words : Fld Z h0 x0 "com/example/bloom_filter_variants/bloomfiltervariants/PackedArray" "words" "[J" u_words) (hw1 : ¬ x2 < 1) (hw2 : ¬ 64 < x2) (hnz : (x2.toInt64) ≠ (0 : Int64)) (hl0 : ¬ x1 < 0) (hl1 : ¬ ((137438952896 : Int64) / (x2.toInt64)) < x1) (hz : ((((x1 * (x2.toInt64)) + (64 : Int64)) - (1 : Int64)) / (64 : Int64)).toInt32 = (2 : Int32)) (hz0 : ¬ (2 : Int32) < 0) (hz1 : ((2 : Int32)).toNatClampNeg ≤ 2) :
    MetFree l (⟨"com/example/bloom_filter_variants/bloomfiltervariants/PackedArray", "<init>", "(JI)V"⟩ : MethodName) (head1 (Jvm.Cond.code (⟨"com/example/bloom_filter_variants/bloomfiltervariants/PackedArray", "<init>", "(JI)V"⟩ : MethodName) prog_23_method_1_code 6 none :: ws) ({ frames := 1, cells := 1, slots := 2, locals := 12 } : Room)) (fun a U => a = #[(.ref x0), (.long x1), (.int x2)] ∧ Z.Warmed39 U.vm ∧ U.heap = h0) (fun _ _ _ _ _ => True) (fun _ U o U' => ∃ v L, o = .returned v ∧ Q1 Z x0 x1 x2 u_length u_width u_mask u_words h0 n0 v U'.heap L ∧ FrameEnd U o U' L ({ frames := 1, cells := 1, slots := 2, locals := 12 } : Room).cells ({ frames := 1, cells := 1, slots := 2, locals := 12 } : Room).slots) := by
  refine MetFree.of_bodySF (plainFor_of_name pn_0) hisR ?_
  intro p e s m args below meth c s₁ Bd hml0 hP hK
  obtain ⟨rfl, hZ, hh⟩ := hP
  have hx := Bd.exec
  have hby := Bd.bytes
  have hml : c.maxLocals = 6 := hml0
  have hown : s.vm.findClass "com/example/bloom_filter_variants/bloomfiltervariants/PackedArray" = some m.cls := findClass_of_methodNamed Bd.named
  have hnm := (name_of_methodNamed Bd.named Bd.method).1
  have hk : meth.locks = false := BodyLoose.notSynchronized Bd
  have X0 : Stand p l e ({ frames := 1, cells := 1, slots := 2, locals := 12 } : Room) s m #[(.ref x0), (.long x1), (.int x2)] below meth c s₁ [] 0 0 := Stand.of_body Bd
  have e0 : s₁.heap = h0 := by rw [← hh, Bd.state]; rfl
  have N0 := Fr.nil n0
  show Go p e below s (Q1 Z x0 x1 x2 u_length u_width u_mask u_words h0 n0) ({ frames := 1, cells := 1, slots := 2, locals := 12 } : Room).cells ({ frames := 1, cells := 1, slots := 2, locals := 12 } : Room).slots s₁ (entryFrame m #[(.ref x0), (.long x1), (.int x2)] 6)
  refine Go.cast (ef_1 m x0 x1 x2) ?_
  refine Go.of (T' := s₁) (f' := (mkF m 1 #[.val (.ref x0), .val (.long x1), .second, .val (.int x2), .unset, .unset] [(.ref x0)])) (fun t k => XS.aloadN X0.here hx rfl (hb hby d1_0) rfl rfl k) ?_
  obtain ⟨T1, X1, e1, st1⟩ := initO X0 hx hZ hown (hw _ (List.mem_of_getElem? (i := 8) rfl)) (hw _ (List.mem_of_getElem? (i := 9) rfl)) (hw _ (List.mem_of_getElem? (i := 10) rfl)) e0 (g := (mkF m 1 #[.val (.ref x0), .val (.long x1), .second, .val (.int x2), .unset, .unset] [(.ref x0)])) rfl (by rw [hml]; rfl) rfl (hb hby d1_1) (by decide) (W := 0) (by show 2 * 0 + _ ≤ _; exact Nat.le_of_eq rfl) (by decide)
  refine Go.of (T' := T1) (f' := (mkF m 4 #[.val (.ref x0), .val (.long x1), .second, .val (.int x2), .unset, .unset] [])) (fun t k => st1 t k) ?_
  refine Go.of (T' := T1) (f' := (mkF m 5 #[.val (.ref x0), .val (.long x1), .second, .val (.int x2), .unset, .unset] [(.int x2)])) (fun t k => XS.iloadN X1.here hx rfl (hb hby d1_4) rfl k) ?_
  obtain ⟨_, _, ⟨T2, L2, k2, n2⟩, -, X2, ⟨Lc2, hQ2, l2, y2, z2⟩, st2⟩ := Jvm.LawKit.callS X1 hx (y := (⟨"com/example/bloom_filter_variants/bloomfiltervariants/PackedArray", "maxLength", "(I)J"⟩ : MethodName)) hown (mvT hZ (hw _ (List.mem_of_getElem? (i := 11) rfl))) (mvT hZ (hw _ (List.mem_of_getElem? (i := 12) rfl))) (mvT hZ (hw _ (List.mem_of_getElem? (i := 4) rfl))) (mvT hZ (hw _ (List.mem_of_getElem? (i := 13) rfl))) (by decide) (backOf (W := 0) (rm3 l Z a0 hw [] x2 h0 n0 Z0 hw1 hw2 hnz) hZ (hw _ (List.mem_of_getElem? (i := 13) rfl)) (hw _ (List.mem_of_getElem? (i := 4) rfl)) (by decide) (by decide)) (g := (mkF m 5 #[.val (.ref x0), .val (.long x1), .second, .val (.int x2), .unset, .unset] [(.int x2)])) rfl (by rw [hml]; rfl) (argsL := [(.int x2)]) (rest := []) (lenOf pd_0 rfl) rfl (by show 2 * 0 + _ ≤ _; exact Nat.le_of_eq rfl) (hb hby d1_5) (fun _ _ => ⟨rfl, e1, (by decide : 0 + 0 ≤ _), (by decide : 0 + 0 ≤ _)⟩)
  dsimp only [Pt.U, Pt.locs, Pt.cells, Pt.slots] at X2 l2 y2 z2 st2 hQ2
  subst l2 y2 z2
  obtain ⟨rfl, N2q, e2⟩ := hQ2
  have N2 := Fr.app N0 N2q
  refine Go.of (T' := T2) (f' := (mkF m 8 #[.val (.ref x0), .val (.long x1), .second, .val (.int x2), .unset, .unset] [(.long ((137438952896 : Int64) / (x2.toInt64)))])) (fun t k => st2 t k) ?_
  refine Go.of (T' := T2) (f' := (mkF m 10 #[.val (.ref x0), .val (.long x1), .second, .val (.int x2), .val (.long ((137438952896 : Int64) / (x2.toInt64))), .second] [])) (fun t k => XS.lstore X2.here hx rfl (hb hby d1_8) rfl (l' := #[.val (.ref x0), .val (.long x1), .second, .val (.int x2), .val (.long ((137438952896 : Int64) / (x2.toInt64))), .second]) rfl k) ?_
  refine Go.of (T' := T2) (f' := (mkF m 11 #[.val (.ref x0), .val (.long x1), .second, .val (.int x2), .val (.long ((137438952896 : Int64) / (x2.toInt64))), .second] [(.long x1)])) (fun t k => XS.lloadN X2.here hx rfl (hb hby d1_10) rfl k) ?_
  refine Go.of (T' := T2) (f' := (mkF m 12 #[.val (.ref x0), .val (.long x1), .second, .val (.int x2), .val (.long ((137438952896 : Int64) / (x2.toInt64))), .second] [(.long (0 : Int64)), (.long x1)])) (fun t k => XS.lconst X2.here hx rfl (hb hby d1_11) k) ?_
  refine Go.of (T' := T2) (f' := (mkF m 13 #[.val (.ref x0), .val (.long x1), .second, .val (.int x2), .val (.long ((137438952896 : Int64) / (x2.toInt64))), .second] [(.int (lcmpW x1 (0 : Int64)))])) (fun t k => XS.lcmp X2.here hx rfl (hb hby d1_12) rfl k) ?_
  have hc13 : ¬ (x1 < (0 : Int64)) := hl0
  refine Go.of (T' := T2) (f' := (mkF m 16 #[.val (.ref x0), .val (.long x1), .second, .val (.int x2), .val (.long ((137438952896 : Int64) / (x2.toInt64))), .second] [])) (fun t k => XS.ifNo X2.here hx rfl (hb hby d1_13) rfl (lc_lt_f hc13) k) ?_
  refine Go.of (T' := T2) (f' := (mkF m 17 #[.val (.ref x0), .val (.long x1), .second, .val (.int x2), .val (.long ((137438952896 : Int64) / (x2.toInt64))), .second] [(.long x1)])) (fun t k => XS.lloadN X2.here hx rfl (hb hby d1_16) rfl k) ?_
  refine Go.of (T' := T2) (f' := (mkF m 19 #[.val (.ref x0), .val (.long x1), .second, .val (.int x2), .val (.long ((137438952896 : Int64) / (x2.toInt64))), .second] [(.long ((137438952896 : Int64) / (x2.toInt64))), (.long x1)])) (fun t k => XS.lload X2.here hx rfl (hb hby d1_17) rfl k) ?_
  refine Go.of (T' := T2) (f' := (mkF m 20 #[.val (.ref x0), .val (.long x1), .second, .val (.int x2), .val (.long ((137438952896 : Int64) / (x2.toInt64))), .second] [(.int (lcmpW x1 ((137438952896 : Int64) / (x2.toInt64))))])) (fun t k => XS.lcmp X2.here hx rfl (hb hby d1_19) rfl k) ?_
  have hc20 : ¬ (((137438952896 : Int64) / (x2.toInt64)) < x1) := hl1
  refine Go.of (T' := T2) (f' := (mkF m 40 #[.val (.ref x0), .val (.long x1), .second, .val (.int x2), .val (.long ((137438952896 : Int64) / (x2.toInt64))), .second] [])) (fun t k => XS.ifYes X2.here hx rfl (pc0 := 20) (pc' := 40) rfl (hb hby d1_20) rfl (lc_le_t hc20) (by decide) (by decide) k) ?_
  refine Go.of (T' := T2) (f' := (mkF m 41 #[.val (.ref x0), .val (.long x1), .second, .val (.int x2), .val (.long ((137438952896 : Int64) / (x2.toInt64))), .second] [(.ref x0)])) (fun t k => XS.aloadN X2.here hx rfl (hb hby d1_40) rfl rfl k) ?_
  refine Go.of (T' := T2) (f' := (mkF m 42 #[.val (.ref x0), .val (.long x1), .second, .val (.int x2), .val (.long ((137438952896 : Int64) / (x2.toInt64))), .second] [(.long x1), (.ref x0)])) (fun t k => XS.lloadN X2.here hx rfl (hb hby d1_41) rfl k) ?_
  obtain ⟨T3, h3, X3, e3, W3, st3⟩ := putF X2 hx hZ hown (host := "") (Or.inl (hw _ (List.mem_of_getElem? (i := 15) rfl))) Via.refl e2 F_length E_a (Or.inr ⟨(hw _ (List.mem_of_getElem? (i := 16) rfl)), rfl, hnm⟩) (hw _ (List.mem_of_getElem? (i := 3) rfl)) (ty := .long) (by decide) rfl rfl (g := (mkF m 42 #[.val (.ref x0), .val (.long x1), .second, .val (.int x2), .val (.long ((137438952896 : Int64) / (x2.toInt64))), .second] [(.long x1), (.ref x0)])) rfl rfl (hb hby d1_42)
  have Fw3 : Fld Z h3 x0 "com/example/bloom_filter_variants/bloomfiltervariants/PackedArray" "length" "J" (.long x1) := F_length.same W3
  have F3_x0_width : Fld Z h3 x0 "com/example/bloom_filter_variants/bloomfiltervariants/PackedArray" "width" "I" u_width := F_width.other W3 (Or.inr (slot_ne (Or.inr (hw _ (List.mem_of_getElem? (i := 18) rfl))) (Or.inr (hw _ (List.mem_of_getElem? (i := 16) rfl))) (by decide) (t := .int) (t' := .long) (by decide) (by decide)))
  have F3_x0_mask : Fld Z h3 x0 "com/example/bloom_filter_variants/bloomfiltervariants/PackedArray" "mask" "J" u_mask := F_mask.other W3 (Or.inr (slot_ne (Or.inr (hw _ (List.mem_of_getElem? (i := 21) rfl))) (Or.inr (hw _ (List.mem_of_getElem? (i := 16) rfl))) (by decide) (t := .long) (t' := .long) (by decide) (by decide)))
  have F3_x0_words : Fld Z h3 x0 "com/example/bloom_filter_variants/bloomfiltervariants/PackedArray" "words" "[J" u_words := F_words.other W3 (Or.inr (slot_ne (Or.inr (hw _ (List.mem_of_getElem? (i := 25) rfl))) (Or.inr (hw _ (List.mem_of_getElem? (i := 16) rfl))) (by decide) (t := (.array .long)) (t' := .long) (by decide) (by decide)))
  have Ex3_x0 : Exa Z h3 x0 "com/example/bloom_filter_variants/bloomfiltervariants/PackedArray" := E_a.wr W3
  have N3 := Fr.snoc X3 N2 g_a
  have KK3 : Keep h0 h3 [x0] := (Keep.refl h0 [x0]).wr W3 (Or.inl (List.mem_of_getElem? (i := 0) rfl))
  have ZS3 : n0 ≤ h3.size := Nat.le_trans Z0 (Keep.of_wr W3).1
  refine Go.of (T' := T3) (f' := (mkF m 45 #[.val (.ref x0), .val (.long x1), .second, .val (.int x2), .val (.long ((137438952896 : Int64) / (x2.toInt64))), .second] [])) (fun t k => st3 t k) ?_
  refine Go.of (T' := T3) (f' := (mkF m 46 #[.val (.ref x0), .val (.long x1), .second, .val (.int x2), .val (.long ((137438952896 : Int64) / (x2.toInt64))), .second] [(.ref x0)])) (fun t k => XS.aloadN X3.here hx rfl (hb hby d1_45) rfl rfl k) ?_
  refine Go.of (T' := T3) (f' := (mkF m 47 #[.val (.ref x0), .val (.long x1), .second, .val (.int x2), .val (.long ((137438952896 : Int64) / (x2.toInt64))), .second] [(.int x2), (.ref x0)])) (fun t k => XS.iloadN X3.here hx rfl (hb hby d1_46) rfl k) ?_
  obtain ⟨T4, h4, X4, e4, W4, st4⟩ := putF X3 hx hZ hown (host := "") (Or.inl (hw _ (List.mem_of_getElem? (i := 17) rfl))) Via.refl e3 F3_x0_width Ex3_x0 (Or.inr ⟨(hw _ (List.mem_of_getElem? (i := 18) rfl)), rfl, hnm⟩) (hw _ (List.mem_of_getElem? (i := 3) rfl)) (ty := .int) (by decide) rfl rfl (g := (mkF m 47 #[.val (.ref x0), .val (.long x1), .second, .val (.int x2), .val (.long ((137438952896 : Int64) / (x2.toInt64))), .second] [(.int x2), (.ref x0)])) rfl rfl (hb hby d1_47)
  have Fw4 : Fld Z h4 x0 "com/example/bloom_filter_variants/bloomfiltervariants/PackedArray" "width" "I" (.int x2) := F3_x0_width.same W4
  have F4_x0_length : Fld Z h4 x0 "com/example/bloom_filter_variants/bloomfiltervariants/PackedArray" "length" "J" (.long x1) := Fw3.other W4 (Or.inr (slot_ne (Or.inr (hw _ (List.mem_of_getElem? (i := 16) rfl))) (Or.inr (hw _ (List.mem_of_getElem? (i := 18) rfl))) (by decide) (t := .long) (t' := .int) (by decide) (by decide)))
  have F4_x0_mask : Fld Z h4 x0 "com/example/bloom_filter_variants/bloomfiltervariants/PackedArray" "mask" "J" u_mask := F3_x0_mask.other W4 (Or.inr (slot_ne (Or.inr (hw _ (List.mem_of_getElem? (i := 21) rfl))) (Or.inr (hw _ (List.mem_of_getElem? (i := 18) rfl))) (by decide) (t := .long) (t' := .int) (by decide) (by decide)))
  have F4_x0_words : Fld Z h4 x0 "com/example/bloom_filter_variants/bloomfiltervariants/PackedArray" "words" "[J" u_words := F3_x0_words.other W4 (Or.inr (slot_ne (Or.inr (hw _ (List.mem_of_getElem? (i := 25) rfl))) (Or.inr (hw _ (List.mem_of_getElem? (i := 18) rfl))) (by decide) (t := (.array .long)) (t' := .int) (by decide) (by decide)))
  have Ex4_x0 : Exa Z h4 x0 "com/example/bloom_filter_variants/bloomfiltervariants/PackedArray" := Ex3_x0.wr W4
  have N4 := Fr.snoc X4 N3 g_a
  have KK4 : Keep h0 h4 [x0] := KK3.wr W4 (Or.inl (List.mem_of_getElem? (i := 0) rfl))
  have ZS4 : n0 ≤ h4.size := Nat.le_trans ZS3 (Keep.of_wr W4).1
  refine Go.of (T' := T4) (f' := (mkF m 50 #[.val (.ref x0), .val (.long x1), .second, .val (.int x2), .val (.long ((137438952896 : Int64) / (x2.toInt64))), .second] [])) (fun t k => st4 t k) ?_
  refine Go.of (T' := T4) (f' := (mkF m 51 #[.val (.ref x0), .val (.long x1), .second, .val (.int x2), .val (.long ((137438952896 : Int64) / (x2.toInt64))), .second] [(.ref x0)])) (fun t k => XS.aloadN X4.here hx rfl (hb hby d1_50) rfl rfl k) ?_
  refine Go.of (T' := T4) (f' := (mkF m 54 #[.val (.ref x0), .val (.long x1), .second, .val (.int x2), .val (.long ((137438952896 : Int64) / (x2.toInt64))), .second] [(.long (-1 : Int64)), (.ref x0)])) (fun t k => X4.ldc2Long hx hown (mvT hZ (hw _ (List.mem_of_getElem? (i := 19) rfl))) (g := (mkF m 51 #[.val (.ref x0), .val (.long x1), .second, .val (.int x2), .val (.long ((137438952896 : Int64) / (x2.toInt64))), .second] [(.ref x0)])) rfl (hb hby d1_51) t k) ?_
  refine Go.of (T' := T4) (f' := (mkF m 56 #[.val (.ref x0), .val (.long x1), .second, .val (.int x2), .val (.long ((137438952896 : Int64) / (x2.toInt64))), .second] [(.int (64 : Int32)), (.long (-1 : Int64)), (.ref x0)])) (fun t k => XS.bipush X4.here hx rfl (hb hby d1_54) k) ?_
  refine Go.of (T' := T4) (f' := (mkF m 57 #[.val (.ref x0), .val (.long x1), .second, .val (.int x2), .val (.long ((137438952896 : Int64) / (x2.toInt64))), .second] [(.int x2), (.int (64 : Int32)), (.long (-1 : Int64)), (.ref x0)])) (fun t k => XS.iloadN X4.here hx rfl (hb hby d1_56) rfl k) ?_
  refine Go.of (T' := T4) (f' := (mkF m 58 #[.val (.ref x0), .val (.long x1), .second, .val (.int x2), .val (.long ((137438952896 : Int64) / (x2.toInt64))), .second] [(.int ((64 : Int32) - x2)), (.long (-1 : Int64)), (.ref x0)])) (fun t k => XS.isub X4.here hx rfl (hb hby d1_57) rfl k) ?_
  refine Go.of (T' := T4) (f' := (mkF m 59 #[.val (.ref x0), .val (.long x1), .second, .val (.int x2), .val (.long ((137438952896 : Int64) / (x2.toInt64))), .second] [(.long (((-1 : Int64).toUInt64 >>> (((64 : Int32) - x2) &&& 0x3f).toInt64.toUInt64).toInt64)), (.ref x0)])) (fun t k => XS.lushr X4.here hx rfl (hb hby d1_58) rfl k) ?_
  obtain ⟨T5, h5, X5, e5, W5, st5⟩ := putF X4 hx hZ hown (host := "") (Or.inl (hw _ (List.mem_of_getElem? (i := 20) rfl))) Via.refl e4 F4_x0_mask Ex4_x0 (Or.inr ⟨(hw _ (List.mem_of_getElem? (i := 21) rfl)), rfl, hnm⟩) (hw _ (List.mem_of_getElem? (i := 3) rfl)) (ty := .long) (by decide) rfl rfl (g := (mkF m 59 #[.val (.ref x0), .val (.long x1), .second, .val (.int x2), .val (.long ((137438952896 : Int64) / (x2.toInt64))), .second] [(.long (((-1 : Int64).toUInt64 >>> (((64 : Int32) - x2) &&& 0x3f).toInt64.toUInt64).toInt64)), (.ref x0)])) rfl rfl (hb hby d1_59)
  have Fw5 : Fld Z h5 x0 "com/example/bloom_filter_variants/bloomfiltervariants/PackedArray" "mask" "J" (.long (((-1 : Int64).toUInt64 >>> (((64 : Int32) - x2) &&& 0x3f).toInt64.toUInt64).toInt64)) := F4_x0_mask.same W5
  have F5_x0_length : Fld Z h5 x0 "com/example/bloom_filter_variants/bloomfiltervariants/PackedArray" "length" "J" (.long x1) := F4_x0_length.other W5 (Or.inr (slot_ne (Or.inr (hw _ (List.mem_of_getElem? (i := 16) rfl))) (Or.inr (hw _ (List.mem_of_getElem? (i := 21) rfl))) (by decide) (t := .long) (t' := .long) (by decide) (by decide)))
  have F5_x0_width : Fld Z h5 x0 "com/example/bloom_filter_variants/bloomfiltervariants/PackedArray" "width" "I" (.int x2) := Fw4.other W5 (Or.inr (slot_ne (Or.inr (hw _ (List.mem_of_getElem? (i := 18) rfl))) (Or.inr (hw _ (List.mem_of_getElem? (i := 21) rfl))) (by decide) (t := .int) (t' := .long) (by decide) (by decide)))
  have F5_x0_words : Fld Z h5 x0 "com/example/bloom_filter_variants/bloomfiltervariants/PackedArray" "words" "[J" u_words := F4_x0_words.other W5 (Or.inr (slot_ne (Or.inr (hw _ (List.mem_of_getElem? (i := 25) rfl))) (Or.inr (hw _ (List.mem_of_getElem? (i := 21) rfl))) (by decide) (t := (.array .long)) (t' := .long) (by decide) (by decide)))
  have Ex5_x0 : Exa Z h5 x0 "com/example/bloom_filter_variants/bloomfiltervariants/PackedArray" := Ex4_x0.wr W5
  have N5 := Fr.snoc X5 N4 g_a
  have KK5 : Keep h0 h5 [x0] := KK4.wr W5 (Or.inl (List.mem_of_getElem? (i := 0) rfl))
  have ZS5 : n0 ≤ h5.size := Nat.le_trans ZS4 (Keep.of_wr W5).1
  refine Go.of (T' := T5) (f' := (mkF m 62 #[.val (.ref x0), .val (.long x1), .second, .val (.int x2), .val (.long ((137438952896 : Int64) / (x2.toInt64))), .second] [])) (fun t k => st5 t k) ?_
  refine Go.of (T' := T5) (f' := (mkF m 63 #[.val (.ref x0), .val (.long x1), .second, .val (.int x2), .val (.long ((137438952896 : Int64) / (x2.toInt64))), .second] [(.ref x0)])) (fun t k => XS.aloadN X5.here hx rfl (hb hby d1_62) rfl rfl k) ?_
  refine Go.of (T' := T5) (f' := (mkF m 64 #[.val (.ref x0), .val (.long x1), .second, .val (.int x2), .val (.long ((137438952896 : Int64) / (x2.toInt64))), .second] [(.long x1), (.ref x0)])) (fun t k => XS.lloadN X5.here hx rfl (hb hby d1_63) rfl k) ?_
  refine Go.of (T' := T5) (f' := (mkF m 65 #[.val (.ref x0), .val (.long x1), .second, .val (.int x2), .val (.long ((137438952896 : Int64) / (x2.toInt64))), .second] [(.int x2), (.long x1), (.ref x0)])) (fun t k => XS.iloadN X5.here hx rfl (hb hby d1_64) rfl k) ?_
  refine Go.of (T' := T5) (f' := (mkF m 66 #[.val (.ref x0), .val (.long x1), .second, .val (.int x2), .val (.long ((137438952896 : Int64) / (x2.toInt64))), .second] [(.long (x2.toInt64)), (.long x1), (.ref x0)])) (fun t k => XS.i2l X5.here hx rfl (hb hby d1_65) rfl k) ?_
  refine Go.of (T' := T5) (f' := (mkF m 67 #[.val (.ref x0), .val (.long x1), .second, .val (.int x2), .val (.long ((137438952896 : Int64) / (x2.toInt64))), .second] [(.long (x1 * (x2.toInt64))), (.ref x0)])) (fun t k => XS.lmul X5.here hx rfl (hb hby d1_66) rfl k) ?_
  refine Go.of (T' := T5) (f' := (mkF m 70 #[.val (.ref x0), .val (.long x1), .second, .val (.int x2), .val (.long ((137438952896 : Int64) / (x2.toInt64))), .second] [(.long (64 : Int64)), (.long (x1 * (x2.toInt64))), (.ref x0)])) (fun t k => X5.ldc2Long hx hown (mvT hZ (hw _ (List.mem_of_getElem? (i := 22) rfl))) (g := (mkF m 67 #[.val (.ref x0), .val (.long x1), .second, .val (.int x2), .val (.long ((137438952896 : Int64) / (x2.toInt64))), .second] [(.long (x1 * (x2.toInt64))), (.ref x0)])) rfl (hb hby d1_67) t k) ?_
  refine Go.of (T' := T5) (f' := (mkF m 71 #[.val (.ref x0), .val (.long x1), .second, .val (.int x2), .val (.long ((137438952896 : Int64) / (x2.toInt64))), .second] [(.long ((x1 * (x2.toInt64)) + (64 : Int64))), (.ref x0)])) (fun t k => XS.ladd X5.here hx rfl (hb hby d1_70) rfl k) ?_
  refine Go.of (T' := T5) (f' := (mkF m 72 #[.val (.ref x0), .val (.long x1), .second, .val (.int x2), .val (.long ((137438952896 : Int64) / (x2.toInt64))), .second] [(.long (1 : Int64)), (.long ((x1 * (x2.toInt64)) + (64 : Int64))), (.ref x0)])) (fun t k => XS.lconst X5.here hx rfl (hb hby d1_71) k) ?_
  refine Go.of (T' := T5) (f' := (mkF m 73 #[.val (.ref x0), .val (.long x1), .second, .val (.int x2), .val (.long ((137438952896 : Int64) / (x2.toInt64))), .second] [(.long (((x1 * (x2.toInt64)) + (64 : Int64)) - (1 : Int64))), (.ref x0)])) (fun t k => XS.lsub X5.here hx rfl (hb hby d1_72) rfl k) ?_
  refine Go.of (T' := T5) (f' := (mkF m 76 #[.val (.ref x0), .val (.long x1), .second, .val (.int x2), .val (.long ((137438952896 : Int64) / (x2.toInt64))), .second] [(.long (64 : Int64)), (.long (((x1 * (x2.toInt64)) + (64 : Int64)) - (1 : Int64))), (.ref x0)])) (fun t k => X5.ldc2Long hx hown (mvT hZ (hw _ (List.mem_of_getElem? (i := 22) rfl))) (g := (mkF m 73 #[.val (.ref x0), .val (.long x1), .second, .val (.int x2), .val (.long ((137438952896 : Int64) / (x2.toInt64))), .second] [(.long (((x1 * (x2.toInt64)) + (64 : Int64)) - (1 : Int64))), (.ref x0)])) rfl (hb hby d1_73) t k) ?_
  have nz76 : (64 : Int64) ≠ (0 : Int64) := by decide
  refine Go.of (T' := T5) (f' := (mkF m 77 #[.val (.ref x0), .val (.long x1), .second, .val (.int x2), .val (.long ((137438952896 : Int64) / (x2.toInt64))), .second] [(.long ((((x1 * (x2.toInt64)) + (64 : Int64)) - (1 : Int64)) / (64 : Int64))), (.ref x0)])) (fun t k => XS.ldiv X5.here hx rfl (hb hby d1_76) rfl nz76 k) ?_
  refine Go.of (T' := T5) (f' := (mkF m 78 #[.val (.ref x0), .val (.long x1), .second, .val (.int x2), .val (.long ((137438952896 : Int64) / (x2.toInt64))), .second] [(.int (((((x1 * (x2.toInt64)) + (64 : Int64)) - (1 : Int64)) / (64 : Int64)).toInt32)), (.ref x0)])) (fun t k => XS.l2i X5.here hx rfl (hb hby d1_77) rfl k) ?_
  rw [hz]
  obtain ⟨T6, h6, k6, X6, e6, E6, A6, st6⟩ := newP X5 hx hZ (hw _ (List.mem_of_getElem? (i := 23) rfl)) e5 (g := (mkF m 78 #[.val (.ref x0), .val (.long x1), .second, .val (.int x2), .val (.long ((137438952896 : Int64) / (x2.toInt64))), .second] [(.int (2 : Int32)), (.ref x0)])) rfl (hb hby d1_78) rfl (by decide) (cap := 2) (by decide) (by decide) (by decide) (by decide)
  obtain ⟨b6, gb6⟩ : ∃ z, z = h5.size := ⟨_, rfl⟩
  rw [← gb6] at A6 st6
  have g_b6 : n0 ≤ b6 := Nat.le_trans ZS5 (Nat.le_of_eq gb6.symm)
  have sz_b6 : h0.size ≤ b6 := Nat.le_trans KK5.1 (Nat.le_of_eq gb6.symm)
  have ne_x0_b6 : x0 ≠ b6 := Nat.ne_of_lt (Nat.lt_of_lt_of_le F5_x0_length.lt (Nat.le_of_eq gb6.symm))
  have ZS6 : n0 ≤ h6.size := Nat.le_trans ZS5 E6.1
  have KK6 : Keep h0 h6 [x0] := KK5.ext E6
  have F6_x0_length : Fld Z h6 x0 "com/example/bloom_filter_variants/bloomfiltervariants/PackedArray" "length" "J" (.long x1) := F5_x0_length.ext E6
  have F6_x0_width : Fld Z h6 x0 "com/example/bloom_filter_variants/bloomfiltervariants/PackedArray" "width" "I" (.int x2) := F5_x0_width.ext E6
  have F6_x0_mask : Fld Z h6 x0 "com/example/bloom_filter_variants/bloomfiltervariants/PackedArray" "mask" "J" (.long (((-1 : Int64).toUInt64 >>> (((64 : Int32) - x2) &&& 0x3f).toInt64.toUInt64).toInt64)) := Fw5.ext E6
  have F6_x0_words : Fld Z h6 x0 "com/example/bloom_filter_variants/bloomfiltervariants/PackedArray" "words" "[J" u_words := F5_x0_words.ext E6
  have Ex6_x0 : Exa Z h6 x0 "com/example/bloom_filter_variants/bloomfiltervariants/PackedArray" := Ex5_x0.ext E6
  have V6 : VArr Z h6 b6 .long [.long (0 : Int64), .long (0 : Int64)] := VArr.newL (i := 2) A6 (by decide)
  refine Go.of (T' := T6) (f' := (mkF m 80 #[.val (.ref x0), .val (.long x1), .second, .val (.int x2), .val (.long ((137438952896 : Int64) / (x2.toInt64))), .second] [(.ref b6), (.ref x0)])) (fun t k => st6 t k) ?_
  obtain ⟨T7, h7, X7, e7, W7, st7⟩ := putF X6 hx hZ hown (host := "") (Or.inl (hw _ (List.mem_of_getElem? (i := 24) rfl))) Via.refl e6 F6_x0_words Ex6_x0 (Or.inr ⟨(hw _ (List.mem_of_getElem? (i := 25) rfl)), rfl, hnm⟩) (hw _ (List.mem_of_getElem? (i := 3) rfl)) (ty := (.array .long)) (by decide) rfl rfl (g := (mkF m 80 #[.val (.ref x0), .val (.long x1), .second, .val (.int x2), .val (.long ((137438952896 : Int64) / (x2.toInt64))), .second] [(.ref b6), (.ref x0)])) rfl rfl (hb hby d1_80)
  have Fw7 : Fld Z h7 x0 "com/example/bloom_filter_variants/bloomfiltervariants/PackedArray" "words" "[J" (.ref b6) := F6_x0_words.same W7
  have F7_x0_length : Fld Z h7 x0 "com/example/bloom_filter_variants/bloomfiltervariants/PackedArray" "length" "J" (.long x1) := F6_x0_length.other W7 (Or.inr (slot_ne (Or.inr (hw _ (List.mem_of_getElem? (i := 16) rfl))) (Or.inr (hw _ (List.mem_of_getElem? (i := 25) rfl))) (by decide) (t := .long) (t' := (.array .long)) (by decide) (by decide)))
  have F7_x0_width : Fld Z h7 x0 "com/example/bloom_filter_variants/bloomfiltervariants/PackedArray" "width" "I" (.int x2) := F6_x0_width.other W7 (Or.inr (slot_ne (Or.inr (hw _ (List.mem_of_getElem? (i := 18) rfl))) (Or.inr (hw _ (List.mem_of_getElem? (i := 25) rfl))) (by decide) (t := .int) (t' := (.array .long)) (by decide) (by decide)))
  have F7_x0_mask : Fld Z h7 x0 "com/example/bloom_filter_variants/bloomfiltervariants/PackedArray" "mask" "J" (.long (((-1 : Int64).toUInt64 >>> (((64 : Int32) - x2) &&& 0x3f).toInt64.toUInt64).toInt64)) := F6_x0_mask.other W7 (Or.inr (slot_ne (Or.inr (hw _ (List.mem_of_getElem? (i := 21) rfl))) (Or.inr (hw _ (List.mem_of_getElem? (i := 25) rfl))) (by decide) (t := .long) (t' := (.array .long)) (by decide) (by decide)))
  have Ex7_x0 : Exa Z h7 x0 "com/example/bloom_filter_variants/bloomfiltervariants/PackedArray" := Ex6_x0.wr W7
  have V7_b6 : VArr Z h7 b6 .long [.long (0 : Int64), .long (0 : Int64)] := V6.other W7 (Ne.symm ne_x0_b6)
  have N7 := Fr.snoc X7 N5 g_a
  have KK7 : Keep h0 h7 [x0] := KK6.wr W7 (Or.inl (List.mem_of_getElem? (i := 0) rfl))
  have ZS7 : n0 ≤ h7.size := Nat.le_trans ZS6 (Keep.of_wr W7).1
  refine Go.of (T' := T7) (f' := (mkF m 83 #[.val (.ref x0), .val (.long x1), .second, .val (.int x2), .val (.long ((137438952896 : Int64) / (x2.toInt64))), .second] [])) (fun t k => st7 t k) ?_
  refine Go.retV X7 hx hk Bd.returns (hb hby d1_83) (by decide) (by decide) ?_
  rw [e7]
  exact ⟨b6, rfl, N7, KK7, sz_b6, g_b6, F7_x0_length, F7_x0_width, F7_x0_mask, Fw7, V7_b6⟩
theorem d4_0 : decode prog_23_method_7_code 0 = .ok (.aload_n 0, 1) := by decide +kernel
theorem d4_1 : decode prog_23_method_7_code 1 = .ok (.getfield 39, 3) := by decide +kernel
theorem d4_4 : decode prog_23_method_7_code 4 = .ok (.areturn, 1) := by decide +kernel
theorem ef_4 (m : MethodId) (x0 : Addr) : entryFrame m #[(.ref x0)] 1 = mkF m 0 #[.val (.ref x0)] [] := by first | (simp [entryFrame, mkF, argsToLocals, Value.category]; done) | rfl
def Q4 (Z : State) (x0 : Addr) (ub : Addr) (h0 : Heap) (n0 : Nat) (v : Option Value) (h : Heap) (L : List Loc) : Prop := v = some (.ref ub) ∧ Fr n0 L ∧ h = h0
set_option maxRecDepth 65536 in
set_option maxHeartbeats 40000000 in
theorem rm4 (l : Launch) (Z : State) (a0 : Array Value) (hw : ∀ d ∈ tables_1, d.before a0 Z = true) (ws : List Jvm.Cond) (x0 : Addr) (ub : Addr) (h0 : Heap) (n0 : Nat) (Z0 : n0 ≤ h0.size) (F_words : Fld Z h0 x0 "com/example/bloom_filter_variants/bloomfiltervariants/PackedArray" "words" "[J" (.ref ub)) :
    MetFree l (⟨"com/example/bloom_filter_variants/bloomfiltervariants/PackedArray", "words", "()[J"⟩ : MethodName) (head1 (Jvm.Cond.code (⟨"com/example/bloom_filter_variants/bloomfiltervariants/PackedArray", "words", "()[J"⟩ : MethodName) prog_23_method_7_code 1 (some (.array .long)) :: ws) ({ frames := 0, cells := 0, slots := 0, locals := 0 } : Room)) (fun a U => a = #[(.ref x0)] ∧ Z.Warmed39 U.vm ∧ U.heap = h0) (fun _ _ _ _ _ => True) (fun _ U o U' => ∃ v L, o = .returned v ∧ Q4 Z x0 ub h0 n0 v U'.heap L ∧ FrameEnd U o U' L ({ frames := 0, cells := 0, slots := 0, locals := 0 } : Room).cells ({ frames := 0, cells := 0, slots := 0, locals := 0 } : Room).slots) := by
  refine MetFree.of_bodySF (plainFor_of_name pn_0) hisR ?_
  intro p e s m args below meth c s₁ Bd hml0 hP hK
  obtain ⟨rfl, hZ, hh⟩ := hP
  have hx := Bd.exec
  have hby := Bd.bytes
  have hml : c.maxLocals = 1 := hml0
  have hown : s.vm.findClass "com/example/bloom_filter_variants/bloomfiltervariants/PackedArray" = some m.cls := findClass_of_methodNamed Bd.named
  have hnm := (name_of_methodNamed Bd.named Bd.method).1
  have hk : meth.locks = false := BodyLoose.notSynchronized Bd
  have X0 : Stand p l e ({ frames := 0, cells := 0, slots := 0, locals := 0 } : Room) s m #[(.ref x0)] below meth c s₁ [] 0 0 := Stand.of_body Bd
  have e0 : s₁.heap = h0 := by rw [← hh, Bd.state]; rfl
  have N0 := Fr.nil n0
  show Go p e below s (Q4 Z x0 ub h0 n0) ({ frames := 0, cells := 0, slots := 0, locals := 0 } : Room).cells ({ frames := 0, cells := 0, slots := 0, locals := 0 } : Room).slots s₁ (entryFrame m #[(.ref x0)] 1)
  refine Go.cast (ef_4 m x0) ?_
  refine Go.of (T' := s₁) (f' := (mkF m 1 #[.val (.ref x0)] [(.ref x0)])) (fun t k => XS.aloadN X0.here hx rfl (hb hby d4_0) rfl rfl k) ?_
  obtain ⟨T1, X1, e1, st1⟩ := getF X0 hx hZ hown (host := "") (Or.inl (hw _ (List.mem_of_getElem? (i := 24) rfl))) Via.refl e0 F_words (g := (mkF m 1 #[.val (.ref x0)] [(.ref x0)])) rfl rfl (hb hby d4_1)
  refine Go.of (T' := T1) (f' := (mkF m 4 #[.val (.ref x0)] [(.ref ub)])) (fun t k => st1 t k) ?_
  refine Go.retA X1 hx hk Bd.returns rfl (hb hby d4_4) (by decide) (by decide) ?_
  rw [e1]
  exact ⟨rfl, N0, rfl⟩
theorem d5_0 : decode prog_23_method_8_code 0 = .ok (.lload_n 1, 1) := by decide +kernel
theorem d5_1 : decode prog_23_method_8_code 1 = .ok (.aload_n 0, 1) := by decide +kernel
theorem d5_2 : decode prog_23_method_8_code 2 = .ok (.getfield 26, 3) := by decide +kernel
theorem d5_5 : decode prog_23_method_8_code 5 = .ok (.i2l, 1) := by decide +kernel
theorem d5_6 : decode prog_23_method_8_code 6 = .ok (.lmul, 1) := by decide +kernel
theorem d5_7 : decode prog_23_method_8_code 7 = .ok (.lstore_n 3, 1) := by decide +kernel
theorem d5_8 : decode prog_23_method_8_code 8 = .ok (.lload_n 3, 1) := by decide +kernel
theorem d5_9 : decode prog_23_method_8_code 9 = .ok (.bipush 6, 2) := by decide +kernel
theorem d5_11 : decode prog_23_method_8_code 11 = .ok (.lushr, 1) := by decide +kernel
theorem d5_12 : decode prog_23_method_8_code 12 = .ok (.l2i, 1) := by decide +kernel
theorem d5_13 : decode prog_23_method_8_code 13 = .ok (.istore 5, 2) := by decide +kernel
theorem d5_15 : decode prog_23_method_8_code 15 = .ok (.lload_n 3, 1) := by decide +kernel
theorem d5_16 : decode prog_23_method_8_code 16 = .ok (.l2i, 1) := by decide +kernel
theorem d5_17 : decode prog_23_method_8_code 17 = .ok (.bipush 63, 2) := by decide +kernel
theorem d5_19 : decode prog_23_method_8_code 19 = .ok (.iand, 1) := by decide +kernel
theorem d5_20 : decode prog_23_method_8_code 20 = .ok (.istore 6, 2) := by decide +kernel
theorem d5_22 : decode prog_23_method_8_code 22 = .ok (.aload_n 0, 1) := by decide +kernel
theorem d5_23 : decode prog_23_method_8_code 23 = .ok (.getfield 39, 3) := by decide +kernel
theorem d5_26 : decode prog_23_method_8_code 26 = .ok (.iload 5, 2) := by decide +kernel
theorem d5_28 : decode prog_23_method_8_code 28 = .ok (.laload, 1) := by decide +kernel
theorem d5_29 : decode prog_23_method_8_code 29 = .ok (.iload 6, 2) := by decide +kernel
theorem d5_31 : decode prog_23_method_8_code 31 = .ok (.lushr, 1) := by decide +kernel
theorem d5_32 : decode prog_23_method_8_code 32 = .ok (.lstore 7, 2) := by decide +kernel
theorem d5_34 : decode prog_23_method_8_code 34 = .ok (.iload 6, 2) := by decide +kernel
theorem d5_36 : decode prog_23_method_8_code 36 = .ok (.aload_n 0, 1) := by decide +kernel
theorem d5_37 : decode prog_23_method_8_code 37 = .ok (.getfield 26, 3) := by decide +kernel
theorem d5_40 : decode prog_23_method_8_code 40 = .ok (.iadd, 1) := by decide +kernel
theorem d5_41 : decode prog_23_method_8_code 41 = .ok (.bipush 64, 2) := by decide +kernel
theorem d5_43 : decode prog_23_method_8_code 43 = .ok (.if_icmp .le 23, 3) := by decide +kernel
theorem d5_46 : decode prog_23_method_8_code 46 = .ok (.lload 7, 2) := by decide +kernel
theorem d5_48 : decode prog_23_method_8_code 48 = .ok (.aload_n 0, 1) := by decide +kernel
theorem d5_49 : decode prog_23_method_8_code 49 = .ok (.getfield 39, 3) := by decide +kernel
theorem d5_52 : decode prog_23_method_8_code 52 = .ok (.iload 5, 2) := by decide +kernel
theorem d5_54 : decode prog_23_method_8_code 54 = .ok (.iconst 1, 1) := by decide +kernel
theorem d5_55 : decode prog_23_method_8_code 55 = .ok (.iadd, 1) := by decide +kernel
theorem d5_56 : decode prog_23_method_8_code 56 = .ok (.laload, 1) := by decide +kernel
theorem d5_57 : decode prog_23_method_8_code 57 = .ok (.bipush 64, 2) := by decide +kernel
theorem d5_59 : decode prog_23_method_8_code 59 = .ok (.iload 6, 2) := by decide +kernel
theorem d5_61 : decode prog_23_method_8_code 61 = .ok (.isub, 1) := by decide +kernel
theorem d5_62 : decode prog_23_method_8_code 62 = .ok (.lshl, 1) := by decide +kernel
theorem d5_63 : decode prog_23_method_8_code 63 = .ok (.lor, 1) := by decide +kernel
theorem d5_64 : decode prog_23_method_8_code 64 = .ok (.lstore 7, 2) := by decide +kernel
theorem d5_66 : decode prog_23_method_8_code 66 = .ok (.lload 7, 2) := by decide +kernel
theorem d5_68 : decode prog_23_method_8_code 68 = .ok (.aload_n 0, 1) := by decide +kernel
theorem d5_69 : decode prog_23_method_8_code 69 = .ok (.getfield 34, 3) := by decide +kernel
theorem d5_72 : decode prog_23_method_8_code 72 = .ok (.land, 1) := by decide +kernel
theorem d5_73 : decode prog_23_method_8_code 73 = .ok (.lreturn, 1) := by decide +kernel
theorem ef_5 (m : MethodId) (x0 : Addr) (x1 : Int64) : entryFrame m #[(.ref x0), (.long x1)] 9 = mkF m 0 #[.val (.ref x0), .val (.long x1), .second, .unset, .unset, .unset, .unset, .unset, .unset] [] := by first | (simp [entryFrame, mkF, argsToLocals, Value.category]; done) | rfl
def Q5 (Z : State) (x0 : Addr) (x1 : Int64) (uw : Int32) (um : Int64) (ub : Addr) (ws_ : List Int64) (a0_ : Int64) (a1_ : Int64) (h0 : Heap) (n0 : Nat) (v : Option Value) (h : Heap) (L : List Loc) : Prop := v = some (.long (getV x1 uw um a0_ a1_)) ∧ Fr n0 L ∧ h = h0
set_option maxRecDepth 65536 in
set_option maxHeartbeats 40000000 in
theorem rm5 (l : Launch) (Z : State) (a0 : Array Value) (hw : ∀ d ∈ tables_1, d.before a0 Z = true) (ws : List Jvm.Cond) (x0 : Addr) (x1 : Int64) (uw : Int32) (um : Int64) (ub : Addr) (ws_ : List Int64) (a0_ : Int64) (a1_ : Int64) (h0 : Heap) (n0 : Nat) (Z0 : n0 ≤ h0.size) (F_width : Fld Z h0 x0 "com/example/bloom_filter_variants/bloomfiltervariants/PackedArray" "width" "I" (.int uw)) (F_mask : Fld Z h0 x0 "com/example/bloom_filter_variants/bloomfiltervariants/PackedArray" "mask" "J" (.long um)) (F_words : Fld Z h0 x0 "com/example/bloom_filter_variants/bloomfiltervariants/PackedArray" "words" "[J" (.ref ub)) (V_b : VArr Z h0 ub .long (ws_.map Value.long)) (hn0 : ¬ wordI x1 uw < 0) (hw0 : ws_[(wordI x1 uw).toNatClampNeg]? = some a0_) (hw1 : (64 : Int32) < shI x1 uw + uw → ¬ (wordI x1 uw + 1) < 0 ∧ ws_[(wordI x1 uw + 1).toNatClampNeg]? = some a1_) :
    MetFree l (⟨"com/example/bloom_filter_variants/bloomfiltervariants/PackedArray", "get", "(J)J"⟩ : MethodName) (head1 (Jvm.Cond.code (⟨"com/example/bloom_filter_variants/bloomfiltervariants/PackedArray", "get", "(J)J"⟩ : MethodName) prog_23_method_8_code 9 (some .long) :: ws) ({ frames := 0, cells := 0, slots := 0, locals := 0 } : Room)) (fun a U => a = #[(.ref x0), (.long x1)] ∧ Z.Warmed39 U.vm ∧ U.heap = h0) (fun _ _ _ _ _ => True) (fun _ U o U' => ∃ v L, o = .returned v ∧ Q5 Z x0 x1 uw um ub ws_ a0_ a1_ h0 n0 v U'.heap L ∧ FrameEnd U o U' L ({ frames := 0, cells := 0, slots := 0, locals := 0 } : Room).cells ({ frames := 0, cells := 0, slots := 0, locals := 0 } : Room).slots) := by
  refine MetFree.of_bodySF (plainFor_of_name pn_0) hisR ?_
  intro p e s m args below meth c s₁ Bd hml0 hP hK
  obtain ⟨rfl, hZ, hh⟩ := hP
  have hx := Bd.exec
  have hby := Bd.bytes
  have hml : c.maxLocals = 9 := hml0
  have hown : s.vm.findClass "com/example/bloom_filter_variants/bloomfiltervariants/PackedArray" = some m.cls := findClass_of_methodNamed Bd.named
  have hnm := (name_of_methodNamed Bd.named Bd.method).1
  have hk : meth.locks = false := BodyLoose.notSynchronized Bd
  have X0 : Stand p l e ({ frames := 0, cells := 0, slots := 0, locals := 0 } : Room) s m #[(.ref x0), (.long x1)] below meth c s₁ [] 0 0 := Stand.of_body Bd
  have e0 : s₁.heap = h0 := by rw [← hh, Bd.state]; rfl
  have N0 := Fr.nil n0
  show Go p e below s (Q5 Z x0 x1 uw um ub ws_ a0_ a1_ h0 n0) ({ frames := 0, cells := 0, slots := 0, locals := 0 } : Room).cells ({ frames := 0, cells := 0, slots := 0, locals := 0 } : Room).slots s₁ (entryFrame m #[(.ref x0), (.long x1)] 9)
  refine Go.cast (ef_5 m x0 x1) ?_
  refine Go.of (T' := s₁) (f' := (mkF m 1 #[.val (.ref x0), .val (.long x1), .second, .unset, .unset, .unset, .unset, .unset, .unset] [(.long x1)])) (fun t k => XS.lloadN X0.here hx rfl (hb hby d5_0) rfl k) ?_
  refine Go.of (T' := s₁) (f' := (mkF m 2 #[.val (.ref x0), .val (.long x1), .second, .unset, .unset, .unset, .unset, .unset, .unset] [(.ref x0), (.long x1)])) (fun t k => XS.aloadN X0.here hx rfl (hb hby d5_1) rfl rfl k) ?_
  obtain ⟨T1, X1, e1, st1⟩ := getF X0 hx hZ hown (host := "") (Or.inl (hw _ (List.mem_of_getElem? (i := 17) rfl))) Via.refl e0 F_width (g := (mkF m 2 #[.val (.ref x0), .val (.long x1), .second, .unset, .unset, .unset, .unset, .unset, .unset] [(.ref x0), (.long x1)])) rfl rfl (hb hby d5_2)
  refine Go.of (T' := T1) (f' := (mkF m 5 #[.val (.ref x0), .val (.long x1), .second, .unset, .unset, .unset, .unset, .unset, .unset] [(.int uw), (.long x1)])) (fun t k => st1 t k) ?_
  refine Go.of (T' := T1) (f' := (mkF m 6 #[.val (.ref x0), .val (.long x1), .second, .unset, .unset, .unset, .unset, .unset, .unset] [(.long (uw.toInt64)), (.long x1)])) (fun t k => XS.i2l X1.here hx rfl (hb hby d5_5) rfl k) ?_
  refine Go.of (T' := T1) (f' := (mkF m 7 #[.val (.ref x0), .val (.long x1), .second, .unset, .unset, .unset, .unset, .unset, .unset] [(.long (x1 * (uw.toInt64)))])) (fun t k => XS.lmul X1.here hx rfl (hb hby d5_6) rfl k) ?_
  refine Go.of (T' := T1) (f' := (mkF m 8 #[.val (.ref x0), .val (.long x1), .second, .val (.long (x1 * (uw.toInt64))), .second, .unset, .unset, .unset, .unset] [])) (fun t k => XS.lstoreN X1.here hx rfl (hb hby d5_7) rfl (l' := #[.val (.ref x0), .val (.long x1), .second, .val (.long (x1 * (uw.toInt64))), .second, .unset, .unset, .unset, .unset]) rfl k) ?_
  refine Go.of (T' := T1) (f' := (mkF m 9 #[.val (.ref x0), .val (.long x1), .second, .val (.long (x1 * (uw.toInt64))), .second, .unset, .unset, .unset, .unset] [(.long (x1 * (uw.toInt64)))])) (fun t k => XS.lloadN X1.here hx rfl (hb hby d5_8) rfl k) ?_
  refine Go.of (T' := T1) (f' := (mkF m 11 #[.val (.ref x0), .val (.long x1), .second, .val (.long (x1 * (uw.toInt64))), .second, .unset, .unset, .unset, .unset] [(.int (6 : Int32)), (.long (x1 * (uw.toInt64)))])) (fun t k => XS.bipush X1.here hx rfl (hb hby d5_9) k) ?_
  refine Go.of (T' := T1) (f' := (mkF m 12 #[.val (.ref x0), .val (.long x1), .second, .val (.long (x1 * (uw.toInt64))), .second, .unset, .unset, .unset, .unset] [(.long (((x1 * (uw.toInt64)).toUInt64 >>> ((6 : Int32) &&& 0x3f).toInt64.toUInt64).toInt64))])) (fun t k => XS.lushr X1.here hx rfl (hb hby d5_11) rfl k) ?_
  refine Go.of (T' := T1) (f' := (mkF m 13 #[.val (.ref x0), .val (.long x1), .second, .val (.long (x1 * (uw.toInt64))), .second, .unset, .unset, .unset, .unset] [(.int ((((x1 * (uw.toInt64)).toUInt64 >>> ((6 : Int32) &&& 0x3f).toInt64.toUInt64).toInt64).toInt32))])) (fun t k => XS.l2i X1.here hx rfl (hb hby d5_12) rfl k) ?_
  refine Go.of (T' := T1) (f' := (mkF m 15 #[.val (.ref x0), .val (.long x1), .second, .val (.long (x1 * (uw.toInt64))), .second, .val (.int ((((x1 * (uw.toInt64)).toUInt64 >>> ((6 : Int32) &&& 0x3f).toInt64.toUInt64).toInt64).toInt32)), .unset, .unset, .unset] [])) (fun t k => XS.istore X1.here hx rfl (hb hby d5_13) rfl (l' := #[.val (.ref x0), .val (.long x1), .second, .val (.long (x1 * (uw.toInt64))), .second, .val (.int ((((x1 * (uw.toInt64)).toUInt64 >>> ((6 : Int32) &&& 0x3f).toInt64.toUInt64).toInt64).toInt32)), .unset, .unset, .unset]) rfl k) ?_
  refine Go.of (T' := T1) (f' := (mkF m 16 #[.val (.ref x0), .val (.long x1), .second, .val (.long (x1 * (uw.toInt64))), .second, .val (.int ((((x1 * (uw.toInt64)).toUInt64 >>> ((6 : Int32) &&& 0x3f).toInt64.toUInt64).toInt64).toInt32)), .unset, .unset, .unset] [(.long (x1 * (uw.toInt64)))])) (fun t k => XS.lloadN X1.here hx rfl (hb hby d5_15) rfl k) ?_
  refine Go.of (T' := T1) (f' := (mkF m 17 #[.val (.ref x0), .val (.long x1), .second, .val (.long (x1 * (uw.toInt64))), .second, .val (.int ((((x1 * (uw.toInt64)).toUInt64 >>> ((6 : Int32) &&& 0x3f).toInt64.toUInt64).toInt64).toInt32)), .unset, .unset, .unset] [(.int ((x1 * (uw.toInt64)).toInt32))])) (fun t k => XS.l2i X1.here hx rfl (hb hby d5_16) rfl k) ?_
  refine Go.of (T' := T1) (f' := (mkF m 19 #[.val (.ref x0), .val (.long x1), .second, .val (.long (x1 * (uw.toInt64))), .second, .val (.int ((((x1 * (uw.toInt64)).toUInt64 >>> ((6 : Int32) &&& 0x3f).toInt64.toUInt64).toInt64).toInt32)), .unset, .unset, .unset] [(.int (63 : Int32)), (.int ((x1 * (uw.toInt64)).toInt32))])) (fun t k => XS.bipush X1.here hx rfl (hb hby d5_17) k) ?_
  refine Go.of (T' := T1) (f' := (mkF m 20 #[.val (.ref x0), .val (.long x1), .second, .val (.long (x1 * (uw.toInt64))), .second, .val (.int ((((x1 * (uw.toInt64)).toUInt64 >>> ((6 : Int32) &&& 0x3f).toInt64.toUInt64).toInt64).toInt32)), .unset, .unset, .unset] [(.int (((x1 * (uw.toInt64)).toInt32) &&& (63 : Int32)))])) (fun t k => XS.iand X1.here hx rfl (hb hby d5_19) rfl k) ?_
  refine Go.of (T' := T1) (f' := (mkF m 22 #[.val (.ref x0), .val (.long x1), .second, .val (.long (x1 * (uw.toInt64))), .second, .val (.int ((((x1 * (uw.toInt64)).toUInt64 >>> ((6 : Int32) &&& 0x3f).toInt64.toUInt64).toInt64).toInt32)), .val (.int (((x1 * (uw.toInt64)).toInt32) &&& (63 : Int32))), .unset, .unset] [])) (fun t k => XS.istore X1.here hx rfl (hb hby d5_20) rfl (l' := #[.val (.ref x0), .val (.long x1), .second, .val (.long (x1 * (uw.toInt64))), .second, .val (.int ((((x1 * (uw.toInt64)).toUInt64 >>> ((6 : Int32) &&& 0x3f).toInt64.toUInt64).toInt64).toInt32)), .val (.int (((x1 * (uw.toInt64)).toInt32) &&& (63 : Int32))), .unset, .unset]) rfl k) ?_
  refine Go.of (T' := T1) (f' := (mkF m 23 #[.val (.ref x0), .val (.long x1), .second, .val (.long (x1 * (uw.toInt64))), .second, .val (.int ((((x1 * (uw.toInt64)).toUInt64 >>> ((6 : Int32) &&& 0x3f).toInt64.toUInt64).toInt64).toInt32)), .val (.int (((x1 * (uw.toInt64)).toInt32) &&& (63 : Int32))), .unset, .unset] [(.ref x0)])) (fun t k => XS.aloadN X1.here hx rfl (hb hby d5_22) rfl rfl k) ?_
  obtain ⟨T2, X2, e2, st2⟩ := getF X1 hx hZ hown (host := "") (Or.inl (hw _ (List.mem_of_getElem? (i := 24) rfl))) Via.refl e1 F_words (g := (mkF m 23 #[.val (.ref x0), .val (.long x1), .second, .val (.long (x1 * (uw.toInt64))), .second, .val (.int ((((x1 * (uw.toInt64)).toUInt64 >>> ((6 : Int32) &&& 0x3f).toInt64.toUInt64).toInt64).toInt32)), .val (.int (((x1 * (uw.toInt64)).toInt32) &&& (63 : Int32))), .unset, .unset] [(.ref x0)])) rfl rfl (hb hby d5_23)
  refine Go.of (T' := T2) (f' := (mkF m 26 #[.val (.ref x0), .val (.long x1), .second, .val (.long (x1 * (uw.toInt64))), .second, .val (.int ((((x1 * (uw.toInt64)).toUInt64 >>> ((6 : Int32) &&& 0x3f).toInt64.toUInt64).toInt64).toInt32)), .val (.int (((x1 * (uw.toInt64)).toInt32) &&& (63 : Int32))), .unset, .unset] [(.ref ub)])) (fun t k => st2 t k) ?_
  refine Go.of (T' := T2) (f' := (mkF m 28 #[.val (.ref x0), .val (.long x1), .second, .val (.long (x1 * (uw.toInt64))), .second, .val (.int ((((x1 * (uw.toInt64)).toUInt64 >>> ((6 : Int32) &&& 0x3f).toInt64.toUInt64).toInt64).toInt32)), .val (.int (((x1 * (uw.toInt64)).toInt32) &&& (63 : Int32))), .unset, .unset] [(.int ((((x1 * (uw.toInt64)).toUInt64 >>> ((6 : Int32) &&& 0x3f).toInt64.toUInt64).toInt64).toInt32)), (.ref ub)])) (fun t k => XS.iload X2.here hx rfl (hb hby d5_26) rfl k) ?_
  refine Go.of (T' := T2) (f' := (mkF m 29 #[.val (.ref x0), .val (.long x1), .second, .val (.long (x1 * (uw.toInt64))), .second, .val (.int ((((x1 * (uw.toInt64)).toUInt64 >>> ((6 : Int32) &&& 0x3f).toInt64.toUInt64).toInt64).toInt32)), .val (.int (((x1 * (uw.toInt64)).toInt32) &&& (63 : Int32))), .unset, .unset] [(.long a0_)])) (fun t k => ldJ X2 hx hZ e2 V_b (j := ((((x1 * (uw.toInt64)).toUInt64 >>> ((6 : Int32) &&& 0x3f).toInt64.toUInt64).toInt64).toInt32)) (v := (.long a0_)) hn0 rfl (atmap hw0) (g := (mkF m 28 #[.val (.ref x0), .val (.long x1), .second, .val (.long (x1 * (uw.toInt64))), .second, .val (.int ((((x1 * (uw.toInt64)).toUInt64 >>> ((6 : Int32) &&& 0x3f).toInt64.toUInt64).toInt64).toInt32)), .val (.int (((x1 * (uw.toInt64)).toInt32) &&& (63 : Int32))), .unset, .unset] [(.int ((((x1 * (uw.toInt64)).toUInt64 >>> ((6 : Int32) &&& 0x3f).toInt64.toUInt64).toInt64).toInt32)), (.ref ub)])) rfl rfl (hb hby d5_28) t k) ?_
  refine Go.of (T' := T2) (f' := (mkF m 31 #[.val (.ref x0), .val (.long x1), .second, .val (.long (x1 * (uw.toInt64))), .second, .val (.int ((((x1 * (uw.toInt64)).toUInt64 >>> ((6 : Int32) &&& 0x3f).toInt64.toUInt64).toInt64).toInt32)), .val (.int (((x1 * (uw.toInt64)).toInt32) &&& (63 : Int32))), .unset, .unset] [(.int (((x1 * (uw.toInt64)).toInt32) &&& (63 : Int32))), (.long a0_)])) (fun t k => XS.iload X2.here hx rfl (hb hby d5_29) rfl k) ?_
  refine Go.of (T' := T2) (f' := (mkF m 32 #[.val (.ref x0), .val (.long x1), .second, .val (.long (x1 * (uw.toInt64))), .second, .val (.int ((((x1 * (uw.toInt64)).toUInt64 >>> ((6 : Int32) &&& 0x3f).toInt64.toUInt64).toInt64).toInt32)), .val (.int (((x1 * (uw.toInt64)).toInt32) &&& (63 : Int32))), .unset, .unset] [(.long ((a0_.toUInt64 >>> ((((x1 * (uw.toInt64)).toInt32) &&& (63 : Int32)) &&& 0x3f).toInt64.toUInt64).toInt64))])) (fun t k => XS.lushr X2.here hx rfl (hb hby d5_31) rfl k) ?_
  refine Go.of (T' := T2) (f' := (mkF m 34 #[.val (.ref x0), .val (.long x1), .second, .val (.long (x1 * (uw.toInt64))), .second, .val (.int ((((x1 * (uw.toInt64)).toUInt64 >>> ((6 : Int32) &&& 0x3f).toInt64.toUInt64).toInt64).toInt32)), .val (.int (((x1 * (uw.toInt64)).toInt32) &&& (63 : Int32))), .val (.long ((a0_.toUInt64 >>> ((((x1 * (uw.toInt64)).toInt32) &&& (63 : Int32)) &&& 0x3f).toInt64.toUInt64).toInt64)), .second] [])) (fun t k => XS.lstore X2.here hx rfl (hb hby d5_32) rfl (l' := #[.val (.ref x0), .val (.long x1), .second, .val (.long (x1 * (uw.toInt64))), .second, .val (.int ((((x1 * (uw.toInt64)).toUInt64 >>> ((6 : Int32) &&& 0x3f).toInt64.toUInt64).toInt64).toInt32)), .val (.int (((x1 * (uw.toInt64)).toInt32) &&& (63 : Int32))), .val (.long ((a0_.toUInt64 >>> ((((x1 * (uw.toInt64)).toInt32) &&& (63 : Int32)) &&& 0x3f).toInt64.toUInt64).toInt64)), .second]) rfl k) ?_
  refine Go.of (T' := T2) (f' := (mkF m 36 #[.val (.ref x0), .val (.long x1), .second, .val (.long (x1 * (uw.toInt64))), .second, .val (.int ((((x1 * (uw.toInt64)).toUInt64 >>> ((6 : Int32) &&& 0x3f).toInt64.toUInt64).toInt64).toInt32)), .val (.int (((x1 * (uw.toInt64)).toInt32) &&& (63 : Int32))), .val (.long ((a0_.toUInt64 >>> ((((x1 * (uw.toInt64)).toInt32) &&& (63 : Int32)) &&& 0x3f).toInt64.toUInt64).toInt64)), .second] [(.int (((x1 * (uw.toInt64)).toInt32) &&& (63 : Int32)))])) (fun t k => XS.iload X2.here hx rfl (hb hby d5_34) rfl k) ?_
  refine Go.of (T' := T2) (f' := (mkF m 37 #[.val (.ref x0), .val (.long x1), .second, .val (.long (x1 * (uw.toInt64))), .second, .val (.int ((((x1 * (uw.toInt64)).toUInt64 >>> ((6 : Int32) &&& 0x3f).toInt64.toUInt64).toInt64).toInt32)), .val (.int (((x1 * (uw.toInt64)).toInt32) &&& (63 : Int32))), .val (.long ((a0_.toUInt64 >>> ((((x1 * (uw.toInt64)).toInt32) &&& (63 : Int32)) &&& 0x3f).toInt64.toUInt64).toInt64)), .second] [(.ref x0), (.int (((x1 * (uw.toInt64)).toInt32) &&& (63 : Int32)))])) (fun t k => XS.aloadN X2.here hx rfl (hb hby d5_36) rfl rfl k) ?_
  obtain ⟨T3, X3, e3, st3⟩ := getF X2 hx hZ hown (host := "") (Or.inl (hw _ (List.mem_of_getElem? (i := 17) rfl))) Via.refl e2 F_width (g := (mkF m 37 #[.val (.ref x0), .val (.long x1), .second, .val (.long (x1 * (uw.toInt64))), .second, .val (.int ((((x1 * (uw.toInt64)).toUInt64 >>> ((6 : Int32) &&& 0x3f).toInt64.toUInt64).toInt64).toInt32)), .val (.int (((x1 * (uw.toInt64)).toInt32) &&& (63 : Int32))), .val (.long ((a0_.toUInt64 >>> ((((x1 * (uw.toInt64)).toInt32) &&& (63 : Int32)) &&& 0x3f).toInt64.toUInt64).toInt64)), .second] [(.ref x0), (.int (((x1 * (uw.toInt64)).toInt32) &&& (63 : Int32)))])) rfl rfl (hb hby d5_37)
  refine Go.of (T' := T3) (f' := (mkF m 40 #[.val (.ref x0), .val (.long x1), .second, .val (.long (x1 * (uw.toInt64))), .second, .val (.int ((((x1 * (uw.toInt64)).toUInt64 >>> ((6 : Int32) &&& 0x3f).toInt64.toUInt64).toInt64).toInt32)), .val (.int (((x1 * (uw.toInt64)).toInt32) &&& (63 : Int32))), .val (.long ((a0_.toUInt64 >>> ((((x1 * (uw.toInt64)).toInt32) &&& (63 : Int32)) &&& 0x3f).toInt64.toUInt64).toInt64)), .second] [(.int uw), (.int (((x1 * (uw.toInt64)).toInt32) &&& (63 : Int32)))])) (fun t k => st3 t k) ?_
  refine Go.of (T' := T3) (f' := (mkF m 41 #[.val (.ref x0), .val (.long x1), .second, .val (.long (x1 * (uw.toInt64))), .second, .val (.int ((((x1 * (uw.toInt64)).toUInt64 >>> ((6 : Int32) &&& 0x3f).toInt64.toUInt64).toInt64).toInt32)), .val (.int (((x1 * (uw.toInt64)).toInt32) &&& (63 : Int32))), .val (.long ((a0_.toUInt64 >>> ((((x1 * (uw.toInt64)).toInt32) &&& (63 : Int32)) &&& 0x3f).toInt64.toUInt64).toInt64)), .second] [(.int ((((x1 * (uw.toInt64)).toInt32) &&& (63 : Int32)) + uw))])) (fun t k => XS.iadd X3.here hx rfl (hb hby d5_40) rfl k) ?_
  refine Go.of (T' := T3) (f' := (mkF m 43 #[.val (.ref x0), .val (.long x1), .second, .val (.long (x1 * (uw.toInt64))), .second, .val (.int ((((x1 * (uw.toInt64)).toUInt64 >>> ((6 : Int32) &&& 0x3f).toInt64.toUInt64).toInt64).toInt32)), .val (.int (((x1 * (uw.toInt64)).toInt32) &&& (63 : Int32))), .val (.long ((a0_.toUInt64 >>> ((((x1 * (uw.toInt64)).toInt32) &&& (63 : Int32)) &&& 0x3f).toInt64.toUInt64).toInt64)), .second] [(.int (64 : Int32)), (.int ((((x1 * (uw.toInt64)).toInt32) &&& (63 : Int32)) + uw))])) (fun t k => XS.bipush X3.here hx rfl (hb hby d5_41) k) ?_
  by_cases hc43 : (64 : Int32) < ((((x1 * (uw.toInt64)).toInt32) &&& (63 : Int32)) + uw)
  · -- pc 43: no
    refine Go.of (T' := T3) (f' := (mkF m 46 #[.val (.ref x0), .val (.long x1), .second, .val (.long (x1 * (uw.toInt64))), .second, .val (.int ((((x1 * (uw.toInt64)).toUInt64 >>> ((6 : Int32) &&& 0x3f).toInt64.toUInt64).toInt64).toInt32)), .val (.int (((x1 * (uw.toInt64)).toInt32) &&& (63 : Int32))), .val (.long ((a0_.toUInt64 >>> ((((x1 * (uw.toInt64)).toInt32) &&& (63 : Int32)) &&& 0x3f).toInt64.toUInt64).toInt64)), .second] [])) (fun t k => XS.icmpNo X3.here hx rfl (hb hby d5_43) rfl ((tlt hc43).2.2.2) k) ?_
    refine Go.of (T' := T3) (f' := (mkF m 48 #[.val (.ref x0), .val (.long x1), .second, .val (.long (x1 * (uw.toInt64))), .second, .val (.int ((((x1 * (uw.toInt64)).toUInt64 >>> ((6 : Int32) &&& 0x3f).toInt64.toUInt64).toInt64).toInt32)), .val (.int (((x1 * (uw.toInt64)).toInt32) &&& (63 : Int32))), .val (.long ((a0_.toUInt64 >>> ((((x1 * (uw.toInt64)).toInt32) &&& (63 : Int32)) &&& 0x3f).toInt64.toUInt64).toInt64)), .second] [(.long ((a0_.toUInt64 >>> ((((x1 * (uw.toInt64)).toInt32) &&& (63 : Int32)) &&& 0x3f).toInt64.toUInt64).toInt64))])) (fun t k => XS.lload X3.here hx rfl (hb hby d5_46) rfl k) ?_
    refine Go.of (T' := T3) (f' := (mkF m 49 #[.val (.ref x0), .val (.long x1), .second, .val (.long (x1 * (uw.toInt64))), .second, .val (.int ((((x1 * (uw.toInt64)).toUInt64 >>> ((6 : Int32) &&& 0x3f).toInt64.toUInt64).toInt64).toInt32)), .val (.int (((x1 * (uw.toInt64)).toInt32) &&& (63 : Int32))), .val (.long ((a0_.toUInt64 >>> ((((x1 * (uw.toInt64)).toInt32) &&& (63 : Int32)) &&& 0x3f).toInt64.toUInt64).toInt64)), .second] [(.ref x0), (.long ((a0_.toUInt64 >>> ((((x1 * (uw.toInt64)).toInt32) &&& (63 : Int32)) &&& 0x3f).toInt64.toUInt64).toInt64))])) (fun t k => XS.aloadN X3.here hx rfl (hb hby d5_48) rfl rfl k) ?_
    obtain ⟨T4, X4, e4, st4⟩ := getF X3 hx hZ hown (host := "") (Or.inl (hw _ (List.mem_of_getElem? (i := 24) rfl))) Via.refl e3 F_words (g := (mkF m 49 #[.val (.ref x0), .val (.long x1), .second, .val (.long (x1 * (uw.toInt64))), .second, .val (.int ((((x1 * (uw.toInt64)).toUInt64 >>> ((6 : Int32) &&& 0x3f).toInt64.toUInt64).toInt64).toInt32)), .val (.int (((x1 * (uw.toInt64)).toInt32) &&& (63 : Int32))), .val (.long ((a0_.toUInt64 >>> ((((x1 * (uw.toInt64)).toInt32) &&& (63 : Int32)) &&& 0x3f).toInt64.toUInt64).toInt64)), .second] [(.ref x0), (.long ((a0_.toUInt64 >>> ((((x1 * (uw.toInt64)).toInt32) &&& (63 : Int32)) &&& 0x3f).toInt64.toUInt64).toInt64))])) rfl rfl (hb hby d5_49)
    refine Go.of (T' := T4) (f' := (mkF m 52 #[.val (.ref x0), .val (.long x1), .second, .val (.long (x1 * (uw.toInt64))), .second, .val (.int ((((x1 * (uw.toInt64)).toUInt64 >>> ((6 : Int32) &&& 0x3f).toInt64.toUInt64).toInt64).toInt32)), .val (.int (((x1 * (uw.toInt64)).toInt32) &&& (63 : Int32))), .val (.long ((a0_.toUInt64 >>> ((((x1 * (uw.toInt64)).toInt32) &&& (63 : Int32)) &&& 0x3f).toInt64.toUInt64).toInt64)), .second] [(.ref ub), (.long ((a0_.toUInt64 >>> ((((x1 * (uw.toInt64)).toInt32) &&& (63 : Int32)) &&& 0x3f).toInt64.toUInt64).toInt64))])) (fun t k => st4 t k) ?_
    refine Go.of (T' := T4) (f' := (mkF m 54 #[.val (.ref x0), .val (.long x1), .second, .val (.long (x1 * (uw.toInt64))), .second, .val (.int ((((x1 * (uw.toInt64)).toUInt64 >>> ((6 : Int32) &&& 0x3f).toInt64.toUInt64).toInt64).toInt32)), .val (.int (((x1 * (uw.toInt64)).toInt32) &&& (63 : Int32))), .val (.long ((a0_.toUInt64 >>> ((((x1 * (uw.toInt64)).toInt32) &&& (63 : Int32)) &&& 0x3f).toInt64.toUInt64).toInt64)), .second] [(.int ((((x1 * (uw.toInt64)).toUInt64 >>> ((6 : Int32) &&& 0x3f).toInt64.toUInt64).toInt64).toInt32)), (.ref ub), (.long ((a0_.toUInt64 >>> ((((x1 * (uw.toInt64)).toInt32) &&& (63 : Int32)) &&& 0x3f).toInt64.toUInt64).toInt64))])) (fun t k => XS.iload X4.here hx rfl (hb hby d5_52) rfl k) ?_
    refine Go.of (T' := T4) (f' := (mkF m 55 #[.val (.ref x0), .val (.long x1), .second, .val (.long (x1 * (uw.toInt64))), .second, .val (.int ((((x1 * (uw.toInt64)).toUInt64 >>> ((6 : Int32) &&& 0x3f).toInt64.toUInt64).toInt64).toInt32)), .val (.int (((x1 * (uw.toInt64)).toInt32) &&& (63 : Int32))), .val (.long ((a0_.toUInt64 >>> ((((x1 * (uw.toInt64)).toInt32) &&& (63 : Int32)) &&& 0x3f).toInt64.toUInt64).toInt64)), .second] [(.int (1 : Int32)), (.int ((((x1 * (uw.toInt64)).toUInt64 >>> ((6 : Int32) &&& 0x3f).toInt64.toUInt64).toInt64).toInt32)), (.ref ub), (.long ((a0_.toUInt64 >>> ((((x1 * (uw.toInt64)).toInt32) &&& (63 : Int32)) &&& 0x3f).toInt64.toUInt64).toInt64))])) (fun t k => XS.iconst X4.here hx rfl (hb hby d5_54) k) ?_
    refine Go.of (T' := T4) (f' := (mkF m 56 #[.val (.ref x0), .val (.long x1), .second, .val (.long (x1 * (uw.toInt64))), .second, .val (.int ((((x1 * (uw.toInt64)).toUInt64 >>> ((6 : Int32) &&& 0x3f).toInt64.toUInt64).toInt64).toInt32)), .val (.int (((x1 * (uw.toInt64)).toInt32) &&& (63 : Int32))), .val (.long ((a0_.toUInt64 >>> ((((x1 * (uw.toInt64)).toInt32) &&& (63 : Int32)) &&& 0x3f).toInt64.toUInt64).toInt64)), .second] [(.int (((((x1 * (uw.toInt64)).toUInt64 >>> ((6 : Int32) &&& 0x3f).toInt64.toUInt64).toInt64).toInt32) + (1 : Int32))), (.ref ub), (.long ((a0_.toUInt64 >>> ((((x1 * (uw.toInt64)).toInt32) &&& (63 : Int32)) &&& 0x3f).toInt64.toUInt64).toInt64))])) (fun t k => XS.iadd X4.here hx rfl (hb hby d5_55) rfl k) ?_
    refine Go.of (T' := T4) (f' := (mkF m 57 #[.val (.ref x0), .val (.long x1), .second, .val (.long (x1 * (uw.toInt64))), .second, .val (.int ((((x1 * (uw.toInt64)).toUInt64 >>> ((6 : Int32) &&& 0x3f).toInt64.toUInt64).toInt64).toInt32)), .val (.int (((x1 * (uw.toInt64)).toInt32) &&& (63 : Int32))), .val (.long ((a0_.toUInt64 >>> ((((x1 * (uw.toInt64)).toInt32) &&& (63 : Int32)) &&& 0x3f).toInt64.toUInt64).toInt64)), .second] [(.long a1_), (.long ((a0_.toUInt64 >>> ((((x1 * (uw.toInt64)).toInt32) &&& (63 : Int32)) &&& 0x3f).toInt64.toUInt64).toInt64))])) (fun t k => ldJ X4 hx hZ e4 V_b (j := (((((x1 * (uw.toInt64)).toUInt64 >>> ((6 : Int32) &&& 0x3f).toInt64.toUInt64).toInt64).toInt32) + (1 : Int32))) (v := (.long a1_)) (hw1 hc43).1 rfl (atmap (hw1 hc43).2) (g := (mkF m 56 #[.val (.ref x0), .val (.long x1), .second, .val (.long (x1 * (uw.toInt64))), .second, .val (.int ((((x1 * (uw.toInt64)).toUInt64 >>> ((6 : Int32) &&& 0x3f).toInt64.toUInt64).toInt64).toInt32)), .val (.int (((x1 * (uw.toInt64)).toInt32) &&& (63 : Int32))), .val (.long ((a0_.toUInt64 >>> ((((x1 * (uw.toInt64)).toInt32) &&& (63 : Int32)) &&& 0x3f).toInt64.toUInt64).toInt64)), .second] [(.int (((((x1 * (uw.toInt64)).toUInt64 >>> ((6 : Int32) &&& 0x3f).toInt64.toUInt64).toInt64).toInt32) + (1 : Int32))), (.ref ub), (.long ((a0_.toUInt64 >>> ((((x1 * (uw.toInt64)).toInt32) &&& (63 : Int32)) &&& 0x3f).toInt64.toUInt64).toInt64))])) rfl rfl (hb hby d5_56) t k) ?_
    refine Go.of (T' := T4) (f' := (mkF m 59 #[.val (.ref x0), .val (.long x1), .second, .val (.long (x1 * (uw.toInt64))), .second, .val (.int ((((x1 * (uw.toInt64)).toUInt64 >>> ((6 : Int32) &&& 0x3f).toInt64.toUInt64).toInt64).toInt32)), .val (.int (((x1 * (uw.toInt64)).toInt32) &&& (63 : Int32))), .val (.long ((a0_.toUInt64 >>> ((((x1 * (uw.toInt64)).toInt32) &&& (63 : Int32)) &&& 0x3f).toInt64.toUInt64).toInt64)), .second] [(.int (64 : Int32)), (.long a1_), (.long ((a0_.toUInt64 >>> ((((x1 * (uw.toInt64)).toInt32) &&& (63 : Int32)) &&& 0x3f).toInt64.toUInt64).toInt64))])) (fun t k => XS.bipush X4.here hx rfl (hb hby d5_57) k) ?_
    refine Go.of (T' := T4) (f' := (mkF m 61 #[.val (.ref x0), .val (.long x1), .second, .val (.long (x1 * (uw.toInt64))), .second, .val (.int ((((x1 * (uw.toInt64)).toUInt64 >>> ((6 : Int32) &&& 0x3f).toInt64.toUInt64).toInt64).toInt32)), .val (.int (((x1 * (uw.toInt64)).toInt32) &&& (63 : Int32))), .val (.long ((a0_.toUInt64 >>> ((((x1 * (uw.toInt64)).toInt32) &&& (63 : Int32)) &&& 0x3f).toInt64.toUInt64).toInt64)), .second] [(.int (((x1 * (uw.toInt64)).toInt32) &&& (63 : Int32))), (.int (64 : Int32)), (.long a1_), (.long ((a0_.toUInt64 >>> ((((x1 * (uw.toInt64)).toInt32) &&& (63 : Int32)) &&& 0x3f).toInt64.toUInt64).toInt64))])) (fun t k => XS.iload X4.here hx rfl (hb hby d5_59) rfl k) ?_
    refine Go.of (T' := T4) (f' := (mkF m 62 #[.val (.ref x0), .val (.long x1), .second, .val (.long (x1 * (uw.toInt64))), .second, .val (.int ((((x1 * (uw.toInt64)).toUInt64 >>> ((6 : Int32) &&& 0x3f).toInt64.toUInt64).toInt64).toInt32)), .val (.int (((x1 * (uw.toInt64)).toInt32) &&& (63 : Int32))), .val (.long ((a0_.toUInt64 >>> ((((x1 * (uw.toInt64)).toInt32) &&& (63 : Int32)) &&& 0x3f).toInt64.toUInt64).toInt64)), .second] [(.int ((64 : Int32) - (((x1 * (uw.toInt64)).toInt32) &&& (63 : Int32)))), (.long a1_), (.long ((a0_.toUInt64 >>> ((((x1 * (uw.toInt64)).toInt32) &&& (63 : Int32)) &&& 0x3f).toInt64.toUInt64).toInt64))])) (fun t k => XS.isub X4.here hx rfl (hb hby d5_61) rfl k) ?_
    refine Go.of (T' := T4) (f' := (mkF m 63 #[.val (.ref x0), .val (.long x1), .second, .val (.long (x1 * (uw.toInt64))), .second, .val (.int ((((x1 * (uw.toInt64)).toUInt64 >>> ((6 : Int32) &&& 0x3f).toInt64.toUInt64).toInt64).toInt32)), .val (.int (((x1 * (uw.toInt64)).toInt32) &&& (63 : Int32))), .val (.long ((a0_.toUInt64 >>> ((((x1 * (uw.toInt64)).toInt32) &&& (63 : Int32)) &&& 0x3f).toInt64.toUInt64).toInt64)), .second] [(.long (a1_ <<< (((64 : Int32) - (((x1 * (uw.toInt64)).toInt32) &&& (63 : Int32))) &&& 0x3f).toInt64)), (.long ((a0_.toUInt64 >>> ((((x1 * (uw.toInt64)).toInt32) &&& (63 : Int32)) &&& 0x3f).toInt64.toUInt64).toInt64))])) (fun t k => XS.lshl X4.here hx rfl (hb hby d5_62) rfl k) ?_
    refine Go.of (T' := T4) (f' := (mkF m 64 #[.val (.ref x0), .val (.long x1), .second, .val (.long (x1 * (uw.toInt64))), .second, .val (.int ((((x1 * (uw.toInt64)).toUInt64 >>> ((6 : Int32) &&& 0x3f).toInt64.toUInt64).toInt64).toInt32)), .val (.int (((x1 * (uw.toInt64)).toInt32) &&& (63 : Int32))), .val (.long ((a0_.toUInt64 >>> ((((x1 * (uw.toInt64)).toInt32) &&& (63 : Int32)) &&& 0x3f).toInt64.toUInt64).toInt64)), .second] [(.long (((a0_.toUInt64 >>> ((((x1 * (uw.toInt64)).toInt32) &&& (63 : Int32)) &&& 0x3f).toInt64.toUInt64).toInt64) ||| (a1_ <<< (((64 : Int32) - (((x1 * (uw.toInt64)).toInt32) &&& (63 : Int32))) &&& 0x3f).toInt64)))])) (fun t k => XS.lor X4.here hx rfl (hb hby d5_63) rfl k) ?_
    refine Go.of (T' := T4) (f' := (mkF m 66 #[.val (.ref x0), .val (.long x1), .second, .val (.long (x1 * (uw.toInt64))), .second, .val (.int ((((x1 * (uw.toInt64)).toUInt64 >>> ((6 : Int32) &&& 0x3f).toInt64.toUInt64).toInt64).toInt32)), .val (.int (((x1 * (uw.toInt64)).toInt32) &&& (63 : Int32))), .val (.long (((a0_.toUInt64 >>> ((((x1 * (uw.toInt64)).toInt32) &&& (63 : Int32)) &&& 0x3f).toInt64.toUInt64).toInt64) ||| (a1_ <<< (((64 : Int32) - (((x1 * (uw.toInt64)).toInt32) &&& (63 : Int32))) &&& 0x3f).toInt64))), .second] [])) (fun t k => XS.lstore X4.here hx rfl (hb hby d5_64) rfl (l' := #[.val (.ref x0), .val (.long x1), .second, .val (.long (x1 * (uw.toInt64))), .second, .val (.int ((((x1 * (uw.toInt64)).toUInt64 >>> ((6 : Int32) &&& 0x3f).toInt64.toUInt64).toInt64).toInt32)), .val (.int (((x1 * (uw.toInt64)).toInt32) &&& (63 : Int32))), .val (.long (((a0_.toUInt64 >>> ((((x1 * (uw.toInt64)).toInt32) &&& (63 : Int32)) &&& 0x3f).toInt64.toUInt64).toInt64) ||| (a1_ <<< (((64 : Int32) - (((x1 * (uw.toInt64)).toInt32) &&& (63 : Int32))) &&& 0x3f).toInt64))), .second]) rfl k) ?_
    refine Go.of (T' := T4) (f' := (mkF m 68 #[.val (.ref x0), .val (.long x1), .second, .val (.long (x1 * (uw.toInt64))), .second, .val (.int ((((x1 * (uw.toInt64)).toUInt64 >>> ((6 : Int32) &&& 0x3f).toInt64.toUInt64).toInt64).toInt32)), .val (.int (((x1 * (uw.toInt64)).toInt32) &&& (63 : Int32))), .val (.long (((a0_.toUInt64 >>> ((((x1 * (uw.toInt64)).toInt32) &&& (63 : Int32)) &&& 0x3f).toInt64.toUInt64).toInt64) ||| (a1_ <<< (((64 : Int32) - (((x1 * (uw.toInt64)).toInt32) &&& (63 : Int32))) &&& 0x3f).toInt64))), .second] [(.long (((a0_.toUInt64 >>> ((((x1 * (uw.toInt64)).toInt32) &&& (63 : Int32)) &&& 0x3f).toInt64.toUInt64).toInt64) ||| (a1_ <<< (((64 : Int32) - (((x1 * (uw.toInt64)).toInt32) &&& (63 : Int32))) &&& 0x3f).toInt64)))])) (fun t k => XS.lload X4.here hx rfl (hb hby d5_66) rfl k) ?_
    refine Go.of (T' := T4) (f' := (mkF m 69 #[.val (.ref x0), .val (.long x1), .second, .val (.long (x1 * (uw.toInt64))), .second, .val (.int ((((x1 * (uw.toInt64)).toUInt64 >>> ((6 : Int32) &&& 0x3f).toInt64.toUInt64).toInt64).toInt32)), .val (.int (((x1 * (uw.toInt64)).toInt32) &&& (63 : Int32))), .val (.long (((a0_.toUInt64 >>> ((((x1 * (uw.toInt64)).toInt32) &&& (63 : Int32)) &&& 0x3f).toInt64.toUInt64).toInt64) ||| (a1_ <<< (((64 : Int32) - (((x1 * (uw.toInt64)).toInt32) &&& (63 : Int32))) &&& 0x3f).toInt64))), .second] [(.ref x0), (.long (((a0_.toUInt64 >>> ((((x1 * (uw.toInt64)).toInt32) &&& (63 : Int32)) &&& 0x3f).toInt64.toUInt64).toInt64) ||| (a1_ <<< (((64 : Int32) - (((x1 * (uw.toInt64)).toInt32) &&& (63 : Int32))) &&& 0x3f).toInt64)))])) (fun t k => XS.aloadN X4.here hx rfl (hb hby d5_68) rfl rfl k) ?_
    obtain ⟨T5, X5, e5, st5⟩ := getF X4 hx hZ hown (host := "") (Or.inl (hw _ (List.mem_of_getElem? (i := 20) rfl))) Via.refl e4 F_mask (g := (mkF m 69 #[.val (.ref x0), .val (.long x1), .second, .val (.long (x1 * (uw.toInt64))), .second, .val (.int ((((x1 * (uw.toInt64)).toUInt64 >>> ((6 : Int32) &&& 0x3f).toInt64.toUInt64).toInt64).toInt32)), .val (.int (((x1 * (uw.toInt64)).toInt32) &&& (63 : Int32))), .val (.long (((a0_.toUInt64 >>> ((((x1 * (uw.toInt64)).toInt32) &&& (63 : Int32)) &&& 0x3f).toInt64.toUInt64).toInt64) ||| (a1_ <<< (((64 : Int32) - (((x1 * (uw.toInt64)).toInt32) &&& (63 : Int32))) &&& 0x3f).toInt64))), .second] [(.ref x0), (.long (((a0_.toUInt64 >>> ((((x1 * (uw.toInt64)).toInt32) &&& (63 : Int32)) &&& 0x3f).toInt64.toUInt64).toInt64) ||| (a1_ <<< (((64 : Int32) - (((x1 * (uw.toInt64)).toInt32) &&& (63 : Int32))) &&& 0x3f).toInt64)))])) rfl rfl (hb hby d5_69)
    refine Go.of (T' := T5) (f' := (mkF m 72 #[.val (.ref x0), .val (.long x1), .second, .val (.long (x1 * (uw.toInt64))), .second, .val (.int ((((x1 * (uw.toInt64)).toUInt64 >>> ((6 : Int32) &&& 0x3f).toInt64.toUInt64).toInt64).toInt32)), .val (.int (((x1 * (uw.toInt64)).toInt32) &&& (63 : Int32))), .val (.long (((a0_.toUInt64 >>> ((((x1 * (uw.toInt64)).toInt32) &&& (63 : Int32)) &&& 0x3f).toInt64.toUInt64).toInt64) ||| (a1_ <<< (((64 : Int32) - (((x1 * (uw.toInt64)).toInt32) &&& (63 : Int32))) &&& 0x3f).toInt64))), .second] [(.long um), (.long (((a0_.toUInt64 >>> ((((x1 * (uw.toInt64)).toInt32) &&& (63 : Int32)) &&& 0x3f).toInt64.toUInt64).toInt64) ||| (a1_ <<< (((64 : Int32) - (((x1 * (uw.toInt64)).toInt32) &&& (63 : Int32))) &&& 0x3f).toInt64)))])) (fun t k => st5 t k) ?_
    refine Go.of (T' := T5) (f' := (mkF m 73 #[.val (.ref x0), .val (.long x1), .second, .val (.long (x1 * (uw.toInt64))), .second, .val (.int ((((x1 * (uw.toInt64)).toUInt64 >>> ((6 : Int32) &&& 0x3f).toInt64.toUInt64).toInt64).toInt32)), .val (.int (((x1 * (uw.toInt64)).toInt32) &&& (63 : Int32))), .val (.long (((a0_.toUInt64 >>> ((((x1 * (uw.toInt64)).toInt32) &&& (63 : Int32)) &&& 0x3f).toInt64.toUInt64).toInt64) ||| (a1_ <<< (((64 : Int32) - (((x1 * (uw.toInt64)).toInt32) &&& (63 : Int32))) &&& 0x3f).toInt64))), .second] [(.long ((((a0_.toUInt64 >>> ((((x1 * (uw.toInt64)).toInt32) &&& (63 : Int32)) &&& 0x3f).toInt64.toUInt64).toInt64) ||| (a1_ <<< (((64 : Int32) - (((x1 * (uw.toInt64)).toInt32) &&& (63 : Int32))) &&& 0x3f).toInt64)) &&& um))])) (fun t k => XS.land X5.here hx rfl (hb hby d5_72) rfl k) ?_
    refine Go.retJ X5 hx hk Bd.returns (hb hby d5_73) (by decide) (by decide) ?_
    rw [e5]
    exact ⟨by rw [getV, if_pos (show (64 : Int32) < shI x1 uw + uw from hc43)]; rfl, N0, rfl⟩
  · -- pc 43: yes
    refine Go.of (T' := T3) (f' := (mkF m 66 #[.val (.ref x0), .val (.long x1), .second, .val (.long (x1 * (uw.toInt64))), .second, .val (.int ((((x1 * (uw.toInt64)).toUInt64 >>> ((6 : Int32) &&& 0x3f).toInt64.toUInt64).toInt64).toInt32)), .val (.int (((x1 * (uw.toInt64)).toInt32) &&& (63 : Int32))), .val (.long ((a0_.toUInt64 >>> ((((x1 * (uw.toInt64)).toInt32) &&& (63 : Int32)) &&& 0x3f).toInt64.toUInt64).toInt64)), .second] [])) (fun t k => XS.icmpYes X3.here hx rfl (pc0 := 43) (pc' := 66) rfl (hb hby d5_43) rfl ((flt hc43).2.2.2) (by decide) (by decide) k) ?_
    refine Go.of (T' := T3) (f' := (mkF m 68 #[.val (.ref x0), .val (.long x1), .second, .val (.long (x1 * (uw.toInt64))), .second, .val (.int ((((x1 * (uw.toInt64)).toUInt64 >>> ((6 : Int32) &&& 0x3f).toInt64.toUInt64).toInt64).toInt32)), .val (.int (((x1 * (uw.toInt64)).toInt32) &&& (63 : Int32))), .val (.long ((a0_.toUInt64 >>> ((((x1 * (uw.toInt64)).toInt32) &&& (63 : Int32)) &&& 0x3f).toInt64.toUInt64).toInt64)), .second] [(.long ((a0_.toUInt64 >>> ((((x1 * (uw.toInt64)).toInt32) &&& (63 : Int32)) &&& 0x3f).toInt64.toUInt64).toInt64))])) (fun t k => XS.lload X3.here hx rfl (hb hby d5_66) rfl k) ?_
    refine Go.of (T' := T3) (f' := (mkF m 69 #[.val (.ref x0), .val (.long x1), .second, .val (.long (x1 * (uw.toInt64))), .second, .val (.int ((((x1 * (uw.toInt64)).toUInt64 >>> ((6 : Int32) &&& 0x3f).toInt64.toUInt64).toInt64).toInt32)), .val (.int (((x1 * (uw.toInt64)).toInt32) &&& (63 : Int32))), .val (.long ((a0_.toUInt64 >>> ((((x1 * (uw.toInt64)).toInt32) &&& (63 : Int32)) &&& 0x3f).toInt64.toUInt64).toInt64)), .second] [(.ref x0), (.long ((a0_.toUInt64 >>> ((((x1 * (uw.toInt64)).toInt32) &&& (63 : Int32)) &&& 0x3f).toInt64.toUInt64).toInt64))])) (fun t k => XS.aloadN X3.here hx rfl (hb hby d5_68) rfl rfl k) ?_
    obtain ⟨T6, X6, e6, st6⟩ := getF X3 hx hZ hown (host := "") (Or.inl (hw _ (List.mem_of_getElem? (i := 20) rfl))) Via.refl e3 F_mask (g := (mkF m 69 #[.val (.ref x0), .val (.long x1), .second, .val (.long (x1 * (uw.toInt64))), .second, .val (.int ((((x1 * (uw.toInt64)).toUInt64 >>> ((6 : Int32) &&& 0x3f).toInt64.toUInt64).toInt64).toInt32)), .val (.int (((x1 * (uw.toInt64)).toInt32) &&& (63 : Int32))), .val (.long ((a0_.toUInt64 >>> ((((x1 * (uw.toInt64)).toInt32) &&& (63 : Int32)) &&& 0x3f).toInt64.toUInt64).toInt64)), .second] [(.ref x0), (.long ((a0_.toUInt64 >>> ((((x1 * (uw.toInt64)).toInt32) &&& (63 : Int32)) &&& 0x3f).toInt64.toUInt64).toInt64))])) rfl rfl (hb hby d5_69)
    refine Go.of (T' := T6) (f' := (mkF m 72 #[.val (.ref x0), .val (.long x1), .second, .val (.long (x1 * (uw.toInt64))), .second, .val (.int ((((x1 * (uw.toInt64)).toUInt64 >>> ((6 : Int32) &&& 0x3f).toInt64.toUInt64).toInt64).toInt32)), .val (.int (((x1 * (uw.toInt64)).toInt32) &&& (63 : Int32))), .val (.long ((a0_.toUInt64 >>> ((((x1 * (uw.toInt64)).toInt32) &&& (63 : Int32)) &&& 0x3f).toInt64.toUInt64).toInt64)), .second] [(.long um), (.long ((a0_.toUInt64 >>> ((((x1 * (uw.toInt64)).toInt32) &&& (63 : Int32)) &&& 0x3f).toInt64.toUInt64).toInt64))])) (fun t k => st6 t k) ?_
    refine Go.of (T' := T6) (f' := (mkF m 73 #[.val (.ref x0), .val (.long x1), .second, .val (.long (x1 * (uw.toInt64))), .second, .val (.int ((((x1 * (uw.toInt64)).toUInt64 >>> ((6 : Int32) &&& 0x3f).toInt64.toUInt64).toInt64).toInt32)), .val (.int (((x1 * (uw.toInt64)).toInt32) &&& (63 : Int32))), .val (.long ((a0_.toUInt64 >>> ((((x1 * (uw.toInt64)).toInt32) &&& (63 : Int32)) &&& 0x3f).toInt64.toUInt64).toInt64)), .second] [(.long (((a0_.toUInt64 >>> ((((x1 * (uw.toInt64)).toInt32) &&& (63 : Int32)) &&& 0x3f).toInt64.toUInt64).toInt64) &&& um))])) (fun t k => XS.land X6.here hx rfl (hb hby d5_72) rfl k) ?_
    refine Go.retJ X6 hx hk Bd.returns (hb hby d5_73) (by decide) (by decide) ?_
    rw [e6]
    exact ⟨by rw [getV, if_neg (show ¬ (64 : Int32) < shI x1 uw + uw from hc43)]; rfl, N0, rfl⟩
theorem own_nzL {wn : Nat} (h1 : 1 ≤ wn) (h2 : wn ≤ 64) {W : Int32} (hW : W = Int32.ofNat wn) : ((128 : Int64) / W.toInt64).toInt32 ≠ 0 := by
  subst hW
  have k : ∀ n : Fin 64, ((128 : Int64) / (Int32.ofNat (n.1 + 1)).toInt64).toInt32 ≠ 0 := by decide +kernel
  have := k ⟨wn - 1, by omega⟩
  simp only [show wn - 1 + 1 = wn by omega] at this
  exact this
theorem pd_1 : parseMethodDescriptor "(JI)V" = some ⟨[.long, .int], none⟩ := by decide +kernel
theorem pd_2 : parseMethodDescriptor "()[J" = some ⟨[], some (.array .long)⟩ := by decide +kernel
theorem pd_3 : parseMethodDescriptor "(J)J" = some ⟨[.long], some .long⟩ := by decide +kernel
theorem pn_1 : plainName "com/example/bloom_filter_variants/bloomfiltervariants/PackedArrayGetPinLaw" = true := by first | (simp [plainName, overriddenIn]; done) | decide +kernel
theorem ef_0 (m : MethodId) (x0 : Int64) (x1 : Int64) (x2 : Int32) (x3 : Int32) (x4 : Int32) : entryFrame m #[(.long x0), (.long x1), (.int x2), (.int x3), (.int x4)] maxLocals = mkF m 0 #[.val (.long x0), .second, .val (.long x1), .second, .val (.int x2), .val (.int x3), .val (.int x4), .unset, .unset, .unset, .unset, .unset, .unset, .unset, .unset, .unset, .unset, .unset, .unset, .unset, .unset, .unset, .unset, .unset, .unset, .unset, .unset, .unset] [] := by first | (simp [entryFrame, mkF, argsToLocals, Value.category, maxLocals]; done) | rfl
def Q0 (Z : State) (x0 : Int64) (x1 : Int64) (x2 : Int32) (x3 : Int32) (x4 : Int32)  (h0 : Heap) (n0 : Nat) (v : Option Value) (h : Heap) (L : List Loc) : Prop := v = some (.int (1 : Int32)) ∧ Fr n0 L
set_option maxRecDepth 65536 in
set_option maxHeartbeats 40000000 in
theorem rm0 (l : Launch) (Z : State) (a0 : Array Value) (hw : ∀ d ∈ tables_1, d.before a0 Z = true) (ws : List Jvm.Cond) (x0 : Int64) (x1 : Int64) (x2 : Int32) (x3 : Int32) (x4 : Int32)  (h0 : Heap) (n0 : Nat) (Z0 : n0 ≤ h0.size)  :
    MetFree l x (head1 (Jvm.Cond.code x code maxLocals ret :: ws) room_1) (fun a U => a = #[(.long x0), (.long x1), (.int x2), (.int x3), (.int x4)] ∧ Z.Warmed39 U.vm ∧ U.heap = h0) (fun _ _ _ _ _ => True) (fun _ U o U' => ∃ v L, o = .returned v ∧ Q0 Z x0 x1 x2 x3 x4 h0 n0 v U'.heap L ∧ FrameEnd U o U' L 16 128) := by
  refine MetFree.of_bodySF (plainFor_of_name pn_1) hisR ?_
  intro p e s m args below meth c s₁ Bd hml0 hP hK
  obtain ⟨rfl, hZ, hh⟩ := hP
  have hx := Bd.exec
  have hby := Bd.bytes
  have hml : c.maxLocals = 28 := hml0
  have hown : s.vm.findClass "com/example/bloom_filter_variants/bloomfiltervariants/PackedArrayGetPinLaw" = some m.cls := findClass_of_methodNamed Bd.named
  have hnm := (name_of_methodNamed Bd.named Bd.method).1
  have hk : meth.locks = false := BodyLoose.notSynchronized Bd
  have X0 : Stand p l e room_1 s m #[(.long x0), (.long x1), (.int x2), (.int x3), (.int x4)] below meth c s₁ [] 0 0 := Stand.of_body Bd
  have e0 : s₁.heap = h0 := by rw [← hh, Bd.state]; rfl
  have N0 := Fr.nil n0
  show Go p e below s (Q0 Z x0 x1 x2 x3 x4 h0 n0) 16 128 s₁ (entryFrame m #[(.long x0), (.long x1), (.int x2), (.int x3), (.int x4)] maxLocals)
  refine Go.cast (ef_0 m x0 x1 x2 x3 x4) ?_
  refine Go.of (T' := s₁) (f' := (mkF m 2 #[.val (.long x0), .second, .val (.long x1), .second, .val (.int x2), .val (.int x3), .val (.int x4), .unset, .unset, .unset, .unset, .unset, .unset, .unset, .unset, .unset, .unset, .unset, .unset, .unset, .unset, .unset, .unset, .unset, .unset, .unset, .unset, .unset] [(.int x2)])) (fun t k => XS.iload X0.here hx rfl (hb hby at_0) rfl k) ?_
  refine Go.of (T' := s₁) (f' := (mkF m 4 #[.val (.long x0), .second, .val (.long x1), .second, .val (.int x2), .val (.int x3), .val (.int x4), .unset, .unset, .unset, .unset, .unset, .unset, .unset, .unset, .unset, .unset, .unset, .unset, .unset, .unset, .unset, .unset, .unset, .unset, .unset, .unset, .unset] [(.int (63 : Int32)), (.int x2)])) (fun t k => XS.bipush X0.here hx rfl (hb hby at_2) k) ?_
  refine Go.of (T' := s₁) (f' := (mkF m 5 #[.val (.long x0), .second, .val (.long x1), .second, .val (.int x2), .val (.int x3), .val (.int x4), .unset, .unset, .unset, .unset, .unset, .unset, .unset, .unset, .unset, .unset, .unset, .unset, .unset, .unset, .unset, .unset, .unset, .unset, .unset, .unset, .unset] [(.int (x2 &&& (63 : Int32)))])) (fun t k => XS.iand X0.here hx rfl (hb hby at_4) rfl k) ?_
  refine Go.of (T' := s₁) (f' := (mkF m 6 #[.val (.long x0), .second, .val (.long x1), .second, .val (.int x2), .val (.int x3), .val (.int x4), .unset, .unset, .unset, .unset, .unset, .unset, .unset, .unset, .unset, .unset, .unset, .unset, .unset, .unset, .unset, .unset, .unset, .unset, .unset, .unset, .unset] [(.int (1 : Int32)), (.int (x2 &&& (63 : Int32)))])) (fun t k => XS.iconst X0.here hx rfl (hb hby at_5) k) ?_
  refine Go.of (T' := s₁) (f' := (mkF m 7 #[.val (.long x0), .second, .val (.long x1), .second, .val (.int x2), .val (.int x3), .val (.int x4), .unset, .unset, .unset, .unset, .unset, .unset, .unset, .unset, .unset, .unset, .unset, .unset, .unset, .unset, .unset, .unset, .unset, .unset, .unset, .unset, .unset] [(.int ((x2 &&& (63 : Int32)) + (1 : Int32)))])) (fun t k => XS.iadd X0.here hx rfl (hb hby at_6) rfl k) ?_
  refine Go.of (T' := s₁) (f' := (mkF m 9 #[.val (.long x0), .second, .val (.long x1), .second, .val (.int x2), .val (.int x3), .val (.int x4), .val (.int ((x2 &&& (63 : Int32)) + (1 : Int32))), .unset, .unset, .unset, .unset, .unset, .unset, .unset, .unset, .unset, .unset, .unset, .unset, .unset, .unset, .unset, .unset, .unset, .unset, .unset, .unset] [])) (fun t k => XS.istore X0.here hx rfl (hb hby at_7) rfl (l' := #[.val (.long x0), .second, .val (.long x1), .second, .val (.int x2), .val (.int x3), .val (.int x4), .val (.int ((x2 &&& (63 : Int32)) + (1 : Int32))), .unset, .unset, .unset, .unset, .unset, .unset, .unset, .unset, .unset, .unset, .unset, .unset, .unset, .unset, .unset, .unset, .unset, .unset, .unset, .unset]) rfl k) ?_
  refine Go.of (T' := s₁) (f' := (mkF m 12 #[.val (.long x0), .second, .val (.long x1), .second, .val (.int x2), .val (.int x3), .val (.int x4), .val (.int ((x2 &&& (63 : Int32)) + (1 : Int32))), .unset, .unset, .unset, .unset, .unset, .unset, .unset, .unset, .unset, .unset, .unset, .unset, .unset, .unset, .unset, .unset, .unset, .unset, .unset, .unset] [(.long (128 : Int64))])) (fun t k => X0.ldc2Long hx hown (mvT hZ (hw _ (List.mem_of_getElem? (i := 0) rfl))) (g := (mkF m 9 #[.val (.long x0), .second, .val (.long x1), .second, .val (.int x2), .val (.int x3), .val (.int x4), .val (.int ((x2 &&& (63 : Int32)) + (1 : Int32))), .unset, .unset, .unset, .unset, .unset, .unset, .unset, .unset, .unset, .unset, .unset, .unset, .unset, .unset, .unset, .unset, .unset, .unset, .unset, .unset] [])) rfl (hb hby at_9) t k) ?_
  refine Go.of (T' := s₁) (f' := (mkF m 14 #[.val (.long x0), .second, .val (.long x1), .second, .val (.int x2), .val (.int x3), .val (.int x4), .val (.int ((x2 &&& (63 : Int32)) + (1 : Int32))), .unset, .unset, .unset, .unset, .unset, .unset, .unset, .unset, .unset, .unset, .unset, .unset, .unset, .unset, .unset, .unset, .unset, .unset, .unset, .unset] [(.int ((x2 &&& (63 : Int32)) + (1 : Int32))), (.long (128 : Int64))])) (fun t k => XS.iload X0.here hx rfl (hb hby at_12) rfl k) ?_
  refine Go.of (T' := s₁) (f' := (mkF m 15 #[.val (.long x0), .second, .val (.long x1), .second, .val (.int x2), .val (.int x3), .val (.int x4), .val (.int ((x2 &&& (63 : Int32)) + (1 : Int32))), .unset, .unset, .unset, .unset, .unset, .unset, .unset, .unset, .unset, .unset, .unset, .unset, .unset, .unset, .unset, .unset, .unset, .unset, .unset, .unset] [(.long (((x2 &&& (63 : Int32)) + (1 : Int32)).toInt64)), (.long (128 : Int64))])) (fun t k => XS.i2l X0.here hx rfl (hb hby at_14) rfl k) ?_
  have nz15 : (((x2 &&& (63 : Int32)) + (1 : Int32)).toInt64) ≠ (0 : Int64) := own_nzW x2
  refine Go.of (T' := s₁) (f' := (mkF m 16 #[.val (.long x0), .second, .val (.long x1), .second, .val (.int x2), .val (.int x3), .val (.int x4), .val (.int ((x2 &&& (63 : Int32)) + (1 : Int32))), .unset, .unset, .unset, .unset, .unset, .unset, .unset, .unset, .unset, .unset, .unset, .unset, .unset, .unset, .unset, .unset, .unset, .unset, .unset, .unset] [(.long ((128 : Int64) / (((x2 &&& (63 : Int32)) + (1 : Int32)).toInt64)))])) (fun t k => XS.ldiv X0.here hx rfl (hb hby at_15) rfl nz15 k) ?_
  refine Go.of (T' := s₁) (f' := (mkF m 18 #[.val (.long x0), .second, .val (.long x1), .second, .val (.int x2), .val (.int x3), .val (.int x4), .val (.int ((x2 &&& (63 : Int32)) + (1 : Int32))), .val (.long ((128 : Int64) / (((x2 &&& (63 : Int32)) + (1 : Int32)).toInt64))), .second, .unset, .unset, .unset, .unset, .unset, .unset, .unset, .unset, .unset, .unset, .unset, .unset, .unset, .unset, .unset, .unset, .unset, .unset] [])) (fun t k => XS.lstore X0.here hx rfl (hb hby at_16) rfl (l' := #[.val (.long x0), .second, .val (.long x1), .second, .val (.int x2), .val (.int x3), .val (.int x4), .val (.int ((x2 &&& (63 : Int32)) + (1 : Int32))), .val (.long ((128 : Int64) / (((x2 &&& (63 : Int32)) + (1 : Int32)).toInt64))), .second, .unset, .unset, .unset, .unset, .unset, .unset, .unset, .unset, .unset, .unset, .unset, .unset, .unset, .unset, .unset, .unset, .unset, .unset]) rfl k) ?_
  refine Go.of (T' := s₁) (f' := (mkF m 20 #[.val (.long x0), .second, .val (.long x1), .second, .val (.int x2), .val (.int x3), .val (.int x4), .val (.int ((x2 &&& (63 : Int32)) + (1 : Int32))), .val (.long ((128 : Int64) / (((x2 &&& (63 : Int32)) + (1 : Int32)).toInt64))), .second, .unset, .unset, .unset, .unset, .unset, .unset, .unset, .unset, .unset, .unset, .unset, .unset, .unset, .unset, .unset, .unset, .unset, .unset] [(.long ((128 : Int64) / (((x2 &&& (63 : Int32)) + (1 : Int32)).toInt64)))])) (fun t k => XS.lload X0.here hx rfl (hb hby at_18) rfl k) ?_
  refine Go.of (T' := s₁) (f' := (mkF m 22 #[.val (.long x0), .second, .val (.long x1), .second, .val (.int x2), .val (.int x3), .val (.int x4), .val (.int ((x2 &&& (63 : Int32)) + (1 : Int32))), .val (.long ((128 : Int64) / (((x2 &&& (63 : Int32)) + (1 : Int32)).toInt64))), .second, .unset, .unset, .unset, .unset, .unset, .unset, .unset, .unset, .unset, .unset, .unset, .unset, .unset, .unset, .unset, .unset, .unset, .unset] [(.int ((x2 &&& (63 : Int32)) + (1 : Int32))), (.long ((128 : Int64) / (((x2 &&& (63 : Int32)) + (1 : Int32)).toInt64)))])) (fun t k => XS.iload X0.here hx rfl (hb hby at_20) rfl k) ?_
  refine Go.of (T' := s₁) (f' := (mkF m 23 #[.val (.long x0), .second, .val (.long x1), .second, .val (.int x2), .val (.int x3), .val (.int x4), .val (.int ((x2 &&& (63 : Int32)) + (1 : Int32))), .val (.long ((128 : Int64) / (((x2 &&& (63 : Int32)) + (1 : Int32)).toInt64))), .second, .unset, .unset, .unset, .unset, .unset, .unset, .unset, .unset, .unset, .unset, .unset, .unset, .unset, .unset, .unset, .unset, .unset, .unset] [(.long (((x2 &&& (63 : Int32)) + (1 : Int32)).toInt64)), (.long ((128 : Int64) / (((x2 &&& (63 : Int32)) + (1 : Int32)).toInt64)))])) (fun t k => XS.i2l X0.here hx rfl (hb hby at_22) rfl k) ?_
  refine Go.of (T' := s₁) (f' := (mkF m 24 #[.val (.long x0), .second, .val (.long x1), .second, .val (.int x2), .val (.int x3), .val (.int x4), .val (.int ((x2 &&& (63 : Int32)) + (1 : Int32))), .val (.long ((128 : Int64) / (((x2 &&& (63 : Int32)) + (1 : Int32)).toInt64))), .second, .unset, .unset, .unset, .unset, .unset, .unset, .unset, .unset, .unset, .unset, .unset, .unset, .unset, .unset, .unset, .unset, .unset, .unset] [(.long (((128 : Int64) / (((x2 &&& (63 : Int32)) + (1 : Int32)).toInt64)) * (((x2 &&& (63 : Int32)) + (1 : Int32)).toInt64)))])) (fun t k => XS.lmul X0.here hx rfl (hb hby at_23) rfl k) ?_
  refine Go.of (T' := s₁) (f' := (mkF m 26 #[.val (.long x0), .second, .val (.long x1), .second, .val (.int x2), .val (.int x3), .val (.int x4), .val (.int ((x2 &&& (63 : Int32)) + (1 : Int32))), .val (.long ((128 : Int64) / (((x2 &&& (63 : Int32)) + (1 : Int32)).toInt64))), .second, .val (.long (((128 : Int64) / (((x2 &&& (63 : Int32)) + (1 : Int32)).toInt64)) * (((x2 &&& (63 : Int32)) + (1 : Int32)).toInt64))), .second, .unset, .unset, .unset, .unset, .unset, .unset, .unset, .unset, .unset, .unset, .unset, .unset, .unset, .unset, .unset, .unset] [])) (fun t k => XS.lstore X0.here hx rfl (hb hby at_24) rfl (l' := #[.val (.long x0), .second, .val (.long x1), .second, .val (.int x2), .val (.int x3), .val (.int x4), .val (.int ((x2 &&& (63 : Int32)) + (1 : Int32))), .val (.long ((128 : Int64) / (((x2 &&& (63 : Int32)) + (1 : Int32)).toInt64))), .second, .val (.long (((128 : Int64) / (((x2 &&& (63 : Int32)) + (1 : Int32)).toInt64)) * (((x2 &&& (63 : Int32)) + (1 : Int32)).toInt64))), .second, .unset, .unset, .unset, .unset, .unset, .unset, .unset, .unset, .unset, .unset, .unset, .unset, .unset, .unset, .unset, .unset]) rfl k) ?_
  refine Go.of (T' := s₁) (f' := (mkF m 28 #[.val (.long x0), .second, .val (.long x1), .second, .val (.int x2), .val (.int x3), .val (.int x4), .val (.int ((x2 &&& (63 : Int32)) + (1 : Int32))), .val (.long ((128 : Int64) / (((x2 &&& (63 : Int32)) + (1 : Int32)).toInt64))), .second, .val (.long (((128 : Int64) / (((x2 &&& (63 : Int32)) + (1 : Int32)).toInt64)) * (((x2 &&& (63 : Int32)) + (1 : Int32)).toInt64))), .second, .unset, .unset, .unset, .unset, .unset, .unset, .unset, .unset, .unset, .unset, .unset, .unset, .unset, .unset, .unset, .unset] [(.long (((128 : Int64) / (((x2 &&& (63 : Int32)) + (1 : Int32)).toInt64)) * (((x2 &&& (63 : Int32)) + (1 : Int32)).toInt64)))])) (fun t k => XS.lload X0.here hx rfl (hb hby at_26) rfl k) ?_
  refine Go.of (T' := s₁) (f' := (mkF m 31 #[.val (.long x0), .second, .val (.long x1), .second, .val (.int x2), .val (.int x3), .val (.int x4), .val (.int ((x2 &&& (63 : Int32)) + (1 : Int32))), .val (.long ((128 : Int64) / (((x2 &&& (63 : Int32)) + (1 : Int32)).toInt64))), .second, .val (.long (((128 : Int64) / (((x2 &&& (63 : Int32)) + (1 : Int32)).toInt64)) * (((x2 &&& (63 : Int32)) + (1 : Int32)).toInt64))), .second, .unset, .unset, .unset, .unset, .unset, .unset, .unset, .unset, .unset, .unset, .unset, .unset, .unset, .unset, .unset, .unset] [(.long (64 : Int64)), (.long (((128 : Int64) / (((x2 &&& (63 : Int32)) + (1 : Int32)).toInt64)) * (((x2 &&& (63 : Int32)) + (1 : Int32)).toInt64)))])) (fun t k => X0.ldc2Long hx hown (mvT hZ (hw _ (List.mem_of_getElem? (i := 1) rfl))) (g := (mkF m 28 #[.val (.long x0), .second, .val (.long x1), .second, .val (.int x2), .val (.int x3), .val (.int x4), .val (.int ((x2 &&& (63 : Int32)) + (1 : Int32))), .val (.long ((128 : Int64) / (((x2 &&& (63 : Int32)) + (1 : Int32)).toInt64))), .second, .val (.long (((128 : Int64) / (((x2 &&& (63 : Int32)) + (1 : Int32)).toInt64)) * (((x2 &&& (63 : Int32)) + (1 : Int32)).toInt64))), .second, .unset, .unset, .unset, .unset, .unset, .unset, .unset, .unset, .unset, .unset, .unset, .unset, .unset, .unset, .unset, .unset] [(.long (((128 : Int64) / (((x2 &&& (63 : Int32)) + (1 : Int32)).toInt64)) * (((x2 &&& (63 : Int32)) + (1 : Int32)).toInt64)))])) rfl (hb hby at_28) t k) ?_
  refine Go.of (T' := s₁) (f' := (mkF m 32 #[.val (.long x0), .second, .val (.long x1), .second, .val (.int x2), .val (.int x3), .val (.int x4), .val (.int ((x2 &&& (63 : Int32)) + (1 : Int32))), .val (.long ((128 : Int64) / (((x2 &&& (63 : Int32)) + (1 : Int32)).toInt64))), .second, .val (.long (((128 : Int64) / (((x2 &&& (63 : Int32)) + (1 : Int32)).toInt64)) * (((x2 &&& (63 : Int32)) + (1 : Int32)).toInt64))), .second, .unset, .unset, .unset, .unset, .unset, .unset, .unset, .unset, .unset, .unset, .unset, .unset, .unset, .unset, .unset, .unset] [(.long ((((128 : Int64) / (((x2 &&& (63 : Int32)) + (1 : Int32)).toInt64)) * (((x2 &&& (63 : Int32)) + (1 : Int32)).toInt64)) - (64 : Int64)))])) (fun t k => XS.lsub X0.here hx rfl (hb hby at_31) rfl k) ?_
  refine Go.of (T' := s₁) (f' := (mkF m 33 #[.val (.long x0), .second, .val (.long x1), .second, .val (.int x2), .val (.int x3), .val (.int x4), .val (.int ((x2 &&& (63 : Int32)) + (1 : Int32))), .val (.long ((128 : Int64) / (((x2 &&& (63 : Int32)) + (1 : Int32)).toInt64))), .second, .val (.long (((128 : Int64) / (((x2 &&& (63 : Int32)) + (1 : Int32)).toInt64)) * (((x2 &&& (63 : Int32)) + (1 : Int32)).toInt64))), .second, .unset, .unset, .unset, .unset, .unset, .unset, .unset, .unset, .unset, .unset, .unset, .unset, .unset, .unset, .unset, .unset] [(.int (((((128 : Int64) / (((x2 &&& (63 : Int32)) + (1 : Int32)).toInt64)) * (((x2 &&& (63 : Int32)) + (1 : Int32)).toInt64)) - (64 : Int64)).toInt32))])) (fun t k => XS.l2i X0.here hx rfl (hb hby at_32) rfl k) ?_
  refine Go.of (T' := s₁) (f' := (mkF m 35 #[.val (.long x0), .second, .val (.long x1), .second, .val (.int x2), .val (.int x3), .val (.int x4), .val (.int ((x2 &&& (63 : Int32)) + (1 : Int32))), .val (.long ((128 : Int64) / (((x2 &&& (63 : Int32)) + (1 : Int32)).toInt64))), .second, .val (.long (((128 : Int64) / (((x2 &&& (63 : Int32)) + (1 : Int32)).toInt64)) * (((x2 &&& (63 : Int32)) + (1 : Int32)).toInt64))), .second, .val (.int (((((128 : Int64) / (((x2 &&& (63 : Int32)) + (1 : Int32)).toInt64)) * (((x2 &&& (63 : Int32)) + (1 : Int32)).toInt64)) - (64 : Int64)).toInt32)), .unset, .unset, .unset, .unset, .unset, .unset, .unset, .unset, .unset, .unset, .unset, .unset, .unset, .unset, .unset] [])) (fun t k => XS.istore X0.here hx rfl (hb hby at_33) rfl (l' := #[.val (.long x0), .second, .val (.long x1), .second, .val (.int x2), .val (.int x3), .val (.int x4), .val (.int ((x2 &&& (63 : Int32)) + (1 : Int32))), .val (.long ((128 : Int64) / (((x2 &&& (63 : Int32)) + (1 : Int32)).toInt64))), .second, .val (.long (((128 : Int64) / (((x2 &&& (63 : Int32)) + (1 : Int32)).toInt64)) * (((x2 &&& (63 : Int32)) + (1 : Int32)).toInt64))), .second, .val (.int (((((128 : Int64) / (((x2 &&& (63 : Int32)) + (1 : Int32)).toInt64)) * (((x2 &&& (63 : Int32)) + (1 : Int32)).toInt64)) - (64 : Int64)).toInt32)), .unset, .unset, .unset, .unset, .unset, .unset, .unset, .unset, .unset, .unset, .unset, .unset, .unset, .unset, .unset]) rfl k) ?_
  refine Go.of (T' := s₁) (f' := (mkF m 36 #[.val (.long x0), .second, .val (.long x1), .second, .val (.int x2), .val (.int x3), .val (.int x4), .val (.int ((x2 &&& (63 : Int32)) + (1 : Int32))), .val (.long ((128 : Int64) / (((x2 &&& (63 : Int32)) + (1 : Int32)).toInt64))), .second, .val (.long (((128 : Int64) / (((x2 &&& (63 : Int32)) + (1 : Int32)).toInt64)) * (((x2 &&& (63 : Int32)) + (1 : Int32)).toInt64))), .second, .val (.int (((((128 : Int64) / (((x2 &&& (63 : Int32)) + (1 : Int32)).toInt64)) * (((x2 &&& (63 : Int32)) + (1 : Int32)).toInt64)) - (64 : Int64)).toInt32)), .unset, .unset, .unset, .unset, .unset, .unset, .unset, .unset, .unset, .unset, .unset, .unset, .unset, .unset, .unset] [(.long x1)])) (fun t k => XS.lloadN X0.here hx rfl (hb hby at_35) rfl k) ?_
  refine Go.of (T' := s₁) (f' := (mkF m 38 #[.val (.long x0), .second, .val (.long x1), .second, .val (.int x2), .val (.int x3), .val (.int x4), .val (.int ((x2 &&& (63 : Int32)) + (1 : Int32))), .val (.long ((128 : Int64) / (((x2 &&& (63 : Int32)) + (1 : Int32)).toInt64))), .second, .val (.long (((128 : Int64) / (((x2 &&& (63 : Int32)) + (1 : Int32)).toInt64)) * (((x2 &&& (63 : Int32)) + (1 : Int32)).toInt64))), .second, .val (.int (((((128 : Int64) / (((x2 &&& (63 : Int32)) + (1 : Int32)).toInt64)) * (((x2 &&& (63 : Int32)) + (1 : Int32)).toInt64)) - (64 : Int64)).toInt32)), .val (.long x1), .second, .unset, .unset, .unset, .unset, .unset, .unset, .unset, .unset, .unset, .unset, .unset, .unset, .unset] [])) (fun t k => XS.lstore X0.here hx rfl (hb hby at_36) rfl (l' := #[.val (.long x0), .second, .val (.long x1), .second, .val (.int x2), .val (.int x3), .val (.int x4), .val (.int ((x2 &&& (63 : Int32)) + (1 : Int32))), .val (.long ((128 : Int64) / (((x2 &&& (63 : Int32)) + (1 : Int32)).toInt64))), .second, .val (.long (((128 : Int64) / (((x2 &&& (63 : Int32)) + (1 : Int32)).toInt64)) * (((x2 &&& (63 : Int32)) + (1 : Int32)).toInt64))), .second, .val (.int (((((128 : Int64) / (((x2 &&& (63 : Int32)) + (1 : Int32)).toInt64)) * (((x2 &&& (63 : Int32)) + (1 : Int32)).toInt64)) - (64 : Int64)).toInt32)), .val (.long x1), .second, .unset, .unset, .unset, .unset, .unset, .unset, .unset, .unset, .unset, .unset, .unset, .unset, .unset]) rfl k) ?_
  refine Go.of (T' := s₁) (f' := (mkF m 40 #[.val (.long x0), .second, .val (.long x1), .second, .val (.int x2), .val (.int x3), .val (.int x4), .val (.int ((x2 &&& (63 : Int32)) + (1 : Int32))), .val (.long ((128 : Int64) / (((x2 &&& (63 : Int32)) + (1 : Int32)).toInt64))), .second, .val (.long (((128 : Int64) / (((x2 &&& (63 : Int32)) + (1 : Int32)).toInt64)) * (((x2 &&& (63 : Int32)) + (1 : Int32)).toInt64))), .second, .val (.int (((((128 : Int64) / (((x2 &&& (63 : Int32)) + (1 : Int32)).toInt64)) * (((x2 &&& (63 : Int32)) + (1 : Int32)).toInt64)) - (64 : Int64)).toInt32)), .val (.long x1), .second, .unset, .unset, .unset, .unset, .unset, .unset, .unset, .unset, .unset, .unset, .unset, .unset, .unset] [(.int (((((128 : Int64) / (((x2 &&& (63 : Int32)) + (1 : Int32)).toInt64)) * (((x2 &&& (63 : Int32)) + (1 : Int32)).toInt64)) - (64 : Int64)).toInt32))])) (fun t k => XS.iload X0.here hx rfl (hb hby at_38) rfl k) ?_
  refine Go.of (T' := s₁) (f' := (mkF m 42 #[.val (.long x0), .second, .val (.long x1), .second, .val (.int x2), .val (.int x3), .val (.int x4), .val (.int ((x2 &&& (63 : Int32)) + (1 : Int32))), .val (.long ((128 : Int64) / (((x2 &&& (63 : Int32)) + (1 : Int32)).toInt64))), .second, .val (.long (((128 : Int64) / (((x2 &&& (63 : Int32)) + (1 : Int32)).toInt64)) * (((x2 &&& (63 : Int32)) + (1 : Int32)).toInt64))), .second, .val (.int (((((128 : Int64) / (((x2 &&& (63 : Int32)) + (1 : Int32)).toInt64)) * (((x2 &&& (63 : Int32)) + (1 : Int32)).toInt64)) - (64 : Int64)).toInt32)), .val (.long x1), .second, .unset, .unset, .unset, .unset, .unset, .unset, .unset, .unset, .unset, .unset, .unset, .unset, .unset] [(.int (64 : Int32)), (.int (((((128 : Int64) / (((x2 &&& (63 : Int32)) + (1 : Int32)).toInt64)) * (((x2 &&& (63 : Int32)) + (1 : Int32)).toInt64)) - (64 : Int64)).toInt32))])) (fun t k => XS.bipush X0.here hx rfl (hb hby at_40) k) ?_
  suffices J1 : ∀  (v1_13 : Int64) (hj1 : True), Go p e below s (Q0 Z x0 x1 x2 x3 x4 h0 n0) 16 128 s₁ (mkF m 55 #[.val (.long x0), .second, .val (.long x1), .second, .val (.int x2), .val (.int x3), .val (.int x4), .val (.int ((x2 &&& (63 : Int32)) + (1 : Int32))), .val (.long ((128 : Int64) / (((x2 &&& (63 : Int32)) + (1 : Int32)).toInt64))), .second, .val (.long (((128 : Int64) / (((x2 &&& (63 : Int32)) + (1 : Int32)).toInt64)) * (((x2 &&& (63 : Int32)) + (1 : Int32)).toInt64))), .second, .val (.int (((((128 : Int64) / (((x2 &&& (63 : Int32)) + (1 : Int32)).toInt64)) * (((x2 &&& (63 : Int32)) + (1 : Int32)).toInt64)) - (64 : Int64)).toInt32)), .val (.long v1_13), .second, .unset, .unset, .unset, .unset, .unset, .unset, .unset, .unset, .unset, .unset, .unset, .unset, .unset] []) by
    by_cases hc42 : (((((128 : Int64) / (((x2 &&& (63 : Int32)) + (1 : Int32)).toInt64)) * (((x2 &&& (63 : Int32)) + (1 : Int32)).toInt64)) - (64 : Int64)).toInt32) < (64 : Int32)
    · -- pc 42: no
      refine Go.of (T' := s₁) (f' := (mkF m 45 #[.val (.long x0), .second, .val (.long x1), .second, .val (.int x2), .val (.int x3), .val (.int x4), .val (.int ((x2 &&& (63 : Int32)) + (1 : Int32))), .val (.long ((128 : Int64) / (((x2 &&& (63 : Int32)) + (1 : Int32)).toInt64))), .second, .val (.long (((128 : Int64) / (((x2 &&& (63 : Int32)) + (1 : Int32)).toInt64)) * (((x2 &&& (63 : Int32)) + (1 : Int32)).toInt64))), .second, .val (.int (((((128 : Int64) / (((x2 &&& (63 : Int32)) + (1 : Int32)).toInt64)) * (((x2 &&& (63 : Int32)) + (1 : Int32)).toInt64)) - (64 : Int64)).toInt32)), .val (.long x1), .second, .unset, .unset, .unset, .unset, .unset, .unset, .unset, .unset, .unset, .unset, .unset, .unset, .unset] [])) (fun t k => XS.icmpNo X0.here hx rfl (hb hby at_42) rfl ((tlt hc42).2.1) k) ?_
      refine Go.of (T' := s₁) (f' := (mkF m 46 #[.val (.long x0), .second, .val (.long x1), .second, .val (.int x2), .val (.int x3), .val (.int x4), .val (.int ((x2 &&& (63 : Int32)) + (1 : Int32))), .val (.long ((128 : Int64) / (((x2 &&& (63 : Int32)) + (1 : Int32)).toInt64))), .second, .val (.long (((128 : Int64) / (((x2 &&& (63 : Int32)) + (1 : Int32)).toInt64)) * (((x2 &&& (63 : Int32)) + (1 : Int32)).toInt64))), .second, .val (.int (((((128 : Int64) / (((x2 &&& (63 : Int32)) + (1 : Int32)).toInt64)) * (((x2 &&& (63 : Int32)) + (1 : Int32)).toInt64)) - (64 : Int64)).toInt32)), .val (.long x1), .second, .unset, .unset, .unset, .unset, .unset, .unset, .unset, .unset, .unset, .unset, .unset, .unset, .unset] [(.long x1)])) (fun t k => XS.lloadN X0.here hx rfl (hb hby at_45) rfl k) ?_
      refine Go.of (T' := s₁) (f' := (mkF m 47 #[.val (.long x0), .second, .val (.long x1), .second, .val (.int x2), .val (.int x3), .val (.int x4), .val (.int ((x2 &&& (63 : Int32)) + (1 : Int32))), .val (.long ((128 : Int64) / (((x2 &&& (63 : Int32)) + (1 : Int32)).toInt64))), .second, .val (.long (((128 : Int64) / (((x2 &&& (63 : Int32)) + (1 : Int32)).toInt64)) * (((x2 &&& (63 : Int32)) + (1 : Int32)).toInt64))), .second, .val (.int (((((128 : Int64) / (((x2 &&& (63 : Int32)) + (1 : Int32)).toInt64)) * (((x2 &&& (63 : Int32)) + (1 : Int32)).toInt64)) - (64 : Int64)).toInt32)), .val (.long x1), .second, .unset, .unset, .unset, .unset, .unset, .unset, .unset, .unset, .unset, .unset, .unset, .unset, .unset] [(.long (1 : Int64)), (.long x1)])) (fun t k => XS.lconst X0.here hx rfl (hb hby at_46) k) ?_
      refine Go.of (T' := s₁) (f' := (mkF m 49 #[.val (.long x0), .second, .val (.long x1), .second, .val (.int x2), .val (.int x3), .val (.int x4), .val (.int ((x2 &&& (63 : Int32)) + (1 : Int32))), .val (.long ((128 : Int64) / (((x2 &&& (63 : Int32)) + (1 : Int32)).toInt64))), .second, .val (.long (((128 : Int64) / (((x2 &&& (63 : Int32)) + (1 : Int32)).toInt64)) * (((x2 &&& (63 : Int32)) + (1 : Int32)).toInt64))), .second, .val (.int (((((128 : Int64) / (((x2 &&& (63 : Int32)) + (1 : Int32)).toInt64)) * (((x2 &&& (63 : Int32)) + (1 : Int32)).toInt64)) - (64 : Int64)).toInt32)), .val (.long x1), .second, .unset, .unset, .unset, .unset, .unset, .unset, .unset, .unset, .unset, .unset, .unset, .unset, .unset] [(.int (((((128 : Int64) / (((x2 &&& (63 : Int32)) + (1 : Int32)).toInt64)) * (((x2 &&& (63 : Int32)) + (1 : Int32)).toInt64)) - (64 : Int64)).toInt32)), (.long (1 : Int64)), (.long x1)])) (fun t k => XS.iload X0.here hx rfl (hb hby at_47) rfl k) ?_
      refine Go.of (T' := s₁) (f' := (mkF m 50 #[.val (.long x0), .second, .val (.long x1), .second, .val (.int x2), .val (.int x3), .val (.int x4), .val (.int ((x2 &&& (63 : Int32)) + (1 : Int32))), .val (.long ((128 : Int64) / (((x2 &&& (63 : Int32)) + (1 : Int32)).toInt64))), .second, .val (.long (((128 : Int64) / (((x2 &&& (63 : Int32)) + (1 : Int32)).toInt64)) * (((x2 &&& (63 : Int32)) + (1 : Int32)).toInt64))), .second, .val (.int (((((128 : Int64) / (((x2 &&& (63 : Int32)) + (1 : Int32)).toInt64)) * (((x2 &&& (63 : Int32)) + (1 : Int32)).toInt64)) - (64 : Int64)).toInt32)), .val (.long x1), .second, .unset, .unset, .unset, .unset, .unset, .unset, .unset, .unset, .unset, .unset, .unset, .unset, .unset] [(.long ((1 : Int64) <<< ((((((128 : Int64) / (((x2 &&& (63 : Int32)) + (1 : Int32)).toInt64)) * (((x2 &&& (63 : Int32)) + (1 : Int32)).toInt64)) - (64 : Int64)).toInt32) &&& 0x3f).toInt64)), (.long x1)])) (fun t k => XS.lshl X0.here hx rfl (hb hby at_49) rfl k) ?_
      refine Go.of (T' := s₁) (f' := (mkF m 51 #[.val (.long x0), .second, .val (.long x1), .second, .val (.int x2), .val (.int x3), .val (.int x4), .val (.int ((x2 &&& (63 : Int32)) + (1 : Int32))), .val (.long ((128 : Int64) / (((x2 &&& (63 : Int32)) + (1 : Int32)).toInt64))), .second, .val (.long (((128 : Int64) / (((x2 &&& (63 : Int32)) + (1 : Int32)).toInt64)) * (((x2 &&& (63 : Int32)) + (1 : Int32)).toInt64))), .second, .val (.int (((((128 : Int64) / (((x2 &&& (63 : Int32)) + (1 : Int32)).toInt64)) * (((x2 &&& (63 : Int32)) + (1 : Int32)).toInt64)) - (64 : Int64)).toInt32)), .val (.long x1), .second, .unset, .unset, .unset, .unset, .unset, .unset, .unset, .unset, .unset, .unset, .unset, .unset, .unset] [(.long (1 : Int64)), (.long ((1 : Int64) <<< ((((((128 : Int64) / (((x2 &&& (63 : Int32)) + (1 : Int32)).toInt64)) * (((x2 &&& (63 : Int32)) + (1 : Int32)).toInt64)) - (64 : Int64)).toInt32) &&& 0x3f).toInt64)), (.long x1)])) (fun t k => XS.lconst X0.here hx rfl (hb hby at_50) k) ?_
      refine Go.of (T' := s₁) (f' := (mkF m 52 #[.val (.long x0), .second, .val (.long x1), .second, .val (.int x2), .val (.int x3), .val (.int x4), .val (.int ((x2 &&& (63 : Int32)) + (1 : Int32))), .val (.long ((128 : Int64) / (((x2 &&& (63 : Int32)) + (1 : Int32)).toInt64))), .second, .val (.long (((128 : Int64) / (((x2 &&& (63 : Int32)) + (1 : Int32)).toInt64)) * (((x2 &&& (63 : Int32)) + (1 : Int32)).toInt64))), .second, .val (.int (((((128 : Int64) / (((x2 &&& (63 : Int32)) + (1 : Int32)).toInt64)) * (((x2 &&& (63 : Int32)) + (1 : Int32)).toInt64)) - (64 : Int64)).toInt32)), .val (.long x1), .second, .unset, .unset, .unset, .unset, .unset, .unset, .unset, .unset, .unset, .unset, .unset, .unset, .unset] [(.long (((1 : Int64) <<< ((((((128 : Int64) / (((x2 &&& (63 : Int32)) + (1 : Int32)).toInt64)) * (((x2 &&& (63 : Int32)) + (1 : Int32)).toInt64)) - (64 : Int64)).toInt32) &&& 0x3f).toInt64) - (1 : Int64))), (.long x1)])) (fun t k => XS.lsub X0.here hx rfl (hb hby at_51) rfl k) ?_
      refine Go.of (T' := s₁) (f' := (mkF m 53 #[.val (.long x0), .second, .val (.long x1), .second, .val (.int x2), .val (.int x3), .val (.int x4), .val (.int ((x2 &&& (63 : Int32)) + (1 : Int32))), .val (.long ((128 : Int64) / (((x2 &&& (63 : Int32)) + (1 : Int32)).toInt64))), .second, .val (.long (((128 : Int64) / (((x2 &&& (63 : Int32)) + (1 : Int32)).toInt64)) * (((x2 &&& (63 : Int32)) + (1 : Int32)).toInt64))), .second, .val (.int (((((128 : Int64) / (((x2 &&& (63 : Int32)) + (1 : Int32)).toInt64)) * (((x2 &&& (63 : Int32)) + (1 : Int32)).toInt64)) - (64 : Int64)).toInt32)), .val (.long x1), .second, .unset, .unset, .unset, .unset, .unset, .unset, .unset, .unset, .unset, .unset, .unset, .unset, .unset] [(.long (x1 &&& (((1 : Int64) <<< ((((((128 : Int64) / (((x2 &&& (63 : Int32)) + (1 : Int32)).toInt64)) * (((x2 &&& (63 : Int32)) + (1 : Int32)).toInt64)) - (64 : Int64)).toInt32) &&& 0x3f).toInt64) - (1 : Int64))))])) (fun t k => XS.land X0.here hx rfl (hb hby at_52) rfl k) ?_
      refine Go.of (T' := s₁) (f' := (mkF m 55 #[.val (.long x0), .second, .val (.long x1), .second, .val (.int x2), .val (.int x3), .val (.int x4), .val (.int ((x2 &&& (63 : Int32)) + (1 : Int32))), .val (.long ((128 : Int64) / (((x2 &&& (63 : Int32)) + (1 : Int32)).toInt64))), .second, .val (.long (((128 : Int64) / (((x2 &&& (63 : Int32)) + (1 : Int32)).toInt64)) * (((x2 &&& (63 : Int32)) + (1 : Int32)).toInt64))), .second, .val (.int (((((128 : Int64) / (((x2 &&& (63 : Int32)) + (1 : Int32)).toInt64)) * (((x2 &&& (63 : Int32)) + (1 : Int32)).toInt64)) - (64 : Int64)).toInt32)), .val (.long (x1 &&& (((1 : Int64) <<< ((((((128 : Int64) / (((x2 &&& (63 : Int32)) + (1 : Int32)).toInt64)) * (((x2 &&& (63 : Int32)) + (1 : Int32)).toInt64)) - (64 : Int64)).toInt32) &&& 0x3f).toInt64) - (1 : Int64)))), .second, .unset, .unset, .unset, .unset, .unset, .unset, .unset, .unset, .unset, .unset, .unset, .unset, .unset] [])) (fun t k => XS.lstore X0.here hx rfl (hb hby at_53) rfl (l' := #[.val (.long x0), .second, .val (.long x1), .second, .val (.int x2), .val (.int x3), .val (.int x4), .val (.int ((x2 &&& (63 : Int32)) + (1 : Int32))), .val (.long ((128 : Int64) / (((x2 &&& (63 : Int32)) + (1 : Int32)).toInt64))), .second, .val (.long (((128 : Int64) / (((x2 &&& (63 : Int32)) + (1 : Int32)).toInt64)) * (((x2 &&& (63 : Int32)) + (1 : Int32)).toInt64))), .second, .val (.int (((((128 : Int64) / (((x2 &&& (63 : Int32)) + (1 : Int32)).toInt64)) * (((x2 &&& (63 : Int32)) + (1 : Int32)).toInt64)) - (64 : Int64)).toInt32)), .val (.long (x1 &&& (((1 : Int64) <<< ((((((128 : Int64) / (((x2 &&& (63 : Int32)) + (1 : Int32)).toInt64)) * (((x2 &&& (63 : Int32)) + (1 : Int32)).toInt64)) - (64 : Int64)).toInt32) &&& 0x3f).toInt64) - (1 : Int64)))), .second, .unset, .unset, .unset, .unset, .unset, .unset, .unset, .unset, .unset, .unset, .unset, .unset, .unset]) rfl k) ?_
      exact J1 (x1 &&& (((1 : Int64) <<< ((((((128 : Int64) / (((x2 &&& (63 : Int32)) + (1 : Int32)).toInt64)) * (((x2 &&& (63 : Int32)) + (1 : Int32)).toInt64)) - (64 : Int64)).toInt32) &&& 0x3f).toInt64) - (1 : Int64))) trivial
    · -- pc 42: yes
      refine Go.of (T' := s₁) (f' := (mkF m 55 #[.val (.long x0), .second, .val (.long x1), .second, .val (.int x2), .val (.int x3), .val (.int x4), .val (.int ((x2 &&& (63 : Int32)) + (1 : Int32))), .val (.long ((128 : Int64) / (((x2 &&& (63 : Int32)) + (1 : Int32)).toInt64))), .second, .val (.long (((128 : Int64) / (((x2 &&& (63 : Int32)) + (1 : Int32)).toInt64)) * (((x2 &&& (63 : Int32)) + (1 : Int32)).toInt64))), .second, .val (.int (((((128 : Int64) / (((x2 &&& (63 : Int32)) + (1 : Int32)).toInt64)) * (((x2 &&& (63 : Int32)) + (1 : Int32)).toInt64)) - (64 : Int64)).toInt32)), .val (.long x1), .second, .unset, .unset, .unset, .unset, .unset, .unset, .unset, .unset, .unset, .unset, .unset, .unset, .unset] [])) (fun t k => XS.icmpYes X0.here hx rfl (pc0 := 42) (pc' := 55) rfl (hb hby at_42) rfl ((flt hc42).2.1) (by decide) (by decide) k) ?_
      exact J1 x1 trivial
  intro v1_13 hj1
  obtain ⟨wn, hwa, hwb, hW⟩ := own_W x2
  generalize ((x2 &&& (63 : Int32)) + (1 : Int32)) = W at *
  obtain ⟨hw1, hw2, hnz, hl0, hl1, hz, hLn, hWr⟩ := own_wf hwa hwb hW
  have hz0 : ¬ (2 : Int32) < 0 := by decide
  have hz1 : (2 : Int32).toNatClampNeg ≤ 2 := by decide
  have hnzL : (((128 : Int64) / (W.toInt64)).toInt32) ≠ (0 : Int32) := own_nzL hwa hwb hW
  obtain ⟨⟨an, han, hI⟩, kn, hkn, hK⟩ := own_ik hwa hwb hW x3 x4
  obtain ⟨T2, h2, X2, e2, E2, A2, D2, -, st2⟩ := newO X0 hx hZ hown (hw _ (List.mem_of_getElem? (i := 2) rfl)) (hw _ (List.mem_of_getElem? (i := 3) rfl)) (hw _ (List.mem_of_getElem? (i := 4) rfl)) e0 (g := (mkF m 55 #[.val (.long x0), .second, .val (.long x1), .second, .val (.int x2), .val (.int x3), .val (.int x4), .val (.int W), .val (.long ((128 : Int64) / (W.toInt64))), .second, .val (.long (((128 : Int64) / (W.toInt64)) * (W.toInt64))), .second, .val (.int (((((128 : Int64) / (W.toInt64)) * (W.toInt64)) - (64 : Int64)).toInt32)), .val (.long v1_13), .second, .unset, .unset, .unset, .unset, .unset, .unset, .unset, .unset, .unset, .unset, .unset, .unset, .unset] [])) rfl (hb hby at_55) (by decide) (by decide)
  obtain ⟨b2, gb2⟩ : ∃ z, z = h0.size := ⟨_, rfl⟩
  rw [← gb2] at A2 D2 st2
  have g_b2 : n0 ≤ b2 := Nat.le_trans Z0 (Nat.le_of_eq gb2.symm)
  have sz_b2 : h0.size ≤ b2 := Nat.le_trans (Keep.refl h0 []).1 (Nat.le_of_eq gb2.symm)
  have ZS2 : n0 ≤ h2.size := Nat.le_trans Z0 E2.1
  have KK2 : Keep h0 h2 [] := (Keep.refl h0 []).ext E2
  have F2_b2_length : Fld Z h2 b2 "com/example/bloom_filter_variants/bloomfiltervariants/PackedArray" "length" "J" (.long (0 : Int64)) := D2 (Or.inr (hw _ (List.mem_of_getElem? (i := 16) rfl))) (ty := .long) (by decide)
  have F2_b2_width : Fld Z h2 b2 "com/example/bloom_filter_variants/bloomfiltervariants/PackedArray" "width" "I" (.int (0 : Int32)) := D2 (Or.inr (hw _ (List.mem_of_getElem? (i := 18) rfl))) (ty := .int) (by decide)
  have F2_b2_mask : Fld Z h2 b2 "com/example/bloom_filter_variants/bloomfiltervariants/PackedArray" "mask" "J" (.long (0 : Int64)) := D2 (Or.inr (hw _ (List.mem_of_getElem? (i := 21) rfl))) (ty := .long) (by decide)
  have F2_b2_words : Fld Z h2 b2 "com/example/bloom_filter_variants/bloomfiltervariants/PackedArray" "words" "[J" .null := D2 (Or.inr (hw _ (List.mem_of_getElem? (i := 25) rfl))) (ty := (.array .long)) (by decide)
  refine Go.of (T' := T2) (f' := (mkF m 58 #[.val (.long x0), .second, .val (.long x1), .second, .val (.int x2), .val (.int x3), .val (.int x4), .val (.int W), .val (.long ((128 : Int64) / (W.toInt64))), .second, .val (.long (((128 : Int64) / (W.toInt64)) * (W.toInt64))), .second, .val (.int (((((128 : Int64) / (W.toInt64)) * (W.toInt64)) - (64 : Int64)).toInt32)), .val (.long v1_13), .second, .unset, .unset, .unset, .unset, .unset, .unset, .unset, .unset, .unset, .unset, .unset, .unset, .unset] [(.ref b2)])) (fun t k => st2 t k) ?_
  refine Go.of (T' := T2) (f' := (mkF m 59 #[.val (.long x0), .second, .val (.long x1), .second, .val (.int x2), .val (.int x3), .val (.int x4), .val (.int W), .val (.long ((128 : Int64) / (W.toInt64))), .second, .val (.long (((128 : Int64) / (W.toInt64)) * (W.toInt64))), .second, .val (.int (((((128 : Int64) / (W.toInt64)) * (W.toInt64)) - (64 : Int64)).toInt32)), .val (.long v1_13), .second, .unset, .unset, .unset, .unset, .unset, .unset, .unset, .unset, .unset, .unset, .unset, .unset, .unset] [(.ref b2), (.ref b2)])) (fun t k => XS.dup X2.here hx rfl (hb hby at_58) rfl rfl k) ?_
  refine Go.of (T' := T2) (f' := (mkF m 61 #[.val (.long x0), .second, .val (.long x1), .second, .val (.int x2), .val (.int x3), .val (.int x4), .val (.int W), .val (.long ((128 : Int64) / (W.toInt64))), .second, .val (.long (((128 : Int64) / (W.toInt64)) * (W.toInt64))), .second, .val (.int (((((128 : Int64) / (W.toInt64)) * (W.toInt64)) - (64 : Int64)).toInt32)), .val (.long v1_13), .second, .unset, .unset, .unset, .unset, .unset, .unset, .unset, .unset, .unset, .unset, .unset, .unset, .unset] [(.long ((128 : Int64) / (W.toInt64))), (.ref b2), (.ref b2)])) (fun t k => XS.lload X2.here hx rfl (hb hby at_59) rfl k) ?_
  refine Go.of (T' := T2) (f' := (mkF m 63 #[.val (.long x0), .second, .val (.long x1), .second, .val (.int x2), .val (.int x3), .val (.int x4), .val (.int W), .val (.long ((128 : Int64) / (W.toInt64))), .second, .val (.long (((128 : Int64) / (W.toInt64)) * (W.toInt64))), .second, .val (.int (((((128 : Int64) / (W.toInt64)) * (W.toInt64)) - (64 : Int64)).toInt32)), .val (.long v1_13), .second, .unset, .unset, .unset, .unset, .unset, .unset, .unset, .unset, .unset, .unset, .unset, .unset, .unset] [(.int W), (.long ((128 : Int64) / (W.toInt64))), (.ref b2), (.ref b2)])) (fun t k => XS.iload X2.here hx rfl (hb hby at_61) rfl k) ?_
  obtain ⟨_, _, ⟨T3, L3, k3, n3⟩, -, X3, ⟨Lc3, hQ3, l3, y3, z3⟩, st3⟩ := X2.specialBack hx (y := (⟨"com/example/bloom_filter_variants/bloomfiltervariants/PackedArray", "<init>", "(JI)V"⟩ : MethodName)) rfl hown (mvT hZ (hw _ (List.mem_of_getElem? (i := 5) rfl))) (mvT hZ (hw _ (List.mem_of_getElem? (i := 6) rfl))) (mvT hZ (hw _ (List.mem_of_getElem? (i := 7) rfl))) (by decide) (backOf (W := 1) (rm1 l Z a0 hw [] b2 ((128 : Int64) / (W.toInt64)) W (.long (0 : Int64)) (.int (0 : Int32)) (.long (0 : Int64)) .null h2 n0 ZS2 A2 g_b2 F2_b2_length F2_b2_width F2_b2_mask F2_b2_words hw1 hw2 hnz hl0 hl1 hz hz0 hz1) hZ (hw _ (List.mem_of_getElem? (i := 7) rfl)) (hw _ (List.mem_of_getElem? (i := 4) rfl)) (by decide) (by decide)) (g := (mkF m 63 #[.val (.long x0), .second, .val (.long x1), .second, .val (.int x2), .val (.int x3), .val (.int x4), .val (.int W), .val (.long ((128 : Int64) / (W.toInt64))), .second, .val (.long (((128 : Int64) / (W.toInt64)) * (W.toInt64))), .second, .val (.int (((((128 : Int64) / (W.toInt64)) * (W.toInt64)) - (64 : Int64)).toInt32)), .val (.long v1_13), .second, .unset, .unset, .unset, .unset, .unset, .unset, .unset, .unset, .unset, .unset, .unset, .unset, .unset] [(.int W), (.long ((128 : Int64) / (W.toInt64))), (.ref b2), (.ref b2)])) rfl (by rw [hml]; rfl) (Steps.refl _) (a := b2) (argsL := [(.long ((128 : Int64) / (W.toInt64))), (.int W)]) (rest := [(.ref b2)]) (lenOf pd_1 rfl) rfl (by show 2 * 0 + _ ≤ _; exact Nat.le_of_eq rfl) (hb hby at_63) (fun _ _ => ⟨rfl, e2, (by decide : 1 + 1 ≤ _), (by decide : 4 + 2 ≤ _)⟩)
  dsimp only [Pt.U, Pt.locs, Pt.cells, Pt.slots] at X3 l3 y3 z3 st3 hQ3
  subst l3 y3 z3
  obtain ⟨b3, rfl, N3q, K3, sb3, g_b3, Fq3_length, Fq3_width, Fq3_mask, Fq3_words, Vb3⟩ := hQ3
  have N3 := Fr.app N0 N3q
  have ne_b2_b3 : b2 ≠ b3 := Nat.ne_of_lt (Nat.lt_of_lt_of_le F2_b2_length.lt sb3)
  have sz_b3 : h0.size ≤ b3 := Nat.le_trans KK2.1 sb3
  have Ex3_b2 : Exa Z T3.heap b2 "com/example/bloom_filter_variants/bloomfiltervariants/PackedArray" := A2.keep K3
  have Fm3 : Fld Z T3.heap b2 "com/example/bloom_filter_variants/bloomfiltervariants/PackedArray" "mask" "J" (.long (maskOf W)) := Fq3_mask
  have ZS3 : n0 ≤ T3.heap.size := Nat.le_trans ZS2 K3.1
  have KK3 : Keep h0 T3.heap [] := KK2.trans K3 (allS (Or.inr sz_b2) all0)
  refine Go.tr (T' := T3) (f' := (mkF m 66 #[.val (.long x0), .second, .val (.long x1), .second, .val (.int x2), .val (.int x3), .val (.int x4), .val (.int W), .val (.long ((128 : Int64) / (W.toInt64))), .second, .val (.long (((128 : Int64) / (W.toInt64)) * (W.toInt64))), .second, .val (.int (((((128 : Int64) / (W.toInt64)) * (W.toInt64)) - (64 : Int64)).toInt32)), .val (.long v1_13), .second, .unset, .unset, .unset, .unset, .unset, .unset, .unset, .unset, .unset, .unset, .unset, .unset, .unset] [(.ref b2)])) st3 ?_
  refine Go.of (T' := T3) (f' := (mkF m 68 #[.val (.long x0), .second, .val (.long x1), .second, .val (.int x2), .val (.int x3), .val (.int x4), .val (.int W), .val (.long ((128 : Int64) / (W.toInt64))), .second, .val (.long (((128 : Int64) / (W.toInt64)) * (W.toInt64))), .second, .val (.int (((((128 : Int64) / (W.toInt64)) * (W.toInt64)) - (64 : Int64)).toInt32)), .val (.long v1_13), .second, .val (.ref b2), .unset, .unset, .unset, .unset, .unset, .unset, .unset, .unset, .unset, .unset, .unset, .unset] [])) (fun t k => XS.astore X3.here hx rfl (hb hby at_66) rfl rfl (l' := #[.val (.long x0), .second, .val (.long x1), .second, .val (.int x2), .val (.int x3), .val (.int x4), .val (.int W), .val (.long ((128 : Int64) / (W.toInt64))), .second, .val (.long (((128 : Int64) / (W.toInt64)) * (W.toInt64))), .second, .val (.int (((((128 : Int64) / (W.toInt64)) * (W.toInt64)) - (64 : Int64)).toInt32)), .val (.long v1_13), .second, .val (.ref b2), .unset, .unset, .unset, .unset, .unset, .unset, .unset, .unset, .unset, .unset, .unset, .unset]) rfl k) ?_
  refine Go.of (T' := T3) (f' := (mkF m 70 #[.val (.long x0), .second, .val (.long x1), .second, .val (.int x2), .val (.int x3), .val (.int x4), .val (.int W), .val (.long ((128 : Int64) / (W.toInt64))), .second, .val (.long (((128 : Int64) / (W.toInt64)) * (W.toInt64))), .second, .val (.int (((((128 : Int64) / (W.toInt64)) * (W.toInt64)) - (64 : Int64)).toInt32)), .val (.long v1_13), .second, .val (.ref b2), .unset, .unset, .unset, .unset, .unset, .unset, .unset, .unset, .unset, .unset, .unset, .unset] [(.ref b2)])) (fun t k => XS.aload X3.here hx rfl (hb hby at_68) rfl rfl k) ?_
  obtain ⟨cq4, kq4, q4a, q4b, q4c⟩ := isOf hZ rfl Ex3_b2
  obtain ⟨_, _, ⟨T4, L4, k4, n4⟩, -, X4, ⟨Lc4, hQ4, l4, y4, z4⟩, st4⟩ := X3.virtualBack hx (y := (⟨"com/example/bloom_filter_variants/bloomfiltervariants/PackedArray", "words", "()[J"⟩ : MethodName)) (z := (⟨"com/example/bloom_filter_variants/bloomfiltervariants/PackedArray", "words", "()[J"⟩ : MethodName)) hown (mvT hZ (hw _ (List.mem_of_getElem? (i := 26) rfl))) (mvT hZ (hw _ (List.mem_of_getElem? (i := 27) rfl))) (notFace_of_selects (args := #[]) (mvT hZ (hw _ (List.mem_of_getElem? (i := 29) rfl)))) (mvT hZ (hw _ (List.mem_of_getElem? (i := 29) rfl))) (mvT hZ (hw _ (List.mem_of_getElem? (i := 28) rfl))) (by decide) (backOf (W := 0) (rm4 l Z a0 hw [] b2 b3 T3.heap n0 ZS3 Fq3_words) hZ (hw _ (List.mem_of_getElem? (i := 30) rfl)) (hw _ (List.mem_of_getElem? (i := 4) rfl)) (by decide) (by decide)) q4a q4c (g := (mkF m 70 #[.val (.long x0), .second, .val (.long x1), .second, .val (.int x2), .val (.int x3), .val (.int x4), .val (.int W), .val (.long ((128 : Int64) / (W.toInt64))), .second, .val (.long (((128 : Int64) / (W.toInt64)) * (W.toInt64))), .second, .val (.int (((((128 : Int64) / (W.toInt64)) * (W.toInt64)) - (64 : Int64)).toInt32)), .val (.long v1_13), .second, .val (.ref b2), .unset, .unset, .unset, .unset, .unset, .unset, .unset, .unset, .unset, .unset, .unset, .unset] [(.ref b2)])) rfl (by rw [hml]; rfl) (Steps.refl _) (argsL := []) (rest := []) (lenOf pd_2 rfl) rfl (by show 2 * 0 + _ ≤ _; exact Nat.le_of_eq rfl) (hb hby at_70) (fun _ _ => ⟨rfl, rfl, (by decide : 2 + 0 ≤ _), (by decide : 6 + 0 ≤ _)⟩)
  dsimp only [Pt.U, Pt.locs, Pt.cells, Pt.slots] at X4 l4 y4 z4 st4 hQ4
  subst l4 y4 z4
  obtain ⟨rfl, N4q, e4⟩ := hQ4
  have N4 := Fr.app N3 N4q
  refine Go.tr (T' := T4) (f' := (mkF m 73 #[.val (.long x0), .second, .val (.long x1), .second, .val (.int x2), .val (.int x3), .val (.int x4), .val (.int W), .val (.long ((128 : Int64) / (W.toInt64))), .second, .val (.long (((128 : Int64) / (W.toInt64)) * (W.toInt64))), .second, .val (.int (((((128 : Int64) / (W.toInt64)) * (W.toInt64)) - (64 : Int64)).toInt32)), .val (.long v1_13), .second, .val (.ref b2), .unset, .unset, .unset, .unset, .unset, .unset, .unset, .unset, .unset, .unset, .unset, .unset] [(.ref b3)])) st4 ?_
  refine Go.of (T' := T4) (f' := (mkF m 75 #[.val (.long x0), .second, .val (.long x1), .second, .val (.int x2), .val (.int x3), .val (.int x4), .val (.int W), .val (.long ((128 : Int64) / (W.toInt64))), .second, .val (.long (((128 : Int64) / (W.toInt64)) * (W.toInt64))), .second, .val (.int (((((128 : Int64) / (W.toInt64)) * (W.toInt64)) - (64 : Int64)).toInt32)), .val (.long v1_13), .second, .val (.ref b2), .val (.ref b3), .unset, .unset, .unset, .unset, .unset, .unset, .unset, .unset, .unset, .unset, .unset] [])) (fun t k => XS.astore X4.here hx rfl (hb hby at_73) rfl rfl (l' := #[.val (.long x0), .second, .val (.long x1), .second, .val (.int x2), .val (.int x3), .val (.int x4), .val (.int W), .val (.long ((128 : Int64) / (W.toInt64))), .second, .val (.long (((128 : Int64) / (W.toInt64)) * (W.toInt64))), .second, .val (.int (((((128 : Int64) / (W.toInt64)) * (W.toInt64)) - (64 : Int64)).toInt32)), .val (.long v1_13), .second, .val (.ref b2), .val (.ref b3), .unset, .unset, .unset, .unset, .unset, .unset, .unset, .unset, .unset, .unset, .unset]) rfl k) ?_
  refine Go.of (T' := T4) (f' := (mkF m 77 #[.val (.long x0), .second, .val (.long x1), .second, .val (.int x2), .val (.int x3), .val (.int x4), .val (.int W), .val (.long ((128 : Int64) / (W.toInt64))), .second, .val (.long (((128 : Int64) / (W.toInt64)) * (W.toInt64))), .second, .val (.int (((((128 : Int64) / (W.toInt64)) * (W.toInt64)) - (64 : Int64)).toInt32)), .val (.long v1_13), .second, .val (.ref b2), .val (.ref b3), .unset, .unset, .unset, .unset, .unset, .unset, .unset, .unset, .unset, .unset, .unset] [(.ref b3)])) (fun t k => XS.aload X4.here hx rfl (hb hby at_75) rfl rfl k) ?_
  refine Go.of (T' := T4) (f' := (mkF m 78 #[.val (.long x0), .second, .val (.long x1), .second, .val (.int x2), .val (.int x3), .val (.int x4), .val (.int W), .val (.long ((128 : Int64) / (W.toInt64))), .second, .val (.long (((128 : Int64) / (W.toInt64)) * (W.toInt64))), .second, .val (.int (((((128 : Int64) / (W.toInt64)) * (W.toInt64)) - (64 : Int64)).toInt32)), .val (.long v1_13), .second, .val (.ref b2), .val (.ref b3), .unset, .unset, .unset, .unset, .unset, .unset, .unset, .unset, .unset, .unset, .unset] [(.int (2 : Int32))])) (fun t k => lenV X4 hx hZ e4 Vb3 (n := (2 : Int32)) rfl (g := (mkF m 77 #[.val (.long x0), .second, .val (.long x1), .second, .val (.int x2), .val (.int x3), .val (.int x4), .val (.int W), .val (.long ((128 : Int64) / (W.toInt64))), .second, .val (.long (((128 : Int64) / (W.toInt64)) * (W.toInt64))), .second, .val (.int (((((128 : Int64) / (W.toInt64)) * (W.toInt64)) - (64 : Int64)).toInt32)), .val (.long v1_13), .second, .val (.ref b2), .val (.ref b3), .unset, .unset, .unset, .unset, .unset, .unset, .unset, .unset, .unset, .unset, .unset] [(.ref b3)])) rfl rfl (hb hby at_77) t k) ?_
  refine Go.of (T' := T4) (f' := (mkF m 79 #[.val (.long x0), .second, .val (.long x1), .second, .val (.int x2), .val (.int x3), .val (.int x4), .val (.int W), .val (.long ((128 : Int64) / (W.toInt64))), .second, .val (.long (((128 : Int64) / (W.toInt64)) * (W.toInt64))), .second, .val (.int (((((128 : Int64) / (W.toInt64)) * (W.toInt64)) - (64 : Int64)).toInt32)), .val (.long v1_13), .second, .val (.ref b2), .val (.ref b3), .unset, .unset, .unset, .unset, .unset, .unset, .unset, .unset, .unset, .unset, .unset] [(.int (2 : Int32)), (.int (2 : Int32))])) (fun t k => XS.iconst X4.here hx rfl (hb hby at_78) k) ?_
  have hc79 : (2 : Int32) = (2 : Int32) := by decide
  refine Go.of (T' := T4) (f' := (mkF m 84 #[.val (.long x0), .second, .val (.long x1), .second, .val (.int x2), .val (.int x3), .val (.int x4), .val (.int W), .val (.long ((128 : Int64) / (W.toInt64))), .second, .val (.long (((128 : Int64) / (W.toInt64)) * (W.toInt64))), .second, .val (.int (((((128 : Int64) / (W.toInt64)) * (W.toInt64)) - (64 : Int64)).toInt32)), .val (.long v1_13), .second, .val (.ref b2), .val (.ref b3), .unset, .unset, .unset, .unset, .unset, .unset, .unset, .unset, .unset, .unset, .unset] [])) (fun t k => XS.icmpYes X4.here hx rfl (pc0 := 79) (pc' := 84) rfl (hb hby at_79) rfl ((teq hc79).1) (by decide) (by decide) k) ?_
  refine Go.of (T' := T4) (f' := (mkF m 86 #[.val (.long x0), .second, .val (.long x1), .second, .val (.int x2), .val (.int x3), .val (.int x4), .val (.int W), .val (.long ((128 : Int64) / (W.toInt64))), .second, .val (.long (((128 : Int64) / (W.toInt64)) * (W.toInt64))), .second, .val (.int (((((128 : Int64) / (W.toInt64)) * (W.toInt64)) - (64 : Int64)).toInt32)), .val (.long v1_13), .second, .val (.ref b2), .val (.ref b3), .unset, .unset, .unset, .unset, .unset, .unset, .unset, .unset, .unset, .unset, .unset] [(.ref b3)])) (fun t k => XS.aload X4.here hx rfl (hb hby at_84) rfl rfl k) ?_
  refine Go.of (T' := T4) (f' := (mkF m 87 #[.val (.long x0), .second, .val (.long x1), .second, .val (.int x2), .val (.int x3), .val (.int x4), .val (.int W), .val (.long ((128 : Int64) / (W.toInt64))), .second, .val (.long (((128 : Int64) / (W.toInt64)) * (W.toInt64))), .second, .val (.int (((((128 : Int64) / (W.toInt64)) * (W.toInt64)) - (64 : Int64)).toInt32)), .val (.long v1_13), .second, .val (.ref b2), .val (.ref b3), .unset, .unset, .unset, .unset, .unset, .unset, .unset, .unset, .unset, .unset, .unset] [(.int (0 : Int32)), (.ref b3)])) (fun t k => XS.iconst X4.here hx rfl (hb hby at_86) k) ?_
  refine Go.of (T' := T4) (f' := (mkF m 88 #[.val (.long x0), .second, .val (.long x1), .second, .val (.int x2), .val (.int x3), .val (.int x4), .val (.int W), .val (.long ((128 : Int64) / (W.toInt64))), .second, .val (.long (((128 : Int64) / (W.toInt64)) * (W.toInt64))), .second, .val (.int (((((128 : Int64) / (W.toInt64)) * (W.toInt64)) - (64 : Int64)).toInt32)), .val (.long v1_13), .second, .val (.ref b2), .val (.ref b3), .unset, .unset, .unset, .unset, .unset, .unset, .unset, .unset, .unset, .unset, .unset] [(.long x0), (.int (0 : Int32)), (.ref b3)])) (fun t k => XS.lloadN X4.here hx rfl (hb hby at_87) rfl k) ?_
  obtain ⟨T5, h5, X5, e5, W5, V5, st5⟩ := saJ X4 hx hZ e4 Vb3 (j := (0 : Int32)) (x := x0) (by decide) (i := 0) (by decide) (Nat.le_of_ble_eq_true rfl) (g := (mkF m 88 #[.val (.long x0), .second, .val (.long x1), .second, .val (.int x2), .val (.int x3), .val (.int x4), .val (.int W), .val (.long ((128 : Int64) / (W.toInt64))), .second, .val (.long (((128 : Int64) / (W.toInt64)) * (W.toInt64))), .second, .val (.int (((((128 : Int64) / (W.toInt64)) * (W.toInt64)) - (64 : Int64)).toInt32)), .val (.long v1_13), .second, .val (.ref b2), .val (.ref b3), .unset, .unset, .unset, .unset, .unset, .unset, .unset, .unset, .unset, .unset, .unset] [(.long x0), (.int (0 : Int32)), (.ref b3)])) rfl rfl (hb hby at_88)
  replace V5 : VArr Z h5 b3 .long [.long x0, .long (0 : Int64)] := V5
  have F5_b2_length : Fld Z h5 b2 "com/example/bloom_filter_variants/bloomfiltervariants/PackedArray" "length" "J" (.long ((128 : Int64) / (W.toInt64))) := Fq3_length.other W5 (Or.inl ne_b2_b3)
  have F5_b2_width : Fld Z h5 b2 "com/example/bloom_filter_variants/bloomfiltervariants/PackedArray" "width" "I" (.int W) := Fq3_width.other W5 (Or.inl ne_b2_b3)
  have F5_b2_mask : Fld Z h5 b2 "com/example/bloom_filter_variants/bloomfiltervariants/PackedArray" "mask" "J" (.long (maskOf W)) := Fm3.other W5 (Or.inl ne_b2_b3)
  have F5_b2_words : Fld Z h5 b2 "com/example/bloom_filter_variants/bloomfiltervariants/PackedArray" "words" "[J" (.ref b3) := Fq3_words.other W5 (Or.inl ne_b2_b3)
  have Ex5_b2 : Exa Z h5 b2 "com/example/bloom_filter_variants/bloomfiltervariants/PackedArray" := Ex3_b2.wr W5
  have N5 := Fr.snoc X5 N4 g_b3
  have KK5 : Keep h0 h5 [] := KK3.wr W5 (Or.inr sz_b3)
  have ZS5 : n0 ≤ h5.size := Nat.le_trans ZS3 (Keep.of_wr W5).1
  refine Go.of (T' := T5) (f' := (mkF m 89 #[.val (.long x0), .second, .val (.long x1), .second, .val (.int x2), .val (.int x3), .val (.int x4), .val (.int W), .val (.long ((128 : Int64) / (W.toInt64))), .second, .val (.long (((128 : Int64) / (W.toInt64)) * (W.toInt64))), .second, .val (.int (((((128 : Int64) / (W.toInt64)) * (W.toInt64)) - (64 : Int64)).toInt32)), .val (.long v1_13), .second, .val (.ref b2), .val (.ref b3), .unset, .unset, .unset, .unset, .unset, .unset, .unset, .unset, .unset, .unset, .unset] [])) (fun t k => st5 t k) ?_
  refine Go.of (T' := T5) (f' := (mkF m 91 #[.val (.long x0), .second, .val (.long x1), .second, .val (.int x2), .val (.int x3), .val (.int x4), .val (.int W), .val (.long ((128 : Int64) / (W.toInt64))), .second, .val (.long (((128 : Int64) / (W.toInt64)) * (W.toInt64))), .second, .val (.int (((((128 : Int64) / (W.toInt64)) * (W.toInt64)) - (64 : Int64)).toInt32)), .val (.long v1_13), .second, .val (.ref b2), .val (.ref b3), .unset, .unset, .unset, .unset, .unset, .unset, .unset, .unset, .unset, .unset, .unset] [(.ref b3)])) (fun t k => XS.aload X5.here hx rfl (hb hby at_89) rfl rfl k) ?_
  refine Go.of (T' := T5) (f' := (mkF m 92 #[.val (.long x0), .second, .val (.long x1), .second, .val (.int x2), .val (.int x3), .val (.int x4), .val (.int W), .val (.long ((128 : Int64) / (W.toInt64))), .second, .val (.long (((128 : Int64) / (W.toInt64)) * (W.toInt64))), .second, .val (.int (((((128 : Int64) / (W.toInt64)) * (W.toInt64)) - (64 : Int64)).toInt32)), .val (.long v1_13), .second, .val (.ref b2), .val (.ref b3), .unset, .unset, .unset, .unset, .unset, .unset, .unset, .unset, .unset, .unset, .unset] [(.int (1 : Int32)), (.ref b3)])) (fun t k => XS.iconst X5.here hx rfl (hb hby at_91) k) ?_
  refine Go.of (T' := T5) (f' := (mkF m 94 #[.val (.long x0), .second, .val (.long x1), .second, .val (.int x2), .val (.int x3), .val (.int x4), .val (.int W), .val (.long ((128 : Int64) / (W.toInt64))), .second, .val (.long (((128 : Int64) / (W.toInt64)) * (W.toInt64))), .second, .val (.int (((((128 : Int64) / (W.toInt64)) * (W.toInt64)) - (64 : Int64)).toInt32)), .val (.long v1_13), .second, .val (.ref b2), .val (.ref b3), .unset, .unset, .unset, .unset, .unset, .unset, .unset, .unset, .unset, .unset, .unset] [(.long v1_13), (.int (1 : Int32)), (.ref b3)])) (fun t k => XS.lload X5.here hx rfl (hb hby at_92) rfl k) ?_
  obtain ⟨T6, h6, X6, e6, W6, V6, st6⟩ := saJ X5 hx hZ e5 V5 (j := (1 : Int32)) (x := v1_13) (by decide) (i := 1) (by decide) (Nat.le_of_ble_eq_true rfl) (g := (mkF m 94 #[.val (.long x0), .second, .val (.long x1), .second, .val (.int x2), .val (.int x3), .val (.int x4), .val (.int W), .val (.long ((128 : Int64) / (W.toInt64))), .second, .val (.long (((128 : Int64) / (W.toInt64)) * (W.toInt64))), .second, .val (.int (((((128 : Int64) / (W.toInt64)) * (W.toInt64)) - (64 : Int64)).toInt32)), .val (.long v1_13), .second, .val (.ref b2), .val (.ref b3), .unset, .unset, .unset, .unset, .unset, .unset, .unset, .unset, .unset, .unset, .unset] [(.long v1_13), (.int (1 : Int32)), (.ref b3)])) rfl rfl (hb hby at_94)
  replace V6 : VArr Z h6 b3 .long [.long x0, .long v1_13] := V6
  have F6_b2_length : Fld Z h6 b2 "com/example/bloom_filter_variants/bloomfiltervariants/PackedArray" "length" "J" (.long ((128 : Int64) / (W.toInt64))) := F5_b2_length.other W6 (Or.inl ne_b2_b3)
  have F6_b2_width : Fld Z h6 b2 "com/example/bloom_filter_variants/bloomfiltervariants/PackedArray" "width" "I" (.int W) := F5_b2_width.other W6 (Or.inl ne_b2_b3)
  have F6_b2_mask : Fld Z h6 b2 "com/example/bloom_filter_variants/bloomfiltervariants/PackedArray" "mask" "J" (.long (maskOf W)) := F5_b2_mask.other W6 (Or.inl ne_b2_b3)
  have F6_b2_words : Fld Z h6 b2 "com/example/bloom_filter_variants/bloomfiltervariants/PackedArray" "words" "[J" (.ref b3) := F5_b2_words.other W6 (Or.inl ne_b2_b3)
  have Ex6_b2 : Exa Z h6 b2 "com/example/bloom_filter_variants/bloomfiltervariants/PackedArray" := Ex5_b2.wr W6
  have N6 := Fr.snoc X6 N5 g_b3
  have KK6 : Keep h0 h6 [] := KK5.wr W6 (Or.inr sz_b3)
  have ZS6 : n0 ≤ h6.size := Nat.le_trans ZS5 (Keep.of_wr W6).1
  refine Go.of (T' := T6) (f' := (mkF m 95 #[.val (.long x0), .second, .val (.long x1), .second, .val (.int x2), .val (.int x3), .val (.int x4), .val (.int W), .val (.long ((128 : Int64) / (W.toInt64))), .second, .val (.long (((128 : Int64) / (W.toInt64)) * (W.toInt64))), .second, .val (.int (((((128 : Int64) / (W.toInt64)) * (W.toInt64)) - (64 : Int64)).toInt32)), .val (.long v1_13), .second, .val (.ref b2), .val (.ref b3), .unset, .unset, .unset, .unset, .unset, .unset, .unset, .unset, .unset, .unset, .unset] [])) (fun t k => st6 t k) ?_
  refine Go.of (T' := T6) (f' := (mkF m 97 #[.val (.long x0), .second, .val (.long x1), .second, .val (.int x2), .val (.int x3), .val (.int x4), .val (.int W), .val (.long ((128 : Int64) / (W.toInt64))), .second, .val (.long (((128 : Int64) / (W.toInt64)) * (W.toInt64))), .second, .val (.int (((((128 : Int64) / (W.toInt64)) * (W.toInt64)) - (64 : Int64)).toInt32)), .val (.long v1_13), .second, .val (.ref b2), .val (.ref b3), .unset, .unset, .unset, .unset, .unset, .unset, .unset, .unset, .unset, .unset, .unset] [(.int x3)])) (fun t k => XS.iload X6.here hx rfl (hb hby at_95) rfl k) ?_
  refine Go.of (T' := T6) (f' := (mkF m 99 #[.val (.long x0), .second, .val (.long x1), .second, .val (.int x2), .val (.int x3), .val (.int x4), .val (.int W), .val (.long ((128 : Int64) / (W.toInt64))), .second, .val (.long (((128 : Int64) / (W.toInt64)) * (W.toInt64))), .second, .val (.int (((((128 : Int64) / (W.toInt64)) * (W.toInt64)) - (64 : Int64)).toInt32)), .val (.long v1_13), .second, .val (.ref b2), .val (.ref b3), .unset, .unset, .unset, .unset, .unset, .unset, .unset, .unset, .unset, .unset, .unset] [(.int (2147483647 : Int32)), (.int x3)])) (fun t k => X6.ldcInt hx hown (mvT hZ (hw _ (List.mem_of_getElem? (i := 31) rfl))) (g := (mkF m 97 #[.val (.long x0), .second, .val (.long x1), .second, .val (.int x2), .val (.int x3), .val (.int x4), .val (.int W), .val (.long ((128 : Int64) / (W.toInt64))), .second, .val (.long (((128 : Int64) / (W.toInt64)) * (W.toInt64))), .second, .val (.int (((((128 : Int64) / (W.toInt64)) * (W.toInt64)) - (64 : Int64)).toInt32)), .val (.long v1_13), .second, .val (.ref b2), .val (.ref b3), .unset, .unset, .unset, .unset, .unset, .unset, .unset, .unset, .unset, .unset, .unset] [(.int x3)])) rfl (hb hby at_97) t k) ?_
  refine Go.of (T' := T6) (f' := (mkF m 100 #[.val (.long x0), .second, .val (.long x1), .second, .val (.int x2), .val (.int x3), .val (.int x4), .val (.int W), .val (.long ((128 : Int64) / (W.toInt64))), .second, .val (.long (((128 : Int64) / (W.toInt64)) * (W.toInt64))), .second, .val (.int (((((128 : Int64) / (W.toInt64)) * (W.toInt64)) - (64 : Int64)).toInt32)), .val (.long v1_13), .second, .val (.ref b2), .val (.ref b3), .unset, .unset, .unset, .unset, .unset, .unset, .unset, .unset, .unset, .unset, .unset] [(.int (x3 &&& (2147483647 : Int32)))])) (fun t k => XS.iand X6.here hx rfl (hb hby at_99) rfl k) ?_
  refine Go.of (T' := T6) (f' := (mkF m 102 #[.val (.long x0), .second, .val (.long x1), .second, .val (.int x2), .val (.int x3), .val (.int x4), .val (.int W), .val (.long ((128 : Int64) / (W.toInt64))), .second, .val (.long (((128 : Int64) / (W.toInt64)) * (W.toInt64))), .second, .val (.int (((((128 : Int64) / (W.toInt64)) * (W.toInt64)) - (64 : Int64)).toInt32)), .val (.long v1_13), .second, .val (.ref b2), .val (.ref b3), .unset, .unset, .unset, .unset, .unset, .unset, .unset, .unset, .unset, .unset, .unset] [(.long ((128 : Int64) / (W.toInt64))), (.int (x3 &&& (2147483647 : Int32)))])) (fun t k => XS.lload X6.here hx rfl (hb hby at_100) rfl k) ?_
  refine Go.of (T' := T6) (f' := (mkF m 103 #[.val (.long x0), .second, .val (.long x1), .second, .val (.int x2), .val (.int x3), .val (.int x4), .val (.int W), .val (.long ((128 : Int64) / (W.toInt64))), .second, .val (.long (((128 : Int64) / (W.toInt64)) * (W.toInt64))), .second, .val (.int (((((128 : Int64) / (W.toInt64)) * (W.toInt64)) - (64 : Int64)).toInt32)), .val (.long v1_13), .second, .val (.ref b2), .val (.ref b3), .unset, .unset, .unset, .unset, .unset, .unset, .unset, .unset, .unset, .unset, .unset] [(.int (((128 : Int64) / (W.toInt64)).toInt32)), (.int (x3 &&& (2147483647 : Int32)))])) (fun t k => XS.l2i X6.here hx rfl (hb hby at_102) rfl k) ?_
  have nz103 : (((128 : Int64) / (W.toInt64)).toInt32) ≠ (0 : Int32) := hnzL
  refine Go.of (T' := T6) (f' := (mkF m 104 #[.val (.long x0), .second, .val (.long x1), .second, .val (.int x2), .val (.int x3), .val (.int x4), .val (.int W), .val (.long ((128 : Int64) / (W.toInt64))), .second, .val (.long (((128 : Int64) / (W.toInt64)) * (W.toInt64))), .second, .val (.int (((((128 : Int64) / (W.toInt64)) * (W.toInt64)) - (64 : Int64)).toInt32)), .val (.long v1_13), .second, .val (.ref b2), .val (.ref b3), .unset, .unset, .unset, .unset, .unset, .unset, .unset, .unset, .unset, .unset, .unset] [(.int ((x3 &&& (2147483647 : Int32)) % (((128 : Int64) / (W.toInt64)).toInt32)))])) (fun t k => iremM (g := _) X6 hx rfl (hb hby at_103) rfl nz103 k) ?_
  refine Go.of (T' := T6) (f' := (mkF m 105 #[.val (.long x0), .second, .val (.long x1), .second, .val (.int x2), .val (.int x3), .val (.int x4), .val (.int W), .val (.long ((128 : Int64) / (W.toInt64))), .second, .val (.long (((128 : Int64) / (W.toInt64)) * (W.toInt64))), .second, .val (.int (((((128 : Int64) / (W.toInt64)) * (W.toInt64)) - (64 : Int64)).toInt32)), .val (.long v1_13), .second, .val (.ref b2), .val (.ref b3), .unset, .unset, .unset, .unset, .unset, .unset, .unset, .unset, .unset, .unset, .unset] [(.long (((x3 &&& (2147483647 : Int32)) % (((128 : Int64) / (W.toInt64)).toInt32)).toInt64))])) (fun t k => XS.i2l X6.here hx rfl (hb hby at_104) rfl k) ?_
  refine Go.of (T' := T6) (f' := (mkF m 107 #[.val (.long x0), .second, .val (.long x1), .second, .val (.int x2), .val (.int x3), .val (.int x4), .val (.int W), .val (.long ((128 : Int64) / (W.toInt64))), .second, .val (.long (((128 : Int64) / (W.toInt64)) * (W.toInt64))), .second, .val (.int (((((128 : Int64) / (W.toInt64)) * (W.toInt64)) - (64 : Int64)).toInt32)), .val (.long v1_13), .second, .val (.ref b2), .val (.ref b3), .val (.long (((x3 &&& (2147483647 : Int32)) % (((128 : Int64) / (W.toInt64)).toInt32)).toInt64)), .second, .unset, .unset, .unset, .unset, .unset, .unset, .unset, .unset, .unset] [])) (fun t k => XS.lstore X6.here hx rfl (hb hby at_105) rfl (l' := #[.val (.long x0), .second, .val (.long x1), .second, .val (.int x2), .val (.int x3), .val (.int x4), .val (.int W), .val (.long ((128 : Int64) / (W.toInt64))), .second, .val (.long (((128 : Int64) / (W.toInt64)) * (W.toInt64))), .second, .val (.int (((((128 : Int64) / (W.toInt64)) * (W.toInt64)) - (64 : Int64)).toInt32)), .val (.long v1_13), .second, .val (.ref b2), .val (.ref b3), .val (.long (((x3 &&& (2147483647 : Int32)) % (((128 : Int64) / (W.toInt64)).toInt32)).toInt64)), .second, .unset, .unset, .unset, .unset, .unset, .unset, .unset, .unset, .unset]) rfl k) ?_
  refine Go.of (T' := T6) (f' := (mkF m 109 #[.val (.long x0), .second, .val (.long x1), .second, .val (.int x2), .val (.int x3), .val (.int x4), .val (.int W), .val (.long ((128 : Int64) / (W.toInt64))), .second, .val (.long (((128 : Int64) / (W.toInt64)) * (W.toInt64))), .second, .val (.int (((((128 : Int64) / (W.toInt64)) * (W.toInt64)) - (64 : Int64)).toInt32)), .val (.long v1_13), .second, .val (.ref b2), .val (.ref b3), .val (.long (((x3 &&& (2147483647 : Int32)) % (((128 : Int64) / (W.toInt64)).toInt32)).toInt64)), .second, .unset, .unset, .unset, .unset, .unset, .unset, .unset, .unset, .unset] [(.int x4)])) (fun t k => XS.iload X6.here hx rfl (hb hby at_107) rfl k) ?_
  refine Go.of (T' := T6) (f' := (mkF m 111 #[.val (.long x0), .second, .val (.long x1), .second, .val (.int x2), .val (.int x3), .val (.int x4), .val (.int W), .val (.long ((128 : Int64) / (W.toInt64))), .second, .val (.long (((128 : Int64) / (W.toInt64)) * (W.toInt64))), .second, .val (.int (((((128 : Int64) / (W.toInt64)) * (W.toInt64)) - (64 : Int64)).toInt32)), .val (.long v1_13), .second, .val (.ref b2), .val (.ref b3), .val (.long (((x3 &&& (2147483647 : Int32)) % (((128 : Int64) / (W.toInt64)).toInt32)).toInt64)), .second, .unset, .unset, .unset, .unset, .unset, .unset, .unset, .unset, .unset] [(.int (2147483647 : Int32)), (.int x4)])) (fun t k => X6.ldcInt hx hown (mvT hZ (hw _ (List.mem_of_getElem? (i := 31) rfl))) (g := (mkF m 109 #[.val (.long x0), .second, .val (.long x1), .second, .val (.int x2), .val (.int x3), .val (.int x4), .val (.int W), .val (.long ((128 : Int64) / (W.toInt64))), .second, .val (.long (((128 : Int64) / (W.toInt64)) * (W.toInt64))), .second, .val (.int (((((128 : Int64) / (W.toInt64)) * (W.toInt64)) - (64 : Int64)).toInt32)), .val (.long v1_13), .second, .val (.ref b2), .val (.ref b3), .val (.long (((x3 &&& (2147483647 : Int32)) % (((128 : Int64) / (W.toInt64)).toInt32)).toInt64)), .second, .unset, .unset, .unset, .unset, .unset, .unset, .unset, .unset, .unset] [(.int x4)])) rfl (hb hby at_109) t k) ?_
  refine Go.of (T' := T6) (f' := (mkF m 112 #[.val (.long x0), .second, .val (.long x1), .second, .val (.int x2), .val (.int x3), .val (.int x4), .val (.int W), .val (.long ((128 : Int64) / (W.toInt64))), .second, .val (.long (((128 : Int64) / (W.toInt64)) * (W.toInt64))), .second, .val (.int (((((128 : Int64) / (W.toInt64)) * (W.toInt64)) - (64 : Int64)).toInt32)), .val (.long v1_13), .second, .val (.ref b2), .val (.ref b3), .val (.long (((x3 &&& (2147483647 : Int32)) % (((128 : Int64) / (W.toInt64)).toInt32)).toInt64)), .second, .unset, .unset, .unset, .unset, .unset, .unset, .unset, .unset, .unset] [(.int (x4 &&& (2147483647 : Int32)))])) (fun t k => XS.iand X6.here hx rfl (hb hby at_111) rfl k) ?_
  refine Go.of (T' := T6) (f' := (mkF m 114 #[.val (.long x0), .second, .val (.long x1), .second, .val (.int x2), .val (.int x3), .val (.int x4), .val (.int W), .val (.long ((128 : Int64) / (W.toInt64))), .second, .val (.long (((128 : Int64) / (W.toInt64)) * (W.toInt64))), .second, .val (.int (((((128 : Int64) / (W.toInt64)) * (W.toInt64)) - (64 : Int64)).toInt32)), .val (.long v1_13), .second, .val (.ref b2), .val (.ref b3), .val (.long (((x3 &&& (2147483647 : Int32)) % (((128 : Int64) / (W.toInt64)).toInt32)).toInt64)), .second, .unset, .unset, .unset, .unset, .unset, .unset, .unset, .unset, .unset] [(.int W), (.int (x4 &&& (2147483647 : Int32)))])) (fun t k => XS.iload X6.here hx rfl (hb hby at_112) rfl k) ?_
  have nz114 : W ≠ (0 : Int32) := hWr
  refine Go.of (T' := T6) (f' := (mkF m 115 #[.val (.long x0), .second, .val (.long x1), .second, .val (.int x2), .val (.int x3), .val (.int x4), .val (.int W), .val (.long ((128 : Int64) / (W.toInt64))), .second, .val (.long (((128 : Int64) / (W.toInt64)) * (W.toInt64))), .second, .val (.int (((((128 : Int64) / (W.toInt64)) * (W.toInt64)) - (64 : Int64)).toInt32)), .val (.long v1_13), .second, .val (.ref b2), .val (.ref b3), .val (.long (((x3 &&& (2147483647 : Int32)) % (((128 : Int64) / (W.toInt64)).toInt32)).toInt64)), .second, .unset, .unset, .unset, .unset, .unset, .unset, .unset, .unset, .unset] [(.int ((x4 &&& (2147483647 : Int32)) % W))])) (fun t k => iremM (g := _) X6 hx rfl (hb hby at_114) rfl nz114 k) ?_
  refine Go.of (T' := T6) (f' := (mkF m 117 #[.val (.long x0), .second, .val (.long x1), .second, .val (.int x2), .val (.int x3), .val (.int x4), .val (.int W), .val (.long ((128 : Int64) / (W.toInt64))), .second, .val (.long (((128 : Int64) / (W.toInt64)) * (W.toInt64))), .second, .val (.int (((((128 : Int64) / (W.toInt64)) * (W.toInt64)) - (64 : Int64)).toInt32)), .val (.long v1_13), .second, .val (.ref b2), .val (.ref b3), .val (.long (((x3 &&& (2147483647 : Int32)) % (((128 : Int64) / (W.toInt64)).toInt32)).toInt64)), .second, .val (.int ((x4 &&& (2147483647 : Int32)) % W)), .unset, .unset, .unset, .unset, .unset, .unset, .unset, .unset] [])) (fun t k => XS.istore X6.here hx rfl (hb hby at_115) rfl (l' := #[.val (.long x0), .second, .val (.long x1), .second, .val (.int x2), .val (.int x3), .val (.int x4), .val (.int W), .val (.long ((128 : Int64) / (W.toInt64))), .second, .val (.long (((128 : Int64) / (W.toInt64)) * (W.toInt64))), .second, .val (.int (((((128 : Int64) / (W.toInt64)) * (W.toInt64)) - (64 : Int64)).toInt32)), .val (.long v1_13), .second, .val (.ref b2), .val (.ref b3), .val (.long (((x3 &&& (2147483647 : Int32)) % (((128 : Int64) / (W.toInt64)).toInt32)).toInt64)), .second, .val (.int ((x4 &&& (2147483647 : Int32)) % W)), .unset, .unset, .unset, .unset, .unset, .unset, .unset, .unset]) rfl k) ?_
  refine Go.of (T' := T6) (f' := (mkF m 119 #[.val (.long x0), .second, .val (.long x1), .second, .val (.int x2), .val (.int x3), .val (.int x4), .val (.int W), .val (.long ((128 : Int64) / (W.toInt64))), .second, .val (.long (((128 : Int64) / (W.toInt64)) * (W.toInt64))), .second, .val (.int (((((128 : Int64) / (W.toInt64)) * (W.toInt64)) - (64 : Int64)).toInt32)), .val (.long v1_13), .second, .val (.ref b2), .val (.ref b3), .val (.long (((x3 &&& (2147483647 : Int32)) % (((128 : Int64) / (W.toInt64)).toInt32)).toInt64)), .second, .val (.int ((x4 &&& (2147483647 : Int32)) % W)), .unset, .unset, .unset, .unset, .unset, .unset, .unset, .unset] [(.long (((x3 &&& (2147483647 : Int32)) % (((128 : Int64) / (W.toInt64)).toInt32)).toInt64))])) (fun t k => XS.lload X6.here hx rfl (hb hby at_117) rfl k) ?_
  refine Go.of (T' := T6) (f' := (mkF m 121 #[.val (.long x0), .second, .val (.long x1), .second, .val (.int x2), .val (.int x3), .val (.int x4), .val (.int W), .val (.long ((128 : Int64) / (W.toInt64))), .second, .val (.long (((128 : Int64) / (W.toInt64)) * (W.toInt64))), .second, .val (.int (((((128 : Int64) / (W.toInt64)) * (W.toInt64)) - (64 : Int64)).toInt32)), .val (.long v1_13), .second, .val (.ref b2), .val (.ref b3), .val (.long (((x3 &&& (2147483647 : Int32)) % (((128 : Int64) / (W.toInt64)).toInt32)).toInt64)), .second, .val (.int ((x4 &&& (2147483647 : Int32)) % W)), .unset, .unset, .unset, .unset, .unset, .unset, .unset, .unset] [(.int W), (.long (((x3 &&& (2147483647 : Int32)) % (((128 : Int64) / (W.toInt64)).toInt32)).toInt64))])) (fun t k => XS.iload X6.here hx rfl (hb hby at_119) rfl k) ?_
  refine Go.of (T' := T6) (f' := (mkF m 122 #[.val (.long x0), .second, .val (.long x1), .second, .val (.int x2), .val (.int x3), .val (.int x4), .val (.int W), .val (.long ((128 : Int64) / (W.toInt64))), .second, .val (.long (((128 : Int64) / (W.toInt64)) * (W.toInt64))), .second, .val (.int (((((128 : Int64) / (W.toInt64)) * (W.toInt64)) - (64 : Int64)).toInt32)), .val (.long v1_13), .second, .val (.ref b2), .val (.ref b3), .val (.long (((x3 &&& (2147483647 : Int32)) % (((128 : Int64) / (W.toInt64)).toInt32)).toInt64)), .second, .val (.int ((x4 &&& (2147483647 : Int32)) % W)), .unset, .unset, .unset, .unset, .unset, .unset, .unset, .unset] [(.long (W.toInt64)), (.long (((x3 &&& (2147483647 : Int32)) % (((128 : Int64) / (W.toInt64)).toInt32)).toInt64))])) (fun t k => XS.i2l X6.here hx rfl (hb hby at_121) rfl k) ?_
  refine Go.of (T' := T6) (f' := (mkF m 123 #[.val (.long x0), .second, .val (.long x1), .second, .val (.int x2), .val (.int x3), .val (.int x4), .val (.int W), .val (.long ((128 : Int64) / (W.toInt64))), .second, .val (.long (((128 : Int64) / (W.toInt64)) * (W.toInt64))), .second, .val (.int (((((128 : Int64) / (W.toInt64)) * (W.toInt64)) - (64 : Int64)).toInt32)), .val (.long v1_13), .second, .val (.ref b2), .val (.ref b3), .val (.long (((x3 &&& (2147483647 : Int32)) % (((128 : Int64) / (W.toInt64)).toInt32)).toInt64)), .second, .val (.int ((x4 &&& (2147483647 : Int32)) % W)), .unset, .unset, .unset, .unset, .unset, .unset, .unset, .unset] [(.long ((((x3 &&& (2147483647 : Int32)) % (((128 : Int64) / (W.toInt64)).toInt32)).toInt64) * (W.toInt64)))])) (fun t k => XS.lmul X6.here hx rfl (hb hby at_122) rfl k) ?_
  refine Go.of (T' := T6) (f' := (mkF m 125 #[.val (.long x0), .second, .val (.long x1), .second, .val (.int x2), .val (.int x3), .val (.int x4), .val (.int W), .val (.long ((128 : Int64) / (W.toInt64))), .second, .val (.long (((128 : Int64) / (W.toInt64)) * (W.toInt64))), .second, .val (.int (((((128 : Int64) / (W.toInt64)) * (W.toInt64)) - (64 : Int64)).toInt32)), .val (.long v1_13), .second, .val (.ref b2), .val (.ref b3), .val (.long (((x3 &&& (2147483647 : Int32)) % (((128 : Int64) / (W.toInt64)).toInt32)).toInt64)), .second, .val (.int ((x4 &&& (2147483647 : Int32)) % W)), .unset, .unset, .unset, .unset, .unset, .unset, .unset, .unset] [(.int ((x4 &&& (2147483647 : Int32)) % W)), (.long ((((x3 &&& (2147483647 : Int32)) % (((128 : Int64) / (W.toInt64)).toInt32)).toInt64) * (W.toInt64)))])) (fun t k => XS.iload X6.here hx rfl (hb hby at_123) rfl k) ?_
  refine Go.of (T' := T6) (f' := (mkF m 126 #[.val (.long x0), .second, .val (.long x1), .second, .val (.int x2), .val (.int x3), .val (.int x4), .val (.int W), .val (.long ((128 : Int64) / (W.toInt64))), .second, .val (.long (((128 : Int64) / (W.toInt64)) * (W.toInt64))), .second, .val (.int (((((128 : Int64) / (W.toInt64)) * (W.toInt64)) - (64 : Int64)).toInt32)), .val (.long v1_13), .second, .val (.ref b2), .val (.ref b3), .val (.long (((x3 &&& (2147483647 : Int32)) % (((128 : Int64) / (W.toInt64)).toInt32)).toInt64)), .second, .val (.int ((x4 &&& (2147483647 : Int32)) % W)), .unset, .unset, .unset, .unset, .unset, .unset, .unset, .unset] [(.long (((x4 &&& (2147483647 : Int32)) % W).toInt64)), (.long ((((x3 &&& (2147483647 : Int32)) % (((128 : Int64) / (W.toInt64)).toInt32)).toInt64) * (W.toInt64)))])) (fun t k => XS.i2l X6.here hx rfl (hb hby at_125) rfl k) ?_
  refine Go.of (T' := T6) (f' := (mkF m 127 #[.val (.long x0), .second, .val (.long x1), .second, .val (.int x2), .val (.int x3), .val (.int x4), .val (.int W), .val (.long ((128 : Int64) / (W.toInt64))), .second, .val (.long (((128 : Int64) / (W.toInt64)) * (W.toInt64))), .second, .val (.int (((((128 : Int64) / (W.toInt64)) * (W.toInt64)) - (64 : Int64)).toInt32)), .val (.long v1_13), .second, .val (.ref b2), .val (.ref b3), .val (.long (((x3 &&& (2147483647 : Int32)) % (((128 : Int64) / (W.toInt64)).toInt32)).toInt64)), .second, .val (.int ((x4 &&& (2147483647 : Int32)) % W)), .unset, .unset, .unset, .unset, .unset, .unset, .unset, .unset] [(.long (((((x3 &&& (2147483647 : Int32)) % (((128 : Int64) / (W.toInt64)).toInt32)).toInt64) * (W.toInt64)) + (((x4 &&& (2147483647 : Int32)) % W).toInt64)))])) (fun t k => XS.ladd X6.here hx rfl (hb hby at_126) rfl k) ?_
  refine Go.of (T' := T6) (f' := (mkF m 129 #[.val (.long x0), .second, .val (.long x1), .second, .val (.int x2), .val (.int x3), .val (.int x4), .val (.int W), .val (.long ((128 : Int64) / (W.toInt64))), .second, .val (.long (((128 : Int64) / (W.toInt64)) * (W.toInt64))), .second, .val (.int (((((128 : Int64) / (W.toInt64)) * (W.toInt64)) - (64 : Int64)).toInt32)), .val (.long v1_13), .second, .val (.ref b2), .val (.ref b3), .val (.long (((x3 &&& (2147483647 : Int32)) % (((128 : Int64) / (W.toInt64)).toInt32)).toInt64)), .second, .val (.int ((x4 &&& (2147483647 : Int32)) % W)), .val (.long (((((x3 &&& (2147483647 : Int32)) % (((128 : Int64) / (W.toInt64)).toInt32)).toInt64) * (W.toInt64)) + (((x4 &&& (2147483647 : Int32)) % W).toInt64))), .second, .unset, .unset, .unset, .unset, .unset, .unset] [])) (fun t k => XS.lstore X6.here hx rfl (hb hby at_127) rfl (l' := #[.val (.long x0), .second, .val (.long x1), .second, .val (.int x2), .val (.int x3), .val (.int x4), .val (.int W), .val (.long ((128 : Int64) / (W.toInt64))), .second, .val (.long (((128 : Int64) / (W.toInt64)) * (W.toInt64))), .second, .val (.int (((((128 : Int64) / (W.toInt64)) * (W.toInt64)) - (64 : Int64)).toInt32)), .val (.long v1_13), .second, .val (.ref b2), .val (.ref b3), .val (.long (((x3 &&& (2147483647 : Int32)) % (((128 : Int64) / (W.toInt64)).toInt32)).toInt64)), .second, .val (.int ((x4 &&& (2147483647 : Int32)) % W)), .val (.long (((((x3 &&& (2147483647 : Int32)) % (((128 : Int64) / (W.toInt64)).toInt32)).toInt64) * (W.toInt64)) + (((x4 &&& (2147483647 : Int32)) % W).toInt64))), .second, .unset, .unset, .unset, .unset, .unset, .unset]) rfl k) ?_
  generalize (((x3 &&& (2147483647 : Int32)) % (((128 : Int64) / (W.toInt64)).toInt32)).toInt64) = ii at *
  generalize ((x4 &&& (2147483647 : Int32)) % W) = kk at *
  refine Go.of (T' := T6) (f' := (mkF m 131 #[.val (.long x0), .second, .val (.long x1), .second, .val (.int x2), .val (.int x3), .val (.int x4), .val (.int W), .val (.long ((128 : Int64) / (W.toInt64))), .second, .val (.long (((128 : Int64) / (W.toInt64)) * (W.toInt64))), .second, .val (.int (((((128 : Int64) / (W.toInt64)) * (W.toInt64)) - (64 : Int64)).toInt32)), .val (.long v1_13), .second, .val (.ref b2), .val (.ref b3), .val (.long ii), .second, .val (.int kk), .val (.long ((ii * (W.toInt64)) + (kk.toInt64))), .second, .unset, .unset, .unset, .unset, .unset, .unset] [(.long ((ii * (W.toInt64)) + (kk.toInt64)))])) (fun t k => XS.lload X6.here hx rfl (hb hby at_129) rfl k) ?_
  refine Go.of (T' := T6) (f' := (mkF m 134 #[.val (.long x0), .second, .val (.long x1), .second, .val (.int x2), .val (.int x3), .val (.int x4), .val (.int W), .val (.long ((128 : Int64) / (W.toInt64))), .second, .val (.long (((128 : Int64) / (W.toInt64)) * (W.toInt64))), .second, .val (.int (((((128 : Int64) / (W.toInt64)) * (W.toInt64)) - (64 : Int64)).toInt32)), .val (.long v1_13), .second, .val (.ref b2), .val (.ref b3), .val (.long ii), .second, .val (.int kk), .val (.long ((ii * (W.toInt64)) + (kk.toInt64))), .second, .unset, .unset, .unset, .unset, .unset, .unset] [(.long (64 : Int64)), (.long ((ii * (W.toInt64)) + (kk.toInt64)))])) (fun t k => X6.ldc2Long hx hown (mvT hZ (hw _ (List.mem_of_getElem? (i := 1) rfl))) (g := (mkF m 131 #[.val (.long x0), .second, .val (.long x1), .second, .val (.int x2), .val (.int x3), .val (.int x4), .val (.int W), .val (.long ((128 : Int64) / (W.toInt64))), .second, .val (.long (((128 : Int64) / (W.toInt64)) * (W.toInt64))), .second, .val (.int (((((128 : Int64) / (W.toInt64)) * (W.toInt64)) - (64 : Int64)).toInt32)), .val (.long v1_13), .second, .val (.ref b2), .val (.ref b3), .val (.long ii), .second, .val (.int kk), .val (.long ((ii * (W.toInt64)) + (kk.toInt64))), .second, .unset, .unset, .unset, .unset, .unset, .unset] [(.long ((ii * (W.toInt64)) + (kk.toInt64)))])) rfl (hb hby at_131) t k) ?_
  refine Go.of (T' := T6) (f' := (mkF m 135 #[.val (.long x0), .second, .val (.long x1), .second, .val (.int x2), .val (.int x3), .val (.int x4), .val (.int W), .val (.long ((128 : Int64) / (W.toInt64))), .second, .val (.long (((128 : Int64) / (W.toInt64)) * (W.toInt64))), .second, .val (.int (((((128 : Int64) / (W.toInt64)) * (W.toInt64)) - (64 : Int64)).toInt32)), .val (.long v1_13), .second, .val (.ref b2), .val (.ref b3), .val (.long ii), .second, .val (.int kk), .val (.long ((ii * (W.toInt64)) + (kk.toInt64))), .second, .unset, .unset, .unset, .unset, .unset, .unset] [(.int (lcmpW ((ii * (W.toInt64)) + (kk.toInt64)) (64 : Int64)))])) (fun t k => XS.lcmp X6.here hx rfl (hb hby at_134) rfl k) ?_
  suffices J7 : ∀  (v7_22 : Int64) (hj7 : ((((ii * (W.toInt64)) + (kk.toInt64)) < (64 : Int64)) ∧ v7_22 = (((x0.toUInt64 >>> ((((ii * (W.toInt64)) + (kk.toInt64)).toInt32) &&& 0x3f).toInt64.toUInt64).toInt64) &&& (1 : Int64))) ∨ (¬ (((ii * (W.toInt64)) + (kk.toInt64)) < (64 : Int64)) ∧ v7_22 = (((v1_13.toUInt64 >>> (((((ii * (W.toInt64)) + (kk.toInt64)) - (64 : Int64)).toInt32) &&& 0x3f).toInt64.toUInt64).toInt64) &&& (1 : Int64)))), Go p e below s (Q0 Z x0 x1 x2 x3 x4 h0 n0) 16 128 T6 (mkF m 164 #[.val (.long x0), .second, .val (.long x1), .second, .val (.int x2), .val (.int x3), .val (.int x4), .val (.int W), .val (.long ((128 : Int64) / (W.toInt64))), .second, .val (.long (((128 : Int64) / (W.toInt64)) * (W.toInt64))), .second, .val (.int (((((128 : Int64) / (W.toInt64)) * (W.toInt64)) - (64 : Int64)).toInt32)), .val (.long v1_13), .second, .val (.ref b2), .val (.ref b3), .val (.long ii), .second, .val (.int kk), .val (.long ((ii * (W.toInt64)) + (kk.toInt64))), .second, .val (.long v7_22), .second, .unset, .unset, .unset, .unset] []) by
    by_cases hc135 : ((ii * (W.toInt64)) + (kk.toInt64)) < (64 : Int64)
    · -- pc 135: no
      refine Go.of (T' := T6) (f' := (mkF m 138 #[.val (.long x0), .second, .val (.long x1), .second, .val (.int x2), .val (.int x3), .val (.int x4), .val (.int W), .val (.long ((128 : Int64) / (W.toInt64))), .second, .val (.long (((128 : Int64) / (W.toInt64)) * (W.toInt64))), .second, .val (.int (((((128 : Int64) / (W.toInt64)) * (W.toInt64)) - (64 : Int64)).toInt32)), .val (.long v1_13), .second, .val (.ref b2), .val (.ref b3), .val (.long ii), .second, .val (.int kk), .val (.long ((ii * (W.toInt64)) + (kk.toInt64))), .second, .unset, .unset, .unset, .unset, .unset, .unset] [])) (fun t k => XS.ifNo X6.here hx rfl (hb hby at_135) rfl (lc_ge_f hc135) k) ?_
      refine Go.of (T' := T6) (f' := (mkF m 139 #[.val (.long x0), .second, .val (.long x1), .second, .val (.int x2), .val (.int x3), .val (.int x4), .val (.int W), .val (.long ((128 : Int64) / (W.toInt64))), .second, .val (.long (((128 : Int64) / (W.toInt64)) * (W.toInt64))), .second, .val (.int (((((128 : Int64) / (W.toInt64)) * (W.toInt64)) - (64 : Int64)).toInt32)), .val (.long v1_13), .second, .val (.ref b2), .val (.ref b3), .val (.long ii), .second, .val (.int kk), .val (.long ((ii * (W.toInt64)) + (kk.toInt64))), .second, .unset, .unset, .unset, .unset, .unset, .unset] [(.long x0)])) (fun t k => XS.lloadN X6.here hx rfl (hb hby at_138) rfl k) ?_
      refine Go.of (T' := T6) (f' := (mkF m 141 #[.val (.long x0), .second, .val (.long x1), .second, .val (.int x2), .val (.int x3), .val (.int x4), .val (.int W), .val (.long ((128 : Int64) / (W.toInt64))), .second, .val (.long (((128 : Int64) / (W.toInt64)) * (W.toInt64))), .second, .val (.int (((((128 : Int64) / (W.toInt64)) * (W.toInt64)) - (64 : Int64)).toInt32)), .val (.long v1_13), .second, .val (.ref b2), .val (.ref b3), .val (.long ii), .second, .val (.int kk), .val (.long ((ii * (W.toInt64)) + (kk.toInt64))), .second, .unset, .unset, .unset, .unset, .unset, .unset] [(.long ((ii * (W.toInt64)) + (kk.toInt64))), (.long x0)])) (fun t k => XS.lload X6.here hx rfl (hb hby at_139) rfl k) ?_
      refine Go.of (T' := T6) (f' := (mkF m 142 #[.val (.long x0), .second, .val (.long x1), .second, .val (.int x2), .val (.int x3), .val (.int x4), .val (.int W), .val (.long ((128 : Int64) / (W.toInt64))), .second, .val (.long (((128 : Int64) / (W.toInt64)) * (W.toInt64))), .second, .val (.int (((((128 : Int64) / (W.toInt64)) * (W.toInt64)) - (64 : Int64)).toInt32)), .val (.long v1_13), .second, .val (.ref b2), .val (.ref b3), .val (.long ii), .second, .val (.int kk), .val (.long ((ii * (W.toInt64)) + (kk.toInt64))), .second, .unset, .unset, .unset, .unset, .unset, .unset] [(.int (((ii * (W.toInt64)) + (kk.toInt64)).toInt32)), (.long x0)])) (fun t k => XS.l2i X6.here hx rfl (hb hby at_141) rfl k) ?_
      refine Go.of (T' := T6) (f' := (mkF m 143 #[.val (.long x0), .second, .val (.long x1), .second, .val (.int x2), .val (.int x3), .val (.int x4), .val (.int W), .val (.long ((128 : Int64) / (W.toInt64))), .second, .val (.long (((128 : Int64) / (W.toInt64)) * (W.toInt64))), .second, .val (.int (((((128 : Int64) / (W.toInt64)) * (W.toInt64)) - (64 : Int64)).toInt32)), .val (.long v1_13), .second, .val (.ref b2), .val (.ref b3), .val (.long ii), .second, .val (.int kk), .val (.long ((ii * (W.toInt64)) + (kk.toInt64))), .second, .unset, .unset, .unset, .unset, .unset, .unset] [(.long ((x0.toUInt64 >>> ((((ii * (W.toInt64)) + (kk.toInt64)).toInt32) &&& 0x3f).toInt64.toUInt64).toInt64))])) (fun t k => XS.lushr X6.here hx rfl (hb hby at_142) rfl k) ?_
      refine Go.of (T' := T6) (f' := (mkF m 144 #[.val (.long x0), .second, .val (.long x1), .second, .val (.int x2), .val (.int x3), .val (.int x4), .val (.int W), .val (.long ((128 : Int64) / (W.toInt64))), .second, .val (.long (((128 : Int64) / (W.toInt64)) * (W.toInt64))), .second, .val (.int (((((128 : Int64) / (W.toInt64)) * (W.toInt64)) - (64 : Int64)).toInt32)), .val (.long v1_13), .second, .val (.ref b2), .val (.ref b3), .val (.long ii), .second, .val (.int kk), .val (.long ((ii * (W.toInt64)) + (kk.toInt64))), .second, .unset, .unset, .unset, .unset, .unset, .unset] [(.long (1 : Int64)), (.long ((x0.toUInt64 >>> ((((ii * (W.toInt64)) + (kk.toInt64)).toInt32) &&& 0x3f).toInt64.toUInt64).toInt64))])) (fun t k => XS.lconst X6.here hx rfl (hb hby at_143) k) ?_
      refine Go.of (T' := T6) (f' := (mkF m 145 #[.val (.long x0), .second, .val (.long x1), .second, .val (.int x2), .val (.int x3), .val (.int x4), .val (.int W), .val (.long ((128 : Int64) / (W.toInt64))), .second, .val (.long (((128 : Int64) / (W.toInt64)) * (W.toInt64))), .second, .val (.int (((((128 : Int64) / (W.toInt64)) * (W.toInt64)) - (64 : Int64)).toInt32)), .val (.long v1_13), .second, .val (.ref b2), .val (.ref b3), .val (.long ii), .second, .val (.int kk), .val (.long ((ii * (W.toInt64)) + (kk.toInt64))), .second, .unset, .unset, .unset, .unset, .unset, .unset] [(.long (((x0.toUInt64 >>> ((((ii * (W.toInt64)) + (kk.toInt64)).toInt32) &&& 0x3f).toInt64.toUInt64).toInt64) &&& (1 : Int64)))])) (fun t k => XS.land X6.here hx rfl (hb hby at_144) rfl k) ?_
      refine Go.of (T' := T6) (f' := (mkF m 147 #[.val (.long x0), .second, .val (.long x1), .second, .val (.int x2), .val (.int x3), .val (.int x4), .val (.int W), .val (.long ((128 : Int64) / (W.toInt64))), .second, .val (.long (((128 : Int64) / (W.toInt64)) * (W.toInt64))), .second, .val (.int (((((128 : Int64) / (W.toInt64)) * (W.toInt64)) - (64 : Int64)).toInt32)), .val (.long v1_13), .second, .val (.ref b2), .val (.ref b3), .val (.long ii), .second, .val (.int kk), .val (.long ((ii * (W.toInt64)) + (kk.toInt64))), .second, .val (.long (((x0.toUInt64 >>> ((((ii * (W.toInt64)) + (kk.toInt64)).toInt32) &&& 0x3f).toInt64.toUInt64).toInt64) &&& (1 : Int64))), .second, .unset, .unset, .unset, .unset] [])) (fun t k => XS.lstore X6.here hx rfl (hb hby at_145) rfl (l' := #[.val (.long x0), .second, .val (.long x1), .second, .val (.int x2), .val (.int x3), .val (.int x4), .val (.int W), .val (.long ((128 : Int64) / (W.toInt64))), .second, .val (.long (((128 : Int64) / (W.toInt64)) * (W.toInt64))), .second, .val (.int (((((128 : Int64) / (W.toInt64)) * (W.toInt64)) - (64 : Int64)).toInt32)), .val (.long v1_13), .second, .val (.ref b2), .val (.ref b3), .val (.long ii), .second, .val (.int kk), .val (.long ((ii * (W.toInt64)) + (kk.toInt64))), .second, .val (.long (((x0.toUInt64 >>> ((((ii * (W.toInt64)) + (kk.toInt64)).toInt32) &&& 0x3f).toInt64.toUInt64).toInt64) &&& (1 : Int64))), .second, .unset, .unset, .unset, .unset]) rfl k) ?_
      refine Go.of (T' := T6) (f' := (mkF m 164 #[.val (.long x0), .second, .val (.long x1), .second, .val (.int x2), .val (.int x3), .val (.int x4), .val (.int W), .val (.long ((128 : Int64) / (W.toInt64))), .second, .val (.long (((128 : Int64) / (W.toInt64)) * (W.toInt64))), .second, .val (.int (((((128 : Int64) / (W.toInt64)) * (W.toInt64)) - (64 : Int64)).toInt32)), .val (.long v1_13), .second, .val (.ref b2), .val (.ref b3), .val (.long ii), .second, .val (.int kk), .val (.long ((ii * (W.toInt64)) + (kk.toInt64))), .second, .val (.long (((x0.toUInt64 >>> ((((ii * (W.toInt64)) + (kk.toInt64)).toInt32) &&& 0x3f).toInt64.toUInt64).toInt64) &&& (1 : Int64))), .second, .unset, .unset, .unset, .unset] [])) (fun t k => XS.goto X6.here hx rfl (pc0 := 147) (pc' := 164) rfl (hb hby at_147) (by decide) (by decide) k) ?_
      exact J7 (((x0.toUInt64 >>> ((((ii * (W.toInt64)) + (kk.toInt64)).toInt32) &&& 0x3f).toInt64.toUInt64).toInt64) &&& (1 : Int64)) (Or.inl ⟨hc135, rfl⟩)
    · -- pc 135: yes
      refine Go.of (T' := T6) (f' := (mkF m 150 #[.val (.long x0), .second, .val (.long x1), .second, .val (.int x2), .val (.int x3), .val (.int x4), .val (.int W), .val (.long ((128 : Int64) / (W.toInt64))), .second, .val (.long (((128 : Int64) / (W.toInt64)) * (W.toInt64))), .second, .val (.int (((((128 : Int64) / (W.toInt64)) * (W.toInt64)) - (64 : Int64)).toInt32)), .val (.long v1_13), .second, .val (.ref b2), .val (.ref b3), .val (.long ii), .second, .val (.int kk), .val (.long ((ii * (W.toInt64)) + (kk.toInt64))), .second, .unset, .unset, .unset, .unset, .unset, .unset] [])) (fun t k => XS.ifYes X6.here hx rfl (pc0 := 135) (pc' := 150) rfl (hb hby at_135) rfl (lc_ge_t hc135) (by decide) (by decide) k) ?_
      refine Go.of (T' := T6) (f' := (mkF m 152 #[.val (.long x0), .second, .val (.long x1), .second, .val (.int x2), .val (.int x3), .val (.int x4), .val (.int W), .val (.long ((128 : Int64) / (W.toInt64))), .second, .val (.long (((128 : Int64) / (W.toInt64)) * (W.toInt64))), .second, .val (.int (((((128 : Int64) / (W.toInt64)) * (W.toInt64)) - (64 : Int64)).toInt32)), .val (.long v1_13), .second, .val (.ref b2), .val (.ref b3), .val (.long ii), .second, .val (.int kk), .val (.long ((ii * (W.toInt64)) + (kk.toInt64))), .second, .unset, .unset, .unset, .unset, .unset, .unset] [(.long v1_13)])) (fun t k => XS.lload X6.here hx rfl (hb hby at_150) rfl k) ?_
      refine Go.of (T' := T6) (f' := (mkF m 154 #[.val (.long x0), .second, .val (.long x1), .second, .val (.int x2), .val (.int x3), .val (.int x4), .val (.int W), .val (.long ((128 : Int64) / (W.toInt64))), .second, .val (.long (((128 : Int64) / (W.toInt64)) * (W.toInt64))), .second, .val (.int (((((128 : Int64) / (W.toInt64)) * (W.toInt64)) - (64 : Int64)).toInt32)), .val (.long v1_13), .second, .val (.ref b2), .val (.ref b3), .val (.long ii), .second, .val (.int kk), .val (.long ((ii * (W.toInt64)) + (kk.toInt64))), .second, .unset, .unset, .unset, .unset, .unset, .unset] [(.long ((ii * (W.toInt64)) + (kk.toInt64))), (.long v1_13)])) (fun t k => XS.lload X6.here hx rfl (hb hby at_152) rfl k) ?_
      refine Go.of (T' := T6) (f' := (mkF m 157 #[.val (.long x0), .second, .val (.long x1), .second, .val (.int x2), .val (.int x3), .val (.int x4), .val (.int W), .val (.long ((128 : Int64) / (W.toInt64))), .second, .val (.long (((128 : Int64) / (W.toInt64)) * (W.toInt64))), .second, .val (.int (((((128 : Int64) / (W.toInt64)) * (W.toInt64)) - (64 : Int64)).toInt32)), .val (.long v1_13), .second, .val (.ref b2), .val (.ref b3), .val (.long ii), .second, .val (.int kk), .val (.long ((ii * (W.toInt64)) + (kk.toInt64))), .second, .unset, .unset, .unset, .unset, .unset, .unset] [(.long (64 : Int64)), (.long ((ii * (W.toInt64)) + (kk.toInt64))), (.long v1_13)])) (fun t k => X6.ldc2Long hx hown (mvT hZ (hw _ (List.mem_of_getElem? (i := 1) rfl))) (g := (mkF m 154 #[.val (.long x0), .second, .val (.long x1), .second, .val (.int x2), .val (.int x3), .val (.int x4), .val (.int W), .val (.long ((128 : Int64) / (W.toInt64))), .second, .val (.long (((128 : Int64) / (W.toInt64)) * (W.toInt64))), .second, .val (.int (((((128 : Int64) / (W.toInt64)) * (W.toInt64)) - (64 : Int64)).toInt32)), .val (.long v1_13), .second, .val (.ref b2), .val (.ref b3), .val (.long ii), .second, .val (.int kk), .val (.long ((ii * (W.toInt64)) + (kk.toInt64))), .second, .unset, .unset, .unset, .unset, .unset, .unset] [(.long ((ii * (W.toInt64)) + (kk.toInt64))), (.long v1_13)])) rfl (hb hby at_154) t k) ?_
      refine Go.of (T' := T6) (f' := (mkF m 158 #[.val (.long x0), .second, .val (.long x1), .second, .val (.int x2), .val (.int x3), .val (.int x4), .val (.int W), .val (.long ((128 : Int64) / (W.toInt64))), .second, .val (.long (((128 : Int64) / (W.toInt64)) * (W.toInt64))), .second, .val (.int (((((128 : Int64) / (W.toInt64)) * (W.toInt64)) - (64 : Int64)).toInt32)), .val (.long v1_13), .second, .val (.ref b2), .val (.ref b3), .val (.long ii), .second, .val (.int kk), .val (.long ((ii * (W.toInt64)) + (kk.toInt64))), .second, .unset, .unset, .unset, .unset, .unset, .unset] [(.long (((ii * (W.toInt64)) + (kk.toInt64)) - (64 : Int64))), (.long v1_13)])) (fun t k => XS.lsub X6.here hx rfl (hb hby at_157) rfl k) ?_
      refine Go.of (T' := T6) (f' := (mkF m 159 #[.val (.long x0), .second, .val (.long x1), .second, .val (.int x2), .val (.int x3), .val (.int x4), .val (.int W), .val (.long ((128 : Int64) / (W.toInt64))), .second, .val (.long (((128 : Int64) / (W.toInt64)) * (W.toInt64))), .second, .val (.int (((((128 : Int64) / (W.toInt64)) * (W.toInt64)) - (64 : Int64)).toInt32)), .val (.long v1_13), .second, .val (.ref b2), .val (.ref b3), .val (.long ii), .second, .val (.int kk), .val (.long ((ii * (W.toInt64)) + (kk.toInt64))), .second, .unset, .unset, .unset, .unset, .unset, .unset] [(.int ((((ii * (W.toInt64)) + (kk.toInt64)) - (64 : Int64)).toInt32)), (.long v1_13)])) (fun t k => XS.l2i X6.here hx rfl (hb hby at_158) rfl k) ?_
      refine Go.of (T' := T6) (f' := (mkF m 160 #[.val (.long x0), .second, .val (.long x1), .second, .val (.int x2), .val (.int x3), .val (.int x4), .val (.int W), .val (.long ((128 : Int64) / (W.toInt64))), .second, .val (.long (((128 : Int64) / (W.toInt64)) * (W.toInt64))), .second, .val (.int (((((128 : Int64) / (W.toInt64)) * (W.toInt64)) - (64 : Int64)).toInt32)), .val (.long v1_13), .second, .val (.ref b2), .val (.ref b3), .val (.long ii), .second, .val (.int kk), .val (.long ((ii * (W.toInt64)) + (kk.toInt64))), .second, .unset, .unset, .unset, .unset, .unset, .unset] [(.long ((v1_13.toUInt64 >>> (((((ii * (W.toInt64)) + (kk.toInt64)) - (64 : Int64)).toInt32) &&& 0x3f).toInt64.toUInt64).toInt64))])) (fun t k => XS.lushr X6.here hx rfl (hb hby at_159) rfl k) ?_
      refine Go.of (T' := T6) (f' := (mkF m 161 #[.val (.long x0), .second, .val (.long x1), .second, .val (.int x2), .val (.int x3), .val (.int x4), .val (.int W), .val (.long ((128 : Int64) / (W.toInt64))), .second, .val (.long (((128 : Int64) / (W.toInt64)) * (W.toInt64))), .second, .val (.int (((((128 : Int64) / (W.toInt64)) * (W.toInt64)) - (64 : Int64)).toInt32)), .val (.long v1_13), .second, .val (.ref b2), .val (.ref b3), .val (.long ii), .second, .val (.int kk), .val (.long ((ii * (W.toInt64)) + (kk.toInt64))), .second, .unset, .unset, .unset, .unset, .unset, .unset] [(.long (1 : Int64)), (.long ((v1_13.toUInt64 >>> (((((ii * (W.toInt64)) + (kk.toInt64)) - (64 : Int64)).toInt32) &&& 0x3f).toInt64.toUInt64).toInt64))])) (fun t k => XS.lconst X6.here hx rfl (hb hby at_160) k) ?_
      refine Go.of (T' := T6) (f' := (mkF m 162 #[.val (.long x0), .second, .val (.long x1), .second, .val (.int x2), .val (.int x3), .val (.int x4), .val (.int W), .val (.long ((128 : Int64) / (W.toInt64))), .second, .val (.long (((128 : Int64) / (W.toInt64)) * (W.toInt64))), .second, .val (.int (((((128 : Int64) / (W.toInt64)) * (W.toInt64)) - (64 : Int64)).toInt32)), .val (.long v1_13), .second, .val (.ref b2), .val (.ref b3), .val (.long ii), .second, .val (.int kk), .val (.long ((ii * (W.toInt64)) + (kk.toInt64))), .second, .unset, .unset, .unset, .unset, .unset, .unset] [(.long (((v1_13.toUInt64 >>> (((((ii * (W.toInt64)) + (kk.toInt64)) - (64 : Int64)).toInt32) &&& 0x3f).toInt64.toUInt64).toInt64) &&& (1 : Int64)))])) (fun t k => XS.land X6.here hx rfl (hb hby at_161) rfl k) ?_
      refine Go.of (T' := T6) (f' := (mkF m 164 #[.val (.long x0), .second, .val (.long x1), .second, .val (.int x2), .val (.int x3), .val (.int x4), .val (.int W), .val (.long ((128 : Int64) / (W.toInt64))), .second, .val (.long (((128 : Int64) / (W.toInt64)) * (W.toInt64))), .second, .val (.int (((((128 : Int64) / (W.toInt64)) * (W.toInt64)) - (64 : Int64)).toInt32)), .val (.long v1_13), .second, .val (.ref b2), .val (.ref b3), .val (.long ii), .second, .val (.int kk), .val (.long ((ii * (W.toInt64)) + (kk.toInt64))), .second, .val (.long (((v1_13.toUInt64 >>> (((((ii * (W.toInt64)) + (kk.toInt64)) - (64 : Int64)).toInt32) &&& 0x3f).toInt64.toUInt64).toInt64) &&& (1 : Int64))), .second, .unset, .unset, .unset, .unset] [])) (fun t k => XS.lstore X6.here hx rfl (hb hby at_162) rfl (l' := #[.val (.long x0), .second, .val (.long x1), .second, .val (.int x2), .val (.int x3), .val (.int x4), .val (.int W), .val (.long ((128 : Int64) / (W.toInt64))), .second, .val (.long (((128 : Int64) / (W.toInt64)) * (W.toInt64))), .second, .val (.int (((((128 : Int64) / (W.toInt64)) * (W.toInt64)) - (64 : Int64)).toInt32)), .val (.long v1_13), .second, .val (.ref b2), .val (.ref b3), .val (.long ii), .second, .val (.int kk), .val (.long ((ii * (W.toInt64)) + (kk.toInt64))), .second, .val (.long (((v1_13.toUInt64 >>> (((((ii * (W.toInt64)) + (kk.toInt64)) - (64 : Int64)).toInt32) &&& 0x3f).toInt64.toUInt64).toInt64) &&& (1 : Int64))), .second, .unset, .unset, .unset, .unset]) rfl k) ?_
      exact J7 (((v1_13.toUInt64 >>> (((((ii * (W.toInt64)) + (kk.toInt64)) - (64 : Int64)).toInt32) &&& 0x3f).toInt64.toUInt64).toInt64) &&& (1 : Int64)) (Or.inr ⟨hc135, rfl⟩)
  intro v7_22 hj7
  have hexp := hj7
  refine Go.of (T' := T6) (f' := (mkF m 166 #[.val (.long x0), .second, .val (.long x1), .second, .val (.int x2), .val (.int x3), .val (.int x4), .val (.int W), .val (.long ((128 : Int64) / (W.toInt64))), .second, .val (.long (((128 : Int64) / (W.toInt64)) * (W.toInt64))), .second, .val (.int (((((128 : Int64) / (W.toInt64)) * (W.toInt64)) - (64 : Int64)).toInt32)), .val (.long v1_13), .second, .val (.ref b2), .val (.ref b3), .val (.long ii), .second, .val (.int kk), .val (.long ((ii * (W.toInt64)) + (kk.toInt64))), .second, .val (.long v7_22), .second, .unset, .unset, .unset, .unset] [(.ref b2)])) (fun t k => XS.aload X6.here hx rfl (hb hby at_164) rfl rfl k) ?_
  refine Go.of (T' := T6) (f' := (mkF m 168 #[.val (.long x0), .second, .val (.long x1), .second, .val (.int x2), .val (.int x3), .val (.int x4), .val (.int W), .val (.long ((128 : Int64) / (W.toInt64))), .second, .val (.long (((128 : Int64) / (W.toInt64)) * (W.toInt64))), .second, .val (.int (((((128 : Int64) / (W.toInt64)) * (W.toInt64)) - (64 : Int64)).toInt32)), .val (.long v1_13), .second, .val (.ref b2), .val (.ref b3), .val (.long ii), .second, .val (.int kk), .val (.long ((ii * (W.toInt64)) + (kk.toInt64))), .second, .val (.long v7_22), .second, .unset, .unset, .unset, .unset] [(.long ii), (.ref b2)])) (fun t k => XS.lload X6.here hx rfl (hb hby at_166) rfl k) ?_
  have hg := own_pre2 hwa hwb han hI hW x0 v1_13
  obtain ⟨cq8, kq8, q8a, q8b, q8c⟩ := isOf hZ e6 Ex6_b2
  obtain ⟨_, _, ⟨T8, L8, k8, n8⟩, -, X8, ⟨Lc8, hQ8, l8, y8, z8⟩, st8⟩ := X6.virtualBack hx (y := (⟨"com/example/bloom_filter_variants/bloomfiltervariants/PackedArray", "get", "(J)J"⟩ : MethodName)) (z := (⟨"com/example/bloom_filter_variants/bloomfiltervariants/PackedArray", "get", "(J)J"⟩ : MethodName)) hown (mvT hZ (hw _ (List.mem_of_getElem? (i := 32) rfl))) (mvT hZ (hw _ (List.mem_of_getElem? (i := 33) rfl))) (notFace_of_selects (args := #[]) (mvT hZ (hw _ (List.mem_of_getElem? (i := 35) rfl)))) (mvT hZ (hw _ (List.mem_of_getElem? (i := 35) rfl))) (mvT hZ (hw _ (List.mem_of_getElem? (i := 34) rfl))) (by decide) (backOf (W := 0) (rm5 l Z a0 hw [] b2 ii W (maskOf W) b3 [x0, v1_13] (rdW [x0, v1_13] (wordI ii W)) (rdW [x0, v1_13] (wordI ii W + 1)) h6 n0 ZS6 F6_b2_width F6_b2_mask F6_b2_words V6 hg.1 hg.2.1 hg.2.2.1) hZ (hw _ (List.mem_of_getElem? (i := 36) rfl)) (hw _ (List.mem_of_getElem? (i := 4) rfl)) (by decide) (by decide)) q8a q8c (g := (mkF m 168 #[.val (.long x0), .second, .val (.long x1), .second, .val (.int x2), .val (.int x3), .val (.int x4), .val (.int W), .val (.long ((128 : Int64) / (W.toInt64))), .second, .val (.long (((128 : Int64) / (W.toInt64)) * (W.toInt64))), .second, .val (.int (((((128 : Int64) / (W.toInt64)) * (W.toInt64)) - (64 : Int64)).toInt32)), .val (.long v1_13), .second, .val (.ref b2), .val (.ref b3), .val (.long ii), .second, .val (.int kk), .val (.long ((ii * (W.toInt64)) + (kk.toInt64))), .second, .val (.long v7_22), .second, .unset, .unset, .unset, .unset] [(.long ii), (.ref b2)])) rfl (by rw [hml]; rfl) (Steps.refl _) (argsL := [(.long ii)]) (rest := []) (lenOf pd_3 rfl) rfl (by show 2 * 0 + _ ≤ _; exact Nat.le_of_eq rfl) (hb hby at_168) (fun _ _ => ⟨rfl, e6, (by decide : 2 + 0 ≤ _), (by decide : 6 + 0 ≤ _)⟩)
  dsimp only [Pt.U, Pt.locs, Pt.cells, Pt.slots] at X8 l8 y8 z8 st8 hQ8
  subst l8 y8 z8
  obtain ⟨rfl, N8q, e8⟩ := hQ8
  have N8 := Fr.app N6 N8q
  refine Go.tr (T' := T8) (f' := (mkF m 171 #[.val (.long x0), .second, .val (.long x1), .second, .val (.int x2), .val (.int x3), .val (.int x4), .val (.int W), .val (.long ((128 : Int64) / (W.toInt64))), .second, .val (.long (((128 : Int64) / (W.toInt64)) * (W.toInt64))), .second, .val (.int (((((128 : Int64) / (W.toInt64)) * (W.toInt64)) - (64 : Int64)).toInt32)), .val (.long v1_13), .second, .val (.ref b2), .val (.ref b3), .val (.long ii), .second, .val (.int kk), .val (.long ((ii * (W.toInt64)) + (kk.toInt64))), .second, .val (.long v7_22), .second, .unset, .unset, .unset, .unset] [(.long (getV ii W (maskOf W) (rdW [x0, v1_13] (wordI ii W)) (rdW [x0, v1_13] (wordI ii W + 1))))])) st8 ?_
  refine Go.of (T' := T8) (f' := (mkF m 173 #[.val (.long x0), .second, .val (.long x1), .second, .val (.int x2), .val (.int x3), .val (.int x4), .val (.int W), .val (.long ((128 : Int64) / (W.toInt64))), .second, .val (.long (((128 : Int64) / (W.toInt64)) * (W.toInt64))), .second, .val (.int (((((128 : Int64) / (W.toInt64)) * (W.toInt64)) - (64 : Int64)).toInt32)), .val (.long v1_13), .second, .val (.ref b2), .val (.ref b3), .val (.long ii), .second, .val (.int kk), .val (.long ((ii * (W.toInt64)) + (kk.toInt64))), .second, .val (.long v7_22), .second, .val (.long (getV ii W (maskOf W) (rdW [x0, v1_13] (wordI ii W)) (rdW [x0, v1_13] (wordI ii W + 1)))), .second, .unset, .unset] [])) (fun t k => XS.lstore X8.here hx rfl (hb hby at_171) rfl (l' := #[.val (.long x0), .second, .val (.long x1), .second, .val (.int x2), .val (.int x3), .val (.int x4), .val (.int W), .val (.long ((128 : Int64) / (W.toInt64))), .second, .val (.long (((128 : Int64) / (W.toInt64)) * (W.toInt64))), .second, .val (.int (((((128 : Int64) / (W.toInt64)) * (W.toInt64)) - (64 : Int64)).toInt32)), .val (.long v1_13), .second, .val (.ref b2), .val (.ref b3), .val (.long ii), .second, .val (.int kk), .val (.long ((ii * (W.toInt64)) + (kk.toInt64))), .second, .val (.long v7_22), .second, .val (.long (getV ii W (maskOf W) (rdW [x0, v1_13] (wordI ii W)) (rdW [x0, v1_13] (wordI ii W + 1)))), .second, .unset, .unset]) rfl k) ?_
  refine Go.of (T' := T8) (f' := (mkF m 175 #[.val (.long x0), .second, .val (.long x1), .second, .val (.int x2), .val (.int x3), .val (.int x4), .val (.int W), .val (.long ((128 : Int64) / (W.toInt64))), .second, .val (.long (((128 : Int64) / (W.toInt64)) * (W.toInt64))), .second, .val (.int (((((128 : Int64) / (W.toInt64)) * (W.toInt64)) - (64 : Int64)).toInt32)), .val (.long v1_13), .second, .val (.ref b2), .val (.ref b3), .val (.long ii), .second, .val (.int kk), .val (.long ((ii * (W.toInt64)) + (kk.toInt64))), .second, .val (.long v7_22), .second, .val (.long (getV ii W (maskOf W) (rdW [x0, v1_13] (wordI ii W)) (rdW [x0, v1_13] (wordI ii W + 1)))), .second, .unset, .unset] [(.long (getV ii W (maskOf W) (rdW [x0, v1_13] (wordI ii W)) (rdW [x0, v1_13] (wordI ii W + 1))))])) (fun t k => XS.lload X8.here hx rfl (hb hby at_173) rfl k) ?_
  refine Go.of (T' := T8) (f' := (mkF m 177 #[.val (.long x0), .second, .val (.long x1), .second, .val (.int x2), .val (.int x3), .val (.int x4), .val (.int W), .val (.long ((128 : Int64) / (W.toInt64))), .second, .val (.long (((128 : Int64) / (W.toInt64)) * (W.toInt64))), .second, .val (.int (((((128 : Int64) / (W.toInt64)) * (W.toInt64)) - (64 : Int64)).toInt32)), .val (.long v1_13), .second, .val (.ref b2), .val (.ref b3), .val (.long ii), .second, .val (.int kk), .val (.long ((ii * (W.toInt64)) + (kk.toInt64))), .second, .val (.long v7_22), .second, .val (.long (getV ii W (maskOf W) (rdW [x0, v1_13] (wordI ii W)) (rdW [x0, v1_13] (wordI ii W + 1)))), .second, .unset, .unset] [(.int kk), (.long (getV ii W (maskOf W) (rdW [x0, v1_13] (wordI ii W)) (rdW [x0, v1_13] (wordI ii W + 1))))])) (fun t k => XS.iload X8.here hx rfl (hb hby at_175) rfl k) ?_
  refine Go.of (T' := T8) (f' := (mkF m 178 #[.val (.long x0), .second, .val (.long x1), .second, .val (.int x2), .val (.int x3), .val (.int x4), .val (.int W), .val (.long ((128 : Int64) / (W.toInt64))), .second, .val (.long (((128 : Int64) / (W.toInt64)) * (W.toInt64))), .second, .val (.int (((((128 : Int64) / (W.toInt64)) * (W.toInt64)) - (64 : Int64)).toInt32)), .val (.long v1_13), .second, .val (.ref b2), .val (.ref b3), .val (.long ii), .second, .val (.int kk), .val (.long ((ii * (W.toInt64)) + (kk.toInt64))), .second, .val (.long v7_22), .second, .val (.long (getV ii W (maskOf W) (rdW [x0, v1_13] (wordI ii W)) (rdW [x0, v1_13] (wordI ii W + 1)))), .second, .unset, .unset] [(.long (((getV ii W (maskOf W) (rdW [x0, v1_13] (wordI ii W)) (rdW [x0, v1_13] (wordI ii W + 1))).toUInt64 >>> (kk &&& 0x3f).toInt64.toUInt64).toInt64))])) (fun t k => XS.lushr X8.here hx rfl (hb hby at_177) rfl k) ?_
  refine Go.of (T' := T8) (f' := (mkF m 179 #[.val (.long x0), .second, .val (.long x1), .second, .val (.int x2), .val (.int x3), .val (.int x4), .val (.int W), .val (.long ((128 : Int64) / (W.toInt64))), .second, .val (.long (((128 : Int64) / (W.toInt64)) * (W.toInt64))), .second, .val (.int (((((128 : Int64) / (W.toInt64)) * (W.toInt64)) - (64 : Int64)).toInt32)), .val (.long v1_13), .second, .val (.ref b2), .val (.ref b3), .val (.long ii), .second, .val (.int kk), .val (.long ((ii * (W.toInt64)) + (kk.toInt64))), .second, .val (.long v7_22), .second, .val (.long (getV ii W (maskOf W) (rdW [x0, v1_13] (wordI ii W)) (rdW [x0, v1_13] (wordI ii W + 1)))), .second, .unset, .unset] [(.long (1 : Int64)), (.long (((getV ii W (maskOf W) (rdW [x0, v1_13] (wordI ii W)) (rdW [x0, v1_13] (wordI ii W + 1))).toUInt64 >>> (kk &&& 0x3f).toInt64.toUInt64).toInt64))])) (fun t k => XS.lconst X8.here hx rfl (hb hby at_178) k) ?_
  refine Go.of (T' := T8) (f' := (mkF m 180 #[.val (.long x0), .second, .val (.long x1), .second, .val (.int x2), .val (.int x3), .val (.int x4), .val (.int W), .val (.long ((128 : Int64) / (W.toInt64))), .second, .val (.long (((128 : Int64) / (W.toInt64)) * (W.toInt64))), .second, .val (.int (((((128 : Int64) / (W.toInt64)) * (W.toInt64)) - (64 : Int64)).toInt32)), .val (.long v1_13), .second, .val (.ref b2), .val (.ref b3), .val (.long ii), .second, .val (.int kk), .val (.long ((ii * (W.toInt64)) + (kk.toInt64))), .second, .val (.long v7_22), .second, .val (.long (getV ii W (maskOf W) (rdW [x0, v1_13] (wordI ii W)) (rdW [x0, v1_13] (wordI ii W + 1)))), .second, .unset, .unset] [(.long ((((getV ii W (maskOf W) (rdW [x0, v1_13] (wordI ii W)) (rdW [x0, v1_13] (wordI ii W + 1))).toUInt64 >>> (kk &&& 0x3f).toInt64.toUInt64).toInt64) &&& (1 : Int64)))])) (fun t k => XS.land X8.here hx rfl (hb hby at_179) rfl k) ?_
  refine Go.of (T' := T8) (f' := (mkF m 182 #[.val (.long x0), .second, .val (.long x1), .second, .val (.int x2), .val (.int x3), .val (.int x4), .val (.int W), .val (.long ((128 : Int64) / (W.toInt64))), .second, .val (.long (((128 : Int64) / (W.toInt64)) * (W.toInt64))), .second, .val (.int (((((128 : Int64) / (W.toInt64)) * (W.toInt64)) - (64 : Int64)).toInt32)), .val (.long v1_13), .second, .val (.ref b2), .val (.ref b3), .val (.long ii), .second, .val (.int kk), .val (.long ((ii * (W.toInt64)) + (kk.toInt64))), .second, .val (.long v7_22), .second, .val (.long (getV ii W (maskOf W) (rdW [x0, v1_13] (wordI ii W)) (rdW [x0, v1_13] (wordI ii W + 1)))), .second, .unset, .unset] [(.long v7_22), (.long ((((getV ii W (maskOf W) (rdW [x0, v1_13] (wordI ii W)) (rdW [x0, v1_13] (wordI ii W + 1))).toUInt64 >>> (kk &&& 0x3f).toInt64.toUInt64).toInt64) &&& (1 : Int64)))])) (fun t k => XS.lload X8.here hx rfl (hb hby at_180) rfl k) ?_
  refine Go.of (T' := T8) (f' := (mkF m 183 #[.val (.long x0), .second, .val (.long x1), .second, .val (.int x2), .val (.int x3), .val (.int x4), .val (.int W), .val (.long ((128 : Int64) / (W.toInt64))), .second, .val (.long (((128 : Int64) / (W.toInt64)) * (W.toInt64))), .second, .val (.int (((((128 : Int64) / (W.toInt64)) * (W.toInt64)) - (64 : Int64)).toInt32)), .val (.long v1_13), .second, .val (.ref b2), .val (.ref b3), .val (.long ii), .second, .val (.int kk), .val (.long ((ii * (W.toInt64)) + (kk.toInt64))), .second, .val (.long v7_22), .second, .val (.long (getV ii W (maskOf W) (rdW [x0, v1_13] (wordI ii W)) (rdW [x0, v1_13] (wordI ii W + 1)))), .second, .unset, .unset] [(.int (lcmpW ((((getV ii W (maskOf W) (rdW [x0, v1_13] (wordI ii W)) (rdW [x0, v1_13] (wordI ii W + 1))).toUInt64 >>> (kk &&& 0x3f).toInt64.toUInt64).toInt64) &&& (1 : Int64)) v7_22))])) (fun t k => XS.lcmp X8.here hx rfl (hb hby at_182) rfl k) ?_
  have hc183 : ((((getV ii W (maskOf W) (rdW [x0, v1_13] (wordI ii W)) (rdW [x0, v1_13] (wordI ii W + 1))).toUInt64 >>> (kk &&& 0x3f).toInt64.toUInt64).toInt64) &&& (1 : Int64)) = v7_22 := own_bit hwa hwb han hkn hI hW hK _ _ hexp
  refine Go.of (T' := T8) (f' := (mkF m 186 #[.val (.long x0), .second, .val (.long x1), .second, .val (.int x2), .val (.int x3), .val (.int x4), .val (.int W), .val (.long ((128 : Int64) / (W.toInt64))), .second, .val (.long (((128 : Int64) / (W.toInt64)) * (W.toInt64))), .second, .val (.int (((((128 : Int64) / (W.toInt64)) * (W.toInt64)) - (64 : Int64)).toInt32)), .val (.long v1_13), .second, .val (.ref b2), .val (.ref b3), .val (.long ii), .second, .val (.int kk), .val (.long ((ii * (W.toInt64)) + (kk.toInt64))), .second, .val (.long v7_22), .second, .val (.long (getV ii W (maskOf W) (rdW [x0, v1_13] (wordI ii W)) (rdW [x0, v1_13] (wordI ii W + 1)))), .second, .unset, .unset] [])) (fun t k => XS.ifNo X8.here hx rfl (hb hby at_183) rfl (lc_ne_f hc183) k) ?_
  refine Go.of (T' := T8) (f' := (mkF m 187 #[.val (.long x0), .second, .val (.long x1), .second, .val (.int x2), .val (.int x3), .val (.int x4), .val (.int W), .val (.long ((128 : Int64) / (W.toInt64))), .second, .val (.long (((128 : Int64) / (W.toInt64)) * (W.toInt64))), .second, .val (.int (((((128 : Int64) / (W.toInt64)) * (W.toInt64)) - (64 : Int64)).toInt32)), .val (.long v1_13), .second, .val (.ref b2), .val (.ref b3), .val (.long ii), .second, .val (.int kk), .val (.long ((ii * (W.toInt64)) + (kk.toInt64))), .second, .val (.long v7_22), .second, .val (.long (getV ii W (maskOf W) (rdW [x0, v1_13] (wordI ii W)) (rdW [x0, v1_13] (wordI ii W + 1)))), .second, .unset, .unset] [(.int (1 : Int32))])) (fun t k => XS.iconst X8.here hx rfl (hb hby at_186) k) ?_
  refine Go.of (T' := T8) (f' := (mkF m 191 #[.val (.long x0), .second, .val (.long x1), .second, .val (.int x2), .val (.int x3), .val (.int x4), .val (.int W), .val (.long ((128 : Int64) / (W.toInt64))), .second, .val (.long (((128 : Int64) / (W.toInt64)) * (W.toInt64))), .second, .val (.int (((((128 : Int64) / (W.toInt64)) * (W.toInt64)) - (64 : Int64)).toInt32)), .val (.long v1_13), .second, .val (.ref b2), .val (.ref b3), .val (.long ii), .second, .val (.int kk), .val (.long ((ii * (W.toInt64)) + (kk.toInt64))), .second, .val (.long v7_22), .second, .val (.long (getV ii W (maskOf W) (rdW [x0, v1_13] (wordI ii W)) (rdW [x0, v1_13] (wordI ii W + 1)))), .second, .unset, .unset] [(.int (1 : Int32))])) (fun t k => XS.goto X8.here hx rfl (pc0 := 187) (pc' := 191) rfl (hb hby at_187) (by decide) (by decide) k) ?_
  refine Go.of (T' := T8) (f' := (mkF m 193 #[.val (.long x0), .second, .val (.long x1), .second, .val (.int x2), .val (.int x3), .val (.int x4), .val (.int W), .val (.long ((128 : Int64) / (W.toInt64))), .second, .val (.long (((128 : Int64) / (W.toInt64)) * (W.toInt64))), .second, .val (.int (((((128 : Int64) / (W.toInt64)) * (W.toInt64)) - (64 : Int64)).toInt32)), .val (.long v1_13), .second, .val (.ref b2), .val (.ref b3), .val (.long ii), .second, .val (.int kk), .val (.long ((ii * (W.toInt64)) + (kk.toInt64))), .second, .val (.long v7_22), .second, .val (.long (getV ii W (maskOf W) (rdW [x0, v1_13] (wordI ii W)) (rdW [x0, v1_13] (wordI ii W + 1)))), .second, .val (.int (1 : Int32)), .unset] [])) (fun t k => XS.istore X8.here hx rfl (hb hby at_191) rfl (l' := #[.val (.long x0), .second, .val (.long x1), .second, .val (.int x2), .val (.int x3), .val (.int x4), .val (.int W), .val (.long ((128 : Int64) / (W.toInt64))), .second, .val (.long (((128 : Int64) / (W.toInt64)) * (W.toInt64))), .second, .val (.int (((((128 : Int64) / (W.toInt64)) * (W.toInt64)) - (64 : Int64)).toInt32)), .val (.long v1_13), .second, .val (.ref b2), .val (.ref b3), .val (.long ii), .second, .val (.int kk), .val (.long ((ii * (W.toInt64)) + (kk.toInt64))), .second, .val (.long v7_22), .second, .val (.long (getV ii W (maskOf W) (rdW [x0, v1_13] (wordI ii W)) (rdW [x0, v1_13] (wordI ii W + 1)))), .second, .val (.int (1 : Int32)), .unset]) rfl k) ?_
  refine Go.of (T' := T8) (f' := (mkF m 195 #[.val (.long x0), .second, .val (.long x1), .second, .val (.int x2), .val (.int x3), .val (.int x4), .val (.int W), .val (.long ((128 : Int64) / (W.toInt64))), .second, .val (.long (((128 : Int64) / (W.toInt64)) * (W.toInt64))), .second, .val (.int (((((128 : Int64) / (W.toInt64)) * (W.toInt64)) - (64 : Int64)).toInt32)), .val (.long v1_13), .second, .val (.ref b2), .val (.ref b3), .val (.long ii), .second, .val (.int kk), .val (.long ((ii * (W.toInt64)) + (kk.toInt64))), .second, .val (.long v7_22), .second, .val (.long (getV ii W (maskOf W) (rdW [x0, v1_13] (wordI ii W)) (rdW [x0, v1_13] (wordI ii W + 1)))), .second, .val (.int (1 : Int32)), .unset] [(.int W)])) (fun t k => XS.iload X8.here hx rfl (hb hby at_193) rfl k) ?_
  refine Go.of (T' := T8) (f' := (mkF m 197 #[.val (.long x0), .second, .val (.long x1), .second, .val (.int x2), .val (.int x3), .val (.int x4), .val (.int W), .val (.long ((128 : Int64) / (W.toInt64))), .second, .val (.long (((128 : Int64) / (W.toInt64)) * (W.toInt64))), .second, .val (.int (((((128 : Int64) / (W.toInt64)) * (W.toInt64)) - (64 : Int64)).toInt32)), .val (.long v1_13), .second, .val (.ref b2), .val (.ref b3), .val (.long ii), .second, .val (.int kk), .val (.long ((ii * (W.toInt64)) + (kk.toInt64))), .second, .val (.long v7_22), .second, .val (.long (getV ii W (maskOf W) (rdW [x0, v1_13] (wordI ii W)) (rdW [x0, v1_13] (wordI ii W + 1)))), .second, .val (.int (1 : Int32)), .unset] [(.int (64 : Int32)), (.int W)])) (fun t k => XS.bipush X8.here hx rfl (hb hby at_195) k) ?_
  suffices J9 : ∀   (hj9 : ((W = (64 : Int32))) ∨ (¬ (W = (64 : Int32)))), Go p e below s (Q0 Z x0 x1 x2 x3 x4 h0 n0) 16 128 T8 (mkF m 215 #[.val (.long x0), .second, .val (.long x1), .second, .val (.int x2), .val (.int x3), .val (.int x4), .val (.int W), .val (.long ((128 : Int64) / (W.toInt64))), .second, .val (.long (((128 : Int64) / (W.toInt64)) * (W.toInt64))), .second, .val (.int (((((128 : Int64) / (W.toInt64)) * (W.toInt64)) - (64 : Int64)).toInt32)), .val (.long v1_13), .second, .val (.ref b2), .val (.ref b3), .val (.long ii), .second, .val (.int kk), .val (.long ((ii * (W.toInt64)) + (kk.toInt64))), .second, .val (.long v7_22), .second, .val (.long (getV ii W (maskOf W) (rdW [x0, v1_13] (wordI ii W)) (rdW [x0, v1_13] (wordI ii W + 1)))), .second, .val (.int (1 : Int32)), .unset] [(.int (1 : Int32))]) by
    by_cases hc197 : W = (64 : Int32)
    · -- pc 197: yes
      refine Go.of (T' := T8) (f' := (mkF m 210 #[.val (.long x0), .second, .val (.long x1), .second, .val (.int x2), .val (.int x3), .val (.int x4), .val (.int W), .val (.long ((128 : Int64) / (W.toInt64))), .second, .val (.long (((128 : Int64) / (W.toInt64)) * (W.toInt64))), .second, .val (.int (((((128 : Int64) / (W.toInt64)) * (W.toInt64)) - (64 : Int64)).toInt32)), .val (.long v1_13), .second, .val (.ref b2), .val (.ref b3), .val (.long ii), .second, .val (.int kk), .val (.long ((ii * (W.toInt64)) + (kk.toInt64))), .second, .val (.long v7_22), .second, .val (.long (getV ii W (maskOf W) (rdW [x0, v1_13] (wordI ii W)) (rdW [x0, v1_13] (wordI ii W + 1)))), .second, .val (.int (1 : Int32)), .unset] [])) (fun t k => XS.icmpYes X8.here hx rfl (pc0 := 197) (pc' := 210) rfl (hb hby at_197) rfl ((teq hc197).1) (by decide) (by decide) k) ?_
      refine Go.of (T' := T8) (f' := (mkF m 211 #[.val (.long x0), .second, .val (.long x1), .second, .val (.int x2), .val (.int x3), .val (.int x4), .val (.int W), .val (.long ((128 : Int64) / (W.toInt64))), .second, .val (.long (((128 : Int64) / (W.toInt64)) * (W.toInt64))), .second, .val (.int (((((128 : Int64) / (W.toInt64)) * (W.toInt64)) - (64 : Int64)).toInt32)), .val (.long v1_13), .second, .val (.ref b2), .val (.ref b3), .val (.long ii), .second, .val (.int kk), .val (.long ((ii * (W.toInt64)) + (kk.toInt64))), .second, .val (.long v7_22), .second, .val (.long (getV ii W (maskOf W) (rdW [x0, v1_13] (wordI ii W)) (rdW [x0, v1_13] (wordI ii W + 1)))), .second, .val (.int (1 : Int32)), .unset] [(.int (1 : Int32))])) (fun t k => XS.iconst X8.here hx rfl (hb hby at_210) k) ?_
      refine Go.of (T' := T8) (f' := (mkF m 215 #[.val (.long x0), .second, .val (.long x1), .second, .val (.int x2), .val (.int x3), .val (.int x4), .val (.int W), .val (.long ((128 : Int64) / (W.toInt64))), .second, .val (.long (((128 : Int64) / (W.toInt64)) * (W.toInt64))), .second, .val (.int (((((128 : Int64) / (W.toInt64)) * (W.toInt64)) - (64 : Int64)).toInt32)), .val (.long v1_13), .second, .val (.ref b2), .val (.ref b3), .val (.long ii), .second, .val (.int kk), .val (.long ((ii * (W.toInt64)) + (kk.toInt64))), .second, .val (.long v7_22), .second, .val (.long (getV ii W (maskOf W) (rdW [x0, v1_13] (wordI ii W)) (rdW [x0, v1_13] (wordI ii W + 1)))), .second, .val (.int (1 : Int32)), .unset] [(.int (1 : Int32))])) (fun t k => XS.goto X8.here hx rfl (pc0 := 211) (pc' := 215) rfl (hb hby at_211) (by decide) (by decide) k) ?_
      exact J9  (Or.inl hc197)
    · -- pc 197: no
      refine Go.of (T' := T8) (f' := (mkF m 200 #[.val (.long x0), .second, .val (.long x1), .second, .val (.int x2), .val (.int x3), .val (.int x4), .val (.int W), .val (.long ((128 : Int64) / (W.toInt64))), .second, .val (.long (((128 : Int64) / (W.toInt64)) * (W.toInt64))), .second, .val (.int (((((128 : Int64) / (W.toInt64)) * (W.toInt64)) - (64 : Int64)).toInt32)), .val (.long v1_13), .second, .val (.ref b2), .val (.ref b3), .val (.long ii), .second, .val (.int kk), .val (.long ((ii * (W.toInt64)) + (kk.toInt64))), .second, .val (.long v7_22), .second, .val (.long (getV ii W (maskOf W) (rdW [x0, v1_13] (wordI ii W)) (rdW [x0, v1_13] (wordI ii W + 1)))), .second, .val (.int (1 : Int32)), .unset] [])) (fun t k => XS.icmpNo X8.here hx rfl (hb hby at_197) rfl ((feq hc197).1) k) ?_
      refine Go.of (T' := T8) (f' := (mkF m 202 #[.val (.long x0), .second, .val (.long x1), .second, .val (.int x2), .val (.int x3), .val (.int x4), .val (.int W), .val (.long ((128 : Int64) / (W.toInt64))), .second, .val (.long (((128 : Int64) / (W.toInt64)) * (W.toInt64))), .second, .val (.int (((((128 : Int64) / (W.toInt64)) * (W.toInt64)) - (64 : Int64)).toInt32)), .val (.long v1_13), .second, .val (.ref b2), .val (.ref b3), .val (.long ii), .second, .val (.int kk), .val (.long ((ii * (W.toInt64)) + (kk.toInt64))), .second, .val (.long v7_22), .second, .val (.long (getV ii W (maskOf W) (rdW [x0, v1_13] (wordI ii W)) (rdW [x0, v1_13] (wordI ii W + 1)))), .second, .val (.int (1 : Int32)), .unset] [(.long (getV ii W (maskOf W) (rdW [x0, v1_13] (wordI ii W)) (rdW [x0, v1_13] (wordI ii W + 1))))])) (fun t k => XS.lload X8.here hx rfl (hb hby at_200) rfl k) ?_
      refine Go.of (T' := T8) (f' := (mkF m 204 #[.val (.long x0), .second, .val (.long x1), .second, .val (.int x2), .val (.int x3), .val (.int x4), .val (.int W), .val (.long ((128 : Int64) / (W.toInt64))), .second, .val (.long (((128 : Int64) / (W.toInt64)) * (W.toInt64))), .second, .val (.int (((((128 : Int64) / (W.toInt64)) * (W.toInt64)) - (64 : Int64)).toInt32)), .val (.long v1_13), .second, .val (.ref b2), .val (.ref b3), .val (.long ii), .second, .val (.int kk), .val (.long ((ii * (W.toInt64)) + (kk.toInt64))), .second, .val (.long v7_22), .second, .val (.long (getV ii W (maskOf W) (rdW [x0, v1_13] (wordI ii W)) (rdW [x0, v1_13] (wordI ii W + 1)))), .second, .val (.int (1 : Int32)), .unset] [(.int W), (.long (getV ii W (maskOf W) (rdW [x0, v1_13] (wordI ii W)) (rdW [x0, v1_13] (wordI ii W + 1))))])) (fun t k => XS.iload X8.here hx rfl (hb hby at_202) rfl k) ?_
      refine Go.of (T' := T8) (f' := (mkF m 205 #[.val (.long x0), .second, .val (.long x1), .second, .val (.int x2), .val (.int x3), .val (.int x4), .val (.int W), .val (.long ((128 : Int64) / (W.toInt64))), .second, .val (.long (((128 : Int64) / (W.toInt64)) * (W.toInt64))), .second, .val (.int (((((128 : Int64) / (W.toInt64)) * (W.toInt64)) - (64 : Int64)).toInt32)), .val (.long v1_13), .second, .val (.ref b2), .val (.ref b3), .val (.long ii), .second, .val (.int kk), .val (.long ((ii * (W.toInt64)) + (kk.toInt64))), .second, .val (.long v7_22), .second, .val (.long (getV ii W (maskOf W) (rdW [x0, v1_13] (wordI ii W)) (rdW [x0, v1_13] (wordI ii W + 1)))), .second, .val (.int (1 : Int32)), .unset] [(.long (((getV ii W (maskOf W) (rdW [x0, v1_13] (wordI ii W)) (rdW [x0, v1_13] (wordI ii W + 1))).toUInt64 >>> (W &&& 0x3f).toInt64.toUInt64).toInt64))])) (fun t k => XS.lushr X8.here hx rfl (hb hby at_204) rfl k) ?_
      refine Go.of (T' := T8) (f' := (mkF m 206 #[.val (.long x0), .second, .val (.long x1), .second, .val (.int x2), .val (.int x3), .val (.int x4), .val (.int W), .val (.long ((128 : Int64) / (W.toInt64))), .second, .val (.long (((128 : Int64) / (W.toInt64)) * (W.toInt64))), .second, .val (.int (((((128 : Int64) / (W.toInt64)) * (W.toInt64)) - (64 : Int64)).toInt32)), .val (.long v1_13), .second, .val (.ref b2), .val (.ref b3), .val (.long ii), .second, .val (.int kk), .val (.long ((ii * (W.toInt64)) + (kk.toInt64))), .second, .val (.long v7_22), .second, .val (.long (getV ii W (maskOf W) (rdW [x0, v1_13] (wordI ii W)) (rdW [x0, v1_13] (wordI ii W + 1)))), .second, .val (.int (1 : Int32)), .unset] [(.long (0 : Int64)), (.long (((getV ii W (maskOf W) (rdW [x0, v1_13] (wordI ii W)) (rdW [x0, v1_13] (wordI ii W + 1))).toUInt64 >>> (W &&& 0x3f).toInt64.toUInt64).toInt64))])) (fun t k => XS.lconst X8.here hx rfl (hb hby at_205) k) ?_
      refine Go.of (T' := T8) (f' := (mkF m 207 #[.val (.long x0), .second, .val (.long x1), .second, .val (.int x2), .val (.int x3), .val (.int x4), .val (.int W), .val (.long ((128 : Int64) / (W.toInt64))), .second, .val (.long (((128 : Int64) / (W.toInt64)) * (W.toInt64))), .second, .val (.int (((((128 : Int64) / (W.toInt64)) * (W.toInt64)) - (64 : Int64)).toInt32)), .val (.long v1_13), .second, .val (.ref b2), .val (.ref b3), .val (.long ii), .second, .val (.int kk), .val (.long ((ii * (W.toInt64)) + (kk.toInt64))), .second, .val (.long v7_22), .second, .val (.long (getV ii W (maskOf W) (rdW [x0, v1_13] (wordI ii W)) (rdW [x0, v1_13] (wordI ii W + 1)))), .second, .val (.int (1 : Int32)), .unset] [(.int (lcmpW (((getV ii W (maskOf W) (rdW [x0, v1_13] (wordI ii W)) (rdW [x0, v1_13] (wordI ii W + 1))).toUInt64 >>> (W &&& 0x3f).toInt64.toUInt64).toInt64) (0 : Int64)))])) (fun t k => XS.lcmp X8.here hx rfl (hb hby at_206) rfl k) ?_
      have hc207 : (((getV ii W (maskOf W) (rdW [x0, v1_13] (wordI ii W)) (rdW [x0, v1_13] (wordI ii W + 1))).toUInt64 >>> (W &&& 0x3f).toInt64.toUInt64).toInt64) = (0 : Int64) := own_bound hwa hwb han hI hW _ _ hc197
      refine Go.of (T' := T8) (f' := (mkF m 210 #[.val (.long x0), .second, .val (.long x1), .second, .val (.int x2), .val (.int x3), .val (.int x4), .val (.int W), .val (.long ((128 : Int64) / (W.toInt64))), .second, .val (.long (((128 : Int64) / (W.toInt64)) * (W.toInt64))), .second, .val (.int (((((128 : Int64) / (W.toInt64)) * (W.toInt64)) - (64 : Int64)).toInt32)), .val (.long v1_13), .second, .val (.ref b2), .val (.ref b3), .val (.long ii), .second, .val (.int kk), .val (.long ((ii * (W.toInt64)) + (kk.toInt64))), .second, .val (.long v7_22), .second, .val (.long (getV ii W (maskOf W) (rdW [x0, v1_13] (wordI ii W)) (rdW [x0, v1_13] (wordI ii W + 1)))), .second, .val (.int (1 : Int32)), .unset] [])) (fun t k => XS.ifNo X8.here hx rfl (hb hby at_207) rfl (lc_ne_f hc207) k) ?_
      refine Go.of (T' := T8) (f' := (mkF m 211 #[.val (.long x0), .second, .val (.long x1), .second, .val (.int x2), .val (.int x3), .val (.int x4), .val (.int W), .val (.long ((128 : Int64) / (W.toInt64))), .second, .val (.long (((128 : Int64) / (W.toInt64)) * (W.toInt64))), .second, .val (.int (((((128 : Int64) / (W.toInt64)) * (W.toInt64)) - (64 : Int64)).toInt32)), .val (.long v1_13), .second, .val (.ref b2), .val (.ref b3), .val (.long ii), .second, .val (.int kk), .val (.long ((ii * (W.toInt64)) + (kk.toInt64))), .second, .val (.long v7_22), .second, .val (.long (getV ii W (maskOf W) (rdW [x0, v1_13] (wordI ii W)) (rdW [x0, v1_13] (wordI ii W + 1)))), .second, .val (.int (1 : Int32)), .unset] [(.int (1 : Int32))])) (fun t k => XS.iconst X8.here hx rfl (hb hby at_210) k) ?_
      refine Go.of (T' := T8) (f' := (mkF m 215 #[.val (.long x0), .second, .val (.long x1), .second, .val (.int x2), .val (.int x3), .val (.int x4), .val (.int W), .val (.long ((128 : Int64) / (W.toInt64))), .second, .val (.long (((128 : Int64) / (W.toInt64)) * (W.toInt64))), .second, .val (.int (((((128 : Int64) / (W.toInt64)) * (W.toInt64)) - (64 : Int64)).toInt32)), .val (.long v1_13), .second, .val (.ref b2), .val (.ref b3), .val (.long ii), .second, .val (.int kk), .val (.long ((ii * (W.toInt64)) + (kk.toInt64))), .second, .val (.long v7_22), .second, .val (.long (getV ii W (maskOf W) (rdW [x0, v1_13] (wordI ii W)) (rdW [x0, v1_13] (wordI ii W + 1)))), .second, .val (.int (1 : Int32)), .unset] [(.int (1 : Int32))])) (fun t k => XS.goto X8.here hx rfl (pc0 := 211) (pc' := 215) rfl (hb hby at_211) (by decide) (by decide) k) ?_
      exact J9  (Or.inr hc197)
  intro  hj9
  refine Go.of (T' := T8) (f' := (mkF m 217 #[.val (.long x0), .second, .val (.long x1), .second, .val (.int x2), .val (.int x3), .val (.int x4), .val (.int W), .val (.long ((128 : Int64) / (W.toInt64))), .second, .val (.long (((128 : Int64) / (W.toInt64)) * (W.toInt64))), .second, .val (.int (((((128 : Int64) / (W.toInt64)) * (W.toInt64)) - (64 : Int64)).toInt32)), .val (.long v1_13), .second, .val (.ref b2), .val (.ref b3), .val (.long ii), .second, .val (.int kk), .val (.long ((ii * (W.toInt64)) + (kk.toInt64))), .second, .val (.long v7_22), .second, .val (.long (getV ii W (maskOf W) (rdW [x0, v1_13] (wordI ii W)) (rdW [x0, v1_13] (wordI ii W + 1)))), .second, .val (.int (1 : Int32)), .val (.int (1 : Int32))] [])) (fun t k => XS.istore X8.here hx rfl (hb hby at_215) rfl (l' := #[.val (.long x0), .second, .val (.long x1), .second, .val (.int x2), .val (.int x3), .val (.int x4), .val (.int W), .val (.long ((128 : Int64) / (W.toInt64))), .second, .val (.long (((128 : Int64) / (W.toInt64)) * (W.toInt64))), .second, .val (.int (((((128 : Int64) / (W.toInt64)) * (W.toInt64)) - (64 : Int64)).toInt32)), .val (.long v1_13), .second, .val (.ref b2), .val (.ref b3), .val (.long ii), .second, .val (.int kk), .val (.long ((ii * (W.toInt64)) + (kk.toInt64))), .second, .val (.long v7_22), .second, .val (.long (getV ii W (maskOf W) (rdW [x0, v1_13] (wordI ii W)) (rdW [x0, v1_13] (wordI ii W + 1)))), .second, .val (.int (1 : Int32)), .val (.int (1 : Int32))]) rfl k) ?_
  refine Go.of (T' := T8) (f' := (mkF m 219 #[.val (.long x0), .second, .val (.long x1), .second, .val (.int x2), .val (.int x3), .val (.int x4), .val (.int W), .val (.long ((128 : Int64) / (W.toInt64))), .second, .val (.long (((128 : Int64) / (W.toInt64)) * (W.toInt64))), .second, .val (.int (((((128 : Int64) / (W.toInt64)) * (W.toInt64)) - (64 : Int64)).toInt32)), .val (.long v1_13), .second, .val (.ref b2), .val (.ref b3), .val (.long ii), .second, .val (.int kk), .val (.long ((ii * (W.toInt64)) + (kk.toInt64))), .second, .val (.long v7_22), .second, .val (.long (getV ii W (maskOf W) (rdW [x0, v1_13] (wordI ii W)) (rdW [x0, v1_13] (wordI ii W + 1)))), .second, .val (.int (1 : Int32)), .val (.int (1 : Int32))] [(.int (1 : Int32))])) (fun t k => XS.iload X8.here hx rfl (hb hby at_217) rfl k) ?_
  have hc219 : ¬ ((1 : Int32) = (0 : Int32)) := by decide
  refine Go.of (T' := T8) (f' := (mkF m 222 #[.val (.long x0), .second, .val (.long x1), .second, .val (.int x2), .val (.int x3), .val (.int x4), .val (.int W), .val (.long ((128 : Int64) / (W.toInt64))), .second, .val (.long (((128 : Int64) / (W.toInt64)) * (W.toInt64))), .second, .val (.int (((((128 : Int64) / (W.toInt64)) * (W.toInt64)) - (64 : Int64)).toInt32)), .val (.long v1_13), .second, .val (.ref b2), .val (.ref b3), .val (.long ii), .second, .val (.int kk), .val (.long ((ii * (W.toInt64)) + (kk.toInt64))), .second, .val (.long v7_22), .second, .val (.long (getV ii W (maskOf W) (rdW [x0, v1_13] (wordI ii W)) (rdW [x0, v1_13] (wordI ii W + 1)))), .second, .val (.int (1 : Int32)), .val (.int (1 : Int32))] [])) (fun t k => XS.ifNo X8.here hx rfl (hb hby at_219) rfl ((if0 _ _).trans (feq hc219).1) k) ?_
  refine Go.of (T' := T8) (f' := (mkF m 224 #[.val (.long x0), .second, .val (.long x1), .second, .val (.int x2), .val (.int x3), .val (.int x4), .val (.int W), .val (.long ((128 : Int64) / (W.toInt64))), .second, .val (.long (((128 : Int64) / (W.toInt64)) * (W.toInt64))), .second, .val (.int (((((128 : Int64) / (W.toInt64)) * (W.toInt64)) - (64 : Int64)).toInt32)), .val (.long v1_13), .second, .val (.ref b2), .val (.ref b3), .val (.long ii), .second, .val (.int kk), .val (.long ((ii * (W.toInt64)) + (kk.toInt64))), .second, .val (.long v7_22), .second, .val (.long (getV ii W (maskOf W) (rdW [x0, v1_13] (wordI ii W)) (rdW [x0, v1_13] (wordI ii W + 1)))), .second, .val (.int (1 : Int32)), .val (.int (1 : Int32))] [(.int (1 : Int32))])) (fun t k => XS.iload X8.here hx rfl (hb hby at_222) rfl k) ?_
  have hc224 : ¬ ((1 : Int32) = (0 : Int32)) := by decide
  refine Go.of (T' := T8) (f' := (mkF m 227 #[.val (.long x0), .second, .val (.long x1), .second, .val (.int x2), .val (.int x3), .val (.int x4), .val (.int W), .val (.long ((128 : Int64) / (W.toInt64))), .second, .val (.long (((128 : Int64) / (W.toInt64)) * (W.toInt64))), .second, .val (.int (((((128 : Int64) / (W.toInt64)) * (W.toInt64)) - (64 : Int64)).toInt32)), .val (.long v1_13), .second, .val (.ref b2), .val (.ref b3), .val (.long ii), .second, .val (.int kk), .val (.long ((ii * (W.toInt64)) + (kk.toInt64))), .second, .val (.long v7_22), .second, .val (.long (getV ii W (maskOf W) (rdW [x0, v1_13] (wordI ii W)) (rdW [x0, v1_13] (wordI ii W + 1)))), .second, .val (.int (1 : Int32)), .val (.int (1 : Int32))] [])) (fun t k => XS.ifNo X8.here hx rfl (hb hby at_224) rfl ((if0 _ _).trans (feq hc224).1) k) ?_
  refine Go.of (T' := T8) (f' := (mkF m 228 #[.val (.long x0), .second, .val (.long x1), .second, .val (.int x2), .val (.int x3), .val (.int x4), .val (.int W), .val (.long ((128 : Int64) / (W.toInt64))), .second, .val (.long (((128 : Int64) / (W.toInt64)) * (W.toInt64))), .second, .val (.int (((((128 : Int64) / (W.toInt64)) * (W.toInt64)) - (64 : Int64)).toInt32)), .val (.long v1_13), .second, .val (.ref b2), .val (.ref b3), .val (.long ii), .second, .val (.int kk), .val (.long ((ii * (W.toInt64)) + (kk.toInt64))), .second, .val (.long v7_22), .second, .val (.long (getV ii W (maskOf W) (rdW [x0, v1_13] (wordI ii W)) (rdW [x0, v1_13] (wordI ii W + 1)))), .second, .val (.int (1 : Int32)), .val (.int (1 : Int32))] [(.int (1 : Int32))])) (fun t k => XS.iconst X8.here hx rfl (hb hby at_227) k) ?_
  refine Go.of (T' := T8) (f' := (mkF m 232 #[.val (.long x0), .second, .val (.long x1), .second, .val (.int x2), .val (.int x3), .val (.int x4), .val (.int W), .val (.long ((128 : Int64) / (W.toInt64))), .second, .val (.long (((128 : Int64) / (W.toInt64)) * (W.toInt64))), .second, .val (.int (((((128 : Int64) / (W.toInt64)) * (W.toInt64)) - (64 : Int64)).toInt32)), .val (.long v1_13), .second, .val (.ref b2), .val (.ref b3), .val (.long ii), .second, .val (.int kk), .val (.long ((ii * (W.toInt64)) + (kk.toInt64))), .second, .val (.long v7_22), .second, .val (.long (getV ii W (maskOf W) (rdW [x0, v1_13] (wordI ii W)) (rdW [x0, v1_13] (wordI ii W + 1)))), .second, .val (.int (1 : Int32)), .val (.int (1 : Int32))] [(.int (1 : Int32))])) (fun t k => XS.goto X8.here hx rfl (pc0 := 228) (pc' := 232) rfl (hb hby at_228) (by decide) (by decide) k) ?_
  refine Go.retZ X8 hx hk (t := .boolean) Bd.returns (by simp) (hb hby at_232) (by decide) (by decide) ?_
  rw [e8]
  exact ⟨rfl, N8⟩
set_option maxRecDepth 65536 in
set_option maxHeartbeats 40000000 in
theorem comes_1 {Post : Tables → Env → Array Value → State → Outcome → State → Prop} (hpost : ∀ tb e args s v u, (limb_1_1.after args s (.returned v) u = true ∧ limb_1_2.after args s (.returned v) u = true ∧ True) → FrameEnd s (.returned v) u (Jvm.fieldLocs frame_1_writes args s ++ Jvm.arrayLocs frame_1_arrays args s ++ Jvm.staticLocs frame_1_statics s) 16 128 → Post tb e args s (.returned v) u) :
    ArmFor flags0 classFile x code maxLocals ret World_1 tables_1 room_1 Calls_1 rest_1 Pre_1 Post := by
  intro l hfl _ _ p e ha hc hk s m args below hf hA hF happ hP
  obtain ⟨hcalls, hrest, hpre⟩ := hP
  obtain ⟨-, -, -, hnamed, -, -, -, hat⟩ := (Spec.applies_iff hf).mp happ
  obtain ⟨hg, hn⟩ := and_e (Cond.before_iff.mp (show (Jvm.Cond.and given_1 narrow_1).before args s = true from hpre))
  obtain ⟨g0, gr0⟩ := and_e hg
  obtain ⟨ga0, gr1⟩ := and_e gr0
  obtain ⟨ga1, gr2⟩ := and_e gr1
  obtain ⟨ga2, gr3⟩ := and_e gr2
  obtain ⟨ga3, gr4⟩ := and_e gr3
  have ga4 := gr4
  obtain ⟨w0, w1, w2, w3, w4, rfl⟩ : ∃ w0 w1 w2 w3 w4 : Value, args = #[w0, w1, w2, w3, w4] := by
    have hs : args.size = 5 := by simpa [Cond.value, given_1] using g0
    obtain ⟨L⟩ := args
    match L, hs with
    | [w0, w1, w2, w3, w4], _ => exact ⟨w0, w1, w2, w3, w4, rfl⟩
  have hw := fun d (hd : d ∈ tables_1) => atoms_spec (ws := Jvm.Cond.code x code maxLocals ret :: tables_1) hat d (List.mem_cons_of_mem _ hd)
  obtain ⟨i0, ei0⟩ := isL_v ga0
  obtain rfl : w0 = (.long i0) := Option.some.inj ei0
  obtain ⟨i1, ei1⟩ := isL_v ga1
  obtain rfl : w1 = (.long i1) := Option.some.inj ei1
  obtain ⟨i2, ei2⟩ := is_v ga2
  obtain rfl : w2 = (.int i2) := Option.some.inj ei2
  obtain ⟨i3, ei3⟩ := is_v ga3
  obtain rfl : w3 = (.int i3) := Option.some.inj ei3
  obtain ⟨i4, ei4⟩ := is_v ga4
  obtain rfl : w4 = (.int i4) := Option.some.inj ei4
  obtain ⟨n, o, h1, h2, h3, _, L, rfl, ⟨rfl, N⟩, hq⟩ := rm0 l s _ hw tables_1 i0 i1 i2 i3 i4 s.heap s.heap.size (Nat.le_refl _)  p e ha hc hk s m _ below hf ((Spec.applies_iff_loose hf).mp happ).1 ⟨rfl, State.Warmed39.refl s, rfl⟩ trivial
  refine ⟨n, _, h1, h2, h3, hpost _ _ _ _ _ _ ⟨Cond.after_iff.mpr rfl, Cond.after_iff.mpr (eq_i res_at (Term.int_eval (1)) rfl), trivial⟩ ⟨hq.1, hq.2.1, (hq.2.2.sift fun y hy => Or.inr (N y hy)).mono (by decide) (by decide)⟩⟩
theorem main_1_1 : Claimed_1_1 := comes_1 fun _ _ _ _ _ _ h hF => ⟨h.1, hF⟩
theorem main_1_2 : Claimed_1_2 := comes_1 fun _ _ _ _ _ _ h hF => ⟨h.2.1, hF⟩
end Jvm.Pilot.@@N@@
namespace Jvm.Pilot.@@N@@
open Jvm Jvm.ClassFile Sem Op Lib Jvm.Free Jvm.Stand Jvm.Pilot.@@N@@.Jvm.D
/-! MADE BY PROGRAM (witnessworld.py) out of the Statement's table words and the real class files: 11 classes; the members and pool entries that the words name. The judged class is class 1, her method 1. -/
namespace start1
open Jvm.ClassFile
def u (s : String) : CpInfo := .utf8 (stringToUtf16 s)
/-- a pool by its gaps: so many unusable entries, then the entry; so many at the end -/
def gap : Nat → List CpInfo → List CpInfo
  | 0, r => r
  | n + 1, r => .unusable :: gap n r
def poolList (es : List (Nat × CpInfo)) (last : Nat) : List CpInfo := es.foldr (fun e r => gap e.1 (e.2 :: r)) (gap last [])
def pool (es : List (Nat × CpInfo)) (last : Nat) : Array CpInfo := ⟨poolList es last⟩
def fileOf (pool : Array CpInfo) (this : Nat) (attrs : Array Attribute := #[]) (ms : Array MethodInfo := #[]) (fl : Nat := 33) (sup : Nat := 0) (ifs : Array Nat := #[]) (fds : Array FieldInfo := #[]) : ClassFile where
  minorVersion := 0
  majorVersion := 65
  constantPool := pool
  accessFlags := fl
  thisClass := this
  superClass := sup
  interfaces := ifs
  fields := fds
  methods := ms
  attributes := attrs
def plain (name : String) (sup : Option ClassId) : Class where
  name := name
  kind := .ordinary
  loader := none
  accessFlags := 33
  super := sup
  interfaces := #[]
  cf := none
  fields := #[]
  methods := #[]
  instanceTypes := #[]
  staticTypes := #[]
  resolved := #[]
  callSites := []
  init := .initialized
  statics := none
  mirror := none

def pool0 : Array CpInfo := pool [(5, u "<init>"), (0, u "()V"), (1, .class_ 10), (1, u "java/lang/Object")] 113

def k0c0 : Code := { maxStack := 0, maxLocals := 1, code := object_method_1_code, exceptionTable := #[], attributes := #[] }
def k0m0 : Method := { name := "<init>", desc := "()V", sig := { parameters := [], returnType := none }, accessFlags := 1, code := some k0c0 }
/-- java/lang/Object -/
def k0 : Class := { plain "java/lang/Object" none with
  accessFlags := 33
  interfaces := #[]
  cf := some (fileOf pool0 8 #[] #[{ accessFlags := 1, nameIndex := 5, descriptorIndex := 6, attributes := #[] }] 33 0 #[] #[])
  fields := #[]
  methods := #[k0m0]
  instanceTypes := #[]
  staticTypes := #[]
  resolved := Array.replicate 124 none
  statics := none }

def pool1 : Array CpInfo := pool [(2, .class_ 4), (1, u "java/lang/Object"), (0, u "<init>"), (0, u "()V"), (0, .long 128), (1, .long 64), (1, .class_ 12), (0, u "com/example/bloom_filter_variants/bloomfiltervariants/PackedArray"), (0, .methodref 11 14), (0, .nameAndType 5 15), (0, u "(JI)V"), (0, .methodref 11 17), (0, .nameAndType 18 19), (0, u "words"), (0, u "()[J"), (0, .integer 2147483647), (0, .methodref 11 22), (0, .nameAndType 23 24), (0, u "get"), (0, u "(J)J"), (0, .class_ 26), (0, u "com/example/bloom_filter_variants/bloomfiltervariants/PackedArrayGetPinLaw"), (2, u "law"), (0, u "(JJIII)Z")] 5

def k1m0 : Method := { name := "<init>", desc := "()V", sig := { parameters := [], returnType := none }, accessFlags := 1, code := none }
def k1c1 : Code := { maxStack := 6, maxLocals := 28, code := code, exceptionTable := #[], attributes := #[] }
def k1m1 : Method := { name := "law", desc := "(JJIII)Z", sig := { parameters := [.long, .long, .int, .int, .int], returnType := some .boolean }, accessFlags := 9, code := some k1c1 }
/-- com/example/bloom_filter_variants/bloomfiltervariants/PackedArrayGetPinLaw -/
def k1 : Class := { plain "com/example/bloom_filter_variants/bloomfiltervariants/PackedArrayGetPinLaw" (some 0) with
  accessFlags := 49
  interfaces := #[]
  cf := some (fileOf pool1 25 #[] #[{ accessFlags := 1, nameIndex := 5, descriptorIndex := 6, attributes := #[] }, { accessFlags := 9, nameIndex := 29, descriptorIndex := 30, attributes := #[] }] 49 2 #[] #[])
  fields := #[]
  methods := #[k1m0, k1m1]
  instanceTypes := #[]
  staticTypes := #[]
  resolved := Array.replicate 36 none
  statics := none }

def pool2 : Array CpInfo := pool [(1, .methodref 2 3), (0, .class_ 4), (0, .nameAndType 5 6), (0, u "java/lang/Object"), (0, u "<init>"), (0, u "()V"), (0, .methodref 8 9), (0, .class_ 10), (0, .nameAndType 11 12), (0, u "com/example/bloom_filter_variants/bloomfiltervariants/PackedArray"), (0, u "maxLength"), (0, u "(I)J"), (9, .fieldref 8 23), (0, .nameAndType 24 25), (0, u "length"), (0, u "J"), (0, .fieldref 8 27), (0, .nameAndType 28 29), (0, u "width"), (0, u "I"), (0, .long 18446744073709551615), (3, .fieldref 8 35), (0, .nameAndType 36 25), (0, u "mask"), (0, .long 64), (1, .fieldref 8 40), (0, .nameAndType 41 42), (0, u "words"), (0, u "[J"), (13, .long 137438952896), (1, u "(JI)V"), (7, u "()[J"), (0, u "get"), (0, u "(J)J")] 21

def k2c0 : Code := { maxStack := 7, maxLocals := 6, code := prog_23_method_1_code, exceptionTable := #[], attributes := #[] }
def k2m0 : Method := { name := "<init>", desc := "(JI)V", sig := { parameters := [.long, .int], returnType := none }, accessFlags := 1, code := some k2c0 }
def k2c1 : Code := { maxStack := 4, maxLocals := 1, code := prog_23_method_4_code, exceptionTable := #[], attributes := #[] }
def k2m1 : Method := { name := "maxLength", desc := "(I)J", sig := { parameters := [.int], returnType := some .long }, accessFlags := 9, code := some k2c1 }
def k2c2 : Code := { maxStack := 1, maxLocals := 1, code := prog_23_method_7_code, exceptionTable := #[], attributes := #[] }
def k2m2 : Method := { name := "words", desc := "()[J", sig := { parameters := [], returnType := some (.array .long) }, accessFlags := 0, code := some k2c2 }
def k2c3 : Code := { maxStack := 6, maxLocals := 9, code := prog_23_method_8_code, exceptionTable := #[], attributes := #[] }
def k2m3 : Method := { name := "get", desc := "(J)J", sig := { parameters := [.long], returnType := some .long }, accessFlags := 1, code := some k2c3 }
/-- com/example/bloom_filter_variants/bloomfiltervariants/PackedArray -/
def k2 : Class := { plain "com/example/bloom_filter_variants/bloomfiltervariants/PackedArray" (some 0) with
  accessFlags := 49
  interfaces := #[]
  cf := some (fileOf pool2 8 #[] #[{ accessFlags := 1, nameIndex := 5, descriptorIndex := 58, attributes := #[] }, { accessFlags := 9, nameIndex := 11, descriptorIndex := 12, attributes := #[] }, { accessFlags := 0, nameIndex := 41, descriptorIndex := 66, attributes := #[] }, { accessFlags := 1, nameIndex := 67, descriptorIndex := 68, attributes := #[] }] 49 2 #[] #[{ accessFlags := 18, nameIndex := 24, descriptorIndex := 25, attributes := #[] }, { accessFlags := 18, nameIndex := 28, descriptorIndex := 29, attributes := #[] }, { accessFlags := 18, nameIndex := 36, descriptorIndex := 25, attributes := #[] }, { accessFlags := 18, nameIndex := 41, descriptorIndex := 42, attributes := #[] }])
  fields := #[{ name := "length", type := .long, accessFlags := 18, slot := 0, constantValue := 0 }, { name := "width", type := .int, accessFlags := 18, slot := 1, constantValue := 0 }, { name := "mask", type := .long, accessFlags := 18, slot := 2, constantValue := 0 }, { name := "words", type := (.array .long), accessFlags := 18, slot := 3, constantValue := 0 }]
  methods := #[k2m0, k2m1, k2m2, k2m3]
  instanceTypes := #[.long, .int, .long, (.array .long)]
  staticTypes := #[]
  resolved := Array.replicate 90 none
  statics := none }

def pool3 : Array CpInfo := pool [(1, u "java/lang/Cloneable"), (0, .class_ 1), (0, u "java/lang/Object"), (0, .class_ 3)] 3

/-- java/lang/Cloneable -/
def k3 : Class := { plain "java/lang/Cloneable" (some 0) with
  accessFlags := 1537
  interfaces := #[]
  cf := some (fileOf pool3 2 #[] #[] 1537 4 #[] #[])
  fields := #[]
  methods := #[]
  instanceTypes := #[]
  staticTypes := #[]
  resolved := Array.replicate 8 none
  statics := none }

def pool4 : Array CpInfo := pool [(1, u "java/io/Serializable"), (0, .class_ 1), (0, u "java/lang/Object"), (0, .class_ 3)] 3

/-- java/io/Serializable -/
def k4 : Class := { plain "java/io/Serializable" (some 0) with
  accessFlags := 1537
  interfaces := #[]
  cf := some (fileOf pool4 2 #[] #[] 1537 4 #[] #[])
  fields := #[]
  methods := #[]
  instanceTypes := #[]
  staticTypes := #[]
  resolved := Array.replicate 8 none
  statics := none }

/-- the primitive byte -/
def k5 : Class := { plain "byte" none with kind := .primitive 'B', accessFlags := 0x411 }
/-- [B -/
def k6 : Class := { plain "[B" (some 0) with kind := .array 5 .byte, interfaces := #[3, 4], accessFlags := 1041 }

/-- the primitive int -/
def k7 : Class := { plain "int" none with kind := .primitive 'I', accessFlags := 0x411 }
/-- [I -/
def k8 : Class := { plain "[I" (some 0) with kind := .array 7 .int, interfaces := #[3, 4], accessFlags := 1041 }

/-- the primitive long -/
def k9 : Class := { plain "long" none with kind := .primitive 'J', accessFlags := 0x411 }
/-- [J -/
def k10 : Class := { plain "[J" (some 0) with kind := .array 9 .long, interfaces := #[3, 4], accessFlags := 1041 }

def heap : Heap := #[]
def classes : Array Class := #[k0, k1, k2, k3, k4, k5, k6, k7, k8, k9, k10]
def interned : List (Array UInt16 × Addr) := []
def slotsUsed : Nat := 0
def theMethod : MethodId := ⟨1, 1⟩
def args0 : Array Value := #[.long 5, .long 6, .int 7, .int 8, .int 3]
def aboutOver (below : List Frame) : State where
  vm := { classes := classes, interned := interned.toArray }
  heap := heap
  slotsUsed := slotsUsed
  threads := #[{ frames := .invoking theMethod args0 :: below }]
def below0 : List Frame := [.native { method := ⟨0, 0⟩, args := #[] }]
def about1 : State := aboutOver below0
def p0 : Program := .bare "" "" ""
def e0 : Env := launch0.env 0 0 0
theorem w_frames : about1.frames = Frame.invoking theMethod args0 :: below0 := rfl
set_option maxRecDepth 65536 in
theorem w_args : argsFit about1.vm theMethod args0 = true := by decide +kernel
set_option maxRecDepth 65536 in
theorem w_heap : heapFits about1 = true := by decide +kernel
set_option maxRecDepth 65536 in
theorem w_runnable : about1.curStatus? = some .runnable := by decide +kernel
set_option maxRecDepth 65536 in
theorem w_alone : about1.alone = true := by decide +kernel
set_option maxRecDepth 65536 in
theorem w_named : about1.methodNamed? x = some theMethod := by decide +kernel
set_option maxRecDepth 65536 in
theorem w_hears : about1.hears theMethod below0 = true := by decide +kernel
set_option maxRecDepth 65536 in
theorem w_ripe : about1.ripe theMethod args0 below0 = true := by decide +kernel
theorem w_running : about1.status = .running := rfl
set_option maxRecDepth 65536 in
theorem w_room : about1.hasRoom e0.platform room_1 = true :=
  launch0.hasRoom_least _ room_1 (by decide +kernel) (by decide +kernel) (by decide +kernel) (by decide +kernel) (by decide +kernel) (by decide +kernel)
theorem allAtoms_all (ts : List Jvm.Cond) (a : Array Jvm.Value) (st : Jvm.State) : (allAtoms ts).before a st = ts.all (fun c => c.before a st) := by
  induction ts with
  | nil => rfl
  | cons c t ih =>
    show (Jvm.Cond.and c (allAtoms t)).before a st = _
    rw [Jvm.Cond.before_and, ih, List.all_cons]
def words1 : List Jvm.Cond := Jvm.Cond.code x code maxLocals ret :: tables_1
/-- a 'code' word, met by the world's own term for the bytes: nothing is compared byte by byte -/
theorem code_word {y : MethodName} {bytes : ByteArray} {mx : Nat} {rt : Option FieldType} {a : Array Value} {s : State} {m : MethodId} {meth : Method} {c : Code} (h1 : s.methodNamed? y = some m) (h2 : s.vm.method? m = some meth) (h3 : meth.code = some c) (h4 : c.code = bytes)
    (h5 : (c.maxLocals == mx && c.exceptionTable.isEmpty && decide (c.maxStack ≤ mostOperands) && decide (meth.sig.returnType = rt) && !meth.locks && decide (parseMethodDescriptor y.desc = some meth.sig)) = true) : (Jvm.Cond.code y bytes mx rt).before a s = true := by
  simp only [Bool.and_eq_true, beq_iff_eq, Bool.not_eq_true', decide_eq_true_eq] at h5
  obtain ⟨⟨⟨⟨⟨g1, g2⟩, g3⟩, g4⟩, g5⟩, g6⟩ := h5
  simp [Cond.before, Cond.holds, Cond.value, h1, h2, h3, h4, g1, g2, g3, g4, g5, g6]
def isCode : Jvm.Cond → Bool
  | .code _ _ _ _ => true
  | _ => false
theorem all_split {L : List Jvm.Cond} {P : Jvm.Cond → Bool} (h1 : L.all (fun c => isCode c || P c) = true) (h2 : ∀ c ∈ L.filter isCode, P c = true) : L.all P = true := by
  refine List.all_eq_true.mpr fun c hc => ?_
  have h := List.all_eq_true.mp h1 c hc
  rcases Bool.eq_false_or_eq_true (isCode c) with hi | hi
  · exact h2 c (List.mem_filter.mpr ⟨hc, hi⟩)
  · simpa [hi] using h
set_option maxRecDepth 65536 in
theorem w_c0 : (Jvm.Cond.code x code maxLocals ret).before args0 about1 = true := code_word (m := ⟨1, 1⟩) (meth := k1m1) (c := k1c1) (by decide +kernel) rfl rfl rfl (by decide +kernel)
set_option maxRecDepth 65536 in
theorem w_c1 : (Jvm.Cond.code ({ cls := "com/example/bloom_filter_variants/bloomfiltervariants/PackedArray", name := "<init>", desc := "(JI)V" } : Jvm.MethodName) prog_23_method_1_code (6 : Nat) (Option.none : Option Jvm.ClassFile.FieldType)).before args0 about1 = true := code_word (m := ⟨2, 0⟩) (meth := k2m0) (c := k2c0) (by decide +kernel) rfl rfl rfl (by decide +kernel)
set_option maxRecDepth 65536 in
theorem w_c2 : (Jvm.Cond.code ({ cls := "java/lang/Object", name := "<init>", desc := "()V" } : Jvm.MethodName) object_method_1_code (1 : Nat) (Option.none : Option Jvm.ClassFile.FieldType)).before args0 about1 = true := code_word (m := ⟨0, 0⟩) (meth := k0m0) (c := k0c0) (by decide +kernel) rfl rfl rfl (by decide +kernel)
set_option maxRecDepth 65536 in
theorem w_c3 : (Jvm.Cond.code ({ cls := "com/example/bloom_filter_variants/bloomfiltervariants/PackedArray", name := "maxLength", desc := "(I)J" } : Jvm.MethodName) prog_23_method_4_code (1 : Nat) (Option.some Jvm.ClassFile.FieldType.long)).before args0 about1 = true := code_word (m := ⟨2, 1⟩) (meth := k2m1) (c := k2c1) (by decide +kernel) rfl rfl rfl (by decide +kernel)
set_option maxRecDepth 65536 in
theorem w_c4 : (Jvm.Cond.code ({ cls := "com/example/bloom_filter_variants/bloomfiltervariants/PackedArray", name := "words", desc := "()[J" } : Jvm.MethodName) prog_23_method_7_code (1 : Nat) (Option.some (Jvm.ClassFile.FieldType.array Jvm.ClassFile.FieldType.long))).before args0 about1 = true := code_word (m := ⟨2, 2⟩) (meth := k2m2) (c := k2c2) (by decide +kernel) rfl rfl rfl (by decide +kernel)
set_option maxRecDepth 65536 in
theorem w_c5 : (Jvm.Cond.code ({ cls := "com/example/bloom_filter_variants/bloomfiltervariants/PackedArray", name := "get", desc := "(J)J" } : Jvm.MethodName) prog_23_method_8_code (9 : Nat) (Option.some Jvm.ClassFile.FieldType.long)).before args0 about1 = true := code_word (m := ⟨2, 3⟩) (meth := k2m3) (c := k2c3) (by decide +kernel) rfl rfl rfl (by decide +kernel)
def codes1 : List Jvm.Cond := [Jvm.Cond.code x code maxLocals ret, Jvm.Cond.code ({ cls := "com/example/bloom_filter_variants/bloomfiltervariants/PackedArray", name := "<init>", desc := "(JI)V" } : Jvm.MethodName) prog_23_method_1_code (6 : Nat) (Option.none : Option Jvm.ClassFile.FieldType), Jvm.Cond.code ({ cls := "java/lang/Object", name := "<init>", desc := "()V" } : Jvm.MethodName) object_method_1_code (1 : Nat) (Option.none : Option Jvm.ClassFile.FieldType), Jvm.Cond.code ({ cls := "com/example/bloom_filter_variants/bloomfiltervariants/PackedArray", name := "maxLength", desc := "(I)J" } : Jvm.MethodName) prog_23_method_4_code (1 : Nat) (Option.some Jvm.ClassFile.FieldType.long), Jvm.Cond.code ({ cls := "com/example/bloom_filter_variants/bloomfiltervariants/PackedArray", name := "words", desc := "()[J" } : Jvm.MethodName) prog_23_method_7_code (1 : Nat) (Option.some (Jvm.ClassFile.FieldType.array Jvm.ClassFile.FieldType.long)), Jvm.Cond.code ({ cls := "com/example/bloom_filter_variants/bloomfiltervariants/PackedArray", name := "get", desc := "(J)J" } : Jvm.MethodName) prog_23_method_8_code (9 : Nat) (Option.some Jvm.ClassFile.FieldType.long)]
set_option maxRecDepth 65536 in
theorem codes_eq : words1.filter isCode = codes1 := rfl
theorem w_codes : ∀ c ∈ words1.filter isCode, c.before args0 about1 = true := by
  rw [codes_eq]
  intro c hc
  simp only [codes1, List.mem_cons, List.not_mem_nil, or_false] at hc
  rcases hc with rfl | rfl | rfl | rfl | rfl | rfl
  · exact w_c0
  · exact w_c1
  · exact w_c2
  · exact w_c3
  · exact w_c4
  · exact w_c5
set_option maxRecDepth 65536 in
theorem w_t1 : (words1.take 24).all (fun c => isCode c || c.before args0 about1) = true := by decide +kernel
set_option maxRecDepth 65536 in
theorem w_t2 : (words1.drop 24).all (fun c => isCode c || c.before args0 about1) = true := by decide +kernel
theorem w_tables : (allAtoms (Jvm.Cond.code x code maxLocals ret :: tables_1)).before args0 about1 = true := by
  rw [allAtoms_all]
  show words1.all (fun c => c.before args0 about1) = true
  refine all_split ?_ w_codes
  rw [← List.take_append_drop 24 words1, List.all_append, w_t1, w_t2]
  rfl
set_option maxRecDepth 65536 in
theorem w_case : (Jvm.Cond.and given_1 narrow_1).before args0 about1 = true := by decide +kernel
theorem w_applies : (headSpec (Jvm.Cond.code x code maxLocals ret :: tables_1) room_1).applies x e0.platform about1 = true :=
  (Spec.applies_iff w_frames).mpr ⟨w_running, w_runnable, w_alone, w_named, w_hears, w_ripe, w_room, w_tables⟩
theorem atStart : AtStart classFile x code maxLocals ret World_1 tables_1 room_1 Calls_1 rest_1 Pre_1 launch0 p0 e0 about1 theMethod args0 below0 :=
  ⟨lists_1, trivial, launch0.admits_env _ _ _, launch0.least_env, fairChoices_fair.cas, fairChoices_fair.clock, w_frames, w_args, w_heap, w_applies, trivial, trivial, w_case⟩
end start1
theorem witness_1 : WitnessClaimed_1 := ⟨start1.p0, start1.e0, start1.about1, start1.theMethod, start1.args0, start1.below0, start1.atStart⟩
end Jvm.Pilot.@@N@@
