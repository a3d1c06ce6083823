import JvmDerived
import JvmDerived.Pilot.@@N@@Statement
import JvmDerived.Pilot.@@N@@Code
set_option linter.unusedVariables false
set_option linter.unusedSimpArgs false
namespace Jvm.RoadKit
open Sem ClassFile Op Lib Jvm.Stand Jvm.Free Jvm.LawKit
section OwnGo
variable {p : Program} {l : Launch} {e : Env} {R : Room} {s : State} {m : MethodId} {args : Array Value} {below : List Frame} {meth : Method} {c : Code} {T T' : State} {locs : List Loc} {cells slots : Nat} {Z : State} {a0 : Array Value} {h h' : Heap}
/-- the walk comes to an end from here, and leaves what Q says -/
def Go (p : Program) (e : Env) (below : List Frame) (s : State) (Q : Option Value → Heap → List Loc → Prop) (nc ns : Nat) (T : State) (f : JFrame) : Prop :=
  ∃ s₂ o, Steps p.tables e below (T.setTop f) s₂ ∧ s₂.status = .running ∧ Ended s₂ below o ∧ ∃ v L, o = .returned v ∧ Q v s₂.heap L ∧ FrameEnd s o s₂ L nc ns
variable {Q : Option Value → Heap → List Loc → Prop} {nc ns : Nat}
theorem Go.of {f f' : JFrame} (k : ∀ t, Steps p.tables e below (T'.setTop f') t → Steps p.tables e below (T.setTop f) t) (g : Go p e below s Q nc ns T' f') : Go p e below s Q nc ns T f := by
  obtain ⟨s₂, o, h1, h2⟩ := g
  exact ⟨s₂, o, k _ h1, h2⟩
theorem Go.tr {f f' : JFrame} (k : Steps p.tables e below (T.setTop f) (T'.setTop f')) (g : Go p e below s Q nc ns T' f') : Go p e below s Q nc ns T f := by
  obtain ⟨s₂, o, h1, h2⟩ := g
  exact ⟨s₂, o, k.trans h1, h2⟩
theorem Go.cast {f f' : JFrame} (q : f = f') (g : Go p e below s Q nc ns T f') : Go p e below s Q nc ns T f := q ▸ g
theorem retI (X : Stand p l e R s m args below meth c T locs cells slots) (hx : p.tables.exec = Jvm.exec) {pc : Nat} {Ls : Array Slot} {z : Int32} {rest : List Value} (hret : meth.sig.returnType = some .int) (hd : decode c.code pc = .ok (.ireturn, 1)) {fs : List Frame}
    (hl : ∀ (f : JFrame) (acts : List Action), f.method = m → f.locked = none → f.entered = [] → (doReturn e (T.setTop f) acts (some (.int z))).1 = T.setFrames fs) : Steps p.tables e below (T.setTop (mkF m pc Ls (.int z :: rest))) (T.setFrames fs) :=
  retOut X hx hret rfl (Or.inl ⟨rfl, Or.inl rfl, _, rfl⟩) hd hl
theorem Go.end0 (X : Stand p l e R s m args below meth c T locs cells slots) (hk : meth.locks = false) {v : Option Value} (hv : meth.sig.returnType = none → v = none) {f : JFrame}
    (k : ∀ fs, (∀ (f : JFrame) (acts : List Action), f.method = m → f.locked = none → f.entered = [] → (doReturn e (T.setTop f) acts v).1 = T.setFrames fs) → Steps p.tables e below (T.setTop f) (T.setFrames fs))
    (hc : cells ≤ nc) (hs : slots ≤ ns) (hq : Q v T.heap locs) : Go p e below s Q nc ns T f := by
  obtain ⟨fs, hr, hrun, hended, hW, hsame⟩ := X.leave (v := v) hv
  exact ⟨_, _, k fs hr, hrun, hended, _, _, rfl, hq, ⟨_, rfl⟩, hW, hsame.mono hc hs⟩
theorem Go.retZ (X : Stand p l e R s m args below meth c T locs cells slots) (hx : p.tables.exec = Jvm.exec) (hk : meth.locks = false) {t : FieldType} (hret : meth.sig.returnType = some t) (ht : t = .boolean ∨ t = .byte ∨ t = .char ∨ t = .short) {pc : Nat} (hd : decode c.code pc = .ok (.ireturn, 1)) {Ls : Array Slot} {z : Int32} {rest : List Value}
    (hc : cells ≤ nc) (hs : slots ≤ ns) (hq : Q (some (.int (nar t z))) T.heap locs) : Go p e below s Q nc ns T (mkF m pc Ls (.int z :: rest)) :=
  Go.end0 X hk (fun q => by rw [hret] at q; cases q) (fun _ hr => retN X hx hret ht hd hr) hc hs hq
theorem Go.retI (X : Stand p l e R s m args below meth c T locs cells slots) (hx : p.tables.exec = Jvm.exec) (hk : meth.locks = false) (hret : meth.sig.returnType = some .int) {pc : Nat} (hd : decode c.code pc = .ok (.ireturn, 1)) {Ls : Array Slot} {z : Int32} {rest : List Value}
    (hc : cells ≤ nc) (hs : slots ≤ ns) (hq : Q (some (.int z)) T.heap locs) : Go p e below s Q nc ns T (mkF m pc Ls (.int z :: rest)) :=
  Go.end0 X hk (fun q => by rw [hret] at q; cases q) (fun _ hr => Jvm.RoadKit.retI X hx hret hd hr) hc hs hq
theorem Go.retJ (X : Stand p l e R s m args below meth c T locs cells slots) (hx : p.tables.exec = Jvm.exec) (hk : meth.locks = false) (hret : meth.sig.returnType = some .long) {pc : Nat} (hd : decode c.code pc = .ok (.lreturn, 1)) {Ls : Array Slot} {z : Int64} {rest : List Value}
    (hc : cells ≤ nc) (hs : slots ≤ ns) (hq : Q (some (.long z)) T.heap locs) : Go p e below s Q nc ns T (mkF m pc Ls (.long z :: rest)) :=
  Go.end0 X hk (fun q => by rw [hret] at q; cases q) (fun _ hr => retOut X hx hret rfl (Or.inr (Or.inl ⟨rfl, rfl, _, rfl⟩)) hd hr) hc hs hq
theorem Go.retA (X : Stand p l e R s m args below meth c T locs cells slots) (hx : p.tables.exec = Jvm.exec) (hk : meth.locks = false) {t : FieldType} (hret : meth.sig.returnType = some t) (ht : t.isReference = true) {pc : Nat} (hd : decode c.code pc = .ok (.areturn, 1)) {Ls : Array Slot} {a : Addr} {rest : List Value}
    (hc : cells ≤ nc) (hs : slots ≤ ns) (hq : Q (some (.ref a)) T.heap locs) : Go p e below s Q nc ns T (mkF m pc Ls (.ref a :: rest)) :=
  Go.end0 X hk (fun q => by rw [hret] at q; cases q) (fun _ hr => retOut X hx hret (by cases t <;> first | rfl | cases ht) (Or.inr (Or.inr (Or.inr (Or.inr ⟨rfl, ht, rfl⟩)))) hd hr) hc hs hq
theorem Go.retV (X : Stand p l e R s m args below meth c T locs cells slots) (hx : p.tables.exec = Jvm.exec) (hk : meth.locks = false) (hret : meth.sig.returnType = none) {pc : Nat} (hd : decode c.code pc = .ok (.return_, 1)) {Ls : Array Slot}
    (hc : cells ≤ nc) (hs : slots ≤ ns) (hq : Q none T.heap locs) : Go p e below s Q nc ns T (mkF m pc Ls []) :=
  Go.end0 X hk (fun _ => rfl) (fun _ hr => X.returnOut hx hret hd hr) hc hs hq
theorem lc_lt_t {x y : Int64} (q : x < y) : ifCond.holds .lt (lcmpW x y) = true := by rw [if0, lcW]; exact (tlt ((lc_lt x y).mpr q)).1
theorem lc_lt_f {x y : Int64} (q : ¬ x < y) : ifCond.holds .lt (lcmpW x y) = false := by rw [if0, lcW]; exact (flt (fun z => q ((lc_lt x y).mp z))).1
theorem lc_ge_f {x y : Int64} (q : x < y) : ifCond.holds .ge (lcmpW x y) = false := by rw [if0, lcW]; exact (tlt ((lc_lt x y).mpr q)).2.1
theorem lc_ge_t {x y : Int64} (q : ¬ x < y) : ifCond.holds .ge (lcmpW x y) = true := by rw [if0, lcW]; exact (flt (fun z => q ((lc_lt x y).mp z))).2.1
theorem lc_gt_t {x y : Int64} (q : y < x) : ifCond.holds .gt (lcmpW x y) = true := by rw [if0, lcW]; exact (tlt ((lc_gt x y).mpr q)).2.2.1
theorem lc_gt_f {x y : Int64} (q : ¬ y < x) : ifCond.holds .gt (lcmpW x y) = false := by rw [if0, lcW]; exact (flt (fun z => q ((lc_gt x y).mp z))).2.2.1
theorem lc_le_f {x y : Int64} (q : y < x) : ifCond.holds .le (lcmpW x y) = false := by rw [if0, lcW]; exact (tlt ((lc_gt x y).mpr q)).2.2.2
theorem lc_le_t {x y : Int64} (q : ¬ y < x) : ifCond.holds .le (lcmpW x y) = true := by rw [if0, lcW]; exact (flt (fun z => q ((lc_gt x y).mp z))).2.2.2
theorem lc_eq_t {x y : Int64} (q : x = y) : ifCond.holds .eq (lcmpW x y) = true := by rw [if0, lcW]; exact (teq ((lc_eq x y).mpr q)).1
theorem lc_eq_f {x y : Int64} (q : ¬ x = y) : ifCond.holds .eq (lcmpW x y) = false := by rw [if0, lcW]; exact (feq (fun z => q ((lc_eq x y).mp z))).1
theorem lc_ne_f {x y : Int64} (q : x = y) : ifCond.holds .ne (lcmpW x y) = false := by rw [if0, lcW]; exact (teq ((lc_eq x y).mpr q)).2
theorem lc_ne_t {x y : Int64} (q : ¬ x = y) : ifCond.holds .ne (lcmpW x y) = true := by rw [if0, lcW]; exact (feq (fun z => q ((lc_eq x y).mp z))).2
/-- an array of this kind that holds just these values -/
def VArr (Z : State) (h : Heap) (a : Addr) (ty : FieldType) (vs : List Value) : Prop := ∃ cl : Cell, Arr Z h a cl ty ∧ cl.slots = vs.toArray
variable {a b : Addr} {ty : FieldType} {vs : List Value} {sl : Nat} {v : Value} {ws : List Addr} {n : Int32}
theorem VArr.lt (F : VArr Z h a ty vs) : a < h.size := by obtain ⟨c, A, -⟩ := F; exact A.lt
theorem VArr.ext (F : VArr Z h a ty vs) (E : Ext h h') : VArr Z h' a ty vs := by obtain ⟨c, A, r⟩ := F; exact ⟨c, A.ext E, r⟩
theorem VArr.other (F : VArr Z h b ty vs) (W : Wr h h' a sl v) (q : b ≠ a) : VArr Z h' b ty vs := by obtain ⟨c, A, r⟩ := F; exact ⟨c, A.other W q, r⟩
theorem VArr.keep (F : VArr Z h a ty vs) (K : Keep h h' ws) (q : a ∉ ws) : VArr Z h' a ty vs := by obtain ⟨c, A, r⟩ := F; exact ⟨c, ⟨K.2.1 a c A.1 q, A.2⟩, r⟩
theorem VArr.new {k : ClassId} (A : Arr Z h a (newA k ty n) ty) : VArr Z h a ty (List.replicate n.toNatClampNeg (defaultValue ty)) := ⟨_, A, by simp [newA]⟩
theorem VArr.newL {k : ClassId} {i : Nat} (A : Arr Z h a (newA k ty n) ty) (hn : n.toNatClampNeg = i) : VArr Z h a ty (List.replicate i (defaultValue ty)) := hn ▸ VArr.new A
theorem VArr.wr (F : VArr Z h a ty vs) (W : Wr h h' a sl v) : VArr Z h' a ty (vs.set sl v) := by
  obtain ⟨c, A, r⟩ := F
  refine ⟨_, A.same W, ?_⟩
  show c.slots.setIfInBounds sl v = _
  rw [r]; simp
theorem VArr.inb {cl : Cell} {j : Int32} (r : cl.slots = vs.toArray) (hj : ¬ j < 0) (hi : j.toNatClampNeg < vs.length) : ¬ (j < 0 ∨ cl.slots.size ≤ j.toNatClampNeg) := by
  rw [r]; simp only [List.size_toArray]; rintro (q | q)
  · exact hj q
  · omega
theorem VArr.at {cl : Cell} {j : Int32} (r : cl.slots = vs.toArray) (hv : vs[j.toNatClampNeg]? = some v) : cl.slots[j.toNatClampNeg]? = some v := by rw [r]; simpa using hv
theorem lt_of_at {j : Nat} (hv : vs[j]? = some v) : j < vs.length := (List.getElem?_eq_some_iff.mp hv).1
theorem ldJ (X : Stand p l e R s m args below meth c T locs cells slots) (hx : p.tables.exec = Jvm.exec) (hZ : Z.Warmed39 s.vm) (eT : T.heap = h) (F : VArr Z h a .long vs) {j : Int32} {i : Nat} (hj : ¬ j < 0) (hji : j.toNatClampNeg = i) (hv : vs[i]? = some v)
    {g : JFrame} (hg : g.method = m) {rest : List Value} (hs : g.stack = .int j :: .ref a :: rest) (hd : decode c.code g.pc = .ok (.laload, 1)) (target : State)
    (hr : Steps p.tables e below (T.setTop { g with pc := g.pc + 1, stack := v :: rest }) target) : Steps p.tables e below (T.setTop g) target := by
  subst hji
  obtain ⟨cl, A, r⟩ := F
  exact X.laload hx (by rw [eT]; exact A.1) (State.isArrayOf_alike hZ.alike A.2.1) A.2.2 (VArr.inb r hj (lt_of_at hv)) (VArr.at r hv) hg hs hd target hr
theorem ldC (X : Stand p l e R s m args below meth c T locs cells slots) (hx : p.tables.exec = Jvm.exec) (hZ : Z.Warmed39 s.vm) (eT : T.heap = h) (F : VArr Z h a .char vs) {j : Int32} {i : Nat} (hj : ¬ j < 0) (hji : j.toNatClampNeg = i) (hv : vs[i]? = some v)
    {g : JFrame} (hg : g.method = m) {rest : List Value} (hs : g.stack = .int j :: .ref a :: rest) (hd : decode c.code g.pc = .ok (.caload, 1)) (target : State)
    (hr : Steps p.tables e below (T.setTop { g with pc := g.pc + 1, stack := v :: rest }) target) : Steps p.tables e below (T.setTop g) target := by
  subst hji
  obtain ⟨cl, A, r⟩ := F
  exact X.caload hx (by rw [eT]; exact A.1) (State.isArrayOf_alike hZ.alike A.2.1) A.2.2 (VArr.inb r hj (lt_of_at hv)) (VArr.at r hv) hg hs hd target hr
theorem ldB (X : Stand p l e R s m args below meth c T locs cells slots) (hx : p.tables.exec = Jvm.exec) (hZ : Z.Warmed39 s.vm) (eT : T.heap = h) (F : VArr Z h a .byte vs) {j : Int32} {i : Nat} (hj : ¬ j < 0) (hji : j.toNatClampNeg = i) (hv : vs[i]? = some v)
    {g : JFrame} (hg : g.method = m) {rest : List Value} (hs : g.stack = .int j :: .ref a :: rest) (hd : decode c.code g.pc = .ok (.baload, 1)) (target : State)
    (hr : Steps p.tables e below (T.setTop { g with pc := g.pc + 1, stack := v :: rest }) target) : Steps p.tables e below (T.setTop g) target := by
  subst hji
  obtain ⟨cl, A, r⟩ := F
  exact X.baloadBytes hx (by rw [eT]; exact A.1) (State.isArrayOf_alike hZ.alike A.2.1) A.2.2 (VArr.inb r hj (lt_of_at hv)) (VArr.at r hv) hg hs hd target hr
theorem lenV (X : Stand p l e R s m args below meth c T locs cells slots) (hx : p.tables.exec = Jvm.exec) (hZ : Z.Warmed39 s.vm) (eT : T.heap = h) (F : VArr Z h a ty vs) (hn : vs.length.toInt32 = n)
    {g : JFrame} (hg : g.method = m) {rest : List Value} (hs : g.stack = .ref a :: rest) (hd : decode c.code g.pc = .ok (.arraylength, 1)) (target : State)
    (hr : Steps p.tables e below (T.setTop { g with pc := g.pc + 1, stack := .int n :: rest }) target) : Steps p.tables e below (T.setTop g) target := by
  obtain ⟨cl, A, r⟩ := F
  refine X.arraylength hx (by rw [eT]; exact A.1) (State.isArrayOf_alike hZ.alike A.2.1) hg hs hd target ?_
  have q : cl.slots.size.toInt32 = n := by rw [r, ← hn]; simp
  rw [q]; exact hr
theorem saJ (X : Stand p l e R s m args below meth c T locs cells slots) (hx : p.tables.exec = Jvm.exec) (hZ : Z.Warmed39 s.vm) (eT : T.heap = h) (F : VArr Z h a .long vs) {j : Int32} {x : Int64} {i : Nat} (hj : ¬ j < 0) (hji : j.toNatClampNeg = i) (hi : i < vs.length)
    {g : JFrame} (hg : g.method = m) {rest : List Value} (hs : g.stack = .long x :: .int j :: .ref a :: rest) (hd : decode c.code g.pc = .ok (.lastore, 1)) :
    ∃ T' h', Stand p l e R s m args below meth c T' (locs ++ [⟨a, j.toNatClampNeg⟩]) cells slots ∧ T'.heap = h' ∧ Wr h h' a j.toNatClampNeg (.long x) ∧ VArr Z h' a .long (vs.set i (.long x)) ∧ ∀ target, Steps p.tables e below (T'.setTop { g with pc := g.pc + 1, stack := rest }) target → Steps p.tables e below (T.setTop g) target := by
  subst hji
  obtain ⟨cl, A, r⟩ := F
  obtain ⟨T', h', X', e', W, st⟩ := stJ X hx hZ eT A (x := x) (VArr.inb r hj hi) hg hs hd
  exact ⟨T', h', X', e', W, VArr.wr ⟨cl, A, r⟩ W, st⟩
theorem saC (X : Stand p l e R s m args below meth c T locs cells slots) (hx : p.tables.exec = Jvm.exec) (hZ : Z.Warmed39 s.vm) (eT : T.heap = h) (F : VArr Z h a .char vs) {j : Int32} {x : Int32} {i : Nat} (hj : ¬ j < 0) (hji : j.toNatClampNeg = i) (hi : i < vs.length)
    {g : JFrame} (hg : g.method = m) {rest : List Value} (hs : g.stack = .int x :: .int j :: .ref a :: rest) (hd : decode c.code g.pc = .ok (.castore, 1)) :
    ∃ T' h', Stand p l e R s m args below meth c T' (locs ++ [⟨a, j.toNatClampNeg⟩]) cells slots ∧ T'.heap = h' ∧ Wr h h' a j.toNatClampNeg (.int (nar .char x)) ∧ VArr Z h' a .char (vs.set i (.int (nar .char x))) ∧ ∀ target, Steps p.tables e below (T'.setTop { g with pc := g.pc + 1, stack := rest }) target → Steps p.tables e below (T.setTop g) target := by
  subst hji
  obtain ⟨cl, A, r⟩ := F
  obtain ⟨T', h', X', e', W, st⟩ := stC X hx hZ eT A (x := x) (VArr.inb r hj hi) hg hs hd
  exact ⟨T', h', X', e', W, VArr.wr ⟨cl, A, r⟩ W, st⟩
theorem saB (X : Stand p l e R s m args below meth c T locs cells slots) (hx : p.tables.exec = Jvm.exec) (hZ : Z.Warmed39 s.vm) (eT : T.heap = h) (F : VArr Z h a .byte vs) {j : Int32} {x : Int32} {i : Nat} (hj : ¬ j < 0) (hji : j.toNatClampNeg = i) (hi : i < vs.length)
    {g : JFrame} (hg : g.method = m) {rest : List Value} (hs : g.stack = .int x :: .int j :: .ref a :: rest) (hd : decode c.code g.pc = .ok (.bastore, 1)) :
    ∃ T' h', Stand p l e R s m args below meth c T' (locs ++ [⟨a, j.toNatClampNeg⟩]) cells slots ∧ T'.heap = h' ∧ Wr h h' a j.toNatClampNeg (.int (nar .byte x)) ∧ VArr Z h' a .byte (vs.set i (.int (nar .byte x))) ∧ ∀ target, Steps p.tables e below (T'.setTop { g with pc := g.pc + 1, stack := rest }) target → Steps p.tables e below (T.setTop g) target := by
  subst hji
  obtain ⟨cl, A, r⟩ := F
  obtain ⟨T', h', X', e', W, st⟩ := stB X hx hZ eT A (x := x) (VArr.inb r hj hi) hg hs hd
  exact ⟨T', h', X', e', W, VArr.wr ⟨cl, A, r⟩ W, st⟩
end OwnGo
end Jvm.RoadKit
namespace Jvm.Pilot.@@N@@
open Jvm Jvm.ClassFile Sem Op Lib Jvm.Free Jvm.Stand Jvm.LawKit Jvm.RoadKit Bundle Jvm.Pilot.@@N@@.Jvm.D
def wsV (c : Int32) : Int32 := if c = 9 ∨ c = 10 ∨ c = 12 ∨ c = 13 ∨ c = 32 then 1 else 0
def rfV (c : Int32) : Int32 := if c < 64 then (if ((((4294981120 : Int64).toUInt64 >>> (c &&& 0x3f).toInt64.toUInt64).toInt64) &&& (1 : Int64)) = (0 : Int64) then 0 else 1) else 0
theorem own_small : ∀ n : Fin 64, wsV (Int32.ofNat n.1) = rfV (Int32.ofNat n.1) := by decide +kernel
theorem own_ws (c : Int32) (h : ¬ c < 0) : wsV c = rfV c := by
  by_cases hc : c < 64
  · have h0 : 0 ≤ c.toInt := by rw [Int32.lt_iff_toInt_lt] at h; have : (0 : Int32).toInt = 0 := rfl; omega
    have h1 : c.toInt < 64 := by rw [Int32.lt_iff_toInt_lt] at hc; have : (64 : Int32).toInt = 64 := rfl; omega
    have e : c = Int32.ofNat c.toInt.toNat := by
      apply Int32.toInt_inj.mp
      have : ∀ k : Fin 64, (Int32.ofNat k.1).toInt = k.1 := by decide +kernel
      rw [this ⟨c.toInt.toNat, by omega⟩]; simp only []; omega
    rw [e]; exact own_small ⟨c.toInt.toNat, by omega⟩
  · have n : ∀ d : Int32, d < 64 → c ≠ d := fun d hd q => hc (q ▸ hd)
    have a : wsV c = 0 := by
      unfold wsV; rw [if_neg]; rintro (q | q | q | q | q) <;> exact n _ (by decide) q
    rw [a]; unfold rfV; rw [if_neg hc]
theorem own_i2c (x : Int32) : ¬ (x.toUInt32.toUInt16.toUInt32.toInt32) < 0 := by
  have h := fits_nar_char x
  have e : nar .char x = x.toUInt32.toUInt16.toUInt32.toInt32 := rfl
  rw [e] at h
  simp only [fits, Bool.and_eq_true, decide_eq_true_eq] at h
  intro q
  have h1 := h.1
  rw [Int32.le_iff_toInt_le] at h1
  rw [Int32.lt_iff_toInt_lt] at q
  omega
theorem own_idx (x : Int32) : ¬ (x &&& 15) < 0 ∧ (x &&& 15).toNatClampNeg < 16 := by
  have h : (x &&& 15).toBitVec.toNat ≤ 15 := by rw [Int32.toBitVec_and, BitVec.toNat_and]; exact Nat.and_le_right
  have e : (x &&& 15).toInt = (x &&& 15).toBitVec.toNat := by
    show (x &&& 15).toBitVec.toInt = _
    rw [BitVec.toInt_eq_toNat_cond, if_pos (by omega)]
  constructor
  · rw [Int32.lt_iff_toInt_lt, e]; have : (0 : Int32).toInt = 0 := rfl; omega
  · simp only [Int32.toNatClampNeg, e]; omega
theorem d1_0 : decode method_3_code 0 = .ok (.iload_n 0, 1) := by decide +kernel
theorem d1_1 : decode method_3_code 1 = .ok (.istore_n 1, 1) := by decide +kernel
theorem d1_2 : decode method_3_code 2 = .ok (.iload_n 1, 1) := by decide +kernel
theorem d1_3 : decode method_3_code 3 = .ok (.bipush 64, 2) := by decide +kernel
theorem d1_5 : decode method_3_code 5 = .ok (.if_icmp .lt 5, 3) := by decide +kernel
theorem d1_8 : decode method_3_code 8 = .ok (.iconst 0, 1) := by decide +kernel
theorem d1_9 : decode method_3_code 9 = .ok (.ireturn, 1) := by decide +kernel
theorem d1_10 : decode method_3_code 10 = .ok (.ldc2_w 18, 3) := by decide +kernel
theorem d1_13 : decode method_3_code 13 = .ok (.lstore_n 2, 1) := by decide +kernel
theorem d1_14 : decode method_3_code 14 = .ok (.lload_n 2, 1) := by decide +kernel
theorem d1_15 : decode method_3_code 15 = .ok (.iload_n 1, 1) := by decide +kernel
theorem d1_16 : decode method_3_code 16 = .ok (.lushr, 1) := by decide +kernel
theorem d1_17 : decode method_3_code 17 = .ok (.lconst 1, 1) := by decide +kernel
theorem d1_18 : decode method_3_code 18 = .ok (.land, 1) := by decide +kernel
theorem d1_19 : decode method_3_code 19 = .ok (.lconst 0, 1) := by decide +kernel
theorem d1_20 : decode method_3_code 20 = .ok (.lcmp, 1) := by decide +kernel
theorem d1_21 : decode method_3_code 21 = .ok (.ifCond .eq 7, 3) := by decide +kernel
theorem d1_24 : decode method_3_code 24 = .ok (.iconst 1, 1) := by decide +kernel
theorem d1_25 : decode method_3_code 25 = .ok (.goto 4, 3) := by decide +kernel
theorem d1_28 : decode method_3_code 28 = .ok (.iconst 0, 1) := by decide +kernel
theorem d1_29 : decode method_3_code 29 = .ok (.ireturn, 1) := by decide +kernel
theorem pn_0 : plainName "com/example/albero/albero/TokenizerIsAsciiWhitespacePinLaw" = true := by first | (simp [plainName, overriddenIn]; done) | decide +kernel
theorem ef_1 (m : MethodId) (x0 : Int32) : entryFrame m #[(.int x0)] 4 = mkF m 0 #[.val (.int x0), .unset, .unset, .unset] [] := by first | (simp [entryFrame, mkF, argsToLocals, Value.category]; done) | rfl
def Q1 (Z : State) (x0 : Int32)  (h0 : Heap) (n0 : Nat) (v : Option Value) (h : Heap) (L : List Loc) : Prop := v = some (.int (rfV x0)) ∧ Fr n0 L ∧ h = h0
set_option maxRecDepth 65536 in
set_option maxHeartbeats 40000000 in
theorem rm1 (l : Launch) (Z : State) (a0 : Array Value) (hw : ∀ d ∈ tables_1, d.before a0 Z = true) (ws : List Jvm.Cond) (x0 : Int32)  (h0 : Heap) (n0 : Nat) (Z0 : n0 ≤ h0.size)  :
    MetFree l (⟨"com/example/albero/albero/TokenizerIsAsciiWhitespacePinLaw", "reference", "(C)Z"⟩ : MethodName) (head1 (Jvm.Cond.code (⟨"com/example/albero/albero/TokenizerIsAsciiWhitespacePinLaw", "reference", "(C)Z"⟩ : MethodName) method_3_code 4 (some .boolean) :: ws) ({ frames := 0, cells := 0, slots := 0, locals := 0 } : Room)) (fun a U => a = #[(.int x0)] ∧ Z.Warmed39 U.vm ∧ U.heap = h0) (fun _ _ _ _ _ => True) (fun _ U o U' => ∃ v L, o = .returned v ∧ Q1 Z x0 h0 n0 v U'.heap L ∧ FrameEnd U o U' L ({ frames := 0, cells := 0, slots := 0, locals := 0 } : Room).cells ({ frames := 0, cells := 0, slots := 0, locals := 0 } : Room).slots) := by
  refine MetFree.of_bodySF (plainFor_of_name pn_0) hisR ?_
  intro p e s m args below meth c s₁ Bd hml0 hP hK
  obtain ⟨rfl, hZ, hh⟩ := hP
  have hx := Bd.exec
  have hby := Bd.bytes
  have hml : c.maxLocals = 4 := hml0
  have hown : s.vm.findClass "com/example/albero/albero/TokenizerIsAsciiWhitespacePinLaw" = some m.cls := findClass_of_methodNamed Bd.named
  have hnm := (name_of_methodNamed Bd.named Bd.method).1
  have hk : meth.locks = false := BodyLoose.notSynchronized Bd
  have X0 : Stand p l e ({ frames := 0, cells := 0, slots := 0, locals := 0 } : Room) s m #[(.int x0)] below meth c s₁ [] 0 0 := Stand.of_body Bd
  have e0 : s₁.heap = h0 := by rw [← hh, Bd.state]; rfl
  have N0 := Fr.nil n0
  show Go p e below s (Q1 Z x0 h0 n0) ({ frames := 0, cells := 0, slots := 0, locals := 0 } : Room).cells ({ frames := 0, cells := 0, slots := 0, locals := 0 } : Room).slots s₁ (entryFrame m #[(.int x0)] 4)
  refine Go.cast (ef_1 m x0) ?_
  refine Go.of (T' := s₁) (f' := (mkF m 1 #[.val (.int x0), .unset, .unset, .unset] [(.int x0)])) (fun t k => XS.iloadN X0.here hx rfl (hb hby d1_0) rfl k) ?_
  refine Go.of (T' := s₁) (f' := (mkF m 2 #[.val (.int x0), .val (.int x0), .unset, .unset] [])) (fun t k => XS.istoreN X0.here hx rfl (hb hby d1_1) rfl (l' := #[.val (.int x0), .val (.int x0), .unset, .unset]) rfl k) ?_
  refine Go.of (T' := s₁) (f' := (mkF m 3 #[.val (.int x0), .val (.int x0), .unset, .unset] [(.int x0)])) (fun t k => XS.iloadN X0.here hx rfl (hb hby d1_2) rfl k) ?_
  refine Go.of (T' := s₁) (f' := (mkF m 5 #[.val (.int x0), .val (.int x0), .unset, .unset] [(.int (64 : Int32)), (.int x0)])) (fun t k => XS.bipush X0.here hx rfl (hb hby d1_3) k) ?_
  by_cases hc5 : x0 < (64 : Int32)
  · -- pc 5: yes
    refine Go.of (T' := s₁) (f' := (mkF m 10 #[.val (.int x0), .val (.int x0), .unset, .unset] [])) (fun t k => XS.icmpYes X0.here hx rfl (pc0 := 5) (pc' := 10) rfl (hb hby d1_5) rfl ((tlt hc5).1) (by decide) (by decide) k) ?_
    refine Go.of (T' := s₁) (f' := (mkF m 13 #[.val (.int x0), .val (.int x0), .unset, .unset] [(.long (4294981120 : Int64))])) (fun t k => X0.ldc2Long hx hown (mvT hZ (hw _ (List.mem_of_getElem? (i := 5) rfl))) (g := (mkF m 10 #[.val (.int x0), .val (.int x0), .unset, .unset] [])) rfl (hb hby d1_10) t k) ?_
    refine Go.of (T' := s₁) (f' := (mkF m 14 #[.val (.int x0), .val (.int x0), .val (.long (4294981120 : Int64)), .second] [])) (fun t k => XS.lstoreN X0.here hx rfl (hb hby d1_13) rfl (l' := #[.val (.int x0), .val (.int x0), .val (.long (4294981120 : Int64)), .second]) rfl k) ?_
    refine Go.of (T' := s₁) (f' := (mkF m 15 #[.val (.int x0), .val (.int x0), .val (.long (4294981120 : Int64)), .second] [(.long (4294981120 : Int64))])) (fun t k => XS.lloadN X0.here hx rfl (hb hby d1_14) rfl k) ?_
    refine Go.of (T' := s₁) (f' := (mkF m 16 #[.val (.int x0), .val (.int x0), .val (.long (4294981120 : Int64)), .second] [(.int x0), (.long (4294981120 : Int64))])) (fun t k => XS.iloadN X0.here hx rfl (hb hby d1_15) rfl k) ?_
    refine Go.of (T' := s₁) (f' := (mkF m 17 #[.val (.int x0), .val (.int x0), .val (.long (4294981120 : Int64)), .second] [(.long (((4294981120 : Int64).toUInt64 >>> (x0 &&& 0x3f).toInt64.toUInt64).toInt64))])) (fun t k => XS.lushr X0.here hx rfl (hb hby d1_16) rfl k) ?_
    refine Go.of (T' := s₁) (f' := (mkF m 18 #[.val (.int x0), .val (.int x0), .val (.long (4294981120 : Int64)), .second] [(.long (1 : Int64)), (.long (((4294981120 : Int64).toUInt64 >>> (x0 &&& 0x3f).toInt64.toUInt64).toInt64))])) (fun t k => XS.lconst X0.here hx rfl (hb hby d1_17) k) ?_
    refine Go.of (T' := s₁) (f' := (mkF m 19 #[.val (.int x0), .val (.int x0), .val (.long (4294981120 : Int64)), .second] [(.long ((((4294981120 : Int64).toUInt64 >>> (x0 &&& 0x3f).toInt64.toUInt64).toInt64) &&& (1 : Int64)))])) (fun t k => XS.land X0.here hx rfl (hb hby d1_18) rfl k) ?_
    refine Go.of (T' := s₁) (f' := (mkF m 20 #[.val (.int x0), .val (.int x0), .val (.long (4294981120 : Int64)), .second] [(.long (0 : Int64)), (.long ((((4294981120 : Int64).toUInt64 >>> (x0 &&& 0x3f).toInt64.toUInt64).toInt64) &&& (1 : Int64)))])) (fun t k => XS.lconst X0.here hx rfl (hb hby d1_19) k) ?_
    refine Go.of (T' := s₁) (f' := (mkF m 21 #[.val (.int x0), .val (.int x0), .val (.long (4294981120 : Int64)), .second] [(.int (lcmpW ((((4294981120 : Int64).toUInt64 >>> (x0 &&& 0x3f).toInt64.toUInt64).toInt64) &&& (1 : Int64)) (0 : Int64)))])) (fun t k => XS.lcmp X0.here hx rfl (hb hby d1_20) rfl k) ?_
    by_cases hc21 : ((((4294981120 : Int64).toUInt64 >>> (x0 &&& 0x3f).toInt64.toUInt64).toInt64) &&& (1 : Int64)) = (0 : Int64)
    · -- pc 21: yes
      refine Go.of (T' := s₁) (f' := (mkF m 28 #[.val (.int x0), .val (.int x0), .val (.long (4294981120 : Int64)), .second] [])) (fun t k => XS.ifYes X0.here hx rfl (pc0 := 21) (pc' := 28) rfl (hb hby d1_21) rfl (lc_eq_t hc21) (by decide) (by decide) k) ?_
      refine Go.of (T' := s₁) (f' := (mkF m 29 #[.val (.int x0), .val (.int x0), .val (.long (4294981120 : Int64)), .second] [(.int (0 : Int32))])) (fun t k => XS.iconst X0.here hx rfl (hb hby d1_28) k) ?_
      refine Go.retZ X0 hx hk (t := .boolean) Bd.returns (by simp) (hb hby d1_29) (by decide) (by decide) ?_
      rw [e0]
      exact ⟨by unfold rfV; rw [if_pos hc5, if_pos hc21]; rfl, N0, rfl⟩
    · -- pc 21: no
      refine Go.of (T' := s₁) (f' := (mkF m 24 #[.val (.int x0), .val (.int x0), .val (.long (4294981120 : Int64)), .second] [])) (fun t k => XS.ifNo X0.here hx rfl (hb hby d1_21) rfl (lc_eq_f hc21) k) ?_
      refine Go.of (T' := s₁) (f' := (mkF m 25 #[.val (.int x0), .val (.int x0), .val (.long (4294981120 : Int64)), .second] [(.int (1 : Int32))])) (fun t k => XS.iconst X0.here hx rfl (hb hby d1_24) k) ?_
      refine Go.of (T' := s₁) (f' := (mkF m 29 #[.val (.int x0), .val (.int x0), .val (.long (4294981120 : Int64)), .second] [(.int (1 : Int32))])) (fun t k => XS.goto X0.here hx rfl (pc0 := 25) (pc' := 29) rfl (hb hby d1_25) (by decide) (by decide) k) ?_
      refine Go.retZ X0 hx hk (t := .boolean) Bd.returns (by simp) (hb hby d1_29) (by decide) (by decide) ?_
      rw [e0]
      exact ⟨by unfold rfV; rw [if_pos hc5, if_neg hc21]; rfl, N0, rfl⟩
  · -- pc 5: no
    refine Go.of (T' := s₁) (f' := (mkF m 8 #[.val (.int x0), .val (.int x0), .unset, .unset] [])) (fun t k => XS.icmpNo X0.here hx rfl (hb hby d1_5) rfl ((flt hc5).1) k) ?_
    refine Go.of (T' := s₁) (f' := (mkF m 9 #[.val (.int x0), .val (.int x0), .unset, .unset] [(.int (0 : Int32))])) (fun t k => XS.iconst X0.here hx rfl (hb hby d1_8) k) ?_
    refine Go.retZ X0 hx hk (t := .boolean) Bd.returns (by simp) (hb hby d1_9) (by decide) (by decide) ?_
    rw [e0]
    exact ⟨by unfold rfV; rw [if_neg hc5]; rfl, N0, rfl⟩
theorem d2_0 : decode prog_49_method_85_code 0 = .ok (.iload_n 0, 1) := by decide +kernel
theorem d2_1 : decode prog_49_method_85_code 1 = .ok (.bipush 9, 2) := by decide +kernel
theorem d2_3 : decode prog_49_method_85_code 3 = .ok (.if_icmp .eq 27, 3) := by decide +kernel
theorem d2_6 : decode prog_49_method_85_code 6 = .ok (.iload_n 0, 1) := by decide +kernel
theorem d2_7 : decode prog_49_method_85_code 7 = .ok (.bipush 10, 2) := by decide +kernel
theorem d2_9 : decode prog_49_method_85_code 9 = .ok (.if_icmp .eq 21, 3) := by decide +kernel
theorem d2_12 : decode prog_49_method_85_code 12 = .ok (.iload_n 0, 1) := by decide +kernel
theorem d2_13 : decode prog_49_method_85_code 13 = .ok (.bipush 12, 2) := by decide +kernel
theorem d2_15 : decode prog_49_method_85_code 15 = .ok (.if_icmp .eq 15, 3) := by decide +kernel
theorem d2_18 : decode prog_49_method_85_code 18 = .ok (.iload_n 0, 1) := by decide +kernel
theorem d2_19 : decode prog_49_method_85_code 19 = .ok (.bipush 13, 2) := by decide +kernel
theorem d2_21 : decode prog_49_method_85_code 21 = .ok (.if_icmp .eq 9, 3) := by decide +kernel
theorem d2_24 : decode prog_49_method_85_code 24 = .ok (.iload_n 0, 1) := by decide +kernel
theorem d2_25 : decode prog_49_method_85_code 25 = .ok (.bipush 32, 2) := by decide +kernel
theorem d2_27 : decode prog_49_method_85_code 27 = .ok (.if_icmp .ne 7, 3) := by decide +kernel
theorem d2_30 : decode prog_49_method_85_code 30 = .ok (.iconst 1, 1) := by decide +kernel
theorem d2_31 : decode prog_49_method_85_code 31 = .ok (.goto 4, 3) := by decide +kernel
theorem d2_34 : decode prog_49_method_85_code 34 = .ok (.iconst 0, 1) := by decide +kernel
theorem d2_35 : decode prog_49_method_85_code 35 = .ok (.ireturn, 1) := by decide +kernel
theorem pn_1 : plainName "com/example/albero/albero/Tokenizer" = true := by first | (simp [plainName, overriddenIn]; done) | decide +kernel
theorem ef_2 (m : MethodId) (x0 : Int32) : entryFrame m #[(.int x0)] 1 = mkF m 0 #[.val (.int x0)] [] := by first | (simp [entryFrame, mkF, argsToLocals, Value.category]; done) | rfl
def Q2 (Z : State) (x0 : Int32)  (h0 : Heap) (n0 : Nat) (v : Option Value) (h : Heap) (L : List Loc) : Prop := v = some (.int (wsV x0)) ∧ Fr n0 L ∧ h = h0
set_option maxRecDepth 65536 in
set_option maxHeartbeats 40000000 in
theorem rm2 (l : Launch) (Z : State) (a0 : Array Value) (hw : ∀ d ∈ tables_1, d.before a0 Z = true) (ws : List Jvm.Cond) (x0 : Int32)  (h0 : Heap) (n0 : Nat) (Z0 : n0 ≤ h0.size)  :
    MetFree l (⟨"com/example/albero/albero/Tokenizer", "isAsciiWhitespace", "(C)Z"⟩ : MethodName) (head1 (Jvm.Cond.code (⟨"com/example/albero/albero/Tokenizer", "isAsciiWhitespace", "(C)Z"⟩ : MethodName) prog_49_method_85_code 1 (some .boolean) :: ws) ({ frames := 0, cells := 0, slots := 0, locals := 0 } : Room)) (fun a U => a = #[(.int x0)] ∧ Z.Warmed39 U.vm ∧ U.heap = h0) (fun _ _ _ _ _ => True) (fun _ U o U' => ∃ v L, o = .returned v ∧ Q2 Z x0 h0 n0 v U'.heap L ∧ FrameEnd U o U' L ({ frames := 0, cells := 0, slots := 0, locals := 0 } : Room).cells ({ frames := 0, cells := 0, slots := 0, locals := 0 } : Room).slots) := by
  refine MetFree.of_bodySF (plainFor_of_name pn_1) hisR ?_
  intro p e s m args below meth c s₁ Bd hml0 hP hK
  obtain ⟨rfl, hZ, hh⟩ := hP
  have hx := Bd.exec
  have hby := Bd.bytes
  have hml : c.maxLocals = 1 := hml0
  have hown : s.vm.findClass "com/example/albero/albero/Tokenizer" = some m.cls := findClass_of_methodNamed Bd.named
  have hnm := (name_of_methodNamed Bd.named Bd.method).1
  have hk : meth.locks = false := BodyLoose.notSynchronized Bd
  have X0 : Stand p l e ({ frames := 0, cells := 0, slots := 0, locals := 0 } : Room) s m #[(.int x0)] below meth c s₁ [] 0 0 := Stand.of_body Bd
  have e0 : s₁.heap = h0 := by rw [← hh, Bd.state]; rfl
  have N0 := Fr.nil n0
  show Go p e below s (Q2 Z x0 h0 n0) ({ frames := 0, cells := 0, slots := 0, locals := 0 } : Room).cells ({ frames := 0, cells := 0, slots := 0, locals := 0 } : Room).slots s₁ (entryFrame m #[(.int x0)] 1)
  refine Go.cast (ef_2 m x0) ?_
  refine Go.of (T' := s₁) (f' := (mkF m 1 #[.val (.int x0)] [(.int x0)])) (fun t k => XS.iloadN X0.here hx rfl (hb hby d2_0) rfl k) ?_
  refine Go.of (T' := s₁) (f' := (mkF m 3 #[.val (.int x0)] [(.int (9 : Int32)), (.int x0)])) (fun t k => XS.bipush X0.here hx rfl (hb hby d2_1) k) ?_
  by_cases hc3 : x0 = (9 : Int32)
  · -- pc 3: yes
    refine Go.of (T' := s₁) (f' := (mkF m 30 #[.val (.int x0)] [])) (fun t k => XS.icmpYes X0.here hx rfl (pc0 := 3) (pc' := 30) rfl (hb hby d2_3) rfl ((teq hc3).1) (by decide) (by decide) k) ?_
    refine Go.of (T' := s₁) (f' := (mkF m 31 #[.val (.int x0)] [(.int (1 : Int32))])) (fun t k => XS.iconst X0.here hx rfl (hb hby d2_30) k) ?_
    refine Go.of (T' := s₁) (f' := (mkF m 35 #[.val (.int x0)] [(.int (1 : Int32))])) (fun t k => XS.goto X0.here hx rfl (pc0 := 31) (pc' := 35) rfl (hb hby d2_31) (by decide) (by decide) k) ?_
    refine Go.retZ X0 hx hk (t := .boolean) Bd.returns (by simp) (hb hby d2_35) (by decide) (by decide) ?_
    rw [e0]
    exact ⟨by simp [wsV, nar, hc3], N0, rfl⟩
  · -- pc 3: no
    refine Go.of (T' := s₁) (f' := (mkF m 6 #[.val (.int x0)] [])) (fun t k => XS.icmpNo X0.here hx rfl (hb hby d2_3) rfl ((feq hc3).1) k) ?_
    refine Go.of (T' := s₁) (f' := (mkF m 7 #[.val (.int x0)] [(.int x0)])) (fun t k => XS.iloadN X0.here hx rfl (hb hby d2_6) rfl k) ?_
    refine Go.of (T' := s₁) (f' := (mkF m 9 #[.val (.int x0)] [(.int (10 : Int32)), (.int x0)])) (fun t k => XS.bipush X0.here hx rfl (hb hby d2_7) k) ?_
    by_cases hc9 : x0 = (10 : Int32)
    · -- pc 9: yes
      refine Go.of (T' := s₁) (f' := (mkF m 30 #[.val (.int x0)] [])) (fun t k => XS.icmpYes X0.here hx rfl (pc0 := 9) (pc' := 30) rfl (hb hby d2_9) rfl ((teq hc9).1) (by decide) (by decide) k) ?_
      refine Go.of (T' := s₁) (f' := (mkF m 31 #[.val (.int x0)] [(.int (1 : Int32))])) (fun t k => XS.iconst X0.here hx rfl (hb hby d2_30) k) ?_
      refine Go.of (T' := s₁) (f' := (mkF m 35 #[.val (.int x0)] [(.int (1 : Int32))])) (fun t k => XS.goto X0.here hx rfl (pc0 := 31) (pc' := 35) rfl (hb hby d2_31) (by decide) (by decide) k) ?_
      refine Go.retZ X0 hx hk (t := .boolean) Bd.returns (by simp) (hb hby d2_35) (by decide) (by decide) ?_
      rw [e0]
      exact ⟨by simp [wsV, nar, hc3, hc9], N0, rfl⟩
    · -- pc 9: no
      refine Go.of (T' := s₁) (f' := (mkF m 12 #[.val (.int x0)] [])) (fun t k => XS.icmpNo X0.here hx rfl (hb hby d2_9) rfl ((feq hc9).1) k) ?_
      refine Go.of (T' := s₁) (f' := (mkF m 13 #[.val (.int x0)] [(.int x0)])) (fun t k => XS.iloadN X0.here hx rfl (hb hby d2_12) rfl k) ?_
      refine Go.of (T' := s₁) (f' := (mkF m 15 #[.val (.int x0)] [(.int (12 : Int32)), (.int x0)])) (fun t k => XS.bipush X0.here hx rfl (hb hby d2_13) k) ?_
      by_cases hc15 : x0 = (12 : Int32)
      · -- pc 15: yes
        refine Go.of (T' := s₁) (f' := (mkF m 30 #[.val (.int x0)] [])) (fun t k => XS.icmpYes X0.here hx rfl (pc0 := 15) (pc' := 30) rfl (hb hby d2_15) rfl ((teq hc15).1) (by decide) (by decide) k) ?_
        refine Go.of (T' := s₁) (f' := (mkF m 31 #[.val (.int x0)] [(.int (1 : Int32))])) (fun t k => XS.iconst X0.here hx rfl (hb hby d2_30) k) ?_
        refine Go.of (T' := s₁) (f' := (mkF m 35 #[.val (.int x0)] [(.int (1 : Int32))])) (fun t k => XS.goto X0.here hx rfl (pc0 := 31) (pc' := 35) rfl (hb hby d2_31) (by decide) (by decide) k) ?_
        refine Go.retZ X0 hx hk (t := .boolean) Bd.returns (by simp) (hb hby d2_35) (by decide) (by decide) ?_
        rw [e0]
        exact ⟨by simp [wsV, nar, hc3, hc9, hc15], N0, rfl⟩
      · -- pc 15: no
        refine Go.of (T' := s₁) (f' := (mkF m 18 #[.val (.int x0)] [])) (fun t k => XS.icmpNo X0.here hx rfl (hb hby d2_15) rfl ((feq hc15).1) k) ?_
        refine Go.of (T' := s₁) (f' := (mkF m 19 #[.val (.int x0)] [(.int x0)])) (fun t k => XS.iloadN X0.here hx rfl (hb hby d2_18) rfl k) ?_
        refine Go.of (T' := s₁) (f' := (mkF m 21 #[.val (.int x0)] [(.int (13 : Int32)), (.int x0)])) (fun t k => XS.bipush X0.here hx rfl (hb hby d2_19) k) ?_
        by_cases hc21 : x0 = (13 : Int32)
        · -- pc 21: yes
          refine Go.of (T' := s₁) (f' := (mkF m 30 #[.val (.int x0)] [])) (fun t k => XS.icmpYes X0.here hx rfl (pc0 := 21) (pc' := 30) rfl (hb hby d2_21) rfl ((teq hc21).1) (by decide) (by decide) k) ?_
          refine Go.of (T' := s₁) (f' := (mkF m 31 #[.val (.int x0)] [(.int (1 : Int32))])) (fun t k => XS.iconst X0.here hx rfl (hb hby d2_30) k) ?_
          refine Go.of (T' := s₁) (f' := (mkF m 35 #[.val (.int x0)] [(.int (1 : Int32))])) (fun t k => XS.goto X0.here hx rfl (pc0 := 31) (pc' := 35) rfl (hb hby d2_31) (by decide) (by decide) k) ?_
          refine Go.retZ X0 hx hk (t := .boolean) Bd.returns (by simp) (hb hby d2_35) (by decide) (by decide) ?_
          rw [e0]
          exact ⟨by simp [wsV, nar, hc3, hc9, hc15, hc21], N0, rfl⟩
        · -- pc 21: no
          refine Go.of (T' := s₁) (f' := (mkF m 24 #[.val (.int x0)] [])) (fun t k => XS.icmpNo X0.here hx rfl (hb hby d2_21) rfl ((feq hc21).1) k) ?_
          refine Go.of (T' := s₁) (f' := (mkF m 25 #[.val (.int x0)] [(.int x0)])) (fun t k => XS.iloadN X0.here hx rfl (hb hby d2_24) rfl k) ?_
          refine Go.of (T' := s₁) (f' := (mkF m 27 #[.val (.int x0)] [(.int (32 : Int32)), (.int x0)])) (fun t k => XS.bipush X0.here hx rfl (hb hby d2_25) k) ?_
          by_cases hc27 : x0 = (32 : Int32)
          · -- pc 27: no
            refine Go.of (T' := s₁) (f' := (mkF m 30 #[.val (.int x0)] [])) (fun t k => XS.icmpNo X0.here hx rfl (hb hby d2_27) rfl ((teq hc27).2) k) ?_
            refine Go.of (T' := s₁) (f' := (mkF m 31 #[.val (.int x0)] [(.int (1 : Int32))])) (fun t k => XS.iconst X0.here hx rfl (hb hby d2_30) k) ?_
            refine Go.of (T' := s₁) (f' := (mkF m 35 #[.val (.int x0)] [(.int (1 : Int32))])) (fun t k => XS.goto X0.here hx rfl (pc0 := 31) (pc' := 35) rfl (hb hby d2_31) (by decide) (by decide) k) ?_
            refine Go.retZ X0 hx hk (t := .boolean) Bd.returns (by simp) (hb hby d2_35) (by decide) (by decide) ?_
            rw [e0]
            exact ⟨by simp [wsV, nar, hc3, hc9, hc15, hc21, hc27], N0, rfl⟩
          · -- pc 27: yes
            refine Go.of (T' := s₁) (f' := (mkF m 34 #[.val (.int x0)] [])) (fun t k => XS.icmpYes X0.here hx rfl (pc0 := 27) (pc' := 34) rfl (hb hby d2_27) rfl ((feq hc27).2) (by decide) (by decide) k) ?_
            refine Go.of (T' := s₁) (f' := (mkF m 35 #[.val (.int x0)] [(.int (0 : Int32))])) (fun t k => XS.iconst X0.here hx rfl (hb hby d2_34) k) ?_
            refine Go.retZ X0 hx hk (t := .boolean) Bd.returns (by simp) (hb hby d2_35) (by decide) (by decide) ?_
            rw [e0]
            exact ⟨by simp [wsV, nar, hc3, hc9, hc15, hc21, hc27], N0, rfl⟩
theorem own_at (i : Nat) (hi : i < 16) : ∃ z : Int32, ([.int (nar .char (9 : Int32)), .int (nar .char (10 : Int32)), .int (nar .char (11 : Int32)), .int (nar .char (12 : Int32)), .int (nar .char (13 : Int32)), .int (nar .char (32 : Int32)), .int (nar .char (0 : Int32)), .int (nar .char (8 : Int32)), .int (nar .char (14 : Int32)), .int (nar .char (31 : Int32)), .int (nar .char (33 : Int32)), .int (nar .char (133 : Int32)), .int (nar .char (160 : Int32)), .int (nar .char (265 : Int32)), .int (nar .char (288 : Int32)), .int (nar .char (12288 : Int32))] : List Value)[i]? = some (.int z) ∧ ¬ z < 0 := by
  rcases (show i = 0 ∨ i = 1 ∨ i = 2 ∨ i = 3 ∨ i = 4 ∨ i = 5 ∨ i = 6 ∨ i = 7 ∨ i = 8 ∨ i = 9 ∨ i = 10 ∨ i = 11 ∨ i = 12 ∨ i = 13 ∨ i = 14 ∨ i = 15 by omega) with rfl | rfl | rfl | rfl | rfl | rfl | rfl | rfl | rfl | rfl | rfl | rfl | rfl | rfl | rfl | rfl <;> exact ⟨_, rfl, by decide⟩
theorem pd_0 : parseMethodDescriptor "(C)Z" = some ⟨[.char], some .boolean⟩ := by decide +kernel
theorem ef_0 (m : MethodId) (x0 : Int32) (x1 : Int32) : entryFrame m #[(.int x0), (.int x1)] maxLocals = mkF m 0 #[.val (.int x0), .val (.int x1), .unset, .unset, .unset, .unset] [] := by first | (simp [entryFrame, mkF, argsToLocals, Value.category, maxLocals]; done) | rfl
def Q0 (Z : State) (x0 : Int32) (x1 : Int32)  (h0 : Heap) (n0 : Nat) (v : Option Value) (h : Heap) (L : List Loc) : Prop := v = some (.int (1 : Int32)) ∧ Fr n0 L
set_option maxRecDepth 65536 in
set_option maxHeartbeats 40000000 in
theorem rm0 (l : Launch) (Z : State) (a0 : Array Value) (hw : ∀ d ∈ tables_1, d.before a0 Z = true) (ws : List Jvm.Cond) (x0 : Int32) (x1 : Int32)  (h0 : Heap) (n0 : Nat) (Z0 : n0 ≤ h0.size)  :
    MetFree l x (head1 (Jvm.Cond.code x code maxLocals ret :: ws) room_1) (fun a U => a = #[(.int x0), (.int x1)] ∧ Z.Warmed39 U.vm ∧ U.heap = h0) (fun _ _ _ _ _ => True) (fun _ U o U' => ∃ v L, o = .returned v ∧ Q0 Z x0 x1 h0 n0 v U'.heap L ∧ FrameEnd U o U' L 16 128) := by
  refine MetFree.of_bodySF (plainFor_of_name pn_0) hisR ?_
  intro p e s m args below meth c s₁ Bd hml0 hP hK
  obtain ⟨rfl, hZ, hh⟩ := hP
  have hx := Bd.exec
  have hby := Bd.bytes
  have hml : c.maxLocals = 6 := hml0
  have hown : s.vm.findClass "com/example/albero/albero/TokenizerIsAsciiWhitespacePinLaw" = some m.cls := findClass_of_methodNamed Bd.named
  have hnm := (name_of_methodNamed Bd.named Bd.method).1
  have hk : meth.locks = false := BodyLoose.notSynchronized Bd
  have X0 : Stand p l e room_1 s m #[(.int x0), (.int x1)] below meth c s₁ [] 0 0 := Stand.of_body Bd
  have e0 : s₁.heap = h0 := by rw [← hh, Bd.state]; rfl
  have N0 := Fr.nil n0
  show Go p e below s (Q0 Z x0 x1 h0 n0) 16 128 s₁ (entryFrame m #[(.int x0), (.int x1)] maxLocals)
  refine Go.cast (ef_0 m x0 x1) ?_
  refine Go.of (T' := s₁) (f' := (mkF m 2 #[.val (.int x0), .val (.int x1), .unset, .unset, .unset, .unset] [(.int (16 : Int32))])) (fun t k => XS.bipush X0.here hx rfl (hb hby at_0) k) ?_
  obtain ⟨T1, h1, k1, X1, e1, E1, A1, st1⟩ := newP X0 hx hZ (hw _ (List.mem_of_getElem? (i := 0) rfl)) e0 (g := (mkF m 2 #[.val (.int x0), .val (.int x1), .unset, .unset, .unset, .unset] [(.int (16 : Int32))])) rfl (hb hby at_2) rfl (by decide) (cap := 16) (by decide) (by decide) (by decide) (by decide)
  obtain ⟨b1, gb1⟩ : ∃ z, z = h0.size := ⟨_, rfl⟩
  rw [← gb1] at A1 st1
  have g_b1 : n0 ≤ b1 := Nat.le_trans Z0 (Nat.le_of_eq gb1.symm)
  have sz_b1 : h0.size ≤ b1 := Nat.le_trans (Keep.refl h0 []).1 (Nat.le_of_eq gb1.symm)
  have ZS1 : n0 ≤ h1.size := Nat.le_trans Z0 E1.1
  have KK1 : Keep h0 h1 [] := (Keep.refl h0 []).ext E1
  have V1 : VArr Z h1 b1 .char [.int (0 : Int32), .int (0 : Int32), .int (0 : Int32), .int (0 : Int32), .int (0 : Int32), .int (0 : Int32), .int (0 : Int32), .int (0 : Int32), .int (0 : Int32), .int (0 : Int32), .int (0 : Int32), .int (0 : Int32), .int (0 : Int32), .int (0 : Int32), .int (0 : Int32), .int (0 : Int32)] := VArr.newL (i := 16) A1 (by decide)
  refine Go.of (T' := T1) (f' := (mkF m 4 #[.val (.int x0), .val (.int x1), .unset, .unset, .unset, .unset] [(.ref b1)])) (fun t k => st1 t k) ?_
  refine Go.of (T' := T1) (f' := (mkF m 5 #[.val (.int x0), .val (.int x1), .unset, .unset, .unset, .unset] [(.ref b1), (.ref b1)])) (fun t k => XS.dup X1.here hx rfl (hb hby at_4) rfl rfl k) ?_
  refine Go.of (T' := T1) (f' := (mkF m 6 #[.val (.int x0), .val (.int x1), .unset, .unset, .unset, .unset] [(.int (0 : Int32)), (.ref b1), (.ref b1)])) (fun t k => XS.iconst X1.here hx rfl (hb hby at_5) k) ?_
  refine Go.of (T' := T1) (f' := (mkF m 8 #[.val (.int x0), .val (.int x1), .unset, .unset, .unset, .unset] [(.int (9 : Int32)), (.int (0 : Int32)), (.ref b1), (.ref b1)])) (fun t k => XS.bipush X1.here hx rfl (hb hby at_6) k) ?_
  obtain ⟨T2, h2, X2, e2, W2, V2, st2⟩ := saC X1 hx hZ e1 V1 (j := (0 : Int32)) (x := (9 : Int32)) (by decide) (i := 0) (by decide) (Nat.le_of_ble_eq_true rfl) (g := (mkF m 8 #[.val (.int x0), .val (.int x1), .unset, .unset, .unset, .unset] [(.int (9 : Int32)), (.int (0 : Int32)), (.ref b1), (.ref b1)])) rfl rfl (hb hby at_8)
  replace V2 : VArr Z h2 b1 .char [.int (nar .char (9 : Int32)), .int (0 : Int32), .int (0 : Int32), .int (0 : Int32), .int (0 : Int32), .int (0 : Int32), .int (0 : Int32), .int (0 : Int32), .int (0 : Int32), .int (0 : Int32), .int (0 : Int32), .int (0 : Int32), .int (0 : Int32), .int (0 : Int32), .int (0 : Int32), .int (0 : Int32)] := V2
  have N2 := Fr.snoc X2 N0 g_b1
  have KK2 : Keep h0 h2 [] := KK1.wr W2 (Or.inr sz_b1)
  have ZS2 : n0 ≤ h2.size := Nat.le_trans ZS1 (Keep.of_wr W2).1
  refine Go.of (T' := T2) (f' := (mkF m 9 #[.val (.int x0), .val (.int x1), .unset, .unset, .unset, .unset] [(.ref b1)])) (fun t k => st2 t k) ?_
  refine Go.of (T' := T2) (f' := (mkF m 10 #[.val (.int x0), .val (.int x1), .unset, .unset, .unset, .unset] [(.ref b1), (.ref b1)])) (fun t k => XS.dup X2.here hx rfl (hb hby at_9) rfl rfl k) ?_
  refine Go.of (T' := T2) (f' := (mkF m 11 #[.val (.int x0), .val (.int x1), .unset, .unset, .unset, .unset] [(.int (1 : Int32)), (.ref b1), (.ref b1)])) (fun t k => XS.iconst X2.here hx rfl (hb hby at_10) k) ?_
  refine Go.of (T' := T2) (f' := (mkF m 13 #[.val (.int x0), .val (.int x1), .unset, .unset, .unset, .unset] [(.int (10 : Int32)), (.int (1 : Int32)), (.ref b1), (.ref b1)])) (fun t k => XS.bipush X2.here hx rfl (hb hby at_11) k) ?_
  obtain ⟨T3, h3, X3, e3, W3, V3, st3⟩ := saC X2 hx hZ e2 V2 (j := (1 : Int32)) (x := (10 : Int32)) (by decide) (i := 1) (by decide) (Nat.le_of_ble_eq_true rfl) (g := (mkF m 13 #[.val (.int x0), .val (.int x1), .unset, .unset, .unset, .unset] [(.int (10 : Int32)), (.int (1 : Int32)), (.ref b1), (.ref b1)])) rfl rfl (hb hby at_13)
  replace V3 : VArr Z h3 b1 .char [.int (nar .char (9 : Int32)), .int (nar .char (10 : Int32)), .int (0 : Int32), .int (0 : Int32), .int (0 : Int32), .int (0 : Int32), .int (0 : Int32), .int (0 : Int32), .int (0 : Int32), .int (0 : Int32), .int (0 : Int32), .int (0 : Int32), .int (0 : Int32), .int (0 : Int32), .int (0 : Int32), .int (0 : Int32)] := V3
  have N3 := Fr.snoc X3 N2 g_b1
  have KK3 : Keep h0 h3 [] := KK2.wr W3 (Or.inr sz_b1)
  have ZS3 : n0 ≤ h3.size := Nat.le_trans ZS2 (Keep.of_wr W3).1
  refine Go.of (T' := T3) (f' := (mkF m 14 #[.val (.int x0), .val (.int x1), .unset, .unset, .unset, .unset] [(.ref b1)])) (fun t k => st3 t k) ?_
  refine Go.of (T' := T3) (f' := (mkF m 15 #[.val (.int x0), .val (.int x1), .unset, .unset, .unset, .unset] [(.ref b1), (.ref b1)])) (fun t k => XS.dup X3.here hx rfl (hb hby at_14) rfl rfl k) ?_
  refine Go.of (T' := T3) (f' := (mkF m 16 #[.val (.int x0), .val (.int x1), .unset, .unset, .unset, .unset] [(.int (2 : Int32)), (.ref b1), (.ref b1)])) (fun t k => XS.iconst X3.here hx rfl (hb hby at_15) k) ?_
  refine Go.of (T' := T3) (f' := (mkF m 18 #[.val (.int x0), .val (.int x1), .unset, .unset, .unset, .unset] [(.int (11 : Int32)), (.int (2 : Int32)), (.ref b1), (.ref b1)])) (fun t k => XS.bipush X3.here hx rfl (hb hby at_16) k) ?_
  obtain ⟨T4, h4, X4, e4, W4, V4, st4⟩ := saC X3 hx hZ e3 V3 (j := (2 : Int32)) (x := (11 : Int32)) (by decide) (i := 2) (by decide) (Nat.le_of_ble_eq_true rfl) (g := (mkF m 18 #[.val (.int x0), .val (.int x1), .unset, .unset, .unset, .unset] [(.int (11 : Int32)), (.int (2 : Int32)), (.ref b1), (.ref b1)])) rfl rfl (hb hby at_18)
  replace V4 : VArr Z h4 b1 .char [.int (nar .char (9 : Int32)), .int (nar .char (10 : Int32)), .int (nar .char (11 : Int32)), .int (0 : Int32), .int (0 : Int32), .int (0 : Int32), .int (0 : Int32), .int (0 : Int32), .int (0 : Int32), .int (0 : Int32), .int (0 : Int32), .int (0 : Int32), .int (0 : Int32), .int (0 : Int32), .int (0 : Int32), .int (0 : Int32)] := V4
  have N4 := Fr.snoc X4 N3 g_b1
  have KK4 : Keep h0 h4 [] := KK3.wr W4 (Or.inr sz_b1)
  have ZS4 : n0 ≤ h4.size := Nat.le_trans ZS3 (Keep.of_wr W4).1
  refine Go.of (T' := T4) (f' := (mkF m 19 #[.val (.int x0), .val (.int x1), .unset, .unset, .unset, .unset] [(.ref b1)])) (fun t k => st4 t k) ?_
  refine Go.of (T' := T4) (f' := (mkF m 20 #[.val (.int x0), .val (.int x1), .unset, .unset, .unset, .unset] [(.ref b1), (.ref b1)])) (fun t k => XS.dup X4.here hx rfl (hb hby at_19) rfl rfl k) ?_
  refine Go.of (T' := T4) (f' := (mkF m 21 #[.val (.int x0), .val (.int x1), .unset, .unset, .unset, .unset] [(.int (3 : Int32)), (.ref b1), (.ref b1)])) (fun t k => XS.iconst X4.here hx rfl (hb hby at_20) k) ?_
  refine Go.of (T' := T4) (f' := (mkF m 23 #[.val (.int x0), .val (.int x1), .unset, .unset, .unset, .unset] [(.int (12 : Int32)), (.int (3 : Int32)), (.ref b1), (.ref b1)])) (fun t k => XS.bipush X4.here hx rfl (hb hby at_21) k) ?_
  obtain ⟨T5, h5, X5, e5, W5, V5, st5⟩ := saC X4 hx hZ e4 V4 (j := (3 : Int32)) (x := (12 : Int32)) (by decide) (i := 3) (by decide) (Nat.le_of_ble_eq_true rfl) (g := (mkF m 23 #[.val (.int x0), .val (.int x1), .unset, .unset, .unset, .unset] [(.int (12 : Int32)), (.int (3 : Int32)), (.ref b1), (.ref b1)])) rfl rfl (hb hby at_23)
  replace V5 : VArr Z h5 b1 .char [.int (nar .char (9 : Int32)), .int (nar .char (10 : Int32)), .int (nar .char (11 : Int32)), .int (nar .char (12 : Int32)), .int (0 : Int32), .int (0 : Int32), .int (0 : Int32), .int (0 : Int32), .int (0 : Int32), .int (0 : Int32), .int (0 : Int32), .int (0 : Int32), .int (0 : Int32), .int (0 : Int32), .int (0 : Int32), .int (0 : Int32)] := V5
  have N5 := Fr.snoc X5 N4 g_b1
  have KK5 : Keep h0 h5 [] := KK4.wr W5 (Or.inr sz_b1)
  have ZS5 : n0 ≤ h5.size := Nat.le_trans ZS4 (Keep.of_wr W5).1
  refine Go.of (T' := T5) (f' := (mkF m 24 #[.val (.int x0), .val (.int x1), .unset, .unset, .unset, .unset] [(.ref b1)])) (fun t k => st5 t k) ?_
  refine Go.of (T' := T5) (f' := (mkF m 25 #[.val (.int x0), .val (.int x1), .unset, .unset, .unset, .unset] [(.ref b1), (.ref b1)])) (fun t k => XS.dup X5.here hx rfl (hb hby at_24) rfl rfl k) ?_
  refine Go.of (T' := T5) (f' := (mkF m 26 #[.val (.int x0), .val (.int x1), .unset, .unset, .unset, .unset] [(.int (4 : Int32)), (.ref b1), (.ref b1)])) (fun t k => XS.iconst X5.here hx rfl (hb hby at_25) k) ?_
  refine Go.of (T' := T5) (f' := (mkF m 28 #[.val (.int x0), .val (.int x1), .unset, .unset, .unset, .unset] [(.int (13 : Int32)), (.int (4 : Int32)), (.ref b1), (.ref b1)])) (fun t k => XS.bipush X5.here hx rfl (hb hby at_26) k) ?_
  obtain ⟨T6, h6, X6, e6, W6, V6, st6⟩ := saC X5 hx hZ e5 V5 (j := (4 : Int32)) (x := (13 : Int32)) (by decide) (i := 4) (by decide) (Nat.le_of_ble_eq_true rfl) (g := (mkF m 28 #[.val (.int x0), .val (.int x1), .unset, .unset, .unset, .unset] [(.int (13 : Int32)), (.int (4 : Int32)), (.ref b1), (.ref b1)])) rfl rfl (hb hby at_28)
  replace V6 : VArr Z h6 b1 .char [.int (nar .char (9 : Int32)), .int (nar .char (10 : Int32)), .int (nar .char (11 : Int32)), .int (nar .char (12 : Int32)), .int (nar .char (13 : Int32)), .int (0 : Int32), .int (0 : Int32), .int (0 : Int32), .int (0 : Int32), .int (0 : Int32), .int (0 : Int32), .int (0 : Int32), .int (0 : Int32), .int (0 : Int32), .int (0 : Int32), .int (0 : Int32)] := V6
  have N6 := Fr.snoc X6 N5 g_b1
  have KK6 : Keep h0 h6 [] := KK5.wr W6 (Or.inr sz_b1)
  have ZS6 : n0 ≤ h6.size := Nat.le_trans ZS5 (Keep.of_wr W6).1
  refine Go.of (T' := T6) (f' := (mkF m 29 #[.val (.int x0), .val (.int x1), .unset, .unset, .unset, .unset] [(.ref b1)])) (fun t k => st6 t k) ?_
  refine Go.of (T' := T6) (f' := (mkF m 30 #[.val (.int x0), .val (.int x1), .unset, .unset, .unset, .unset] [(.ref b1), (.ref b1)])) (fun t k => XS.dup X6.here hx rfl (hb hby at_29) rfl rfl k) ?_
  refine Go.of (T' := T6) (f' := (mkF m 31 #[.val (.int x0), .val (.int x1), .unset, .unset, .unset, .unset] [(.int (5 : Int32)), (.ref b1), (.ref b1)])) (fun t k => XS.iconst X6.here hx rfl (hb hby at_30) k) ?_
  refine Go.of (T' := T6) (f' := (mkF m 33 #[.val (.int x0), .val (.int x1), .unset, .unset, .unset, .unset] [(.int (32 : Int32)), (.int (5 : Int32)), (.ref b1), (.ref b1)])) (fun t k => XS.bipush X6.here hx rfl (hb hby at_31) k) ?_
  obtain ⟨T7, h7, X7, e7, W7, V7, st7⟩ := saC X6 hx hZ e6 V6 (j := (5 : Int32)) (x := (32 : Int32)) (by decide) (i := 5) (by decide) (Nat.le_of_ble_eq_true rfl) (g := (mkF m 33 #[.val (.int x0), .val (.int x1), .unset, .unset, .unset, .unset] [(.int (32 : Int32)), (.int (5 : Int32)), (.ref b1), (.ref b1)])) rfl rfl (hb hby at_33)
  replace V7 : VArr Z h7 b1 .char [.int (nar .char (9 : Int32)), .int (nar .char (10 : Int32)), .int (nar .char (11 : Int32)), .int (nar .char (12 : Int32)), .int (nar .char (13 : Int32)), .int (nar .char (32 : Int32)), .int (0 : Int32), .int (0 : Int32), .int (0 : Int32), .int (0 : Int32), .int (0 : Int32), .int (0 : Int32), .int (0 : Int32), .int (0 : Int32), .int (0 : Int32), .int (0 : Int32)] := V7
  have N7 := Fr.snoc X7 N6 g_b1
  have KK7 : Keep h0 h7 [] := KK6.wr W7 (Or.inr sz_b1)
  have ZS7 : n0 ≤ h7.size := Nat.le_trans ZS6 (Keep.of_wr W7).1
  refine Go.of (T' := T7) (f' := (mkF m 34 #[.val (.int x0), .val (.int x1), .unset, .unset, .unset, .unset] [(.ref b1)])) (fun t k => st7 t k) ?_
  refine Go.of (T' := T7) (f' := (mkF m 35 #[.val (.int x0), .val (.int x1), .unset, .unset, .unset, .unset] [(.ref b1), (.ref b1)])) (fun t k => XS.dup X7.here hx rfl (hb hby at_34) rfl rfl k) ?_
  refine Go.of (T' := T7) (f' := (mkF m 37 #[.val (.int x0), .val (.int x1), .unset, .unset, .unset, .unset] [(.int (6 : Int32)), (.ref b1), (.ref b1)])) (fun t k => XS.bipush X7.here hx rfl (hb hby at_35) k) ?_
  refine Go.of (T' := T7) (f' := (mkF m 38 #[.val (.int x0), .val (.int x1), .unset, .unset, .unset, .unset] [(.int (0 : Int32)), (.int (6 : Int32)), (.ref b1), (.ref b1)])) (fun t k => XS.iconst X7.here hx rfl (hb hby at_37) k) ?_
  obtain ⟨T8, h8, X8, e8, W8, V8, st8⟩ := saC X7 hx hZ e7 V7 (j := (6 : Int32)) (x := (0 : Int32)) (by decide) (i := 6) (by decide) (Nat.le_of_ble_eq_true rfl) (g := (mkF m 38 #[.val (.int x0), .val (.int x1), .unset, .unset, .unset, .unset] [(.int (0 : Int32)), (.int (6 : Int32)), (.ref b1), (.ref b1)])) rfl rfl (hb hby at_38)
  replace V8 : VArr Z h8 b1 .char [.int (nar .char (9 : Int32)), .int (nar .char (10 : Int32)), .int (nar .char (11 : Int32)), .int (nar .char (12 : Int32)), .int (nar .char (13 : Int32)), .int (nar .char (32 : Int32)), .int (nar .char (0 : Int32)), .int (0 : Int32), .int (0 : Int32), .int (0 : Int32), .int (0 : Int32), .int (0 : Int32), .int (0 : Int32), .int (0 : Int32), .int (0 : Int32), .int (0 : Int32)] := V8
  have N8 := Fr.snoc X8 N7 g_b1
  have KK8 : Keep h0 h8 [] := KK7.wr W8 (Or.inr sz_b1)
  have ZS8 : n0 ≤ h8.size := Nat.le_trans ZS7 (Keep.of_wr W8).1
  refine Go.of (T' := T8) (f' := (mkF m 39 #[.val (.int x0), .val (.int x1), .unset, .unset, .unset, .unset] [(.ref b1)])) (fun t k => st8 t k) ?_
  refine Go.of (T' := T8) (f' := (mkF m 40 #[.val (.int x0), .val (.int x1), .unset, .unset, .unset, .unset] [(.ref b1), (.ref b1)])) (fun t k => XS.dup X8.here hx rfl (hb hby at_39) rfl rfl k) ?_
  refine Go.of (T' := T8) (f' := (mkF m 42 #[.val (.int x0), .val (.int x1), .unset, .unset, .unset, .unset] [(.int (7 : Int32)), (.ref b1), (.ref b1)])) (fun t k => XS.bipush X8.here hx rfl (hb hby at_40) k) ?_
  refine Go.of (T' := T8) (f' := (mkF m 44 #[.val (.int x0), .val (.int x1), .unset, .unset, .unset, .unset] [(.int (8 : Int32)), (.int (7 : Int32)), (.ref b1), (.ref b1)])) (fun t k => XS.bipush X8.here hx rfl (hb hby at_42) k) ?_
  obtain ⟨T9, h9, X9, e9, W9, V9, st9⟩ := saC X8 hx hZ e8 V8 (j := (7 : Int32)) (x := (8 : Int32)) (by decide) (i := 7) (by decide) (Nat.le_of_ble_eq_true rfl) (g := (mkF m 44 #[.val (.int x0), .val (.int x1), .unset, .unset, .unset, .unset] [(.int (8 : Int32)), (.int (7 : Int32)), (.ref b1), (.ref b1)])) rfl rfl (hb hby at_44)
  replace V9 : VArr Z h9 b1 .char [.int (nar .char (9 : Int32)), .int (nar .char (10 : Int32)), .int (nar .char (11 : Int32)), .int (nar .char (12 : Int32)), .int (nar .char (13 : Int32)), .int (nar .char (32 : Int32)), .int (nar .char (0 : Int32)), .int (nar .char (8 : Int32)), .int (0 : Int32), .int (0 : Int32), .int (0 : Int32), .int (0 : Int32), .int (0 : Int32), .int (0 : Int32), .int (0 : Int32), .int (0 : Int32)] := V9
  have N9 := Fr.snoc X9 N8 g_b1
  have KK9 : Keep h0 h9 [] := KK8.wr W9 (Or.inr sz_b1)
  have ZS9 : n0 ≤ h9.size := Nat.le_trans ZS8 (Keep.of_wr W9).1
  refine Go.of (T' := T9) (f' := (mkF m 45 #[.val (.int x0), .val (.int x1), .unset, .unset, .unset, .unset] [(.ref b1)])) (fun t k => st9 t k) ?_
  refine Go.of (T' := T9) (f' := (mkF m 46 #[.val (.int x0), .val (.int x1), .unset, .unset, .unset, .unset] [(.ref b1), (.ref b1)])) (fun t k => XS.dup X9.here hx rfl (hb hby at_45) rfl rfl k) ?_
  refine Go.of (T' := T9) (f' := (mkF m 48 #[.val (.int x0), .val (.int x1), .unset, .unset, .unset, .unset] [(.int (8 : Int32)), (.ref b1), (.ref b1)])) (fun t k => XS.bipush X9.here hx rfl (hb hby at_46) k) ?_
  refine Go.of (T' := T9) (f' := (mkF m 50 #[.val (.int x0), .val (.int x1), .unset, .unset, .unset, .unset] [(.int (14 : Int32)), (.int (8 : Int32)), (.ref b1), (.ref b1)])) (fun t k => XS.bipush X9.here hx rfl (hb hby at_48) k) ?_
  obtain ⟨T10, h10, X10, e10, W10, V10, st10⟩ := saC X9 hx hZ e9 V9 (j := (8 : Int32)) (x := (14 : Int32)) (by decide) (i := 8) (by decide) (Nat.le_of_ble_eq_true rfl) (g := (mkF m 50 #[.val (.int x0), .val (.int x1), .unset, .unset, .unset, .unset] [(.int (14 : Int32)), (.int (8 : Int32)), (.ref b1), (.ref b1)])) rfl rfl (hb hby at_50)
  replace V10 : VArr Z h10 b1 .char [.int (nar .char (9 : Int32)), .int (nar .char (10 : Int32)), .int (nar .char (11 : Int32)), .int (nar .char (12 : Int32)), .int (nar .char (13 : Int32)), .int (nar .char (32 : Int32)), .int (nar .char (0 : Int32)), .int (nar .char (8 : Int32)), .int (nar .char (14 : Int32)), .int (0 : Int32), .int (0 : Int32), .int (0 : Int32), .int (0 : Int32), .int (0 : Int32), .int (0 : Int32), .int (0 : Int32)] := V10
  have N10 := Fr.snoc X10 N9 g_b1
  have KK10 : Keep h0 h10 [] := KK9.wr W10 (Or.inr sz_b1)
  have ZS10 : n0 ≤ h10.size := Nat.le_trans ZS9 (Keep.of_wr W10).1
  refine Go.of (T' := T10) (f' := (mkF m 51 #[.val (.int x0), .val (.int x1), .unset, .unset, .unset, .unset] [(.ref b1)])) (fun t k => st10 t k) ?_
  refine Go.of (T' := T10) (f' := (mkF m 52 #[.val (.int x0), .val (.int x1), .unset, .unset, .unset, .unset] [(.ref b1), (.ref b1)])) (fun t k => XS.dup X10.here hx rfl (hb hby at_51) rfl rfl k) ?_
  refine Go.of (T' := T10) (f' := (mkF m 54 #[.val (.int x0), .val (.int x1), .unset, .unset, .unset, .unset] [(.int (9 : Int32)), (.ref b1), (.ref b1)])) (fun t k => XS.bipush X10.here hx rfl (hb hby at_52) k) ?_
  refine Go.of (T' := T10) (f' := (mkF m 56 #[.val (.int x0), .val (.int x1), .unset, .unset, .unset, .unset] [(.int (31 : Int32)), (.int (9 : Int32)), (.ref b1), (.ref b1)])) (fun t k => XS.bipush X10.here hx rfl (hb hby at_54) k) ?_
  obtain ⟨T11, h11, X11, e11, W11, V11, st11⟩ := saC X10 hx hZ e10 V10 (j := (9 : Int32)) (x := (31 : Int32)) (by decide) (i := 9) (by decide) (Nat.le_of_ble_eq_true rfl) (g := (mkF m 56 #[.val (.int x0), .val (.int x1), .unset, .unset, .unset, .unset] [(.int (31 : Int32)), (.int (9 : Int32)), (.ref b1), (.ref b1)])) rfl rfl (hb hby at_56)
  replace V11 : VArr Z h11 b1 .char [.int (nar .char (9 : Int32)), .int (nar .char (10 : Int32)), .int (nar .char (11 : Int32)), .int (nar .char (12 : Int32)), .int (nar .char (13 : Int32)), .int (nar .char (32 : Int32)), .int (nar .char (0 : Int32)), .int (nar .char (8 : Int32)), .int (nar .char (14 : Int32)), .int (nar .char (31 : Int32)), .int (0 : Int32), .int (0 : Int32), .int (0 : Int32), .int (0 : Int32), .int (0 : Int32), .int (0 : Int32)] := V11
  have N11 := Fr.snoc X11 N10 g_b1
  have KK11 : Keep h0 h11 [] := KK10.wr W11 (Or.inr sz_b1)
  have ZS11 : n0 ≤ h11.size := Nat.le_trans ZS10 (Keep.of_wr W11).1
  refine Go.of (T' := T11) (f' := (mkF m 57 #[.val (.int x0), .val (.int x1), .unset, .unset, .unset, .unset] [(.ref b1)])) (fun t k => st11 t k) ?_
  refine Go.of (T' := T11) (f' := (mkF m 58 #[.val (.int x0), .val (.int x1), .unset, .unset, .unset, .unset] [(.ref b1), (.ref b1)])) (fun t k => XS.dup X11.here hx rfl (hb hby at_57) rfl rfl k) ?_
  refine Go.of (T' := T11) (f' := (mkF m 60 #[.val (.int x0), .val (.int x1), .unset, .unset, .unset, .unset] [(.int (10 : Int32)), (.ref b1), (.ref b1)])) (fun t k => XS.bipush X11.here hx rfl (hb hby at_58) k) ?_
  refine Go.of (T' := T11) (f' := (mkF m 62 #[.val (.int x0), .val (.int x1), .unset, .unset, .unset, .unset] [(.int (33 : Int32)), (.int (10 : Int32)), (.ref b1), (.ref b1)])) (fun t k => XS.bipush X11.here hx rfl (hb hby at_60) k) ?_
  obtain ⟨T12, h12, X12, e12, W12, V12, st12⟩ := saC X11 hx hZ e11 V11 (j := (10 : Int32)) (x := (33 : Int32)) (by decide) (i := 10) (by decide) (Nat.le_of_ble_eq_true rfl) (g := (mkF m 62 #[.val (.int x0), .val (.int x1), .unset, .unset, .unset, .unset] [(.int (33 : Int32)), (.int (10 : Int32)), (.ref b1), (.ref b1)])) rfl rfl (hb hby at_62)
  replace V12 : VArr Z h12 b1 .char [.int (nar .char (9 : Int32)), .int (nar .char (10 : Int32)), .int (nar .char (11 : Int32)), .int (nar .char (12 : Int32)), .int (nar .char (13 : Int32)), .int (nar .char (32 : Int32)), .int (nar .char (0 : Int32)), .int (nar .char (8 : Int32)), .int (nar .char (14 : Int32)), .int (nar .char (31 : Int32)), .int (nar .char (33 : Int32)), .int (0 : Int32), .int (0 : Int32), .int (0 : Int32), .int (0 : Int32), .int (0 : Int32)] := V12
  have N12 := Fr.snoc X12 N11 g_b1
  have KK12 : Keep h0 h12 [] := KK11.wr W12 (Or.inr sz_b1)
  have ZS12 : n0 ≤ h12.size := Nat.le_trans ZS11 (Keep.of_wr W12).1
  refine Go.of (T' := T12) (f' := (mkF m 63 #[.val (.int x0), .val (.int x1), .unset, .unset, .unset, .unset] [(.ref b1)])) (fun t k => st12 t k) ?_
  refine Go.of (T' := T12) (f' := (mkF m 64 #[.val (.int x0), .val (.int x1), .unset, .unset, .unset, .unset] [(.ref b1), (.ref b1)])) (fun t k => XS.dup X12.here hx rfl (hb hby at_63) rfl rfl k) ?_
  refine Go.of (T' := T12) (f' := (mkF m 66 #[.val (.int x0), .val (.int x1), .unset, .unset, .unset, .unset] [(.int (11 : Int32)), (.ref b1), (.ref b1)])) (fun t k => XS.bipush X12.here hx rfl (hb hby at_64) k) ?_
  refine Go.of (T' := T12) (f' := (mkF m 69 #[.val (.int x0), .val (.int x1), .unset, .unset, .unset, .unset] [(.int (133 : Int32)), (.int (11 : Int32)), (.ref b1), (.ref b1)])) (fun t k => XS.sipush X12.here hx rfl (hb hby at_66) k) ?_
  obtain ⟨T13, h13, X13, e13, W13, V13, st13⟩ := saC X12 hx hZ e12 V12 (j := (11 : Int32)) (x := (133 : Int32)) (by decide) (i := 11) (by decide) (Nat.le_of_ble_eq_true rfl) (g := (mkF m 69 #[.val (.int x0), .val (.int x1), .unset, .unset, .unset, .unset] [(.int (133 : Int32)), (.int (11 : Int32)), (.ref b1), (.ref b1)])) rfl rfl (hb hby at_69)
  replace V13 : VArr Z h13 b1 .char [.int (nar .char (9 : Int32)), .int (nar .char (10 : Int32)), .int (nar .char (11 : Int32)), .int (nar .char (12 : Int32)), .int (nar .char (13 : Int32)), .int (nar .char (32 : Int32)), .int (nar .char (0 : Int32)), .int (nar .char (8 : Int32)), .int (nar .char (14 : Int32)), .int (nar .char (31 : Int32)), .int (nar .char (33 : Int32)), .int (nar .char (133 : Int32)), .int (0 : Int32), .int (0 : Int32), .int (0 : Int32), .int (0 : Int32)] := V13
  have N13 := Fr.snoc X13 N12 g_b1
  have KK13 : Keep h0 h13 [] := KK12.wr W13 (Or.inr sz_b1)
  have ZS13 : n0 ≤ h13.size := Nat.le_trans ZS12 (Keep.of_wr W13).1
  refine Go.of (T' := T13) (f' := (mkF m 70 #[.val (.int x0), .val (.int x1), .unset, .unset, .unset, .unset] [(.ref b1)])) (fun t k => st13 t k) ?_
  refine Go.of (T' := T13) (f' := (mkF m 71 #[.val (.int x0), .val (.int x1), .unset, .unset, .unset, .unset] [(.ref b1), (.ref b1)])) (fun t k => XS.dup X13.here hx rfl (hb hby at_70) rfl rfl k) ?_
  refine Go.of (T' := T13) (f' := (mkF m 73 #[.val (.int x0), .val (.int x1), .unset, .unset, .unset, .unset] [(.int (12 : Int32)), (.ref b1), (.ref b1)])) (fun t k => XS.bipush X13.here hx rfl (hb hby at_71) k) ?_
  refine Go.of (T' := T13) (f' := (mkF m 76 #[.val (.int x0), .val (.int x1), .unset, .unset, .unset, .unset] [(.int (160 : Int32)), (.int (12 : Int32)), (.ref b1), (.ref b1)])) (fun t k => XS.sipush X13.here hx rfl (hb hby at_73) k) ?_
  obtain ⟨T14, h14, X14, e14, W14, V14, st14⟩ := saC X13 hx hZ e13 V13 (j := (12 : Int32)) (x := (160 : Int32)) (by decide) (i := 12) (by decide) (Nat.le_of_ble_eq_true rfl) (g := (mkF m 76 #[.val (.int x0), .val (.int x1), .unset, .unset, .unset, .unset] [(.int (160 : Int32)), (.int (12 : Int32)), (.ref b1), (.ref b1)])) rfl rfl (hb hby at_76)
  replace V14 : VArr Z h14 b1 .char [.int (nar .char (9 : Int32)), .int (nar .char (10 : Int32)), .int (nar .char (11 : Int32)), .int (nar .char (12 : Int32)), .int (nar .char (13 : Int32)), .int (nar .char (32 : Int32)), .int (nar .char (0 : Int32)), .int (nar .char (8 : Int32)), .int (nar .char (14 : Int32)), .int (nar .char (31 : Int32)), .int (nar .char (33 : Int32)), .int (nar .char (133 : Int32)), .int (nar .char (160 : Int32)), .int (0 : Int32), .int (0 : Int32), .int (0 : Int32)] := V14
  have N14 := Fr.snoc X14 N13 g_b1
  have KK14 : Keep h0 h14 [] := KK13.wr W14 (Or.inr sz_b1)
  have ZS14 : n0 ≤ h14.size := Nat.le_trans ZS13 (Keep.of_wr W14).1
  refine Go.of (T' := T14) (f' := (mkF m 77 #[.val (.int x0), .val (.int x1), .unset, .unset, .unset, .unset] [(.ref b1)])) (fun t k => st14 t k) ?_
  refine Go.of (T' := T14) (f' := (mkF m 78 #[.val (.int x0), .val (.int x1), .unset, .unset, .unset, .unset] [(.ref b1), (.ref b1)])) (fun t k => XS.dup X14.here hx rfl (hb hby at_77) rfl rfl k) ?_
  refine Go.of (T' := T14) (f' := (mkF m 80 #[.val (.int x0), .val (.int x1), .unset, .unset, .unset, .unset] [(.int (13 : Int32)), (.ref b1), (.ref b1)])) (fun t k => XS.bipush X14.here hx rfl (hb hby at_78) k) ?_
  refine Go.of (T' := T14) (f' := (mkF m 83 #[.val (.int x0), .val (.int x1), .unset, .unset, .unset, .unset] [(.int (265 : Int32)), (.int (13 : Int32)), (.ref b1), (.ref b1)])) (fun t k => XS.sipush X14.here hx rfl (hb hby at_80) k) ?_
  obtain ⟨T15, h15, X15, e15, W15, V15, st15⟩ := saC X14 hx hZ e14 V14 (j := (13 : Int32)) (x := (265 : Int32)) (by decide) (i := 13) (by decide) (Nat.le_of_ble_eq_true rfl) (g := (mkF m 83 #[.val (.int x0), .val (.int x1), .unset, .unset, .unset, .unset] [(.int (265 : Int32)), (.int (13 : Int32)), (.ref b1), (.ref b1)])) rfl rfl (hb hby at_83)
  replace V15 : VArr Z h15 b1 .char [.int (nar .char (9 : Int32)), .int (nar .char (10 : Int32)), .int (nar .char (11 : Int32)), .int (nar .char (12 : Int32)), .int (nar .char (13 : Int32)), .int (nar .char (32 : Int32)), .int (nar .char (0 : Int32)), .int (nar .char (8 : Int32)), .int (nar .char (14 : Int32)), .int (nar .char (31 : Int32)), .int (nar .char (33 : Int32)), .int (nar .char (133 : Int32)), .int (nar .char (160 : Int32)), .int (nar .char (265 : Int32)), .int (0 : Int32), .int (0 : Int32)] := V15
  have N15 := Fr.snoc X15 N14 g_b1
  have KK15 : Keep h0 h15 [] := KK14.wr W15 (Or.inr sz_b1)
  have ZS15 : n0 ≤ h15.size := Nat.le_trans ZS14 (Keep.of_wr W15).1
  refine Go.of (T' := T15) (f' := (mkF m 84 #[.val (.int x0), .val (.int x1), .unset, .unset, .unset, .unset] [(.ref b1)])) (fun t k => st15 t k) ?_
  refine Go.of (T' := T15) (f' := (mkF m 85 #[.val (.int x0), .val (.int x1), .unset, .unset, .unset, .unset] [(.ref b1), (.ref b1)])) (fun t k => XS.dup X15.here hx rfl (hb hby at_84) rfl rfl k) ?_
  refine Go.of (T' := T15) (f' := (mkF m 87 #[.val (.int x0), .val (.int x1), .unset, .unset, .unset, .unset] [(.int (14 : Int32)), (.ref b1), (.ref b1)])) (fun t k => XS.bipush X15.here hx rfl (hb hby at_85) k) ?_
  refine Go.of (T' := T15) (f' := (mkF m 90 #[.val (.int x0), .val (.int x1), .unset, .unset, .unset, .unset] [(.int (288 : Int32)), (.int (14 : Int32)), (.ref b1), (.ref b1)])) (fun t k => XS.sipush X15.here hx rfl (hb hby at_87) k) ?_
  obtain ⟨T16, h16, X16, e16, W16, V16, st16⟩ := saC X15 hx hZ e15 V15 (j := (14 : Int32)) (x := (288 : Int32)) (by decide) (i := 14) (by decide) (Nat.le_of_ble_eq_true rfl) (g := (mkF m 90 #[.val (.int x0), .val (.int x1), .unset, .unset, .unset, .unset] [(.int (288 : Int32)), (.int (14 : Int32)), (.ref b1), (.ref b1)])) rfl rfl (hb hby at_90)
  replace V16 : VArr Z h16 b1 .char [.int (nar .char (9 : Int32)), .int (nar .char (10 : Int32)), .int (nar .char (11 : Int32)), .int (nar .char (12 : Int32)), .int (nar .char (13 : Int32)), .int (nar .char (32 : Int32)), .int (nar .char (0 : Int32)), .int (nar .char (8 : Int32)), .int (nar .char (14 : Int32)), .int (nar .char (31 : Int32)), .int (nar .char (33 : Int32)), .int (nar .char (133 : Int32)), .int (nar .char (160 : Int32)), .int (nar .char (265 : Int32)), .int (nar .char (288 : Int32)), .int (0 : Int32)] := V16
  have N16 := Fr.snoc X16 N15 g_b1
  have KK16 : Keep h0 h16 [] := KK15.wr W16 (Or.inr sz_b1)
  have ZS16 : n0 ≤ h16.size := Nat.le_trans ZS15 (Keep.of_wr W16).1
  refine Go.of (T' := T16) (f' := (mkF m 91 #[.val (.int x0), .val (.int x1), .unset, .unset, .unset, .unset] [(.ref b1)])) (fun t k => st16 t k) ?_
  refine Go.of (T' := T16) (f' := (mkF m 92 #[.val (.int x0), .val (.int x1), .unset, .unset, .unset, .unset] [(.ref b1), (.ref b1)])) (fun t k => XS.dup X16.here hx rfl (hb hby at_91) rfl rfl k) ?_
  refine Go.of (T' := T16) (f' := (mkF m 94 #[.val (.int x0), .val (.int x1), .unset, .unset, .unset, .unset] [(.int (15 : Int32)), (.ref b1), (.ref b1)])) (fun t k => XS.bipush X16.here hx rfl (hb hby at_92) k) ?_
  refine Go.of (T' := T16) (f' := (mkF m 97 #[.val (.int x0), .val (.int x1), .unset, .unset, .unset, .unset] [(.int (12288 : Int32)), (.int (15 : Int32)), (.ref b1), (.ref b1)])) (fun t k => XS.sipush X16.here hx rfl (hb hby at_94) k) ?_
  obtain ⟨T17, h17, X17, e17, W17, V17, st17⟩ := saC X16 hx hZ e16 V16 (j := (15 : Int32)) (x := (12288 : Int32)) (by decide) (i := 15) (by decide) (Nat.le_of_ble_eq_true rfl) (g := (mkF m 97 #[.val (.int x0), .val (.int x1), .unset, .unset, .unset, .unset] [(.int (12288 : Int32)), (.int (15 : Int32)), (.ref b1), (.ref b1)])) rfl rfl (hb hby at_97)
  replace V17 : VArr Z h17 b1 .char [.int (nar .char (9 : Int32)), .int (nar .char (10 : Int32)), .int (nar .char (11 : Int32)), .int (nar .char (12 : Int32)), .int (nar .char (13 : Int32)), .int (nar .char (32 : Int32)), .int (nar .char (0 : Int32)), .int (nar .char (8 : Int32)), .int (nar .char (14 : Int32)), .int (nar .char (31 : Int32)), .int (nar .char (33 : Int32)), .int (nar .char (133 : Int32)), .int (nar .char (160 : Int32)), .int (nar .char (265 : Int32)), .int (nar .char (288 : Int32)), .int (nar .char (12288 : Int32))] := V17
  have N17 := Fr.snoc X17 N16 g_b1
  have KK17 : Keep h0 h17 [] := KK16.wr W17 (Or.inr sz_b1)
  have ZS17 : n0 ≤ h17.size := Nat.le_trans ZS16 (Keep.of_wr W17).1
  refine Go.of (T' := T17) (f' := (mkF m 98 #[.val (.int x0), .val (.int x1), .unset, .unset, .unset, .unset] [(.ref b1)])) (fun t k => st17 t k) ?_
  refine Go.of (T' := T17) (f' := (mkF m 99 #[.val (.int x0), .val (.int x1), .val (.ref b1), .unset, .unset, .unset] [])) (fun t k => XS.astoreN X17.here hx rfl (hb hby at_98) rfl rfl (l' := #[.val (.int x0), .val (.int x1), .val (.ref b1), .unset, .unset, .unset]) rfl k) ?_
  refine Go.of (T' := T17) (f' := (mkF m 100 #[.val (.int x0), .val (.int x1), .val (.ref b1), .unset, .unset, .unset] [(.int x1)])) (fun t k => XS.iloadN X17.here hx rfl (hb hby at_99) rfl k) ?_
  refine Go.of (T' := T17) (f' := (mkF m 101 #[.val (.int x0), .val (.int x1), .val (.ref b1), .unset, .unset, .unset] [(.int (1 : Int32)), (.int x1)])) (fun t k => XS.iconst X17.here hx rfl (hb hby at_100) k) ?_
  refine Go.of (T' := T17) (f' := (mkF m 102 #[.val (.int x0), .val (.int x1), .val (.ref b1), .unset, .unset, .unset] [(.int (x1 &&& (1 : Int32)))])) (fun t k => XS.iand X17.here hx rfl (hb hby at_101) rfl k) ?_
  suffices J18 : ∀  (v18_s0 : Int32) (hj18 : (((x1 &&& (1 : Int32)) = (0 : Int32)) ∧ v18_s0 = (0 : Int32)) ∨ (¬ ((x1 &&& (1 : Int32)) = (0 : Int32)) ∧ v18_s0 = (1 : Int32))), Go p e below s (Q0 Z x0 x1 h0 n0) 16 128 T17 (mkF m 110 #[.val (.int x0), .val (.int x1), .val (.ref b1), .unset, .unset, .unset] [(.int v18_s0)]) by
    by_cases hc102 : (x1 &&& (1 : Int32)) = (0 : Int32)
    · -- pc 102: yes
      refine Go.of (T' := T17) (f' := (mkF m 109 #[.val (.int x0), .val (.int x1), .val (.ref b1), .unset, .unset, .unset] [])) (fun t k => XS.ifYes X17.here hx rfl (pc0 := 102) (pc' := 109) rfl (hb hby at_102) rfl ((if0 _ _).trans (teq hc102).1) (by decide) (by decide) k) ?_
      refine Go.of (T' := T17) (f' := (mkF m 110 #[.val (.int x0), .val (.int x1), .val (.ref b1), .unset, .unset, .unset] [(.int (0 : Int32))])) (fun t k => XS.iconst X17.here hx rfl (hb hby at_109) k) ?_
      exact J18 (0 : Int32) (Or.inl ⟨hc102, rfl⟩)
    · -- pc 102: no
      refine Go.of (T' := T17) (f' := (mkF m 105 #[.val (.int x0), .val (.int x1), .val (.ref b1), .unset, .unset, .unset] [])) (fun t k => XS.ifNo X17.here hx rfl (hb hby at_102) rfl ((if0 _ _).trans (feq hc102).1) k) ?_
      refine Go.of (T' := T17) (f' := (mkF m 106 #[.val (.int x0), .val (.int x1), .val (.ref b1), .unset, .unset, .unset] [(.int (1 : Int32))])) (fun t k => XS.iconst X17.here hx rfl (hb hby at_105) k) ?_
      refine Go.of (T' := T17) (f' := (mkF m 110 #[.val (.int x0), .val (.int x1), .val (.ref b1), .unset, .unset, .unset] [(.int (1 : Int32))])) (fun t k => XS.goto X17.here hx rfl (pc0 := 106) (pc' := 110) rfl (hb hby at_106) (by decide) (by decide) k) ?_
      exact J18 (1 : Int32) (Or.inr ⟨hc102, rfl⟩)
  intro v18_s0 hj18
  refine Go.of (T' := T17) (f' := (mkF m 111 #[.val (.int x0), .val (.int x1), .val (.ref b1), .val (.int v18_s0), .unset, .unset] [])) (fun t k => XS.istoreN X17.here hx rfl (hb hby at_110) rfl (l' := #[.val (.int x0), .val (.int x1), .val (.ref b1), .val (.int v18_s0), .unset, .unset]) rfl k) ?_
  refine Go.of (T' := T17) (f' := (mkF m 112 #[.val (.int x0), .val (.int x1), .val (.ref b1), .val (.int v18_s0), .unset, .unset] [(.int v18_s0)])) (fun t k => XS.iloadN X17.here hx rfl (hb hby at_111) rfl k) ?_
  suffices J19 : ∀  (v19_s0 : Int32) (hj19 : ¬ v19_s0 < 0), Go p e below s (Q0 Z x0 x1 h0 n0) 16 128 T17 (mkF m 128 #[.val (.int x0), .val (.int x1), .val (.ref b1), .val (.int v18_s0), .unset, .unset] [(.int v19_s0)]) by
    by_cases hc112 : v18_s0 = (0 : Int32)
    · -- pc 112: yes
      refine Go.of (T' := T17) (f' := (mkF m 126 #[.val (.int x0), .val (.int x1), .val (.ref b1), .val (.int v18_s0), .unset, .unset] [])) (fun t k => XS.ifYes X17.here hx rfl (pc0 := 112) (pc' := 126) rfl (hb hby at_112) rfl ((if0 _ _).trans (teq hc112).1) (by decide) (by decide) k) ?_
      refine Go.of (T' := T17) (f' := (mkF m 127 #[.val (.int x0), .val (.int x1), .val (.ref b1), .val (.int v18_s0), .unset, .unset] [(.int x0)])) (fun t k => XS.iloadN X17.here hx rfl (hb hby at_126) rfl k) ?_
      refine Go.of (T' := T17) (f' := (mkF m 128 #[.val (.int x0), .val (.int x1), .val (.ref b1), .val (.int v18_s0), .unset, .unset] [(.int (x0.toUInt32.toUInt16.toUInt32.toInt32))])) (fun t k => XS.i2c X17.here hx rfl (hb hby at_127) rfl k) ?_
      exact J19 (x0.toUInt32.toUInt16.toUInt32.toInt32) (own_i2c x0)
    · -- pc 112: no
      refine Go.of (T' := T17) (f' := (mkF m 115 #[.val (.int x0), .val (.int x1), .val (.ref b1), .val (.int v18_s0), .unset, .unset] [])) (fun t k => XS.ifNo X17.here hx rfl (hb hby at_112) rfl ((if0 _ _).trans (feq hc112).1) k) ?_
      refine Go.of (T' := T17) (f' := (mkF m 116 #[.val (.int x0), .val (.int x1), .val (.ref b1), .val (.int v18_s0), .unset, .unset] [(.ref b1)])) (fun t k => XS.aloadN X17.here hx rfl (hb hby at_115) rfl rfl k) ?_
      refine Go.of (T' := T17) (f' := (mkF m 117 #[.val (.int x0), .val (.int x1), .val (.ref b1), .val (.int v18_s0), .unset, .unset] [(.int x1), (.ref b1)])) (fun t k => XS.iloadN X17.here hx rfl (hb hby at_116) rfl k) ?_
      refine Go.of (T' := T17) (f' := (mkF m 118 #[.val (.int x0), .val (.int x1), .val (.ref b1), .val (.int v18_s0), .unset, .unset] [(.int (1 : Int32)), (.int x1), (.ref b1)])) (fun t k => XS.iconst X17.here hx rfl (hb hby at_117) k) ?_
      refine Go.of (T' := T17) (f' := (mkF m 119 #[.val (.int x0), .val (.int x1), .val (.ref b1), .val (.int v18_s0), .unset, .unset] [(.int ((x1.toUInt32 >>> ((1 : Int32) &&& 31).toUInt32).toInt32)), (.ref b1)])) (fun t k => XS.iushr X17.here hx rfl (hb hby at_118) rfl k) ?_
      refine Go.of (T' := T17) (f' := (mkF m 121 #[.val (.int x0), .val (.int x1), .val (.ref b1), .val (.int v18_s0), .unset, .unset] [(.int (15 : Int32)), (.int ((x1.toUInt32 >>> ((1 : Int32) &&& 31).toUInt32).toInt32)), (.ref b1)])) (fun t k => XS.bipush X17.here hx rfl (hb hby at_119) k) ?_
      refine Go.of (T' := T17) (f' := (mkF m 122 #[.val (.int x0), .val (.int x1), .val (.ref b1), .val (.int v18_s0), .unset, .unset] [(.int (((x1.toUInt32 >>> ((1 : Int32) &&& 31).toUInt32).toInt32) &&& (15 : Int32))), (.ref b1)])) (fun t k => XS.iand X17.here hx rfl (hb hby at_121) rfl k) ?_
      obtain ⟨ec, hec, hneg⟩ := own_at ((((x1.toUInt32 >>> ((1 : Int32) &&& 31).toUInt32).toInt32) &&& (15 : Int32))).toNatClampNeg (own_idx _).2
      refine Go.of (T' := T17) (f' := (mkF m 123 #[.val (.int x0), .val (.int x1), .val (.ref b1), .val (.int v18_s0), .unset, .unset] [(.int ec)])) (fun t k => ldC X17 hx hZ e17 V17 (j := (((x1.toUInt32 >>> ((1 : Int32) &&& 31).toUInt32).toInt32) &&& (15 : Int32))) (v := (.int ec)) (own_idx _).1 rfl hec (g := (mkF m 122 #[.val (.int x0), .val (.int x1), .val (.ref b1), .val (.int v18_s0), .unset, .unset] [(.int (((x1.toUInt32 >>> ((1 : Int32) &&& 31).toUInt32).toInt32) &&& (15 : Int32))), (.ref b1)])) rfl rfl (hb hby at_122) t k) ?_
      refine Go.of (T' := T17) (f' := (mkF m 128 #[.val (.int x0), .val (.int x1), .val (.ref b1), .val (.int v18_s0), .unset, .unset] [(.int ec)])) (fun t k => XS.goto X17.here hx rfl (pc0 := 123) (pc' := 128) rfl (hb hby at_123) (by decide) (by decide) k) ?_
      exact J19 ec hneg
  intro v19_s0 hj19
  have hpos := hj19
  refine Go.of (T' := T17) (f' := (mkF m 130 #[.val (.int x0), .val (.int x1), .val (.ref b1), .val (.int v18_s0), .val (.int v19_s0), .unset] [])) (fun t k => XS.istore X17.here hx rfl (hb hby at_128) rfl (l' := #[.val (.int x0), .val (.int x1), .val (.ref b1), .val (.int v18_s0), .val (.int v19_s0), .unset]) rfl k) ?_
  refine Go.of (T' := T17) (f' := (mkF m 132 #[.val (.int x0), .val (.int x1), .val (.ref b1), .val (.int v18_s0), .val (.int v19_s0), .unset] [(.int v19_s0)])) (fun t k => XS.iload X17.here hx rfl (hb hby at_130) rfl k) ?_
  obtain ⟨_, _, ⟨T20, L20, k20, n20⟩, -, X20, ⟨Lc20, hQ20, l20, y20, z20⟩, st20⟩ := Jvm.LawKit.callS X17 hx (y := (⟨"com/example/albero/albero/TokenizerIsAsciiWhitespacePinLaw", "reference", "(C)Z"⟩ : MethodName)) hown (mvT hZ (hw _ (List.mem_of_getElem? (i := 1) rfl))) (mvT hZ (hw _ (List.mem_of_getElem? (i := 2) rfl))) (mvT hZ (hw _ (List.mem_of_getElem? (i := 3) rfl))) (mvT hZ (hw _ (List.mem_of_getElem? (i := 4) rfl))) (by decide) (backOf (W := 0) (rm1 l Z a0 hw [] v19_s0 h17 n0 ZS17 ) hZ (hw _ (List.mem_of_getElem? (i := 4) rfl)) (hw _ (List.mem_of_getElem? (i := 3) rfl)) (by decide) (by decide)) (g := (mkF m 132 #[.val (.int x0), .val (.int x1), .val (.ref b1), .val (.int v18_s0), .val (.int v19_s0), .unset] [(.int v19_s0)])) rfl (by rw [hml]; rfl) (argsL := [(.int v19_s0)]) (rest := []) (lenOf pd_0 rfl) rfl (by show 2 * 0 + _ ≤ _; exact Nat.le_of_eq rfl) (hb hby at_132) (fun _ _ => ⟨rfl, e17, (by decide : 1 + 0 ≤ _), (by decide : 16 + 0 ≤ _)⟩)
  dsimp only [Pt.U, Pt.locs, Pt.cells, Pt.slots] at X20 l20 y20 z20 st20 hQ20
  subst l20 y20 z20
  obtain ⟨rfl, N20q, e20⟩ := hQ20
  have N20 := Fr.app N17 N20q
  refine Go.of (T' := T20) (f' := (mkF m 135 #[.val (.int x0), .val (.int x1), .val (.ref b1), .val (.int v18_s0), .val (.int v19_s0), .unset] [(.int (rfV v19_s0))])) (fun t k => st20 t k) ?_
  refine Go.of (T' := T20) (f' := (mkF m 137 #[.val (.int x0), .val (.int x1), .val (.ref b1), .val (.int v18_s0), .val (.int v19_s0), .val (.int (rfV v19_s0))] [])) (fun t k => XS.istore X20.here hx rfl (hb hby at_135) rfl (l' := #[.val (.int x0), .val (.int x1), .val (.ref b1), .val (.int v18_s0), .val (.int v19_s0), .val (.int (rfV v19_s0))]) rfl k) ?_
  refine Go.of (T' := T20) (f' := (mkF m 139 #[.val (.int x0), .val (.int x1), .val (.ref b1), .val (.int v18_s0), .val (.int v19_s0), .val (.int (rfV v19_s0))] [(.int v19_s0)])) (fun t k => XS.iload X20.here hx rfl (hb hby at_137) rfl k) ?_
  obtain ⟨_, _, ⟨T21, L21, k21, n21⟩, -, X21, ⟨Lc21, hQ21, l21, y21, z21⟩, st21⟩ := Jvm.LawKit.callS X20 hx (y := (⟨"com/example/albero/albero/Tokenizer", "isAsciiWhitespace", "(C)Z"⟩ : MethodName)) hown (mvT hZ (hw _ (List.mem_of_getElem? (i := 6) rfl))) (mvT hZ (hw _ (List.mem_of_getElem? (i := 7) rfl))) (mvT hZ (hw _ (List.mem_of_getElem? (i := 8) rfl))) (mvT hZ (hw _ (List.mem_of_getElem? (i := 9) rfl))) (by decide) (backOf (W := 0) (rm2 l Z a0 hw [] v19_s0 h17 n0 ZS17 ) hZ (hw _ (List.mem_of_getElem? (i := 9) rfl)) (hw _ (List.mem_of_getElem? (i := 8) rfl)) (by decide) (by decide)) (g := (mkF m 139 #[.val (.int x0), .val (.int x1), .val (.ref b1), .val (.int v18_s0), .val (.int v19_s0), .val (.int (rfV v19_s0))] [(.int v19_s0)])) rfl (by rw [hml]; rfl) (argsL := [(.int v19_s0)]) (rest := []) (lenOf pd_0 rfl) rfl (by show 2 * 0 + _ ≤ _; exact Nat.le_of_eq rfl) (hb hby at_139) (fun _ _ => ⟨rfl, e20, (by decide : 1 + 0 ≤ _), (by decide : 16 + 0 ≤ _)⟩)
  dsimp only [Pt.U, Pt.locs, Pt.cells, Pt.slots] at X21 l21 y21 z21 st21 hQ21
  subst l21 y21 z21
  obtain ⟨rfl, N21q, e21⟩ := hQ21
  have N21 := Fr.app N20 N21q
  refine Go.of (T' := T21) (f' := (mkF m 142 #[.val (.int x0), .val (.int x1), .val (.ref b1), .val (.int v18_s0), .val (.int v19_s0), .val (.int (rfV v19_s0))] [(.int (wsV v19_s0))])) (fun t k => st21 t k) ?_
  refine Go.of (T' := T21) (f' := (mkF m 144 #[.val (.int x0), .val (.int x1), .val (.ref b1), .val (.int v18_s0), .val (.int v19_s0), .val (.int (rfV v19_s0))] [(.int (rfV v19_s0)), (.int (wsV v19_s0))])) (fun t k => XS.iload X21.here hx rfl (hb hby at_142) rfl k) ?_
  have hc144 : (wsV v19_s0) = (rfV v19_s0) := own_ws _ hpos
  refine Go.of (T' := T21) (f' := (mkF m 147 #[.val (.int x0), .val (.int x1), .val (.ref b1), .val (.int v18_s0), .val (.int v19_s0), .val (.int (rfV v19_s0))] [])) (fun t k => XS.icmpNo X21.here hx rfl (hb hby at_144) rfl ((teq hc144).2) k) ?_
  refine Go.of (T' := T21) (f' := (mkF m 148 #[.val (.int x0), .val (.int x1), .val (.ref b1), .val (.int v18_s0), .val (.int v19_s0), .val (.int (rfV v19_s0))] [(.int (1 : Int32))])) (fun t k => XS.iconst X21.here hx rfl (hb hby at_147) k) ?_
  refine Go.of (T' := T21) (f' := (mkF m 152 #[.val (.int x0), .val (.int x1), .val (.ref b1), .val (.int v18_s0), .val (.int v19_s0), .val (.int (rfV v19_s0))] [(.int (1 : Int32))])) (fun t k => XS.goto X21.here hx rfl (pc0 := 148) (pc' := 152) rfl (hb hby at_148) (by decide) (by decide) k) ?_
  refine Go.retZ X21 hx hk (t := .boolean) Bd.returns (by simp) (hb hby at_152) (by decide) (by decide) ?_
  rw [e21]
  exact ⟨rfl, N21⟩
set_option maxRecDepth 65536 in
set_option maxHeartbeats 40000000 in
theorem comes_1 {Post : Tables → Env → Array Value → State → Outcome → State → Prop} (hpost : ∀ tb e args s v u, (limb_1_1.after args s (.returned v) u = true ∧ limb_1_2.after args s (.returned v) u = true ∧ True) → FrameEnd s (.returned v) u (Jvm.fieldLocs frame_1_writes args s ++ Jvm.arrayLocs frame_1_arrays args s ++ Jvm.staticLocs frame_1_statics s) 16 128 → Post tb e args s (.returned v) u) :
    ArmFor flags0 classFile x code maxLocals ret World_1 tables_1 room_1 Calls_1 rest_1 Pre_1 Post := by
  intro l hfl _ _ p e ha hc hk s m args below hf hA hF happ hP
  obtain ⟨hcalls, hrest, hpre⟩ := hP
  obtain ⟨-, -, -, hnamed, -, -, -, hat⟩ := (Spec.applies_iff hf).mp happ
  obtain ⟨hg, hn⟩ := and_e (Cond.before_iff.mp (show (Jvm.Cond.and given_1 narrow_1).before args s = true from hpre))
  obtain ⟨g0, gr0⟩ := and_e hg
  obtain ⟨ga0, gr1⟩ := and_e gr0
  have ga1 := gr1
  obtain ⟨w0, w1, rfl⟩ : ∃ w0 w1 : Value, args = #[w0, w1] := by
    have hs : args.size = 2 := by simpa [Cond.value, given_1] using g0
    obtain ⟨L⟩ := args
    match L, hs with
    | [w0, w1], _ => exact ⟨w0, w1, rfl⟩
  have hw := fun d (hd : d ∈ tables_1) => atoms_spec (ws := Jvm.Cond.code x code maxLocals ret :: tables_1) hat d (List.mem_cons_of_mem _ hd)
  obtain ⟨i0, ei0⟩ := is_v ga0
  obtain rfl : w0 = (.int i0) := Option.some.inj ei0
  obtain ⟨i1, ei1⟩ := is_v ga1
  obtain rfl : w1 = (.int i1) := Option.some.inj ei1
  obtain ⟨n, o, h1, h2, h3, _, L, rfl, ⟨rfl, N⟩, hq⟩ := rm0 l s _ hw tables_1 i0 i1 s.heap s.heap.size (Nat.le_refl _)  p e ha hc hk s m _ below hf ((Spec.applies_iff_loose hf).mp happ).1 ⟨rfl, State.Warmed39.refl s, rfl⟩ trivial
  refine ⟨n, _, h1, h2, h3, hpost _ _ _ _ _ _ ⟨Cond.after_iff.mpr rfl, Cond.after_iff.mpr (eq_i res_at (Term.int_eval (1)) rfl), trivial⟩ ⟨hq.1, hq.2.1, (hq.2.2.sift fun y hy => Or.inr (N y hy)).mono (by decide) (by decide)⟩⟩
theorem main_1_1 : Claimed_1_1 := comes_1 fun _ _ _ _ _ _ h hF => ⟨h.1, hF⟩
theorem main_1_2 : Claimed_1_2 := comes_1 fun _ _ _ _ _ _ h hF => ⟨h.2.1, hF⟩
end Jvm.Pilot.@@N@@
namespace Jvm.Pilot.@@N@@
open Jvm Jvm.ClassFile Sem Op Lib Jvm.Free Jvm.Stand Jvm.Pilot.@@N@@.Jvm.D
/-! MADE BY PROGRAM (witnessworld.py) out of the Statement's table words and the real class files: 11 classes; the members and pool entries that the words name. The judged class is class 1, her method 1. -/
namespace start1
open Jvm.ClassFile
def u (s : String) : CpInfo := .utf8 (stringToUtf16 s)
/-- a pool by its gaps: so many unusable entries, then the entry; so many at the end -/
def gap : Nat → List CpInfo → List CpInfo
  | 0, r => r
  | n + 1, r => .unusable :: gap n r
def poolList (es : List (Nat × CpInfo)) (last : Nat) : List CpInfo := es.foldr (fun e r => gap e.1 (e.2 :: r)) (gap last [])
def pool (es : List (Nat × CpInfo)) (last : Nat) : Array CpInfo := ⟨poolList es last⟩
def fileOf (pool : Array CpInfo) (this : Nat) (attrs : Array Attribute := #[]) (ms : Array MethodInfo := #[]) (fl : Nat := 33) (sup : Nat := 0) (ifs : Array Nat := #[]) (fds : Array FieldInfo := #[]) : ClassFile where
  minorVersion := 0
  majorVersion := 65
  constantPool := pool
  accessFlags := fl
  thisClass := this
  superClass := sup
  interfaces := ifs
  fields := fds
  methods := ms
  attributes := attrs
def plain (name : String) (sup : Option ClassId) : Class where
  name := name
  kind := .ordinary
  loader := none
  accessFlags := 33
  super := sup
  interfaces := #[]
  cf := none
  fields := #[]
  methods := #[]
  instanceTypes := #[]
  staticTypes := #[]
  resolved := #[]
  callSites := []
  init := .initialized
  statics := none
  mirror := none

def pool0 : Array CpInfo := pool [(5, u "<init>"), (0, u "()V"), (1, .class_ 10), (1, u "java/lang/Object")] 113

def k0m0 : Method := { name := "<init>", desc := "()V", sig := { parameters := [], returnType := none }, accessFlags := 1, code := none }
/-- java/lang/Object -/
def k0 : Class := { plain "java/lang/Object" none with
  accessFlags := 33
  interfaces := #[]
  cf := some (fileOf pool0 8 #[] #[{ accessFlags := 1, nameIndex := 5, descriptorIndex := 6, attributes := #[] }] 33 0 #[] #[])
  fields := #[]
  methods := #[k0m0]
  instanceTypes := #[]
  staticTypes := #[]
  resolved := Array.replicate 124 none
  statics := none }

def pool1 : Array CpInfo := pool [(2, .class_ 4), (1, u "java/lang/Object"), (0, u "<init>"), (0, u "()V"), (0, .methodref 8 9), (0, .class_ 10), (0, .nameAndType 11 12), (0, u "com/example/albero/albero/TokenizerIsAsciiWhitespacePinLaw"), (0, u "reference"), (0, u "(C)Z"), (0, .methodref 14 15), (0, .class_ 16), (0, .nameAndType 17 12), (0, u "com/example/albero/albero/Tokenizer"), (0, u "isAsciiWhitespace"), (0, .long 4294981120), (3, u "law"), (0, u "(II)Z")] 5

def k1m0 : Method := { name := "<init>", desc := "()V", sig := { parameters := [], returnType := none }, accessFlags := 2, code := none }
def k1c1 : Code := { maxStack := 4, maxLocals := 6, code := code, exceptionTable := #[], attributes := #[] }
def k1m1 : Method := { name := "law", desc := "(II)Z", sig := { parameters := [.int, .int], returnType := some .boolean }, accessFlags := 9, code := some k1c1 }
def k1c2 : Code := { maxStack := 4, maxLocals := 4, code := method_3_code, exceptionTable := #[], attributes := #[] }
def k1m2 : Method := { name := "reference", desc := "(C)Z", sig := { parameters := [.char], returnType := some .boolean }, accessFlags := 10, code := some k1c2 }
/-- com/example/albero/albero/TokenizerIsAsciiWhitespacePinLaw -/
def k1 : Class := { plain "com/example/albero/albero/TokenizerIsAsciiWhitespacePinLaw" (some 0) with
  accessFlags := 49
  interfaces := #[]
  cf := some (fileOf pool1 8 #[] #[{ accessFlags := 2, nameIndex := 5, descriptorIndex := 6, attributes := #[] }, { accessFlags := 9, nameIndex := 22, descriptorIndex := 23, attributes := #[] }, { accessFlags := 10, nameIndex := 11, descriptorIndex := 12, attributes := #[] }] 49 2 #[] #[])
  fields := #[]
  methods := #[k1m0, k1m1, k1m2]
  instanceTypes := #[]
  staticTypes := #[]
  resolved := Array.replicate 29 none
  statics := none }

def pool2 : Array CpInfo := pool [(2, .class_ 4), (1, u "java/lang/Object"), (3, .class_ 10), (1, u "com/example/albero/albero/Tokenizer"), (0, u "nextStopIndex"), (0, u "[I"), (5, u "temporaryBuffer"), (0, u "Ljava/lang/StringBuilder;"), (5, u "names"), (0, u "Lcom/example/albero/albero/NameTable;"), (5, u "attributes"), (0, u "Ljava/util/List;"), (2, u "commentData"), (2, u "doctypeName"), (2, u "doctypePublicId"), (2, u "doctypeSystemId"), (18, u "input"), (0, u "Ljava/lang/String;"), (2, u "length"), (3, u "I"), (7, u "characters"), (0, u "Lcom/example/albero/albero/TextBuffer;"), (2, u "tagName"), (2, u "attributeName"), (2, u "attributeValue"), (2, .class_ 94), (0, u "com/example/albero/albero/Tokenizer$InitialState"), (6, u "state"), (0, u "Lcom/example/albero/albero/Tokenizer$State;"), (2, u "lastStartTagName"), (1, u "sink"), (4, u "Ljava/util/function/Consumer;"), (1, u "inForeignContent"), (4, u "Ljava/util/function/BooleanSupplier;"), (23, u "finished"), (0, u "Z"), (12, .class_ 159), (1, u "com/example/albero/albero/Tokenizer$State"), (266, u "position"), (161, u "selfClosing"), (75, u "forceQuirks"), (5, u "doctypeNameMissing"), (37, u "doctypeSystemIdMissing"), (8, u "doctypePublicIdMissing"), (25, u "returnState"), (38, u "characterReferenceCode"), (42, u "endTag"), (8, u "attributeNames"), (0, u "Ljava/util/Set;"), (2, u "attributePending"), (9, u "finishedAttributeName"), (5, u "attributeDuplicate"), (78, u "EOF"), (2, u "REPLACEMENT_CHARACTER"), (0, u "C"), (0, u "LINEAR_NAME_SEARCH_LIMIT"), (1, u "PAST_LAST_CODE_POINT"), (0, u "TEXT_STOPS"), (15, u "isAsciiWhitespace"), (0, u "(C)Z")] 43

def k2c0 : Code := { maxStack := 2, maxLocals := 1, code := prog_49_method_85_code, exceptionTable := #[], attributes := #[] }
def k2m0 : Method := { name := "isAsciiWhitespace", desc := "(C)Z", sig := { parameters := [.char], returnType := some .boolean }, accessFlags := 8, code := some k2c0 }
/-- com/example/albero/albero/Tokenizer -/
def k2 : Class := { plain "com/example/albero/albero/Tokenizer" (some 0) with
  accessFlags := 49
  interfaces := #[]
  cf := some (fileOf pool2 8 #[.nestMembers #[157, 93]] #[{ accessFlags := 8, nameIndex := 957, descriptorIndex := 958, attributes := #[] }] 49 2 #[] #[{ accessFlags := 26, nameIndex := 933, descriptorIndex := 72, attributes := #[] }, { accessFlags := 24, nameIndex := 936, descriptorIndex := 937, attributes := #[] }, { accessFlags := 26, nameIndex := 938, descriptorIndex := 72, attributes := #[] }, { accessFlags := 26, nameIndex := 940, descriptorIndex := 72, attributes := #[] }, { accessFlags := 26, nameIndex := 941, descriptorIndex := 65, attributes := #[] }, { accessFlags := 18, nameIndex := 64, descriptorIndex := 65, attributes := #[] }, { accessFlags := 18, nameIndex := 68, descriptorIndex := 72, attributes := #[] }, { accessFlags := 18, nameIndex := 107, descriptorIndex := 112, attributes := #[] }, { accessFlags := 18, nameIndex := 114, descriptorIndex := 119, attributes := #[] }, { accessFlags := 2, nameIndex := 426, descriptorIndex := 72, attributes := #[] }, { accessFlags := 2, nameIndex := 101, descriptorIndex := 102, attributes := #[] }, { accessFlags := 2, nameIndex := 143, descriptorIndex := 144, attributes := #[] }, { accessFlags := 18, nameIndex := 11, descriptorIndex := 12, attributes := #[] }, { accessFlags := 18, nameIndex := 80, descriptorIndex := 81, attributes := #[] }, { accessFlags := 18, nameIndex := 18, descriptorIndex := 19, attributes := #[] }, { accessFlags := 2, nameIndex := 743, descriptorIndex := 102, attributes := #[] }, { accessFlags := 2, nameIndex := 782, descriptorIndex := 72, attributes := #[] }, { accessFlags := 18, nameIndex := 25, descriptorIndex := 26, attributes := #[] }, { accessFlags := 2, nameIndex := 105, descriptorIndex := 65, attributes := #[] }, { accessFlags := 2, nameIndex := 825, descriptorIndex := 144, attributes := #[] }, { accessFlags := 18, nameIndex := 84, descriptorIndex := 81, attributes := #[] }, { accessFlags := 18, nameIndex := 32, descriptorIndex := 33, attributes := #[] }, { accessFlags := 2, nameIndex := 834, descriptorIndex := 835, attributes := #[] }, { accessFlags := 2, nameIndex := 588, descriptorIndex := 144, attributes := #[] }, { accessFlags := 2, nameIndex := 838, descriptorIndex := 144, attributes := #[] }, { accessFlags := 18, nameIndex := 87, descriptorIndex := 81, attributes := #[] }, { accessFlags := 2, nameIndex := 848, descriptorIndex := 65, attributes := #[] }, { accessFlags := 2, nameIndex := 854, descriptorIndex := 144, attributes := #[] }, { accessFlags := 18, nameIndex := 90, descriptorIndex := 81, attributes := #[] }, { accessFlags := 18, nameIndex := 36, descriptorIndex := 19, attributes := #[] }, { accessFlags := 18, nameIndex := 39, descriptorIndex := 19, attributes := #[] }, { accessFlags := 2, nameIndex := 670, descriptorIndex := 144, attributes := #[] }, { accessFlags := 18, nameIndex := 42, descriptorIndex := 19, attributes := #[] }, { accessFlags := 2, nameIndex := 717, descriptorIndex := 144, attributes := #[] }, { accessFlags := 18, nameIndex := 45, descriptorIndex := 19, attributes := #[] }, { accessFlags := 2, nameIndex := 708, descriptorIndex := 144, attributes := #[] }, { accessFlags := 2, nameIndex := 664, descriptorIndex := 144, attributes := #[] }])
  fields := #[{ name := "EOF", type := .int, accessFlags := 26, slot := 0, constantValue := 0 }, { name := "REPLACEMENT_CHARACTER", type := .char, accessFlags := 24, slot := 1, constantValue := 0 }, { name := "LINEAR_NAME_SEARCH_LIMIT", type := .int, accessFlags := 26, slot := 2, constantValue := 0 }, { name := "PAST_LAST_CODE_POINT", type := .int, accessFlags := 26, slot := 3, constantValue := 0 }, { name := "TEXT_STOPS", type := (.object "java/lang/String"), accessFlags := 26, slot := 4, constantValue := 0 }, { name := "input", type := (.object "java/lang/String"), accessFlags := 18, slot := 0, constantValue := 0 }, { name := "length", type := .int, accessFlags := 18, slot := 1, constantValue := 0 }, { name := "sink", type := (.object "java/util/function/Consumer"), accessFlags := 18, slot := 2, constantValue := 0 }, { name := "inForeignContent", type := (.object "java/util/function/BooleanSupplier"), accessFlags := 18, slot := 3, constantValue := 0 }, { name := "position", type := .int, accessFlags := 2, slot := 4, constantValue := 0 }, { name := "state", type := (.object "com/example/albero/albero/Tokenizer$State"), accessFlags := 2, slot := 5, constantValue := 0 }, { name := "finished", type := .boolean, accessFlags := 2, slot := 6, constantValue := 0 }, { name := "nextStopIndex", type := (.array .int), accessFlags := 18, slot := 7, constantValue := 0 }, { name := "characters", type := (.object "com/example/albero/albero/TextBuffer"), accessFlags := 18, slot := 8, constantValue := 0 }, { name := "temporaryBuffer", type := (.object "java/lang/StringBuilder"), accessFlags := 18, slot := 9, constantValue := 0 }, { name := "returnState", type := (.object "com/example/albero/albero/Tokenizer$State"), accessFlags := 2, slot := 10, constantValue := 0 }, { name := "characterReferenceCode", type := .int, accessFlags := 2, slot := 11, constantValue := 0 }, { name := "names", type := (.object "com/example/albero/albero/NameTable"), accessFlags := 18, slot := 12, constantValue := 0 }, { name := "lastStartTagName", type := (.object "java/lang/String"), accessFlags := 2, slot := 13, constantValue := 0 }, { name := "endTag", type := .boolean, accessFlags := 2, slot := 14, constantValue := 0 }, { name := "tagName", type := (.object "com/example/albero/albero/TextBuffer"), accessFlags := 18, slot := 15, constantValue := 0 }, { name := "attributes", type := (.object "java/util/List"), accessFlags := 18, slot := 16, constantValue := 0 }, { name := "attributeNames", type := (.object "java/util/Set"), accessFlags := 2, slot := 17, constantValue := 0 }, { name := "selfClosing", type := .boolean, accessFlags := 2, slot := 18, constantValue := 0 }, { name := "attributePending", type := .boolean, accessFlags := 2, slot := 19, constantValue := 0 }, { name := "attributeName", type := (.object "com/example/albero/albero/TextBuffer"), accessFlags := 18, slot := 20, constantValue := 0 }, { name := "finishedAttributeName", type := (.object "java/lang/String"), accessFlags := 2, slot := 21, constantValue := 0 }, { name := "attributeDuplicate", type := .boolean, accessFlags := 2, slot := 22, constantValue := 0 }, { name := "attributeValue", type := (.object "com/example/albero/albero/TextBuffer"), accessFlags := 18, slot := 23, constantValue := 0 }, { name := "commentData", type := (.object "java/lang/StringBuilder"), accessFlags := 18, slot := 24, constantValue := 0 }, { name := "doctypeName", type := (.object "java/lang/StringBuilder"), accessFlags := 18, slot := 25, constantValue := 0 }, { name := "doctypeNameMissing", type := .boolean, accessFlags := 2, slot := 26, constantValue := 0 }, { name := "doctypePublicId", type := (.object "java/lang/StringBuilder"), accessFlags := 18, slot := 27, constantValue := 0 }, { name := "doctypePublicIdMissing", type := .boolean, accessFlags := 2, slot := 28, constantValue := 0 }, { name := "doctypeSystemId", type := (.object "java/lang/StringBuilder"), accessFlags := 18, slot := 29, constantValue := 0 }, { name := "doctypeSystemIdMissing", type := .boolean, accessFlags := 2, slot := 30, constantValue := 0 }, { name := "forceQuirks", type := .boolean, accessFlags := 2, slot := 31, constantValue := 0 }]
  methods := #[k2m0]
  instanceTypes := #[(.object "java/lang/String"), .int, (.object "java/util/function/Consumer"), (.object "java/util/function/BooleanSupplier"), .int, (.object "com/example/albero/albero/Tokenizer$State"), .boolean, (.array .int), (.object "com/example/albero/albero/TextBuffer"), (.object "java/lang/StringBuilder"), (.object "com/example/albero/albero/Tokenizer$State"), .int, (.object "com/example/albero/albero/NameTable"), (.object "java/lang/String"), .boolean, (.object "com/example/albero/albero/TextBuffer"), (.object "java/util/List"), (.object "java/util/Set"), .boolean, .boolean, (.object "com/example/albero/albero/TextBuffer"), (.object "java/lang/String"), .boolean, (.object "com/example/albero/albero/TextBuffer"), (.object "java/lang/StringBuilder"), (.object "java/lang/StringBuilder"), .boolean, (.object "java/lang/StringBuilder"), .boolean, (.object "java/lang/StringBuilder"), .boolean, .boolean]
  staticTypes := #[.int, .char, .int, .int, (.object "java/lang/String")]
  resolved := Array.replicate 1002 none
  statics := none }

def pool3 : Array CpInfo := pool [(1, u "java/lang/Cloneable"), (0, .class_ 1), (0, u "java/lang/Object"), (0, .class_ 3)] 3

/-- java/lang/Cloneable -/
def k3 : Class := { plain "java/lang/Cloneable" (some 0) with
  accessFlags := 1537
  interfaces := #[]
  cf := some (fileOf pool3 2 #[] #[] 1537 4 #[] #[])
  fields := #[]
  methods := #[]
  instanceTypes := #[]
  staticTypes := #[]
  resolved := Array.replicate 8 none
  statics := none }

def pool4 : Array CpInfo := pool [(1, u "java/io/Serializable"), (0, .class_ 1), (0, u "java/lang/Object"), (0, .class_ 3)] 3

/-- java/io/Serializable -/
def k4 : Class := { plain "java/io/Serializable" (some 0) with
  accessFlags := 1537
  interfaces := #[]
  cf := some (fileOf pool4 2 #[] #[] 1537 4 #[] #[])
  fields := #[]
  methods := #[]
  instanceTypes := #[]
  staticTypes := #[]
  resolved := Array.replicate 8 none
  statics := none }

/-- the primitive byte -/
def k5 : Class := { plain "byte" none with kind := .primitive 'B', accessFlags := 0x411 }
/-- [B -/
def k6 : Class := { plain "[B" (some 0) with kind := .array 5 .byte, interfaces := #[3, 4], accessFlags := 1041 }

/-- the primitive char -/
def k7 : Class := { plain "char" none with kind := .primitive 'C', accessFlags := 0x411 }
/-- [C -/
def k8 : Class := { plain "[C" (some 0) with kind := .array 7 .char, interfaces := #[3, 4], accessFlags := 1041 }

/-- the primitive int -/
def k9 : Class := { plain "int" none with kind := .primitive 'I', accessFlags := 0x411 }
/-- [I -/
def k10 : Class := { plain "[I" (some 0) with kind := .array 9 .int, interfaces := #[3, 4], accessFlags := 1041 }

def heap : Heap := #[]
def classes : Array Class := #[k0, k1, k2, k3, k4, k5, k6, k7, k8, k9, k10]
def interned : List (Array UInt16 × Addr) := []
def slotsUsed : Nat := 0
def theMethod : MethodId := ⟨1, 1⟩
def args0 : Array Value := #[.int 3, .int 4]
def aboutOver (below : List Frame) : State where
  vm := { classes := classes, interned := interned.toArray }
  heap := heap
  slotsUsed := slotsUsed
  threads := #[{ frames := .invoking theMethod args0 :: below }]
def below0 : List Frame := [.native { method := ⟨0, 0⟩, args := #[] }]
def about1 : State := aboutOver below0
def p0 : Program := .bare "" "" ""
def e0 : Env := launch0.env 0 0 0
theorem w_frames : about1.frames = Frame.invoking theMethod args0 :: below0 := rfl
set_option maxRecDepth 65536 in
theorem w_args : argsFit about1.vm theMethod args0 = true := by decide +kernel
set_option maxRecDepth 65536 in
theorem w_heap : heapFits about1 = true := by decide +kernel
set_option maxRecDepth 65536 in
theorem w_runnable : about1.curStatus? = some .runnable := by decide +kernel
set_option maxRecDepth 65536 in
theorem w_alone : about1.alone = true := by decide +kernel
set_option maxRecDepth 65536 in
theorem w_named : about1.methodNamed? x = some theMethod := by decide +kernel
set_option maxRecDepth 65536 in
theorem w_hears : about1.hears theMethod below0 = true := by decide +kernel
set_option maxRecDepth 65536 in
theorem w_ripe : about1.ripe theMethod args0 below0 = true := by decide +kernel
theorem w_running : about1.status = .running := rfl
set_option maxRecDepth 65536 in
theorem w_room : about1.hasRoom e0.platform room_1 = true :=
  launch0.hasRoom_least _ room_1 (by decide +kernel) (by decide +kernel) (by decide +kernel) (by decide +kernel) (by decide +kernel) (by decide +kernel)
theorem allAtoms_all (ts : List Jvm.Cond) (a : Array Jvm.Value) (st : Jvm.State) : (allAtoms ts).before a st = ts.all (fun c => c.before a st) := by
  induction ts with
  | nil => rfl
  | cons c t ih =>
    show (Jvm.Cond.and c (allAtoms t)).before a st = _
    rw [Jvm.Cond.before_and, ih, List.all_cons]
def words1 : List Jvm.Cond := Jvm.Cond.code x code maxLocals ret :: tables_1
/-- a 'code' word, met by the world's own term for the bytes: nothing is compared byte by byte -/
theorem code_word {y : MethodName} {bytes : ByteArray} {mx : Nat} {rt : Option FieldType} {a : Array Value} {s : State} {m : MethodId} {meth : Method} {c : Code} (h1 : s.methodNamed? y = some m) (h2 : s.vm.method? m = some meth) (h3 : meth.code = some c) (h4 : c.code = bytes)
    (h5 : (c.maxLocals == mx && c.exceptionTable.isEmpty && decide (c.maxStack ≤ mostOperands) && decide (meth.sig.returnType = rt) && !meth.locks && decide (parseMethodDescriptor y.desc = some meth.sig)) = true) : (Jvm.Cond.code y bytes mx rt).before a s = true := by
  simp only [Bool.and_eq_true, beq_iff_eq, Bool.not_eq_true', decide_eq_true_eq] at h5
  obtain ⟨⟨⟨⟨⟨g1, g2⟩, g3⟩, g4⟩, g5⟩, g6⟩ := h5
  simp [Cond.before, Cond.holds, Cond.value, h1, h2, h3, h4, g1, g2, g3, g4, g5, g6]
def isCode : Jvm.Cond → Bool
  | .code _ _ _ _ => true
  | _ => false
theorem all_split {L : List Jvm.Cond} {P : Jvm.Cond → Bool} (h1 : L.all (fun c => isCode c || P c) = true) (h2 : ∀ c ∈ L.filter isCode, P c = true) : L.all P = true := by
  refine List.all_eq_true.mpr fun c hc => ?_
  have h := List.all_eq_true.mp h1 c hc
  rcases Bool.eq_false_or_eq_true (isCode c) with hi | hi
  · exact h2 c (List.mem_filter.mpr ⟨hc, hi⟩)
  · simpa [hi] using h
set_option maxRecDepth 65536 in
theorem w_c0 : (Jvm.Cond.code x code maxLocals ret).before args0 about1 = true := code_word (m := ⟨1, 1⟩) (meth := k1m1) (c := k1c1) (by decide +kernel) rfl rfl rfl (by decide +kernel)
set_option maxRecDepth 65536 in
theorem w_c1 : (Jvm.Cond.code ({ cls := "com/example/albero/albero/TokenizerIsAsciiWhitespacePinLaw", name := "reference", desc := "(C)Z" } : Jvm.MethodName) method_3_code (4 : Nat) (Option.some Jvm.ClassFile.FieldType.boolean)).before args0 about1 = true := code_word (m := ⟨1, 2⟩) (meth := k1m2) (c := k1c2) (by decide +kernel) rfl rfl rfl (by decide +kernel)
set_option maxRecDepth 65536 in
theorem w_c2 : (Jvm.Cond.code ({ cls := "com/example/albero/albero/Tokenizer", name := "isAsciiWhitespace", desc := "(C)Z" } : Jvm.MethodName) prog_49_method_85_code (1 : Nat) (Option.some Jvm.ClassFile.FieldType.boolean)).before args0 about1 = true := code_word (m := ⟨2, 0⟩) (meth := k2m0) (c := k2c0) (by decide +kernel) rfl rfl rfl (by decide +kernel)
def codes1 : List Jvm.Cond := [Jvm.Cond.code x code maxLocals ret, Jvm.Cond.code ({ cls := "com/example/albero/albero/TokenizerIsAsciiWhitespacePinLaw", name := "reference", desc := "(C)Z" } : Jvm.MethodName) method_3_code (4 : Nat) (Option.some Jvm.ClassFile.FieldType.boolean), Jvm.Cond.code ({ cls := "com/example/albero/albero/Tokenizer", name := "isAsciiWhitespace", desc := "(C)Z" } : Jvm.MethodName) prog_49_method_85_code (1 : Nat) (Option.some Jvm.ClassFile.FieldType.boolean)]
set_option maxRecDepth 65536 in
theorem codes_eq : words1.filter isCode = codes1 := rfl
theorem w_codes : ∀ c ∈ words1.filter isCode, c.before args0 about1 = true := by
  rw [codes_eq]
  intro c hc
  simp only [codes1, List.mem_cons, List.not_mem_nil, or_false] at hc
  rcases hc with rfl | rfl | rfl
  · exact w_c0
  · exact w_c1
  · exact w_c2
set_option maxRecDepth 65536 in
theorem w_t1 : words1.all (fun c => isCode c || c.before args0 about1) = true := by decide +kernel
theorem w_tables : (allAtoms (Jvm.Cond.code x code maxLocals ret :: tables_1)).before args0 about1 = true := by
  rw [allAtoms_all]
  show words1.all (fun c => c.before args0 about1) = true
  refine all_split ?_ w_codes
  rw [w_t1]
set_option maxRecDepth 65536 in
theorem w_case : (Jvm.Cond.and given_1 narrow_1).before args0 about1 = true := by decide +kernel
theorem w_applies : (headSpec (Jvm.Cond.code x code maxLocals ret :: tables_1) room_1).applies x e0.platform about1 = true :=
  (Spec.applies_iff w_frames).mpr ⟨w_running, w_runnable, w_alone, w_named, w_hears, w_ripe, w_room, w_tables⟩
theorem atStart : AtStart classFile x code maxLocals ret World_1 tables_1 room_1 Calls_1 rest_1 Pre_1 launch0 p0 e0 about1 theMethod args0 below0 :=
  ⟨lists_1, trivial, launch0.admits_env _ _ _, launch0.least_env, fairChoices_fair.cas, fairChoices_fair.clock, w_frames, w_args, w_heap, w_applies, trivial, trivial, w_case⟩
end start1
theorem witness_1 : WitnessClaimed_1 := ⟨start1.p0, start1.e0, start1.about1, start1.theMethod, start1.args0, start1.below0, start1.atStart⟩
end Jvm.Pilot.@@N@@
