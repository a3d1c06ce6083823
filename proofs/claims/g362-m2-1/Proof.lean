import JvmDerived
import JvmDerived.Pilot.@@N@@Statement
import JvmDerived.Pilot.@@N@@Code
set_option linter.unusedVariables false
set_option linter.unusedSimpArgs false
namespace Jvm.RoadKit
open Sem ClassFile Op Lib Jvm.Stand Jvm.Free Jvm.LawKit
section OwnGo
variable {p : Program} {l : Launch} {e : Env} {R : Room} {s : State} {m : MethodId} {args : Array Value} {below : List Frame} {meth : Method} {c : Code} {T T' : State} {locs : List Loc} {cells slots : Nat} {Z : State} {a0 : Array Value} {h h' : Heap}
/-- the walk comes to an end from here, and leaves what Q says -/
def Go (p : Program) (e : Env) (below : List Frame) (s : State) (Q : Option Value → Heap → List Loc → Prop) (nc ns : Nat) (T : State) (f : JFrame) : Prop :=
  ∃ s₂ o, Steps p.tables e below (T.setTop f) s₂ ∧ s₂.status = .running ∧ Ended s₂ below o ∧ ∃ v L, o = .returned v ∧ Q v s₂.heap L ∧ FrameEnd s o s₂ L nc ns
variable {Q : Option Value → Heap → List Loc → Prop} {nc ns : Nat}
theorem Go.of {f f' : JFrame} (k : ∀ t, Steps p.tables e below (T'.setTop f') t → Steps p.tables e below (T.setTop f) t) (g : Go p e below s Q nc ns T' f') : Go p e below s Q nc ns T f := by
  obtain ⟨s₂, o, h1, h2⟩ := g
  exact ⟨s₂, o, k _ h1, h2⟩
theorem Go.tr {f f' : JFrame} (k : Steps p.tables e below (T.setTop f) (T'.setTop f')) (g : Go p e below s Q nc ns T' f') : Go p e below s Q nc ns T f := by
  obtain ⟨s₂, o, h1, h2⟩ := g
  exact ⟨s₂, o, k.trans h1, h2⟩
theorem Go.cast {f f' : JFrame} (q : f = f') (g : Go p e below s Q nc ns T f') : Go p e below s Q nc ns T f := q ▸ g
theorem retI (X : Stand p l e R s m args below meth c T locs cells slots) (hx : p.tables.exec = Jvm.exec) {pc : Nat} {Ls : Array Slot} {z : Int32} {rest : List Value} (hret : meth.sig.returnType = some .int) (hd : decode c.code pc = .ok (.ireturn, 1)) {fs : List Frame}
    (hl : ∀ (f : JFrame) (acts : List Action), f.method = m → f.locked = none → f.entered = [] → (doReturn e (T.setTop f) acts (some (.int z))).1 = T.setFrames fs) : Steps p.tables e below (T.setTop (mkF m pc Ls (.int z :: rest))) (T.setFrames fs) :=
  retOut X hx hret rfl (Or.inl ⟨rfl, Or.inl rfl, _, rfl⟩) hd hl
theorem Go.end0 (X : Stand p l e R s m args below meth c T locs cells slots) (hk : meth.locks = false) {v : Option Value} (hv : meth.sig.returnType = none → v = none) {f : JFrame}
    (k : ∀ fs, (∀ (f : JFrame) (acts : List Action), f.method = m → f.locked = none → f.entered = [] → (doReturn e (T.setTop f) acts v).1 = T.setFrames fs) → Steps p.tables e below (T.setTop f) (T.setFrames fs))
    (hc : cells ≤ nc) (hs : slots ≤ ns) (hq : Q v T.heap locs) : Go p e below s Q nc ns T f := by
  obtain ⟨fs, hr, hrun, hended, hW, hsame⟩ := X.leave (v := v) hv
  exact ⟨_, _, k fs hr, hrun, hended, _, _, rfl, hq, ⟨_, rfl⟩, hW, hsame.mono hc hs⟩
theorem Go.retZ (X : Stand p l e R s m args below meth c T locs cells slots) (hx : p.tables.exec = Jvm.exec) (hk : meth.locks = false) {t : FieldType} (hret : meth.sig.returnType = some t) (ht : t = .boolean ∨ t = .byte ∨ t = .char ∨ t = .short) {pc : Nat} (hd : decode c.code pc = .ok (.ireturn, 1)) {Ls : Array Slot} {z : Int32} {rest : List Value}
    (hc : cells ≤ nc) (hs : slots ≤ ns) (hq : Q (some (.int (nar t z))) T.heap locs) : Go p e below s Q nc ns T (mkF m pc Ls (.int z :: rest)) :=
  Go.end0 X hk (fun q => by rw [hret] at q; cases q) (fun _ hr => retN X hx hret ht hd hr) hc hs hq
theorem Go.retI (X : Stand p l e R s m args below meth c T locs cells slots) (hx : p.tables.exec = Jvm.exec) (hk : meth.locks = false) (hret : meth.sig.returnType = some .int) {pc : Nat} (hd : decode c.code pc = .ok (.ireturn, 1)) {Ls : Array Slot} {z : Int32} {rest : List Value}
    (hc : cells ≤ nc) (hs : slots ≤ ns) (hq : Q (some (.int z)) T.heap locs) : Go p e below s Q nc ns T (mkF m pc Ls (.int z :: rest)) :=
  Go.end0 X hk (fun q => by rw [hret] at q; cases q) (fun _ hr => Jvm.RoadKit.retI X hx hret hd hr) hc hs hq
theorem Go.retJ (X : Stand p l e R s m args below meth c T locs cells slots) (hx : p.tables.exec = Jvm.exec) (hk : meth.locks = false) (hret : meth.sig.returnType = some .long) {pc : Nat} (hd : decode c.code pc = .ok (.lreturn, 1)) {Ls : Array Slot} {z : Int64} {rest : List Value}
    (hc : cells ≤ nc) (hs : slots ≤ ns) (hq : Q (some (.long z)) T.heap locs) : Go p e below s Q nc ns T (mkF m pc Ls (.long z :: rest)) :=
  Go.end0 X hk (fun q => by rw [hret] at q; cases q) (fun _ hr => retOut X hx hret rfl (Or.inr (Or.inl ⟨rfl, rfl, _, rfl⟩)) hd hr) hc hs hq
theorem Go.retA (X : Stand p l e R s m args below meth c T locs cells slots) (hx : p.tables.exec = Jvm.exec) (hk : meth.locks = false) {t : FieldType} (hret : meth.sig.returnType = some t) (ht : t.isReference = true) {pc : Nat} (hd : decode c.code pc = .ok (.areturn, 1)) {Ls : Array Slot} {a : Addr} {rest : List Value}
    (hc : cells ≤ nc) (hs : slots ≤ ns) (hq : Q (some (.ref a)) T.heap locs) : Go p e below s Q nc ns T (mkF m pc Ls (.ref a :: rest)) :=
  Go.end0 X hk (fun q => by rw [hret] at q; cases q) (fun _ hr => retOut X hx hret (by cases t <;> first | rfl | cases ht) (Or.inr (Or.inr (Or.inr (Or.inr ⟨rfl, ht, rfl⟩)))) hd hr) hc hs hq
theorem Go.retV (X : Stand p l e R s m args below meth c T locs cells slots) (hx : p.tables.exec = Jvm.exec) (hk : meth.locks = false) (hret : meth.sig.returnType = none) {pc : Nat} (hd : decode c.code pc = .ok (.return_, 1)) {Ls : Array Slot}
    (hc : cells ≤ nc) (hs : slots ≤ ns) (hq : Q none T.heap locs) : Go p e below s Q nc ns T (mkF m pc Ls []) :=
  Go.end0 X hk (fun _ => rfl) (fun _ hr => X.returnOut hx hret hd hr) hc hs hq
theorem lc_lt_t {x y : Int64} (q : x < y) : ifCond.holds .lt (lcmpW x y) = true := by rw [if0, lcW]; exact (tlt ((lc_lt x y).mpr q)).1
theorem lc_lt_f {x y : Int64} (q : ¬ x < y) : ifCond.holds .lt (lcmpW x y) = false := by rw [if0, lcW]; exact (flt (fun z => q ((lc_lt x y).mp z))).1
theorem lc_ge_f {x y : Int64} (q : x < y) : ifCond.holds .ge (lcmpW x y) = false := by rw [if0, lcW]; exact (tlt ((lc_lt x y).mpr q)).2.1
theorem lc_ge_t {x y : Int64} (q : ¬ x < y) : ifCond.holds .ge (lcmpW x y) = true := by rw [if0, lcW]; exact (flt (fun z => q ((lc_lt x y).mp z))).2.1
theorem lc_gt_t {x y : Int64} (q : y < x) : ifCond.holds .gt (lcmpW x y) = true := by rw [if0, lcW]; exact (tlt ((lc_gt x y).mpr q)).2.2.1
theorem lc_gt_f {x y : Int64} (q : ¬ y < x) : ifCond.holds .gt (lcmpW x y) = false := by rw [if0, lcW]; exact (flt (fun z => q ((lc_gt x y).mp z))).2.2.1
theorem lc_le_f {x y : Int64} (q : y < x) : ifCond.holds .le (lcmpW x y) = false := by rw [if0, lcW]; exact (tlt ((lc_gt x y).mpr q)).2.2.2
theorem lc_le_t {x y : Int64} (q : ¬ y < x) : ifCond.holds .le (lcmpW x y) = true := by rw [if0, lcW]; exact (flt (fun z => q ((lc_gt x y).mp z))).2.2.2
theorem lc_eq_t {x y : Int64} (q : x = y) : ifCond.holds .eq (lcmpW x y) = true := by rw [if0, lcW]; exact (teq ((lc_eq x y).mpr q)).1
theorem lc_eq_f {x y : Int64} (q : ¬ x = y) : ifCond.holds .eq (lcmpW x y) = false := by rw [if0, lcW]; exact (feq (fun z => q ((lc_eq x y).mp z))).1
theorem lc_ne_f {x y : Int64} (q : x = y) : ifCond.holds .ne (lcmpW x y) = false := by rw [if0, lcW]; exact (teq ((lc_eq x y).mpr q)).2
theorem lc_ne_t {x y : Int64} (q : ¬ x = y) : ifCond.holds .ne (lcmpW x y) = true := by rw [if0, lcW]; exact (feq (fun z => q ((lc_eq x y).mp z))).2
/-- an array of this kind that holds just these values -/
def VArr (Z : State) (h : Heap) (a : Addr) (ty : FieldType) (vs : List Value) : Prop := ∃ cl : Cell, Arr Z h a cl ty ∧ cl.slots = vs.toArray
variable {a b : Addr} {ty : FieldType} {vs : List Value} {sl : Nat} {v : Value} {ws : List Addr} {n : Int32}
theorem VArr.lt (F : VArr Z h a ty vs) : a < h.size := by obtain ⟨c, A, -⟩ := F; exact A.lt
theorem VArr.ext (F : VArr Z h a ty vs) (E : Ext h h') : VArr Z h' a ty vs := by obtain ⟨c, A, r⟩ := F; exact ⟨c, A.ext E, r⟩
theorem VArr.other (F : VArr Z h b ty vs) (W : Wr h h' a sl v) (q : b ≠ a) : VArr Z h' b ty vs := by obtain ⟨c, A, r⟩ := F; exact ⟨c, A.other W q, r⟩
theorem VArr.keep (F : VArr Z h a ty vs) (K : Keep h h' ws) (q : a ∉ ws) : VArr Z h' a ty vs := by obtain ⟨c, A, r⟩ := F; exact ⟨c, ⟨K.2.1 a c A.1 q, A.2⟩, r⟩
theorem VArr.new {k : ClassId} (A : Arr Z h a (newA k ty n) ty) : VArr Z h a ty (List.replicate n.toNatClampNeg (defaultValue ty)) := ⟨_, A, by simp [newA]⟩
theorem VArr.newL {k : ClassId} {i : Nat} (A : Arr Z h a (newA k ty n) ty) (hn : n.toNatClampNeg = i) : VArr Z h a ty (List.replicate i (defaultValue ty)) := hn ▸ VArr.new A
theorem VArr.wr (F : VArr Z h a ty vs) (W : Wr h h' a sl v) : VArr Z h' a ty (vs.set sl v) := by
  obtain ⟨c, A, r⟩ := F
  refine ⟨_, A.same W, ?_⟩
  show c.slots.setIfInBounds sl v = _
  rw [r]; simp
theorem VArr.inb {cl : Cell} {j : Int32} (r : cl.slots = vs.toArray) (hj : ¬ j < 0) (hi : j.toNatClampNeg < vs.length) : ¬ (j < 0 ∨ cl.slots.size ≤ j.toNatClampNeg) := by
  rw [r]; simp only [List.size_toArray]; rintro (q | q)
  · exact hj q
  · omega
theorem VArr.at {cl : Cell} {j : Int32} (r : cl.slots = vs.toArray) (hv : vs[j.toNatClampNeg]? = some v) : cl.slots[j.toNatClampNeg]? = some v := by rw [r]; simpa using hv
theorem lt_of_at {j : Nat} (hv : vs[j]? = some v) : j < vs.length := (List.getElem?_eq_some_iff.mp hv).1
theorem ldJ (X : Stand p l e R s m args below meth c T locs cells slots) (hx : p.tables.exec = Jvm.exec) (hZ : Z.Warmed39 s.vm) (eT : T.heap = h) (F : VArr Z h a .long vs) {j : Int32} {i : Nat} (hj : ¬ j < 0) (hji : j.toNatClampNeg = i) (hv : vs[i]? = some v)
    {g : JFrame} (hg : g.method = m) {rest : List Value} (hs : g.stack = .int j :: .ref a :: rest) (hd : decode c.code g.pc = .ok (.laload, 1)) (target : State)
    (hr : Steps p.tables e below (T.setTop { g with pc := g.pc + 1, stack := v :: rest }) target) : Steps p.tables e below (T.setTop g) target := by
  subst hji
  obtain ⟨cl, A, r⟩ := F
  exact X.laload hx (by rw [eT]; exact A.1) (State.isArrayOf_alike hZ.alike A.2.1) A.2.2 (VArr.inb r hj (lt_of_at hv)) (VArr.at r hv) hg hs hd target hr
theorem ldC (X : Stand p l e R s m args below meth c T locs cells slots) (hx : p.tables.exec = Jvm.exec) (hZ : Z.Warmed39 s.vm) (eT : T.heap = h) (F : VArr Z h a .char vs) {j : Int32} {i : Nat} (hj : ¬ j < 0) (hji : j.toNatClampNeg = i) (hv : vs[i]? = some v)
    {g : JFrame} (hg : g.method = m) {rest : List Value} (hs : g.stack = .int j :: .ref a :: rest) (hd : decode c.code g.pc = .ok (.caload, 1)) (target : State)
    (hr : Steps p.tables e below (T.setTop { g with pc := g.pc + 1, stack := v :: rest }) target) : Steps p.tables e below (T.setTop g) target := by
  subst hji
  obtain ⟨cl, A, r⟩ := F
  exact X.caload hx (by rw [eT]; exact A.1) (State.isArrayOf_alike hZ.alike A.2.1) A.2.2 (VArr.inb r hj (lt_of_at hv)) (VArr.at r hv) hg hs hd target hr
theorem ldB (X : Stand p l e R s m args below meth c T locs cells slots) (hx : p.tables.exec = Jvm.exec) (hZ : Z.Warmed39 s.vm) (eT : T.heap = h) (F : VArr Z h a .byte vs) {j : Int32} {i : Nat} (hj : ¬ j < 0) (hji : j.toNatClampNeg = i) (hv : vs[i]? = some v)
    {g : JFrame} (hg : g.method = m) {rest : List Value} (hs : g.stack = .int j :: .ref a :: rest) (hd : decode c.code g.pc = .ok (.baload, 1)) (target : State)
    (hr : Steps p.tables e below (T.setTop { g with pc := g.pc + 1, stack := v :: rest }) target) : Steps p.tables e below (T.setTop g) target := by
  subst hji
  obtain ⟨cl, A, r⟩ := F
  exact X.baloadBytes hx (by rw [eT]; exact A.1) (State.isArrayOf_alike hZ.alike A.2.1) A.2.2 (VArr.inb r hj (lt_of_at hv)) (VArr.at r hv) hg hs hd target hr
theorem lenV (X : Stand p l e R s m args below meth c T locs cells slots) (hx : p.tables.exec = Jvm.exec) (hZ : Z.Warmed39 s.vm) (eT : T.heap = h) (F : VArr Z h a ty vs) (hn : vs.length.toInt32 = n)
    {g : JFrame} (hg : g.method = m) {rest : List Value} (hs : g.stack = .ref a :: rest) (hd : decode c.code g.pc = .ok (.arraylength, 1)) (target : State)
    (hr : Steps p.tables e below (T.setTop { g with pc := g.pc + 1, stack := .int n :: rest }) target) : Steps p.tables e below (T.setTop g) target := by
  obtain ⟨cl, A, r⟩ := F
  refine X.arraylength hx (by rw [eT]; exact A.1) (State.isArrayOf_alike hZ.alike A.2.1) hg hs hd target ?_
  have q : cl.slots.size.toInt32 = n := by rw [r, ← hn]; simp
  rw [q]; exact hr
theorem saJ (X : Stand p l e R s m args below meth c T locs cells slots) (hx : p.tables.exec = Jvm.exec) (hZ : Z.Warmed39 s.vm) (eT : T.heap = h) (F : VArr Z h a .long vs) {j : Int32} {x : Int64} {i : Nat} (hj : ¬ j < 0) (hji : j.toNatClampNeg = i) (hi : i < vs.length)
    {g : JFrame} (hg : g.method = m) {rest : List Value} (hs : g.stack = .long x :: .int j :: .ref a :: rest) (hd : decode c.code g.pc = .ok (.lastore, 1)) :
    ∃ T' h', Stand p l e R s m args below meth c T' (locs ++ [⟨a, j.toNatClampNeg⟩]) cells slots ∧ T'.heap = h' ∧ Wr h h' a j.toNatClampNeg (.long x) ∧ VArr Z h' a .long (vs.set i (.long x)) ∧ ∀ target, Steps p.tables e below (T'.setTop { g with pc := g.pc + 1, stack := rest }) target → Steps p.tables e below (T.setTop g) target := by
  subst hji
  obtain ⟨cl, A, r⟩ := F
  obtain ⟨T', h', X', e', W, st⟩ := stJ X hx hZ eT A (x := x) (VArr.inb r hj hi) hg hs hd
  exact ⟨T', h', X', e', W, VArr.wr ⟨cl, A, r⟩ W, st⟩
theorem saC (X : Stand p l e R s m args below meth c T locs cells slots) (hx : p.tables.exec = Jvm.exec) (hZ : Z.Warmed39 s.vm) (eT : T.heap = h) (F : VArr Z h a .char vs) {j : Int32} {x : Int32} {i : Nat} (hj : ¬ j < 0) (hji : j.toNatClampNeg = i) (hi : i < vs.length)
    {g : JFrame} (hg : g.method = m) {rest : List Value} (hs : g.stack = .int x :: .int j :: .ref a :: rest) (hd : decode c.code g.pc = .ok (.castore, 1)) :
    ∃ T' h', Stand p l e R s m args below meth c T' (locs ++ [⟨a, j.toNatClampNeg⟩]) cells slots ∧ T'.heap = h' ∧ Wr h h' a j.toNatClampNeg (.int (nar .char x)) ∧ VArr Z h' a .char (vs.set i (.int (nar .char x))) ∧ ∀ target, Steps p.tables e below (T'.setTop { g with pc := g.pc + 1, stack := rest }) target → Steps p.tables e below (T.setTop g) target := by
  subst hji
  obtain ⟨cl, A, r⟩ := F
  obtain ⟨T', h', X', e', W, st⟩ := stC X hx hZ eT A (x := x) (VArr.inb r hj hi) hg hs hd
  exact ⟨T', h', X', e', W, VArr.wr ⟨cl, A, r⟩ W, st⟩
theorem saB (X : Stand p l e R s m args below meth c T locs cells slots) (hx : p.tables.exec = Jvm.exec) (hZ : Z.Warmed39 s.vm) (eT : T.heap = h) (F : VArr Z h a .byte vs) {j : Int32} {x : Int32} {i : Nat} (hj : ¬ j < 0) (hji : j.toNatClampNeg = i) (hi : i < vs.length)
    {g : JFrame} (hg : g.method = m) {rest : List Value} (hs : g.stack = .int x :: .int j :: .ref a :: rest) (hd : decode c.code g.pc = .ok (.bastore, 1)) :
    ∃ T' h', Stand p l e R s m args below meth c T' (locs ++ [⟨a, j.toNatClampNeg⟩]) cells slots ∧ T'.heap = h' ∧ Wr h h' a j.toNatClampNeg (.int (nar .byte x)) ∧ VArr Z h' a .byte (vs.set i (.int (nar .byte x))) ∧ ∀ target, Steps p.tables e below (T'.setTop { g with pc := g.pc + 1, stack := rest }) target → Steps p.tables e below (T.setTop g) target := by
  subst hji
  obtain ⟨cl, A, r⟩ := F
  obtain ⟨T', h', X', e', W, st⟩ := stB X hx hZ eT A (x := x) (VArr.inb r hj hi) hg hs hd
  exact ⟨T', h', X', e', W, VArr.wr ⟨cl, A, r⟩ W, st⟩
end OwnGo
end Jvm.RoadKit
namespace Jvm.Pilot.@@N@@
open Jvm Jvm.ClassFile Sem Op Lib Jvm.Free Jvm.Stand Jvm.LawKit Jvm.RoadKit Bundle Jvm.Pilot.@@N@@.Jvm.D
def bnd (k : Int32) : Int32 := if (k &&& 7) = 0 then 64 else if (k &&& 7) = 1 then 65 else if (k &&& 7) = 2 then 90 else if (k &&& 7) = 3 then 91 else if (k &&& 7) = 4 then 96 else if (k &&& 7) = 5 then 97 else if (k &&& 7) = 6 then 122 else 123
def alphaV (c : Int32) : Int32 := if (¬ c < 97 ∧ ¬ 122 < c) ∨ (¬ c < 65 ∧ ¬ 90 < c) then 1 else 0
def refV (c : Int32) : Int32 := if ¬ (c ||| 32) < 97 ∧ ¬ 122 < (c ||| 32) then 1 else 0
theorem own_small : ∀ n : Fin 128, alphaV (Int32.ofNat n.1) = refV (Int32.ofNat n.1) := by decide +kernel
theorem own_alpha (c : Int32) : alphaV c = refV c := by
  by_cases hc : c.toBitVec.toNat < 128
  · have e : c = Int32.ofNat c.toBitVec.toNat := by
      apply Int32.toBitVec_inj.mp
      apply BitVec.eq_of_toNat_eq
      show _ = (BitVec.ofNat 32 c.toBitVec.toNat).toNat
      simp
    rw [e]; exact own_small ⟨_, hc⟩
  · have key : ∀ d : Int32, 128 ≤ d.toBitVec.toNat → d < 97 ∨ 122 < d := by
      intro d hd
      have h1 : d.toInt = d.toBitVec.toInt := rfl
      have h2 := d.toBitVec.isLt
      rw [Int32.lt_iff_toInt_lt, Int32.lt_iff_toInt_lt, h1, BitVec.toInt_eq_toNat_cond]
      have e1 : (97 : Int32).toInt = 97 := by decide
      have e2 : (122 : Int32).toInt = 122 := by decide
      rw [e1, e2]
      split <;> omega
    have k1 : c < 97 ∨ 122 < c := key c (by omega)
    have k3 : c < 65 ∨ 90 < c := by
      have e1 : (97 : Int32).toInt = 97 := by decide
      have e2 : (122 : Int32).toInt = 122 := by decide
      have e3 : (65 : Int32).toInt = 65 := by decide
      have e4 : (90 : Int32).toInt = 90 := by decide
      have h1 : c.toInt = c.toBitVec.toInt := rfl
      have h2 := c.toBitVec.isLt
      rw [Int32.lt_iff_toInt_lt, Int32.lt_iff_toInt_lt, h1, BitVec.toInt_eq_toNat_cond, e3, e4]
      split <;> omega
    have k2 : (c ||| 32) < 97 ∨ 122 < (c ||| 32) := key (c ||| 32) (by
      rw [Int32.toBitVec_or, BitVec.toNat_or]
      exact Nat.le_trans (by omega) Nat.left_le_or)
    have a : alphaV c = 0 := by
      unfold alphaV; rw [if_neg]; rintro (⟨q1, q2⟩ | ⟨q1, q2⟩)
      · exact k1.elim q1 q2
      · exact k3.elim q1 q2
    have b : refV c = 0 := by
      unfold refV; rw [if_neg]; rintro ⟨q1, q2⟩; exact k2.elim q1 q2
    rw [a, b]
theorem d1_0 : decode method_3_code 0 = .ok (.iload_n 0, 1) := by decide +kernel
theorem d1_1 : decode method_3_code 1 = .ok (.bipush 7, 2) := by decide +kernel
theorem d1_3 : decode method_3_code 3 = .ok (.iand, 1) := by decide +kernel
theorem d1_4 : decode method_3_code 4 = .ok (.istore_n 1, 1) := by decide +kernel
theorem d1_5 : decode method_3_code 5 = .ok (.iload_n 1, 1) := by decide +kernel
theorem d1_6 : decode method_3_code 6 = .ok (.ifCond .ne 6, 3) := by decide +kernel
theorem d1_9 : decode method_3_code 9 = .ok (.bipush 64, 2) := by decide +kernel
theorem d1_11 : decode method_3_code 11 = .ok (.ireturn, 1) := by decide +kernel
theorem d1_12 : decode method_3_code 12 = .ok (.iload_n 1, 1) := by decide +kernel
theorem d1_13 : decode method_3_code 13 = .ok (.iconst 1, 1) := by decide +kernel
theorem d1_14 : decode method_3_code 14 = .ok (.if_icmp .ne 6, 3) := by decide +kernel
theorem d1_17 : decode method_3_code 17 = .ok (.bipush 65, 2) := by decide +kernel
theorem d1_19 : decode method_3_code 19 = .ok (.ireturn, 1) := by decide +kernel
theorem d1_20 : decode method_3_code 20 = .ok (.iload_n 1, 1) := by decide +kernel
theorem d1_21 : decode method_3_code 21 = .ok (.iconst 2, 1) := by decide +kernel
theorem d1_22 : decode method_3_code 22 = .ok (.if_icmp .ne 6, 3) := by decide +kernel
theorem d1_25 : decode method_3_code 25 = .ok (.bipush 90, 2) := by decide +kernel
theorem d1_27 : decode method_3_code 27 = .ok (.ireturn, 1) := by decide +kernel
theorem d1_28 : decode method_3_code 28 = .ok (.iload_n 1, 1) := by decide +kernel
theorem d1_29 : decode method_3_code 29 = .ok (.iconst 3, 1) := by decide +kernel
theorem d1_30 : decode method_3_code 30 = .ok (.if_icmp .ne 6, 3) := by decide +kernel
theorem d1_33 : decode method_3_code 33 = .ok (.bipush 91, 2) := by decide +kernel
theorem d1_35 : decode method_3_code 35 = .ok (.ireturn, 1) := by decide +kernel
theorem d1_36 : decode method_3_code 36 = .ok (.iload_n 1, 1) := by decide +kernel
theorem d1_37 : decode method_3_code 37 = .ok (.iconst 4, 1) := by decide +kernel
theorem d1_38 : decode method_3_code 38 = .ok (.if_icmp .ne 6, 3) := by decide +kernel
theorem d1_41 : decode method_3_code 41 = .ok (.bipush 96, 2) := by decide +kernel
theorem d1_43 : decode method_3_code 43 = .ok (.ireturn, 1) := by decide +kernel
theorem d1_44 : decode method_3_code 44 = .ok (.iload_n 1, 1) := by decide +kernel
theorem d1_45 : decode method_3_code 45 = .ok (.iconst 5, 1) := by decide +kernel
theorem d1_46 : decode method_3_code 46 = .ok (.if_icmp .ne 6, 3) := by decide +kernel
theorem d1_49 : decode method_3_code 49 = .ok (.bipush 97, 2) := by decide +kernel
theorem d1_51 : decode method_3_code 51 = .ok (.ireturn, 1) := by decide +kernel
theorem d1_52 : decode method_3_code 52 = .ok (.iload_n 1, 1) := by decide +kernel
theorem d1_53 : decode method_3_code 53 = .ok (.bipush 6, 2) := by decide +kernel
theorem d1_55 : decode method_3_code 55 = .ok (.if_icmp .ne 6, 3) := by decide +kernel
theorem d1_58 : decode method_3_code 58 = .ok (.bipush 122, 2) := by decide +kernel
theorem d1_60 : decode method_3_code 60 = .ok (.ireturn, 1) := by decide +kernel
theorem d1_61 : decode method_3_code 61 = .ok (.bipush 123, 2) := by decide +kernel
theorem d1_63 : decode method_3_code 63 = .ok (.ireturn, 1) := by decide +kernel
theorem pn_0 : plainName "com/example/albero/albero/TokenizerIsAsciiAlphaPinLaw" = true := by first | (simp [plainName, overriddenIn]; done) | decide +kernel
theorem ef_1 (m : MethodId) (x0 : Int32) : entryFrame m #[(.int x0)] 2 = mkF m 0 #[.val (.int x0), .unset] [] := by first | (simp [entryFrame, mkF, argsToLocals, Value.category]; done) | rfl
def Q1 (Z : State) (x0 : Int32)  (h0 : Heap) (n0 : Nat) (v : Option Value) (h : Heap) (L : List Loc) : Prop := v = some (.int (bnd x0)) ∧ Fr n0 L ∧ h = h0
set_option maxRecDepth 65536 in
set_option maxHeartbeats 40000000 in
theorem rm1 (l : Launch) (Z : State) (a0 : Array Value) (hw : ∀ d ∈ tables_1, d.before a0 Z = true) (ws : List Jvm.Cond) (x0 : Int32)  (h0 : Heap) (n0 : Nat) (Z0 : n0 ≤ h0.size)  :
    MetFree l (⟨"com/example/albero/albero/TokenizerIsAsciiAlphaPinLaw", "boundary", "(I)I"⟩ : MethodName) (head1 (Jvm.Cond.code (⟨"com/example/albero/albero/TokenizerIsAsciiAlphaPinLaw", "boundary", "(I)I"⟩ : MethodName) method_3_code 2 (some .int) :: ws) ({ frames := 0, cells := 0, slots := 0, locals := 0 } : Room)) (fun a U => a = #[(.int x0)] ∧ Z.Warmed39 U.vm ∧ U.heap = h0) (fun _ _ _ _ _ => True) (fun _ U o U' => ∃ v L, o = .returned v ∧ Q1 Z x0 h0 n0 v U'.heap L ∧ FrameEnd U o U' L ({ frames := 0, cells := 0, slots := 0, locals := 0 } : Room).cells ({ frames := 0, cells := 0, slots := 0, locals := 0 } : Room).slots) := by
  refine MetFree.of_bodySF (plainFor_of_name pn_0) hisR ?_
  intro p e s m args below meth c s₁ Bd hml0 hP hK
  obtain ⟨rfl, hZ, hh⟩ := hP
  have hx := Bd.exec
  have hby := Bd.bytes
  have hml : c.maxLocals = 2 := hml0
  have hown : s.vm.findClass "com/example/albero/albero/TokenizerIsAsciiAlphaPinLaw" = some m.cls := findClass_of_methodNamed Bd.named
  have hnm := (name_of_methodNamed Bd.named Bd.method).1
  have hk : meth.locks = false := BodyLoose.notSynchronized Bd
  have X0 : Stand p l e ({ frames := 0, cells := 0, slots := 0, locals := 0 } : Room) s m #[(.int x0)] below meth c s₁ [] 0 0 := Stand.of_body Bd
  have e0 : s₁.heap = h0 := by rw [← hh, Bd.state]; rfl
  have N0 := Fr.nil n0
  show Go p e below s (Q1 Z x0 h0 n0) ({ frames := 0, cells := 0, slots := 0, locals := 0 } : Room).cells ({ frames := 0, cells := 0, slots := 0, locals := 0 } : Room).slots s₁ (entryFrame m #[(.int x0)] 2)
  refine Go.cast (ef_1 m x0) ?_
  refine Go.of (T' := s₁) (f' := (mkF m 1 #[.val (.int x0), .unset] [(.int x0)])) (fun t k => XS.iloadN X0.here hx rfl (hb hby d1_0) rfl k) ?_
  refine Go.of (T' := s₁) (f' := (mkF m 3 #[.val (.int x0), .unset] [(.int (7 : Int32)), (.int x0)])) (fun t k => XS.bipush X0.here hx rfl (hb hby d1_1) k) ?_
  refine Go.of (T' := s₁) (f' := (mkF m 4 #[.val (.int x0), .unset] [(.int (x0 &&& (7 : Int32)))])) (fun t k => XS.iand X0.here hx rfl (hb hby d1_3) rfl k) ?_
  refine Go.of (T' := s₁) (f' := (mkF m 5 #[.val (.int x0), .val (.int (x0 &&& (7 : Int32)))] [])) (fun t k => XS.istoreN X0.here hx rfl (hb hby d1_4) rfl (l' := #[.val (.int x0), .val (.int (x0 &&& (7 : Int32)))]) rfl k) ?_
  refine Go.of (T' := s₁) (f' := (mkF m 6 #[.val (.int x0), .val (.int (x0 &&& (7 : Int32)))] [(.int (x0 &&& (7 : Int32)))])) (fun t k => XS.iloadN X0.here hx rfl (hb hby d1_5) rfl k) ?_
  by_cases hc6 : (x0 &&& (7 : Int32)) = (0 : Int32)
  · -- pc 6: no
    refine Go.of (T' := s₁) (f' := (mkF m 9 #[.val (.int x0), .val (.int (x0 &&& (7 : Int32)))] [])) (fun t k => XS.ifNo X0.here hx rfl (hb hby d1_6) rfl ((if0 _ _).trans (teq hc6).2) k) ?_
    refine Go.of (T' := s₁) (f' := (mkF m 11 #[.val (.int x0), .val (.int (x0 &&& (7 : Int32)))] [(.int (64 : Int32))])) (fun t k => XS.bipush X0.here hx rfl (hb hby d1_9) k) ?_
    refine Go.retI X0 hx hk Bd.returns (hb hby d1_11) (by decide) (by decide) ?_
    rw [e0]
    exact ⟨by simp [bnd, nar, hc6], N0, rfl⟩
  · -- pc 6: yes
    refine Go.of (T' := s₁) (f' := (mkF m 12 #[.val (.int x0), .val (.int (x0 &&& (7 : Int32)))] [])) (fun t k => XS.ifYes X0.here hx rfl (pc0 := 6) (pc' := 12) rfl (hb hby d1_6) rfl ((if0 _ _).trans (feq hc6).2) (by decide) (by decide) k) ?_
    refine Go.of (T' := s₁) (f' := (mkF m 13 #[.val (.int x0), .val (.int (x0 &&& (7 : Int32)))] [(.int (x0 &&& (7 : Int32)))])) (fun t k => XS.iloadN X0.here hx rfl (hb hby d1_12) rfl k) ?_
    refine Go.of (T' := s₁) (f' := (mkF m 14 #[.val (.int x0), .val (.int (x0 &&& (7 : Int32)))] [(.int (1 : Int32)), (.int (x0 &&& (7 : Int32)))])) (fun t k => XS.iconst X0.here hx rfl (hb hby d1_13) k) ?_
    by_cases hc14 : (x0 &&& (7 : Int32)) = (1 : Int32)
    · -- pc 14: no
      refine Go.of (T' := s₁) (f' := (mkF m 17 #[.val (.int x0), .val (.int (x0 &&& (7 : Int32)))] [])) (fun t k => XS.icmpNo X0.here hx rfl (hb hby d1_14) rfl ((teq hc14).2) k) ?_
      refine Go.of (T' := s₁) (f' := (mkF m 19 #[.val (.int x0), .val (.int (x0 &&& (7 : Int32)))] [(.int (65 : Int32))])) (fun t k => XS.bipush X0.here hx rfl (hb hby d1_17) k) ?_
      refine Go.retI X0 hx hk Bd.returns (hb hby d1_19) (by decide) (by decide) ?_
      rw [e0]
      exact ⟨by simp [bnd, nar, hc6, hc14], N0, rfl⟩
    · -- pc 14: yes
      refine Go.of (T' := s₁) (f' := (mkF m 20 #[.val (.int x0), .val (.int (x0 &&& (7 : Int32)))] [])) (fun t k => XS.icmpYes X0.here hx rfl (pc0 := 14) (pc' := 20) rfl (hb hby d1_14) rfl ((feq hc14).2) (by decide) (by decide) k) ?_
      refine Go.of (T' := s₁) (f' := (mkF m 21 #[.val (.int x0), .val (.int (x0 &&& (7 : Int32)))] [(.int (x0 &&& (7 : Int32)))])) (fun t k => XS.iloadN X0.here hx rfl (hb hby d1_20) rfl k) ?_
      refine Go.of (T' := s₁) (f' := (mkF m 22 #[.val (.int x0), .val (.int (x0 &&& (7 : Int32)))] [(.int (2 : Int32)), (.int (x0 &&& (7 : Int32)))])) (fun t k => XS.iconst X0.here hx rfl (hb hby d1_21) k) ?_
      by_cases hc22 : (x0 &&& (7 : Int32)) = (2 : Int32)
      · -- pc 22: no
        refine Go.of (T' := s₁) (f' := (mkF m 25 #[.val (.int x0), .val (.int (x0 &&& (7 : Int32)))] [])) (fun t k => XS.icmpNo X0.here hx rfl (hb hby d1_22) rfl ((teq hc22).2) k) ?_
        refine Go.of (T' := s₁) (f' := (mkF m 27 #[.val (.int x0), .val (.int (x0 &&& (7 : Int32)))] [(.int (90 : Int32))])) (fun t k => XS.bipush X0.here hx rfl (hb hby d1_25) k) ?_
        refine Go.retI X0 hx hk Bd.returns (hb hby d1_27) (by decide) (by decide) ?_
        rw [e0]
        exact ⟨by simp [bnd, nar, hc6, hc14, hc22], N0, rfl⟩
      · -- pc 22: yes
        refine Go.of (T' := s₁) (f' := (mkF m 28 #[.val (.int x0), .val (.int (x0 &&& (7 : Int32)))] [])) (fun t k => XS.icmpYes X0.here hx rfl (pc0 := 22) (pc' := 28) rfl (hb hby d1_22) rfl ((feq hc22).2) (by decide) (by decide) k) ?_
        refine Go.of (T' := s₁) (f' := (mkF m 29 #[.val (.int x0), .val (.int (x0 &&& (7 : Int32)))] [(.int (x0 &&& (7 : Int32)))])) (fun t k => XS.iloadN X0.here hx rfl (hb hby d1_28) rfl k) ?_
        refine Go.of (T' := s₁) (f' := (mkF m 30 #[.val (.int x0), .val (.int (x0 &&& (7 : Int32)))] [(.int (3 : Int32)), (.int (x0 &&& (7 : Int32)))])) (fun t k => XS.iconst X0.here hx rfl (hb hby d1_29) k) ?_
        by_cases hc30 : (x0 &&& (7 : Int32)) = (3 : Int32)
        · -- pc 30: no
          refine Go.of (T' := s₁) (f' := (mkF m 33 #[.val (.int x0), .val (.int (x0 &&& (7 : Int32)))] [])) (fun t k => XS.icmpNo X0.here hx rfl (hb hby d1_30) rfl ((teq hc30).2) k) ?_
          refine Go.of (T' := s₁) (f' := (mkF m 35 #[.val (.int x0), .val (.int (x0 &&& (7 : Int32)))] [(.int (91 : Int32))])) (fun t k => XS.bipush X0.here hx rfl (hb hby d1_33) k) ?_
          refine Go.retI X0 hx hk Bd.returns (hb hby d1_35) (by decide) (by decide) ?_
          rw [e0]
          exact ⟨by simp [bnd, nar, hc6, hc14, hc22, hc30], N0, rfl⟩
        · -- pc 30: yes
          refine Go.of (T' := s₁) (f' := (mkF m 36 #[.val (.int x0), .val (.int (x0 &&& (7 : Int32)))] [])) (fun t k => XS.icmpYes X0.here hx rfl (pc0 := 30) (pc' := 36) rfl (hb hby d1_30) rfl ((feq hc30).2) (by decide) (by decide) k) ?_
          refine Go.of (T' := s₁) (f' := (mkF m 37 #[.val (.int x0), .val (.int (x0 &&& (7 : Int32)))] [(.int (x0 &&& (7 : Int32)))])) (fun t k => XS.iloadN X0.here hx rfl (hb hby d1_36) rfl k) ?_
          refine Go.of (T' := s₁) (f' := (mkF m 38 #[.val (.int x0), .val (.int (x0 &&& (7 : Int32)))] [(.int (4 : Int32)), (.int (x0 &&& (7 : Int32)))])) (fun t k => XS.iconst X0.here hx rfl (hb hby d1_37) k) ?_
          by_cases hc38 : (x0 &&& (7 : Int32)) = (4 : Int32)
          · -- pc 38: no
            refine Go.of (T' := s₁) (f' := (mkF m 41 #[.val (.int x0), .val (.int (x0 &&& (7 : Int32)))] [])) (fun t k => XS.icmpNo X0.here hx rfl (hb hby d1_38) rfl ((teq hc38).2) k) ?_
            refine Go.of (T' := s₁) (f' := (mkF m 43 #[.val (.int x0), .val (.int (x0 &&& (7 : Int32)))] [(.int (96 : Int32))])) (fun t k => XS.bipush X0.here hx rfl (hb hby d1_41) k) ?_
            refine Go.retI X0 hx hk Bd.returns (hb hby d1_43) (by decide) (by decide) ?_
            rw [e0]
            exact ⟨by simp [bnd, nar, hc6, hc14, hc22, hc30, hc38], N0, rfl⟩
          · -- pc 38: yes
            refine Go.of (T' := s₁) (f' := (mkF m 44 #[.val (.int x0), .val (.int (x0 &&& (7 : Int32)))] [])) (fun t k => XS.icmpYes X0.here hx rfl (pc0 := 38) (pc' := 44) rfl (hb hby d1_38) rfl ((feq hc38).2) (by decide) (by decide) k) ?_
            refine Go.of (T' := s₁) (f' := (mkF m 45 #[.val (.int x0), .val (.int (x0 &&& (7 : Int32)))] [(.int (x0 &&& (7 : Int32)))])) (fun t k => XS.iloadN X0.here hx rfl (hb hby d1_44) rfl k) ?_
            refine Go.of (T' := s₁) (f' := (mkF m 46 #[.val (.int x0), .val (.int (x0 &&& (7 : Int32)))] [(.int (5 : Int32)), (.int (x0 &&& (7 : Int32)))])) (fun t k => XS.iconst X0.here hx rfl (hb hby d1_45) k) ?_
            by_cases hc46 : (x0 &&& (7 : Int32)) = (5 : Int32)
            · -- pc 46: no
              refine Go.of (T' := s₁) (f' := (mkF m 49 #[.val (.int x0), .val (.int (x0 &&& (7 : Int32)))] [])) (fun t k => XS.icmpNo X0.here hx rfl (hb hby d1_46) rfl ((teq hc46).2) k) ?_
              refine Go.of (T' := s₁) (f' := (mkF m 51 #[.val (.int x0), .val (.int (x0 &&& (7 : Int32)))] [(.int (97 : Int32))])) (fun t k => XS.bipush X0.here hx rfl (hb hby d1_49) k) ?_
              refine Go.retI X0 hx hk Bd.returns (hb hby d1_51) (by decide) (by decide) ?_
              rw [e0]
              exact ⟨by simp [bnd, nar, hc6, hc14, hc22, hc30, hc38, hc46], N0, rfl⟩
            · -- pc 46: yes
              refine Go.of (T' := s₁) (f' := (mkF m 52 #[.val (.int x0), .val (.int (x0 &&& (7 : Int32)))] [])) (fun t k => XS.icmpYes X0.here hx rfl (pc0 := 46) (pc' := 52) rfl (hb hby d1_46) rfl ((feq hc46).2) (by decide) (by decide) k) ?_
              refine Go.of (T' := s₁) (f' := (mkF m 53 #[.val (.int x0), .val (.int (x0 &&& (7 : Int32)))] [(.int (x0 &&& (7 : Int32)))])) (fun t k => XS.iloadN X0.here hx rfl (hb hby d1_52) rfl k) ?_
              refine Go.of (T' := s₁) (f' := (mkF m 55 #[.val (.int x0), .val (.int (x0 &&& (7 : Int32)))] [(.int (6 : Int32)), (.int (x0 &&& (7 : Int32)))])) (fun t k => XS.bipush X0.here hx rfl (hb hby d1_53) k) ?_
              by_cases hc55 : (x0 &&& (7 : Int32)) = (6 : Int32)
              · -- pc 55: no
                refine Go.of (T' := s₁) (f' := (mkF m 58 #[.val (.int x0), .val (.int (x0 &&& (7 : Int32)))] [])) (fun t k => XS.icmpNo X0.here hx rfl (hb hby d1_55) rfl ((teq hc55).2) k) ?_
                refine Go.of (T' := s₁) (f' := (mkF m 60 #[.val (.int x0), .val (.int (x0 &&& (7 : Int32)))] [(.int (122 : Int32))])) (fun t k => XS.bipush X0.here hx rfl (hb hby d1_58) k) ?_
                refine Go.retI X0 hx hk Bd.returns (hb hby d1_60) (by decide) (by decide) ?_
                rw [e0]
                exact ⟨by simp [bnd, nar, hc6, hc14, hc22, hc30, hc38, hc46, hc55], N0, rfl⟩
              · -- pc 55: yes
                refine Go.of (T' := s₁) (f' := (mkF m 61 #[.val (.int x0), .val (.int (x0 &&& (7 : Int32)))] [])) (fun t k => XS.icmpYes X0.here hx rfl (pc0 := 55) (pc' := 61) rfl (hb hby d1_55) rfl ((feq hc55).2) (by decide) (by decide) k) ?_
                refine Go.of (T' := s₁) (f' := (mkF m 63 #[.val (.int x0), .val (.int (x0 &&& (7 : Int32)))] [(.int (123 : Int32))])) (fun t k => XS.bipush X0.here hx rfl (hb hby d1_61) k) ?_
                refine Go.retI X0 hx hk Bd.returns (hb hby d1_63) (by decide) (by decide) ?_
                rw [e0]
                exact ⟨by simp [bnd, nar, hc6, hc14, hc22, hc30, hc38, hc46, hc55], N0, rfl⟩
theorem d2_0 : decode prog_49_method_82_code 0 = .ok (.iload_n 0, 1) := by decide +kernel
theorem d2_1 : decode prog_49_method_82_code 1 = .ok (.bipush 97, 2) := by decide +kernel
theorem d2_3 : decode prog_49_method_82_code 3 = .ok (.if_icmp .lt 9, 3) := by decide +kernel
theorem d2_6 : decode prog_49_method_82_code 6 = .ok (.iload_n 0, 1) := by decide +kernel
theorem d2_7 : decode prog_49_method_82_code 7 = .ok (.bipush 122, 2) := by decide +kernel
theorem d2_9 : decode prog_49_method_82_code 9 = .ok (.if_icmp .le 15, 3) := by decide +kernel
theorem d2_12 : decode prog_49_method_82_code 12 = .ok (.iload_n 0, 1) := by decide +kernel
theorem d2_13 : decode prog_49_method_82_code 13 = .ok (.bipush 65, 2) := by decide +kernel
theorem d2_15 : decode prog_49_method_82_code 15 = .ok (.if_icmp .lt 13, 3) := by decide +kernel
theorem d2_18 : decode prog_49_method_82_code 18 = .ok (.iload_n 0, 1) := by decide +kernel
theorem d2_19 : decode prog_49_method_82_code 19 = .ok (.bipush 90, 2) := by decide +kernel
theorem d2_21 : decode prog_49_method_82_code 21 = .ok (.if_icmp .gt 7, 3) := by decide +kernel
theorem d2_24 : decode prog_49_method_82_code 24 = .ok (.iconst 1, 1) := by decide +kernel
theorem d2_25 : decode prog_49_method_82_code 25 = .ok (.goto 4, 3) := by decide +kernel
theorem d2_28 : decode prog_49_method_82_code 28 = .ok (.iconst 0, 1) := by decide +kernel
theorem d2_29 : decode prog_49_method_82_code 29 = .ok (.ireturn, 1) := by decide +kernel
theorem pn_1 : plainName "com/example/albero/albero/Tokenizer" = true := by first | (simp [plainName, overriddenIn]; done) | decide +kernel
theorem ef_2 (m : MethodId) (x0 : Int32) : entryFrame m #[(.int x0)] 1 = mkF m 0 #[.val (.int x0)] [] := by first | (simp [entryFrame, mkF, argsToLocals, Value.category]; done) | rfl
def Q2 (Z : State) (x0 : Int32)  (h0 : Heap) (n0 : Nat) (v : Option Value) (h : Heap) (L : List Loc) : Prop := v = some (.int (alphaV x0)) ∧ Fr n0 L ∧ h = h0
set_option maxRecDepth 65536 in
set_option maxHeartbeats 40000000 in
theorem rm2 (l : Launch) (Z : State) (a0 : Array Value) (hw : ∀ d ∈ tables_1, d.before a0 Z = true) (ws : List Jvm.Cond) (x0 : Int32)  (h0 : Heap) (n0 : Nat) (Z0 : n0 ≤ h0.size)  :
    MetFree l (⟨"com/example/albero/albero/Tokenizer", "isAsciiAlpha", "(I)Z"⟩ : MethodName) (head1 (Jvm.Cond.code (⟨"com/example/albero/albero/Tokenizer", "isAsciiAlpha", "(I)Z"⟩ : MethodName) prog_49_method_82_code 1 (some .boolean) :: ws) ({ frames := 0, cells := 0, slots := 0, locals := 0 } : Room)) (fun a U => a = #[(.int x0)] ∧ Z.Warmed39 U.vm ∧ U.heap = h0) (fun _ _ _ _ _ => True) (fun _ U o U' => ∃ v L, o = .returned v ∧ Q2 Z x0 h0 n0 v U'.heap L ∧ FrameEnd U o U' L ({ frames := 0, cells := 0, slots := 0, locals := 0 } : Room).cells ({ frames := 0, cells := 0, slots := 0, locals := 0 } : Room).slots) := by
  refine MetFree.of_bodySF (plainFor_of_name pn_1) hisR ?_
  intro p e s m args below meth c s₁ Bd hml0 hP hK
  obtain ⟨rfl, hZ, hh⟩ := hP
  have hx := Bd.exec
  have hby := Bd.bytes
  have hml : c.maxLocals = 1 := hml0
  have hown : s.vm.findClass "com/example/albero/albero/Tokenizer" = some m.cls := findClass_of_methodNamed Bd.named
  have hnm := (name_of_methodNamed Bd.named Bd.method).1
  have hk : meth.locks = false := BodyLoose.notSynchronized Bd
  have X0 : Stand p l e ({ frames := 0, cells := 0, slots := 0, locals := 0 } : Room) s m #[(.int x0)] below meth c s₁ [] 0 0 := Stand.of_body Bd
  have e0 : s₁.heap = h0 := by rw [← hh, Bd.state]; rfl
  have N0 := Fr.nil n0
  show Go p e below s (Q2 Z x0 h0 n0) ({ frames := 0, cells := 0, slots := 0, locals := 0 } : Room).cells ({ frames := 0, cells := 0, slots := 0, locals := 0 } : Room).slots s₁ (entryFrame m #[(.int x0)] 1)
  refine Go.cast (ef_2 m x0) ?_
  refine Go.of (T' := s₁) (f' := (mkF m 1 #[.val (.int x0)] [(.int x0)])) (fun t k => XS.iloadN X0.here hx rfl (hb hby d2_0) rfl k) ?_
  refine Go.of (T' := s₁) (f' := (mkF m 3 #[.val (.int x0)] [(.int (97 : Int32)), (.int x0)])) (fun t k => XS.bipush X0.here hx rfl (hb hby d2_1) k) ?_
  by_cases hc3 : x0 < (97 : Int32)
  · -- pc 3: yes
    refine Go.of (T' := s₁) (f' := (mkF m 12 #[.val (.int x0)] [])) (fun t k => XS.icmpYes X0.here hx rfl (pc0 := 3) (pc' := 12) rfl (hb hby d2_3) rfl ((tlt hc3).1) (by decide) (by decide) k) ?_
    refine Go.of (T' := s₁) (f' := (mkF m 13 #[.val (.int x0)] [(.int x0)])) (fun t k => XS.iloadN X0.here hx rfl (hb hby d2_12) rfl k) ?_
    refine Go.of (T' := s₁) (f' := (mkF m 15 #[.val (.int x0)] [(.int (65 : Int32)), (.int x0)])) (fun t k => XS.bipush X0.here hx rfl (hb hby d2_13) k) ?_
    by_cases hc15 : x0 < (65 : Int32)
    · -- pc 15: yes
      refine Go.of (T' := s₁) (f' := (mkF m 28 #[.val (.int x0)] [])) (fun t k => XS.icmpYes X0.here hx rfl (pc0 := 15) (pc' := 28) rfl (hb hby d2_15) rfl ((tlt hc15).1) (by decide) (by decide) k) ?_
      refine Go.of (T' := s₁) (f' := (mkF m 29 #[.val (.int x0)] [(.int (0 : Int32))])) (fun t k => XS.iconst X0.here hx rfl (hb hby d2_28) k) ?_
      refine Go.retZ X0 hx hk (t := .boolean) Bd.returns (by simp) (hb hby d2_29) (by decide) (by decide) ?_
      rw [e0]
      exact ⟨by simp [alphaV, nar, hc3, hc15], N0, rfl⟩
    · -- pc 15: no
      refine Go.of (T' := s₁) (f' := (mkF m 18 #[.val (.int x0)] [])) (fun t k => XS.icmpNo X0.here hx rfl (hb hby d2_15) rfl ((flt hc15).1) k) ?_
      refine Go.of (T' := s₁) (f' := (mkF m 19 #[.val (.int x0)] [(.int x0)])) (fun t k => XS.iloadN X0.here hx rfl (hb hby d2_18) rfl k) ?_
      refine Go.of (T' := s₁) (f' := (mkF m 21 #[.val (.int x0)] [(.int (90 : Int32)), (.int x0)])) (fun t k => XS.bipush X0.here hx rfl (hb hby d2_19) k) ?_
      by_cases hc21 : (90 : Int32) < x0
      · -- pc 21: yes
        refine Go.of (T' := s₁) (f' := (mkF m 28 #[.val (.int x0)] [])) (fun t k => XS.icmpYes X0.here hx rfl (pc0 := 21) (pc' := 28) rfl (hb hby d2_21) rfl ((tlt hc21).2.2.1) (by decide) (by decide) k) ?_
        refine Go.of (T' := s₁) (f' := (mkF m 29 #[.val (.int x0)] [(.int (0 : Int32))])) (fun t k => XS.iconst X0.here hx rfl (hb hby d2_28) k) ?_
        refine Go.retZ X0 hx hk (t := .boolean) Bd.returns (by simp) (hb hby d2_29) (by decide) (by decide) ?_
        rw [e0]
        exact ⟨by simp [alphaV, nar, hc3, hc15, hc21], N0, rfl⟩
      · -- pc 21: no
        refine Go.of (T' := s₁) (f' := (mkF m 24 #[.val (.int x0)] [])) (fun t k => XS.icmpNo X0.here hx rfl (hb hby d2_21) rfl ((flt hc21).2.2.1) k) ?_
        refine Go.of (T' := s₁) (f' := (mkF m 25 #[.val (.int x0)] [(.int (1 : Int32))])) (fun t k => XS.iconst X0.here hx rfl (hb hby d2_24) k) ?_
        refine Go.of (T' := s₁) (f' := (mkF m 29 #[.val (.int x0)] [(.int (1 : Int32))])) (fun t k => XS.goto X0.here hx rfl (pc0 := 25) (pc' := 29) rfl (hb hby d2_25) (by decide) (by decide) k) ?_
        refine Go.retZ X0 hx hk (t := .boolean) Bd.returns (by simp) (hb hby d2_29) (by decide) (by decide) ?_
        rw [e0]
        exact ⟨by simp [alphaV, nar, hc3, hc15, hc21], N0, rfl⟩
  · -- pc 3: no
    refine Go.of (T' := s₁) (f' := (mkF m 6 #[.val (.int x0)] [])) (fun t k => XS.icmpNo X0.here hx rfl (hb hby d2_3) rfl ((flt hc3).1) k) ?_
    refine Go.of (T' := s₁) (f' := (mkF m 7 #[.val (.int x0)] [(.int x0)])) (fun t k => XS.iloadN X0.here hx rfl (hb hby d2_6) rfl k) ?_
    refine Go.of (T' := s₁) (f' := (mkF m 9 #[.val (.int x0)] [(.int (122 : Int32)), (.int x0)])) (fun t k => XS.bipush X0.here hx rfl (hb hby d2_7) k) ?_
    by_cases hc9 : (122 : Int32) < x0
    · -- pc 9: no
      refine Go.of (T' := s₁) (f' := (mkF m 12 #[.val (.int x0)] [])) (fun t k => XS.icmpNo X0.here hx rfl (hb hby d2_9) rfl ((tlt hc9).2.2.2) k) ?_
      refine Go.of (T' := s₁) (f' := (mkF m 13 #[.val (.int x0)] [(.int x0)])) (fun t k => XS.iloadN X0.here hx rfl (hb hby d2_12) rfl k) ?_
      refine Go.of (T' := s₁) (f' := (mkF m 15 #[.val (.int x0)] [(.int (65 : Int32)), (.int x0)])) (fun t k => XS.bipush X0.here hx rfl (hb hby d2_13) k) ?_
      by_cases hc15 : x0 < (65 : Int32)
      · -- pc 15: yes
        refine Go.of (T' := s₁) (f' := (mkF m 28 #[.val (.int x0)] [])) (fun t k => XS.icmpYes X0.here hx rfl (pc0 := 15) (pc' := 28) rfl (hb hby d2_15) rfl ((tlt hc15).1) (by decide) (by decide) k) ?_
        refine Go.of (T' := s₁) (f' := (mkF m 29 #[.val (.int x0)] [(.int (0 : Int32))])) (fun t k => XS.iconst X0.here hx rfl (hb hby d2_28) k) ?_
        refine Go.retZ X0 hx hk (t := .boolean) Bd.returns (by simp) (hb hby d2_29) (by decide) (by decide) ?_
        rw [e0]
        exact ⟨by simp [alphaV, nar, hc3, hc9, hc15], N0, rfl⟩
      · -- pc 15: no
        refine Go.of (T' := s₁) (f' := (mkF m 18 #[.val (.int x0)] [])) (fun t k => XS.icmpNo X0.here hx rfl (hb hby d2_15) rfl ((flt hc15).1) k) ?_
        refine Go.of (T' := s₁) (f' := (mkF m 19 #[.val (.int x0)] [(.int x0)])) (fun t k => XS.iloadN X0.here hx rfl (hb hby d2_18) rfl k) ?_
        refine Go.of (T' := s₁) (f' := (mkF m 21 #[.val (.int x0)] [(.int (90 : Int32)), (.int x0)])) (fun t k => XS.bipush X0.here hx rfl (hb hby d2_19) k) ?_
        by_cases hc21 : (90 : Int32) < x0
        · -- pc 21: yes
          refine Go.of (T' := s₁) (f' := (mkF m 28 #[.val (.int x0)] [])) (fun t k => XS.icmpYes X0.here hx rfl (pc0 := 21) (pc' := 28) rfl (hb hby d2_21) rfl ((tlt hc21).2.2.1) (by decide) (by decide) k) ?_
          refine Go.of (T' := s₁) (f' := (mkF m 29 #[.val (.int x0)] [(.int (0 : Int32))])) (fun t k => XS.iconst X0.here hx rfl (hb hby d2_28) k) ?_
          refine Go.retZ X0 hx hk (t := .boolean) Bd.returns (by simp) (hb hby d2_29) (by decide) (by decide) ?_
          rw [e0]
          exact ⟨by simp [alphaV, nar, hc3, hc9, hc15, hc21], N0, rfl⟩
        · -- pc 21: no
          refine Go.of (T' := s₁) (f' := (mkF m 24 #[.val (.int x0)] [])) (fun t k => XS.icmpNo X0.here hx rfl (hb hby d2_21) rfl ((flt hc21).2.2.1) k) ?_
          refine Go.of (T' := s₁) (f' := (mkF m 25 #[.val (.int x0)] [(.int (1 : Int32))])) (fun t k => XS.iconst X0.here hx rfl (hb hby d2_24) k) ?_
          refine Go.of (T' := s₁) (f' := (mkF m 29 #[.val (.int x0)] [(.int (1 : Int32))])) (fun t k => XS.goto X0.here hx rfl (pc0 := 25) (pc' := 29) rfl (hb hby d2_25) (by decide) (by decide) k) ?_
          refine Go.retZ X0 hx hk (t := .boolean) Bd.returns (by simp) (hb hby d2_29) (by decide) (by decide) ?_
          rw [e0]
          exact ⟨by simp [alphaV, nar, hc3, hc9, hc15, hc21], N0, rfl⟩
    · -- pc 9: yes
      refine Go.of (T' := s₁) (f' := (mkF m 24 #[.val (.int x0)] [])) (fun t k => XS.icmpYes X0.here hx rfl (pc0 := 9) (pc' := 24) rfl (hb hby d2_9) rfl ((flt hc9).2.2.2) (by decide) (by decide) k) ?_
      refine Go.of (T' := s₁) (f' := (mkF m 25 #[.val (.int x0)] [(.int (1 : Int32))])) (fun t k => XS.iconst X0.here hx rfl (hb hby d2_24) k) ?_
      refine Go.of (T' := s₁) (f' := (mkF m 29 #[.val (.int x0)] [(.int (1 : Int32))])) (fun t k => XS.goto X0.here hx rfl (pc0 := 25) (pc' := 29) rfl (hb hby d2_25) (by decide) (by decide) k) ?_
      refine Go.retZ X0 hx hk (t := .boolean) Bd.returns (by simp) (hb hby d2_29) (by decide) (by decide) ?_
      rw [e0]
      exact ⟨by simp [alphaV, nar, hc3, hc9], N0, rfl⟩
theorem d3_0 : decode method_2_code 0 = .ok (.iload_n 0, 1) := by decide +kernel
theorem d3_1 : decode method_2_code 1 = .ok (.bipush 32, 2) := by decide +kernel
theorem d3_3 : decode method_2_code 3 = .ok (.ior, 1) := by decide +kernel
theorem d3_4 : decode method_2_code 4 = .ok (.istore_n 1, 1) := by decide +kernel
theorem d3_5 : decode method_2_code 5 = .ok (.iload_n 1, 1) := by decide +kernel
theorem d3_6 : decode method_2_code 6 = .ok (.bipush 97, 2) := by decide +kernel
theorem d3_8 : decode method_2_code 8 = .ok (.if_icmp .lt 13, 3) := by decide +kernel
theorem d3_11 : decode method_2_code 11 = .ok (.iload_n 1, 1) := by decide +kernel
theorem d3_12 : decode method_2_code 12 = .ok (.bipush 122, 2) := by decide +kernel
theorem d3_14 : decode method_2_code 14 = .ok (.if_icmp .gt 7, 3) := by decide +kernel
theorem d3_17 : decode method_2_code 17 = .ok (.iconst 1, 1) := by decide +kernel
theorem d3_18 : decode method_2_code 18 = .ok (.goto 4, 3) := by decide +kernel
theorem d3_21 : decode method_2_code 21 = .ok (.iconst 0, 1) := by decide +kernel
theorem d3_22 : decode method_2_code 22 = .ok (.ireturn, 1) := by decide +kernel
theorem ef_3 (m : MethodId) (x0 : Int32) : entryFrame m #[(.int x0)] 2 = mkF m 0 #[.val (.int x0), .unset] [] := by first | (simp [entryFrame, mkF, argsToLocals, Value.category]; done) | rfl
def Q3 (Z : State) (x0 : Int32)  (h0 : Heap) (n0 : Nat) (v : Option Value) (h : Heap) (L : List Loc) : Prop := v = some (.int (refV x0)) ∧ Fr n0 L ∧ h = h0
set_option maxRecDepth 65536 in
set_option maxHeartbeats 40000000 in
theorem rm3 (l : Launch) (Z : State) (a0 : Array Value) (hw : ∀ d ∈ tables_1, d.before a0 Z = true) (ws : List Jvm.Cond) (x0 : Int32)  (h0 : Heap) (n0 : Nat) (Z0 : n0 ≤ h0.size)  :
    MetFree l (⟨"com/example/albero/albero/TokenizerIsAsciiAlphaPinLaw", "reference", "(I)Z"⟩ : MethodName) (head1 (Jvm.Cond.code (⟨"com/example/albero/albero/TokenizerIsAsciiAlphaPinLaw", "reference", "(I)Z"⟩ : MethodName) method_2_code 2 (some .boolean) :: ws) ({ frames := 0, cells := 0, slots := 0, locals := 0 } : Room)) (fun a U => a = #[(.int x0)] ∧ Z.Warmed39 U.vm ∧ U.heap = h0) (fun _ _ _ _ _ => True) (fun _ U o U' => ∃ v L, o = .returned v ∧ Q3 Z x0 h0 n0 v U'.heap L ∧ FrameEnd U o U' L ({ frames := 0, cells := 0, slots := 0, locals := 0 } : Room).cells ({ frames := 0, cells := 0, slots := 0, locals := 0 } : Room).slots) := by
  refine MetFree.of_bodySF (plainFor_of_name pn_0) hisR ?_
  intro p e s m args below meth c s₁ Bd hml0 hP hK
  obtain ⟨rfl, hZ, hh⟩ := hP
  have hx := Bd.exec
  have hby := Bd.bytes
  have hml : c.maxLocals = 2 := hml0
  have hown : s.vm.findClass "com/example/albero/albero/TokenizerIsAsciiAlphaPinLaw" = some m.cls := findClass_of_methodNamed Bd.named
  have hnm := (name_of_methodNamed Bd.named Bd.method).1
  have hk : meth.locks = false := BodyLoose.notSynchronized Bd
  have X0 : Stand p l e ({ frames := 0, cells := 0, slots := 0, locals := 0 } : Room) s m #[(.int x0)] below meth c s₁ [] 0 0 := Stand.of_body Bd
  have e0 : s₁.heap = h0 := by rw [← hh, Bd.state]; rfl
  have N0 := Fr.nil n0
  show Go p e below s (Q3 Z x0 h0 n0) ({ frames := 0, cells := 0, slots := 0, locals := 0 } : Room).cells ({ frames := 0, cells := 0, slots := 0, locals := 0 } : Room).slots s₁ (entryFrame m #[(.int x0)] 2)
  refine Go.cast (ef_3 m x0) ?_
  refine Go.of (T' := s₁) (f' := (mkF m 1 #[.val (.int x0), .unset] [(.int x0)])) (fun t k => XS.iloadN X0.here hx rfl (hb hby d3_0) rfl k) ?_
  refine Go.of (T' := s₁) (f' := (mkF m 3 #[.val (.int x0), .unset] [(.int (32 : Int32)), (.int x0)])) (fun t k => XS.bipush X0.here hx rfl (hb hby d3_1) k) ?_
  refine Go.of (T' := s₁) (f' := (mkF m 4 #[.val (.int x0), .unset] [(.int (x0 ||| (32 : Int32)))])) (fun t k => XS.ior X0.here hx rfl (hb hby d3_3) rfl k) ?_
  refine Go.of (T' := s₁) (f' := (mkF m 5 #[.val (.int x0), .val (.int (x0 ||| (32 : Int32)))] [])) (fun t k => XS.istoreN X0.here hx rfl (hb hby d3_4) rfl (l' := #[.val (.int x0), .val (.int (x0 ||| (32 : Int32)))]) rfl k) ?_
  refine Go.of (T' := s₁) (f' := (mkF m 6 #[.val (.int x0), .val (.int (x0 ||| (32 : Int32)))] [(.int (x0 ||| (32 : Int32)))])) (fun t k => XS.iloadN X0.here hx rfl (hb hby d3_5) rfl k) ?_
  refine Go.of (T' := s₁) (f' := (mkF m 8 #[.val (.int x0), .val (.int (x0 ||| (32 : Int32)))] [(.int (97 : Int32)), (.int (x0 ||| (32 : Int32)))])) (fun t k => XS.bipush X0.here hx rfl (hb hby d3_6) k) ?_
  by_cases hc8 : (x0 ||| (32 : Int32)) < (97 : Int32)
  · -- pc 8: yes
    refine Go.of (T' := s₁) (f' := (mkF m 21 #[.val (.int x0), .val (.int (x0 ||| (32 : Int32)))] [])) (fun t k => XS.icmpYes X0.here hx rfl (pc0 := 8) (pc' := 21) rfl (hb hby d3_8) rfl ((tlt hc8).1) (by decide) (by decide) k) ?_
    refine Go.of (T' := s₁) (f' := (mkF m 22 #[.val (.int x0), .val (.int (x0 ||| (32 : Int32)))] [(.int (0 : Int32))])) (fun t k => XS.iconst X0.here hx rfl (hb hby d3_21) k) ?_
    refine Go.retZ X0 hx hk (t := .boolean) Bd.returns (by simp) (hb hby d3_22) (by decide) (by decide) ?_
    rw [e0]
    exact ⟨by simp [refV, nar, hc8], N0, rfl⟩
  · -- pc 8: no
    refine Go.of (T' := s₁) (f' := (mkF m 11 #[.val (.int x0), .val (.int (x0 ||| (32 : Int32)))] [])) (fun t k => XS.icmpNo X0.here hx rfl (hb hby d3_8) rfl ((flt hc8).1) k) ?_
    refine Go.of (T' := s₁) (f' := (mkF m 12 #[.val (.int x0), .val (.int (x0 ||| (32 : Int32)))] [(.int (x0 ||| (32 : Int32)))])) (fun t k => XS.iloadN X0.here hx rfl (hb hby d3_11) rfl k) ?_
    refine Go.of (T' := s₁) (f' := (mkF m 14 #[.val (.int x0), .val (.int (x0 ||| (32 : Int32)))] [(.int (122 : Int32)), (.int (x0 ||| (32 : Int32)))])) (fun t k => XS.bipush X0.here hx rfl (hb hby d3_12) k) ?_
    by_cases hc14 : (122 : Int32) < (x0 ||| (32 : Int32))
    · -- pc 14: yes
      refine Go.of (T' := s₁) (f' := (mkF m 21 #[.val (.int x0), .val (.int (x0 ||| (32 : Int32)))] [])) (fun t k => XS.icmpYes X0.here hx rfl (pc0 := 14) (pc' := 21) rfl (hb hby d3_14) rfl ((tlt hc14).2.2.1) (by decide) (by decide) k) ?_
      refine Go.of (T' := s₁) (f' := (mkF m 22 #[.val (.int x0), .val (.int (x0 ||| (32 : Int32)))] [(.int (0 : Int32))])) (fun t k => XS.iconst X0.here hx rfl (hb hby d3_21) k) ?_
      refine Go.retZ X0 hx hk (t := .boolean) Bd.returns (by simp) (hb hby d3_22) (by decide) (by decide) ?_
      rw [e0]
      exact ⟨by simp [refV, nar, hc8, hc14], N0, rfl⟩
    · -- pc 14: no
      refine Go.of (T' := s₁) (f' := (mkF m 17 #[.val (.int x0), .val (.int (x0 ||| (32 : Int32)))] [])) (fun t k => XS.icmpNo X0.here hx rfl (hb hby d3_14) rfl ((flt hc14).2.2.1) k) ?_
      refine Go.of (T' := s₁) (f' := (mkF m 18 #[.val (.int x0), .val (.int (x0 ||| (32 : Int32)))] [(.int (1 : Int32))])) (fun t k => XS.iconst X0.here hx rfl (hb hby d3_17) k) ?_
      refine Go.of (T' := s₁) (f' := (mkF m 22 #[.val (.int x0), .val (.int (x0 ||| (32 : Int32)))] [(.int (1 : Int32))])) (fun t k => XS.goto X0.here hx rfl (pc0 := 18) (pc' := 22) rfl (hb hby d3_18) (by decide) (by decide) k) ?_
      refine Go.retZ X0 hx hk (t := .boolean) Bd.returns (by simp) (hb hby d3_22) (by decide) (by decide) ?_
      rw [e0]
      exact ⟨by simp [refV, nar, hc8, hc14], N0, rfl⟩
theorem pd_0 : parseMethodDescriptor "(I)I" = some ⟨[.int], some .int⟩ := by decide +kernel
theorem pd_1 : parseMethodDescriptor "(I)Z" = some ⟨[.int], some .boolean⟩ := by decide +kernel
theorem ef_0 (m : MethodId) (x0 : Int32) (x1 : Int32) : entryFrame m #[(.int x0), (.int x1)] maxLocals = mkF m 0 #[.val (.int x0), .val (.int x1), .unset, .unset, .unset] [] := by first | (simp [entryFrame, mkF, argsToLocals, Value.category, maxLocals]; done) | rfl
def Q0 (Z : State) (x0 : Int32) (x1 : Int32)  (h0 : Heap) (n0 : Nat) (v : Option Value) (h : Heap) (L : List Loc) : Prop := v = some (.int (1 : Int32)) ∧ Fr n0 L
set_option maxRecDepth 65536 in
set_option maxHeartbeats 40000000 in
theorem rm0 (l : Launch) (Z : State) (a0 : Array Value) (hw : ∀ d ∈ tables_1, d.before a0 Z = true) (ws : List Jvm.Cond) (x0 : Int32) (x1 : Int32)  (h0 : Heap) (n0 : Nat) (Z0 : n0 ≤ h0.size)  :
    MetFree l x (head1 (Jvm.Cond.code x code maxLocals ret :: ws) room_1) (fun a U => a = #[(.int x0), (.int x1)] ∧ Z.Warmed39 U.vm ∧ U.heap = h0) (fun _ _ _ _ _ => True) (fun _ U o U' => ∃ v L, o = .returned v ∧ Q0 Z x0 x1 h0 n0 v U'.heap L ∧ FrameEnd U o U' L 0 0) := by
  refine MetFree.of_bodySF (plainFor_of_name pn_0) hisR ?_
  intro p e s m args below meth c s₁ Bd hml0 hP hK
  obtain ⟨rfl, hZ, hh⟩ := hP
  have hx := Bd.exec
  have hby := Bd.bytes
  have hml : c.maxLocals = 5 := hml0
  have hown : s.vm.findClass "com/example/albero/albero/TokenizerIsAsciiAlphaPinLaw" = some m.cls := findClass_of_methodNamed Bd.named
  have hnm := (name_of_methodNamed Bd.named Bd.method).1
  have hk : meth.locks = false := BodyLoose.notSynchronized Bd
  have X0 : Stand p l e room_1 s m #[(.int x0), (.int x1)] below meth c s₁ [] 0 0 := Stand.of_body Bd
  have e0 : s₁.heap = h0 := by rw [← hh, Bd.state]; rfl
  have N0 := Fr.nil n0
  show Go p e below s (Q0 Z x0 x1 h0 n0) 0 0 s₁ (entryFrame m #[(.int x0), (.int x1)] maxLocals)
  refine Go.cast (ef_0 m x0 x1) ?_
  refine Go.of (T' := s₁) (f' := (mkF m 1 #[.val (.int x0), .val (.int x1), .unset, .unset, .unset] [(.int x1)])) (fun t k => XS.iloadN X0.here hx rfl (hb hby at_0) rfl k) ?_
  obtain ⟨_, _, ⟨T1, L1, k1, n1⟩, -, X1, ⟨Lc1, hQ1, l1, y1, z1⟩, st1⟩ := Jvm.LawKit.callS X0 hx (y := (⟨"com/example/albero/albero/TokenizerIsAsciiAlphaPinLaw", "boundary", "(I)I"⟩ : MethodName)) hown (mvT hZ (hw _ (List.mem_of_getElem? (i := 0) rfl))) (mvT hZ (hw _ (List.mem_of_getElem? (i := 1) rfl))) (mvT hZ (hw _ (List.mem_of_getElem? (i := 2) rfl))) (mvT hZ (hw _ (List.mem_of_getElem? (i := 3) rfl))) (by decide) (backOf (W := 0) (rm1 l Z a0 hw [] x1 h0 n0 Z0 ) hZ (hw _ (List.mem_of_getElem? (i := 3) rfl)) (hw _ (List.mem_of_getElem? (i := 2) rfl)) (by decide) (by decide)) (g := (mkF m 1 #[.val (.int x0), .val (.int x1), .unset, .unset, .unset] [(.int x1)])) rfl (by rw [hml]; rfl) (argsL := [(.int x1)]) (rest := []) (lenOf pd_0 rfl) rfl (by show 2 * 0 + _ ≤ _; exact Nat.le_of_eq rfl) (hb hby at_1) (fun _ _ => ⟨rfl, e0, (by decide : 0 + 0 ≤ _), (by decide : 0 + 0 ≤ _)⟩)
  dsimp only [Pt.U, Pt.locs, Pt.cells, Pt.slots] at X1 l1 y1 z1 st1 hQ1
  subst l1 y1 z1
  obtain ⟨rfl, N1q, e1⟩ := hQ1
  have N1 := Fr.app N0 N1q
  refine Go.of (T' := T1) (f' := (mkF m 4 #[.val (.int x0), .val (.int x1), .unset, .unset, .unset] [(.int (bnd x1))])) (fun t k => st1 t k) ?_
  refine Go.of (T' := T1) (f' := (mkF m 5 #[.val (.int x0), .val (.int x1), .val (.int (bnd x1)), .unset, .unset] [])) (fun t k => XS.istoreN X1.here hx rfl (hb hby at_4) rfl (l' := #[.val (.int x0), .val (.int x1), .val (.int (bnd x1)), .unset, .unset]) rfl k) ?_
  refine Go.of (T' := T1) (f' := (mkF m 6 #[.val (.int x0), .val (.int x1), .val (.int (bnd x1)), .unset, .unset] [(.int x0)])) (fun t k => XS.iloadN X1.here hx rfl (hb hby at_5) rfl k) ?_
  obtain ⟨_, _, ⟨T2, L2, k2, n2⟩, -, X2, ⟨Lc2, hQ2, l2, y2, z2⟩, st2⟩ := Jvm.LawKit.callS X1 hx (y := (⟨"com/example/albero/albero/Tokenizer", "isAsciiAlpha", "(I)Z"⟩ : MethodName)) hown (mvT hZ (hw _ (List.mem_of_getElem? (i := 4) rfl))) (mvT hZ (hw _ (List.mem_of_getElem? (i := 5) rfl))) (mvT hZ (hw _ (List.mem_of_getElem? (i := 6) rfl))) (mvT hZ (hw _ (List.mem_of_getElem? (i := 7) rfl))) (by decide) (backOf (W := 0) (rm2 l Z a0 hw [] x0 h0 n0 Z0 ) hZ (hw _ (List.mem_of_getElem? (i := 7) rfl)) (hw _ (List.mem_of_getElem? (i := 6) rfl)) (by decide) (by decide)) (g := (mkF m 6 #[.val (.int x0), .val (.int x1), .val (.int (bnd x1)), .unset, .unset] [(.int x0)])) rfl (by rw [hml]; rfl) (argsL := [(.int x0)]) (rest := []) (lenOf pd_1 rfl) rfl (by show 2 * 0 + _ ≤ _; exact Nat.le_of_eq rfl) (hb hby at_6) (fun _ _ => ⟨rfl, e1, (by decide : 0 + 0 ≤ _), (by decide : 0 + 0 ≤ _)⟩)
  dsimp only [Pt.U, Pt.locs, Pt.cells, Pt.slots] at X2 l2 y2 z2 st2 hQ2
  subst l2 y2 z2
  obtain ⟨rfl, N2q, e2⟩ := hQ2
  have N2 := Fr.app N1 N2q
  refine Go.of (T' := T2) (f' := (mkF m 9 #[.val (.int x0), .val (.int x1), .val (.int (bnd x1)), .unset, .unset] [(.int (alphaV x0))])) (fun t k => st2 t k) ?_
  refine Go.of (T' := T2) (f' := (mkF m 10 #[.val (.int x0), .val (.int x1), .val (.int (bnd x1)), .unset, .unset] [(.int x0), (.int (alphaV x0))])) (fun t k => XS.iloadN X2.here hx rfl (hb hby at_9) rfl k) ?_
  obtain ⟨_, _, ⟨T3, L3, k3, n3⟩, -, X3, ⟨Lc3, hQ3, l3, y3, z3⟩, st3⟩ := Jvm.LawKit.callS X2 hx (y := (⟨"com/example/albero/albero/TokenizerIsAsciiAlphaPinLaw", "reference", "(I)Z"⟩ : MethodName)) hown (mvT hZ (hw _ (List.mem_of_getElem? (i := 8) rfl))) (mvT hZ (hw _ (List.mem_of_getElem? (i := 9) rfl))) (mvT hZ (hw _ (List.mem_of_getElem? (i := 2) rfl))) (mvT hZ (hw _ (List.mem_of_getElem? (i := 10) rfl))) (by decide) (backOf (W := 1) (rm3 l Z a0 hw [] x0 h0 n0 Z0 ) hZ (hw _ (List.mem_of_getElem? (i := 10) rfl)) (hw _ (List.mem_of_getElem? (i := 2) rfl)) (by decide) (by decide)) (g := (mkF m 10 #[.val (.int x0), .val (.int x1), .val (.int (bnd x1)), .unset, .unset] [(.int x0), (.int (alphaV x0))])) rfl (by rw [hml]; rfl) (argsL := [(.int x0)]) (rest := [(.int (alphaV x0))]) (lenOf pd_1 rfl) rfl (by show 2 * 0 + _ ≤ _; exact Nat.le_of_eq rfl) (hb hby at_10) (fun _ _ => ⟨rfl, e2, (by decide : 0 + 0 ≤ _), (by decide : 0 + 0 ≤ _)⟩)
  dsimp only [Pt.U, Pt.locs, Pt.cells, Pt.slots] at X3 l3 y3 z3 st3 hQ3
  subst l3 y3 z3
  obtain ⟨rfl, N3q, e3⟩ := hQ3
  have N3 := Fr.app N2 N3q
  refine Go.of (T' := T3) (f' := (mkF m 13 #[.val (.int x0), .val (.int x1), .val (.int (bnd x1)), .unset, .unset] [(.int (refV x0)), (.int (alphaV x0))])) (fun t k => st3 t k) ?_
  have hc13 : (alphaV x0) = (refV x0) := own_alpha x0
  refine Go.of (T' := T3) (f' := (mkF m 16 #[.val (.int x0), .val (.int x1), .val (.int (bnd x1)), .unset, .unset] [])) (fun t k => XS.icmpNo X3.here hx rfl (hb hby at_13) rfl ((teq hc13).2) k) ?_
  refine Go.of (T' := T3) (f' := (mkF m 17 #[.val (.int x0), .val (.int x1), .val (.int (bnd x1)), .unset, .unset] [(.int (1 : Int32))])) (fun t k => XS.iconst X3.here hx rfl (hb hby at_16) k) ?_
  refine Go.of (T' := T3) (f' := (mkF m 21 #[.val (.int x0), .val (.int x1), .val (.int (bnd x1)), .unset, .unset] [(.int (1 : Int32))])) (fun t k => XS.goto X3.here hx rfl (pc0 := 17) (pc' := 21) rfl (hb hby at_17) (by decide) (by decide) k) ?_
  refine Go.of (T' := T3) (f' := (mkF m 22 #[.val (.int x0), .val (.int x1), .val (.int (bnd x1)), .val (.int (1 : Int32)), .unset] [])) (fun t k => XS.istoreN X3.here hx rfl (hb hby at_21) rfl (l' := #[.val (.int x0), .val (.int x1), .val (.int (bnd x1)), .val (.int (1 : Int32)), .unset]) rfl k) ?_
  refine Go.of (T' := T3) (f' := (mkF m 23 #[.val (.int x0), .val (.int x1), .val (.int (bnd x1)), .val (.int (1 : Int32)), .unset] [(.int (bnd x1))])) (fun t k => XS.iloadN X3.here hx rfl (hb hby at_22) rfl k) ?_
  obtain ⟨_, _, ⟨T4, L4, k4, n4⟩, -, X4, ⟨Lc4, hQ4, l4, y4, z4⟩, st4⟩ := Jvm.LawKit.callS X3 hx (y := (⟨"com/example/albero/albero/Tokenizer", "isAsciiAlpha", "(I)Z"⟩ : MethodName)) hown (mvT hZ (hw _ (List.mem_of_getElem? (i := 4) rfl))) (mvT hZ (hw _ (List.mem_of_getElem? (i := 5) rfl))) (mvT hZ (hw _ (List.mem_of_getElem? (i := 6) rfl))) (mvT hZ (hw _ (List.mem_of_getElem? (i := 7) rfl))) (by decide) (backOf (W := 0) (rm2 l Z a0 hw [] (bnd x1) h0 n0 Z0 ) hZ (hw _ (List.mem_of_getElem? (i := 7) rfl)) (hw _ (List.mem_of_getElem? (i := 6) rfl)) (by decide) (by decide)) (g := (mkF m 23 #[.val (.int x0), .val (.int x1), .val (.int (bnd x1)), .val (.int (1 : Int32)), .unset] [(.int (bnd x1))])) rfl (by rw [hml]; rfl) (argsL := [(.int (bnd x1))]) (rest := []) (lenOf pd_1 rfl) rfl (by show 2 * 0 + _ ≤ _; exact Nat.le_of_eq rfl) (hb hby at_23) (fun _ _ => ⟨rfl, e3, (by decide : 0 + 0 ≤ _), (by decide : 0 + 0 ≤ _)⟩)
  dsimp only [Pt.U, Pt.locs, Pt.cells, Pt.slots] at X4 l4 y4 z4 st4 hQ4
  subst l4 y4 z4
  obtain ⟨rfl, N4q, e4⟩ := hQ4
  have N4 := Fr.app N3 N4q
  refine Go.of (T' := T4) (f' := (mkF m 26 #[.val (.int x0), .val (.int x1), .val (.int (bnd x1)), .val (.int (1 : Int32)), .unset] [(.int (alphaV (bnd x1)))])) (fun t k => st4 t k) ?_
  refine Go.of (T' := T4) (f' := (mkF m 27 #[.val (.int x0), .val (.int x1), .val (.int (bnd x1)), .val (.int (1 : Int32)), .unset] [(.int (bnd x1)), (.int (alphaV (bnd x1)))])) (fun t k => XS.iloadN X4.here hx rfl (hb hby at_26) rfl k) ?_
  obtain ⟨_, _, ⟨T5, L5, k5, n5⟩, -, X5, ⟨Lc5, hQ5, l5, y5, z5⟩, st5⟩ := Jvm.LawKit.callS X4 hx (y := (⟨"com/example/albero/albero/TokenizerIsAsciiAlphaPinLaw", "reference", "(I)Z"⟩ : MethodName)) hown (mvT hZ (hw _ (List.mem_of_getElem? (i := 8) rfl))) (mvT hZ (hw _ (List.mem_of_getElem? (i := 9) rfl))) (mvT hZ (hw _ (List.mem_of_getElem? (i := 2) rfl))) (mvT hZ (hw _ (List.mem_of_getElem? (i := 10) rfl))) (by decide) (backOf (W := 1) (rm3 l Z a0 hw [] (bnd x1) h0 n0 Z0 ) hZ (hw _ (List.mem_of_getElem? (i := 10) rfl)) (hw _ (List.mem_of_getElem? (i := 2) rfl)) (by decide) (by decide)) (g := (mkF m 27 #[.val (.int x0), .val (.int x1), .val (.int (bnd x1)), .val (.int (1 : Int32)), .unset] [(.int (bnd x1)), (.int (alphaV (bnd x1)))])) rfl (by rw [hml]; rfl) (argsL := [(.int (bnd x1))]) (rest := [(.int (alphaV (bnd x1)))]) (lenOf pd_1 rfl) rfl (by show 2 * 0 + _ ≤ _; exact Nat.le_of_eq rfl) (hb hby at_27) (fun _ _ => ⟨rfl, e4, (by decide : 0 + 0 ≤ _), (by decide : 0 + 0 ≤ _)⟩)
  dsimp only [Pt.U, Pt.locs, Pt.cells, Pt.slots] at X5 l5 y5 z5 st5 hQ5
  subst l5 y5 z5
  obtain ⟨rfl, N5q, e5⟩ := hQ5
  have N5 := Fr.app N4 N5q
  refine Go.of (T' := T5) (f' := (mkF m 30 #[.val (.int x0), .val (.int x1), .val (.int (bnd x1)), .val (.int (1 : Int32)), .unset] [(.int (refV (bnd x1))), (.int (alphaV (bnd x1)))])) (fun t k => st5 t k) ?_
  have hc30 : (alphaV (bnd x1)) = (refV (bnd x1)) := own_alpha _
  refine Go.of (T' := T5) (f' := (mkF m 33 #[.val (.int x0), .val (.int x1), .val (.int (bnd x1)), .val (.int (1 : Int32)), .unset] [])) (fun t k => XS.icmpNo X5.here hx rfl (hb hby at_30) rfl ((teq hc30).2) k) ?_
  refine Go.of (T' := T5) (f' := (mkF m 34 #[.val (.int x0), .val (.int x1), .val (.int (bnd x1)), .val (.int (1 : Int32)), .unset] [(.int (1 : Int32))])) (fun t k => XS.iconst X5.here hx rfl (hb hby at_33) k) ?_
  refine Go.of (T' := T5) (f' := (mkF m 38 #[.val (.int x0), .val (.int x1), .val (.int (bnd x1)), .val (.int (1 : Int32)), .unset] [(.int (1 : Int32))])) (fun t k => XS.goto X5.here hx rfl (pc0 := 34) (pc' := 38) rfl (hb hby at_34) (by decide) (by decide) k) ?_
  refine Go.of (T' := T5) (f' := (mkF m 40 #[.val (.int x0), .val (.int x1), .val (.int (bnd x1)), .val (.int (1 : Int32)), .val (.int (1 : Int32))] [])) (fun t k => XS.istore X5.here hx rfl (hb hby at_38) rfl (l' := #[.val (.int x0), .val (.int x1), .val (.int (bnd x1)), .val (.int (1 : Int32)), .val (.int (1 : Int32))]) rfl k) ?_
  refine Go.of (T' := T5) (f' := (mkF m 41 #[.val (.int x0), .val (.int x1), .val (.int (bnd x1)), .val (.int (1 : Int32)), .val (.int (1 : Int32))] [(.int (1 : Int32))])) (fun t k => XS.iloadN X5.here hx rfl (hb hby at_40) rfl k) ?_
  have hc41 : ¬ ((1 : Int32) = (0 : Int32)) := by decide
  refine Go.of (T' := T5) (f' := (mkF m 44 #[.val (.int x0), .val (.int x1), .val (.int (bnd x1)), .val (.int (1 : Int32)), .val (.int (1 : Int32))] [])) (fun t k => XS.ifNo X5.here hx rfl (hb hby at_41) rfl ((if0 _ _).trans (feq hc41).1) k) ?_
  refine Go.of (T' := T5) (f' := (mkF m 46 #[.val (.int x0), .val (.int x1), .val (.int (bnd x1)), .val (.int (1 : Int32)), .val (.int (1 : Int32))] [(.int (1 : Int32))])) (fun t k => XS.iload X5.here hx rfl (hb hby at_44) rfl k) ?_
  have hc46 : ¬ ((1 : Int32) = (0 : Int32)) := by decide
  refine Go.of (T' := T5) (f' := (mkF m 49 #[.val (.int x0), .val (.int x1), .val (.int (bnd x1)), .val (.int (1 : Int32)), .val (.int (1 : Int32))] [])) (fun t k => XS.ifNo X5.here hx rfl (hb hby at_46) rfl ((if0 _ _).trans (feq hc46).1) k) ?_
  refine Go.of (T' := T5) (f' := (mkF m 50 #[.val (.int x0), .val (.int x1), .val (.int (bnd x1)), .val (.int (1 : Int32)), .val (.int (1 : Int32))] [(.int (1 : Int32))])) (fun t k => XS.iconst X5.here hx rfl (hb hby at_49) k) ?_
  refine Go.of (T' := T5) (f' := (mkF m 54 #[.val (.int x0), .val (.int x1), .val (.int (bnd x1)), .val (.int (1 : Int32)), .val (.int (1 : Int32))] [(.int (1 : Int32))])) (fun t k => XS.goto X5.here hx rfl (pc0 := 50) (pc' := 54) rfl (hb hby at_50) (by decide) (by decide) k) ?_
  refine Go.retZ X5 hx hk (t := .boolean) Bd.returns (by simp) (hb hby at_54) (by decide) (by decide) ?_
  rw [e5]
  exact ⟨rfl, N5⟩
set_option maxRecDepth 65536 in
set_option maxHeartbeats 40000000 in
theorem comes_1 {Post : Tables → Env → Array Value → State → Outcome → State → Prop} (hpost : ∀ tb e args s v u, (limb_1_1.after args s (.returned v) u = true ∧ limb_1_2.after args s (.returned v) u = true ∧ True) → FrameEnd s (.returned v) u (Jvm.fieldLocs frame_1_writes args s ++ Jvm.arrayLocs frame_1_arrays args s ++ Jvm.staticLocs frame_1_statics s) 0 0 → Post tb e args s (.returned v) u) :
    ArmFor flags0 classFile x code maxLocals ret World_1 tables_1 room_1 Calls_1 rest_1 Pre_1 Post := by
  intro l hfl _ _ p e ha hc hk s m args below hf hA hF happ hP
  obtain ⟨hcalls, hrest, hpre⟩ := hP
  obtain ⟨-, -, -, hnamed, -, -, -, hat⟩ := (Spec.applies_iff hf).mp happ
  obtain ⟨hg, hn⟩ := and_e (Cond.before_iff.mp (show (Jvm.Cond.and given_1 narrow_1).before args s = true from hpre))
  obtain ⟨g0, gr0⟩ := and_e hg
  obtain ⟨ga0, gr1⟩ := and_e gr0
  have ga1 := gr1
  obtain ⟨w0, w1, rfl⟩ : ∃ w0 w1 : Value, args = #[w0, w1] := by
    have hs : args.size = 2 := by simpa [Cond.value, given_1] using g0
    obtain ⟨L⟩ := args
    match L, hs with
    | [w0, w1], _ => exact ⟨w0, w1, rfl⟩
  have hw := fun d (hd : d ∈ tables_1) => atoms_spec (ws := Jvm.Cond.code x code maxLocals ret :: tables_1) hat d (List.mem_cons_of_mem _ hd)
  obtain ⟨i0, ei0⟩ := is_v ga0
  obtain rfl : w0 = (.int i0) := Option.some.inj ei0
  obtain ⟨i1, ei1⟩ := is_v ga1
  obtain rfl : w1 = (.int i1) := Option.some.inj ei1
  obtain ⟨n, o, h1, h2, h3, _, L, rfl, ⟨rfl, N⟩, hq⟩ := rm0 l s _ hw tables_1 i0 i1 s.heap s.heap.size (Nat.le_refl _)  p e ha hc hk s m _ below hf ((Spec.applies_iff_loose hf).mp happ).1 ⟨rfl, State.Warmed39.refl s, rfl⟩ trivial
  refine ⟨n, _, h1, h2, h3, hpost _ _ _ _ _ _ ⟨Cond.after_iff.mpr rfl, Cond.after_iff.mpr (eq_i res_at (Term.int_eval (1)) rfl), trivial⟩ ⟨hq.1, hq.2.1, (hq.2.2.sift fun y hy => Or.inr (N y hy)).mono (by decide) (by decide)⟩⟩
theorem main_1_1 : Claimed_1_1 := comes_1 fun _ _ _ _ _ _ h hF => ⟨h.1, hF⟩
theorem main_1_2 : Claimed_1_2 := comes_1 fun _ _ _ _ _ _ h hF => ⟨h.2.1, hF⟩
end Jvm.Pilot.@@N@@
namespace Jvm.Pilot.@@N@@
open Jvm Jvm.ClassFile Sem Op Lib Jvm.Free Jvm.Stand Jvm.Pilot.@@N@@.Jvm.D
/-! MADE BY PROGRAM (witnessworld.py) out of the Statement's table words and the real class files: 9 classes; the members and pool entries that the words name. The judged class is class 1, her method 3. -/
namespace start1
open Jvm.ClassFile
def u (s : String) : CpInfo := .utf8 (stringToUtf16 s)
/-- a pool by its gaps: so many unusable entries, then the entry; so many at the end -/
def gap : Nat → List CpInfo → List CpInfo
  | 0, r => r
  | n + 1, r => .unusable :: gap n r
def poolList (es : List (Nat × CpInfo)) (last : Nat) : List CpInfo := es.foldr (fun e r => gap e.1 (e.2 :: r)) (gap last [])
def pool (es : List (Nat × CpInfo)) (last : Nat) : Array CpInfo := ⟨poolList es last⟩
def fileOf (pool : Array CpInfo) (this : Nat) (attrs : Array Attribute := #[]) (ms : Array MethodInfo := #[]) (fl : Nat := 33) (sup : Nat := 0) (ifs : Array Nat := #[]) (fds : Array FieldInfo := #[]) : ClassFile where
  minorVersion := 0
  majorVersion := 65
  constantPool := pool
  accessFlags := fl
  thisClass := this
  superClass := sup
  interfaces := ifs
  fields := fds
  methods := ms
  attributes := attrs
def plain (name : String) (sup : Option ClassId) : Class where
  name := name
  kind := .ordinary
  loader := none
  accessFlags := 33
  super := sup
  interfaces := #[]
  cf := none
  fields := #[]
  methods := #[]
  instanceTypes := #[]
  staticTypes := #[]
  resolved := #[]
  callSites := []
  init := .initialized
  statics := none
  mirror := none

def pool0 : Array CpInfo := pool [(5, u "<init>"), (0, u "()V"), (1, .class_ 10), (1, u "java/lang/Object")] 113

def k0m0 : Method := { name := "<init>", desc := "()V", sig := { parameters := [], returnType := none }, accessFlags := 1, code := none }
/-- java/lang/Object -/
def k0 : Class := { plain "java/lang/Object" none with
  accessFlags := 33
  interfaces := #[]
  cf := some (fileOf pool0 8 #[] #[{ accessFlags := 1, nameIndex := 5, descriptorIndex := 6, attributes := #[] }] 33 0 #[] #[])
  fields := #[]
  methods := #[k0m0]
  instanceTypes := #[]
  staticTypes := #[]
  resolved := Array.replicate 124 none
  statics := none }

def pool1 : Array CpInfo := pool [(2, .class_ 4), (1, u "java/lang/Object"), (0, u "<init>"), (0, u "()V"), (0, .methodref 8 9), (0, .class_ 10), (0, .nameAndType 11 12), (0, u "com/example/albero/albero/TokenizerIsAsciiAlphaPinLaw"), (0, u "boundary"), (0, u "(I)I"), (0, .methodref 14 15), (0, .class_ 16), (0, .nameAndType 17 18), (0, u "com/example/albero/albero/Tokenizer"), (0, u "isAsciiAlpha"), (0, u "(I)Z"), (0, .methodref 8 20), (0, .nameAndType 21 18), (0, u "reference"), (3, u "law"), (0, u "(II)Z")] 2

def k1m0 : Method := { name := "<init>", desc := "()V", sig := { parameters := [], returnType := none }, accessFlags := 2, code := none }
def k1c1 : Code := { maxStack := 2, maxLocals := 2, code := method_2_code, exceptionTable := #[], attributes := #[] }
def k1m1 : Method := { name := "reference", desc := "(I)Z", sig := { parameters := [.int], returnType := some .boolean }, accessFlags := 10, code := some k1c1 }
def k1c2 : Code := { maxStack := 2, maxLocals := 2, code := method_3_code, exceptionTable := #[], attributes := #[] }
def k1m2 : Method := { name := "boundary", desc := "(I)I", sig := { parameters := [.int], returnType := some .int }, accessFlags := 10, code := some k1c2 }
def k1c3 : Code := { maxStack := 2, maxLocals := 5, code := code, exceptionTable := #[], attributes := #[] }
def k1m3 : Method := { name := "law", desc := "(II)Z", sig := { parameters := [.int, .int], returnType := some .boolean }, accessFlags := 9, code := some k1c3 }
/-- com/example/albero/albero/TokenizerIsAsciiAlphaPinLaw -/
def k1 : Class := { plain "com/example/albero/albero/TokenizerIsAsciiAlphaPinLaw" (some 0) with
  accessFlags := 49
  interfaces := #[]
  cf := some (fileOf pool1 8 #[] #[{ accessFlags := 2, nameIndex := 5, descriptorIndex := 6, attributes := #[] }, { accessFlags := 10, nameIndex := 21, descriptorIndex := 18, attributes := #[] }, { accessFlags := 10, nameIndex := 11, descriptorIndex := 12, attributes := #[] }, { accessFlags := 9, nameIndex := 25, descriptorIndex := 26, attributes := #[] }] 49 2 #[] #[])
  fields := #[]
  methods := #[k1m0, k1m1, k1m2, k1m3]
  instanceTypes := #[]
  staticTypes := #[]
  resolved := Array.replicate 29 none
  statics := none }

def pool2 : Array CpInfo := pool [(2, .class_ 4), (1, u "java/lang/Object"), (3, .class_ 10), (1, u "com/example/albero/albero/Tokenizer"), (0, u "nextStopIndex"), (0, u "[I"), (5, u "temporaryBuffer"), (0, u "Ljava/lang/StringBuilder;"), (5, u "names"), (0, u "Lcom/example/albero/albero/NameTable;"), (5, u "attributes"), (0, u "Ljava/util/List;"), (2, u "commentData"), (2, u "doctypeName"), (2, u "doctypePublicId"), (2, u "doctypeSystemId"), (18, u "input"), (0, u "Ljava/lang/String;"), (2, u "length"), (3, u "I"), (7, u "characters"), (0, u "Lcom/example/albero/albero/TextBuffer;"), (2, u "tagName"), (2, u "attributeName"), (2, u "attributeValue"), (2, .class_ 94), (0, u "com/example/albero/albero/Tokenizer$InitialState"), (6, u "state"), (0, u "Lcom/example/albero/albero/Tokenizer$State;"), (2, u "lastStartTagName"), (1, u "sink"), (4, u "Ljava/util/function/Consumer;"), (1, u "inForeignContent"), (4, u "Ljava/util/function/BooleanSupplier;"), (23, u "finished"), (0, u "Z"), (12, .class_ 159), (1, u "com/example/albero/albero/Tokenizer$State"), (266, u "position"), (31, u "isAsciiAlpha"), (0, u "(I)Z"), (128, u "selfClosing"), (75, u "forceQuirks"), (5, u "doctypeNameMissing"), (37, u "doctypeSystemIdMissing"), (8, u "doctypePublicIdMissing"), (25, u "returnState"), (38, u "characterReferenceCode"), (42, u "endTag"), (8, u "attributeNames"), (0, u "Ljava/util/Set;"), (2, u "attributePending"), (9, u "finishedAttributeName"), (5, u "attributeDuplicate"), (78, u "EOF"), (2, u "REPLACEMENT_CHARACTER"), (0, u "C"), (0, u "LINEAR_NAME_SEARCH_LIMIT"), (1, u "PAST_LAST_CODE_POINT"), (0, u "TEXT_STOPS")] 60

def k2c0 : Code := { maxStack := 2, maxLocals := 1, code := prog_49_method_82_code, exceptionTable := #[], attributes := #[] }
def k2m0 : Method := { name := "isAsciiAlpha", desc := "(I)Z", sig := { parameters := [.int], returnType := some .boolean }, accessFlags := 8, code := some k2c0 }
/-- com/example/albero/albero/Tokenizer -/
def k2 : Class := { plain "com/example/albero/albero/Tokenizer" (some 0) with
  accessFlags := 49
  interfaces := #[]
  cf := some (fileOf pool2 8 #[.nestMembers #[157, 93]] #[{ accessFlags := 8, nameIndex := 458, descriptorIndex := 459, attributes := #[] }] 49 2 #[] #[{ accessFlags := 26, nameIndex := 933, descriptorIndex := 72, attributes := #[] }, { accessFlags := 24, nameIndex := 936, descriptorIndex := 937, attributes := #[] }, { accessFlags := 26, nameIndex := 938, descriptorIndex := 72, attributes := #[] }, { accessFlags := 26, nameIndex := 940, descriptorIndex := 72, attributes := #[] }, { accessFlags := 26, nameIndex := 941, descriptorIndex := 65, attributes := #[] }, { accessFlags := 18, nameIndex := 64, descriptorIndex := 65, attributes := #[] }, { accessFlags := 18, nameIndex := 68, descriptorIndex := 72, attributes := #[] }, { accessFlags := 18, nameIndex := 107, descriptorIndex := 112, attributes := #[] }, { accessFlags := 18, nameIndex := 114, descriptorIndex := 119, attributes := #[] }, { accessFlags := 2, nameIndex := 426, descriptorIndex := 72, attributes := #[] }, { accessFlags := 2, nameIndex := 101, descriptorIndex := 102, attributes := #[] }, { accessFlags := 2, nameIndex := 143, descriptorIndex := 144, attributes := #[] }, { accessFlags := 18, nameIndex := 11, descriptorIndex := 12, attributes := #[] }, { accessFlags := 18, nameIndex := 80, descriptorIndex := 81, attributes := #[] }, { accessFlags := 18, nameIndex := 18, descriptorIndex := 19, attributes := #[] }, { accessFlags := 2, nameIndex := 743, descriptorIndex := 102, attributes := #[] }, { accessFlags := 2, nameIndex := 782, descriptorIndex := 72, attributes := #[] }, { accessFlags := 18, nameIndex := 25, descriptorIndex := 26, attributes := #[] }, { accessFlags := 2, nameIndex := 105, descriptorIndex := 65, attributes := #[] }, { accessFlags := 2, nameIndex := 825, descriptorIndex := 144, attributes := #[] }, { accessFlags := 18, nameIndex := 84, descriptorIndex := 81, attributes := #[] }, { accessFlags := 18, nameIndex := 32, descriptorIndex := 33, attributes := #[] }, { accessFlags := 2, nameIndex := 834, descriptorIndex := 835, attributes := #[] }, { accessFlags := 2, nameIndex := 588, descriptorIndex := 144, attributes := #[] }, { accessFlags := 2, nameIndex := 838, descriptorIndex := 144, attributes := #[] }, { accessFlags := 18, nameIndex := 87, descriptorIndex := 81, attributes := #[] }, { accessFlags := 2, nameIndex := 848, descriptorIndex := 65, attributes := #[] }, { accessFlags := 2, nameIndex := 854, descriptorIndex := 144, attributes := #[] }, { accessFlags := 18, nameIndex := 90, descriptorIndex := 81, attributes := #[] }, { accessFlags := 18, nameIndex := 36, descriptorIndex := 19, attributes := #[] }, { accessFlags := 18, nameIndex := 39, descriptorIndex := 19, attributes := #[] }, { accessFlags := 2, nameIndex := 670, descriptorIndex := 144, attributes := #[] }, { accessFlags := 18, nameIndex := 42, descriptorIndex := 19, attributes := #[] }, { accessFlags := 2, nameIndex := 717, descriptorIndex := 144, attributes := #[] }, { accessFlags := 18, nameIndex := 45, descriptorIndex := 19, attributes := #[] }, { accessFlags := 2, nameIndex := 708, descriptorIndex := 144, attributes := #[] }, { accessFlags := 2, nameIndex := 664, descriptorIndex := 144, attributes := #[] }])
  fields := #[{ name := "EOF", type := .int, accessFlags := 26, slot := 0, constantValue := 0 }, { name := "REPLACEMENT_CHARACTER", type := .char, accessFlags := 24, slot := 1, constantValue := 0 }, { name := "LINEAR_NAME_SEARCH_LIMIT", type := .int, accessFlags := 26, slot := 2, constantValue := 0 }, { name := "PAST_LAST_CODE_POINT", type := .int, accessFlags := 26, slot := 3, constantValue := 0 }, { name := "TEXT_STOPS", type := (.object "java/lang/String"), accessFlags := 26, slot := 4, constantValue := 0 }, { name := "input", type := (.object "java/lang/String"), accessFlags := 18, slot := 0, constantValue := 0 }, { name := "length", type := .int, accessFlags := 18, slot := 1, constantValue := 0 }, { name := "sink", type := (.object "java/util/function/Consumer"), accessFlags := 18, slot := 2, constantValue := 0 }, { name := "inForeignContent", type := (.object "java/util/function/BooleanSupplier"), accessFlags := 18, slot := 3, constantValue := 0 }, { name := "position", type := .int, accessFlags := 2, slot := 4, constantValue := 0 }, { name := "state", type := (.object "com/example/albero/albero/Tokenizer$State"), accessFlags := 2, slot := 5, constantValue := 0 }, { name := "finished", type := .boolean, accessFlags := 2, slot := 6, constantValue := 0 }, { name := "nextStopIndex", type := (.array .int), accessFlags := 18, slot := 7, constantValue := 0 }, { name := "characters", type := (.object "com/example/albero/albero/TextBuffer"), accessFlags := 18, slot := 8, constantValue := 0 }, { name := "temporaryBuffer", type := (.object "java/lang/StringBuilder"), accessFlags := 18, slot := 9, constantValue := 0 }, { name := "returnState", type := (.object "com/example/albero/albero/Tokenizer$State"), accessFlags := 2, slot := 10, constantValue := 0 }, { name := "characterReferenceCode", type := .int, accessFlags := 2, slot := 11, constantValue := 0 }, { name := "names", type := (.object "com/example/albero/albero/NameTable"), accessFlags := 18, slot := 12, constantValue := 0 }, { name := "lastStartTagName", type := (.object "java/lang/String"), accessFlags := 2, slot := 13, constantValue := 0 }, { name := "endTag", type := .boolean, accessFlags := 2, slot := 14, constantValue := 0 }, { name := "tagName", type := (.object "com/example/albero/albero/TextBuffer"), accessFlags := 18, slot := 15, constantValue := 0 }, { name := "attributes", type := (.object "java/util/List"), accessFlags := 18, slot := 16, constantValue := 0 }, { name := "attributeNames", type := (.object "java/util/Set"), accessFlags := 2, slot := 17, constantValue := 0 }, { name := "selfClosing", type := .boolean, accessFlags := 2, slot := 18, constantValue := 0 }, { name := "attributePending", type := .boolean, accessFlags := 2, slot := 19, constantValue := 0 }, { name := "attributeName", type := (.object "com/example/albero/albero/TextBuffer"), accessFlags := 18, slot := 20, constantValue := 0 }, { name := "finishedAttributeName", type := (.object "java/lang/String"), accessFlags := 2, slot := 21, constantValue := 0 }, { name := "attributeDuplicate", type := .boolean, accessFlags := 2, slot := 22, constantValue := 0 }, { name := "attributeValue", type := (.object "com/example/albero/albero/TextBuffer"), accessFlags := 18, slot := 23, constantValue := 0 }, { name := "commentData", type := (.object "java/lang/StringBuilder"), accessFlags := 18, slot := 24, constantValue := 0 }, { name := "doctypeName", type := (.object "java/lang/StringBuilder"), accessFlags := 18, slot := 25, constantValue := 0 }, { name := "doctypeNameMissing", type := .boolean, accessFlags := 2, slot := 26, constantValue := 0 }, { name := "doctypePublicId", type := (.object "java/lang/StringBuilder"), accessFlags := 18, slot := 27, constantValue := 0 }, { name := "doctypePublicIdMissing", type := .boolean, accessFlags := 2, slot := 28, constantValue := 0 }, { name := "doctypeSystemId", type := (.object "java/lang/StringBuilder"), accessFlags := 18, slot := 29, constantValue := 0 }, { name := "doctypeSystemIdMissing", type := .boolean, accessFlags := 2, slot := 30, constantValue := 0 }, { name := "forceQuirks", type := .boolean, accessFlags := 2, slot := 31, constantValue := 0 }]
  methods := #[k2m0]
  instanceTypes := #[(.object "java/lang/String"), .int, (.object "java/util/function/Consumer"), (.object "java/util/function/BooleanSupplier"), .int, (.object "com/example/albero/albero/Tokenizer$State"), .boolean, (.array .int), (.object "com/example/albero/albero/TextBuffer"), (.object "java/lang/StringBuilder"), (.object "com/example/albero/albero/Tokenizer$State"), .int, (.object "com/example/albero/albero/NameTable"), (.object "java/lang/String"), .boolean, (.object "com/example/albero/albero/TextBuffer"), (.object "java/util/List"), (.object "java/util/Set"), .boolean, .boolean, (.object "com/example/albero/albero/TextBuffer"), (.object "java/lang/String"), .boolean, (.object "com/example/albero/albero/TextBuffer"), (.object "java/lang/StringBuilder"), (.object "java/lang/StringBuilder"), .boolean, (.object "java/lang/StringBuilder"), .boolean, (.object "java/lang/StringBuilder"), .boolean, .boolean]
  staticTypes := #[.int, .char, .int, .int, (.object "java/lang/String")]
  resolved := Array.replicate 1002 none
  statics := none }

def pool3 : Array CpInfo := pool [(1, u "java/lang/Cloneable"), (0, .class_ 1), (0, u "java/lang/Object"), (0, .class_ 3)] 3

/-- java/lang/Cloneable -/
def k3 : Class := { plain "java/lang/Cloneable" (some 0) with
  accessFlags := 1537
  interfaces := #[]
  cf := some (fileOf pool3 2 #[] #[] 1537 4 #[] #[])
  fields := #[]
  methods := #[]
  instanceTypes := #[]
  staticTypes := #[]
  resolved := Array.replicate 8 none
  statics := none }

def pool4 : Array CpInfo := pool [(1, u "java/io/Serializable"), (0, .class_ 1), (0, u "java/lang/Object"), (0, .class_ 3)] 3

/-- java/io/Serializable -/
def k4 : Class := { plain "java/io/Serializable" (some 0) with
  accessFlags := 1537
  interfaces := #[]
  cf := some (fileOf pool4 2 #[] #[] 1537 4 #[] #[])
  fields := #[]
  methods := #[]
  instanceTypes := #[]
  staticTypes := #[]
  resolved := Array.replicate 8 none
  statics := none }

/-- the primitive byte -/
def k5 : Class := { plain "byte" none with kind := .primitive 'B', accessFlags := 0x411 }
/-- [B -/
def k6 : Class := { plain "[B" (some 0) with kind := .array 5 .byte, interfaces := #[3, 4], accessFlags := 1041 }

/-- the primitive int -/
def k7 : Class := { plain "int" none with kind := .primitive 'I', accessFlags := 0x411 }
/-- [I -/
def k8 : Class := { plain "[I" (some 0) with kind := .array 7 .int, interfaces := #[3, 4], accessFlags := 1041 }

def heap : Heap := #[]
def classes : Array Class := #[k0, k1, k2, k3, k4, k5, k6, k7, k8]
def interned : List (Array UInt16 × Addr) := []
def slotsUsed : Nat := 0
def theMethod : MethodId := ⟨1, 3⟩
def args0 : Array Value := #[.int 5, .int 7]
def aboutOver (below : List Frame) : State where
  vm := { classes := classes, interned := interned.toArray }
  heap := heap
  slotsUsed := slotsUsed
  threads := #[{ frames := .invoking theMethod args0 :: below }]
def below0 : List Frame := [.native { method := ⟨0, 0⟩, args := #[] }]
def about1 : State := aboutOver below0
def p0 : Program := .bare "" "" ""
def e0 : Env := launch0.env 0 0 0
theorem w_frames : about1.frames = Frame.invoking theMethod args0 :: below0 := rfl
set_option maxRecDepth 65536 in
theorem w_args : argsFit about1.vm theMethod args0 = true := by decide +kernel
set_option maxRecDepth 65536 in
theorem w_heap : heapFits about1 = true := by decide +kernel
set_option maxRecDepth 65536 in
theorem w_runnable : about1.curStatus? = some .runnable := by decide +kernel
set_option maxRecDepth 65536 in
theorem w_alone : about1.alone = true := by decide +kernel
set_option maxRecDepth 65536 in
theorem w_named : about1.methodNamed? x = some theMethod := by decide +kernel
set_option maxRecDepth 65536 in
theorem w_hears : about1.hears theMethod below0 = true := by decide +kernel
set_option maxRecDepth 65536 in
theorem w_ripe : about1.ripe theMethod args0 below0 = true := by decide +kernel
theorem w_running : about1.status = .running := rfl
set_option maxRecDepth 65536 in
theorem w_room : about1.hasRoom e0.platform room_1 = true :=
  launch0.hasRoom_least _ room_1 (by decide +kernel) (by decide +kernel) (by decide +kernel) (by decide +kernel) (by decide +kernel) (by decide +kernel)
theorem allAtoms_all (ts : List Jvm.Cond) (a : Array Jvm.Value) (st : Jvm.State) : (allAtoms ts).before a st = ts.all (fun c => c.before a st) := by
  induction ts with
  | nil => rfl
  | cons c t ih =>
    show (Jvm.Cond.and c (allAtoms t)).before a st = _
    rw [Jvm.Cond.before_and, ih, List.all_cons]
def words1 : List Jvm.Cond := Jvm.Cond.code x code maxLocals ret :: tables_1
/-- a 'code' word, met by the world's own term for the bytes: nothing is compared byte by byte -/
theorem code_word {y : MethodName} {bytes : ByteArray} {mx : Nat} {rt : Option FieldType} {a : Array Value} {s : State} {m : MethodId} {meth : Method} {c : Code} (h1 : s.methodNamed? y = some m) (h2 : s.vm.method? m = some meth) (h3 : meth.code = some c) (h4 : c.code = bytes)
    (h5 : (c.maxLocals == mx && c.exceptionTable.isEmpty && decide (c.maxStack ≤ mostOperands) && decide (meth.sig.returnType = rt) && !meth.locks && decide (parseMethodDescriptor y.desc = some meth.sig)) = true) : (Jvm.Cond.code y bytes mx rt).before a s = true := by
  simp only [Bool.and_eq_true, beq_iff_eq, Bool.not_eq_true', decide_eq_true_eq] at h5
  obtain ⟨⟨⟨⟨⟨g1, g2⟩, g3⟩, g4⟩, g5⟩, g6⟩ := h5
  simp [Cond.before, Cond.holds, Cond.value, h1, h2, h3, h4, g1, g2, g3, g4, g5, g6]
def isCode : Jvm.Cond → Bool
  | .code _ _ _ _ => true
  | _ => false
theorem all_split {L : List Jvm.Cond} {P : Jvm.Cond → Bool} (h1 : L.all (fun c => isCode c || P c) = true) (h2 : ∀ c ∈ L.filter isCode, P c = true) : L.all P = true := by
  refine List.all_eq_true.mpr fun c hc => ?_
  have h := List.all_eq_true.mp h1 c hc
  rcases Bool.eq_false_or_eq_true (isCode c) with hi | hi
  · exact h2 c (List.mem_filter.mpr ⟨hc, hi⟩)
  · simpa [hi] using h
set_option maxRecDepth 65536 in
theorem w_c0 : (Jvm.Cond.code x code maxLocals ret).before args0 about1 = true := code_word (m := ⟨1, 3⟩) (meth := k1m3) (c := k1c3) (by decide +kernel) rfl rfl rfl (by decide +kernel)
set_option maxRecDepth 65536 in
theorem w_c1 : (Jvm.Cond.code ({ cls := "com/example/albero/albero/TokenizerIsAsciiAlphaPinLaw", name := "boundary", desc := "(I)I" } : Jvm.MethodName) method_3_code (2 : Nat) (Option.some Jvm.ClassFile.FieldType.int)).before args0 about1 = true := code_word (m := ⟨1, 2⟩) (meth := k1m2) (c := k1c2) (by decide +kernel) rfl rfl rfl (by decide +kernel)
set_option maxRecDepth 65536 in
theorem w_c2 : (Jvm.Cond.code ({ cls := "com/example/albero/albero/Tokenizer", name := "isAsciiAlpha", desc := "(I)Z" } : Jvm.MethodName) prog_49_method_82_code (1 : Nat) (Option.some Jvm.ClassFile.FieldType.boolean)).before args0 about1 = true := code_word (m := ⟨2, 0⟩) (meth := k2m0) (c := k2c0) (by decide +kernel) rfl rfl rfl (by decide +kernel)
set_option maxRecDepth 65536 in
theorem w_c3 : (Jvm.Cond.code ({ cls := "com/example/albero/albero/TokenizerIsAsciiAlphaPinLaw", name := "reference", desc := "(I)Z" } : Jvm.MethodName) method_2_code (2 : Nat) (Option.some Jvm.ClassFile.FieldType.boolean)).before args0 about1 = true := code_word (m := ⟨1, 1⟩) (meth := k1m1) (c := k1c1) (by decide +kernel) rfl rfl rfl (by decide +kernel)
def codes1 : List Jvm.Cond := [Jvm.Cond.code x code maxLocals ret, Jvm.Cond.code ({ cls := "com/example/albero/albero/TokenizerIsAsciiAlphaPinLaw", name := "boundary", desc := "(I)I" } : Jvm.MethodName) method_3_code (2 : Nat) (Option.some Jvm.ClassFile.FieldType.int), Jvm.Cond.code ({ cls := "com/example/albero/albero/Tokenizer", name := "isAsciiAlpha", desc := "(I)Z" } : Jvm.MethodName) prog_49_method_82_code (1 : Nat) (Option.some Jvm.ClassFile.FieldType.boolean), Jvm.Cond.code ({ cls := "com/example/albero/albero/TokenizerIsAsciiAlphaPinLaw", name := "reference", desc := "(I)Z" } : Jvm.MethodName) method_2_code (2 : Nat) (Option.some Jvm.ClassFile.FieldType.boolean)]
set_option maxRecDepth 65536 in
theorem codes_eq : words1.filter isCode = codes1 := rfl
theorem w_codes : ∀ c ∈ words1.filter isCode, c.before args0 about1 = true := by
  rw [codes_eq]
  intro c hc
  simp only [codes1, List.mem_cons, List.not_mem_nil, or_false] at hc
  rcases hc with rfl | rfl | rfl | rfl
  · exact w_c0
  · exact w_c1
  · exact w_c2
  · exact w_c3
set_option maxRecDepth 65536 in
theorem w_t1 : words1.all (fun c => isCode c || c.before args0 about1) = true := by decide +kernel
theorem w_tables : (allAtoms (Jvm.Cond.code x code maxLocals ret :: tables_1)).before args0 about1 = true := by
  rw [allAtoms_all]
  show words1.all (fun c => c.before args0 about1) = true
  refine all_split ?_ w_codes
  rw [w_t1]
set_option maxRecDepth 65536 in
theorem w_case : (Jvm.Cond.and given_1 narrow_1).before args0 about1 = true := by decide +kernel
theorem w_applies : (headSpec (Jvm.Cond.code x code maxLocals ret :: tables_1) room_1).applies x e0.platform about1 = true :=
  (Spec.applies_iff w_frames).mpr ⟨w_running, w_runnable, w_alone, w_named, w_hears, w_ripe, w_room, w_tables⟩
theorem atStart : AtStart classFile x code maxLocals ret World_1 tables_1 room_1 Calls_1 rest_1 Pre_1 launch0 p0 e0 about1 theMethod args0 below0 :=
  ⟨lists_1, trivial, launch0.admits_env _ _ _, launch0.least_env, fairChoices_fair.cas, fairChoices_fair.clock, w_frames, w_args, w_heap, w_applies, trivial, trivial, w_case⟩
end start1
theorem witness_1 : WitnessClaimed_1 := ⟨start1.p0, start1.e0, start1.about1, start1.theMethod, start1.args0, start1.below0, start1.atStart⟩
end Jvm.Pilot.@@N@@
