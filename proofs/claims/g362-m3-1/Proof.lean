import JvmDerived
import JvmDerived.Pilot.@@N@@Statement
import JvmDerived.Pilot.@@N@@Code
set_option linter.unusedVariables false
set_option linter.unusedSimpArgs false
namespace Jvm.RoadKit
open Sem ClassFile Op Lib Jvm.Stand Jvm.Free Jvm.LawKit
section OwnGo
variable {p : Program} {l : Launch} {e : Env} {R : Room} {s : State} {m : MethodId} {args : Array Value} {below : List Frame} {meth : Method} {c : Code} {T T' : State} {locs : List Loc} {cells slots : Nat} {Z : State} {a0 : Array Value} {h h' : Heap}
/-- the walk comes to an end from here, and leaves what Q says -/
def Go (p : Program) (e : Env) (below : List Frame) (s : State) (Q : Option Value → Heap → List Loc → Prop) (nc ns : Nat) (T : State) (f : JFrame) : Prop :=
  ∃ s₂ o, Steps p.tables e below (T.setTop f) s₂ ∧ s₂.status = .running ∧ Ended s₂ below o ∧ ∃ v L, o = .returned v ∧ Q v s₂.heap L ∧ FrameEnd s o s₂ L nc ns
variable {Q : Option Value → Heap → List Loc → Prop} {nc ns : Nat}
theorem Go.of {f f' : JFrame} (k : ∀ t, Steps p.tables e below (T'.setTop f') t → Steps p.tables e below (T.setTop f) t) (g : Go p e below s Q nc ns T' f') : Go p e below s Q nc ns T f := by
  obtain ⟨s₂, o, h1, h2⟩ := g
  exact ⟨s₂, o, k _ h1, h2⟩
theorem Go.tr {f f' : JFrame} (k : Steps p.tables e below (T.setTop f) (T'.setTop f')) (g : Go p e below s Q nc ns T' f') : Go p e below s Q nc ns T f := by
  obtain ⟨s₂, o, h1, h2⟩ := g
  exact ⟨s₂, o, k.trans h1, h2⟩
theorem Go.cast {f f' : JFrame} (q : f = f') (g : Go p e below s Q nc ns T f') : Go p e below s Q nc ns T f := q ▸ g
theorem retI (X : Stand p l e R s m args below meth c T locs cells slots) (hx : p.tables.exec = Jvm.exec) {pc : Nat} {Ls : Array Slot} {z : Int32} {rest : List Value} (hret : meth.sig.returnType = some .int) (hd : decode c.code pc = .ok (.ireturn, 1)) {fs : List Frame}
    (hl : ∀ (f : JFrame) (acts : List Action), f.method = m → f.locked = none → f.entered = [] → (doReturn e (T.setTop f) acts (some (.int z))).1 = T.setFrames fs) : Steps p.tables e below (T.setTop (mkF m pc Ls (.int z :: rest))) (T.setFrames fs) :=
  retOut X hx hret rfl (Or.inl ⟨rfl, Or.inl rfl, _, rfl⟩) hd hl
theorem Go.end0 (X : Stand p l e R s m args below meth c T locs cells slots) (hk : meth.locks = false) {v : Option Value} (hv : meth.sig.returnType = none → v = none) {f : JFrame}
    (k : ∀ fs, (∀ (f : JFrame) (acts : List Action), f.method = m → f.locked = none → f.entered = [] → (doReturn e (T.setTop f) acts v).1 = T.setFrames fs) → Steps p.tables e below (T.setTop f) (T.setFrames fs))
    (hc : cells ≤ nc) (hs : slots ≤ ns) (hq : Q v T.heap locs) : Go p e below s Q nc ns T f := by
  obtain ⟨fs, hr, hrun, hended, hW, hsame⟩ := X.leave (v := v) hv
  exact ⟨_, _, k fs hr, hrun, hended, _, _, rfl, hq, ⟨_, rfl⟩, hW, hsame.mono hc hs⟩
theorem Go.retZ (X : Stand p l e R s m args below meth c T locs cells slots) (hx : p.tables.exec = Jvm.exec) (hk : meth.locks = false) {t : FieldType} (hret : meth.sig.returnType = some t) (ht : t = .boolean ∨ t = .byte ∨ t = .char ∨ t = .short) {pc : Nat} (hd : decode c.code pc = .ok (.ireturn, 1)) {Ls : Array Slot} {z : Int32} {rest : List Value}
    (hc : cells ≤ nc) (hs : slots ≤ ns) (hq : Q (some (.int (nar t z))) T.heap locs) : Go p e below s Q nc ns T (mkF m pc Ls (.int z :: rest)) :=
  Go.end0 X hk (fun q => by rw [hret] at q; cases q) (fun _ hr => retN X hx hret ht hd hr) hc hs hq
theorem Go.retI (X : Stand p l e R s m args below meth c T locs cells slots) (hx : p.tables.exec = Jvm.exec) (hk : meth.locks = false) (hret : meth.sig.returnType = some .int) {pc : Nat} (hd : decode c.code pc = .ok (.ireturn, 1)) {Ls : Array Slot} {z : Int32} {rest : List Value}
    (hc : cells ≤ nc) (hs : slots ≤ ns) (hq : Q (some (.int z)) T.heap locs) : Go p e below s Q nc ns T (mkF m pc Ls (.int z :: rest)) :=
  Go.end0 X hk (fun q => by rw [hret] at q; cases q) (fun _ hr => Jvm.RoadKit.retI X hx hret hd hr) hc hs hq
theorem Go.retJ (X : Stand p l e R s m args below meth c T locs cells slots) (hx : p.tables.exec = Jvm.exec) (hk : meth.locks = false) (hret : meth.sig.returnType = some .long) {pc : Nat} (hd : decode c.code pc = .ok (.lreturn, 1)) {Ls : Array Slot} {z : Int64} {rest : List Value}
    (hc : cells ≤ nc) (hs : slots ≤ ns) (hq : Q (some (.long z)) T.heap locs) : Go p e below s Q nc ns T (mkF m pc Ls (.long z :: rest)) :=
  Go.end0 X hk (fun q => by rw [hret] at q; cases q) (fun _ hr => retOut X hx hret rfl (Or.inr (Or.inl ⟨rfl, rfl, _, rfl⟩)) hd hr) hc hs hq
theorem Go.retA (X : Stand p l e R s m args below meth c T locs cells slots) (hx : p.tables.exec = Jvm.exec) (hk : meth.locks = false) {t : FieldType} (hret : meth.sig.returnType = some t) (ht : t.isReference = true) {pc : Nat} (hd : decode c.code pc = .ok (.areturn, 1)) {Ls : Array Slot} {a : Addr} {rest : List Value}
    (hc : cells ≤ nc) (hs : slots ≤ ns) (hq : Q (some (.ref a)) T.heap locs) : Go p e below s Q nc ns T (mkF m pc Ls (.ref a :: rest)) :=
  Go.end0 X hk (fun q => by rw [hret] at q; cases q) (fun _ hr => retOut X hx hret (by cases t <;> first | rfl | cases ht) (Or.inr (Or.inr (Or.inr (Or.inr ⟨rfl, ht, rfl⟩)))) hd hr) hc hs hq
theorem Go.retV (X : Stand p l e R s m args below meth c T locs cells slots) (hx : p.tables.exec = Jvm.exec) (hk : meth.locks = false) (hret : meth.sig.returnType = none) {pc : Nat} (hd : decode c.code pc = .ok (.return_, 1)) {Ls : Array Slot}
    (hc : cells ≤ nc) (hs : slots ≤ ns) (hq : Q none T.heap locs) : Go p e below s Q nc ns T (mkF m pc Ls []) :=
  Go.end0 X hk (fun _ => rfl) (fun _ hr => X.returnOut hx hret hd hr) hc hs hq
theorem lc_lt_t {x y : Int64} (q : x < y) : ifCond.holds .lt (lcmpW x y) = true := by rw [if0, lcW]; exact (tlt ((lc_lt x y).mpr q)).1
theorem lc_lt_f {x y : Int64} (q : ¬ x < y) : ifCond.holds .lt (lcmpW x y) = false := by rw [if0, lcW]; exact (flt (fun z => q ((lc_lt x y).mp z))).1
theorem lc_ge_f {x y : Int64} (q : x < y) : ifCond.holds .ge (lcmpW x y) = false := by rw [if0, lcW]; exact (tlt ((lc_lt x y).mpr q)).2.1
theorem lc_ge_t {x y : Int64} (q : ¬ x < y) : ifCond.holds .ge (lcmpW x y) = true := by rw [if0, lcW]; exact (flt (fun z => q ((lc_lt x y).mp z))).2.1
theorem lc_gt_t {x y : Int64} (q : y < x) : ifCond.holds .gt (lcmpW x y) = true := by rw [if0, lcW]; exact (tlt ((lc_gt x y).mpr q)).2.2.1
theorem lc_gt_f {x y : Int64} (q : ¬ y < x) : ifCond.holds .gt (lcmpW x y) = false := by rw [if0, lcW]; exact (flt (fun z => q ((lc_gt x y).mp z))).2.2.1
theorem lc_le_f {x y : Int64} (q : y < x) : ifCond.holds .le (lcmpW x y) = false := by rw [if0, lcW]; exact (tlt ((lc_gt x y).mpr q)).2.2.2
theorem lc_le_t {x y : Int64} (q : ¬ y < x) : ifCond.holds .le (lcmpW x y) = true := by rw [if0, lcW]; exact (flt (fun z => q ((lc_gt x y).mp z))).2.2.2
theorem lc_eq_t {x y : Int64} (q : x = y) : ifCond.holds .eq (lcmpW x y) = true := by rw [if0, lcW]; exact (teq ((lc_eq x y).mpr q)).1
theorem lc_eq_f {x y : Int64} (q : ¬ x = y) : ifCond.holds .eq (lcmpW x y) = false := by rw [if0, lcW]; exact (feq (fun z => q ((lc_eq x y).mp z))).1
theorem lc_ne_f {x y : Int64} (q : x = y) : ifCond.holds .ne (lcmpW x y) = false := by rw [if0, lcW]; exact (teq ((lc_eq x y).mpr q)).2
theorem lc_ne_t {x y : Int64} (q : ¬ x = y) : ifCond.holds .ne (lcmpW x y) = true := by rw [if0, lcW]; exact (feq (fun z => q ((lc_eq x y).mp z))).2
/-- an array of this kind that holds just these values -/
def VArr (Z : State) (h : Heap) (a : Addr) (ty : FieldType) (vs : List Value) : Prop := ∃ cl : Cell, Arr Z h a cl ty ∧ cl.slots = vs.toArray
variable {a b : Addr} {ty : FieldType} {vs : List Value} {sl : Nat} {v : Value} {ws : List Addr} {n : Int32}
theorem VArr.lt (F : VArr Z h a ty vs) : a < h.size := by obtain ⟨c, A, -⟩ := F; exact A.lt
theorem VArr.ext (F : VArr Z h a ty vs) (E : Ext h h') : VArr Z h' a ty vs := by obtain ⟨c, A, r⟩ := F; exact ⟨c, A.ext E, r⟩
theorem VArr.other (F : VArr Z h b ty vs) (W : Wr h h' a sl v) (q : b ≠ a) : VArr Z h' b ty vs := by obtain ⟨c, A, r⟩ := F; exact ⟨c, A.other W q, r⟩
theorem VArr.keep (F : VArr Z h a ty vs) (K : Keep h h' ws) (q : a ∉ ws) : VArr Z h' a ty vs := by obtain ⟨c, A, r⟩ := F; exact ⟨c, ⟨K.2.1 a c A.1 q, A.2⟩, r⟩
theorem VArr.new {k : ClassId} (A : Arr Z h a (newA k ty n) ty) : VArr Z h a ty (List.replicate n.toNatClampNeg (defaultValue ty)) := ⟨_, A, by simp [newA]⟩
theorem VArr.newL {k : ClassId} {i : Nat} (A : Arr Z h a (newA k ty n) ty) (hn : n.toNatClampNeg = i) : VArr Z h a ty (List.replicate i (defaultValue ty)) := hn ▸ VArr.new A
theorem VArr.wr (F : VArr Z h a ty vs) (W : Wr h h' a sl v) : VArr Z h' a ty (vs.set sl v) := by
  obtain ⟨c, A, r⟩ := F
  refine ⟨_, A.same W, ?_⟩
  show c.slots.setIfInBounds sl v = _
  rw [r]; simp
theorem VArr.inb {cl : Cell} {j : Int32} (r : cl.slots = vs.toArray) (hj : ¬ j < 0) (hi : j.toNatClampNeg < vs.length) : ¬ (j < 0 ∨ cl.slots.size ≤ j.toNatClampNeg) := by
  rw [r]; simp only [List.size_toArray]; rintro (q | q)
  · exact hj q
  · omega
theorem VArr.at {cl : Cell} {j : Int32} (r : cl.slots = vs.toArray) (hv : vs[j.toNatClampNeg]? = some v) : cl.slots[j.toNatClampNeg]? = some v := by rw [r]; simpa using hv
theorem lt_of_at {j : Nat} (hv : vs[j]? = some v) : j < vs.length := (List.getElem?_eq_some_iff.mp hv).1
theorem ldJ (X : Stand p l e R s m args below meth c T locs cells slots) (hx : p.tables.exec = Jvm.exec) (hZ : Z.Warmed39 s.vm) (eT : T.heap = h) (F : VArr Z h a .long vs) {j : Int32} {i : Nat} (hj : ¬ j < 0) (hji : j.toNatClampNeg = i) (hv : vs[i]? = some v)
    {g : JFrame} (hg : g.method = m) {rest : List Value} (hs : g.stack = .int j :: .ref a :: rest) (hd : decode c.code g.pc = .ok (.laload, 1)) (target : State)
    (hr : Steps p.tables e below (T.setTop { g with pc := g.pc + 1, stack := v :: rest }) target) : Steps p.tables e below (T.setTop g) target := by
  subst hji
  obtain ⟨cl, A, r⟩ := F
  exact X.laload hx (by rw [eT]; exact A.1) (State.isArrayOf_alike hZ.alike A.2.1) A.2.2 (VArr.inb r hj (lt_of_at hv)) (VArr.at r hv) hg hs hd target hr
theorem ldC (X : Stand p l e R s m args below meth c T locs cells slots) (hx : p.tables.exec = Jvm.exec) (hZ : Z.Warmed39 s.vm) (eT : T.heap = h) (F : VArr Z h a .char vs) {j : Int32} {i : Nat} (hj : ¬ j < 0) (hji : j.toNatClampNeg = i) (hv : vs[i]? = some v)
    {g : JFrame} (hg : g.method = m) {rest : List Value} (hs : g.stack = .int j :: .ref a :: rest) (hd : decode c.code g.pc = .ok (.caload, 1)) (target : State)
    (hr : Steps p.tables e below (T.setTop { g with pc := g.pc + 1, stack := v :: rest }) target) : Steps p.tables e below (T.setTop g) target := by
  subst hji
  obtain ⟨cl, A, r⟩ := F
  exact X.caload hx (by rw [eT]; exact A.1) (State.isArrayOf_alike hZ.alike A.2.1) A.2.2 (VArr.inb r hj (lt_of_at hv)) (VArr.at r hv) hg hs hd target hr
theorem ldB (X : Stand p l e R s m args below meth c T locs cells slots) (hx : p.tables.exec = Jvm.exec) (hZ : Z.Warmed39 s.vm) (eT : T.heap = h) (F : VArr Z h a .byte vs) {j : Int32} {i : Nat} (hj : ¬ j < 0) (hji : j.toNatClampNeg = i) (hv : vs[i]? = some v)
    {g : JFrame} (hg : g.method = m) {rest : List Value} (hs : g.stack = .int j :: .ref a :: rest) (hd : decode c.code g.pc = .ok (.baload, 1)) (target : State)
    (hr : Steps p.tables e below (T.setTop { g with pc := g.pc + 1, stack := v :: rest }) target) : Steps p.tables e below (T.setTop g) target := by
  subst hji
  obtain ⟨cl, A, r⟩ := F
  exact X.baloadBytes hx (by rw [eT]; exact A.1) (State.isArrayOf_alike hZ.alike A.2.1) A.2.2 (VArr.inb r hj (lt_of_at hv)) (VArr.at r hv) hg hs hd target hr
theorem lenV (X : Stand p l e R s m args below meth c T locs cells slots) (hx : p.tables.exec = Jvm.exec) (hZ : Z.Warmed39 s.vm) (eT : T.heap = h) (F : VArr Z h a ty vs) (hn : vs.length.toInt32 = n)
    {g : JFrame} (hg : g.method = m) {rest : List Value} (hs : g.stack = .ref a :: rest) (hd : decode c.code g.pc = .ok (.arraylength, 1)) (target : State)
    (hr : Steps p.tables e below (T.setTop { g with pc := g.pc + 1, stack := .int n :: rest }) target) : Steps p.tables e below (T.setTop g) target := by
  obtain ⟨cl, A, r⟩ := F
  refine X.arraylength hx (by rw [eT]; exact A.1) (State.isArrayOf_alike hZ.alike A.2.1) hg hs hd target ?_
  have q : cl.slots.size.toInt32 = n := by rw [r, ← hn]; simp
  rw [q]; exact hr
theorem saJ (X : Stand p l e R s m args below meth c T locs cells slots) (hx : p.tables.exec = Jvm.exec) (hZ : Z.Warmed39 s.vm) (eT : T.heap = h) (F : VArr Z h a .long vs) {j : Int32} {x : Int64} {i : Nat} (hj : ¬ j < 0) (hji : j.toNatClampNeg = i) (hi : i < vs.length)
    {g : JFrame} (hg : g.method = m) {rest : List Value} (hs : g.stack = .long x :: .int j :: .ref a :: rest) (hd : decode c.code g.pc = .ok (.lastore, 1)) :
    ∃ T' h', Stand p l e R s m args below meth c T' (locs ++ [⟨a, j.toNatClampNeg⟩]) cells slots ∧ T'.heap = h' ∧ Wr h h' a j.toNatClampNeg (.long x) ∧ VArr Z h' a .long (vs.set i (.long x)) ∧ ∀ target, Steps p.tables e below (T'.setTop { g with pc := g.pc + 1, stack := rest }) target → Steps p.tables e below (T.setTop g) target := by
  subst hji
  obtain ⟨cl, A, r⟩ := F
  obtain ⟨T', h', X', e', W, st⟩ := stJ X hx hZ eT A (x := x) (VArr.inb r hj hi) hg hs hd
  exact ⟨T', h', X', e', W, VArr.wr ⟨cl, A, r⟩ W, st⟩
theorem saC (X : Stand p l e R s m args below meth c T locs cells slots) (hx : p.tables.exec = Jvm.exec) (hZ : Z.Warmed39 s.vm) (eT : T.heap = h) (F : VArr Z h a .char vs) {j : Int32} {x : Int32} {i : Nat} (hj : ¬ j < 0) (hji : j.toNatClampNeg = i) (hi : i < vs.length)
    {g : JFrame} (hg : g.method = m) {rest : List Value} (hs : g.stack = .int x :: .int j :: .ref a :: rest) (hd : decode c.code g.pc = .ok (.castore, 1)) :
    ∃ T' h', Stand p l e R s m args below meth c T' (locs ++ [⟨a, j.toNatClampNeg⟩]) cells slots ∧ T'.heap = h' ∧ Wr h h' a j.toNatClampNeg (.int (nar .char x)) ∧ VArr Z h' a .char (vs.set i (.int (nar .char x))) ∧ ∀ target, Steps p.tables e below (T'.setTop { g with pc := g.pc + 1, stack := rest }) target → Steps p.tables e below (T.setTop g) target := by
  subst hji
  obtain ⟨cl, A, r⟩ := F
  obtain ⟨T', h', X', e', W, st⟩ := stC X hx hZ eT A (x := x) (VArr.inb r hj hi) hg hs hd
  exact ⟨T', h', X', e', W, VArr.wr ⟨cl, A, r⟩ W, st⟩
theorem saB (X : Stand p l e R s m args below meth c T locs cells slots) (hx : p.tables.exec = Jvm.exec) (hZ : Z.Warmed39 s.vm) (eT : T.heap = h) (F : VArr Z h a .byte vs) {j : Int32} {x : Int32} {i : Nat} (hj : ¬ j < 0) (hji : j.toNatClampNeg = i) (hi : i < vs.length)
    {g : JFrame} (hg : g.method = m) {rest : List Value} (hs : g.stack = .int x :: .int j :: .ref a :: rest) (hd : decode c.code g.pc = .ok (.bastore, 1)) :
    ∃ T' h', Stand p l e R s m args below meth c T' (locs ++ [⟨a, j.toNatClampNeg⟩]) cells slots ∧ T'.heap = h' ∧ Wr h h' a j.toNatClampNeg (.int (nar .byte x)) ∧ VArr Z h' a .byte (vs.set i (.int (nar .byte x))) ∧ ∀ target, Steps p.tables e below (T'.setTop { g with pc := g.pc + 1, stack := rest }) target → Steps p.tables e below (T.setTop g) target := by
  subst hji
  obtain ⟨cl, A, r⟩ := F
  obtain ⟨T', h', X', e', W, st⟩ := stB X hx hZ eT A (x := x) (VArr.inb r hj hi) hg hs hd
  exact ⟨T', h', X', e', W, VArr.wr ⟨cl, A, r⟩ W, st⟩
end OwnGo
end Jvm.RoadKit
namespace Jvm.RoadKit
open Sem ClassFile Op Lib Jvm.Stand Jvm.Free Jvm.LawKit
section OwnWide
variable {p : Program} {l : Launch} {e : Env} {R : Room} {s : State} {m : MethodId} {args : Array Value} {below : List Frame} {meth : Method} {c : Code} {T T' : State} {locs : List Loc} {cells slots : Nat} {Z : State} {a0 : Array Value} {h h' : Heap}
theorem allC {α : Type} {P : α → Prop} {x : α} {L : List α} (q : P x) (r : ∀ y ∈ L, P y) : ∀ y ∈ x :: L, P y := fun y z => (List.mem_cons.mp z).elim (fun u => u ▸ q) (r y)
theorem allN {α : Type} {P : α → Prop} : ∀ y ∈ ([] : List α), P y := fun _ q => nomatch q
/-- as Go, where the walk may have interned -/
def GoW (p : Program) (e : Env) (below : List Frame) (s : State) (Q : Option Value → State → List Loc → Prop) (nc ns : Nat) (T : State) (f : JFrame) : Prop :=
  ∃ s₂ o, Steps p.tables e below (T.setTop f) s₂ ∧ s₂.status = .running ∧ Ended s₂ below o ∧ ∃ v L, o = .returned v ∧ Q v s₂ L ∧ ReturnedEndW s o s₂ L nc ns
variable {Q : Option Value → State → List Loc → Prop} {nc ns : Nat}
theorem GoW.of {f f' : JFrame} (k : ∀ t, Steps p.tables e below (T'.setTop f') t → Steps p.tables e below (T.setTop f) t) (g : GoW p e below s Q nc ns T' f') : GoW p e below s Q nc ns T f := by
  obtain ⟨s₂, o, h1, h2⟩ := g
  exact ⟨s₂, o, k _ h1, h2⟩
theorem GoW.tr {f f' : JFrame} (k : Steps p.tables e below (T.setTop f) (T'.setTop f')) (g : GoW p e below s Q nc ns T' f') : GoW p e below s Q nc ns T f := by
  obtain ⟨s₂, o, h1, h2⟩ := g
  exact ⟨s₂, o, k.trans h1, h2⟩
theorem GoW.cast {f f' : JFrame} (q : f = f') (g : GoW p e below s Q nc ns T f') : GoW p e below s Q nc ns T f := q ▸ g
theorem GoW.retZ {vm₁ : Vm} (X : Stand p l e R (s.setVm vm₁) m args below meth c T locs cells slots) {n : Nat} (hS : s.Since vm₁ n) (hn : n ≤ T.heap.size) (hx : p.tables.exec = Jvm.exec) (hk : meth.locks = false) {t : FieldType} (hret : meth.sig.returnType = some t) (ht : t = .boolean ∨ t = .byte ∨ t = .char ∨ t = .short) {pc : Nat} (hd : decode c.code pc = .ok (.ireturn, 1)) {Ls : Array Slot} {z : Int32} {rest : List Value}
    (hc : cells ≤ nc) (hs : slots ≤ ns) (hq : ∀ U : State, U.heap = T.heap → U.vm = T.vm → Q (some (.int (nar t z))) U locs) : GoW p e below s Q nc ns T (mkF m pc Ls (.int z :: rest)) := by
  obtain ⟨fs, hr, hrun, hended, hE⟩ := X.leaveW hS hn (v := some (.int (nar t z))) (fun q => by rw [hret] at q; cases q)
  exact ⟨_, _, retN X hx hret ht hd hr, hrun, hended, _, _, rfl, hq _ rfl rfl, hE.1, hE.2.1, hE.2.2.1, hE.2.2.2.mono hc hs⟩
theorem backOfSX {y : MethodName} {bytes : ByteArray} {maxL : Nat} {ret : Option FieldType} {rm : Room} {len W : Nat} {as' : Array Value} (hQm : ∀ v (t U : State) L, U.heap = t.heap → U.vm = t.vm → Q v t L → Q v U L)
    (hM : MetFree l y (head1 [Cond.code y bytes maxL ret] rm) (fun a U => a = as' ∧ Z.WarmedH U.vm ∧ U.heap = h) (fun _ _ _ _ _ => True) (fun _ U o U' => ∃ v L, o = .returned v ∧ Q v U' L ∧ ReturnedEndW U o U' L rm.cells rm.slots))
    (hZ : Z.WarmedH s.vm) (wc : (Cond.code y bytes maxL ret).before a0 Z = true) (wz : (Cond.initialized y.cls).before a0 Z = true) (hf : rm.frames + 1 ≤ R.frames) (hl : W + (maxL + 11) + rm.locals ≤ R.locals) :
    BackS l R p e below s args y len W (fun A a => a = as' ∧ A.U.heap = h ∧ A.cells + rm.cells ≤ R.cells ∧ A.slots + rm.slots ≤ R.slots)
      (fun A _ v B => ∃ L, Q v B.U L ∧ B.locs = A.locs ++ L ∧ B.cells = A.cells + rm.cells ∧ B.slots = A.slots + rm.slots) :=
  BackS.of_freeW (bytes := bytes) (maxL := maxL) (ret := ret) (E := fun _ _ o t L k n => k = rm.cells ∧ n = rm.slots ∧ ∃ v, o = .returned v ∧ Q v t L) hM hf hl
    (fun m meth c A a Y hp => have hU : Z.Warmed39 A.U.vm := (State.WarmedH.trans hZ Y.warmed).wide
      ⟨by show (Cond.and _ .tt).before a A.U = true; rw [Cond.before_and, mv hU wc]; rfl, mv hU wc, mv hU wz, hp.2.2.1, hp.2.2.2⟩)
    (fun m meth c A a g mk Y hp => ⟨hp.1, State.WarmedH.trans hZ Y.warmed, hp.2.1⟩) (fun _ _ _ _ _ _ _ _ _ => trivial)
    (fun _ _ _ _ ⟨v, L, h1, h2, h3⟩ => ⟨L, _, _, h3, rfl, rfl, v, h1, h2⟩)
    (fun m meth c A a g mk v t L k n Y hp _ _ ⟨e1, e2, v', e3, e4⟩ => by cases e3; subst e1 e2; exact ⟨L, hQm v t _ L rfl rfl e4, rfl, rfl, rfl⟩)
theorem Arv.toV {a : Addr} {k : ClassId} {ty : FieldType} {z : Int32} {vs : List Value} {d : Value} (F : Arv Z h a k ty z vs d) (hl : z.toNatClampNeg = vs.length) : VArr Z h a ty vs := by
  obtain ⟨cl, A, -, S, -, H, -⟩ := F
  refine ⟨cl, A, ?_⟩
  apply Array.ext
  · simp [S, hl]
  · intro i h1 h2
    have q := H i h1
    rw [Array.getElem?_eq_getElem h1] at q
    have hi : i < vs.length := by simpa using h2
    rw [Option.some.inj q, List.getD_eq_getElem?_getD, List.getElem?_eq_getElem hi]; simp
theorem IBof (hZ : Z.WarmedH s.vm) : IB Z s.vm [] := ⟨#[], by rw [hZ.interned_eq]; simp, fun q hq => by simp at hq⟩
end OwnWide
end Jvm.RoadKit
namespace Jvm.Pilot.@@N@@
open Jvm Jvm.ClassFile Sem Op Lib Jvm.Free Jvm.Stand Jvm.LawKit Jvm.RoadKit Bundle Jvm.Pilot.@@N@@.Jvm.D
def abc : List Int32 := [97, 98, 99, 100, 101, 102, 103, 104, 105, 106, 107, 108, 109, 110, 111, 112, 113, 114, 115, 116, 117, 118, 119, 120, 121, 122]
def lowV (c : Int32) : Int32 := nar .char ((if c < 65 then c else if 90 < c then c else c + 32).toUInt32.toUInt16.toUInt32.toInt32)
theorem own_abc {n : Nat} (h : n < 26) : (abc.map Value.int)[n]? = some (.int (abc.getD n 0)) := by
  rw [List.getElem?_map, List.getD_eq_getElem?_getD, List.getElem?_eq_getElem (show n < abc.length from h)]; rfl
theorem own_ch : ∀ n : Fin 26, nar .char (((abc.getD n.1 0) &&& (255 : Int32)).toUInt32.toUInt16.toUInt32.toInt32) = Int32.ofNat (97 + n.1) ∧ nar .char (Int32.ofNat (97 + n.1)) = Int32.ofNat (97 + n.1) ∧ ¬ Int32.ofNat n.1 < 0 ∧ Int32.ofNat n.1 < 26 ∧ (Int32.ofNat n.1).toNatClampNeg = n.1 ∧ lowV (65 + Int32.ofNat n.1) = Int32.ofNat (97 + n.1) ∧ lowV (97 + Int32.ofNat n.1) = Int32.ofNat (97 + n.1) := by decide +kernel
theorem own_in (c : Int32) (h1 : ¬ c < 65) (h2 : ¬ 90 < c) : ∃ n : Nat, n < 26 ∧ c - 65 = Int32.ofNat n ∧ lowV c = Int32.ofNat (97 + n) := by
  have e1 : (65 : Int32).toInt = 65 := rfl
  have e2 : (90 : Int32).toInt = 90 := rfl
  rw [Int32.lt_iff_toInt_lt, e1] at h1
  rw [Int32.lt_iff_toInt_lt, e2] at h2
  have hn : (c.toInt - 65).toNat < 26 := by omega
  have key : ∀ n : Fin 26, (65 + Int32.ofNat n.1).toInt = 65 + n.1 ∧ (65 + Int32.ofNat n.1) - 65 = Int32.ofNat n.1 := by decide +kernel
  have hc : c = 65 + Int32.ofNat (c.toInt - 65).toNat := by
    apply Int32.toInt_inj.mp
    rw [(key ⟨_, hn⟩).1]; simp only []; omega
  refine ⟨_, hn, ?_, ?_⟩
  · have := (key ⟨_, hn⟩).2
    simp only [] at this
    rw [← hc] at this; exact this
  · have := (own_ch ⟨_, hn⟩).2.2.2.2.2.1
    simp only [] at this
    rw [← hc] at this; exact this
theorem own_out (c : Int32) (h : c < 65 ∨ 90 < c) : lowV c = nar .char (c.toUInt32.toUInt16.toUInt32.toInt32) := by
  unfold lowV
  by_cases q : c < 65
  · rw [if_pos q]
  · rw [if_neg q, if_pos (h.resolve_left q)]
theorem own_k (x : Int32) : ∃ n : Nat, n < 26 ∧ (x &&& 2147483647) % 26 = Int32.ofNat n := by
  have h : (x &&& 2147483647).toBitVec.toNat ≤ 2147483647 := by rw [Int32.toBitVec_and, BitVec.toNat_and]; exact Nat.and_le_right
  have hy : 0 ≤ (x &&& 2147483647).toInt := by
    show 0 ≤ (x &&& 2147483647).toBitVec.toInt
    rw [BitVec.toInt_eq_toNat_cond, if_pos (by omega)]; omega
  have e : (26 : Int32).toInt = 26 := rfl
  have a1 := Int.tmod_nonneg (26 : Int) hy
  have a2 := Int.tmod_lt_of_pos (x &&& 2147483647).toInt (by omega : (0 : Int) < 26)
  refine ⟨((x &&& 2147483647).toInt.tmod 26).toNat, by omega, ?_⟩
  apply Int32.toInt_inj.mp
  rw [Int32.toInt_mod, e]
  show _ = (Nat.toInt32 _).toInt
  rw [len_toInt (by omega)]; omega
theorem own_words {Z : State} {a0 : Array Value} (hw : ∀ d ∈ tables_1, d.before a0 Z = true) : ∀ a ∈ Bundle.stringAtoms, a.before a0 Z = true :=
  (allC (hw _ (List.mem_of_getElem? (i := 10) rfl)) (allC (hw _ (List.mem_of_getElem? (i := 11) rfl)) (allC (hw _ (List.mem_of_getElem? (i := 12) rfl)) (allC (hw _ (List.mem_of_getElem? (i := 13) rfl)) (allC (hw _ (List.mem_of_getElem? (i := 14) rfl)) (allC (hw _ (List.mem_of_getElem? (i := 15) rfl)) (allC (hw _ (List.mem_of_getElem? (i := 16) rfl)) allN)))))))
theorem d1_0 : decode prog_49_method_86_code 0 = .ok (.iload_n 0, 1) := by decide +kernel
theorem d1_1 : decode prog_49_method_86_code 1 = .ok (.istore_n 1, 1) := by decide +kernel
theorem d1_2 : decode prog_49_method_86_code 2 = .ok (.iload_n 0, 1) := by decide +kernel
theorem d1_3 : decode prog_49_method_86_code 3 = .ok (.bipush 65, 2) := by decide +kernel
theorem d1_5 : decode prog_49_method_86_code 5 = .ok (.if_icmp .lt 14, 3) := by decide +kernel
theorem d1_8 : decode prog_49_method_86_code 8 = .ok (.iload_n 0, 1) := by decide +kernel
theorem d1_9 : decode prog_49_method_86_code 9 = .ok (.bipush 90, 2) := by decide +kernel
theorem d1_11 : decode prog_49_method_86_code 11 = .ok (.if_icmp .gt 8, 3) := by decide +kernel
theorem d1_14 : decode prog_49_method_86_code 14 = .ok (.iload_n 0, 1) := by decide +kernel
theorem d1_15 : decode prog_49_method_86_code 15 = .ok (.bipush 32, 2) := by decide +kernel
theorem d1_17 : decode prog_49_method_86_code 17 = .ok (.iadd, 1) := by decide +kernel
theorem d1_18 : decode prog_49_method_86_code 18 = .ok (.istore_n 1, 1) := by decide +kernel
theorem d1_19 : decode prog_49_method_86_code 19 = .ok (.iload_n 1, 1) := by decide +kernel
theorem d1_20 : decode prog_49_method_86_code 20 = .ok (.i2c, 1) := by decide +kernel
theorem d1_21 : decode prog_49_method_86_code 21 = .ok (.ireturn, 1) := by decide +kernel
theorem pn_0 : plainName "com/example/albero/albero/Tokenizer" = true := by first | (simp [plainName, overriddenIn]; done) | decide +kernel
theorem ef_1 (m : MethodId) (x0 : Int32) : entryFrame m #[(.int x0)] 2 = mkF m 0 #[.val (.int x0), .unset] [] := by first | (simp [entryFrame, mkF, argsToLocals, Value.category]; done) | rfl
def Q1 (Z : State) (x0 : Int32)  (h0 : Heap) (n0 : Nat) (v : Option Value) (h : Heap) (L : List Loc) : Prop := v = some (.int (lowV x0)) ∧ Fr n0 L ∧ h = h0
set_option maxRecDepth 65536 in
set_option maxHeartbeats 40000000 in
theorem rm1 (l : Launch) (Z : State) (a0 : Array Value) (hw : ∀ d ∈ tables_1, d.before a0 Z = true) (ws : List Jvm.Cond) (x0 : Int32)  (h0 : Heap) (n0 : Nat) (Z0 : n0 ≤ h0.size)  :
    MetFree l (⟨"com/example/albero/albero/Tokenizer", "toAsciiLowerCase", "(I)C"⟩ : MethodName) (head1 (Jvm.Cond.code (⟨"com/example/albero/albero/Tokenizer", "toAsciiLowerCase", "(I)C"⟩ : MethodName) prog_49_method_86_code 2 (some .char) :: ws) ({ frames := 0, cells := 0, slots := 0, locals := 0 } : Room)) (fun a U => a = #[(.int x0)] ∧ Z.Warmed39 U.vm ∧ U.heap = h0) (fun _ _ _ _ _ => True) (fun _ U o U' => ∃ v L, o = .returned v ∧ Q1 Z x0 h0 n0 v U'.heap L ∧ FrameEnd U o U' L ({ frames := 0, cells := 0, slots := 0, locals := 0 } : Room).cells ({ frames := 0, cells := 0, slots := 0, locals := 0 } : Room).slots) := by
  refine MetFree.of_bodySF (plainFor_of_name pn_0) hisR ?_
  intro p e s m args below meth c s₁ Bd hml0 hP hK
  obtain ⟨rfl, hZ, hh⟩ := hP
  have hx := Bd.exec
  have hby := Bd.bytes
  have hml : c.maxLocals = 2 := hml0
  have hown : s.vm.findClass "com/example/albero/albero/Tokenizer" = some m.cls := findClass_of_methodNamed Bd.named
  have hnm := (name_of_methodNamed Bd.named Bd.method).1
  have hk : meth.locks = false := BodyLoose.notSynchronized Bd
  have X0 : Stand p l e ({ frames := 0, cells := 0, slots := 0, locals := 0 } : Room) s m #[(.int x0)] below meth c s₁ [] 0 0 := Stand.of_body Bd
  have e0 : s₁.heap = h0 := by rw [← hh, Bd.state]; rfl
  have N0 := Fr.nil n0
  show Go p e below s (Q1 Z x0 h0 n0) ({ frames := 0, cells := 0, slots := 0, locals := 0 } : Room).cells ({ frames := 0, cells := 0, slots := 0, locals := 0 } : Room).slots s₁ (entryFrame m #[(.int x0)] 2)
  refine Go.cast (ef_1 m x0) ?_
  refine Go.of (T' := s₁) (f' := (mkF m 1 #[.val (.int x0), .unset] [(.int x0)])) (fun t k => XS.iloadN X0.here hx rfl (hb hby d1_0) rfl k) ?_
  refine Go.of (T' := s₁) (f' := (mkF m 2 #[.val (.int x0), .val (.int x0)] [])) (fun t k => XS.istoreN X0.here hx rfl (hb hby d1_1) rfl (l' := #[.val (.int x0), .val (.int x0)]) rfl k) ?_
  refine Go.of (T' := s₁) (f' := (mkF m 3 #[.val (.int x0), .val (.int x0)] [(.int x0)])) (fun t k => XS.iloadN X0.here hx rfl (hb hby d1_2) rfl k) ?_
  refine Go.of (T' := s₁) (f' := (mkF m 5 #[.val (.int x0), .val (.int x0)] [(.int (65 : Int32)), (.int x0)])) (fun t k => XS.bipush X0.here hx rfl (hb hby d1_3) k) ?_
  by_cases hc5 : x0 < (65 : Int32)
  · -- pc 5: yes
    refine Go.of (T' := s₁) (f' := (mkF m 19 #[.val (.int x0), .val (.int x0)] [])) (fun t k => XS.icmpYes X0.here hx rfl (pc0 := 5) (pc' := 19) rfl (hb hby d1_5) rfl ((tlt hc5).1) (by decide) (by decide) k) ?_
    refine Go.of (T' := s₁) (f' := (mkF m 20 #[.val (.int x0), .val (.int x0)] [(.int x0)])) (fun t k => XS.iloadN X0.here hx rfl (hb hby d1_19) rfl k) ?_
    refine Go.of (T' := s₁) (f' := (mkF m 21 #[.val (.int x0), .val (.int x0)] [(.int (x0.toUInt32.toUInt16.toUInt32.toInt32))])) (fun t k => XS.i2c X0.here hx rfl (hb hby d1_20) rfl k) ?_
    refine Go.retZ X0 hx hk (t := .char) Bd.returns (by simp) (hb hby d1_21) (by decide) (by decide) ?_
    rw [e0]
    exact ⟨by rw [lowV, if_pos hc5], N0, rfl⟩
  · -- pc 5: no
    refine Go.of (T' := s₁) (f' := (mkF m 8 #[.val (.int x0), .val (.int x0)] [])) (fun t k => XS.icmpNo X0.here hx rfl (hb hby d1_5) rfl ((flt hc5).1) k) ?_
    refine Go.of (T' := s₁) (f' := (mkF m 9 #[.val (.int x0), .val (.int x0)] [(.int x0)])) (fun t k => XS.iloadN X0.here hx rfl (hb hby d1_8) rfl k) ?_
    refine Go.of (T' := s₁) (f' := (mkF m 11 #[.val (.int x0), .val (.int x0)] [(.int (90 : Int32)), (.int x0)])) (fun t k => XS.bipush X0.here hx rfl (hb hby d1_9) k) ?_
    by_cases hc11 : (90 : Int32) < x0
    · -- pc 11: yes
      refine Go.of (T' := s₁) (f' := (mkF m 19 #[.val (.int x0), .val (.int x0)] [])) (fun t k => XS.icmpYes X0.here hx rfl (pc0 := 11) (pc' := 19) rfl (hb hby d1_11) rfl ((tlt hc11).2.2.1) (by decide) (by decide) k) ?_
      refine Go.of (T' := s₁) (f' := (mkF m 20 #[.val (.int x0), .val (.int x0)] [(.int x0)])) (fun t k => XS.iloadN X0.here hx rfl (hb hby d1_19) rfl k) ?_
      refine Go.of (T' := s₁) (f' := (mkF m 21 #[.val (.int x0), .val (.int x0)] [(.int (x0.toUInt32.toUInt16.toUInt32.toInt32))])) (fun t k => XS.i2c X0.here hx rfl (hb hby d1_20) rfl k) ?_
      refine Go.retZ X0 hx hk (t := .char) Bd.returns (by simp) (hb hby d1_21) (by decide) (by decide) ?_
      rw [e0]
      exact ⟨by rw [lowV, if_neg hc5, if_pos hc11], N0, rfl⟩
    · -- pc 11: no
      refine Go.of (T' := s₁) (f' := (mkF m 14 #[.val (.int x0), .val (.int x0)] [])) (fun t k => XS.icmpNo X0.here hx rfl (hb hby d1_11) rfl ((flt hc11).2.2.1) k) ?_
      refine Go.of (T' := s₁) (f' := (mkF m 15 #[.val (.int x0), .val (.int x0)] [(.int x0)])) (fun t k => XS.iloadN X0.here hx rfl (hb hby d1_14) rfl k) ?_
      refine Go.of (T' := s₁) (f' := (mkF m 17 #[.val (.int x0), .val (.int x0)] [(.int (32 : Int32)), (.int x0)])) (fun t k => XS.bipush X0.here hx rfl (hb hby d1_15) k) ?_
      refine Go.of (T' := s₁) (f' := (mkF m 18 #[.val (.int x0), .val (.int x0)] [(.int (x0 + (32 : Int32)))])) (fun t k => XS.iadd X0.here hx rfl (hb hby d1_17) rfl k) ?_
      refine Go.of (T' := s₁) (f' := (mkF m 19 #[.val (.int x0), .val (.int (x0 + (32 : Int32)))] [])) (fun t k => XS.istoreN X0.here hx rfl (hb hby d1_18) rfl (l' := #[.val (.int x0), .val (.int (x0 + (32 : Int32)))]) rfl k) ?_
      refine Go.of (T' := s₁) (f' := (mkF m 20 #[.val (.int x0), .val (.int (x0 + (32 : Int32)))] [(.int (x0 + (32 : Int32)))])) (fun t k => XS.iloadN X0.here hx rfl (hb hby d1_19) rfl k) ?_
      refine Go.of (T' := s₁) (f' := (mkF m 21 #[.val (.int x0), .val (.int (x0 + (32 : Int32)))] [(.int ((x0 + (32 : Int32)).toUInt32.toUInt16.toUInt32.toInt32))])) (fun t k => XS.i2c X0.here hx rfl (hb hby d1_20) rfl k) ?_
      refine Go.retZ X0 hx hk (t := .char) Bd.returns (by simp) (hb hby d1_21) (by decide) (by decide) ?_
      rw [e0]
      exact ⟨by rw [lowV, if_neg hc5, if_neg hc11], N0, rfl⟩
theorem d7_0 : decode jdk_41_method_11_code 0 = .ok (.iload_n 0, 1) := by decide +kernel
theorem d7_1 : decode jdk_41_method_11_code 1 = .ok (.ifCond .lt 8, 3) := by decide +kernel
theorem d7_4 : decode jdk_41_method_11_code 4 = .ok (.iload_n 0, 1) := by decide +kernel
theorem d7_5 : decode jdk_41_method_11_code 5 = .ok (.iload_n 1, 1) := by decide +kernel
theorem d7_6 : decode jdk_41_method_11_code 6 = .ok (.if_icmp .lt 10, 3) := by decide +kernel
theorem d7_16 : decode jdk_41_method_11_code 16 = .ok (.iload_n 0, 1) := by decide +kernel
theorem d7_17 : decode jdk_41_method_11_code 17 = .ok (.ireturn, 1) := by decide +kernel
theorem pn_1 : plainName "jdk/internal/util/Preconditions" = true := by first | (simp [plainName, overriddenIn]; done) | decide +kernel
theorem ef_7 (m : MethodId) (x0 : Int32) (x1 : Int32) (x2 : Addr) : entryFrame m #[(.int x0), (.int x1), (.ref x2)] 3 = mkF m 0 #[.val (.int x0), .val (.int x1), .val (.ref x2)] [] := by first | (simp [entryFrame, mkF, argsToLocals, Value.category]; done) | rfl
def Q7_r (Z : State) (x0 : Int32) (x1 : Int32) (x2 : Addr)  (h0 : Heap) (n0 : Nat) (v : Option Value) (h : Heap) (L : List Loc) : Prop := v = some (.int x0) ∧ Fr n0 L ∧ h = h0
set_option maxRecDepth 65536 in
set_option maxHeartbeats 40000000 in
theorem rm7_r (l : Launch) (Z : State) (a0 : Array Value) (hw : ∀ d ∈ tables_1, d.before a0 Z = true) (ws : List Jvm.Cond) (x0 : Int32) (x1 : Int32) (x2 : Addr)  (h0 : Heap) (n0 : Nat) (Z0 : n0 ≤ h0.size) (hi0 : ¬ x0 < 0) (hi1 : x0 < x1) :
    MetFree l (⟨"jdk/internal/util/Preconditions", "checkIndex", "(IILjava/util/function/BiFunction;)I"⟩ : MethodName) (head1 (Jvm.Cond.code (⟨"jdk/internal/util/Preconditions", "checkIndex", "(IILjava/util/function/BiFunction;)I"⟩ : MethodName) jdk_41_method_11_code 3 (some .int) :: ws) ({ frames := 0, cells := 0, slots := 0, locals := 0 } : Room)) (fun a U => a = #[(.int x0), (.int x1), (.ref x2)] ∧ Z.Warmed39 U.vm ∧ U.heap = h0) (fun _ _ _ _ _ => True) (fun _ U o U' => ∃ v L, o = .returned v ∧ Q7_r Z x0 x1 x2 h0 n0 v U'.heap L ∧ FrameEnd U o U' L ({ frames := 0, cells := 0, slots := 0, locals := 0 } : Room).cells ({ frames := 0, cells := 0, slots := 0, locals := 0 } : Room).slots) := by
  refine MetFree.of_bodySF (plainFor_of_name pn_1) hisR ?_
  intro p e s m args below meth c s₁ Bd hml0 hP hK
  obtain ⟨rfl, hZ, hh⟩ := hP
  have hx := Bd.exec
  have hby := Bd.bytes
  have hml : c.maxLocals = 3 := hml0
  have hown : s.vm.findClass "jdk/internal/util/Preconditions" = some m.cls := findClass_of_methodNamed Bd.named
  have hnm := (name_of_methodNamed Bd.named Bd.method).1
  have hk : meth.locks = false := BodyLoose.notSynchronized Bd
  have X0 : Stand p l e ({ frames := 0, cells := 0, slots := 0, locals := 0 } : Room) s m #[(.int x0), (.int x1), (.ref x2)] below meth c s₁ [] 0 0 := Stand.of_body Bd
  have e0 : s₁.heap = h0 := by rw [← hh, Bd.state]; rfl
  have N0 := Fr.nil n0
  show Go p e below s (Q7_r Z x0 x1 x2 h0 n0) ({ frames := 0, cells := 0, slots := 0, locals := 0 } : Room).cells ({ frames := 0, cells := 0, slots := 0, locals := 0 } : Room).slots s₁ (entryFrame m #[(.int x0), (.int x1), (.ref x2)] 3)
  refine Go.cast (ef_7 m x0 x1 x2) ?_
  refine Go.of (T' := s₁) (f' := (mkF m 1 #[.val (.int x0), .val (.int x1), .val (.ref x2)] [(.int x0)])) (fun t k => XS.iloadN X0.here hx rfl (hb hby d7_0) rfl k) ?_
  have hc1 : ¬ (x0 < (0 : Int32)) := hi0
  refine Go.of (T' := s₁) (f' := (mkF m 4 #[.val (.int x0), .val (.int x1), .val (.ref x2)] [])) (fun t k => XS.ifNo X0.here hx rfl (hb hby d7_1) rfl ((if0 _ _).trans (flt hc1).1) k) ?_
  refine Go.of (T' := s₁) (f' := (mkF m 5 #[.val (.int x0), .val (.int x1), .val (.ref x2)] [(.int x0)])) (fun t k => XS.iloadN X0.here hx rfl (hb hby d7_4) rfl k) ?_
  refine Go.of (T' := s₁) (f' := (mkF m 6 #[.val (.int x0), .val (.int x1), .val (.ref x2)] [(.int x1), (.int x0)])) (fun t k => XS.iloadN X0.here hx rfl (hb hby d7_5) rfl k) ?_
  have hc6 : x0 < x1 := hi1
  refine Go.of (T' := s₁) (f' := (mkF m 16 #[.val (.int x0), .val (.int x1), .val (.ref x2)] [])) (fun t k => XS.icmpYes X0.here hx rfl (pc0 := 6) (pc' := 16) rfl (hb hby d7_6) rfl ((tlt hc6).1) (by decide) (by decide) k) ?_
  refine Go.of (T' := s₁) (f' := (mkF m 17 #[.val (.int x0), .val (.int x1), .val (.ref x2)] [(.int x0)])) (fun t k => XS.iloadN X0.here hx rfl (hb hby d7_16) rfl k) ?_
  refine Go.retI X0 hx hk Bd.returns (hb hby d7_17) (by decide) (by decide) ?_
  rw [e0]
  exact ⟨rfl, N0, rfl⟩
theorem ef_7_n (m : MethodId) (x0 : Int32) (x1 : Int32) : entryFrame m #[(.int x0), (.int x1), .null] 3 = mkF m 0 #[.val (.int x0), .val (.int x1), .val .null] [] := by first | (simp [entryFrame, mkF, argsToLocals, Value.category]; done) | rfl
def Q7_n (Z : State) (x0 : Int32) (x1 : Int32)  (h0 : Heap) (n0 : Nat) (v : Option Value) (h : Heap) (L : List Loc) : Prop := v = some (.int x0) ∧ Fr n0 L ∧ h = h0
set_option maxRecDepth 65536 in
set_option maxHeartbeats 40000000 in
theorem rm7_n (l : Launch) (Z : State) (a0 : Array Value) (hw : ∀ d ∈ tables_1, d.before a0 Z = true) (ws : List Jvm.Cond) (x0 : Int32) (x1 : Int32)  (h0 : Heap) (n0 : Nat) (Z0 : n0 ≤ h0.size) (hi0 : ¬ x0 < 0) (hi1 : x0 < x1) :
    MetFree l (⟨"jdk/internal/util/Preconditions", "checkIndex", "(IILjava/util/function/BiFunction;)I"⟩ : MethodName) (head1 (Jvm.Cond.code (⟨"jdk/internal/util/Preconditions", "checkIndex", "(IILjava/util/function/BiFunction;)I"⟩ : MethodName) jdk_41_method_11_code 3 (some .int) :: ws) ({ frames := 0, cells := 0, slots := 0, locals := 0 } : Room)) (fun a U => a = #[(.int x0), (.int x1), .null] ∧ Z.Warmed39 U.vm ∧ U.heap = h0) (fun _ _ _ _ _ => True) (fun _ U o U' => ∃ v L, o = .returned v ∧ Q7_n Z x0 x1 h0 n0 v U'.heap L ∧ FrameEnd U o U' L ({ frames := 0, cells := 0, slots := 0, locals := 0 } : Room).cells ({ frames := 0, cells := 0, slots := 0, locals := 0 } : Room).slots) := by
  refine MetFree.of_bodySF (plainFor_of_name pn_1) hisR ?_
  intro p e s m args below meth c s₁ Bd hml0 hP hK
  obtain ⟨rfl, hZ, hh⟩ := hP
  have hx := Bd.exec
  have hby := Bd.bytes
  have hml : c.maxLocals = 3 := hml0
  have hown : s.vm.findClass "jdk/internal/util/Preconditions" = some m.cls := findClass_of_methodNamed Bd.named
  have hnm := (name_of_methodNamed Bd.named Bd.method).1
  have hk : meth.locks = false := BodyLoose.notSynchronized Bd
  have X0 : Stand p l e ({ frames := 0, cells := 0, slots := 0, locals := 0 } : Room) s m #[(.int x0), (.int x1), .null] below meth c s₁ [] 0 0 := Stand.of_body Bd
  have e0 : s₁.heap = h0 := by rw [← hh, Bd.state]; rfl
  have N0 := Fr.nil n0
  show Go p e below s (Q7_n Z x0 x1 h0 n0) ({ frames := 0, cells := 0, slots := 0, locals := 0 } : Room).cells ({ frames := 0, cells := 0, slots := 0, locals := 0 } : Room).slots s₁ (entryFrame m #[(.int x0), (.int x1), .null] 3)
  refine Go.cast (ef_7_n m x0 x1) ?_
  refine Go.of (T' := s₁) (f' := (mkF m 1 #[.val (.int x0), .val (.int x1), .val .null] [(.int x0)])) (fun t k => XS.iloadN X0.here hx rfl (hb hby d7_0) rfl k) ?_
  have hc1 : ¬ (x0 < (0 : Int32)) := hi0
  refine Go.of (T' := s₁) (f' := (mkF m 4 #[.val (.int x0), .val (.int x1), .val .null] [])) (fun t k => XS.ifNo X0.here hx rfl (hb hby d7_1) rfl ((if0 _ _).trans (flt hc1).1) k) ?_
  refine Go.of (T' := s₁) (f' := (mkF m 5 #[.val (.int x0), .val (.int x1), .val .null] [(.int x0)])) (fun t k => XS.iloadN X0.here hx rfl (hb hby d7_4) rfl k) ?_
  refine Go.of (T' := s₁) (f' := (mkF m 6 #[.val (.int x0), .val (.int x1), .val .null] [(.int x1), (.int x0)])) (fun t k => XS.iloadN X0.here hx rfl (hb hby d7_5) rfl k) ?_
  have hc6 : x0 < x1 := hi1
  refine Go.of (T' := s₁) (f' := (mkF m 16 #[.val (.int x0), .val (.int x1), .val .null] [])) (fun t k => XS.icmpYes X0.here hx rfl (pc0 := 6) (pc' := 16) rfl (hb hby d7_6) rfl ((tlt hc6).1) (by decide) (by decide) k) ?_
  refine Go.of (T' := s₁) (f' := (mkF m 17 #[.val (.int x0), .val (.int x1), .val .null] [(.int x0)])) (fun t k => XS.iloadN X0.here hx rfl (hb hby d7_16) rfl k) ?_
  refine Go.retI X0 hx hk Bd.returns (hb hby d7_17) (by decide) (by decide) ?_
  rw [e0]
  exact ⟨rfl, N0, rfl⟩
theorem pd_0 : parseMethodDescriptor "(IILjava/util/function/BiFunction;)I" = some ⟨[.int, .int, (.object "java/util/function/BiFunction")], some .int⟩ := by decide +kernel
theorem d6_0 : decode jdk_42_method_155_code 0 = .ok (.iload_n 0, 1) := by decide +kernel
theorem d6_1 : decode jdk_42_method_155_code 1 = .ok (.iload_n 1, 1) := by decide +kernel
theorem d6_2 : decode jdk_42_method_155_code 2 = .ok (.getstatic 1053, 3) := by decide +kernel
theorem d6_5 : decode jdk_42_method_155_code 5 = .ok (.invokestatic 1059, 3) := by decide +kernel
theorem d6_8 : decode jdk_42_method_155_code 8 = .ok (.pop, 1) := by decide +kernel
theorem d6_9 : decode jdk_42_method_155_code 9 = .ok (.return_, 1) := by decide +kernel
theorem pn_2 : plainName "java/lang/String" = true := by first | (simp [plainName, overriddenIn]; done) | decide +kernel
theorem ef_6 (m : MethodId) (x0 : Int32) (x1 : Int32) : entryFrame m #[(.int x0), (.int x1)] 2 = mkF m 0 #[.val (.int x0), .val (.int x1)] [] := by first | (simp [entryFrame, mkF, argsToLocals, Value.category]; done) | rfl
def Q6 (Z : State) (x0 : Int32) (x1 : Int32) (vf : Value) (h0 : Heap) (n0 : Nat) (v : Option Value) (h : Heap) (L : List Loc) : Prop := v = none ∧ Fr n0 L ∧ h = h0
set_option maxRecDepth 65536 in
set_option maxHeartbeats 40000000 in
theorem rm6 (l : Launch) (Z : State) (a0 : Array Value) (hw : ∀ d ∈ tables_1, d.before a0 Z = true) (ws : List Jvm.Cond) (x0 : Int32) (x1 : Int32) (vf : Value) (h0 : Heap) (n0 : Nat) (Z0 : n0 ≤ h0.size) (S_sf : Sta Z h0 "jdk/internal/util/Preconditions" "SIOOBE_FORMATTER" "Ljava/util/function/BiFunction;" vf) (rf : vf.isRef = true) (hi0 : ¬ x0 < 0) (hi1 : x0 < x1) :
    MetFree l (⟨"java/lang/String", "checkIndex", "(II)V"⟩ : MethodName) (head1 (Jvm.Cond.code (⟨"java/lang/String", "checkIndex", "(II)V"⟩ : MethodName) jdk_42_method_155_code 2 none :: ws) ({ frames := 1, cells := 0, slots := 0, locals := 14 } : Room)) (fun a U => a = #[(.int x0), (.int x1)] ∧ Z.Warmed39 U.vm ∧ U.heap = h0) (fun _ _ _ _ _ => True) (fun _ U o U' => ∃ v L, o = .returned v ∧ Q6 Z x0 x1 vf h0 n0 v U'.heap L ∧ FrameEnd U o U' L ({ frames := 1, cells := 0, slots := 0, locals := 14 } : Room).cells ({ frames := 1, cells := 0, slots := 0, locals := 14 } : Room).slots) := by
  refine MetFree.of_bodySF (plainFor_of_name pn_2) hisR ?_
  intro p e s m args below meth c s₁ Bd hml0 hP hK
  obtain ⟨rfl, hZ, hh⟩ := hP
  have hx := Bd.exec
  have hby := Bd.bytes
  have hml : c.maxLocals = 2 := hml0
  have hown : s.vm.findClass "java/lang/String" = some m.cls := findClass_of_methodNamed Bd.named
  have hnm := (name_of_methodNamed Bd.named Bd.method).1
  have hk : meth.locks = false := BodyLoose.notSynchronized Bd
  have X0 : Stand p l e ({ frames := 1, cells := 0, slots := 0, locals := 14 } : Room) s m #[(.int x0), (.int x1)] below meth c s₁ [] 0 0 := Stand.of_body Bd
  have e0 : s₁.heap = h0 := by rw [← hh, Bd.state]; rfl
  have N0 := Fr.nil n0
  show Go p e below s (Q6 Z x0 x1 vf h0 n0) ({ frames := 1, cells := 0, slots := 0, locals := 14 } : Room).cells ({ frames := 1, cells := 0, slots := 0, locals := 14 } : Room).slots s₁ (entryFrame m #[(.int x0), (.int x1)] 2)
  refine Go.cast (ef_6 m x0 x1) ?_
  refine Go.of (T' := s₁) (f' := (mkF m 1 #[.val (.int x0), .val (.int x1)] [(.int x0)])) (fun t k => XS.iloadN X0.here hx rfl (hb hby d6_0) rfl k) ?_
  refine Go.of (T' := s₁) (f' := (mkF m 2 #[.val (.int x0), .val (.int x1)] [(.int x1), (.int x0)])) (fun t k => XS.iloadN X0.here hx rfl (hb hby d6_1) rfl k) ?_
  rcases ref_cases rf with rfl | ⟨af, rfl⟩
  ·
    obtain ⟨T1, X1, e1, st1⟩ := getS2 X0 hx hZ hown (host := "") (Or.inl (hw _ (List.mem_of_getElem? (i := 37) rfl))) Via.refl e0 S_sf (g := (mkF m 2 #[.val (.int x0), .val (.int x1)] [(.int x1), (.int x0)])) rfl (hb hby d6_2)
    refine Go.of (T' := T1) (f' := (mkF m 5 #[.val (.int x0), .val (.int x1)] [.null, (.int x1), (.int x0)])) (fun t k => st1 t k) ?_
    obtain ⟨_, _, ⟨T2, L2, k2, n2⟩, -, X2, ⟨Lc2, hQ2, l2, y2, z2⟩, st2⟩ := Jvm.LawKit.callS X1 hx (y := (⟨"jdk/internal/util/Preconditions", "checkIndex", "(IILjava/util/function/BiFunction;)I"⟩ : MethodName)) hown (mvT hZ (hw _ (List.mem_of_getElem? (i := 39) rfl))) (mvT hZ (hw _ (List.mem_of_getElem? (i := 40) rfl))) (mvT hZ (hw _ (List.mem_of_getElem? (i := 38) rfl))) (mvT hZ (hw _ (List.mem_of_getElem? (i := 41) rfl))) (by decide) (backOf (W := 0) (rm7_n l Z a0 hw [] x0 x1 h0 n0 Z0 hi0 hi1) hZ (hw _ (List.mem_of_getElem? (i := 41) rfl)) (hw _ (List.mem_of_getElem? (i := 38) rfl)) (by decide) (by decide)) (g := (mkF m 5 #[.val (.int x0), .val (.int x1)] [.null, (.int x1), (.int x0)])) rfl (by rw [hml]; rfl) (argsL := [(.int x0), (.int x1), .null]) (rest := []) (lenOf pd_0 rfl) rfl (by show 2 * 0 + _ ≤ _; exact Nat.le_of_eq rfl) (hb hby d6_5) (fun _ _ => ⟨rfl, e1, (by decide : 0 + 0 ≤ _), (by decide : 0 + 0 ≤ _)⟩)
    dsimp only [Pt.U, Pt.locs, Pt.cells, Pt.slots] at X2 l2 y2 z2 st2 hQ2
    subst l2 y2 z2
    obtain ⟨rfl, N2q, e2⟩ := hQ2
    have N2 := Fr.app N0 N2q
    refine Go.of (T' := T2) (f' := (mkF m 8 #[.val (.int x0), .val (.int x1)] [(.int x0)])) (fun t k => st2 t k) ?_
    refine Go.of (T' := T2) (f' := (mkF m 9 #[.val (.int x0), .val (.int x1)] [])) (fun t k => XS.pop X2.here hx rfl (hb hby d6_8) rfl rfl k) ?_
    refine Go.retV X2 hx hk Bd.returns (hb hby d6_9) (by decide) (by decide) ?_
    rw [e2]
    exact ⟨rfl, N2, rfl⟩
  ·
    obtain ⟨T3, X3, e3, st3⟩ := getS2 X0 hx hZ hown (host := "") (Or.inl (hw _ (List.mem_of_getElem? (i := 37) rfl))) Via.refl e0 S_sf (g := (mkF m 2 #[.val (.int x0), .val (.int x1)] [(.int x1), (.int x0)])) rfl (hb hby d6_2)
    refine Go.of (T' := T3) (f' := (mkF m 5 #[.val (.int x0), .val (.int x1)] [(.ref af), (.int x1), (.int x0)])) (fun t k => st3 t k) ?_
    obtain ⟨_, _, ⟨T4, L4, k4, n4⟩, -, X4, ⟨Lc4, hQ4, l4, y4, z4⟩, st4⟩ := Jvm.LawKit.callS X3 hx (y := (⟨"jdk/internal/util/Preconditions", "checkIndex", "(IILjava/util/function/BiFunction;)I"⟩ : MethodName)) hown (mvT hZ (hw _ (List.mem_of_getElem? (i := 39) rfl))) (mvT hZ (hw _ (List.mem_of_getElem? (i := 40) rfl))) (mvT hZ (hw _ (List.mem_of_getElem? (i := 38) rfl))) (mvT hZ (hw _ (List.mem_of_getElem? (i := 41) rfl))) (by decide) (backOf (W := 0) (rm7_r l Z a0 hw [] x0 x1 af h0 n0 Z0 hi0 hi1) hZ (hw _ (List.mem_of_getElem? (i := 41) rfl)) (hw _ (List.mem_of_getElem? (i := 38) rfl)) (by decide) (by decide)) (g := (mkF m 5 #[.val (.int x0), .val (.int x1)] [(.ref af), (.int x1), (.int x0)])) rfl (by rw [hml]; rfl) (argsL := [(.int x0), (.int x1), (.ref af)]) (rest := []) (lenOf pd_0 rfl) rfl (by show 2 * 0 + _ ≤ _; exact Nat.le_of_eq rfl) (hb hby d6_5) (fun _ _ => ⟨rfl, e3, (by decide : 0 + 0 ≤ _), (by decide : 0 + 0 ≤ _)⟩)
    dsimp only [Pt.U, Pt.locs, Pt.cells, Pt.slots] at X4 l4 y4 z4 st4 hQ4
    subst l4 y4 z4
    obtain ⟨rfl, N4q, e4⟩ := hQ4
    have N4 := Fr.app N0 N4q
    refine Go.of (T' := T4) (f' := (mkF m 8 #[.val (.int x0), .val (.int x1)] [(.int x0)])) (fun t k => st4 t k) ?_
    refine Go.of (T' := T4) (f' := (mkF m 9 #[.val (.int x0), .val (.int x1)] [])) (fun t k => XS.pop X4.here hx rfl (hb hby d6_8) rfl rfl k) ?_
    refine Go.retV X4 hx hk Bd.returns (hb hby d6_9) (by decide) (by decide) ?_
    rw [e4]
    exact ⟨rfl, N4, rfl⟩
theorem pd_1 : parseMethodDescriptor "(II)V" = some ⟨[.int, .int], none⟩ := by decide +kernel
theorem d5_0 : decode jdk_43_method_2_code 0 = .ok (.iload_n 1, 1) := by decide +kernel
theorem d5_1 : decode jdk_43_method_2_code 1 = .ok (.aload_n 0, 1) := by decide +kernel
theorem d5_2 : decode jdk_43_method_2_code 2 = .ok (.arraylength, 1) := by decide +kernel
theorem d5_3 : decode jdk_43_method_2_code 3 = .ok (.invokestatic 9, 3) := by decide +kernel
theorem d5_6 : decode jdk_43_method_2_code 6 = .ok (.aload_n 0, 1) := by decide +kernel
theorem d5_7 : decode jdk_43_method_2_code 7 = .ok (.iload_n 1, 1) := by decide +kernel
theorem d5_8 : decode jdk_43_method_2_code 8 = .ok (.baload, 1) := by decide +kernel
theorem d5_9 : decode jdk_43_method_2_code 9 = .ok (.sipush 255, 3) := by decide +kernel
theorem d5_12 : decode jdk_43_method_2_code 12 = .ok (.iand, 1) := by decide +kernel
theorem d5_13 : decode jdk_43_method_2_code 13 = .ok (.i2c, 1) := by decide +kernel
theorem d5_14 : decode jdk_43_method_2_code 14 = .ok (.ireturn, 1) := by decide +kernel
theorem pn_3 : plainName "java/lang/StringLatin1" = true := by first | (simp [plainName, overriddenIn]; done) | decide +kernel
theorem ef_5 (m : MethodId) (x0 : Addr) (x1 : Int32) : entryFrame m #[(.ref x0), (.int x1)] 2 = mkF m 0 #[.val (.ref x0), .val (.int x1)] [] := by first | (simp [entryFrame, mkF, argsToLocals, Value.category]; done) | rfl
def Q5 (Z : State) (x0 : Addr) (x1 : Int32) (vf : Value) (n_ : Nat) (h0 : Heap) (n0 : Nat) (v : Option Value) (h : Heap) (L : List Loc) : Prop := v = some (.int (Int32.ofNat (97 + n_))) ∧ Fr n0 L ∧ h = h0
set_option maxRecDepth 65536 in
set_option maxHeartbeats 40000000 in
theorem rm5 (l : Launch) (Z : State) (a0 : Array Value) (hw : ∀ d ∈ tables_1, d.before a0 Z = true) (ws : List Jvm.Cond) (x0 : Addr) (x1 : Int32) (vf : Value) (n_ : Nat) (h0 : Heap) (n0 : Nat) (Z0 : n0 ≤ h0.size) (S_sf : Sta Z h0 "jdk/internal/util/Preconditions" "SIOOBE_FORMATTER" "Ljava/util/function/BiFunction;" vf) (rf : vf.isRef = true) (V_b : VArr Z h0 x0 .byte (abc.map Value.int)) (hn_ : n_ < 26) (hx1 : x1 = Int32.ofNat n_) :
    MetFree l (⟨"java/lang/StringLatin1", "charAt", "([BI)C"⟩ : MethodName) (head1 (Jvm.Cond.code (⟨"java/lang/StringLatin1", "charAt", "([BI)C"⟩ : MethodName) jdk_43_method_2_code 2 (some .char) :: ws) ({ frames := 2, cells := 0, slots := 0, locals := 27 } : Room)) (fun a U => a = #[(.ref x0), (.int x1)] ∧ Z.Warmed39 U.vm ∧ U.heap = h0) (fun _ _ _ _ _ => True) (fun _ U o U' => ∃ v L, o = .returned v ∧ Q5 Z x0 x1 vf n_ h0 n0 v U'.heap L ∧ FrameEnd U o U' L ({ frames := 2, cells := 0, slots := 0, locals := 27 } : Room).cells ({ frames := 2, cells := 0, slots := 0, locals := 27 } : Room).slots) := by
  refine MetFree.of_bodySF (plainFor_of_name pn_3) hisR ?_
  intro p e s m args below meth c s₁ Bd hml0 hP hK
  obtain ⟨rfl, hZ, hh⟩ := hP
  have hx := Bd.exec
  have hby := Bd.bytes
  have hml : c.maxLocals = 2 := hml0
  have hown : s.vm.findClass "java/lang/StringLatin1" = some m.cls := findClass_of_methodNamed Bd.named
  have hnm := (name_of_methodNamed Bd.named Bd.method).1
  have hk : meth.locks = false := BodyLoose.notSynchronized Bd
  have X0 : Stand p l e ({ frames := 2, cells := 0, slots := 0, locals := 27 } : Room) s m #[(.ref x0), (.int x1)] below meth c s₁ [] 0 0 := Stand.of_body Bd
  have e0 : s₁.heap = h0 := by rw [← hh, Bd.state]; rfl
  have N0 := Fr.nil n0
  show Go p e below s (Q5 Z x0 x1 vf n_ h0 n0) ({ frames := 2, cells := 0, slots := 0, locals := 27 } : Room).cells ({ frames := 2, cells := 0, slots := 0, locals := 27 } : Room).slots s₁ (entryFrame m #[(.ref x0), (.int x1)] 2)
  refine Go.cast (ef_5 m x0 x1) ?_
  obtain ⟨c1, c2, hi0, hi1, c5, -⟩ := own_ch ⟨n_, hn_⟩
  simp only [] at c1 c2 hi0 hi1 c5
  rw [← hx1] at hi0 hi1 c5
  refine Go.of (T' := s₁) (f' := (mkF m 1 #[.val (.ref x0), .val (.int x1)] [(.int x1)])) (fun t k => XS.iloadN X0.here hx rfl (hb hby d5_0) rfl k) ?_
  refine Go.of (T' := s₁) (f' := (mkF m 2 #[.val (.ref x0), .val (.int x1)] [(.ref x0), (.int x1)])) (fun t k => XS.aloadN X0.here hx rfl (hb hby d5_1) rfl rfl k) ?_
  refine Go.of (T' := s₁) (f' := (mkF m 3 #[.val (.ref x0), .val (.int x1)] [(.int (26 : Int32)), (.int x1)])) (fun t k => lenV X0 hx hZ e0 V_b (n := (26 : Int32)) rfl (g := (mkF m 2 #[.val (.ref x0), .val (.int x1)] [(.ref x0), (.int x1)])) rfl rfl (hb hby d5_2) t k) ?_
  obtain ⟨_, _, ⟨T1, L1, k1, n1⟩, -, X1, ⟨Lc1, hQ1, l1, y1, z1⟩, st1⟩ := Jvm.LawKit.callS X0 hx (y := (⟨"java/lang/String", "checkIndex", "(II)V"⟩ : MethodName)) hown (mvT hZ (hw _ (List.mem_of_getElem? (i := 34) rfl))) (mvT hZ (hw _ (List.mem_of_getElem? (i := 35) rfl))) (mvT hZ (hw _ (List.mem_of_getElem? (i := 10) rfl))) (mvT hZ (hw _ (List.mem_of_getElem? (i := 36) rfl))) (by decide) (backOf (W := 0) (rm6 l Z a0 hw [] x1 (26 : Int32) vf h0 n0 Z0 S_sf rf hi0 hi1) hZ (hw _ (List.mem_of_getElem? (i := 36) rfl)) (hw _ (List.mem_of_getElem? (i := 10) rfl)) (by decide) (by decide)) (g := (mkF m 3 #[.val (.ref x0), .val (.int x1)] [(.int (26 : Int32)), (.int x1)])) rfl (by rw [hml]; rfl) (argsL := [(.int x1), (.int (26 : Int32))]) (rest := []) (lenOf pd_1 rfl) rfl (by show 2 * 0 + _ ≤ _; exact Nat.le_of_eq rfl) (hb hby d5_3) (fun _ _ => ⟨rfl, e0, (by decide : 0 + 0 ≤ _), (by decide : 0 + 0 ≤ _)⟩)
  dsimp only [Pt.U, Pt.locs, Pt.cells, Pt.slots] at X1 l1 y1 z1 st1 hQ1
  subst l1 y1 z1
  obtain ⟨rfl, N1q, e1⟩ := hQ1
  have N1 := Fr.app N0 N1q
  refine Go.of (T' := T1) (f' := (mkF m 6 #[.val (.ref x0), .val (.int x1)] [])) (fun t k => st1 t k) ?_
  refine Go.of (T' := T1) (f' := (mkF m 7 #[.val (.ref x0), .val (.int x1)] [(.ref x0)])) (fun t k => XS.aloadN X1.here hx rfl (hb hby d5_6) rfl rfl k) ?_
  refine Go.of (T' := T1) (f' := (mkF m 8 #[.val (.ref x0), .val (.int x1)] [(.int x1), (.ref x0)])) (fun t k => XS.iloadN X1.here hx rfl (hb hby d5_7) rfl k) ?_
  refine Go.of (T' := T1) (f' := (mkF m 9 #[.val (.ref x0), .val (.int x1)] [(.int (abc.getD n_ 0))])) (fun t k => ldB X1 hx hZ e1 V_b (j := x1) (v := (.int (abc.getD n_ 0))) hi0 c5 (own_abc hn_) (g := (mkF m 8 #[.val (.ref x0), .val (.int x1)] [(.int x1), (.ref x0)])) rfl rfl (hb hby d5_8) t k) ?_
  refine Go.of (T' := T1) (f' := (mkF m 12 #[.val (.ref x0), .val (.int x1)] [(.int (255 : Int32)), (.int (abc.getD n_ 0))])) (fun t k => XS.sipush X1.here hx rfl (hb hby d5_9) k) ?_
  refine Go.of (T' := T1) (f' := (mkF m 13 #[.val (.ref x0), .val (.int x1)] [(.int ((abc.getD n_ 0) &&& (255 : Int32)))])) (fun t k => XS.iand X1.here hx rfl (hb hby d5_12) rfl k) ?_
  refine Go.of (T' := T1) (f' := (mkF m 14 #[.val (.ref x0), .val (.int x1)] [(.int (((abc.getD n_ 0) &&& (255 : Int32)).toUInt32.toUInt16.toUInt32.toInt32))])) (fun t k => XS.i2c X1.here hx rfl (hb hby d5_13) rfl k) ?_
  refine Go.retZ X1 hx hk (t := .char) Bd.returns (by simp) (hb hby d5_14) (by decide) (by decide) ?_
  rw [e1]
  exact ⟨by rw [c1], N1, rfl⟩
theorem d4_0 : decode jdk_42_method_154_code 0 = .ok (.getstatic 38, 3) := by decide +kernel
theorem d4_3 : decode jdk_42_method_154_code 3 = .ok (.ifCond .eq 14, 3) := by decide +kernel
theorem d4_6 : decode jdk_42_method_154_code 6 = .ok (.aload_n 0, 1) := by decide +kernel
theorem d4_7 : decode jdk_42_method_154_code 7 = .ok (.getfield 15, 3) := by decide +kernel
theorem d4_10 : decode jdk_42_method_154_code 10 = .ok (.ifCond .ne 7, 3) := by decide +kernel
theorem d4_13 : decode jdk_42_method_154_code 13 = .ok (.iconst 1, 1) := by decide +kernel
theorem d4_14 : decode jdk_42_method_154_code 14 = .ok (.goto 4, 3) := by decide +kernel
theorem d4_18 : decode jdk_42_method_154_code 18 = .ok (.ireturn, 1) := by decide +kernel
theorem ef_4 (m : MethodId) (x0 : Addr) : entryFrame m #[(.ref x0)] 1 = mkF m 0 #[.val (.ref x0)] [] := by first | (simp [entryFrame, mkF, argsToLocals, Value.category]; done) | rfl
def Q4 (Z : State) (x0 : Addr) (wcs : Int32) (h0 : Heap) (n0 : Nat) (v : Option Value) (h : Heap) (L : List Loc) : Prop := v = some (.int (1 : Int32)) ∧ Fr n0 L ∧ h = h0
set_option maxRecDepth 65536 in
set_option maxHeartbeats 40000000 in
theorem rm4 (l : Launch) (Z : State) (a0 : Array Value) (hw : ∀ d ∈ tables_1, d.before a0 Z = true) (ws : List Jvm.Cond) (x0 : Addr) (wcs : Int32) (h0 : Heap) (n0 : Nat) (Z0 : n0 ≤ h0.size) (S_cs : Sta Z h0 "java/lang/String" "COMPACT_STRINGS" "Z" (.int wcs)) (hcs : ¬ (wcs = (0 : Int32))) (E_s : Exa Z h0 x0 "java/lang/String") (F_coder : Fld Z h0 x0 "java/lang/String" "coder" "B" (.int (0 : Int32))) :
    MetFree l (⟨"java/lang/String", "isLatin1", "()Z"⟩ : MethodName) (head1 (Jvm.Cond.code (⟨"java/lang/String", "isLatin1", "()Z"⟩ : MethodName) jdk_42_method_154_code 1 (some .boolean) :: ws) ({ frames := 0, cells := 0, slots := 0, locals := 0 } : Room)) (fun a U => a = #[(.ref x0)] ∧ Z.Warmed39 U.vm ∧ U.heap = h0) (fun _ _ _ _ _ => True) (fun _ U o U' => ∃ v L, o = .returned v ∧ Q4 Z x0 wcs h0 n0 v U'.heap L ∧ FrameEnd U o U' L ({ frames := 0, cells := 0, slots := 0, locals := 0 } : Room).cells ({ frames := 0, cells := 0, slots := 0, locals := 0 } : Room).slots) := by
  refine MetFree.of_bodySF (plainFor_of_name pn_2) hisR ?_
  intro p e s m args below meth c s₁ Bd hml0 hP hK
  obtain ⟨rfl, hZ, hh⟩ := hP
  have hx := Bd.exec
  have hby := Bd.bytes
  have hml : c.maxLocals = 1 := hml0
  have hown : s.vm.findClass "java/lang/String" = some m.cls := findClass_of_methodNamed Bd.named
  have hnm := (name_of_methodNamed Bd.named Bd.method).1
  have hk : meth.locks = false := BodyLoose.notSynchronized Bd
  have X0 : Stand p l e ({ frames := 0, cells := 0, slots := 0, locals := 0 } : Room) s m #[(.ref x0)] below meth c s₁ [] 0 0 := Stand.of_body Bd
  have e0 : s₁.heap = h0 := by rw [← hh, Bd.state]; rfl
  have N0 := Fr.nil n0
  show Go p e below s (Q4 Z x0 wcs h0 n0) ({ frames := 0, cells := 0, slots := 0, locals := 0 } : Room).cells ({ frames := 0, cells := 0, slots := 0, locals := 0 } : Room).slots s₁ (entryFrame m #[(.ref x0)] 1)
  refine Go.cast (ef_4 m x0) ?_
  obtain ⟨T1, X1, e1, st1⟩ := getS2 X0 hx hZ hown (host := "") (Or.inl (hw _ (List.mem_of_getElem? (i := 27) rfl))) Via.refl e0 S_cs (g := (mkF m 0 #[.val (.ref x0)] [])) rfl (hb hby d4_0)
  refine Go.of (T' := T1) (f' := (mkF m 3 #[.val (.ref x0)] [(.int wcs)])) (fun t k => st1 t k) ?_
  have hc3 : ¬ (wcs = (0 : Int32)) := hcs
  refine Go.of (T' := T1) (f' := (mkF m 6 #[.val (.ref x0)] [])) (fun t k => XS.ifNo X1.here hx rfl (hb hby d4_3) rfl ((if0 _ _).trans (feq hc3).1) k) ?_
  refine Go.of (T' := T1) (f' := (mkF m 7 #[.val (.ref x0)] [(.ref x0)])) (fun t k => XS.aloadN X1.here hx rfl (hb hby d4_6) rfl rfl k) ?_
  obtain ⟨T2, X2, e2, st2⟩ := getF X1 hx hZ hown (host := "") (Or.inl (hw _ (List.mem_of_getElem? (i := 28) rfl))) Via.refl e1 F_coder (g := (mkF m 7 #[.val (.ref x0)] [(.ref x0)])) rfl rfl (hb hby d4_7)
  refine Go.of (T' := T2) (f' := (mkF m 10 #[.val (.ref x0)] [(.int (0 : Int32))])) (fun t k => st2 t k) ?_
  have hc10 : (0 : Int32) = (0 : Int32) := by decide
  refine Go.of (T' := T2) (f' := (mkF m 13 #[.val (.ref x0)] [])) (fun t k => XS.ifNo X2.here hx rfl (hb hby d4_10) rfl ((if0 _ _).trans (teq hc10).2) k) ?_
  refine Go.of (T' := T2) (f' := (mkF m 14 #[.val (.ref x0)] [(.int (1 : Int32))])) (fun t k => XS.iconst X2.here hx rfl (hb hby d4_13) k) ?_
  refine Go.of (T' := T2) (f' := (mkF m 18 #[.val (.ref x0)] [(.int (1 : Int32))])) (fun t k => XS.goto X2.here hx rfl (pc0 := 14) (pc' := 18) rfl (hb hby d4_14) (by decide) (by decide) k) ?_
  refine Go.retZ X2 hx hk (t := .boolean) Bd.returns (by simp) (hb hby d4_18) (by decide) (by decide) ?_
  rw [e2]
  exact ⟨rfl, N0, rfl⟩
theorem pd_2 : parseMethodDescriptor "()Z" = some ⟨[], some .boolean⟩ := by decide +kernel
theorem pd_3 : parseMethodDescriptor "([BI)C" = some ⟨[(.array .byte), .int], some .char⟩ := by decide +kernel
theorem d3_0 : decode jdk_42_method_56_code 0 = .ok (.aload_n 0, 1) := by decide +kernel
theorem d3_1 : decode jdk_42_method_56_code 1 = .ok (.invokevirtual 492, 3) := by decide +kernel
theorem d3_4 : decode jdk_42_method_56_code 4 = .ok (.ifCond .eq 12, 3) := by decide +kernel
theorem d3_7 : decode jdk_42_method_56_code 7 = .ok (.aload_n 0, 1) := by decide +kernel
theorem d3_8 : decode jdk_42_method_56_code 8 = .ok (.getfield 9, 3) := by decide +kernel
theorem d3_11 : decode jdk_42_method_56_code 11 = .ok (.iload_n 1, 1) := by decide +kernel
theorem d3_12 : decode jdk_42_method_56_code 12 = .ok (.invokestatic 495, 3) := by decide +kernel
theorem d3_15 : decode jdk_42_method_56_code 15 = .ok (.ireturn, 1) := by decide +kernel
theorem ef_3 (m : MethodId) (x0 : Addr) (x1 : Int32) : entryFrame m #[(.ref x0), (.int x1)] 2 = mkF m 0 #[.val (.ref x0), .val (.int x1)] [] := by first | (simp [entryFrame, mkF, argsToLocals, Value.category]; done) | rfl
def Q3 (Z : State) (x0 : Addr) (x1 : Int32) (wcs : Int32) (vf : Value) (ub : Addr) (n_ : Nat) (h0 : Heap) (n0 : Nat) (v : Option Value) (h : Heap) (L : List Loc) : Prop := v = some (.int (Int32.ofNat (97 + n_))) ∧ Fr n0 L ∧ h = h0
set_option maxRecDepth 65536 in
set_option maxHeartbeats 40000000 in
theorem rm3 (l : Launch) (Z : State) (a0 : Array Value) (hw : ∀ d ∈ tables_1, d.before a0 Z = true) (ws : List Jvm.Cond) (x0 : Addr) (x1 : Int32) (wcs : Int32) (vf : Value) (ub : Addr) (n_ : Nat) (h0 : Heap) (n0 : Nat) (Z0 : n0 ≤ h0.size) (S_cs : Sta Z h0 "java/lang/String" "COMPACT_STRINGS" "Z" (.int wcs)) (hcs : ¬ (wcs = (0 : Int32))) (S_sf : Sta Z h0 "jdk/internal/util/Preconditions" "SIOOBE_FORMATTER" "Ljava/util/function/BiFunction;" vf) (rf : vf.isRef = true) (E_s : Exa Z h0 x0 "java/lang/String") (F_coder : Fld Z h0 x0 "java/lang/String" "coder" "B" (.int (0 : Int32))) (F_value : Fld Z h0 x0 "java/lang/String" "value" "[B" (.ref ub)) (V_b : VArr Z h0 ub .byte (abc.map Value.int)) (hn_ : n_ < 26) (hx1 : x1 = Int32.ofNat n_) :
    MetFree l (⟨"java/lang/String", "charAt", "(I)C"⟩ : MethodName) (head1 (Jvm.Cond.code (⟨"java/lang/String", "charAt", "(I)C"⟩ : MethodName) jdk_42_method_56_code 2 (some .char) :: ws) ({ frames := 3, cells := 0, slots := 0, locals := 40 } : Room)) (fun a U => a = #[(.ref x0), (.int x1)] ∧ Z.Warmed39 U.vm ∧ U.heap = h0) (fun _ _ _ _ _ => True) (fun _ U o U' => ∃ v L, o = .returned v ∧ Q3 Z x0 x1 wcs vf ub n_ h0 n0 v U'.heap L ∧ FrameEnd U o U' L ({ frames := 3, cells := 0, slots := 0, locals := 40 } : Room).cells ({ frames := 3, cells := 0, slots := 0, locals := 40 } : Room).slots) := by
  refine MetFree.of_bodySF (plainFor_of_name pn_2) hisR ?_
  intro p e s m args below meth c s₁ Bd hml0 hP hK
  obtain ⟨rfl, hZ, hh⟩ := hP
  have hx := Bd.exec
  have hby := Bd.bytes
  have hml : c.maxLocals = 2 := hml0
  have hown : s.vm.findClass "java/lang/String" = some m.cls := findClass_of_methodNamed Bd.named
  have hnm := (name_of_methodNamed Bd.named Bd.method).1
  have hk : meth.locks = false := BodyLoose.notSynchronized Bd
  have X0 : Stand p l e ({ frames := 3, cells := 0, slots := 0, locals := 40 } : Room) s m #[(.ref x0), (.int x1)] below meth c s₁ [] 0 0 := Stand.of_body Bd
  have e0 : s₁.heap = h0 := by rw [← hh, Bd.state]; rfl
  have N0 := Fr.nil n0
  show Go p e below s (Q3 Z x0 x1 wcs vf ub n_ h0 n0) ({ frames := 3, cells := 0, slots := 0, locals := 40 } : Room).cells ({ frames := 3, cells := 0, slots := 0, locals := 40 } : Room).slots s₁ (entryFrame m #[(.ref x0), (.int x1)] 2)
  refine Go.cast (ef_3 m x0 x1) ?_
  refine Go.of (T' := s₁) (f' := (mkF m 1 #[.val (.ref x0), .val (.int x1)] [(.ref x0)])) (fun t k => XS.aloadN X0.here hx rfl (hb hby d3_0) rfl rfl k) ?_
  obtain ⟨cq1, kq1, q1a, q1b, q1c⟩ := isOf hZ e0 E_s
  obtain ⟨_, _, ⟨T1, L1, k1, n1⟩, -, X1, ⟨Lc1, hQ1, l1, y1, z1⟩, st1⟩ := X0.virtualBack hx (y := (⟨"java/lang/String", "isLatin1", "()Z"⟩ : MethodName)) (z := (⟨"java/lang/String", "isLatin1", "()Z"⟩ : MethodName)) hown (mvT hZ (hw _ (List.mem_of_getElem? (i := 22) rfl))) (mvT hZ (hw _ (List.mem_of_getElem? (i := 23) rfl))) (notFace_of_selects (args := #[]) (mvT hZ (hw _ (List.mem_of_getElem? (i := 25) rfl)))) (mvT hZ (hw _ (List.mem_of_getElem? (i := 25) rfl))) (mvT hZ (hw _ (List.mem_of_getElem? (i := 24) rfl))) (by decide) (backOf (W := 0) (rm4 l Z a0 hw [] x0 wcs h0 n0 Z0 S_cs hcs E_s F_coder) hZ (hw _ (List.mem_of_getElem? (i := 26) rfl)) (hw _ (List.mem_of_getElem? (i := 10) rfl)) (by decide) (by decide)) q1a q1c (g := (mkF m 1 #[.val (.ref x0), .val (.int x1)] [(.ref x0)])) rfl (by rw [hml]; rfl) (Steps.refl _) (argsL := []) (rest := []) (lenOf pd_2 rfl) rfl (by show 2 * 0 + _ ≤ _; exact Nat.le_of_eq rfl) (hb hby d3_1) (fun _ _ => ⟨rfl, e0, (by decide : 0 + 0 ≤ _), (by decide : 0 + 0 ≤ _)⟩)
  dsimp only [Pt.U, Pt.locs, Pt.cells, Pt.slots] at X1 l1 y1 z1 st1 hQ1
  subst l1 y1 z1
  obtain ⟨rfl, N1q, e1⟩ := hQ1
  have N1 := Fr.app N0 N1q
  refine Go.tr (T' := T1) (f' := (mkF m 4 #[.val (.ref x0), .val (.int x1)] [(.int (1 : Int32))])) st1 ?_
  have hc4 : ¬ ((1 : Int32) = (0 : Int32)) := by decide
  refine Go.of (T' := T1) (f' := (mkF m 7 #[.val (.ref x0), .val (.int x1)] [])) (fun t k => XS.ifNo X1.here hx rfl (hb hby d3_4) rfl ((if0 _ _).trans (feq hc4).1) k) ?_
  refine Go.of (T' := T1) (f' := (mkF m 8 #[.val (.ref x0), .val (.int x1)] [(.ref x0)])) (fun t k => XS.aloadN X1.here hx rfl (hb hby d3_7) rfl rfl k) ?_
  obtain ⟨T2, X2, e2, st2⟩ := getF X1 hx hZ hown (host := "") (Or.inl (hw _ (List.mem_of_getElem? (i := 29) rfl))) Via.refl e1 F_value (g := (mkF m 8 #[.val (.ref x0), .val (.int x1)] [(.ref x0)])) rfl rfl (hb hby d3_8)
  refine Go.of (T' := T2) (f' := (mkF m 11 #[.val (.ref x0), .val (.int x1)] [(.ref ub)])) (fun t k => st2 t k) ?_
  refine Go.of (T' := T2) (f' := (mkF m 12 #[.val (.ref x0), .val (.int x1)] [(.int x1), (.ref ub)])) (fun t k => XS.iloadN X2.here hx rfl (hb hby d3_11) rfl k) ?_
  obtain ⟨_, _, ⟨T3, L3, k3, n3⟩, -, X3, ⟨Lc3, hQ3, l3, y3, z3⟩, st3⟩ := Jvm.LawKit.callS X2 hx (y := (⟨"java/lang/StringLatin1", "charAt", "([BI)C"⟩ : MethodName)) hown (mvT hZ (hw _ (List.mem_of_getElem? (i := 30) rfl))) (mvT hZ (hw _ (List.mem_of_getElem? (i := 31) rfl))) (mvT hZ (hw _ (List.mem_of_getElem? (i := 32) rfl))) (mvT hZ (hw _ (List.mem_of_getElem? (i := 33) rfl))) (by decide) (backOf (W := 0) (rm5 l Z a0 hw [] ub x1 vf n_ h0 n0 Z0 S_sf rf V_b hn_ hx1) hZ (hw _ (List.mem_of_getElem? (i := 33) rfl)) (hw _ (List.mem_of_getElem? (i := 32) rfl)) (by decide) (by decide)) (g := (mkF m 12 #[.val (.ref x0), .val (.int x1)] [(.int x1), (.ref ub)])) rfl (by rw [hml]; rfl) (argsL := [(.ref ub), (.int x1)]) (rest := []) (lenOf pd_3 rfl) rfl (by show 2 * 0 + _ ≤ _; exact Nat.le_of_eq rfl) (hb hby d3_12) (fun _ _ => ⟨rfl, e2, (by decide : 0 + 0 ≤ _), (by decide : 0 + 0 ≤ _)⟩)
  dsimp only [Pt.U, Pt.locs, Pt.cells, Pt.slots] at X3 l3 y3 z3 st3 hQ3
  subst l3 y3 z3
  obtain ⟨rfl, N3q, e3⟩ := hQ3
  have N3 := Fr.app N1 N3q
  refine Go.of (T' := T3) (f' := (mkF m 15 #[.val (.ref x0), .val (.int x1)] [(.int (Int32.ofNat (97 + n_)))])) (fun t k => st3 t k) ?_
  refine Go.retZ X3 hx hk (t := .char) Bd.returns (by simp) (hb hby d3_15) (by decide) (by decide) ?_
  rw [e3]
  exact ⟨by rw [(own_ch ⟨n_, hn_⟩).2.1], N3, rfl⟩
theorem d2_0 : decode method_2_code 0 = .ok (.iload_n 0, 1) := by decide +kernel
theorem d2_1 : decode method_2_code 1 = .ok (.bipush 65, 2) := by decide +kernel
theorem d2_3 : decode method_2_code 3 = .ok (.if_icmp .lt 19, 3) := by decide +kernel
theorem d2_6 : decode method_2_code 6 = .ok (.iload_n 0, 1) := by decide +kernel
theorem d2_7 : decode method_2_code 7 = .ok (.bipush 90, 2) := by decide +kernel
theorem d2_9 : decode method_2_code 9 = .ok (.if_icmp .gt 13, 3) := by decide +kernel
theorem d2_22 : decode method_2_code 22 = .ok (.iload_n 0, 1) := by decide +kernel
theorem d2_23 : decode method_2_code 23 = .ok (.i2c, 1) := by decide +kernel
theorem d2_24 : decode method_2_code 24 = .ok (.ireturn, 1) := by decide +kernel
theorem pn_4 : plainName "com/example/albero/albero/TokenizerToAsciiLowerCasePinLaw" = true := by first | (simp [plainName, overriddenIn]; done) | decide +kernel
theorem ef_2 (m : MethodId) (x0 : Int32) : entryFrame m #[(.int x0)] 1 = mkF m 0 #[.val (.int x0)] [] := by first | (simp [entryFrame, mkF, argsToLocals, Value.category]; done) | rfl
def Q2_a (Z : State) (x0 : Int32)  (h0 : Heap) (n0 : Nat) (v : Option Value) (h : Heap) (L : List Loc) : Prop := v = some (.int (nar .char (x0.toUInt32.toUInt16.toUInt32.toInt32))) ∧ Fr n0 L ∧ h = h0
set_option maxRecDepth 65536 in
set_option maxHeartbeats 40000000 in
theorem rm2_a (l : Launch) (Z : State) (a0 : Array Value) (hw : ∀ d ∈ tables_1, d.before a0 Z = true) (ws : List Jvm.Cond) (x0 : Int32)  (h0 : Heap) (n0 : Nat) (Z0 : n0 ≤ h0.size) (hA : x0 < 65 ∨ 90 < x0) :
    MetFree l (⟨"com/example/albero/albero/TokenizerToAsciiLowerCasePinLaw", "expected", "(I)C"⟩ : MethodName) (head1 (Jvm.Cond.code (⟨"com/example/albero/albero/TokenizerToAsciiLowerCasePinLaw", "expected", "(I)C"⟩ : MethodName) method_2_code 1 (some .char) :: ws) ({ frames := 0, cells := 0, slots := 0, locals := 0 } : Room)) (fun a U => a = #[(.int x0)] ∧ Z.Warmed39 U.vm ∧ U.heap = h0) (fun _ _ _ _ _ => True) (fun _ U o U' => ∃ v L, o = .returned v ∧ Q2_a Z x0 h0 n0 v U'.heap L ∧ FrameEnd U o U' L ({ frames := 0, cells := 0, slots := 0, locals := 0 } : Room).cells ({ frames := 0, cells := 0, slots := 0, locals := 0 } : Room).slots) := by
  refine MetFree.of_bodySF (plainFor_of_name pn_4) hisR ?_
  intro p e s m args below meth c s₁ Bd hml0 hP hK
  obtain ⟨rfl, hZ, hh⟩ := hP
  have hx := Bd.exec
  have hby := Bd.bytes
  have hml : c.maxLocals = 1 := hml0
  have hown : s.vm.findClass "com/example/albero/albero/TokenizerToAsciiLowerCasePinLaw" = some m.cls := findClass_of_methodNamed Bd.named
  have hnm := (name_of_methodNamed Bd.named Bd.method).1
  have hk : meth.locks = false := BodyLoose.notSynchronized Bd
  have X0 : Stand p l e ({ frames := 0, cells := 0, slots := 0, locals := 0 } : Room) s m #[(.int x0)] below meth c s₁ [] 0 0 := Stand.of_body Bd
  have e0 : s₁.heap = h0 := by rw [← hh, Bd.state]; rfl
  have N0 := Fr.nil n0
  show Go p e below s (Q2_a Z x0 h0 n0) ({ frames := 0, cells := 0, slots := 0, locals := 0 } : Room).cells ({ frames := 0, cells := 0, slots := 0, locals := 0 } : Room).slots s₁ (entryFrame m #[(.int x0)] 1)
  refine Go.cast (ef_2 m x0) ?_
  refine Go.of (T' := s₁) (f' := (mkF m 1 #[.val (.int x0)] [(.int x0)])) (fun t k => XS.iloadN X0.here hx rfl (hb hby d2_0) rfl k) ?_
  refine Go.of (T' := s₁) (f' := (mkF m 3 #[.val (.int x0)] [(.int (65 : Int32)), (.int x0)])) (fun t k => XS.bipush X0.here hx rfl (hb hby d2_1) k) ?_
  by_cases hc3 : x0 < (65 : Int32)
  · -- pc 3: yes
    refine Go.of (T' := s₁) (f' := (mkF m 22 #[.val (.int x0)] [])) (fun t k => XS.icmpYes X0.here hx rfl (pc0 := 3) (pc' := 22) rfl (hb hby d2_3) rfl ((tlt hc3).1) (by decide) (by decide) k) ?_
    refine Go.of (T' := s₁) (f' := (mkF m 23 #[.val (.int x0)] [(.int x0)])) (fun t k => XS.iloadN X0.here hx rfl (hb hby d2_22) rfl k) ?_
    refine Go.of (T' := s₁) (f' := (mkF m 24 #[.val (.int x0)] [(.int (x0.toUInt32.toUInt16.toUInt32.toInt32))])) (fun t k => XS.i2c X0.here hx rfl (hb hby d2_23) rfl k) ?_
    refine Go.retZ X0 hx hk (t := .char) Bd.returns (by simp) (hb hby d2_24) (by decide) (by decide) ?_
    rw [e0]
    exact ⟨rfl, N0, rfl⟩
  · -- pc 3: no
    refine Go.of (T' := s₁) (f' := (mkF m 6 #[.val (.int x0)] [])) (fun t k => XS.icmpNo X0.here hx rfl (hb hby d2_3) rfl ((flt hc3).1) k) ?_
    refine Go.of (T' := s₁) (f' := (mkF m 7 #[.val (.int x0)] [(.int x0)])) (fun t k => XS.iloadN X0.here hx rfl (hb hby d2_6) rfl k) ?_
    refine Go.of (T' := s₁) (f' := (mkF m 9 #[.val (.int x0)] [(.int (90 : Int32)), (.int x0)])) (fun t k => XS.bipush X0.here hx rfl (hb hby d2_7) k) ?_
    have hc9 : (90 : Int32) < x0 := hA.resolve_left hc3
    refine Go.of (T' := s₁) (f' := (mkF m 22 #[.val (.int x0)] [])) (fun t k => XS.icmpYes X0.here hx rfl (pc0 := 9) (pc' := 22) rfl (hb hby d2_9) rfl ((tlt hc9).2.2.1) (by decide) (by decide) k) ?_
    refine Go.of (T' := s₁) (f' := (mkF m 23 #[.val (.int x0)] [(.int x0)])) (fun t k => XS.iloadN X0.here hx rfl (hb hby d2_22) rfl k) ?_
    refine Go.of (T' := s₁) (f' := (mkF m 24 #[.val (.int x0)] [(.int (x0.toUInt32.toUInt16.toUInt32.toInt32))])) (fun t k => XS.i2c X0.here hx rfl (hb hby d2_23) rfl k) ?_
    refine Go.retZ X0 hx hk (t := .char) Bd.returns (by simp) (hb hby d2_24) (by decide) (by decide) ?_
    rw [e0]
    exact ⟨rfl, N0, rfl⟩
theorem own_lit {U T : State} (h : U.vm = T.vm) {own : String} {i : Nat} {a : Addr} : Lit U own i a ↔ Lit T own i a := by unfold Lit State.resolvedAt?; rw [h]
theorem pd_4 : parseMethodDescriptor "(I)C" = some ⟨[.int], some .char⟩ := by decide +kernel
theorem d2_12 : decode method_2_code 12 = .ok (.ldc 7, 2) := by decide +kernel
theorem d2_14 : decode method_2_code 14 = .ok (.iload_n 0, 1) := by decide +kernel
theorem d2_15 : decode method_2_code 15 = .ok (.bipush 65, 2) := by decide +kernel
theorem d2_17 : decode method_2_code 17 = .ok (.isub, 1) := by decide +kernel
theorem d2_18 : decode method_2_code 18 = .ok (.invokevirtual 9, 3) := by decide +kernel
theorem d2_21 : decode method_2_code 21 = .ok (.ireturn, 1) := by decide +kernel
def Q2_b (Z : State) (x0 : Int32) (wcs : Int32) (vf : Value) (h0 : Heap) (n0 : Nat) (v : Option Value) (U : State) (L : List Loc) : Prop := v = some (.int (lowV x0)) ∧ Fr n0 L ∧ Ext h0 U.heap ∧ ∃ a b : Addr, Lit U "com/example/albero/albero/TokenizerToAsciiLowerCasePinLaw" 7 a ∧ Exa Z U.heap a "java/lang/String" ∧ Fld Z U.heap a "java/lang/String" "coder" "B" (.int (0 : Int32)) ∧ Fld Z U.heap a "java/lang/String" "value" "[B" (.ref b) ∧ VArr Z U.heap b .byte (abc.map Value.int)
set_option maxRecDepth 65536 in
set_option maxHeartbeats 40000000 in
theorem rm2_b (l : Launch) (Z : State) (a0 : Array Value) (hw : ∀ d ∈ tables_1, d.before a0 Z = true) (ws : List Jvm.Cond) (x0 : Int32) (wcs : Int32) (vf : Value) (h0 : Heap) (n0 : Nat) (Z0 : n0 ≤ h0.size) (S_cs : Sta Z h0 "java/lang/String" "COMPACT_STRINGS" "Z" (.int wcs)) (hcs : ¬ (wcs = (0 : Int32))) (S_sf : Sta Z h0 "jdk/internal/util/Preconditions" "SIOOBE_FORMATTER" "Ljava/util/function/BiFunction;" vf) (rf : vf.isRef = true) (hge : ¬ x0 < 65) (hle : ¬ 90 < x0) (hheld : Jvm.Lit.constHeld Z "com/example/albero/albero/TokenizerToAsciiLowerCasePinLaw" 7) (hcw : Jvm.Lit.compactW.before a0 Z = true) (hz0 : h0 = Z.heap) :
    MetFree l (⟨"com/example/albero/albero/TokenizerToAsciiLowerCasePinLaw", "expected", "(I)C"⟩ : MethodName) (head1 (Jvm.Cond.code (⟨"com/example/albero/albero/TokenizerToAsciiLowerCasePinLaw", "expected", "(I)C"⟩ : MethodName) method_2_code 1 (some .char) :: ws) ({ frames := 4, cells := 2, slots := 108, locals := 53 } : Room)) (fun a U => a = #[(.int x0)] ∧ Z.WarmedH U.vm ∧ U.heap = h0) (fun _ _ _ _ _ => True) (fun _ U o U' => ∃ v L, o = .returned v ∧ Q2_b Z x0 wcs vf h0 n0 v U' L ∧ ReturnedEndW U o U' L ({ frames := 4, cells := 2, slots := 108, locals := 53 } : Room).cells ({ frames := 4, cells := 2, slots := 108, locals := 53 } : Room).slots) := by
  refine MetFree.of_bodySF (plainFor_of_name pn_4) hisR ?_
  intro p e s m args below meth c s₁ Bd hml0 hP hK
  obtain ⟨rfl, hZh, hh⟩ := hP
  have hZ : Z.Warmed39 s.vm := hZh.wide
  have hx := Bd.exec
  have hby := Bd.bytes
  have hml : c.maxLocals = 1 := hml0
  have hown : s.vm.findClass "com/example/albero/albero/TokenizerToAsciiLowerCasePinLaw" = some m.cls := findClass_of_methodNamed Bd.named
  have hnm := (name_of_methodNamed Bd.named Bd.method).1
  have hk : meth.locks = false := BodyLoose.notSynchronized Bd
  have X0 : Stand p l e ({ frames := 4, cells := 2, slots := 108, locals := 53 } : Room) s m #[(.int x0)] below meth c s₁ [] 0 0 := Stand.of_body Bd
  have e0 : s₁.heap = h0 := by rw [← hh, Bd.state]; rfl
  have N0 := Fr.nil n0
  show GoW p e below s (Q2_b Z x0 wcs vf h0 n0) ({ frames := 4, cells := 2, slots := 108, locals := 53 } : Room).cells ({ frames := 4, cells := 2, slots := 108, locals := 53 } : Room).slots s₁ (entryFrame m #[(.int x0)] 1)
  refine GoW.cast (ef_2 m x0) ?_
  obtain ⟨nn, hnn, hxx, hlow⟩ := own_in x0 hge hle
  refine GoW.of (T' := s₁) (f' := (mkF m 1 #[.val (.int x0)] [(.int x0)])) (fun t k => XS.iloadN X0.here hx rfl (hb hby d2_0) rfl k) ?_
  refine GoW.of (T' := s₁) (f' := (mkF m 3 #[.val (.int x0)] [(.int (65 : Int32)), (.int x0)])) (fun t k => XS.bipush X0.here hx rfl (hb hby d2_1) k) ?_
  have hc3 : ¬ (x0 < (65 : Int32)) := hge
  refine GoW.of (T' := s₁) (f' := (mkF m 6 #[.val (.int x0)] [])) (fun t k => XS.icmpNo X0.here hx rfl (hb hby d2_3) rfl ((flt hc3).1) k) ?_
  refine GoW.of (T' := s₁) (f' := (mkF m 7 #[.val (.int x0)] [(.int x0)])) (fun t k => XS.iloadN X0.here hx rfl (hb hby d2_6) rfl k) ?_
  refine GoW.of (T' := s₁) (f' := (mkF m 9 #[.val (.int x0)] [(.int (90 : Int32)), (.int x0)])) (fun t k => XS.bipush X0.here hx rfl (hb hby d2_7) k) ?_
  have hc9 : ¬ ((90 : Int32) < x0) := hle
  refine GoW.of (T' := s₁) (f' := (mkF m 12 #[.val (.int x0)] [])) (fun t k => XS.icmpNo X0.here hx rfl (hb hby d2_9) rfl ((flt hc9).2.2.1) k) ?_
  obtain ⟨a1, T1, h1, k1, u1, kk1, X1, e1, E1, S1, hk1, hZ, hown, Ex1, Fc1, Fv1, A1, -, -, IB1, Lt1, st1⟩ := ldcSVL (s := s) (vm0 := s.vm) X0 hx hZ hown (hw _ (List.mem_of_getElem? (i := 9) rfl)) (own_words hw) e0 (k0 := 0) ((State.WarmedH.refl s).since 0) (Nat.zero_le _) (Fr.nil _) (fun b cl q => by rw [hh, hz0]; exact q) (IBof hZh) (by simp) hheld hcw (vs := abc.map Value.int) (z := 26) ⟨by decide, rfl⟩ (by decide) (by decide) (g := (mkF m 12 #[.val (.int x0)] [])) rfl (hb hby d2_12) (n := 104) (by decide) (by decide) (by decide) (by decide)
  have V1 := A1.toV (by decide)
  have Sx1_COMPACT_STRINGS := S_cs.ext E1
  have Sx1_SIOOBE_FORMATTER := S_sf.ext E1
  have ZS1 : n0 ≤ h1.size := Nat.le_trans Z0 E1.1
  refine GoW.of (T' := T1) (f' := (mkF m 14 #[.val (.int x0)] [(.ref a1)])) (fun t k => st1 t k) ?_
  refine GoW.of (T' := T1) (f' := (mkF m 15 #[.val (.int x0)] [(.int x0), (.ref a1)])) (fun t k => XS.iloadN X1.here hx rfl (hb hby d2_14) rfl k) ?_
  refine GoW.of (T' := T1) (f' := (mkF m 17 #[.val (.int x0)] [(.int (65 : Int32)), (.int x0), (.ref a1)])) (fun t k => XS.bipush X1.here hx rfl (hb hby d2_15) k) ?_
  refine GoW.of (T' := T1) (f' := (mkF m 18 #[.val (.int x0)] [(.int (x0 - (65 : Int32))), (.ref a1)])) (fun t k => XS.isub X1.here hx rfl (hb hby d2_17) rfl k) ?_
  obtain ⟨cq2, kq2, q2a, q2b, q2c⟩ := isOf hZ e1 Ex1
  obtain ⟨_, _, ⟨T2, L2, k2, n2⟩, -, X2, ⟨Lc2, hQ2, l2, y2, z2⟩, st2⟩ := X1.virtualBack hx (y := (⟨"java/lang/String", "charAt", "(I)C"⟩ : MethodName)) (z := (⟨"java/lang/String", "charAt", "(I)C"⟩ : MethodName)) hown (mvT hZ (hw _ (List.mem_of_getElem? (i := 17) rfl))) (mvT hZ (hw _ (List.mem_of_getElem? (i := 18) rfl))) (notFace_of_selects (args := #[]) (mvT hZ (hw _ (List.mem_of_getElem? (i := 20) rfl)))) (mvT hZ (hw _ (List.mem_of_getElem? (i := 20) rfl))) (mvT hZ (hw _ (List.mem_of_getElem? (i := 19) rfl))) (by decide) (backOf (W := 0) (rm3 l Z a0 hw [] a1 (x0 - (65 : Int32)) wcs vf u1 nn h1 n0 ZS1 Sx1_COMPACT_STRINGS hcs Sx1_SIOOBE_FORMATTER rf Ex1 Fc1 Fv1 V1 hnn hxx) hZ (hw _ (List.mem_of_getElem? (i := 21) rfl)) (hw _ (List.mem_of_getElem? (i := 10) rfl)) (by decide) (by decide)) q2a q2c (g := (mkF m 18 #[.val (.int x0)] [(.int (x0 - (65 : Int32))), (.ref a1)])) rfl (by rw [hml]; rfl) (Steps.refl _) (argsL := [(.int (x0 - (65 : Int32)))]) (rest := []) (lenOf pd_4 rfl) rfl (by show 2 * 0 + _ ≤ _; exact Nat.le_of_eq rfl) (hb hby d2_18) (fun _ _ => ⟨rfl, e1, (by decide : 2 + 0 ≤ _), (by decide : 108 + 0 ≤ _)⟩)
  dsimp only [Pt.U, Pt.locs, Pt.cells, Pt.slots] at X2 l2 y2 z2 st2 hQ2
  subst l2 y2 z2
  obtain ⟨rfl, N2q, e2⟩ := hQ2
  have N2 := Fr.app N0 N2q
  refine GoW.tr (T' := T2) (f' := (mkF m 21 #[.val (.int x0)] [(.int (Int32.ofNat (97 + nn)))])) st2 ?_
  refine GoW.retZ X2 S1 (by rw [e2]; exact hk1) hx hk (t := .char) Bd.returns (by simp) (hb hby d2_21) (by decide) (by decide) ?_
  intro U eU vU
  have Lt2_ : Lit T2 "com/example/albero/albero/TokenizerToAsciiLowerCasePinLaw" 7 a1 := (own_lit (U := T2) (T := s.setVm T2.vm) rfl).mpr (Lt1.stays X2.warmed.wide)
  rw [Q2_b, eU, e2]
  exact ⟨by rw [hlow, (own_ch ⟨nn, hnn⟩).2.1], N2, E1, a1, u1, (own_lit vU).mpr Lt2_, Ex1, Fc1, Fv1, V1⟩
theorem own_q2 {Z : State} {x0 wcs : Int32} {vf : Value} {h0 : Heap} {n0 : Nat} : ∀ v (t U : State) L, U.heap = t.heap → U.vm = t.vm → Q2_b Z x0 wcs vf h0 n0 v t L → Q2_b Z x0 wcs vf h0 n0 v U L := fun v t U L e1 e2 q => by
  obtain ⟨q1, q2, q3, a, b, q4, q5⟩ := q
  exact ⟨q1, q2, by rw [e1]; exact q3, a, b, (own_lit e2).mpr q4, by rw [e1]; exact q5⟩
theorem ef_0 (m : MethodId) (x0 : Int32) (x1 : Int32) : entryFrame m #[(.int x0), (.int x1)] maxLocals = mkF m 0 #[.val (.int x0), .val (.int x1), .unset, .unset, .unset, .unset, .unset, .unset, .unset] [] := by first | (simp [entryFrame, mkF, argsToLocals, Value.category, maxLocals]; done) | rfl
def Q0 (Z : State) (x0 : Int32) (x1 : Int32) (wcs : Int32) (vf : Value) (h0 : Heap) (n0 : Nat) (v : Option Value) (U : State) (L : List Loc) : Prop := v = some (.int (1 : Int32)) ∧ Fr n0 L
set_option maxRecDepth 65536 in
set_option maxHeartbeats 40000000 in
theorem rm0 (l : Launch) (Z : State) (a0 : Array Value) (hw : ∀ d ∈ tables_1, d.before a0 Z = true) (ws : List Jvm.Cond) (x0 : Int32) (x1 : Int32) (wcs : Int32) (vf : Value) (h0 : Heap) (n0 : Nat) (Z0 : n0 ≤ h0.size) (S_cs : Sta Z h0 "java/lang/String" "COMPACT_STRINGS" "Z" (.int wcs)) (hcs : ¬ (wcs = (0 : Int32))) (S_sf : Sta Z h0 "jdk/internal/util/Preconditions" "SIOOBE_FORMATTER" "Ljava/util/function/BiFunction;" vf) (rf : vf.isRef = true) (hheld : Jvm.Lit.constHeld Z "com/example/albero/albero/TokenizerToAsciiLowerCasePinLaw" 7) (hcw : Jvm.Lit.compactW.before a0 Z = true) (hz0 : h0 = Z.heap) (hn0 : n0 = Z.heap.size) :
    MetFree l x (head1 (Jvm.Cond.code x code maxLocals ret :: ws) room_1) (fun a U => a = #[(.int x0), (.int x1)] ∧ Z.WarmedH U.vm ∧ U.heap = h0) (fun _ _ _ _ _ => True) (fun _ U o U' => ∃ v L, o = .returned v ∧ Q0 Z x0 x1 wcs vf h0 n0 v U' L ∧ ReturnedEndW U o U' L 8 1088) := by
  refine MetFree.of_bodySF (plainFor_of_name pn_4) hisR ?_
  intro p e s m args below meth c s₁ Bd hml0 hP hK
  obtain ⟨rfl, hZh, hh⟩ := hP
  have hZ : Z.Warmed39 s.vm := hZh.wide
  have hx := Bd.exec
  have hby := Bd.bytes
  have hml : c.maxLocals = 9 := hml0
  have hown : s.vm.findClass "com/example/albero/albero/TokenizerToAsciiLowerCasePinLaw" = some m.cls := findClass_of_methodNamed Bd.named
  have hnm := (name_of_methodNamed Bd.named Bd.method).1
  have hk : meth.locks = false := BodyLoose.notSynchronized Bd
  have X0 : Stand p l e room_1 s m #[(.int x0), (.int x1)] below meth c s₁ [] 0 0 := Stand.of_body Bd
  have e0 : s₁.heap = h0 := by rw [← hh, Bd.state]; rfl
  have N0 := Fr.nil n0
  show GoW p e below s (Q0 Z x0 x1 wcs vf h0 n0) 8 1088 s₁ (entryFrame m #[(.int x0), (.int x1)] maxLocals)
  refine GoW.cast (ef_0 m x0 x1) ?_
  obtain ⟨nn, hnn, hkk⟩ := own_k x1
  obtain ⟨o1, o2, o3, o4, o5, o6, o7⟩ := own_ch ⟨nn, hnn⟩
  simp only [] at o1 o2 o3 o4 o5 o6 o7
  by_cases hA : x0 < 65 ∨ 90 < x0
  · -- A
    refine GoW.of (T' := s₁) (f' := (mkF m 1 #[.val (.int x0), .val (.int x1), .unset, .unset, .unset, .unset, .unset, .unset, .unset] [(.int x0)])) (fun t k => XS.iloadN X0.here hx rfl (hb hby at_0) rfl k) ?_
    obtain ⟨_, _, ⟨T1, L1, k1, n1⟩, -, X1, ⟨Lc1, hQ1, l1, y1, z1⟩, st1⟩ := Jvm.LawKit.callS X0 hx (y := (⟨"com/example/albero/albero/Tokenizer", "toAsciiLowerCase", "(I)C"⟩ : MethodName)) hown (mvT hZ (hw _ (List.mem_of_getElem? (i := 0) rfl))) (mvT hZ (hw _ (List.mem_of_getElem? (i := 1) rfl))) (mvT hZ (hw _ (List.mem_of_getElem? (i := 2) rfl))) (mvT hZ (hw _ (List.mem_of_getElem? (i := 3) rfl))) (by decide) (backOf (W := 0) (rm1 l Z a0 hw [] x0 h0 n0 Z0 ) hZ (hw _ (List.mem_of_getElem? (i := 3) rfl)) (hw _ (List.mem_of_getElem? (i := 2) rfl)) (by decide) (by decide)) (g := (mkF m 1 #[.val (.int x0), .val (.int x1), .unset, .unset, .unset, .unset, .unset, .unset, .unset] [(.int x0)])) rfl (by rw [hml]; rfl) (argsL := [(.int x0)]) (rest := []) (lenOf pd_4 rfl) rfl (by show 2 * 0 + _ ≤ _; exact Nat.le_of_eq rfl) (hb hby at_1) (fun _ _ => ⟨rfl, e0, (by decide : 0 + 0 ≤ _), (by decide : 0 + 0 ≤ _)⟩)
    dsimp only [Pt.U, Pt.locs, Pt.cells, Pt.slots] at X1 l1 y1 z1 st1 hQ1
    subst l1 y1 z1
    obtain ⟨rfl, N1q, e1⟩ := hQ1
    have N1 := Fr.app N0 N1q
    refine GoW.of (T' := T1) (f' := (mkF m 4 #[.val (.int x0), .val (.int x1), .unset, .unset, .unset, .unset, .unset, .unset, .unset] [(.int (lowV x0))])) (fun t k => st1 t k) ?_
    refine GoW.of (T' := T1) (f' := (mkF m 5 #[.val (.int x0), .val (.int x1), .unset, .unset, .unset, .unset, .unset, .unset, .unset] [(.int x0), (.int (lowV x0))])) (fun t k => XS.iloadN X1.here hx rfl (hb hby at_4) rfl k) ?_
    obtain ⟨_, _, ⟨T2, L2, k2, n2⟩, -, X2, ⟨Lc2, hQ2, l2, y2, z2⟩, st2⟩ := Jvm.LawKit.callS X1 hx (y := (⟨"com/example/albero/albero/TokenizerToAsciiLowerCasePinLaw", "expected", "(I)C"⟩ : MethodName)) hown (mvT hZ (hw _ (List.mem_of_getElem? (i := 4) rfl))) (mvT hZ (hw _ (List.mem_of_getElem? (i := 5) rfl))) (mvT hZ (hw _ (List.mem_of_getElem? (i := 6) rfl))) (mvT hZ (hw _ (List.mem_of_getElem? (i := 7) rfl))) (by decide) (backOf (W := 1) (rm2_a l Z a0 hw [] x0 h0 n0 Z0 hA) hZ (hw _ (List.mem_of_getElem? (i := 7) rfl)) (hw _ (List.mem_of_getElem? (i := 6) rfl)) (by decide) (by decide)) (g := (mkF m 5 #[.val (.int x0), .val (.int x1), .unset, .unset, .unset, .unset, .unset, .unset, .unset] [(.int x0), (.int (lowV x0))])) rfl (by rw [hml]; rfl) (argsL := [(.int x0)]) (rest := [(.int (lowV x0))]) (lenOf pd_4 rfl) rfl (by show 2 * 0 + _ ≤ _; exact Nat.le_of_eq rfl) (hb hby at_5) (fun _ _ => ⟨rfl, e1, (by decide : 0 + 0 ≤ _), (by decide : 0 + 0 ≤ _)⟩)
    dsimp only [Pt.U, Pt.locs, Pt.cells, Pt.slots] at X2 l2 y2 z2 st2 hQ2
    subst l2 y2 z2
    obtain ⟨rfl, N2q, e2⟩ := hQ2
    have N2 := Fr.app N1 N2q
    refine GoW.of (T' := T2) (f' := (mkF m 8 #[.val (.int x0), .val (.int x1), .unset, .unset, .unset, .unset, .unset, .unset, .unset] [(.int (nar .char (x0.toUInt32.toUInt16.toUInt32.toInt32))), (.int (lowV x0))])) (fun t k => st2 t k) ?_
    have hc8 : (lowV x0) = (nar .char (x0.toUInt32.toUInt16.toUInt32.toInt32)) := own_out x0 hA
    refine GoW.of (T' := T2) (f' := (mkF m 11 #[.val (.int x0), .val (.int x1), .unset, .unset, .unset, .unset, .unset, .unset, .unset] [])) (fun t k => XS.icmpNo X2.here hx rfl (hb hby at_8) rfl ((teq hc8).2) k) ?_
    refine GoW.of (T' := T2) (f' := (mkF m 12 #[.val (.int x0), .val (.int x1), .unset, .unset, .unset, .unset, .unset, .unset, .unset] [(.int (1 : Int32))])) (fun t k => XS.iconst X2.here hx rfl (hb hby at_11) k) ?_
    refine GoW.of (T' := T2) (f' := (mkF m 16 #[.val (.int x0), .val (.int x1), .unset, .unset, .unset, .unset, .unset, .unset, .unset] [(.int (1 : Int32))])) (fun t k => XS.goto X2.here hx rfl (pc0 := 12) (pc' := 16) rfl (hb hby at_12) (by decide) (by decide) k) ?_
    refine GoW.of (T' := T2) (f' := (mkF m 17 #[.val (.int x0), .val (.int x1), .val (.int (1 : Int32)), .unset, .unset, .unset, .unset, .unset, .unset] [])) (fun t k => XS.istoreN X2.here hx rfl (hb hby at_16) rfl (l' := #[.val (.int x0), .val (.int x1), .val (.int (1 : Int32)), .unset, .unset, .unset, .unset, .unset, .unset]) rfl k) ?_
    refine GoW.of (T' := T2) (f' := (mkF m 18 #[.val (.int x0), .val (.int x1), .val (.int (1 : Int32)), .unset, .unset, .unset, .unset, .unset, .unset] [(.int x1)])) (fun t k => XS.iloadN X2.here hx rfl (hb hby at_17) rfl k) ?_
    refine GoW.of (T' := T2) (f' := (mkF m 20 #[.val (.int x0), .val (.int x1), .val (.int (1 : Int32)), .unset, .unset, .unset, .unset, .unset, .unset] [(.int (2147483647 : Int32)), (.int x1)])) (fun t k => X2.ldcInt hx hown (mvT hZ (hw _ (List.mem_of_getElem? (i := 8) rfl))) (g := (mkF m 18 #[.val (.int x0), .val (.int x1), .val (.int (1 : Int32)), .unset, .unset, .unset, .unset, .unset, .unset] [(.int x1)])) rfl (hb hby at_18) t k) ?_
    refine GoW.of (T' := T2) (f' := (mkF m 21 #[.val (.int x0), .val (.int x1), .val (.int (1 : Int32)), .unset, .unset, .unset, .unset, .unset, .unset] [(.int (x1 &&& (2147483647 : Int32)))])) (fun t k => XS.iand X2.here hx rfl (hb hby at_20) rfl k) ?_
    refine GoW.of (T' := T2) (f' := (mkF m 23 #[.val (.int x0), .val (.int x1), .val (.int (1 : Int32)), .unset, .unset, .unset, .unset, .unset, .unset] [(.int (26 : Int32)), (.int (x1 &&& (2147483647 : Int32)))])) (fun t k => XS.bipush X2.here hx rfl (hb hby at_21) k) ?_
    have nz23 : (26 : Int32) ≠ (0 : Int32) := by decide
    refine GoW.of (T' := T2) (f' := (mkF m 24 #[.val (.int x0), .val (.int x1), .val (.int (1 : Int32)), .unset, .unset, .unset, .unset, .unset, .unset] [(.int ((x1 &&& (2147483647 : Int32)) % (26 : Int32)))])) (fun t k => iremM (g := _) X2 hx rfl (hb hby at_23) rfl nz23 k) ?_
    refine GoW.of (T' := T2) (f' := (mkF m 25 #[.val (.int x0), .val (.int x1), .val (.int (1 : Int32)), .val (.int ((x1 &&& (2147483647 : Int32)) % (26 : Int32))), .unset, .unset, .unset, .unset, .unset] [])) (fun t k => XS.istoreN X2.here hx rfl (hb hby at_24) rfl (l' := #[.val (.int x0), .val (.int x1), .val (.int (1 : Int32)), .val (.int ((x1 &&& (2147483647 : Int32)) % (26 : Int32))), .unset, .unset, .unset, .unset, .unset]) rfl k) ?_
    rw [hkk]
    refine GoW.of (T' := T2) (f' := (mkF m 27 #[.val (.int x0), .val (.int x1), .val (.int (1 : Int32)), .val (.int (Int32.ofNat nn)), .unset, .unset, .unset, .unset, .unset] [(.int (65 : Int32))])) (fun t k => XS.bipush X2.here hx rfl (hb hby at_25) k) ?_
    refine GoW.of (T' := T2) (f' := (mkF m 28 #[.val (.int x0), .val (.int x1), .val (.int (1 : Int32)), .val (.int (Int32.ofNat nn)), .unset, .unset, .unset, .unset, .unset] [(.int (Int32.ofNat nn)), (.int (65 : Int32))])) (fun t k => XS.iloadN X2.here hx rfl (hb hby at_27) rfl k) ?_
    refine GoW.of (T' := T2) (f' := (mkF m 29 #[.val (.int x0), .val (.int x1), .val (.int (1 : Int32)), .val (.int (Int32.ofNat nn)), .unset, .unset, .unset, .unset, .unset] [(.int ((65 : Int32) + (Int32.ofNat nn)))])) (fun t k => XS.iadd X2.here hx rfl (hb hby at_28) rfl k) ?_
    refine GoW.of (T' := T2) (f' := (mkF m 31 #[.val (.int x0), .val (.int x1), .val (.int (1 : Int32)), .val (.int (Int32.ofNat nn)), .val (.int ((65 : Int32) + (Int32.ofNat nn))), .unset, .unset, .unset, .unset] [])) (fun t k => XS.istore X2.here hx rfl (hb hby at_29) rfl (l' := #[.val (.int x0), .val (.int x1), .val (.int (1 : Int32)), .val (.int (Int32.ofNat nn)), .val (.int ((65 : Int32) + (Int32.ofNat nn))), .unset, .unset, .unset, .unset]) rfl k) ?_
    refine GoW.of (T' := T2) (f' := (mkF m 33 #[.val (.int x0), .val (.int x1), .val (.int (1 : Int32)), .val (.int (Int32.ofNat nn)), .val (.int ((65 : Int32) + (Int32.ofNat nn))), .unset, .unset, .unset, .unset] [(.int (97 : Int32))])) (fun t k => XS.bipush X2.here hx rfl (hb hby at_31) k) ?_
    refine GoW.of (T' := T2) (f' := (mkF m 34 #[.val (.int x0), .val (.int x1), .val (.int (1 : Int32)), .val (.int (Int32.ofNat nn)), .val (.int ((65 : Int32) + (Int32.ofNat nn))), .unset, .unset, .unset, .unset] [(.int (Int32.ofNat nn)), (.int (97 : Int32))])) (fun t k => XS.iloadN X2.here hx rfl (hb hby at_33) rfl k) ?_
    refine GoW.of (T' := T2) (f' := (mkF m 35 #[.val (.int x0), .val (.int x1), .val (.int (1 : Int32)), .val (.int (Int32.ofNat nn)), .val (.int ((65 : Int32) + (Int32.ofNat nn))), .unset, .unset, .unset, .unset] [(.int ((97 : Int32) + (Int32.ofNat nn)))])) (fun t k => XS.iadd X2.here hx rfl (hb hby at_34) rfl k) ?_
    refine GoW.of (T' := T2) (f' := (mkF m 37 #[.val (.int x0), .val (.int x1), .val (.int (1 : Int32)), .val (.int (Int32.ofNat nn)), .val (.int ((65 : Int32) + (Int32.ofNat nn))), .val (.int ((97 : Int32) + (Int32.ofNat nn))), .unset, .unset, .unset] [])) (fun t k => XS.istore X2.here hx rfl (hb hby at_35) rfl (l' := #[.val (.int x0), .val (.int x1), .val (.int (1 : Int32)), .val (.int (Int32.ofNat nn)), .val (.int ((65 : Int32) + (Int32.ofNat nn))), .val (.int ((97 : Int32) + (Int32.ofNat nn))), .unset, .unset, .unset]) rfl k) ?_
    obtain ⟨a3, T3, h3, k3, u3, kk3, X3, e3, E3, S3, hk3, hZ, hown, Ex3, Fc3, Fv3, A3, -, -, IB3, Lt3, st3⟩ := ldcSVL (s := s) (vm0 := s.vm) X2 hx hZ hown (hw _ (List.mem_of_getElem? (i := 9) rfl)) (own_words hw) e2 (k0 := 0) ((State.WarmedH.refl s).since 0) (Nat.zero_le _) (by rw [hh, hz0, ← hn0]; exact N2) (fun b cl q => by rw [hh, hz0]; exact q) (IBof hZh) (by simp) hheld hcw (vs := abc.map Value.int) (z := 26) ⟨by decide, rfl⟩ (by decide) (by decide) (g := (mkF m 37 #[.val (.int x0), .val (.int x1), .val (.int (1 : Int32)), .val (.int (Int32.ofNat nn)), .val (.int ((65 : Int32) + (Int32.ofNat nn))), .val (.int ((97 : Int32) + (Int32.ofNat nn))), .unset, .unset, .unset] [])) rfl (hb hby at_37) (n := 104) (by decide) (by decide) (by decide) (by decide)
    have V3 := A3.toV (by decide)
    have Sx3_COMPACT_STRINGS := S_cs.ext E3
    have Sx3_SIOOBE_FORMATTER := S_sf.ext E3
    have ZS3 : n0 ≤ h3.size := Nat.le_trans Z0 E3.1
    refine GoW.of (T' := T3) (f' := (mkF m 39 #[.val (.int x0), .val (.int x1), .val (.int (1 : Int32)), .val (.int (Int32.ofNat nn)), .val (.int ((65 : Int32) + (Int32.ofNat nn))), .val (.int ((97 : Int32) + (Int32.ofNat nn))), .unset, .unset, .unset] [(.ref a3)])) (fun t k => st3 t k) ?_
    refine GoW.of (T' := T3) (f' := (mkF m 40 #[.val (.int x0), .val (.int x1), .val (.int (1 : Int32)), .val (.int (Int32.ofNat nn)), .val (.int ((65 : Int32) + (Int32.ofNat nn))), .val (.int ((97 : Int32) + (Int32.ofNat nn))), .unset, .unset, .unset] [(.int (Int32.ofNat nn)), (.ref a3)])) (fun t k => XS.iloadN X3.here hx rfl (hb hby at_39) rfl k) ?_
    obtain ⟨cq4, kq4, q4a, q4b, q4c⟩ := isOf hZ e3 Ex3
    obtain ⟨_, _, ⟨T4, L4, k4, n4⟩, -, X4, ⟨Lc4, hQ4, l4, y4, z4⟩, st4⟩ := X3.virtualBack hx (y := (⟨"java/lang/String", "charAt", "(I)C"⟩ : MethodName)) (z := (⟨"java/lang/String", "charAt", "(I)C"⟩ : MethodName)) hown (mvT hZ (hw _ (List.mem_of_getElem? (i := 17) rfl))) (mvT hZ (hw _ (List.mem_of_getElem? (i := 18) rfl))) (notFace_of_selects (args := #[]) (mvT hZ (hw _ (List.mem_of_getElem? (i := 20) rfl)))) (mvT hZ (hw _ (List.mem_of_getElem? (i := 20) rfl))) (mvT hZ (hw _ (List.mem_of_getElem? (i := 19) rfl))) (by decide) (backOf (W := 0) (rm3 l Z a0 hw [] a3 (Int32.ofNat nn) wcs vf u3 nn h3 n0 ZS3 Sx3_COMPACT_STRINGS hcs Sx3_SIOOBE_FORMATTER rf Ex3 Fc3 Fv3 V3 hnn rfl) hZ (hw _ (List.mem_of_getElem? (i := 21) rfl)) (hw _ (List.mem_of_getElem? (i := 10) rfl)) (by decide) (by decide)) q4a q4c (g := (mkF m 40 #[.val (.int x0), .val (.int x1), .val (.int (1 : Int32)), .val (.int (Int32.ofNat nn)), .val (.int ((65 : Int32) + (Int32.ofNat nn))), .val (.int ((97 : Int32) + (Int32.ofNat nn))), .unset, .unset, .unset] [(.int (Int32.ofNat nn)), (.ref a3)])) rfl (by rw [hml]; rfl) (Steps.refl _) (argsL := [(.int (Int32.ofNat nn))]) (rest := []) (lenOf pd_4 rfl) rfl (by show 2 * 0 + _ ≤ _; exact Nat.le_of_eq rfl) (hb hby at_40) (fun _ _ => ⟨rfl, e3, (by decide : 2 + 0 ≤ _), (by decide : 108 + 0 ≤ _)⟩)
    dsimp only [Pt.U, Pt.locs, Pt.cells, Pt.slots] at X4 l4 y4 z4 st4 hQ4
    subst l4 y4 z4
    obtain ⟨rfl, N4q, e4⟩ := hQ4
    have N4 := Fr.app N2 N4q
    refine GoW.tr (T' := T4) (f' := (mkF m 43 #[.val (.int x0), .val (.int x1), .val (.int (1 : Int32)), .val (.int (Int32.ofNat nn)), .val (.int ((65 : Int32) + (Int32.ofNat nn))), .val (.int ((97 : Int32) + (Int32.ofNat nn))), .unset, .unset, .unset] [(.int (Int32.ofNat (97 + nn)))])) st4 ?_
    refine GoW.of (T' := T4) (f' := (mkF m 45 #[.val (.int x0), .val (.int x1), .val (.int (1 : Int32)), .val (.int (Int32.ofNat nn)), .val (.int ((65 : Int32) + (Int32.ofNat nn))), .val (.int ((97 : Int32) + (Int32.ofNat nn))), .val (.int (Int32.ofNat (97 + nn))), .unset, .unset] [])) (fun t k => XS.istore X4.here hx rfl (hb hby at_43) rfl (l' := #[.val (.int x0), .val (.int x1), .val (.int (1 : Int32)), .val (.int (Int32.ofNat nn)), .val (.int ((65 : Int32) + (Int32.ofNat nn))), .val (.int ((97 : Int32) + (Int32.ofNat nn))), .val (.int (Int32.ofNat (97 + nn))), .unset, .unset]) rfl k) ?_
    refine GoW.of (T' := T4) (f' := (mkF m 47 #[.val (.int x0), .val (.int x1), .val (.int (1 : Int32)), .val (.int (Int32.ofNat nn)), .val (.int ((65 : Int32) + (Int32.ofNat nn))), .val (.int ((97 : Int32) + (Int32.ofNat nn))), .val (.int (Int32.ofNat (97 + nn))), .unset, .unset] [(.int ((65 : Int32) + (Int32.ofNat nn)))])) (fun t k => XS.iload X4.here hx rfl (hb hby at_45) rfl k) ?_
    obtain ⟨_, _, ⟨T5, L5, k5, n5⟩, -, X5, ⟨Lc5, hQ5, l5, y5, z5⟩, st5⟩ := Jvm.LawKit.callS X4 hx (y := (⟨"com/example/albero/albero/Tokenizer", "toAsciiLowerCase", "(I)C"⟩ : MethodName)) hown (mvT hZ (hw _ (List.mem_of_getElem? (i := 0) rfl))) (mvT hZ (hw _ (List.mem_of_getElem? (i := 1) rfl))) (mvT hZ (hw _ (List.mem_of_getElem? (i := 2) rfl))) (mvT hZ (hw _ (List.mem_of_getElem? (i := 3) rfl))) (by decide) (backOf (W := 0) (rm1 l Z a0 hw [] ((65 : Int32) + (Int32.ofNat nn)) h3 n0 ZS3 ) hZ (hw _ (List.mem_of_getElem? (i := 3) rfl)) (hw _ (List.mem_of_getElem? (i := 2) rfl)) (by decide) (by decide)) (g := (mkF m 47 #[.val (.int x0), .val (.int x1), .val (.int (1 : Int32)), .val (.int (Int32.ofNat nn)), .val (.int ((65 : Int32) + (Int32.ofNat nn))), .val (.int ((97 : Int32) + (Int32.ofNat nn))), .val (.int (Int32.ofNat (97 + nn))), .unset, .unset] [(.int ((65 : Int32) + (Int32.ofNat nn)))])) rfl (by rw [hml]; rfl) (argsL := [(.int ((65 : Int32) + (Int32.ofNat nn)))]) (rest := []) (lenOf pd_4 rfl) rfl (by show 2 * 0 + _ ≤ _; exact Nat.le_of_eq rfl) (hb hby at_47) (fun _ _ => ⟨rfl, e4, (by decide : 2 + 0 ≤ _), (by decide : 108 + 0 ≤ _)⟩)
    dsimp only [Pt.U, Pt.locs, Pt.cells, Pt.slots] at X5 l5 y5 z5 st5 hQ5
    subst l5 y5 z5
    obtain ⟨rfl, N5q, e5⟩ := hQ5
    have N5 := Fr.app N4 N5q
    refine GoW.of (T' := T5) (f' := (mkF m 50 #[.val (.int x0), .val (.int x1), .val (.int (1 : Int32)), .val (.int (Int32.ofNat nn)), .val (.int ((65 : Int32) + (Int32.ofNat nn))), .val (.int ((97 : Int32) + (Int32.ofNat nn))), .val (.int (Int32.ofNat (97 + nn))), .unset, .unset] [(.int (lowV ((65 : Int32) + (Int32.ofNat nn))))])) (fun t k => st5 t k) ?_
    refine GoW.of (T' := T5) (f' := (mkF m 52 #[.val (.int x0), .val (.int x1), .val (.int (1 : Int32)), .val (.int (Int32.ofNat nn)), .val (.int ((65 : Int32) + (Int32.ofNat nn))), .val (.int ((97 : Int32) + (Int32.ofNat nn))), .val (.int (Int32.ofNat (97 + nn))), .unset, .unset] [(.int (Int32.ofNat (97 + nn))), (.int (lowV ((65 : Int32) + (Int32.ofNat nn))))])) (fun t k => XS.iload X5.here hx rfl (hb hby at_50) rfl k) ?_
    have hc52 : (lowV ((65 : Int32) + (Int32.ofNat nn))) = (Int32.ofNat (97 + nn)) := o6
    refine GoW.of (T' := T5) (f' := (mkF m 55 #[.val (.int x0), .val (.int x1), .val (.int (1 : Int32)), .val (.int (Int32.ofNat nn)), .val (.int ((65 : Int32) + (Int32.ofNat nn))), .val (.int ((97 : Int32) + (Int32.ofNat nn))), .val (.int (Int32.ofNat (97 + nn))), .unset, .unset] [])) (fun t k => XS.icmpNo X5.here hx rfl (hb hby at_52) rfl ((teq hc52).2) k) ?_
    refine GoW.of (T' := T5) (f' := (mkF m 56 #[.val (.int x0), .val (.int x1), .val (.int (1 : Int32)), .val (.int (Int32.ofNat nn)), .val (.int ((65 : Int32) + (Int32.ofNat nn))), .val (.int ((97 : Int32) + (Int32.ofNat nn))), .val (.int (Int32.ofNat (97 + nn))), .unset, .unset] [(.int (1 : Int32))])) (fun t k => XS.iconst X5.here hx rfl (hb hby at_55) k) ?_
    refine GoW.of (T' := T5) (f' := (mkF m 60 #[.val (.int x0), .val (.int x1), .val (.int (1 : Int32)), .val (.int (Int32.ofNat nn)), .val (.int ((65 : Int32) + (Int32.ofNat nn))), .val (.int ((97 : Int32) + (Int32.ofNat nn))), .val (.int (Int32.ofNat (97 + nn))), .unset, .unset] [(.int (1 : Int32))])) (fun t k => XS.goto X5.here hx rfl (pc0 := 56) (pc' := 60) rfl (hb hby at_56) (by decide) (by decide) k) ?_
    refine GoW.of (T' := T5) (f' := (mkF m 62 #[.val (.int x0), .val (.int x1), .val (.int (1 : Int32)), .val (.int (Int32.ofNat nn)), .val (.int ((65 : Int32) + (Int32.ofNat nn))), .val (.int ((97 : Int32) + (Int32.ofNat nn))), .val (.int (Int32.ofNat (97 + nn))), .val (.int (1 : Int32)), .unset] [])) (fun t k => XS.istore X5.here hx rfl (hb hby at_60) rfl (l' := #[.val (.int x0), .val (.int x1), .val (.int (1 : Int32)), .val (.int (Int32.ofNat nn)), .val (.int ((65 : Int32) + (Int32.ofNat nn))), .val (.int ((97 : Int32) + (Int32.ofNat nn))), .val (.int (Int32.ofNat (97 + nn))), .val (.int (1 : Int32)), .unset]) rfl k) ?_
    refine GoW.of (T' := T5) (f' := (mkF m 64 #[.val (.int x0), .val (.int x1), .val (.int (1 : Int32)), .val (.int (Int32.ofNat nn)), .val (.int ((65 : Int32) + (Int32.ofNat nn))), .val (.int ((97 : Int32) + (Int32.ofNat nn))), .val (.int (Int32.ofNat (97 + nn))), .val (.int (1 : Int32)), .unset] [(.int ((97 : Int32) + (Int32.ofNat nn)))])) (fun t k => XS.iload X5.here hx rfl (hb hby at_62) rfl k) ?_
    obtain ⟨_, _, ⟨T6, L6, k6, n6⟩, -, X6, ⟨Lc6, hQ6, l6, y6, z6⟩, st6⟩ := Jvm.LawKit.callS X5 hx (y := (⟨"com/example/albero/albero/Tokenizer", "toAsciiLowerCase", "(I)C"⟩ : MethodName)) hown (mvT hZ (hw _ (List.mem_of_getElem? (i := 0) rfl))) (mvT hZ (hw _ (List.mem_of_getElem? (i := 1) rfl))) (mvT hZ (hw _ (List.mem_of_getElem? (i := 2) rfl))) (mvT hZ (hw _ (List.mem_of_getElem? (i := 3) rfl))) (by decide) (backOf (W := 0) (rm1 l Z a0 hw [] ((97 : Int32) + (Int32.ofNat nn)) h3 n0 ZS3 ) hZ (hw _ (List.mem_of_getElem? (i := 3) rfl)) (hw _ (List.mem_of_getElem? (i := 2) rfl)) (by decide) (by decide)) (g := (mkF m 64 #[.val (.int x0), .val (.int x1), .val (.int (1 : Int32)), .val (.int (Int32.ofNat nn)), .val (.int ((65 : Int32) + (Int32.ofNat nn))), .val (.int ((97 : Int32) + (Int32.ofNat nn))), .val (.int (Int32.ofNat (97 + nn))), .val (.int (1 : Int32)), .unset] [(.int ((97 : Int32) + (Int32.ofNat nn)))])) rfl (by rw [hml]; rfl) (argsL := [(.int ((97 : Int32) + (Int32.ofNat nn)))]) (rest := []) (lenOf pd_4 rfl) rfl (by show 2 * 0 + _ ≤ _; exact Nat.le_of_eq rfl) (hb hby at_64) (fun _ _ => ⟨rfl, e5, (by decide : 2 + 0 ≤ _), (by decide : 108 + 0 ≤ _)⟩)
    dsimp only [Pt.U, Pt.locs, Pt.cells, Pt.slots] at X6 l6 y6 z6 st6 hQ6
    subst l6 y6 z6
    obtain ⟨rfl, N6q, e6⟩ := hQ6
    have N6 := Fr.app N5 N6q
    refine GoW.of (T' := T6) (f' := (mkF m 67 #[.val (.int x0), .val (.int x1), .val (.int (1 : Int32)), .val (.int (Int32.ofNat nn)), .val (.int ((65 : Int32) + (Int32.ofNat nn))), .val (.int ((97 : Int32) + (Int32.ofNat nn))), .val (.int (Int32.ofNat (97 + nn))), .val (.int (1 : Int32)), .unset] [(.int (lowV ((97 : Int32) + (Int32.ofNat nn))))])) (fun t k => st6 t k) ?_
    refine GoW.of (T' := T6) (f' := (mkF m 69 #[.val (.int x0), .val (.int x1), .val (.int (1 : Int32)), .val (.int (Int32.ofNat nn)), .val (.int ((65 : Int32) + (Int32.ofNat nn))), .val (.int ((97 : Int32) + (Int32.ofNat nn))), .val (.int (Int32.ofNat (97 + nn))), .val (.int (1 : Int32)), .unset] [(.int (Int32.ofNat (97 + nn))), (.int (lowV ((97 : Int32) + (Int32.ofNat nn))))])) (fun t k => XS.iload X6.here hx rfl (hb hby at_67) rfl k) ?_
    have hc69 : (lowV ((97 : Int32) + (Int32.ofNat nn))) = (Int32.ofNat (97 + nn)) := o7
    refine GoW.of (T' := T6) (f' := (mkF m 72 #[.val (.int x0), .val (.int x1), .val (.int (1 : Int32)), .val (.int (Int32.ofNat nn)), .val (.int ((65 : Int32) + (Int32.ofNat nn))), .val (.int ((97 : Int32) + (Int32.ofNat nn))), .val (.int (Int32.ofNat (97 + nn))), .val (.int (1 : Int32)), .unset] [])) (fun t k => XS.icmpNo X6.here hx rfl (hb hby at_69) rfl ((teq hc69).2) k) ?_
    refine GoW.of (T' := T6) (f' := (mkF m 73 #[.val (.int x0), .val (.int x1), .val (.int (1 : Int32)), .val (.int (Int32.ofNat nn)), .val (.int ((65 : Int32) + (Int32.ofNat nn))), .val (.int ((97 : Int32) + (Int32.ofNat nn))), .val (.int (Int32.ofNat (97 + nn))), .val (.int (1 : Int32)), .unset] [(.int (1 : Int32))])) (fun t k => XS.iconst X6.here hx rfl (hb hby at_72) k) ?_
    refine GoW.of (T' := T6) (f' := (mkF m 77 #[.val (.int x0), .val (.int x1), .val (.int (1 : Int32)), .val (.int (Int32.ofNat nn)), .val (.int ((65 : Int32) + (Int32.ofNat nn))), .val (.int ((97 : Int32) + (Int32.ofNat nn))), .val (.int (Int32.ofNat (97 + nn))), .val (.int (1 : Int32)), .unset] [(.int (1 : Int32))])) (fun t k => XS.goto X6.here hx rfl (pc0 := 73) (pc' := 77) rfl (hb hby at_73) (by decide) (by decide) k) ?_
    refine GoW.of (T' := T6) (f' := (mkF m 79 #[.val (.int x0), .val (.int x1), .val (.int (1 : Int32)), .val (.int (Int32.ofNat nn)), .val (.int ((65 : Int32) + (Int32.ofNat nn))), .val (.int ((97 : Int32) + (Int32.ofNat nn))), .val (.int (Int32.ofNat (97 + nn))), .val (.int (1 : Int32)), .val (.int (1 : Int32))] [])) (fun t k => XS.istore X6.here hx rfl (hb hby at_77) rfl (l' := #[.val (.int x0), .val (.int x1), .val (.int (1 : Int32)), .val (.int (Int32.ofNat nn)), .val (.int ((65 : Int32) + (Int32.ofNat nn))), .val (.int ((97 : Int32) + (Int32.ofNat nn))), .val (.int (Int32.ofNat (97 + nn))), .val (.int (1 : Int32)), .val (.int (1 : Int32))]) rfl k) ?_
    refine GoW.of (T' := T6) (f' := (mkF m 80 #[.val (.int x0), .val (.int x1), .val (.int (1 : Int32)), .val (.int (Int32.ofNat nn)), .val (.int ((65 : Int32) + (Int32.ofNat nn))), .val (.int ((97 : Int32) + (Int32.ofNat nn))), .val (.int (Int32.ofNat (97 + nn))), .val (.int (1 : Int32)), .val (.int (1 : Int32))] [(.int (1 : Int32))])) (fun t k => XS.iloadN X6.here hx rfl (hb hby at_79) rfl k) ?_
    have hc80 : ¬ ((1 : Int32) = (0 : Int32)) := by decide
    refine GoW.of (T' := T6) (f' := (mkF m 83 #[.val (.int x0), .val (.int x1), .val (.int (1 : Int32)), .val (.int (Int32.ofNat nn)), .val (.int ((65 : Int32) + (Int32.ofNat nn))), .val (.int ((97 : Int32) + (Int32.ofNat nn))), .val (.int (Int32.ofNat (97 + nn))), .val (.int (1 : Int32)), .val (.int (1 : Int32))] [])) (fun t k => XS.ifNo X6.here hx rfl (hb hby at_80) rfl ((if0 _ _).trans (feq hc80).1) k) ?_
    refine GoW.of (T' := T6) (f' := (mkF m 85 #[.val (.int x0), .val (.int x1), .val (.int (1 : Int32)), .val (.int (Int32.ofNat nn)), .val (.int ((65 : Int32) + (Int32.ofNat nn))), .val (.int ((97 : Int32) + (Int32.ofNat nn))), .val (.int (Int32.ofNat (97 + nn))), .val (.int (1 : Int32)), .val (.int (1 : Int32))] [(.int (1 : Int32))])) (fun t k => XS.iload X6.here hx rfl (hb hby at_83) rfl k) ?_
    have hc85 : ¬ ((1 : Int32) = (0 : Int32)) := by decide
    refine GoW.of (T' := T6) (f' := (mkF m 88 #[.val (.int x0), .val (.int x1), .val (.int (1 : Int32)), .val (.int (Int32.ofNat nn)), .val (.int ((65 : Int32) + (Int32.ofNat nn))), .val (.int ((97 : Int32) + (Int32.ofNat nn))), .val (.int (Int32.ofNat (97 + nn))), .val (.int (1 : Int32)), .val (.int (1 : Int32))] [])) (fun t k => XS.ifNo X6.here hx rfl (hb hby at_85) rfl ((if0 _ _).trans (feq hc85).1) k) ?_
    refine GoW.of (T' := T6) (f' := (mkF m 90 #[.val (.int x0), .val (.int x1), .val (.int (1 : Int32)), .val (.int (Int32.ofNat nn)), .val (.int ((65 : Int32) + (Int32.ofNat nn))), .val (.int ((97 : Int32) + (Int32.ofNat nn))), .val (.int (Int32.ofNat (97 + nn))), .val (.int (1 : Int32)), .val (.int (1 : Int32))] [(.int (1 : Int32))])) (fun t k => XS.iload X6.here hx rfl (hb hby at_88) rfl k) ?_
    have hc90 : ¬ ((1 : Int32) = (0 : Int32)) := by decide
    refine GoW.of (T' := T6) (f' := (mkF m 93 #[.val (.int x0), .val (.int x1), .val (.int (1 : Int32)), .val (.int (Int32.ofNat nn)), .val (.int ((65 : Int32) + (Int32.ofNat nn))), .val (.int ((97 : Int32) + (Int32.ofNat nn))), .val (.int (Int32.ofNat (97 + nn))), .val (.int (1 : Int32)), .val (.int (1 : Int32))] [])) (fun t k => XS.ifNo X6.here hx rfl (hb hby at_90) rfl ((if0 _ _).trans (feq hc90).1) k) ?_
    refine GoW.of (T' := T6) (f' := (mkF m 94 #[.val (.int x0), .val (.int x1), .val (.int (1 : Int32)), .val (.int (Int32.ofNat nn)), .val (.int ((65 : Int32) + (Int32.ofNat nn))), .val (.int ((97 : Int32) + (Int32.ofNat nn))), .val (.int (Int32.ofNat (97 + nn))), .val (.int (1 : Int32)), .val (.int (1 : Int32))] [(.int (1 : Int32))])) (fun t k => XS.iconst X6.here hx rfl (hb hby at_93) k) ?_
    refine GoW.of (T' := T6) (f' := (mkF m 98 #[.val (.int x0), .val (.int x1), .val (.int (1 : Int32)), .val (.int (Int32.ofNat nn)), .val (.int ((65 : Int32) + (Int32.ofNat nn))), .val (.int ((97 : Int32) + (Int32.ofNat nn))), .val (.int (Int32.ofNat (97 + nn))), .val (.int (1 : Int32)), .val (.int (1 : Int32))] [(.int (1 : Int32))])) (fun t k => XS.goto X6.here hx rfl (pc0 := 94) (pc' := 98) rfl (hb hby at_94) (by decide) (by decide) k) ?_
    refine GoW.retZ X6 S3 (by rw [e6]; exact hk3) hx hk (t := .boolean) Bd.returns (by simp) (hb hby at_98) (by decide) (by decide) ?_
    intro U eU vU
    exact ⟨rfl, N6⟩
  · -- B
    have hge : ¬ x0 < 65 := fun q => hA (Or.inl q)
    have hle : ¬ 90 < x0 := fun q => hA (Or.inr q)
    refine GoW.of (T' := s₁) (f' := (mkF m 1 #[.val (.int x0), .val (.int x1), .unset, .unset, .unset, .unset, .unset, .unset, .unset] [(.int x0)])) (fun t k => XS.iloadN X0.here hx rfl (hb hby at_0) rfl k) ?_
    obtain ⟨_, _, ⟨T7, L7, k7, n7⟩, -, X7, ⟨Lc7, hQ7, l7, y7, z7⟩, st7⟩ := Jvm.LawKit.callS X0 hx (y := (⟨"com/example/albero/albero/Tokenizer", "toAsciiLowerCase", "(I)C"⟩ : MethodName)) hown (mvT hZ (hw _ (List.mem_of_getElem? (i := 0) rfl))) (mvT hZ (hw _ (List.mem_of_getElem? (i := 1) rfl))) (mvT hZ (hw _ (List.mem_of_getElem? (i := 2) rfl))) (mvT hZ (hw _ (List.mem_of_getElem? (i := 3) rfl))) (by decide) (backOf (W := 0) (rm1 l Z a0 hw [] x0 h0 n0 Z0 ) hZ (hw _ (List.mem_of_getElem? (i := 3) rfl)) (hw _ (List.mem_of_getElem? (i := 2) rfl)) (by decide) (by decide)) (g := (mkF m 1 #[.val (.int x0), .val (.int x1), .unset, .unset, .unset, .unset, .unset, .unset, .unset] [(.int x0)])) rfl (by rw [hml]; rfl) (argsL := [(.int x0)]) (rest := []) (lenOf pd_4 rfl) rfl (by show 2 * 0 + _ ≤ _; exact Nat.le_of_eq rfl) (hb hby at_1) (fun _ _ => ⟨rfl, e0, (by decide : 0 + 0 ≤ _), (by decide : 0 + 0 ≤ _)⟩)
    dsimp only [Pt.U, Pt.locs, Pt.cells, Pt.slots] at X7 l7 y7 z7 st7 hQ7
    subst l7 y7 z7
    obtain ⟨rfl, N7q, e7⟩ := hQ7
    have N7 := Fr.app N0 N7q
    refine GoW.of (T' := T7) (f' := (mkF m 4 #[.val (.int x0), .val (.int x1), .unset, .unset, .unset, .unset, .unset, .unset, .unset] [(.int (lowV x0))])) (fun t k => st7 t k) ?_
    refine GoW.of (T' := T7) (f' := (mkF m 5 #[.val (.int x0), .val (.int x1), .unset, .unset, .unset, .unset, .unset, .unset, .unset] [(.int x0), (.int (lowV x0))])) (fun t k => XS.iloadN X7.here hx rfl (hb hby at_4) rfl k) ?_
    obtain ⟨_, _, ⟨T8, L8, k8, n8⟩, -, X8, S8, sz8, ⟨Lc8, hQ8, l8, y8, z8⟩, st8⟩ := callSS X7 hx (y := (⟨"com/example/albero/albero/TokenizerToAsciiLowerCasePinLaw", "expected", "(I)C"⟩ : MethodName)) hown (mvT hZ (hw _ (List.mem_of_getElem? (i := 4) rfl))) (mvT hZ (hw _ (List.mem_of_getElem? (i := 5) rfl))) (mvT hZ (hw _ (List.mem_of_getElem? (i := 6) rfl))) (mvT hZ (hw _ (List.mem_of_getElem? (i := 7) rfl))) (by decide) (backOfSX (W := 1) (Q := Q2_b Z x0 wcs vf h0 n0) own_q2 (rm2_b l Z a0 hw [] x0 wcs vf h0 n0 Z0 S_cs hcs S_sf rf hge hle hheld hcw hz0) hZh (hw _ (List.mem_of_getElem? (i := 7) rfl)) (hw _ (List.mem_of_getElem? (i := 6) rfl)) (by decide) (by decide)) (g := (mkF m 5 #[.val (.int x0), .val (.int x1), .unset, .unset, .unset, .unset, .unset, .unset, .unset] [(.int x0), (.int (lowV x0))])) rfl (by rw [hml]; rfl) (argsL := [(.int x0)]) (rest := [(.int (lowV x0))]) (lenOf pd_4 rfl) rfl (by show 2 * 0 + _ ≤ _; exact Nat.le_of_eq rfl) (hb hby at_5) (fun _ _ => ⟨rfl, e7, (by decide : 0 + 2 ≤ _), (by decide : 0 + 108 ≤ _)⟩)
    dsimp only [Pt.U, Pt.locs, Pt.cells, Pt.slots] at X8 S8 sz8 l8 y8 z8 st8 hQ8
    subst l8 y8 z8
    obtain ⟨rfl, N8q, E8, a8, u8, Lt8, Ex8, Fc8, Fv8, V8⟩ := hQ8
    have N8 := Fr.app N7 N8q
    have hZ : Z.Warmed39 (s.setVm T8.vm).vm := State.Warmed39.trans (t := s) hZ S8.1
    have hown : (s.setVm T8.vm).vm.findClass "com/example/albero/albero/TokenizerToAsciiLowerCasePinLaw" = some m.cls := by rw [show (s.setVm T8.vm).vm = T8.vm from rfl, S8.1.alike.findClass]; exact hown
    have Ltl : Lit (s.setVm T8.vm) "com/example/albero/albero/TokenizerToAsciiLowerCasePinLaw" 7 a8 := (own_lit rfl).mpr Lt8
    have Sx8_COMPACT_STRINGS := S_cs.ext E8
    have Sx8_SIOOBE_FORMATTER := S_sf.ext E8
    have ZS8 : n0 ≤ T8.heap.size := Nat.le_trans Z0 E8.1
    refine GoW.tr (T' := T8) (f' := (mkF m 8 #[.val (.int x0), .val (.int x1), .unset, .unset, .unset, .unset, .unset, .unset, .unset] [(.int (lowV x0)), (.int (lowV x0))])) st8 ?_
    have hc8 : (lowV x0) = (lowV x0) := rfl
    refine GoW.of (T' := T8) (f' := (mkF m 11 #[.val (.int x0), .val (.int x1), .unset, .unset, .unset, .unset, .unset, .unset, .unset] [])) (fun t k => XS.icmpNo X8.here hx rfl (hb hby at_8) rfl ((teq hc8).2) k) ?_
    refine GoW.of (T' := T8) (f' := (mkF m 12 #[.val (.int x0), .val (.int x1), .unset, .unset, .unset, .unset, .unset, .unset, .unset] [(.int (1 : Int32))])) (fun t k => XS.iconst X8.here hx rfl (hb hby at_11) k) ?_
    refine GoW.of (T' := T8) (f' := (mkF m 16 #[.val (.int x0), .val (.int x1), .unset, .unset, .unset, .unset, .unset, .unset, .unset] [(.int (1 : Int32))])) (fun t k => XS.goto X8.here hx rfl (pc0 := 12) (pc' := 16) rfl (hb hby at_12) (by decide) (by decide) k) ?_
    refine GoW.of (T' := T8) (f' := (mkF m 17 #[.val (.int x0), .val (.int x1), .val (.int (1 : Int32)), .unset, .unset, .unset, .unset, .unset, .unset] [])) (fun t k => XS.istoreN X8.here hx rfl (hb hby at_16) rfl (l' := #[.val (.int x0), .val (.int x1), .val (.int (1 : Int32)), .unset, .unset, .unset, .unset, .unset, .unset]) rfl k) ?_
    refine GoW.of (T' := T8) (f' := (mkF m 18 #[.val (.int x0), .val (.int x1), .val (.int (1 : Int32)), .unset, .unset, .unset, .unset, .unset, .unset] [(.int x1)])) (fun t k => XS.iloadN X8.here hx rfl (hb hby at_17) rfl k) ?_
    refine GoW.of (T' := T8) (f' := (mkF m 20 #[.val (.int x0), .val (.int x1), .val (.int (1 : Int32)), .unset, .unset, .unset, .unset, .unset, .unset] [(.int (2147483647 : Int32)), (.int x1)])) (fun t k => X8.ldcInt hx hown (mvT hZ (hw _ (List.mem_of_getElem? (i := 8) rfl))) (g := (mkF m 18 #[.val (.int x0), .val (.int x1), .val (.int (1 : Int32)), .unset, .unset, .unset, .unset, .unset, .unset] [(.int x1)])) rfl (hb hby at_18) t k) ?_
    refine GoW.of (T' := T8) (f' := (mkF m 21 #[.val (.int x0), .val (.int x1), .val (.int (1 : Int32)), .unset, .unset, .unset, .unset, .unset, .unset] [(.int (x1 &&& (2147483647 : Int32)))])) (fun t k => XS.iand X8.here hx rfl (hb hby at_20) rfl k) ?_
    refine GoW.of (T' := T8) (f' := (mkF m 23 #[.val (.int x0), .val (.int x1), .val (.int (1 : Int32)), .unset, .unset, .unset, .unset, .unset, .unset] [(.int (26 : Int32)), (.int (x1 &&& (2147483647 : Int32)))])) (fun t k => XS.bipush X8.here hx rfl (hb hby at_21) k) ?_
    have nz23 : (26 : Int32) ≠ (0 : Int32) := by decide
    refine GoW.of (T' := T8) (f' := (mkF m 24 #[.val (.int x0), .val (.int x1), .val (.int (1 : Int32)), .unset, .unset, .unset, .unset, .unset, .unset] [(.int ((x1 &&& (2147483647 : Int32)) % (26 : Int32)))])) (fun t k => iremM (g := _) X8 hx rfl (hb hby at_23) rfl nz23 k) ?_
    refine GoW.of (T' := T8) (f' := (mkF m 25 #[.val (.int x0), .val (.int x1), .val (.int (1 : Int32)), .val (.int ((x1 &&& (2147483647 : Int32)) % (26 : Int32))), .unset, .unset, .unset, .unset, .unset] [])) (fun t k => XS.istoreN X8.here hx rfl (hb hby at_24) rfl (l' := #[.val (.int x0), .val (.int x1), .val (.int (1 : Int32)), .val (.int ((x1 &&& (2147483647 : Int32)) % (26 : Int32))), .unset, .unset, .unset, .unset, .unset]) rfl k) ?_
    rw [hkk]
    refine GoW.of (T' := T8) (f' := (mkF m 27 #[.val (.int x0), .val (.int x1), .val (.int (1 : Int32)), .val (.int (Int32.ofNat nn)), .unset, .unset, .unset, .unset, .unset] [(.int (65 : Int32))])) (fun t k => XS.bipush X8.here hx rfl (hb hby at_25) k) ?_
    refine GoW.of (T' := T8) (f' := (mkF m 28 #[.val (.int x0), .val (.int x1), .val (.int (1 : Int32)), .val (.int (Int32.ofNat nn)), .unset, .unset, .unset, .unset, .unset] [(.int (Int32.ofNat nn)), (.int (65 : Int32))])) (fun t k => XS.iloadN X8.here hx rfl (hb hby at_27) rfl k) ?_
    refine GoW.of (T' := T8) (f' := (mkF m 29 #[.val (.int x0), .val (.int x1), .val (.int (1 : Int32)), .val (.int (Int32.ofNat nn)), .unset, .unset, .unset, .unset, .unset] [(.int ((65 : Int32) + (Int32.ofNat nn)))])) (fun t k => XS.iadd X8.here hx rfl (hb hby at_28) rfl k) ?_
    refine GoW.of (T' := T8) (f' := (mkF m 31 #[.val (.int x0), .val (.int x1), .val (.int (1 : Int32)), .val (.int (Int32.ofNat nn)), .val (.int ((65 : Int32) + (Int32.ofNat nn))), .unset, .unset, .unset, .unset] [])) (fun t k => XS.istore X8.here hx rfl (hb hby at_29) rfl (l' := #[.val (.int x0), .val (.int x1), .val (.int (1 : Int32)), .val (.int (Int32.ofNat nn)), .val (.int ((65 : Int32) + (Int32.ofNat nn))), .unset, .unset, .unset, .unset]) rfl k) ?_
    refine GoW.of (T' := T8) (f' := (mkF m 33 #[.val (.int x0), .val (.int x1), .val (.int (1 : Int32)), .val (.int (Int32.ofNat nn)), .val (.int ((65 : Int32) + (Int32.ofNat nn))), .unset, .unset, .unset, .unset] [(.int (97 : Int32))])) (fun t k => XS.bipush X8.here hx rfl (hb hby at_31) k) ?_
    refine GoW.of (T' := T8) (f' := (mkF m 34 #[.val (.int x0), .val (.int x1), .val (.int (1 : Int32)), .val (.int (Int32.ofNat nn)), .val (.int ((65 : Int32) + (Int32.ofNat nn))), .unset, .unset, .unset, .unset] [(.int (Int32.ofNat nn)), (.int (97 : Int32))])) (fun t k => XS.iloadN X8.here hx rfl (hb hby at_33) rfl k) ?_
    refine GoW.of (T' := T8) (f' := (mkF m 35 #[.val (.int x0), .val (.int x1), .val (.int (1 : Int32)), .val (.int (Int32.ofNat nn)), .val (.int ((65 : Int32) + (Int32.ofNat nn))), .unset, .unset, .unset, .unset] [(.int ((97 : Int32) + (Int32.ofNat nn)))])) (fun t k => XS.iadd X8.here hx rfl (hb hby at_34) rfl k) ?_
    refine GoW.of (T' := T8) (f' := (mkF m 37 #[.val (.int x0), .val (.int x1), .val (.int (1 : Int32)), .val (.int (Int32.ofNat nn)), .val (.int ((65 : Int32) + (Int32.ofNat nn))), .val (.int ((97 : Int32) + (Int32.ofNat nn))), .unset, .unset, .unset] [])) (fun t k => XS.istore X8.here hx rfl (hb hby at_35) rfl (l' := #[.val (.int x0), .val (.int x1), .val (.int (1 : Int32)), .val (.int (Int32.ofNat nn)), .val (.int ((65 : Int32) + (Int32.ofNat nn))), .val (.int ((97 : Int32) + (Int32.ofNat nn))), .unset, .unset, .unset]) rfl k) ?_
    refine GoW.of (T' := T8) (f' := (mkF m 39 #[.val (.int x0), .val (.int x1), .val (.int (1 : Int32)), .val (.int (Int32.ofNat nn)), .val (.int ((65 : Int32) + (Int32.ofNat nn))), .val (.int ((97 : Int32) + (Int32.ofNat nn))), .unset, .unset, .unset] [(.ref a8)])) (fun t k => ldcAgain X8 hx hZ hown (hw _ (List.mem_of_getElem? (i := 9) rfl)) Ltl (g := (mkF m 37 #[.val (.int x0), .val (.int x1), .val (.int (1 : Int32)), .val (.int (Int32.ofNat nn)), .val (.int ((65 : Int32) + (Int32.ofNat nn))), .val (.int ((97 : Int32) + (Int32.ofNat nn))), .unset, .unset, .unset] [])) rfl (hb hby at_37) t k) ?_
    refine GoW.of (T' := T8) (f' := (mkF m 40 #[.val (.int x0), .val (.int x1), .val (.int (1 : Int32)), .val (.int (Int32.ofNat nn)), .val (.int ((65 : Int32) + (Int32.ofNat nn))), .val (.int ((97 : Int32) + (Int32.ofNat nn))), .unset, .unset, .unset] [(.int (Int32.ofNat nn)), (.ref a8)])) (fun t k => XS.iloadN X8.here hx rfl (hb hby at_39) rfl k) ?_
    obtain ⟨cq9, kq9, q9a, q9b, q9c⟩ := isOf hZ rfl Ex8
    obtain ⟨_, _, ⟨T9, L9, k9, n9⟩, -, X9, ⟨Lc9, hQ9, l9, y9, z9⟩, st9⟩ := X8.virtualBack hx (y := (⟨"java/lang/String", "charAt", "(I)C"⟩ : MethodName)) (z := (⟨"java/lang/String", "charAt", "(I)C"⟩ : MethodName)) hown (mvT hZ (hw _ (List.mem_of_getElem? (i := 17) rfl))) (mvT hZ (hw _ (List.mem_of_getElem? (i := 18) rfl))) (notFace_of_selects (args := #[]) (mvT hZ (hw _ (List.mem_of_getElem? (i := 20) rfl)))) (mvT hZ (hw _ (List.mem_of_getElem? (i := 20) rfl))) (mvT hZ (hw _ (List.mem_of_getElem? (i := 19) rfl))) (by decide) (backOf (W := 0) (rm3 l Z a0 hw [] a8 (Int32.ofNat nn) wcs vf u8 nn T8.heap n0 ZS8 Sx8_COMPACT_STRINGS hcs Sx8_SIOOBE_FORMATTER rf Ex8 Fc8 Fv8 V8 hnn rfl) hZ (hw _ (List.mem_of_getElem? (i := 21) rfl)) (hw _ (List.mem_of_getElem? (i := 10) rfl)) (by decide) (by decide)) q9a q9c (g := (mkF m 40 #[.val (.int x0), .val (.int x1), .val (.int (1 : Int32)), .val (.int (Int32.ofNat nn)), .val (.int ((65 : Int32) + (Int32.ofNat nn))), .val (.int ((97 : Int32) + (Int32.ofNat nn))), .unset, .unset, .unset] [(.int (Int32.ofNat nn)), (.ref a8)])) rfl (by rw [hml]; rfl) (Steps.refl _) (argsL := [(.int (Int32.ofNat nn))]) (rest := []) (lenOf pd_4 rfl) rfl (by show 2 * 0 + _ ≤ _; exact Nat.le_of_eq rfl) (hb hby at_40) (fun _ _ => ⟨rfl, rfl, (by decide : 2 + 0 ≤ _), (by decide : 108 + 0 ≤ _)⟩)
    dsimp only [Pt.U, Pt.locs, Pt.cells, Pt.slots] at X9 l9 y9 z9 st9 hQ9
    subst l9 y9 z9
    obtain ⟨rfl, N9q, e9⟩ := hQ9
    have N9 := Fr.app N8 N9q
    refine GoW.tr (T' := T9) (f' := (mkF m 43 #[.val (.int x0), .val (.int x1), .val (.int (1 : Int32)), .val (.int (Int32.ofNat nn)), .val (.int ((65 : Int32) + (Int32.ofNat nn))), .val (.int ((97 : Int32) + (Int32.ofNat nn))), .unset, .unset, .unset] [(.int (Int32.ofNat (97 + nn)))])) st9 ?_
    refine GoW.of (T' := T9) (f' := (mkF m 45 #[.val (.int x0), .val (.int x1), .val (.int (1 : Int32)), .val (.int (Int32.ofNat nn)), .val (.int ((65 : Int32) + (Int32.ofNat nn))), .val (.int ((97 : Int32) + (Int32.ofNat nn))), .val (.int (Int32.ofNat (97 + nn))), .unset, .unset] [])) (fun t k => XS.istore X9.here hx rfl (hb hby at_43) rfl (l' := #[.val (.int x0), .val (.int x1), .val (.int (1 : Int32)), .val (.int (Int32.ofNat nn)), .val (.int ((65 : Int32) + (Int32.ofNat nn))), .val (.int ((97 : Int32) + (Int32.ofNat nn))), .val (.int (Int32.ofNat (97 + nn))), .unset, .unset]) rfl k) ?_
    refine GoW.of (T' := T9) (f' := (mkF m 47 #[.val (.int x0), .val (.int x1), .val (.int (1 : Int32)), .val (.int (Int32.ofNat nn)), .val (.int ((65 : Int32) + (Int32.ofNat nn))), .val (.int ((97 : Int32) + (Int32.ofNat nn))), .val (.int (Int32.ofNat (97 + nn))), .unset, .unset] [(.int ((65 : Int32) + (Int32.ofNat nn)))])) (fun t k => XS.iload X9.here hx rfl (hb hby at_45) rfl k) ?_
    obtain ⟨_, _, ⟨T10, L10, k10, n10⟩, -, X10, ⟨Lc10, hQ10, l10, y10, z10⟩, st10⟩ := Jvm.LawKit.callS X9 hx (y := (⟨"com/example/albero/albero/Tokenizer", "toAsciiLowerCase", "(I)C"⟩ : MethodName)) hown (mvT hZ (hw _ (List.mem_of_getElem? (i := 0) rfl))) (mvT hZ (hw _ (List.mem_of_getElem? (i := 1) rfl))) (mvT hZ (hw _ (List.mem_of_getElem? (i := 2) rfl))) (mvT hZ (hw _ (List.mem_of_getElem? (i := 3) rfl))) (by decide) (backOf (W := 0) (rm1 l Z a0 hw [] ((65 : Int32) + (Int32.ofNat nn)) T8.heap n0 ZS8 ) hZ (hw _ (List.mem_of_getElem? (i := 3) rfl)) (hw _ (List.mem_of_getElem? (i := 2) rfl)) (by decide) (by decide)) (g := (mkF m 47 #[.val (.int x0), .val (.int x1), .val (.int (1 : Int32)), .val (.int (Int32.ofNat nn)), .val (.int ((65 : Int32) + (Int32.ofNat nn))), .val (.int ((97 : Int32) + (Int32.ofNat nn))), .val (.int (Int32.ofNat (97 + nn))), .unset, .unset] [(.int ((65 : Int32) + (Int32.ofNat nn)))])) rfl (by rw [hml]; rfl) (argsL := [(.int ((65 : Int32) + (Int32.ofNat nn)))]) (rest := []) (lenOf pd_4 rfl) rfl (by show 2 * 0 + _ ≤ _; exact Nat.le_of_eq rfl) (hb hby at_47) (fun _ _ => ⟨rfl, e9, (by decide : 2 + 0 ≤ _), (by decide : 108 + 0 ≤ _)⟩)
    dsimp only [Pt.U, Pt.locs, Pt.cells, Pt.slots] at X10 l10 y10 z10 st10 hQ10
    subst l10 y10 z10
    obtain ⟨rfl, N10q, e10⟩ := hQ10
    have N10 := Fr.app N9 N10q
    refine GoW.of (T' := T10) (f' := (mkF m 50 #[.val (.int x0), .val (.int x1), .val (.int (1 : Int32)), .val (.int (Int32.ofNat nn)), .val (.int ((65 : Int32) + (Int32.ofNat nn))), .val (.int ((97 : Int32) + (Int32.ofNat nn))), .val (.int (Int32.ofNat (97 + nn))), .unset, .unset] [(.int (lowV ((65 : Int32) + (Int32.ofNat nn))))])) (fun t k => st10 t k) ?_
    refine GoW.of (T' := T10) (f' := (mkF m 52 #[.val (.int x0), .val (.int x1), .val (.int (1 : Int32)), .val (.int (Int32.ofNat nn)), .val (.int ((65 : Int32) + (Int32.ofNat nn))), .val (.int ((97 : Int32) + (Int32.ofNat nn))), .val (.int (Int32.ofNat (97 + nn))), .unset, .unset] [(.int (Int32.ofNat (97 + nn))), (.int (lowV ((65 : Int32) + (Int32.ofNat nn))))])) (fun t k => XS.iload X10.here hx rfl (hb hby at_50) rfl k) ?_
    have hc52 : (lowV ((65 : Int32) + (Int32.ofNat nn))) = (Int32.ofNat (97 + nn)) := o6
    refine GoW.of (T' := T10) (f' := (mkF m 55 #[.val (.int x0), .val (.int x1), .val (.int (1 : Int32)), .val (.int (Int32.ofNat nn)), .val (.int ((65 : Int32) + (Int32.ofNat nn))), .val (.int ((97 : Int32) + (Int32.ofNat nn))), .val (.int (Int32.ofNat (97 + nn))), .unset, .unset] [])) (fun t k => XS.icmpNo X10.here hx rfl (hb hby at_52) rfl ((teq hc52).2) k) ?_
    refine GoW.of (T' := T10) (f' := (mkF m 56 #[.val (.int x0), .val (.int x1), .val (.int (1 : Int32)), .val (.int (Int32.ofNat nn)), .val (.int ((65 : Int32) + (Int32.ofNat nn))), .val (.int ((97 : Int32) + (Int32.ofNat nn))), .val (.int (Int32.ofNat (97 + nn))), .unset, .unset] [(.int (1 : Int32))])) (fun t k => XS.iconst X10.here hx rfl (hb hby at_55) k) ?_
    refine GoW.of (T' := T10) (f' := (mkF m 60 #[.val (.int x0), .val (.int x1), .val (.int (1 : Int32)), .val (.int (Int32.ofNat nn)), .val (.int ((65 : Int32) + (Int32.ofNat nn))), .val (.int ((97 : Int32) + (Int32.ofNat nn))), .val (.int (Int32.ofNat (97 + nn))), .unset, .unset] [(.int (1 : Int32))])) (fun t k => XS.goto X10.here hx rfl (pc0 := 56) (pc' := 60) rfl (hb hby at_56) (by decide) (by decide) k) ?_
    refine GoW.of (T' := T10) (f' := (mkF m 62 #[.val (.int x0), .val (.int x1), .val (.int (1 : Int32)), .val (.int (Int32.ofNat nn)), .val (.int ((65 : Int32) + (Int32.ofNat nn))), .val (.int ((97 : Int32) + (Int32.ofNat nn))), .val (.int (Int32.ofNat (97 + nn))), .val (.int (1 : Int32)), .unset] [])) (fun t k => XS.istore X10.here hx rfl (hb hby at_60) rfl (l' := #[.val (.int x0), .val (.int x1), .val (.int (1 : Int32)), .val (.int (Int32.ofNat nn)), .val (.int ((65 : Int32) + (Int32.ofNat nn))), .val (.int ((97 : Int32) + (Int32.ofNat nn))), .val (.int (Int32.ofNat (97 + nn))), .val (.int (1 : Int32)), .unset]) rfl k) ?_
    refine GoW.of (T' := T10) (f' := (mkF m 64 #[.val (.int x0), .val (.int x1), .val (.int (1 : Int32)), .val (.int (Int32.ofNat nn)), .val (.int ((65 : Int32) + (Int32.ofNat nn))), .val (.int ((97 : Int32) + (Int32.ofNat nn))), .val (.int (Int32.ofNat (97 + nn))), .val (.int (1 : Int32)), .unset] [(.int ((97 : Int32) + (Int32.ofNat nn)))])) (fun t k => XS.iload X10.here hx rfl (hb hby at_62) rfl k) ?_
    obtain ⟨_, _, ⟨T11, L11, k11, n11⟩, -, X11, ⟨Lc11, hQ11, l11, y11, z11⟩, st11⟩ := Jvm.LawKit.callS X10 hx (y := (⟨"com/example/albero/albero/Tokenizer", "toAsciiLowerCase", "(I)C"⟩ : MethodName)) hown (mvT hZ (hw _ (List.mem_of_getElem? (i := 0) rfl))) (mvT hZ (hw _ (List.mem_of_getElem? (i := 1) rfl))) (mvT hZ (hw _ (List.mem_of_getElem? (i := 2) rfl))) (mvT hZ (hw _ (List.mem_of_getElem? (i := 3) rfl))) (by decide) (backOf (W := 0) (rm1 l Z a0 hw [] ((97 : Int32) + (Int32.ofNat nn)) T8.heap n0 ZS8 ) hZ (hw _ (List.mem_of_getElem? (i := 3) rfl)) (hw _ (List.mem_of_getElem? (i := 2) rfl)) (by decide) (by decide)) (g := (mkF m 64 #[.val (.int x0), .val (.int x1), .val (.int (1 : Int32)), .val (.int (Int32.ofNat nn)), .val (.int ((65 : Int32) + (Int32.ofNat nn))), .val (.int ((97 : Int32) + (Int32.ofNat nn))), .val (.int (Int32.ofNat (97 + nn))), .val (.int (1 : Int32)), .unset] [(.int ((97 : Int32) + (Int32.ofNat nn)))])) rfl (by rw [hml]; rfl) (argsL := [(.int ((97 : Int32) + (Int32.ofNat nn)))]) (rest := []) (lenOf pd_4 rfl) rfl (by show 2 * 0 + _ ≤ _; exact Nat.le_of_eq rfl) (hb hby at_64) (fun _ _ => ⟨rfl, e10, (by decide : 2 + 0 ≤ _), (by decide : 108 + 0 ≤ _)⟩)
    dsimp only [Pt.U, Pt.locs, Pt.cells, Pt.slots] at X11 l11 y11 z11 st11 hQ11
    subst l11 y11 z11
    obtain ⟨rfl, N11q, e11⟩ := hQ11
    have N11 := Fr.app N10 N11q
    refine GoW.of (T' := T11) (f' := (mkF m 67 #[.val (.int x0), .val (.int x1), .val (.int (1 : Int32)), .val (.int (Int32.ofNat nn)), .val (.int ((65 : Int32) + (Int32.ofNat nn))), .val (.int ((97 : Int32) + (Int32.ofNat nn))), .val (.int (Int32.ofNat (97 + nn))), .val (.int (1 : Int32)), .unset] [(.int (lowV ((97 : Int32) + (Int32.ofNat nn))))])) (fun t k => st11 t k) ?_
    refine GoW.of (T' := T11) (f' := (mkF m 69 #[.val (.int x0), .val (.int x1), .val (.int (1 : Int32)), .val (.int (Int32.ofNat nn)), .val (.int ((65 : Int32) + (Int32.ofNat nn))), .val (.int ((97 : Int32) + (Int32.ofNat nn))), .val (.int (Int32.ofNat (97 + nn))), .val (.int (1 : Int32)), .unset] [(.int (Int32.ofNat (97 + nn))), (.int (lowV ((97 : Int32) + (Int32.ofNat nn))))])) (fun t k => XS.iload X11.here hx rfl (hb hby at_67) rfl k) ?_
    have hc69 : (lowV ((97 : Int32) + (Int32.ofNat nn))) = (Int32.ofNat (97 + nn)) := o7
    refine GoW.of (T' := T11) (f' := (mkF m 72 #[.val (.int x0), .val (.int x1), .val (.int (1 : Int32)), .val (.int (Int32.ofNat nn)), .val (.int ((65 : Int32) + (Int32.ofNat nn))), .val (.int ((97 : Int32) + (Int32.ofNat nn))), .val (.int (Int32.ofNat (97 + nn))), .val (.int (1 : Int32)), .unset] [])) (fun t k => XS.icmpNo X11.here hx rfl (hb hby at_69) rfl ((teq hc69).2) k) ?_
    refine GoW.of (T' := T11) (f' := (mkF m 73 #[.val (.int x0), .val (.int x1), .val (.int (1 : Int32)), .val (.int (Int32.ofNat nn)), .val (.int ((65 : Int32) + (Int32.ofNat nn))), .val (.int ((97 : Int32) + (Int32.ofNat nn))), .val (.int (Int32.ofNat (97 + nn))), .val (.int (1 : Int32)), .unset] [(.int (1 : Int32))])) (fun t k => XS.iconst X11.here hx rfl (hb hby at_72) k) ?_
    refine GoW.of (T' := T11) (f' := (mkF m 77 #[.val (.int x0), .val (.int x1), .val (.int (1 : Int32)), .val (.int (Int32.ofNat nn)), .val (.int ((65 : Int32) + (Int32.ofNat nn))), .val (.int ((97 : Int32) + (Int32.ofNat nn))), .val (.int (Int32.ofNat (97 + nn))), .val (.int (1 : Int32)), .unset] [(.int (1 : Int32))])) (fun t k => XS.goto X11.here hx rfl (pc0 := 73) (pc' := 77) rfl (hb hby at_73) (by decide) (by decide) k) ?_
    refine GoW.of (T' := T11) (f' := (mkF m 79 #[.val (.int x0), .val (.int x1), .val (.int (1 : Int32)), .val (.int (Int32.ofNat nn)), .val (.int ((65 : Int32) + (Int32.ofNat nn))), .val (.int ((97 : Int32) + (Int32.ofNat nn))), .val (.int (Int32.ofNat (97 + nn))), .val (.int (1 : Int32)), .val (.int (1 : Int32))] [])) (fun t k => XS.istore X11.here hx rfl (hb hby at_77) rfl (l' := #[.val (.int x0), .val (.int x1), .val (.int (1 : Int32)), .val (.int (Int32.ofNat nn)), .val (.int ((65 : Int32) + (Int32.ofNat nn))), .val (.int ((97 : Int32) + (Int32.ofNat nn))), .val (.int (Int32.ofNat (97 + nn))), .val (.int (1 : Int32)), .val (.int (1 : Int32))]) rfl k) ?_
    refine GoW.of (T' := T11) (f' := (mkF m 80 #[.val (.int x0), .val (.int x1), .val (.int (1 : Int32)), .val (.int (Int32.ofNat nn)), .val (.int ((65 : Int32) + (Int32.ofNat nn))), .val (.int ((97 : Int32) + (Int32.ofNat nn))), .val (.int (Int32.ofNat (97 + nn))), .val (.int (1 : Int32)), .val (.int (1 : Int32))] [(.int (1 : Int32))])) (fun t k => XS.iloadN X11.here hx rfl (hb hby at_79) rfl k) ?_
    have hc80 : ¬ ((1 : Int32) = (0 : Int32)) := by decide
    refine GoW.of (T' := T11) (f' := (mkF m 83 #[.val (.int x0), .val (.int x1), .val (.int (1 : Int32)), .val (.int (Int32.ofNat nn)), .val (.int ((65 : Int32) + (Int32.ofNat nn))), .val (.int ((97 : Int32) + (Int32.ofNat nn))), .val (.int (Int32.ofNat (97 + nn))), .val (.int (1 : Int32)), .val (.int (1 : Int32))] [])) (fun t k => XS.ifNo X11.here hx rfl (hb hby at_80) rfl ((if0 _ _).trans (feq hc80).1) k) ?_
    refine GoW.of (T' := T11) (f' := (mkF m 85 #[.val (.int x0), .val (.int x1), .val (.int (1 : Int32)), .val (.int (Int32.ofNat nn)), .val (.int ((65 : Int32) + (Int32.ofNat nn))), .val (.int ((97 : Int32) + (Int32.ofNat nn))), .val (.int (Int32.ofNat (97 + nn))), .val (.int (1 : Int32)), .val (.int (1 : Int32))] [(.int (1 : Int32))])) (fun t k => XS.iload X11.here hx rfl (hb hby at_83) rfl k) ?_
    have hc85 : ¬ ((1 : Int32) = (0 : Int32)) := by decide
    refine GoW.of (T' := T11) (f' := (mkF m 88 #[.val (.int x0), .val (.int x1), .val (.int (1 : Int32)), .val (.int (Int32.ofNat nn)), .val (.int ((65 : Int32) + (Int32.ofNat nn))), .val (.int ((97 : Int32) + (Int32.ofNat nn))), .val (.int (Int32.ofNat (97 + nn))), .val (.int (1 : Int32)), .val (.int (1 : Int32))] [])) (fun t k => XS.ifNo X11.here hx rfl (hb hby at_85) rfl ((if0 _ _).trans (feq hc85).1) k) ?_
    refine GoW.of (T' := T11) (f' := (mkF m 90 #[.val (.int x0), .val (.int x1), .val (.int (1 : Int32)), .val (.int (Int32.ofNat nn)), .val (.int ((65 : Int32) + (Int32.ofNat nn))), .val (.int ((97 : Int32) + (Int32.ofNat nn))), .val (.int (Int32.ofNat (97 + nn))), .val (.int (1 : Int32)), .val (.int (1 : Int32))] [(.int (1 : Int32))])) (fun t k => XS.iload X11.here hx rfl (hb hby at_88) rfl k) ?_
    have hc90 : ¬ ((1 : Int32) = (0 : Int32)) := by decide
    refine GoW.of (T' := T11) (f' := (mkF m 93 #[.val (.int x0), .val (.int x1), .val (.int (1 : Int32)), .val (.int (Int32.ofNat nn)), .val (.int ((65 : Int32) + (Int32.ofNat nn))), .val (.int ((97 : Int32) + (Int32.ofNat nn))), .val (.int (Int32.ofNat (97 + nn))), .val (.int (1 : Int32)), .val (.int (1 : Int32))] [])) (fun t k => XS.ifNo X11.here hx rfl (hb hby at_90) rfl ((if0 _ _).trans (feq hc90).1) k) ?_
    refine GoW.of (T' := T11) (f' := (mkF m 94 #[.val (.int x0), .val (.int x1), .val (.int (1 : Int32)), .val (.int (Int32.ofNat nn)), .val (.int ((65 : Int32) + (Int32.ofNat nn))), .val (.int ((97 : Int32) + (Int32.ofNat nn))), .val (.int (Int32.ofNat (97 + nn))), .val (.int (1 : Int32)), .val (.int (1 : Int32))] [(.int (1 : Int32))])) (fun t k => XS.iconst X11.here hx rfl (hb hby at_93) k) ?_
    refine GoW.of (T' := T11) (f' := (mkF m 98 #[.val (.int x0), .val (.int x1), .val (.int (1 : Int32)), .val (.int (Int32.ofNat nn)), .val (.int ((65 : Int32) + (Int32.ofNat nn))), .val (.int ((97 : Int32) + (Int32.ofNat nn))), .val (.int (Int32.ofNat (97 + nn))), .val (.int (1 : Int32)), .val (.int (1 : Int32))] [(.int (1 : Int32))])) (fun t k => XS.goto X11.here hx rfl (pc0 := 94) (pc' := 98) rfl (hb hby at_94) (by decide) (by decide) k) ?_
    refine GoW.retZ X11 S8 (by rw [e11]; exact (Nat.le_refl _)) hx hk (t := .boolean) Bd.returns (by simp) (hb hby at_98) (by decide) (by decide) ?_
    intro U eU vU
    exact ⟨rfl, N11⟩
set_option maxRecDepth 65536 in
set_option maxHeartbeats 40000000 in
theorem comes_1 {Post : Tables → Env → Array Value → State → Outcome → State → Prop} (hpost : ∀ tb e args s v u, (limb_1_1.after args s (.returned v) u = true ∧ limb_1_2.after args s (.returned v) u = true ∧ True) → ReturnedEndW s (.returned v) u (Jvm.fieldLocs frame_1_writes args s ++ Jvm.arrayLocs frame_1_arrays args s ++ Jvm.staticLocs frame_1_statics s) 8 1088 → Post tb e args s (.returned v) u) :
    ArmFor flags0 classFile x code maxLocals ret World_1 tables_1 room_1 Calls_1 rest_1 Pre_1 Post := by
  intro l hfl _ _ p e ha hc hk s m args below hf hA hF happ hP
  obtain ⟨hcalls, hrest, hpre⟩ := hP
  obtain ⟨-, -, -, hnamed, -, -, -, hat⟩ := (Spec.applies_iff hf).mp happ
  obtain ⟨hg, hn⟩ := and_e (Cond.before_iff.mp (show (Jvm.Cond.and given_1 narrow_1).before args s = true from hpre))
  obtain ⟨g0, gr0⟩ := and_e hg
  obtain ⟨ga0, gr1⟩ := and_e gr0
  have ga1 := gr1
  obtain ⟨w0, w1, rfl⟩ : ∃ w0 w1 : Value, args = #[w0, w1] := by
    have hs : args.size = 2 := by simpa [Cond.value, given_1] using g0
    obtain ⟨L⟩ := args
    match L, hs with
    | [w0, w1], _ => exact ⟨w0, w1, rfl⟩
  have hw := fun d (hd : d ∈ tables_1) => atoms_spec (ws := Jvm.Cond.code x code maxLocals ret :: tables_1) hat d (List.mem_cons_of_mem _ hd)
  obtain ⟨i0, ei0⟩ := is_v ga0
  obtain rfl : w0 = (.int i0) := Option.some.inj ei0
  obtain ⟨i1, ei1⟩ := is_v ga1
  obtain rfl : w1 = (.int i1) := Option.some.inj ei1
  have hsets := (atoms_of jdkStatics_1 (show (jdkStatics_1.foldr Jvm.Cond.and restOwn_1).before #[.int i0, .int i1] s = true from hrest)).1
  obtain ⟨wcs, ecs⟩ := is_v (Cond.before_iff.mp (hsets _ (List.mem_of_getElem? (i := 1) rfl)))
  obtain ⟨vf, evf, rf⟩ := isR_v (Cond.before_iff.mp (hsets _ (List.mem_of_getElem? (i := 8) rfl)))
  have hcw : Jvm.Lit.compactW.before #[.int i0, .int i1] s = true := hsets _ (List.mem_of_getElem? (i := 2) rfl)
  have hcs : ¬ (wcs = (0 : Int32)) := fun q => by
    have z := not_v (Cond.before_iff.mp (hsets _ (List.mem_of_getElem? (i := 2) rfl)))
    have z2 := eq_i ecs (Term.int_eval (0)) (by rw [q])
    rw [z2] at z; cases z
  have S_cs := Sta.start ecs (Or.inl (hsets _ (List.mem_of_getElem? (i := 0) rfl)))
  have S_sf := Sta.start evf (Or.inl (hsets _ (List.mem_of_getElem? (i := 7) rfl)))
  have hheld : Jvm.Lit.constHeld s "com/example/albero/albero/TokenizerToAsciiLowerCasePinLaw" 7 := hcalls.1 _ (List.mem_singleton.mpr rfl)
  obtain ⟨n, o, h1, h2, h3, _, L, rfl, ⟨rfl, N⟩, hq⟩ := rm0 l s _ hw tables_1 i0 i1 wcs vf s.heap s.heap.size (Nat.le_refl _) S_cs hcs S_sf rf hheld hcw rfl rfl p e ha hc hk s m _ below hf ((Spec.applies_iff_loose hf).mp happ).1 ⟨rfl, State.WarmedH.refl s, rfl⟩ trivial
  refine ⟨n, _, h1, h2, h3, hpost _ _ _ _ _ _ ⟨Cond.after_iff.mpr rfl, Cond.after_iff.mpr (eq_i res_at (Term.int_eval (1)) rfl), trivial⟩ ⟨hq.1, hq.2.1, hq.2.2.1, (hq.2.2.2.sift fun y hy => Or.inr (N y hy)).mono (by decide) (by decide)⟩⟩
theorem main_1_1 : Claimed_1_1 := comes_1 fun _ _ _ _ _ _ h hF => ⟨h.1, hF⟩
theorem main_1_2 : Claimed_1_2 := comes_1 fun _ _ _ _ _ _ h hF => ⟨h.2.1, hF⟩
end Jvm.Pilot.@@N@@
namespace Jvm.Pilot.@@N@@
open Jvm Jvm.ClassFile Sem Op Lib Jvm.Free Jvm.Stand Jvm.Pilot.@@N@@.Jvm.D
/-! MADE BY PROGRAM (witnessworld.py) out of the Statement's table words and the real class files: 17 classes; the members and pool entries that the words name. The judged class is class 1, her method 2. -/
namespace start1
open Jvm.ClassFile
def u (s : String) : CpInfo := .utf8 (stringToUtf16 s)
/-- a pool by its gaps: so many unusable entries, then the entry; so many at the end -/
def gap : Nat → List CpInfo → List CpInfo
  | 0, r => r
  | n + 1, r => .unusable :: gap n r
def poolList (es : List (Nat × CpInfo)) (last : Nat) : List CpInfo := es.foldr (fun e r => gap e.1 (e.2 :: r)) (gap last [])
def pool (es : List (Nat × CpInfo)) (last : Nat) : Array CpInfo := ⟨poolList es last⟩
def fileOf (pool : Array CpInfo) (this : Nat) (attrs : Array Attribute := #[]) (ms : Array MethodInfo := #[]) (fl : Nat := 33) (sup : Nat := 0) (ifs : Array Nat := #[]) (fds : Array FieldInfo := #[]) : ClassFile where
  minorVersion := 0
  majorVersion := 65
  constantPool := pool
  accessFlags := fl
  thisClass := this
  superClass := sup
  interfaces := ifs
  fields := fds
  methods := ms
  attributes := attrs
def plain (name : String) (sup : Option ClassId) : Class where
  name := name
  kind := .ordinary
  loader := none
  accessFlags := 33
  super := sup
  interfaces := #[]
  cf := none
  fields := #[]
  methods := #[]
  instanceTypes := #[]
  staticTypes := #[]
  resolved := #[]
  callSites := []
  init := .initialized
  statics := none
  mirror := none

def pool0 : Array CpInfo := pool [(5, u "<init>"), (0, u "()V"), (1, .class_ 10), (1, u "java/lang/Object")] 113

def k0m0 : Method := { name := "<init>", desc := "()V", sig := { parameters := [], returnType := none }, accessFlags := 1, code := none }
/-- java/lang/Object -/
def k0 : Class := { plain "java/lang/Object" none with
  accessFlags := 33
  interfaces := #[]
  cf := some (fileOf pool0 8 #[] #[{ accessFlags := 1, nameIndex := 5, descriptorIndex := 6, attributes := #[] }] 33 0 #[] #[])
  fields := #[]
  methods := #[k0m0]
  instanceTypes := #[]
  staticTypes := #[]
  resolved := Array.replicate 124 none
  statics := none }

def pool1 : Array CpInfo := pool [(2, .class_ 4), (1, u "java/lang/Object"), (0, u "<init>"), (0, u "()V"), (0, .string 8), (0, u "abcdefghijklmnopqrstuvwxyz"), (0, .methodref 10 11), (0, .class_ 12), (0, .nameAndType 13 14), (0, u "java/lang/String"), (0, u "charAt"), (0, u "(I)C"), (0, .methodref 16 17), (0, .class_ 18), (0, .nameAndType 19 14), (0, u "com/example/albero/albero/Tokenizer"), (0, u "toAsciiLowerCase"), (0, .methodref 21 22), (0, .class_ 23), (0, .nameAndType 24 14), (0, u "com/example/albero/albero/TokenizerToAsciiLowerCasePinLaw"), (0, u "expected"), (0, .integer 2147483647), (3, u "law"), (0, u "(II)Z")] 2

def k1m0 : Method := { name := "<init>", desc := "()V", sig := { parameters := [], returnType := none }, accessFlags := 1, code := none }
def k1c1 : Code := { maxStack := 3, maxLocals := 1, code := method_2_code, exceptionTable := #[], attributes := #[] }
def k1m1 : Method := { name := "expected", desc := "(I)C", sig := { parameters := [.int], returnType := some .char }, accessFlags := 10, code := some k1c1 }
def k1c2 : Code := { maxStack := 2, maxLocals := 9, code := code, exceptionTable := #[], attributes := #[] }
def k1m2 : Method := { name := "law", desc := "(II)Z", sig := { parameters := [.int, .int], returnType := some .boolean }, accessFlags := 9, code := some k1c2 }
/-- com/example/albero/albero/TokenizerToAsciiLowerCasePinLaw -/
def k1 : Class := { plain "com/example/albero/albero/TokenizerToAsciiLowerCasePinLaw" (some 0) with
  accessFlags := 49
  interfaces := #[]
  cf := some (fileOf pool1 21 #[] #[{ accessFlags := 1, nameIndex := 5, descriptorIndex := 6, attributes := #[] }, { accessFlags := 10, nameIndex := 24, descriptorIndex := 14, attributes := #[] }, { accessFlags := 9, nameIndex := 29, descriptorIndex := 30, attributes := #[] }] 49 2 #[] #[])
  fields := #[]
  methods := #[k1m0, k1m1, k1m2]
  instanceTypes := #[]
  staticTypes := #[]
  resolved := Array.replicate 33 none
  statics := none }

def pool2 : Array CpInfo := pool [(2, .class_ 4), (1, u "java/lang/Object"), (3, .class_ 10), (1, u "com/example/albero/albero/Tokenizer"), (0, u "nextStopIndex"), (0, u "[I"), (5, u "temporaryBuffer"), (0, u "Ljava/lang/StringBuilder;"), (5, u "names"), (0, u "Lcom/example/albero/albero/NameTable;"), (5, u "attributes"), (0, u "Ljava/util/List;"), (2, u "commentData"), (2, u "doctypeName"), (2, u "doctypePublicId"), (2, u "doctypeSystemId"), (18, u "input"), (0, u "Ljava/lang/String;"), (2, u "length"), (3, u "I"), (7, u "characters"), (0, u "Lcom/example/albero/albero/TextBuffer;"), (2, u "tagName"), (2, u "attributeName"), (2, u "attributeValue"), (2, .class_ 94), (0, u "com/example/albero/albero/Tokenizer$InitialState"), (6, u "state"), (0, u "Lcom/example/albero/albero/Tokenizer$State;"), (2, u "lastStartTagName"), (1, u "sink"), (4, u "Ljava/util/function/Consumer;"), (1, u "inForeignContent"), (4, u "Ljava/util/function/BooleanSupplier;"), (23, u "finished"), (0, u "Z"), (12, .class_ 159), (1, u "com/example/albero/albero/Tokenizer$State"), (266, u "position"), (12, u "(I)C"), (65, u "toAsciiLowerCase"), (82, u "selfClosing"), (75, u "forceQuirks"), (5, u "doctypeNameMissing"), (37, u "doctypeSystemIdMissing"), (8, u "doctypePublicIdMissing"), (25, u "returnState"), (38, u "characterReferenceCode"), (42, u "endTag"), (8, u "attributeNames"), (0, u "Ljava/util/Set;"), (2, u "attributePending"), (9, u "finishedAttributeName"), (5, u "attributeDuplicate"), (78, u "EOF"), (2, u "REPLACEMENT_CHARACTER"), (0, u "C"), (0, u "LINEAR_NAME_SEARCH_LIMIT"), (1, u "PAST_LAST_CODE_POINT"), (0, u "TEXT_STOPS")] 60

def k2c0 : Code := { maxStack := 2, maxLocals := 2, code := prog_49_method_86_code, exceptionTable := #[], attributes := #[] }
def k2m0 : Method := { name := "toAsciiLowerCase", desc := "(I)C", sig := { parameters := [.int], returnType := some .char }, accessFlags := 8, code := some k2c0 }
/-- com/example/albero/albero/Tokenizer -/
def k2 : Class := { plain "com/example/albero/albero/Tokenizer" (some 0) with
  accessFlags := 49
  interfaces := #[]
  cf := some (fileOf pool2 8 #[.nestMembers #[157, 93]] #[{ accessFlags := 8, nameIndex := 505, descriptorIndex := 439, attributes := #[] }] 49 2 #[] #[{ accessFlags := 26, nameIndex := 933, descriptorIndex := 72, attributes := #[] }, { accessFlags := 24, nameIndex := 936, descriptorIndex := 937, attributes := #[] }, { accessFlags := 26, nameIndex := 938, descriptorIndex := 72, attributes := #[] }, { accessFlags := 26, nameIndex := 940, descriptorIndex := 72, attributes := #[] }, { accessFlags := 26, nameIndex := 941, descriptorIndex := 65, attributes := #[] }, { accessFlags := 18, nameIndex := 64, descriptorIndex := 65, attributes := #[] }, { accessFlags := 18, nameIndex := 68, descriptorIndex := 72, attributes := #[] }, { accessFlags := 18, nameIndex := 107, descriptorIndex := 112, attributes := #[] }, { accessFlags := 18, nameIndex := 114, descriptorIndex := 119, attributes := #[] }, { accessFlags := 2, nameIndex := 426, descriptorIndex := 72, attributes := #[] }, { accessFlags := 2, nameIndex := 101, descriptorIndex := 102, attributes := #[] }, { accessFlags := 2, nameIndex := 143, descriptorIndex := 144, attributes := #[] }, { accessFlags := 18, nameIndex := 11, descriptorIndex := 12, attributes := #[] }, { accessFlags := 18, nameIndex := 80, descriptorIndex := 81, attributes := #[] }, { accessFlags := 18, nameIndex := 18, descriptorIndex := 19, attributes := #[] }, { accessFlags := 2, nameIndex := 743, descriptorIndex := 102, attributes := #[] }, { accessFlags := 2, nameIndex := 782, descriptorIndex := 72, attributes := #[] }, { accessFlags := 18, nameIndex := 25, descriptorIndex := 26, attributes := #[] }, { accessFlags := 2, nameIndex := 105, descriptorIndex := 65, attributes := #[] }, { accessFlags := 2, nameIndex := 825, descriptorIndex := 144, attributes := #[] }, { accessFlags := 18, nameIndex := 84, descriptorIndex := 81, attributes := #[] }, { accessFlags := 18, nameIndex := 32, descriptorIndex := 33, attributes := #[] }, { accessFlags := 2, nameIndex := 834, descriptorIndex := 835, attributes := #[] }, { accessFlags := 2, nameIndex := 588, descriptorIndex := 144, attributes := #[] }, { accessFlags := 2, nameIndex := 838, descriptorIndex := 144, attributes := #[] }, { accessFlags := 18, nameIndex := 87, descriptorIndex := 81, attributes := #[] }, { accessFlags := 2, nameIndex := 848, descriptorIndex := 65, attributes := #[] }, { accessFlags := 2, nameIndex := 854, descriptorIndex := 144, attributes := #[] }, { accessFlags := 18, nameIndex := 90, descriptorIndex := 81, attributes := #[] }, { accessFlags := 18, nameIndex := 36, descriptorIndex := 19, attributes := #[] }, { accessFlags := 18, nameIndex := 39, descriptorIndex := 19, attributes := #[] }, { accessFlags := 2, nameIndex := 670, descriptorIndex := 144, attributes := #[] }, { accessFlags := 18, nameIndex := 42, descriptorIndex := 19, attributes := #[] }, { accessFlags := 2, nameIndex := 717, descriptorIndex := 144, attributes := #[] }, { accessFlags := 18, nameIndex := 45, descriptorIndex := 19, attributes := #[] }, { accessFlags := 2, nameIndex := 708, descriptorIndex := 144, attributes := #[] }, { accessFlags := 2, nameIndex := 664, descriptorIndex := 144, attributes := #[] }])
  fields := #[{ name := "EOF", type := .int, accessFlags := 26, slot := 0, constantValue := 0 }, { name := "REPLACEMENT_CHARACTER", type := .char, accessFlags := 24, slot := 1, constantValue := 0 }, { name := "LINEAR_NAME_SEARCH_LIMIT", type := .int, accessFlags := 26, slot := 2, constantValue := 0 }, { name := "PAST_LAST_CODE_POINT", type := .int, accessFlags := 26, slot := 3, constantValue := 0 }, { name := "TEXT_STOPS", type := (.object "java/lang/String"), accessFlags := 26, slot := 4, constantValue := 0 }, { name := "input", type := (.object "java/lang/String"), accessFlags := 18, slot := 0, constantValue := 0 }, { name := "length", type := .int, accessFlags := 18, slot := 1, constantValue := 0 }, { name := "sink", type := (.object "java/util/function/Consumer"), accessFlags := 18, slot := 2, constantValue := 0 }, { name := "inForeignContent", type := (.object "java/util/function/BooleanSupplier"), accessFlags := 18, slot := 3, constantValue := 0 }, { name := "position", type := .int, accessFlags := 2, slot := 4, constantValue := 0 }, { name := "state", type := (.object "com/example/albero/albero/Tokenizer$State"), accessFlags := 2, slot := 5, constantValue := 0 }, { name := "finished", type := .boolean, accessFlags := 2, slot := 6, constantValue := 0 }, { name := "nextStopIndex", type := (.array .int), accessFlags := 18, slot := 7, constantValue := 0 }, { name := "characters", type := (.object "com/example/albero/albero/TextBuffer"), accessFlags := 18, slot := 8, constantValue := 0 }, { name := "temporaryBuffer", type := (.object "java/lang/StringBuilder"), accessFlags := 18, slot := 9, constantValue := 0 }, { name := "returnState", type := (.object "com/example/albero/albero/Tokenizer$State"), accessFlags := 2, slot := 10, constantValue := 0 }, { name := "characterReferenceCode", type := .int, accessFlags := 2, slot := 11, constantValue := 0 }, { name := "names", type := (.object "com/example/albero/albero/NameTable"), accessFlags := 18, slot := 12, constantValue := 0 }, { name := "lastStartTagName", type := (.object "java/lang/String"), accessFlags := 2, slot := 13, constantValue := 0 }, { name := "endTag", type := .boolean, accessFlags := 2, slot := 14, constantValue := 0 }, { name := "tagName", type := (.object "com/example/albero/albero/TextBuffer"), accessFlags := 18, slot := 15, constantValue := 0 }, { name := "attributes", type := (.object "java/util/List"), accessFlags := 18, slot := 16, constantValue := 0 }, { name := "attributeNames", type := (.object "java/util/Set"), accessFlags := 2, slot := 17, constantValue := 0 }, { name := "selfClosing", type := .boolean, accessFlags := 2, slot := 18, constantValue := 0 }, { name := "attributePending", type := .boolean, accessFlags := 2, slot := 19, constantValue := 0 }, { name := "attributeName", type := (.object "com/example/albero/albero/TextBuffer"), accessFlags := 18, slot := 20, constantValue := 0 }, { name := "finishedAttributeName", type := (.object "java/lang/String"), accessFlags := 2, slot := 21, constantValue := 0 }, { name := "attributeDuplicate", type := .boolean, accessFlags := 2, slot := 22, constantValue := 0 }, { name := "attributeValue", type := (.object "com/example/albero/albero/TextBuffer"), accessFlags := 18, slot := 23, constantValue := 0 }, { name := "commentData", type := (.object "java/lang/StringBuilder"), accessFlags := 18, slot := 24, constantValue := 0 }, { name := "doctypeName", type := (.object "java/lang/StringBuilder"), accessFlags := 18, slot := 25, constantValue := 0 }, { name := "doctypeNameMissing", type := .boolean, accessFlags := 2, slot := 26, constantValue := 0 }, { name := "doctypePublicId", type := (.object "java/lang/StringBuilder"), accessFlags := 18, slot := 27, constantValue := 0 }, { name := "doctypePublicIdMissing", type := .boolean, accessFlags := 2, slot := 28, constantValue := 0 }, { name := "doctypeSystemId", type := (.object "java/lang/StringBuilder"), accessFlags := 18, slot := 29, constantValue := 0 }, { name := "doctypeSystemIdMissing", type := .boolean, accessFlags := 2, slot := 30, constantValue := 0 }, { name := "forceQuirks", type := .boolean, accessFlags := 2, slot := 31, constantValue := 0 }]
  methods := #[k2m0]
  instanceTypes := #[(.object "java/lang/String"), .int, (.object "java/util/function/Consumer"), (.object "java/util/function/BooleanSupplier"), .int, (.object "com/example/albero/albero/Tokenizer$State"), .boolean, (.array .int), (.object "com/example/albero/albero/TextBuffer"), (.object "java/lang/StringBuilder"), (.object "com/example/albero/albero/Tokenizer$State"), .int, (.object "com/example/albero/albero/NameTable"), (.object "java/lang/String"), .boolean, (.object "com/example/albero/albero/TextBuffer"), (.object "java/util/List"), (.object "java/util/Set"), .boolean, .boolean, (.object "com/example/albero/albero/TextBuffer"), (.object "java/lang/String"), .boolean, (.object "com/example/albero/albero/TextBuffer"), (.object "java/lang/StringBuilder"), (.object "java/lang/StringBuilder"), .boolean, (.object "java/lang/StringBuilder"), .boolean, (.object "java/lang/StringBuilder"), .boolean, .boolean]
  staticTypes := #[.int, .char, .int, .int, (.object "java/lang/String")]
  resolved := Array.replicate 1002 none
  statics := none }

def pool3 : Array CpInfo := pool [(1, .class_ 2), (0, u "java/io/Serializable"), (0, .class_ 4), (0, u "java/lang/Object")] 2

/-- java/io/Serializable -/
def k3 : Class := { plain "java/io/Serializable" (some 0) with
  accessFlags := 1537
  interfaces := #[]
  cf := some (fileOf pool3 1 #[] #[] 1537 3 #[] #[])
  fields := #[]
  methods := #[]
  instanceTypes := #[]
  staticTypes := #[]
  resolved := Array.replicate 7 none
  statics := none }

def pool4 : Array CpInfo := pool [(1, .class_ 2), (0, u "java/lang/Comparable"), (0, .class_ 4), (0, u "java/lang/Object")] 7

/-- java/lang/Comparable -/
def k4 : Class := { plain "java/lang/Comparable" (some 0) with
  accessFlags := 1537
  interfaces := #[]
  cf := some (fileOf pool4 1 #[] #[] 1537 3 #[] #[])
  fields := #[]
  methods := #[]
  instanceTypes := #[]
  staticTypes := #[]
  resolved := Array.replicate 12 none
  statics := none }

def pool5 : Array CpInfo := pool [(2, .class_ 4), (1, u "java/lang/CharSequence"), (42, .class_ 48), (0, u "java/lang/CharSequence$1CodePointIterator"), (10, .class_ 60), (0, u "java/lang/CharSequence$1CharIterator"), (5, .class_ 67), (0, u "java/lang/Object")] 63

/-- java/lang/CharSequence -/
def k5 : Class := { plain "java/lang/CharSequence" (some 0) with
  accessFlags := 1537
  interfaces := #[]
  cf := some (fileOf pool5 2 #[.nestMembers #[47, 59]] #[] 1537 66 #[] #[])
  fields := #[]
  methods := #[]
  instanceTypes := #[]
  staticTypes := #[]
  resolved := Array.replicate 131 none
  statics := none }

def pool6 : Array CpInfo := pool [(1, .class_ 2), (0, u "java/lang/constant/Constable"), (0, .class_ 4), (0, u "java/lang/Object")] 6

/-- java/lang/constant/Constable -/
def k6 : Class := { plain "java/lang/constant/Constable" (some 0) with
  accessFlags := 1537
  interfaces := #[]
  cf := some (fileOf pool6 1 #[] #[] 1537 3 #[] #[])
  fields := #[]
  methods := #[]
  instanceTypes := #[]
  staticTypes := #[]
  resolved := Array.replicate 11 none
  statics := none }

def pool7 : Array CpInfo := pool [(1, .class_ 2), (0, u "java/lang/constant/ConstantDesc"), (0, .class_ 4), (0, u "java/lang/Object")] 32

/-- java/lang/constant/ConstantDesc -/
def k7 : Class := { plain "java/lang/constant/ConstantDesc" (some 0) with
  accessFlags := 1537
  interfaces := #[]
  cf := some (fileOf pool7 1 #[] #[] 1537 3 #[] #[])
  fields := #[]
  methods := #[]
  instanceTypes := #[]
  staticTypes := #[]
  resolved := Array.replicate 37 none
  statics := none }

def pool8 : Array CpInfo := pool [(2, .class_ 4), (1, u "java/lang/Object"), (0, u "<init>"), (0, u "()V"), (2, .fieldref 10 11), (0, .class_ 12), (0, .nameAndType 13 14), (0, u "java/lang/String"), (0, u "value"), (0, u "[B"), (0, .fieldref 10 16), (0, .nameAndType 17 18), (0, u "coder"), (0, u "B"), (2, u "hash"), (0, u "I"), (2, u "hashIsZero"), (0, u "Z"), (11, .fieldref 10 39), (0, .nameAndType 40 26), (0, u "COMPACT_STRINGS"), (66, .class_ 109), (1, u "java/lang/StringLatin1"), (32, u "()Z"), (220, u "([BI)C"), (27, u "(II)V"), (35, u "(I)C"), (64, .methodref 10 493), (0, .nameAndType 494 142), (0, u "isLatin1"), (0, .methodref 107 496), (0, .nameAndType 497 363), (0, u "charAt"), (3, u "checkIndex"), (73, .class_ 576), (0, u "java/lang/CharSequence"), (22, u "CASE_INSENSITIVE_ORDER"), (0, u "Ljava/util/Comparator;"), (452, .fieldref 1054 1055), (0, .class_ 1056), (0, .nameAndType 1057 1058), (0, u "jdk/internal/util/Preconditions"), (0, u "SIOOBE_FORMATTER"), (0, u "Ljava/util/function/BiFunction;"), (0, .methodref 1054 1060), (0, .nameAndType 501 1061), (0, u "(IILjava/util/function/BiFunction;)I"), (39, u "serialPersistentFields"), (0, u "[Ljava/io/ObjectStreamField;"), (0, .class_ 1104), (0, u "java/lang/String$CaseInsensitiveComparator"), (1, .class_ 1107), (0, u "java/io/Serializable"), (0, .class_ 1109), (0, u "java/lang/Comparable"), (0, .class_ 1111), (0, u "java/lang/constant/Constable"), (0, .class_ 1113), (0, u "java/lang/constant/ConstantDesc"), (2, u "serialVersionUID"), (0, u "J"), (3, u "REPL"), (0, u "C"), (2, u "LATIN1"), (1, u "UTF16")] 323

def k8m0 : Method := { name := "<init>", desc := "()V", sig := { parameters := [], returnType := none }, accessFlags := 1, code := none }
def k8c1 : Code := { maxStack := 2, maxLocals := 2, code := jdk_42_method_56_code, exceptionTable := #[], attributes := #[] }
def k8m1 : Method := { name := "charAt", desc := "(I)C", sig := { parameters := [.int], returnType := some .char }, accessFlags := 1, code := some k8c1 }
def k8c2 : Code := { maxStack := 1, maxLocals := 1, code := jdk_42_method_154_code, exceptionTable := #[], attributes := #[] }
def k8m2 : Method := { name := "isLatin1", desc := "()Z", sig := { parameters := [], returnType := some .boolean }, accessFlags := 0, code := some k8c2 }
def k8c3 : Code := { maxStack := 3, maxLocals := 2, code := jdk_42_method_155_code, exceptionTable := #[], attributes := #[] }
def k8m3 : Method := { name := "checkIndex", desc := "(II)V", sig := { parameters := [.int, .int], returnType := none }, accessFlags := 8, code := some k8c3 }
/-- java/lang/String -/
def k8 : Class := { plain "java/lang/String" (some 0) with
  accessFlags := 49
  interfaces := #[3, 4, 5, 6, 7]
  cf := some (fileOf pool8 10 #[.nestMembers #[1103]] #[{ accessFlags := 1, nameIndex := 5, descriptorIndex := 6, attributes := #[] }, { accessFlags := 1, nameIndex := 497, descriptorIndex := 427, attributes := #[] }, { accessFlags := 0, nameIndex := 494, descriptorIndex := 142, attributes := #[] }, { accessFlags := 8, nameIndex := 501, descriptorIndex := 391, attributes := #[] }] 49 2 #[1106, 1108, 575, 1110, 1112] #[{ accessFlags := 18, nameIndex := 13, descriptorIndex := 14, attributes := #[] }, { accessFlags := 18, nameIndex := 17, descriptorIndex := 18, attributes := #[] }, { accessFlags := 2, nameIndex := 21, descriptorIndex := 22, attributes := #[] }, { accessFlags := 2, nameIndex := 25, descriptorIndex := 26, attributes := #[] }, { accessFlags := 26, nameIndex := 1116, descriptorIndex := 1117, attributes := #[] }, { accessFlags := 24, nameIndex := 40, descriptorIndex := 26, attributes := #[] }, { accessFlags := 26, nameIndex := 1101, descriptorIndex := 1102, attributes := #[] }, { accessFlags := 26, nameIndex := 1121, descriptorIndex := 1122, attributes := #[] }, { accessFlags := 25, nameIndex := 599, descriptorIndex := 600, attributes := #[] }, { accessFlags := 24, nameIndex := 1125, descriptorIndex := 18, attributes := #[] }, { accessFlags := 24, nameIndex := 1127, descriptorIndex := 18, attributes := #[] }])
  fields := #[{ name := "value", type := (.array .byte), accessFlags := 18, slot := 0, constantValue := 0 }, { name := "coder", type := .byte, accessFlags := 18, slot := 1, constantValue := 0 }, { name := "hash", type := .int, accessFlags := 2, slot := 2, constantValue := 0 }, { name := "hashIsZero", type := .boolean, accessFlags := 2, slot := 3, constantValue := 0 }, { name := "serialVersionUID", type := .long, accessFlags := 26, slot := 0, constantValue := 0 }, { name := "COMPACT_STRINGS", type := .boolean, accessFlags := 24, slot := 1, constantValue := 0 }, { name := "serialPersistentFields", type := (.array (.object "java/io/ObjectStreamField")), accessFlags := 26, slot := 2, constantValue := 0 }, { name := "REPL", type := .char, accessFlags := 26, slot := 3, constantValue := 0 }, { name := "CASE_INSENSITIVE_ORDER", type := (.object "java/util/Comparator"), accessFlags := 25, slot := 4, constantValue := 0 }, { name := "LATIN1", type := .byte, accessFlags := 24, slot := 5, constantValue := 0 }, { name := "UTF16", type := .byte, accessFlags := 24, slot := 6, constantValue := 0 }]
  methods := #[k8m0, k8m1, k8m2, k8m3]
  instanceTypes := #[(.array .byte), .byte, .int, .boolean]
  staticTypes := #[.long, .boolean, (.array (.object "java/io/ObjectStreamField")), .char, (.object "java/util/Comparator"), .byte, .byte]
  resolved := Array.replicate 1451 none
  statics := some 0 }

def pool9 : Array CpInfo := pool [(1, .class_ 2), (0, u "java/lang/String"), (1, .class_ 6), (1, u "java/lang/Object"), (0, u "<init>"), (0, u "()V"), (0, .methodref 1 10), (0, .nameAndType 11 12), (0, u "checkIndex"), (0, u "(II)V"), (1, .class_ 16), (1, u "java/lang/StringLatin1"), (36, u "([BI)C"), (67, u "$assertionsDisabled"), (0, u "Z"), (98, .class_ 223), (1, u "java/lang/StringLatin1$LinesSpliterator"), (28, u "charAt"), (137, .class_ 391), (0, u "java/lang/StringLatin1$CharsSpliterator")] 3

def k9m0 : Method := { name := "<init>", desc := "()V", sig := { parameters := [], returnType := none }, accessFlags := 0, code := none }
def k9c1 : Code := { maxStack := 2, maxLocals := 2, code := jdk_43_method_2_code, exceptionTable := #[], attributes := #[] }
def k9m1 : Method := { name := "charAt", desc := "([BI)C", sig := { parameters := [(.array .byte), .int], returnType := some .char }, accessFlags := 9, code := some k9c1 }
/-- java/lang/StringLatin1 -/
def k9 : Class := { plain "java/lang/StringLatin1" (some 0) with
  accessFlags := 48
  interfaces := #[]
  cf := some (fileOf pool9 14 #[.nestMembers #[390, 221]] #[{ accessFlags := 0, nameIndex := 7, descriptorIndex := 8, attributes := #[] }, { accessFlags := 9, nameIndex := 252, descriptorIndex := 53, attributes := #[] }] 48 4 #[] #[{ accessFlags := 4120, nameIndex := 121, descriptorIndex := 122, attributes := #[] }])
  fields := #[{ name := "$assertionsDisabled", type := .boolean, accessFlags := 4120, slot := 0, constantValue := 0 }]
  methods := #[k9m0, k9m1]
  instanceTypes := #[]
  staticTypes := #[.boolean]
  resolved := Array.replicate 395 none
  statics := none }

def pool10 : Array CpInfo := pool [(2, .class_ 4), (1, u "java/lang/Object"), (0, u "<init>"), (0, u "()V"), (17, .class_ 26), (1, u "jdk/internal/util/Preconditions"), (6, u "checkIndex"), (21, .class_ 56), (0, u "jdk/internal/util/Preconditions$4"), (57, .class_ 115), (0, u "jdk/internal/util/Preconditions$1"), (7, u "SIOOBE_FORMATTER"), (0, u "Ljava/util/function/BiFunction;"), (0, .class_ 126), (0, u "jdk/internal/util/Preconditions$2"), (3, u "AIOOBE_FORMATTER"), (0, .class_ 132), (0, u "jdk/internal/util/Preconditions$3"), (3, u "IOOBE_FORMATTER"), (41, u "(IILjava/util/function/BiFunction;)I")] 15

def k10m0 : Method := { name := "<init>", desc := "()V", sig := { parameters := [], returnType := none }, accessFlags := 1, code := none }
def k10c1 : Code := { maxStack := 3, maxLocals := 3, code := jdk_41_method_11_code, exceptionTable := #[], attributes := #[] }
def k10m1 : Method := { name := "checkIndex", desc := "(IILjava/util/function/BiFunction;)I", sig := { parameters := [.int, .int, (.object "java/util/function/BiFunction")], returnType := some .int }, accessFlags := 9, code := some k10c1 }
/-- jdk/internal/util/Preconditions -/
def k10 : Class := { plain "jdk/internal/util/Preconditions" (some 0) with
  accessFlags := 33
  interfaces := #[]
  cf := some (fileOf pool10 24 #[.nestMembers #[55, 131, 125, 114]] #[{ accessFlags := 1, nameIndex := 5, descriptorIndex := 6, attributes := #[] }, { accessFlags := 9, nameIndex := 33, descriptorIndex := 178, attributes := #[] }] 33 2 #[] #[{ accessFlags := 25, nameIndex := 123, descriptorIndex := 124, attributes := #[] }, { accessFlags := 25, nameIndex := 130, descriptorIndex := 124, attributes := #[] }, { accessFlags := 25, nameIndex := 136, descriptorIndex := 124, attributes := #[] }])
  fields := #[{ name := "SIOOBE_FORMATTER", type := (.object "java/util/function/BiFunction"), accessFlags := 25, slot := 0, constantValue := 0 }, { name := "AIOOBE_FORMATTER", type := (.object "java/util/function/BiFunction"), accessFlags := 25, slot := 1, constantValue := 0 }, { name := "IOOBE_FORMATTER", type := (.object "java/util/function/BiFunction"), accessFlags := 25, slot := 2, constantValue := 0 }]
  methods := #[k10m0, k10m1]
  instanceTypes := #[]
  staticTypes := #[(.object "java/util/function/BiFunction"), (.object "java/util/function/BiFunction"), (.object "java/util/function/BiFunction")]
  resolved := Array.replicate 194 none
  statics := some 1 }

def pool11 : Array CpInfo := pool [(9, u "<init>"), (6, .class_ 18), (1, u "java/lang/Object"), (0, u "()V"), (1, .class_ 23), (1, u "jdk/internal/util/ArraysSupport"), (0, u "LOG2_ARRAY_LONG_INDEX_SCALE"), (0, u "I"), (2, u "U"), (0, u "Ljdk/internal/misc/Unsafe;"), (8, u "BIG_ENDIAN"), (0, u "Z"), (8, u "LOG2_BYTE_BIT_SIZE"), (4, u "LOG2_ARRAY_INT_INDEX_SCALE"), (54, u "JLA"), (0, u "Ljdk/internal/access/JavaLangAccess;"), (11, u "LOG2_ARRAY_BOOLEAN_INDEX_SCALE"), (9, u "LOG2_ARRAY_BYTE_INDEX_SCALE"), (5, u "LOG2_ARRAY_CHAR_INDEX_SCALE"), (5, u "LOG2_ARRAY_SHORT_INDEX_SCALE"), (18, u "LOG2_ARRAY_FLOAT_INDEX_SCALE"), (24, u "LOG2_ARRAY_DOUBLE_INDEX_SCALE"), (89, u "T_BOOLEAN"), (2, u "T_CHAR"), (1, u "T_FLOAT"), (1, u "T_DOUBLE"), (1, u "T_BYTE"), (1, u "T_SHORT"), (1, u "T_INT"), (1, u "T_LONG"), (1, u "SOFT_MAX_ARRAY_LENGTH")] 83

def k11m0 : Method := { name := "<init>", desc := "()V", sig := { parameters := [], returnType := none }, accessFlags := 2, code := none }
/-- jdk/internal/util/ArraysSupport -/
def k11 : Class := { plain "jdk/internal/util/ArraysSupport" (some 0) with
  accessFlags := 33
  interfaces := #[]
  cf := some (fileOf pool11 21 #[] #[{ accessFlags := 2, nameIndex := 9, descriptorIndex := 19, attributes := #[] }] 33 16 #[] #[{ accessFlags := 24, nameIndex := 28, descriptorIndex := 29, attributes := #[] }, { accessFlags := 26, nameIndex := 38, descriptorIndex := 39, attributes := #[] }, { accessFlags := 25, nameIndex := 121, descriptorIndex := 25, attributes := #[] }, { accessFlags := 25, nameIndex := 131, descriptorIndex := 25, attributes := #[] }, { accessFlags := 25, nameIndex := 137, descriptorIndex := 25, attributes := #[] }, { accessFlags := 25, nameIndex := 143, descriptorIndex := 25, attributes := #[] }, { accessFlags := 25, nameIndex := 53, descriptorIndex := 25, attributes := #[] }, { accessFlags := 25, nameIndex := 24, descriptorIndex := 25, attributes := #[] }, { accessFlags := 25, nameIndex := 162, descriptorIndex := 25, attributes := #[] }, { accessFlags := 25, nameIndex := 187, descriptorIndex := 25, attributes := #[] }, { accessFlags := 26, nameIndex := 48, descriptorIndex := 25, attributes := #[] }, { accessFlags := 25, nameIndex := 277, descriptorIndex := 25, attributes := #[] }, { accessFlags := 25, nameIndex := 280, descriptorIndex := 25, attributes := #[] }, { accessFlags := 25, nameIndex := 282, descriptorIndex := 25, attributes := #[] }, { accessFlags := 25, nameIndex := 284, descriptorIndex := 25, attributes := #[] }, { accessFlags := 25, nameIndex := 286, descriptorIndex := 25, attributes := #[] }, { accessFlags := 25, nameIndex := 288, descriptorIndex := 25, attributes := #[] }, { accessFlags := 25, nameIndex := 290, descriptorIndex := 25, attributes := #[] }, { accessFlags := 25, nameIndex := 292, descriptorIndex := 25, attributes := #[] }, { accessFlags := 26, nameIndex := 108, descriptorIndex := 109, attributes := #[] }, { accessFlags := 25, nameIndex := 294, descriptorIndex := 25, attributes := #[] }])
  fields := #[{ name := "U", type := (.object "jdk/internal/misc/Unsafe"), accessFlags := 24, slot := 0, constantValue := 0 }, { name := "BIG_ENDIAN", type := .boolean, accessFlags := 26, slot := 1, constantValue := 0 }, { name := "LOG2_ARRAY_BOOLEAN_INDEX_SCALE", type := .int, accessFlags := 25, slot := 2, constantValue := 0 }, { name := "LOG2_ARRAY_BYTE_INDEX_SCALE", type := .int, accessFlags := 25, slot := 3, constantValue := 0 }, { name := "LOG2_ARRAY_CHAR_INDEX_SCALE", type := .int, accessFlags := 25, slot := 4, constantValue := 0 }, { name := "LOG2_ARRAY_SHORT_INDEX_SCALE", type := .int, accessFlags := 25, slot := 5, constantValue := 0 }, { name := "LOG2_ARRAY_INT_INDEX_SCALE", type := .int, accessFlags := 25, slot := 6, constantValue := 0 }, { name := "LOG2_ARRAY_LONG_INDEX_SCALE", type := .int, accessFlags := 25, slot := 7, constantValue := 0 }, { name := "LOG2_ARRAY_FLOAT_INDEX_SCALE", type := .int, accessFlags := 25, slot := 8, constantValue := 0 }, { name := "LOG2_ARRAY_DOUBLE_INDEX_SCALE", type := .int, accessFlags := 25, slot := 9, constantValue := 0 }, { name := "LOG2_BYTE_BIT_SIZE", type := .int, accessFlags := 26, slot := 10, constantValue := 0 }, { name := "T_BOOLEAN", type := .int, accessFlags := 25, slot := 11, constantValue := 0 }, { name := "T_CHAR", type := .int, accessFlags := 25, slot := 12, constantValue := 0 }, { name := "T_FLOAT", type := .int, accessFlags := 25, slot := 13, constantValue := 0 }, { name := "T_DOUBLE", type := .int, accessFlags := 25, slot := 14, constantValue := 0 }, { name := "T_BYTE", type := .int, accessFlags := 25, slot := 15, constantValue := 0 }, { name := "T_SHORT", type := .int, accessFlags := 25, slot := 16, constantValue := 0 }, { name := "T_INT", type := .int, accessFlags := 25, slot := 17, constantValue := 0 }, { name := "T_LONG", type := .int, accessFlags := 25, slot := 18, constantValue := 0 }, { name := "JLA", type := (.object "jdk/internal/access/JavaLangAccess"), accessFlags := 26, slot := 19, constantValue := 0 }, { name := "SOFT_MAX_ARRAY_LENGTH", type := .int, accessFlags := 25, slot := 20, constantValue := 0 }]
  methods := #[k11m0]
  instanceTypes := #[]
  staticTypes := #[(.object "jdk/internal/misc/Unsafe"), .boolean, .int, .int, .int, .int, .int, .int, .int, .int, .int, .int, .int, .int, .int, .int, .int, .int, .int, (.object "jdk/internal/access/JavaLangAccess"), .int]
  resolved := Array.replicate 378 none
  statics := none }

def pool12 : Array CpInfo := pool [(1, u "java/lang/Cloneable"), (0, .class_ 1), (0, u "java/lang/Object"), (0, .class_ 3)] 3

/-- java/lang/Cloneable -/
def k12 : Class := { plain "java/lang/Cloneable" (some 0) with
  accessFlags := 1537
  interfaces := #[]
  cf := some (fileOf pool12 2 #[] #[] 1537 4 #[] #[])
  fields := #[]
  methods := #[]
  instanceTypes := #[]
  staticTypes := #[]
  resolved := Array.replicate 8 none
  statics := none }

/-- the primitive byte -/
def k13 : Class := { plain "byte" none with kind := .primitive 'B', accessFlags := 0x411 }
/-- [B -/
def k14 : Class := { plain "[B" (some 0) with kind := .array 13 .byte, interfaces := #[12, 3], accessFlags := 1041 }

/-- the primitive int -/
def k15 : Class := { plain "int" none with kind := .primitive 'I', accessFlags := 0x411 }
/-- [I -/
def k16 : Class := { plain "[I" (some 0) with kind := .array 15 .int, interfaces := #[12, 3], accessFlags := 1041 }

def heap : Heap := #[{ cls := 8, slots := #[.long 0, .int 1, .null, .int 0, .null, .int 0, .int 0], vm := .statics 8 },
  { cls := 10, slots := #[.null, .null, .null], vm := .statics 10 }]
def classes : Array Class := #[k0, k1, k2, k3, k4, k5, k6, k7, k8, k9, k10, k11, k12, k13, k14, k15, k16]
def interned : List (Array UInt16 × Addr) := []
def slotsUsed : Nat := 10
def theMethod : MethodId := ⟨1, 2⟩
def args0 : Array Value := #[.int 5, .int 7]
def aboutOver (below : List Frame) : State where
  vm := { classes := classes, interned := interned.toArray }
  heap := heap
  slotsUsed := slotsUsed
  threads := #[{ frames := .invoking theMethod args0 :: below }]
def below0 : List Frame := [.native { method := ⟨0, 0⟩, args := #[] }]
def about1 : State := aboutOver below0
def p0 : Program := .bare "" "" ""
def e0 : Env := launch0.env 0 0 0
theorem w_frames : about1.frames = Frame.invoking theMethod args0 :: below0 := rfl
set_option maxRecDepth 65536 in
theorem w_args : argsFit about1.vm theMethod args0 = true := by decide +kernel
set_option maxRecDepth 65536 in
theorem w_heap : heapFits about1 = true := by decide +kernel
set_option maxRecDepth 65536 in
theorem w_runnable : about1.curStatus? = some .runnable := by decide +kernel
set_option maxRecDepth 65536 in
theorem w_alone : about1.alone = true := by decide +kernel
set_option maxRecDepth 65536 in
theorem w_named : about1.methodNamed? x = some theMethod := by decide +kernel
set_option maxRecDepth 65536 in
theorem w_hears : about1.hears theMethod below0 = true := by decide +kernel
set_option maxRecDepth 65536 in
theorem w_ripe : about1.ripe theMethod args0 below0 = true := by decide +kernel
theorem w_running : about1.status = .running := rfl
set_option maxRecDepth 65536 in
theorem w_room : about1.hasRoom e0.platform room_1 = true :=
  launch0.hasRoom_least _ room_1 (by decide +kernel) (by decide +kernel) (by decide +kernel) (by decide +kernel) (by decide +kernel) (by decide +kernel)
theorem allAtoms_all (ts : List Jvm.Cond) (a : Array Jvm.Value) (st : Jvm.State) : (allAtoms ts).before a st = ts.all (fun c => c.before a st) := by
  induction ts with
  | nil => rfl
  | cons c t ih =>
    show (Jvm.Cond.and c (allAtoms t)).before a st = _
    rw [Jvm.Cond.before_and, ih, List.all_cons]
def words1 : List Jvm.Cond := Jvm.Cond.code x code maxLocals ret :: tables_1
/-- a 'code' word, met by the world's own term for the bytes: nothing is compared byte by byte -/
theorem code_word {y : MethodName} {bytes : ByteArray} {mx : Nat} {rt : Option FieldType} {a : Array Value} {s : State} {m : MethodId} {meth : Method} {c : Code} (h1 : s.methodNamed? y = some m) (h2 : s.vm.method? m = some meth) (h3 : meth.code = some c) (h4 : c.code = bytes)
    (h5 : (c.maxLocals == mx && c.exceptionTable.isEmpty && decide (c.maxStack ≤ mostOperands) && decide (meth.sig.returnType = rt) && !meth.locks && decide (parseMethodDescriptor y.desc = some meth.sig)) = true) : (Jvm.Cond.code y bytes mx rt).before a s = true := by
  simp only [Bool.and_eq_true, beq_iff_eq, Bool.not_eq_true', decide_eq_true_eq] at h5
  obtain ⟨⟨⟨⟨⟨g1, g2⟩, g3⟩, g4⟩, g5⟩, g6⟩ := h5
  simp [Cond.before, Cond.holds, Cond.value, h1, h2, h3, h4, g1, g2, g3, g4, g5, g6]
def isCode : Jvm.Cond → Bool
  | .code _ _ _ _ => true
  | _ => false
theorem all_split {L : List Jvm.Cond} {P : Jvm.Cond → Bool} (h1 : L.all (fun c => isCode c || P c) = true) (h2 : ∀ c ∈ L.filter isCode, P c = true) : L.all P = true := by
  refine List.all_eq_true.mpr fun c hc => ?_
  have h := List.all_eq_true.mp h1 c hc
  rcases Bool.eq_false_or_eq_true (isCode c) with hi | hi
  · exact h2 c (List.mem_filter.mpr ⟨hc, hi⟩)
  · simpa [hi] using h
set_option maxRecDepth 65536 in
theorem w_c0 : (Jvm.Cond.code x code maxLocals ret).before args0 about1 = true := code_word (m := ⟨1, 2⟩) (meth := k1m2) (c := k1c2) (by decide +kernel) rfl rfl rfl (by decide +kernel)
set_option maxRecDepth 65536 in
theorem w_c1 : (Jvm.Cond.code ({ cls := "com/example/albero/albero/Tokenizer", name := "toAsciiLowerCase", desc := "(I)C" } : Jvm.MethodName) prog_49_method_86_code (2 : Nat) (Option.some Jvm.ClassFile.FieldType.char)).before args0 about1 = true := code_word (m := ⟨2, 0⟩) (meth := k2m0) (c := k2c0) (by decide +kernel) rfl rfl rfl (by decide +kernel)
set_option maxRecDepth 65536 in
theorem w_c2 : (Jvm.Cond.code ({ cls := "com/example/albero/albero/TokenizerToAsciiLowerCasePinLaw", name := "expected", desc := "(I)C" } : Jvm.MethodName) method_2_code (1 : Nat) (Option.some Jvm.ClassFile.FieldType.char)).before args0 about1 = true := code_word (m := ⟨1, 1⟩) (meth := k1m1) (c := k1c1) (by decide +kernel) rfl rfl rfl (by decide +kernel)
set_option maxRecDepth 65536 in
theorem w_c3 : (Jvm.Cond.code ({ cls := "java/lang/String", name := "charAt", desc := "(I)C" } : Jvm.MethodName) jdk_42_method_56_code (2 : Nat) (Option.some Jvm.ClassFile.FieldType.char)).before args0 about1 = true := code_word (m := ⟨8, 1⟩) (meth := k8m1) (c := k8c1) (by decide +kernel) rfl rfl rfl (by decide +kernel)
set_option maxRecDepth 65536 in
theorem w_c4 : (Jvm.Cond.code ({ cls := "java/lang/String", name := "isLatin1", desc := "()Z" } : Jvm.MethodName) jdk_42_method_154_code (1 : Nat) (Option.some Jvm.ClassFile.FieldType.boolean)).before args0 about1 = true := code_word (m := ⟨8, 2⟩) (meth := k8m2) (c := k8c2) (by decide +kernel) rfl rfl rfl (by decide +kernel)
set_option maxRecDepth 65536 in
theorem w_c5 : (Jvm.Cond.code ({ cls := "java/lang/StringLatin1", name := "charAt", desc := "([BI)C" } : Jvm.MethodName) jdk_43_method_2_code (2 : Nat) (Option.some Jvm.ClassFile.FieldType.char)).before args0 about1 = true := code_word (m := ⟨9, 1⟩) (meth := k9m1) (c := k9c1) (by decide +kernel) rfl rfl rfl (by decide +kernel)
set_option maxRecDepth 65536 in
theorem w_c6 : (Jvm.Cond.code ({ cls := "java/lang/String", name := "checkIndex", desc := "(II)V" } : Jvm.MethodName) jdk_42_method_155_code (2 : Nat) (Option.none : Option Jvm.ClassFile.FieldType)).before args0 about1 = true := code_word (m := ⟨8, 3⟩) (meth := k8m3) (c := k8c3) (by decide +kernel) rfl rfl rfl (by decide +kernel)
set_option maxRecDepth 65536 in
theorem w_c7 : (Jvm.Cond.code ({ cls := "jdk/internal/util/Preconditions", name := "checkIndex", desc := "(IILjava/util/function/BiFunction;)I" } : Jvm.MethodName) jdk_41_method_11_code (3 : Nat) (Option.some Jvm.ClassFile.FieldType.int)).before args0 about1 = true := code_word (m := ⟨10, 1⟩) (meth := k10m1) (c := k10c1) (by decide +kernel) rfl rfl rfl (by decide +kernel)
def codes1 : List Jvm.Cond := [Jvm.Cond.code x code maxLocals ret, Jvm.Cond.code ({ cls := "com/example/albero/albero/Tokenizer", name := "toAsciiLowerCase", desc := "(I)C" } : Jvm.MethodName) prog_49_method_86_code (2 : Nat) (Option.some Jvm.ClassFile.FieldType.char), Jvm.Cond.code ({ cls := "com/example/albero/albero/TokenizerToAsciiLowerCasePinLaw", name := "expected", desc := "(I)C" } : Jvm.MethodName) method_2_code (1 : Nat) (Option.some Jvm.ClassFile.FieldType.char), Jvm.Cond.code ({ cls := "java/lang/String", name := "charAt", desc := "(I)C" } : Jvm.MethodName) jdk_42_method_56_code (2 : Nat) (Option.some Jvm.ClassFile.FieldType.char), Jvm.Cond.code ({ cls := "java/lang/String", name := "isLatin1", desc := "()Z" } : Jvm.MethodName) jdk_42_method_154_code (1 : Nat) (Option.some Jvm.ClassFile.FieldType.boolean), Jvm.Cond.code ({ cls := "java/lang/StringLatin1", name := "charAt", desc := "([BI)C" } : Jvm.MethodName) jdk_43_method_2_code (2 : Nat) (Option.some Jvm.ClassFile.FieldType.char), Jvm.Cond.code ({ cls := "java/lang/String", name := "checkIndex", desc := "(II)V" } : Jvm.MethodName) jdk_42_method_155_code (2 : Nat) (Option.none : Option Jvm.ClassFile.FieldType), Jvm.Cond.code ({ cls := "jdk/internal/util/Preconditions", name := "checkIndex", desc := "(IILjava/util/function/BiFunction;)I" } : Jvm.MethodName) jdk_41_method_11_code (3 : Nat) (Option.some Jvm.ClassFile.FieldType.int)]
set_option maxRecDepth 65536 in
theorem codes_eq : words1.filter isCode = codes1 := rfl
theorem w_codes : ∀ c ∈ words1.filter isCode, c.before args0 about1 = true := by
  rw [codes_eq]
  intro c hc
  simp only [codes1, List.mem_cons, List.not_mem_nil, or_false] at hc
  rcases hc with rfl | rfl | rfl | rfl | rfl | rfl | rfl | rfl
  · exact w_c0
  · exact w_c1
  · exact w_c2
  · exact w_c3
  · exact w_c4
  · exact w_c5
  · exact w_c6
  · exact w_c7
set_option maxRecDepth 65536 in
theorem w_t1 : (words1.take 24).all (fun c => isCode c || c.before args0 about1) = true := by decide +kernel
set_option maxRecDepth 65536 in
theorem w_t2 : (words1.drop 24).all (fun c => isCode c || c.before args0 about1) = true := by decide +kernel
theorem w_tables : (allAtoms (Jvm.Cond.code x code maxLocals ret :: tables_1)).before args0 about1 = true := by
  rw [allAtoms_all]
  show words1.all (fun c => c.before args0 about1) = true
  refine all_split ?_ w_codes
  rw [← List.take_append_drop 24 words1, List.all_append, w_t1, w_t2]
  rfl
set_option maxRecDepth 65536 in
theorem w_rest : rest_1_c.before args0 about1 = true := by decide +kernel
set_option maxRecDepth 65536 in
theorem w_case : (Jvm.Cond.and given_1 narrow_1).before args0 about1 = true := by decide +kernel
set_option maxRecDepth 65536 in
theorem w_consts : constsHeld consts_1 about1 := Jvm.Lit.constsHeldB_iff.mp (by decide +kernel)
theorem w_applies : (headSpec (Jvm.Cond.code x code maxLocals ret :: tables_1) room_1).applies x e0.platform about1 = true :=
  (Spec.applies_iff w_frames).mpr ⟨w_running, w_runnable, w_alone, w_named, w_hears, w_ripe, w_room, w_tables⟩
theorem atStart : AtStart classFile x code maxLocals ret World_1 tables_1 room_1 Calls_1 rest_1 Pre_1 launch0 p0 e0 about1 theMethod args0 below0 :=
  ⟨lists_1, trivial, launch0.admits_env _ _ _, launch0.least_env, fairChoices_fair.cas, fairChoices_fair.clock, w_frames, w_args, w_heap, w_applies, ⟨w_consts, trivial⟩, w_rest, w_case⟩
end start1
theorem witness_1 : WitnessClaimed_1 := ⟨start1.p0, start1.e0, start1.about1, start1.theMethod, start1.args0, start1.below0, start1.atStart⟩
end Jvm.Pilot.@@N@@
