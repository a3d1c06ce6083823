import JvmDerived
import JvmDerived.Pilot.@@N@@Statement
import JvmDerived.Pilot.@@N@@Code
set_option linter.unusedVariables false
set_option linter.unusedSimpArgs false
namespace Jvm.RoadKit
open Sem ClassFile Op Lib Jvm.Stand Jvm.Free Jvm.LawKit
section OwnGo
variable {p : Program} {l : Launch} {e : Env} {R : Room} {s : State} {m : MethodId} {args : Array Value} {below : List Frame} {meth : Method} {c : Code} {T T' : State} {locs : List Loc} {cells slots : Nat} {Z : State} {a0 : Array Value} {h h' : Heap}
/-- the walk comes to an end from here, and leaves what Q says -/
def Go (p : Program) (e : Env) (below : List Frame) (s : State) (Q : Option Value → Heap → List Loc → Prop) (nc ns : Nat) (T : State) (f : JFrame) : Prop :=
  ∃ s₂ o, Steps p.tables e below (T.setTop f) s₂ ∧ s₂.status = .running ∧ Ended s₂ below o ∧ ∃ v L, o = .returned v ∧ Q v s₂.heap L ∧ FrameEnd s o s₂ L nc ns
variable {Q : Option Value → Heap → List Loc → Prop} {nc ns : Nat}
theorem Go.of {f f' : JFrame} (k : ∀ t, Steps p.tables e below (T'.setTop f') t → Steps p.tables e below (T.setTop f) t) (g : Go p e below s Q nc ns T' f') : Go p e below s Q nc ns T f := by
  obtain ⟨s₂, o, h1, h2⟩ := g
  exact ⟨s₂, o, k _ h1, h2⟩
theorem Go.tr {f f' : JFrame} (k : Steps p.tables e below (T.setTop f) (T'.setTop f')) (g : Go p e below s Q nc ns T' f') : Go p e below s Q nc ns T f := by
  obtain ⟨s₂, o, h1, h2⟩ := g
  exact ⟨s₂, o, k.trans h1, h2⟩
theorem Go.cast {f f' : JFrame} (q : f = f') (g : Go p e below s Q nc ns T f') : Go p e below s Q nc ns T f := q ▸ g
theorem retI (X : Stand p l e R s m args below meth c T locs cells slots) (hx : p.tables.exec = Jvm.exec) {pc : Nat} {Ls : Array Slot} {z : Int32} {rest : List Value} (hret : meth.sig.returnType = some .int) (hd : decode c.code pc = .ok (.ireturn, 1)) {fs : List Frame}
    (hl : ∀ (f : JFrame) (acts : List Action), f.method = m → f.locked = none → f.entered = [] → (doReturn e (T.setTop f) acts (some (.int z))).1 = T.setFrames fs) : Steps p.tables e below (T.setTop (mkF m pc Ls (.int z :: rest))) (T.setFrames fs) :=
  retOut X hx hret rfl (Or.inl ⟨rfl, Or.inl rfl, _, rfl⟩) hd hl
theorem Go.end0 (X : Stand p l e R s m args below meth c T locs cells slots) (hk : meth.locks = false) {v : Option Value} (hv : meth.sig.returnType = none → v = none) {f : JFrame}
    (k : ∀ fs, (∀ (f : JFrame) (acts : List Action), f.method = m → f.locked = none → f.entered = [] → (doReturn e (T.setTop f) acts v).1 = T.setFrames fs) → Steps p.tables e below (T.setTop f) (T.setFrames fs))
    (hc : cells ≤ nc) (hs : slots ≤ ns) (hq : Q v T.heap locs) : Go p e below s Q nc ns T f := by
  obtain ⟨fs, hr, hrun, hended, hW, hsame⟩ := X.leave (v := v) hv
  exact ⟨_, _, k fs hr, hrun, hended, _, _, rfl, hq, ⟨_, rfl⟩, hW, hsame.mono hc hs⟩
theorem Go.retZ (X : Stand p l e R s m args below meth c T locs cells slots) (hx : p.tables.exec = Jvm.exec) (hk : meth.locks = false) {t : FieldType} (hret : meth.sig.returnType = some t) (ht : t = .boolean ∨ t = .byte ∨ t = .char ∨ t = .short) {pc : Nat} (hd : decode c.code pc = .ok (.ireturn, 1)) {Ls : Array Slot} {z : Int32} {rest : List Value}
    (hc : cells ≤ nc) (hs : slots ≤ ns) (hq : Q (some (.int (nar t z))) T.heap locs) : Go p e below s Q nc ns T (mkF m pc Ls (.int z :: rest)) :=
  Go.end0 X hk (fun q => by rw [hret] at q; cases q) (fun _ hr => retN X hx hret ht hd hr) hc hs hq
theorem Go.retI (X : Stand p l e R s m args below meth c T locs cells slots) (hx : p.tables.exec = Jvm.exec) (hk : meth.locks = false) (hret : meth.sig.returnType = some .int) {pc : Nat} (hd : decode c.code pc = .ok (.ireturn, 1)) {Ls : Array Slot} {z : Int32} {rest : List Value}
    (hc : cells ≤ nc) (hs : slots ≤ ns) (hq : Q (some (.int z)) T.heap locs) : Go p e below s Q nc ns T (mkF m pc Ls (.int z :: rest)) :=
  Go.end0 X hk (fun q => by rw [hret] at q; cases q) (fun _ hr => Jvm.RoadKit.retI X hx hret hd hr) hc hs hq
theorem Go.retJ (X : Stand p l e R s m args below meth c T locs cells slots) (hx : p.tables.exec = Jvm.exec) (hk : meth.locks = false) (hret : meth.sig.returnType = some .long) {pc : Nat} (hd : decode c.code pc = .ok (.lreturn, 1)) {Ls : Array Slot} {z : Int64} {rest : List Value}
    (hc : cells ≤ nc) (hs : slots ≤ ns) (hq : Q (some (.long z)) T.heap locs) : Go p e below s Q nc ns T (mkF m pc Ls (.long z :: rest)) :=
  Go.end0 X hk (fun q => by rw [hret] at q; cases q) (fun _ hr => retOut X hx hret rfl (Or.inr (Or.inl ⟨rfl, rfl, _, rfl⟩)) hd hr) hc hs hq
theorem Go.retA (X : Stand p l e R s m args below meth c T locs cells slots) (hx : p.tables.exec = Jvm.exec) (hk : meth.locks = false) {t : FieldType} (hret : meth.sig.returnType = some t) (ht : t.isReference = true) {pc : Nat} (hd : decode c.code pc = .ok (.areturn, 1)) {Ls : Array Slot} {a : Addr} {rest : List Value}
    (hc : cells ≤ nc) (hs : slots ≤ ns) (hq : Q (some (.ref a)) T.heap locs) : Go p e below s Q nc ns T (mkF m pc Ls (.ref a :: rest)) :=
  Go.end0 X hk (fun q => by rw [hret] at q; cases q) (fun _ hr => retOut X hx hret (by cases t <;> first | rfl | cases ht) (Or.inr (Or.inr (Or.inr (Or.inr ⟨rfl, ht, rfl⟩)))) hd hr) hc hs hq
theorem Go.retV (X : Stand p l e R s m args below meth c T locs cells slots) (hx : p.tables.exec = Jvm.exec) (hk : meth.locks = false) (hret : meth.sig.returnType = none) {pc : Nat} (hd : decode c.code pc = .ok (.return_, 1)) {Ls : Array Slot}
    (hc : cells ≤ nc) (hs : slots ≤ ns) (hq : Q none T.heap locs) : Go p e below s Q nc ns T (mkF m pc Ls []) :=
  Go.end0 X hk (fun _ => rfl) (fun _ hr => X.returnOut hx hret hd hr) hc hs hq
theorem lc_lt_t {x y : Int64} (q : x < y) : ifCond.holds .lt (lcmpW x y) = true := by rw [if0, lcW]; exact (tlt ((lc_lt x y).mpr q)).1
theorem lc_lt_f {x y : Int64} (q : ¬ x < y) : ifCond.holds .lt (lcmpW x y) = false := by rw [if0, lcW]; exact (flt (fun z => q ((lc_lt x y).mp z))).1
theorem lc_ge_f {x y : Int64} (q : x < y) : ifCond.holds .ge (lcmpW x y) = false := by rw [if0, lcW]; exact (tlt ((lc_lt x y).mpr q)).2.1
theorem lc_ge_t {x y : Int64} (q : ¬ x < y) : ifCond.holds .ge (lcmpW x y) = true := by rw [if0, lcW]; exact (flt (fun z => q ((lc_lt x y).mp z))).2.1
theorem lc_gt_t {x y : Int64} (q : y < x) : ifCond.holds .gt (lcmpW x y) = true := by rw [if0, lcW]; exact (tlt ((lc_gt x y).mpr q)).2.2.1
theorem lc_gt_f {x y : Int64} (q : ¬ y < x) : ifCond.holds .gt (lcmpW x y) = false := by rw [if0, lcW]; exact (flt (fun z => q ((lc_gt x y).mp z))).2.2.1
theorem lc_le_f {x y : Int64} (q : y < x) : ifCond.holds .le (lcmpW x y) = false := by rw [if0, lcW]; exact (tlt ((lc_gt x y).mpr q)).2.2.2
theorem lc_le_t {x y : Int64} (q : ¬ y < x) : ifCond.holds .le (lcmpW x y) = true := by rw [if0, lcW]; exact (flt (fun z => q ((lc_gt x y).mp z))).2.2.2
theorem lc_eq_t {x y : Int64} (q : x = y) : ifCond.holds .eq (lcmpW x y) = true := by rw [if0, lcW]; exact (teq ((lc_eq x y).mpr q)).1
theorem lc_eq_f {x y : Int64} (q : ¬ x = y) : ifCond.holds .eq (lcmpW x y) = false := by rw [if0, lcW]; exact (feq (fun z => q ((lc_eq x y).mp z))).1
theorem lc_ne_f {x y : Int64} (q : x = y) : ifCond.holds .ne (lcmpW x y) = false := by rw [if0, lcW]; exact (teq ((lc_eq x y).mpr q)).2
theorem lc_ne_t {x y : Int64} (q : ¬ x = y) : ifCond.holds .ne (lcmpW x y) = true := by rw [if0, lcW]; exact (feq (fun z => q ((lc_eq x y).mp z))).2
/-- an array of this kind that holds just these values -/
def VArr (Z : State) (h : Heap) (a : Addr) (ty : FieldType) (vs : List Value) : Prop := ∃ cl : Cell, Arr Z h a cl ty ∧ cl.slots = vs.toArray
variable {a b : Addr} {ty : FieldType} {vs : List Value} {sl : Nat} {v : Value} {ws : List Addr} {n : Int32}
theorem VArr.lt (F : VArr Z h a ty vs) : a < h.size := by obtain ⟨c, A, -⟩ := F; exact A.lt
theorem VArr.ext (F : VArr Z h a ty vs) (E : Ext h h') : VArr Z h' a ty vs := by obtain ⟨c, A, r⟩ := F; exact ⟨c, A.ext E, r⟩
theorem VArr.other (F : VArr Z h b ty vs) (W : Wr h h' a sl v) (q : b ≠ a) : VArr Z h' b ty vs := by obtain ⟨c, A, r⟩ := F; exact ⟨c, A.other W q, r⟩
theorem VArr.keep (F : VArr Z h a ty vs) (K : Keep h h' ws) (q : a ∉ ws) : VArr Z h' a ty vs := by obtain ⟨c, A, r⟩ := F; exact ⟨c, ⟨K.2.1 a c A.1 q, A.2⟩, r⟩
theorem VArr.new {k : ClassId} (A : Arr Z h a (newA k ty n) ty) : VArr Z h a ty (List.replicate n.toNatClampNeg (defaultValue ty)) := ⟨_, A, by simp [newA]⟩
theorem VArr.newL {k : ClassId} {i : Nat} (A : Arr Z h a (newA k ty n) ty) (hn : n.toNatClampNeg = i) : VArr Z h a ty (List.replicate i (defaultValue ty)) := hn ▸ VArr.new A
theorem VArr.wr (F : VArr Z h a ty vs) (W : Wr h h' a sl v) : VArr Z h' a ty (vs.set sl v) := by
  obtain ⟨c, A, r⟩ := F
  refine ⟨_, A.same W, ?_⟩
  show c.slots.setIfInBounds sl v = _
  rw [r]; simp
theorem VArr.inb {cl : Cell} {j : Int32} (r : cl.slots = vs.toArray) (hj : ¬ j < 0) (hi : j.toNatClampNeg < vs.length) : ¬ (j < 0 ∨ cl.slots.size ≤ j.toNatClampNeg) := by
  rw [r]; simp only [List.size_toArray]; rintro (q | q)
  · exact hj q
  · omega
theorem VArr.at {cl : Cell} {j : Int32} (r : cl.slots = vs.toArray) (hv : vs[j.toNatClampNeg]? = some v) : cl.slots[j.toNatClampNeg]? = some v := by rw [r]; simpa using hv
theorem lt_of_at {j : Nat} (hv : vs[j]? = some v) : j < vs.length := (List.getElem?_eq_some_iff.mp hv).1
theorem ldJ (X : Stand p l e R s m args below meth c T locs cells slots) (hx : p.tables.exec = Jvm.exec) (hZ : Z.Warmed39 s.vm) (eT : T.heap = h) (F : VArr Z h a .long vs) {j : Int32} {i : Nat} (hj : ¬ j < 0) (hji : j.toNatClampNeg = i) (hv : vs[i]? = some v)
    {g : JFrame} (hg : g.method = m) {rest : List Value} (hs : g.stack = .int j :: .ref a :: rest) (hd : decode c.code g.pc = .ok (.laload, 1)) (target : State)
    (hr : Steps p.tables e below (T.setTop { g with pc := g.pc + 1, stack := v :: rest }) target) : Steps p.tables e below (T.setTop g) target := by
  subst hji
  obtain ⟨cl, A, r⟩ := F
  exact X.laload hx (by rw [eT]; exact A.1) (State.isArrayOf_alike hZ.alike A.2.1) A.2.2 (VArr.inb r hj (lt_of_at hv)) (VArr.at r hv) hg hs hd target hr
theorem ldC (X : Stand p l e R s m args below meth c T locs cells slots) (hx : p.tables.exec = Jvm.exec) (hZ : Z.Warmed39 s.vm) (eT : T.heap = h) (F : VArr Z h a .char vs) {j : Int32} {i : Nat} (hj : ¬ j < 0) (hji : j.toNatClampNeg = i) (hv : vs[i]? = some v)
    {g : JFrame} (hg : g.method = m) {rest : List Value} (hs : g.stack = .int j :: .ref a :: rest) (hd : decode c.code g.pc = .ok (.caload, 1)) (target : State)
    (hr : Steps p.tables e below (T.setTop { g with pc := g.pc + 1, stack := v :: rest }) target) : Steps p.tables e below (T.setTop g) target := by
  subst hji
  obtain ⟨cl, A, r⟩ := F
  exact X.caload hx (by rw [eT]; exact A.1) (State.isArrayOf_alike hZ.alike A.2.1) A.2.2 (VArr.inb r hj (lt_of_at hv)) (VArr.at r hv) hg hs hd target hr
theorem ldB (X : Stand p l e R s m args below meth c T locs cells slots) (hx : p.tables.exec = Jvm.exec) (hZ : Z.Warmed39 s.vm) (eT : T.heap = h) (F : VArr Z h a .byte vs) {j : Int32} {i : Nat} (hj : ¬ j < 0) (hji : j.toNatClampNeg = i) (hv : vs[i]? = some v)
    {g : JFrame} (hg : g.method = m) {rest : List Value} (hs : g.stack = .int j :: .ref a :: rest) (hd : decode c.code g.pc = .ok (.baload, 1)) (target : State)
    (hr : Steps p.tables e below (T.setTop { g with pc := g.pc + 1, stack := v :: rest }) target) : Steps p.tables e below (T.setTop g) target := by
  subst hji
  obtain ⟨cl, A, r⟩ := F
  exact X.baloadBytes hx (by rw [eT]; exact A.1) (State.isArrayOf_alike hZ.alike A.2.1) A.2.2 (VArr.inb r hj (lt_of_at hv)) (VArr.at r hv) hg hs hd target hr
theorem lenV (X : Stand p l e R s m args below meth c T locs cells slots) (hx : p.tables.exec = Jvm.exec) (hZ : Z.Warmed39 s.vm) (eT : T.heap = h) (F : VArr Z h a ty vs) (hn : vs.length.toInt32 = n)
    {g : JFrame} (hg : g.method = m) {rest : List Value} (hs : g.stack = .ref a :: rest) (hd : decode c.code g.pc = .ok (.arraylength, 1)) (target : State)
    (hr : Steps p.tables e below (T.setTop { g with pc := g.pc + 1, stack := .int n :: rest }) target) : Steps p.tables e below (T.setTop g) target := by
  obtain ⟨cl, A, r⟩ := F
  refine X.arraylength hx (by rw [eT]; exact A.1) (State.isArrayOf_alike hZ.alike A.2.1) hg hs hd target ?_
  have q : cl.slots.size.toInt32 = n := by rw [r, ← hn]; simp
  rw [q]; exact hr
theorem saJ (X : Stand p l e R s m args below meth c T locs cells slots) (hx : p.tables.exec = Jvm.exec) (hZ : Z.Warmed39 s.vm) (eT : T.heap = h) (F : VArr Z h a .long vs) {j : Int32} {x : Int64} {i : Nat} (hj : ¬ j < 0) (hji : j.toNatClampNeg = i) (hi : i < vs.length)
    {g : JFrame} (hg : g.method = m) {rest : List Value} (hs : g.stack = .long x :: .int j :: .ref a :: rest) (hd : decode c.code g.pc = .ok (.lastore, 1)) :
    ∃ T' h', Stand p l e R s m args below meth c T' (locs ++ [⟨a, j.toNatClampNeg⟩]) cells slots ∧ T'.heap = h' ∧ Wr h h' a j.toNatClampNeg (.long x) ∧ VArr Z h' a .long (vs.set i (.long x)) ∧ ∀ target, Steps p.tables e below (T'.setTop { g with pc := g.pc + 1, stack := rest }) target → Steps p.tables e below (T.setTop g) target := by
  subst hji
  obtain ⟨cl, A, r⟩ := F
  obtain ⟨T', h', X', e', W, st⟩ := stJ X hx hZ eT A (x := x) (VArr.inb r hj hi) hg hs hd
  exact ⟨T', h', X', e', W, VArr.wr ⟨cl, A, r⟩ W, st⟩
theorem saC (X : Stand p l e R s m args below meth c T locs cells slots) (hx : p.tables.exec = Jvm.exec) (hZ : Z.Warmed39 s.vm) (eT : T.heap = h) (F : VArr Z h a .char vs) {j : Int32} {x : Int32} {i : Nat} (hj : ¬ j < 0) (hji : j.toNatClampNeg = i) (hi : i < vs.length)
    {g : JFrame} (hg : g.method = m) {rest : List Value} (hs : g.stack = .int x :: .int j :: .ref a :: rest) (hd : decode c.code g.pc = .ok (.castore, 1)) :
    ∃ T' h', Stand p l e R s m args below meth c T' (locs ++ [⟨a, j.toNatClampNeg⟩]) cells slots ∧ T'.heap = h' ∧ Wr h h' a j.toNatClampNeg (.int (nar .char x)) ∧ VArr Z h' a .char (vs.set i (.int (nar .char x))) ∧ ∀ target, Steps p.tables e below (T'.setTop { g with pc := g.pc + 1, stack := rest }) target → Steps p.tables e below (T.setTop g) target := by
  subst hji
  obtain ⟨cl, A, r⟩ := F
  obtain ⟨T', h', X', e', W, st⟩ := stC X hx hZ eT A (x := x) (VArr.inb r hj hi) hg hs hd
  exact ⟨T', h', X', e', W, VArr.wr ⟨cl, A, r⟩ W, st⟩
theorem saB (X : Stand p l e R s m args below meth c T locs cells slots) (hx : p.tables.exec = Jvm.exec) (hZ : Z.Warmed39 s.vm) (eT : T.heap = h) (F : VArr Z h a .byte vs) {j : Int32} {x : Int32} {i : Nat} (hj : ¬ j < 0) (hji : j.toNatClampNeg = i) (hi : i < vs.length)
    {g : JFrame} (hg : g.method = m) {rest : List Value} (hs : g.stack = .int x :: .int j :: .ref a :: rest) (hd : decode c.code g.pc = .ok (.bastore, 1)) :
    ∃ T' h', Stand p l e R s m args below meth c T' (locs ++ [⟨a, j.toNatClampNeg⟩]) cells slots ∧ T'.heap = h' ∧ Wr h h' a j.toNatClampNeg (.int (nar .byte x)) ∧ VArr Z h' a .byte (vs.set i (.int (nar .byte x))) ∧ ∀ target, Steps p.tables e below (T'.setTop { g with pc := g.pc + 1, stack := rest }) target → Steps p.tables e below (T.setTop g) target := by
  subst hji
  obtain ⟨cl, A, r⟩ := F
  obtain ⟨T', h', X', e', W, st⟩ := stB X hx hZ eT A (x := x) (VArr.inb r hj hi) hg hs hd
  exact ⟨T', h', X', e', W, VArr.wr ⟨cl, A, r⟩ W, st⟩
end OwnGo
end Jvm.RoadKit
namespace Jvm.RoadKit
open Sem ClassFile Op Lib Jvm.Stand Jvm.Free Jvm.LawKit
section OwnBytes
variable {p : Program} {l : Launch} {e : Env} {R : Room} {s : State} {m : MethodId} {args : Array Value} {below : List Frame} {meth : Method} {c : Code} {T : State} {locs : List Loc} {cells slots : Nat} {Z : State} {a0 : Array Value} {h h' : Heap} {a : Addr}
theorem allC {α : Type} {P : α → Prop} {x : α} {L : List α} (q : P x) (r : ∀ y ∈ L, P y) : ∀ y ∈ x :: L, P y := fun y z => (List.mem_cons.mp z).elim (fun u => u ▸ q) (r y)
theorem allN {α : Type} {P : α → Prop} : ∀ y ∈ ([] : List α), P y := fun _ q => nomatch q
theorem selfPriv {C : String} {y y0 : MethodName} (hsel : (Cond.selects C y0 y0).before args s = true) (hcls : y0.cls = y.cls) (hp : (Cond.privateMethod y).before args s = true) (hinst : (Cond.instanceMethod y).before args s = true) (hy : y.cls ≠ "java/lang/invoke/MethodHandle" ∧ y.cls ≠ "java/lang/invoke/VarHandle") : (Cond.selects y.cls y y).before args s = true := by
  obtain ⟨c2, r2, m2, q1, q2, q3, q4, kP, hkP, hkPi⟩ := Cond.selects_spec hsel
  exact selects_self_of_private (hcls ▸ findClass_of_methodNamed q3) hkP hkPi (Cond.privateMethod_at hp) hinst hy
/-- bytes -/
def TyB (bs : List Int32) : Prop := ∀ x ∈ bs, fits .byte (.int x) = true
theorem TyB.set {bs : List Int32} (H : TyB bs) (k : Nat) (x : Int32) : TyB (bs.set k (nar .byte x)) := fun y hy => by
  rcases List.mem_or_eq_of_mem_set hy with q | q
  · exact H y q
  · rw [q]; exact fits_nar_byte x
theorem TyB.rep (n : Nat) : TyB (List.replicate n 0) := fun y hy => by rw [List.eq_of_mem_replicate hy]; decide
def cpy (bs : List Int32) (n : Nat) : List Int32 := (List.range n).map (fun j => bs.getD j 0)
theorem TyB.cpy {bs : List Int32} (H : TyB bs) (n : Nat) : TyB (cpy bs n) := fun y hy => by
  obtain ⟨j, -, rfl⟩ := List.mem_map.mp hy
  rw [List.getD_eq_getElem?_getD]
  cases q : bs[j]? with
  | none => decide
  | some v => exact H v (List.mem_of_getElem? q)
theorem copyB (X : Stand p l e R s m args below meth c T locs cells slots) (hx : p.tables.exec = Jvm.exec) (hZ : Z.Warmed39 s.vm) {own : String} {index : Nat} (hown : s.vm.findClass own = some m.cls) (wl : (Cond.methodLink own index Jvm.Free.JA.CopyOfB.yN).before args s = true)
    (wst : (Cond.static Jvm.Free.JA.CopyOfB.yN).before args s = true) (wi : (Cond.initialized "java/util/Arrays").before args s = true) (wc : (Cond.code Jvm.Free.JA.CopyOfB.yN Jvm.Free.JA.CopyOfB.yB 3 (some (.array .byte))).before args s = true) (htab : Jvm.Free.JA.CopyOfB.tab.before args s = true)
    (eT : T.heap = h) {bs : List Int32} (F : VArr Z h a .byte (bs.map Value.int)) (E : Exa Z h a "[B") (ty : TyB bs) (hl : bs.length < 2 ^ 31) {n : Nat} (hn : n ≤ 536870912) (hfr : 2 ≤ R.frames) {W : Nat} (hlo : W + 54 ≤ R.locals) (hc : cells + 1 ≤ R.cells) (hs : slots + n ≤ R.slots)
    {g : JFrame} (hg : g.method = m) (hsize : g.locals.size = c.maxLocals) {rest : List Value} (hst : g.stack = .int (Int32.ofNat n) :: .ref a :: rest) (hW : 2 * g.monitorRoom + (rest.map fun v => v.category).sum ≤ W) (hd : decode c.code g.pc = .ok (.invokestatic index, 3)) :
    ∃ T' h', Stand p l e R s m args below meth c T' locs (cells + 1) (slots + n) ∧ T'.heap = h' ∧ Ext h h' ∧ VArr Z h' h.size .byte ((cpy bs n).map Value.int) ∧ Exa Z h' h.size "[B" ∧
      ∀ target, Steps p.tables e below (T'.setTop { g with pc := g.pc + 3, stack := .ref h.size :: rest }) target → Steps p.tables e below (T.setTop g) target := by
  obtain ⟨cl, A, r⟩ := F
  obtain ⟨cl', kE, h1, h2, h3, h4, -⟩ := E
  cases h1.symm.trans A.1
  have hP : ∀ vm₁, s.WarmedH vm₁ → Jvm.Free.JA.CopyOfB.P a cl n #[.ref a, .int (Int32.ofNat n)] (T.setVm vm₁) := fun vm₁ hw => by
    have al : Z.vm.Alike vm₁ := hZ.alike.trans hw.alike
    refine ⟨rfl, ⟨by show T.heap[a]? = _; rw [eT]; exact A.1, State.isArrayOf_alike al A.2.1, A.2.2, by rw [r]; simpa using hl⟩, by show vm₁.findClass _ = _; rw [al.findClass]; exact h2, fun i v hv => ?_, hn⟩
    rw [r] at hv
    have hv' : (bs.map Value.int)[i]? = some v := by simpa using hv
    rw [List.getElem?_map] at hv'
    cases q : bs[i]? with
    | none => rw [q] at hv'; cases hv'
    | some w => rw [q] at hv'; cases hv'; exact ty w (List.mem_of_getElem? q)
  obtain ⟨v, vm₁, B, hw₁, X', ⟨hE, e1, e2, e3⟩, st⟩ := Jvm.LawKit.callS X hx (y := Jvm.Free.JA.CopyOfB.yN) hown wl wst wi wc (by decide) (Jvm.Free.JA.CopyOfB.pays (len := 3) (W := W) a cl n htab hfr hlo) (g := g) hg hsize (argsL := [.ref a, .int (Int32.ofNat n)]) (rest := rest)
    (lenOf (d := "([BI)[B") (ps := [.array .byte, .int]) (r := some (.array .byte)) (by decide +kernel) rfl) hst hW hd (fun vm₁ hw => ⟨hc, hs, hP vm₁ hw⟩)
  obtain ⟨U, L', k', n'⟩ := B
  dsimp only [Pt.U, Pt.locs, Pt.cells, Pt.slots] at *
  subst e2 e3
  rw [List.append_nil] at e1
  subst e1
  obtain ⟨rfl, B, b1, b2, b3, b4, b5, b6⟩ := hE
  have hsz : (T.setVm vm₁).heap.size = h.size := by show T.heap.size = _; rw [eT]
  rw [hsz] at b1 st
  have al : Z.vm.Alike U.vm := hZ.alike.trans X'.warmed.alike
  have isA : Z.isArrayOf B .byte := State.isArrayOf_alike (s := U) al.symm b1.2.1
  refine ⟨U, U.heap, X', rfl, ⟨?_, fun x cx hx' => b6 x cx (by show T.heap[x]? = _; rw [eT]; exact hx')⟩, ⟨B, ⟨b1.1, isA, b1.2.2.1⟩, ?_⟩, ?_, st⟩
  · exact Nat.le_of_lt (Array.getElem?_eq_some_iff.mp b1.1).1
  · apply Array.ext
    · simp [cpy, b4]
    · intro i hi1 hi2
      have hi : i < n := by rw [b4] at hi1; exact hi1
      have q := b5 i hi
      rw [Array.getElem?_eq_getElem hi1] at q
      rw [Option.some.inj q, r]
      by_cases hb : i < bs.length
      · simp [cpy, hb]
      · simp [cpy, hb]; rfl
  · obtain ⟨-, k, hk, comp, hkind⟩ := isA
    exact ⟨B, k, b1.1, by rw [← al.findClass]; exact b3, hk, by rw [b2]; rfl, fun q => by rw [hkind] at q; cases q⟩
theorem maxJ (X : Stand p l e R s m args below meth c T locs cells slots) (hx : p.tables.exec = Jvm.exec) {own : String} {index : Nat} (hown : s.vm.findClass own = some m.cls) (wl : (Cond.methodLink own index Jvm.Free.JP.Math_max_JJ.yN).before args s = true)
    (wst : (Cond.static Jvm.Free.JP.Math_max_JJ.yN).before args s = true) (wi : (Cond.initialized "java/lang/Math").before args s = true) (wc : (Cond.code Jvm.Free.JP.Math_max_JJ.yN Jvm.Free.JP.Math_max_JJ.yB 4 (some .long)).before args s = true)
    (eT : T.heap = h) {x y : Int64} (hfr : 1 ≤ R.frames) {W : Nat} (hlo : W + 15 ≤ R.locals) (hc : cells + 0 ≤ R.cells) (hs : slots + 0 ≤ R.slots)
    {g : JFrame} (hg : g.method = m) (hsize : g.locals.size = c.maxLocals) {rest : List Value} (hst : g.stack = .long y :: .long x :: rest) (hW : 2 * g.monitorRoom + (rest.map fun v => v.category).sum ≤ W) (hd : decode c.code g.pc = .ok (.invokestatic index, 3)) :
    ∃ T', Stand p l e R s m args below meth c T' locs cells slots ∧ T'.heap = h ∧ ∀ target, Steps p.tables e below (T'.setTop { g with pc := g.pc + 3, stack := .long (if x < y then y else x) :: rest }) target → Steps p.tables e below (T.setTop g) target := by
  obtain ⟨v, vm₁, B, hw₁, X', ⟨hE, e1, e2, e3⟩, st⟩ := Jvm.LawKit.callS X hx (y := Jvm.Free.JP.Math_max_JJ.yN) hown wl wst wi wc (by decide) (Jvm.Free.JP.Math_max_JJ.pays (len := 3) (W := W) x y (Jvm.Free.XT.unparts wc (allC wi allN)) hfr hlo) (g := g) hg hsize (argsL := [.long x, .long y]) (rest := rest)
    (lenOf (d := "(JJ)J") (ps := [.long, .long]) (r := some .long) (by decide +kernel) rfl) hst hW hd (fun vm₁ hw => ⟨hc, hs, rfl, trivial⟩)
  obtain ⟨U, L', k', n'⟩ := B
  dsimp only [Pt.U, Pt.locs, Pt.cells, Pt.slots] at *
  subst e2 e3
  rw [List.append_nil] at e1
  subst e1
  obtain ⟨rfl, hh⟩ := hE
  exact ⟨U, X', hh.trans eT, st⟩
theorem minJ (X : Stand p l e R s m args below meth c T locs cells slots) (hx : p.tables.exec = Jvm.exec) {own : String} {index : Nat} (hown : s.vm.findClass own = some m.cls) (wl : (Cond.methodLink own index Jvm.Free.JP.Math_min_JJ.yN).before args s = true)
    (wst : (Cond.static Jvm.Free.JP.Math_min_JJ.yN).before args s = true) (wi : (Cond.initialized "java/lang/Math").before args s = true) (wc : (Cond.code Jvm.Free.JP.Math_min_JJ.yN Jvm.Free.JP.Math_min_JJ.yB 4 (some .long)).before args s = true)
    (eT : T.heap = h) {x y : Int64} (hfr : 1 ≤ R.frames) {W : Nat} (hlo : W + 15 ≤ R.locals) (hc : cells + 0 ≤ R.cells) (hs : slots + 0 ≤ R.slots)
    {g : JFrame} (hg : g.method = m) (hsize : g.locals.size = c.maxLocals) {rest : List Value} (hst : g.stack = .long y :: .long x :: rest) (hW : 2 * g.monitorRoom + (rest.map fun v => v.category).sum ≤ W) (hd : decode c.code g.pc = .ok (.invokestatic index, 3)) :
    ∃ T', Stand p l e R s m args below meth c T' locs cells slots ∧ T'.heap = h ∧ ∀ target, Steps p.tables e below (T'.setTop { g with pc := g.pc + 3, stack := .long (if y < x then y else x) :: rest }) target → Steps p.tables e below (T.setTop g) target := by
  obtain ⟨v, vm₁, B, hw₁, X', ⟨hE, e1, e2, e3⟩, st⟩ := Jvm.LawKit.callS X hx (y := Jvm.Free.JP.Math_min_JJ.yN) hown wl wst wi wc (by decide) (Jvm.Free.JP.Math_min_JJ.pays (len := 3) (W := W) x y (Jvm.Free.XT.unparts wc (allC wi allN)) hfr hlo) (g := g) hg hsize (argsL := [.long x, .long y]) (rest := rest)
    (lenOf (d := "(JJ)J") (ps := [.long, .long]) (r := some .long) (by decide +kernel) rfl) hst hW hd (fun vm₁ hw => ⟨hc, hs, rfl, trivial⟩)
  obtain ⟨U, L', k', n'⟩ := B
  dsimp only [Pt.U, Pt.locs, Pt.cells, Pt.slots] at *
  subst e2 e3
  rw [List.append_nil] at e1
  subst e1
  obtain ⟨rfl, hh⟩ := hE
  exact ⟨U, X', hh.trans eT, st⟩
end OwnBytes
end Jvm.RoadKit
namespace Jvm.Pilot.@@N@@
open Jvm Jvm.ClassFile Sem Op Lib Jvm.Free Jvm.Stand Jvm.LawKit Jvm.RoadKit Bundle Jvm.Pilot.@@N@@.Jvm.D
theorem own_ng {n k : Nat} {u : Int32} (hk : u.toNatClampNeg = k) (hu : ¬ u < 0) (h : k < n) (hn : n < 1000) : ¬ n.toInt32 < u + 1 := by
  have e0 : (0 : Int32).toInt = 0 := rfl
  have e1 : (1 : Int32).toInt = 1 := rfl
  rw [Int32.lt_iff_toInt_lt] at hu ⊢
  have hut : u.toInt = k := by simp only [Int32.toNatClampNeg] at hk; omega
  have hs : (u + 1).toInt = k + 1 := by rw [Int32.toInt_add, hut, e1]; exact Int.bmod_eq_of_le (by omega) (by omega)
  rw [hs, len_toInt (by omega)]; omega
theorem own_g : ∀ k : Fin 6, k.1.toInt32 < Int32.ofNat k.1 + 1 ∧ (if (if ((((Int32.ofNat k.1).toInt64) + ((1 : Int32).toInt64)) + (256 : Int64)) < ((2 : Int64) * ((k.1.toInt32).toInt64)) then ((2 : Int64) * ((k.1.toInt32).toInt64)) else ((((Int32.ofNat k.1).toInt64) + ((1 : Int32).toInt64)) + (256 : Int64))) < (2147483639 : Int64) then (if ((((Int32.ofNat k.1).toInt64) + ((1 : Int32).toInt64)) + (256 : Int64)) < ((2 : Int64) * ((k.1.toInt32).toInt64)) then ((2 : Int64) * ((k.1.toInt32).toInt64)) else ((((Int32.ofNat k.1).toInt64) + ((1 : Int32).toInt64)) + (256 : Int64))) else (2147483639 : Int64)).toInt32 = Int32.ofNat (k.1 + 257) := by decide +kernel
theorem own_cptab {Z s : State} {a0 args : Array Value} (hw : ∀ d ∈ tables_1, d.before a0 Z = true) (hZ : Z.Warmed39 s.vm) : Jvm.Free.JA.CopyOfB.tab.before args s = true :=
  Jvm.Free.XT.unparts (mvT hZ (hw _ (List.mem_of_getElem? (i := 44) rfl))) (allC (mvT hZ (hw _ (List.mem_of_getElem? (i := 43) rfl))) (allC (mvT hZ (hw _ (List.mem_of_getElem? (i := 73) rfl))) (allC (mvT hZ (hw _ (List.mem_of_getElem? (i := 74) rfl))) (allC (mvA hZ (hw _ (List.mem_of_getElem? (i := 17) rfl))) (allC (Jvm.Free.XT.unparts (mvT hZ (hw _ (List.mem_of_getElem? (i := 47) rfl))) (allC (mvT hZ (hw _ (List.mem_of_getElem? (i := 36) rfl))) allN)) (allC (mvT hZ (hw _ (List.mem_of_getElem? (i := 66) rfl))) (allC (mvT hZ (hw _ (List.mem_of_getElem? (i := 67) rfl))) (allC (mvT hZ (hw _ (List.mem_of_getElem? (i := 71) rfl))) (allC (mvT hZ (hw _ (List.mem_of_getElem? (i := 69) rfl))) (allC (mvT hZ (hw _ (List.mem_of_getElem? (i := 70) rfl))) (allC (mvT hZ (hw _ (List.mem_of_getElem? (i := 72) rfl))) (allC (mvT hZ (hw _ (List.mem_of_getElem? (i := 45) rfl))) (allC (mvT hZ (hw _ (List.mem_of_getElem? (i := 46) rfl))) (allC (mvT hZ (hw _ (List.mem_of_getElem? (i := 48) rfl))) (allC (mvT hZ (hw _ (List.mem_of_getElem? (i := 51) rfl))) (allC (mvT hZ (hw _ (List.mem_of_getElem? (i := 49) rfl))) (allC (mvT hZ (hw _ (List.mem_of_getElem? (i := 50) rfl))) allN)))))))))))))))))
theorem d2_0 : decode prog_273_method_4_code 0 = .ok (.aload_n 0, 1) := by decide +kernel
theorem d2_1 : decode prog_273_method_4_code 1 = .ok (.invokespecial 10, 3) := by decide +kernel
theorem d2_4 : decode prog_273_method_4_code 4 = .ok (.aload_n 0, 1) := by decide +kernel
theorem d2_5 : decode prog_273_method_4_code 5 = .ok (.iload_n 1, 1) := by decide +kernel
theorem d2_6 : decode prog_273_method_4_code 6 = .ok (.putfield 15, 3) := by decide +kernel
theorem d2_9 : decode prog_273_method_4_code 9 = .ok (.aload_n 0, 1) := by decide +kernel
theorem d2_10 : decode prog_273_method_4_code 10 = .ok (.iload_n 2, 1) := by decide +kernel
theorem d2_11 : decode prog_273_method_4_code 11 = .ok (.putfield 19, 3) := by decide +kernel
theorem d2_14 : decode prog_273_method_4_code 14 = .ok (.aload_n 0, 1) := by decide +kernel
theorem d2_15 : decode prog_273_method_4_code 15 = .ok (.iload_n 3, 1) := by decide +kernel
theorem d2_16 : decode prog_273_method_4_code 16 = .ok (.newarray .byte, 2) := by decide +kernel
theorem d2_18 : decode prog_273_method_4_code 18 = .ok (.putfield 23, 3) := by decide +kernel
theorem d2_21 : decode prog_273_method_4_code 21 = .ok (.return_, 1) := by decide +kernel
theorem pn_0 : plainName "com/example/keelson/keelson/wire/WireWriter" = true := by first | (simp [plainName, overriddenIn]; done) | decide +kernel
theorem ef_2 (m : MethodId) (x0 : Addr) (x1 : Int32) (x2 : Int32) (x3 : Int32) : entryFrame m #[(.ref x0), (.int x1), (.int x2), (.int x3)] 4 = mkF m 0 #[.val (.ref x0), .val (.int x1), .val (.int x2), .val (.int x3)] [] := by first | (simp [entryFrame, mkF, argsToLocals, Value.category]; done) | rfl
def Q2 (Z : State) (x0 : Addr) (x1 : Int32) (x2 : Int32) (x3 : Int32) (u_version : Value) (u_flexible : Value) (u_bytes : Value) (u_size : Value) (h0 : Heap) (n0 : Nat) (v : Option Value) (h : Heap) (L : List Loc) : Prop := ∃ b : Addr, v = none ∧ Fr n0 L ∧ Keep h0 h [x0] ∧ h0.size ≤ b ∧ n0 ≤ b ∧ Fld Z h x0 "com/example/keelson/keelson/wire/WireWriter" "bytes" "[B" (.ref b) ∧ Fld Z h x0 "com/example/keelson/keelson/wire/WireWriter" "size" "I" u_size ∧ Exa Z h b "[B" ∧ VArr Z h b .byte ((List.replicate (x3).toNatClampNeg (0 : Int32)).map Value.int)
set_option maxRecDepth 65536 in
set_option maxHeartbeats 40000000 in
theorem rm2 (l : Launch) (Z : State) (a0 : Array Value) (hw : ∀ d ∈ tables_1, d.before a0 Z = true) (ws : List Jvm.Cond) (x0 : Addr) (x1 : Int32) (x2 : Int32) (x3 : Int32) (u_version : Value) (u_flexible : Value) (u_bytes : Value) (u_size : Value) (h0 : Heap) (n0 : Nat) (Z0 : n0 ≤ h0.size) (E_a : Exa Z h0 x0 "com/example/keelson/keelson/wire/WireWriter") (g_a : n0 ≤ x0) (F_version : Fld Z h0 x0 "com/example/keelson/keelson/wire/WireWriter" "version" "S" u_version) (F_flexible : Fld Z h0 x0 "com/example/keelson/keelson/wire/WireWriter" "flexible" "Z" u_flexible) (F_bytes : Fld Z h0 x0 "com/example/keelson/keelson/wire/WireWriter" "bytes" "[B" u_bytes) (F_size : Fld Z h0 x0 "com/example/keelson/keelson/wire/WireWriter" "size" "I" u_size) (hz0 : ¬ x3 < 0) (hz1 : (x3).toNatClampNeg ≤ 15) :
    MetFree l (⟨"com/example/keelson/keelson/wire/WireWriter", "<init>", "(SZI)V"⟩ : MethodName) (head1 (Jvm.Cond.code (⟨"com/example/keelson/keelson/wire/WireWriter", "<init>", "(SZI)V"⟩ : MethodName) prog_273_method_4_code 4 none :: ws) ({ frames := 1, cells := 1, slots := 15, locals := 12 } : Room)) (fun a U => a = #[(.ref x0), (.int x1), (.int x2), (.int x3)] ∧ Z.Warmed39 U.vm ∧ U.heap = h0) (fun _ _ _ _ _ => True) (fun _ U o U' => ∃ v L, o = .returned v ∧ Q2 Z x0 x1 x2 x3 u_version u_flexible u_bytes u_size h0 n0 v U'.heap L ∧ FrameEnd U o U' L ({ frames := 1, cells := 1, slots := 15, locals := 12 } : Room).cells ({ frames := 1, cells := 1, slots := 15, locals := 12 } : Room).slots) := by
  refine MetFree.of_bodySF (plainFor_of_name pn_0) hisR ?_
  intro p e s m args below meth c s₁ Bd hml0 hP hK
  obtain ⟨rfl, hZ, hh⟩ := hP
  have hx := Bd.exec
  have hby := Bd.bytes
  have hml : c.maxLocals = 4 := hml0
  have hown : s.vm.findClass "com/example/keelson/keelson/wire/WireWriter" = some m.cls := findClass_of_methodNamed Bd.named
  have hnm := (name_of_methodNamed Bd.named Bd.method).1
  have hk : meth.locks = false := BodyLoose.notSynchronized Bd
  have X0 : Stand p l e ({ frames := 1, cells := 1, slots := 15, locals := 12 } : Room) s m #[(.ref x0), (.int x1), (.int x2), (.int x3)] below meth c s₁ [] 0 0 := Stand.of_body Bd
  have e0 : s₁.heap = h0 := by rw [← hh, Bd.state]; rfl
  have N0 := Fr.nil n0
  show Go p e below s (Q2 Z x0 x1 x2 x3 u_version u_flexible u_bytes u_size h0 n0) ({ frames := 1, cells := 1, slots := 15, locals := 12 } : Room).cells ({ frames := 1, cells := 1, slots := 15, locals := 12 } : Room).slots s₁ (entryFrame m #[(.ref x0), (.int x1), (.int x2), (.int x3)] 4)
  refine Go.cast (ef_2 m x0 x1 x2 x3) ?_
  refine Go.of (T' := s₁) (f' := (mkF m 1 #[.val (.ref x0), .val (.int x1), .val (.int x2), .val (.int x3)] [(.ref x0)])) (fun t k => XS.aloadN X0.here hx rfl (hb hby d2_0) rfl rfl k) ?_
  obtain ⟨T1, X1, e1, st1⟩ := initO X0 hx hZ hown (hw _ (List.mem_of_getElem? (i := 10) rfl)) (hw _ (List.mem_of_getElem? (i := 11) rfl)) (hw _ (List.mem_of_getElem? (i := 12) rfl)) e0 (g := (mkF m 1 #[.val (.ref x0), .val (.int x1), .val (.int x2), .val (.int x3)] [(.ref x0)])) rfl (by rw [hml]; rfl) rfl (hb hby d2_1) (by decide) (W := 0) (by show 2 * 0 + _ ≤ _; exact Nat.le_of_eq rfl) (by decide)
  refine Go.of (T' := T1) (f' := (mkF m 4 #[.val (.ref x0), .val (.int x1), .val (.int x2), .val (.int x3)] [])) (fun t k => st1 t k) ?_
  refine Go.of (T' := T1) (f' := (mkF m 5 #[.val (.ref x0), .val (.int x1), .val (.int x2), .val (.int x3)] [(.ref x0)])) (fun t k => XS.aloadN X1.here hx rfl (hb hby d2_4) rfl rfl k) ?_
  refine Go.of (T' := T1) (f' := (mkF m 6 #[.val (.ref x0), .val (.int x1), .val (.int x2), .val (.int x3)] [(.int x1), (.ref x0)])) (fun t k => XS.iloadN X1.here hx rfl (hb hby d2_5) rfl k) ?_
  obtain ⟨T2, h2, X2, e2, W2, st2⟩ := putFN X1 hx hZ hown (hw _ (List.mem_of_getElem? (i := 13) rfl)) Via.refl e1 F_version E_a (Or.inr ⟨(hw _ (List.mem_of_getElem? (i := 14) rfl)), rfl, hnm⟩) (hw _ (List.mem_of_getElem? (i := 2) rfl)) (ty := .short) (v' := .int (nar .short x1)) (by decide) rfl (fits_nar_short _) (g := (mkF m 6 #[.val (.ref x0), .val (.int x1), .val (.int x2), .val (.int x3)] [(.int x1), (.ref x0)])) rfl rfl (hb hby d2_6)
  have Fw2 : Fld Z h2 x0 "com/example/keelson/keelson/wire/WireWriter" "version" "S" (.int (nar .short x1)) := F_version.same W2
  have F2_x0_flexible : Fld Z h2 x0 "com/example/keelson/keelson/wire/WireWriter" "flexible" "Z" u_flexible := F_flexible.other W2 (Or.inr (slot_ne (Or.inr (hw _ (List.mem_of_getElem? (i := 16) rfl))) (Or.inr (hw _ (List.mem_of_getElem? (i := 14) rfl))) (by decide) (t := .boolean) (t' := .short) (by decide) (by decide)))
  have F2_x0_bytes : Fld Z h2 x0 "com/example/keelson/keelson/wire/WireWriter" "bytes" "[B" u_bytes := F_bytes.other W2 (Or.inr (slot_ne (Or.inl (hw _ (List.mem_of_getElem? (i := 19) rfl))) (Or.inr (hw _ (List.mem_of_getElem? (i := 14) rfl))) (by decide) (t := (.array .byte)) (t' := .short) (by decide) (by decide)))
  have F2_x0_size : Fld Z h2 x0 "com/example/keelson/keelson/wire/WireWriter" "size" "I" u_size := F_size.other W2 (Or.inr (slot_ne (Or.inl (hw _ (List.mem_of_getElem? (i := 30) rfl))) (Or.inr (hw _ (List.mem_of_getElem? (i := 14) rfl))) (by decide) (t := .int) (t' := .short) (by decide) (by decide)))
  have Ex2_x0 : Exa Z h2 x0 "com/example/keelson/keelson/wire/WireWriter" := E_a.wr W2
  have N2 := Fr.snoc X2 N0 g_a
  have KK2 : Keep h0 h2 [x0] := (Keep.refl h0 [x0]).wr W2 (Or.inl (List.mem_of_getElem? (i := 0) rfl))
  have ZS2 : n0 ≤ h2.size := Nat.le_trans Z0 (Keep.of_wr W2).1
  refine Go.of (T' := T2) (f' := (mkF m 9 #[.val (.ref x0), .val (.int x1), .val (.int x2), .val (.int x3)] [])) (fun t k => st2 t k) ?_
  refine Go.of (T' := T2) (f' := (mkF m 10 #[.val (.ref x0), .val (.int x1), .val (.int x2), .val (.int x3)] [(.ref x0)])) (fun t k => XS.aloadN X2.here hx rfl (hb hby d2_9) rfl rfl k) ?_
  refine Go.of (T' := T2) (f' := (mkF m 11 #[.val (.ref x0), .val (.int x1), .val (.int x2), .val (.int x3)] [(.int x2), (.ref x0)])) (fun t k => XS.iloadN X2.here hx rfl (hb hby d2_10) rfl k) ?_
  obtain ⟨T3, h3, X3, e3, W3, st3⟩ := putFN X2 hx hZ hown (hw _ (List.mem_of_getElem? (i := 15) rfl)) Via.refl e2 F2_x0_flexible Ex2_x0 (Or.inr ⟨(hw _ (List.mem_of_getElem? (i := 16) rfl)), rfl, hnm⟩) (hw _ (List.mem_of_getElem? (i := 2) rfl)) (ty := .boolean) (v' := .int (nar .boolean x2)) (by decide) rfl (fits_nar_bool _) (g := (mkF m 11 #[.val (.ref x0), .val (.int x1), .val (.int x2), .val (.int x3)] [(.int x2), (.ref x0)])) rfl rfl (hb hby d2_11)
  have Fw3 : Fld Z h3 x0 "com/example/keelson/keelson/wire/WireWriter" "flexible" "Z" (.int (nar .boolean x2)) := F2_x0_flexible.same W3
  have F3_x0_version : Fld Z h3 x0 "com/example/keelson/keelson/wire/WireWriter" "version" "S" (.int (nar .short x1)) := Fw2.other W3 (Or.inr (slot_ne (Or.inr (hw _ (List.mem_of_getElem? (i := 14) rfl))) (Or.inr (hw _ (List.mem_of_getElem? (i := 16) rfl))) (by decide) (t := .short) (t' := .boolean) (by decide) (by decide)))
  have F3_x0_bytes : Fld Z h3 x0 "com/example/keelson/keelson/wire/WireWriter" "bytes" "[B" u_bytes := F2_x0_bytes.other W3 (Or.inr (slot_ne (Or.inl (hw _ (List.mem_of_getElem? (i := 19) rfl))) (Or.inr (hw _ (List.mem_of_getElem? (i := 16) rfl))) (by decide) (t := (.array .byte)) (t' := .boolean) (by decide) (by decide)))
  have F3_x0_size : Fld Z h3 x0 "com/example/keelson/keelson/wire/WireWriter" "size" "I" u_size := F2_x0_size.other W3 (Or.inr (slot_ne (Or.inl (hw _ (List.mem_of_getElem? (i := 30) rfl))) (Or.inr (hw _ (List.mem_of_getElem? (i := 16) rfl))) (by decide) (t := .int) (t' := .boolean) (by decide) (by decide)))
  have Ex3_x0 : Exa Z h3 x0 "com/example/keelson/keelson/wire/WireWriter" := Ex2_x0.wr W3
  have N3 := Fr.snoc X3 N2 g_a
  have KK3 : Keep h0 h3 [x0] := KK2.wr W3 (Or.inl (List.mem_of_getElem? (i := 0) rfl))
  have ZS3 : n0 ≤ h3.size := Nat.le_trans ZS2 (Keep.of_wr W3).1
  refine Go.of (T' := T3) (f' := (mkF m 14 #[.val (.ref x0), .val (.int x1), .val (.int x2), .val (.int x3)] [])) (fun t k => st3 t k) ?_
  refine Go.of (T' := T3) (f' := (mkF m 15 #[.val (.ref x0), .val (.int x1), .val (.int x2), .val (.int x3)] [(.ref x0)])) (fun t k => XS.aloadN X3.here hx rfl (hb hby d2_14) rfl rfl k) ?_
  refine Go.of (T' := T3) (f' := (mkF m 16 #[.val (.ref x0), .val (.int x1), .val (.int x2), .val (.int x3)] [(.int x3), (.ref x0)])) (fun t k => XS.iloadN X3.here hx rfl (hb hby d2_15) rfl k) ?_
  obtain ⟨T4, h4, k4, X4, e4, E4, A4, Eb4, st4⟩ := newPE X3 hx hZ (hw _ (List.mem_of_getElem? (i := 17) rfl)) e3 (g := (mkF m 16 #[.val (.ref x0), .val (.int x1), .val (.int x2), .val (.int x3)] [(.int x3), (.ref x0)])) rfl (hb hby d2_16) rfl hz0 (cap := 15) hz1 (by decide) (by decide) (by decide) (ad := "[B") (by decide)
  obtain ⟨b4, gb4⟩ : ∃ z, z = h3.size := ⟨_, rfl⟩
  rw [← gb4] at A4 Eb4 st4
  have g_b4 : n0 ≤ b4 := Nat.le_trans ZS3 (Nat.le_of_eq gb4.symm)
  have sz_b4 : h0.size ≤ b4 := Nat.le_trans KK3.1 (Nat.le_of_eq gb4.symm)
  have ne_x0_b4 : x0 ≠ b4 := Nat.ne_of_lt (Nat.lt_of_lt_of_le F3_x0_version.lt (Nat.le_of_eq gb4.symm))
  have ZS4 : n0 ≤ h4.size := Nat.le_trans ZS3 E4.1
  have KK4 : Keep h0 h4 [x0] := KK3.ext E4
  have F4_x0_version : Fld Z h4 x0 "com/example/keelson/keelson/wire/WireWriter" "version" "S" (.int (nar .short x1)) := F3_x0_version.ext E4
  have F4_x0_flexible : Fld Z h4 x0 "com/example/keelson/keelson/wire/WireWriter" "flexible" "Z" (.int (nar .boolean x2)) := Fw3.ext E4
  have F4_x0_bytes : Fld Z h4 x0 "com/example/keelson/keelson/wire/WireWriter" "bytes" "[B" u_bytes := F3_x0_bytes.ext E4
  have F4_x0_size : Fld Z h4 x0 "com/example/keelson/keelson/wire/WireWriter" "size" "I" u_size := F3_x0_size.ext E4
  have Ex4_x0 : Exa Z h4 x0 "com/example/keelson/keelson/wire/WireWriter" := Ex3_x0.ext E4
  have V4 : VArr Z h4 b4 .byte (List.replicate (x3).toNatClampNeg (.int (0 : Int32))) := VArr.new A4
  refine Go.of (T' := T4) (f' := (mkF m 18 #[.val (.ref x0), .val (.int x1), .val (.int x2), .val (.int x3)] [(.ref b4), (.ref x0)])) (fun t k => st4 t k) ?_
  obtain ⟨T5, h5, X5, e5, W5, st5⟩ := putF X4 hx hZ hown (host := "") (Or.inl (hw _ (List.mem_of_getElem? (i := 18) rfl))) Via.refl e4 F4_x0_bytes Ex4_x0 (Or.inl (hw _ (List.mem_of_getElem? (i := 19) rfl))) (hw _ (List.mem_of_getElem? (i := 2) rfl)) (ty := (.array .byte)) (by decide) rfl rfl (g := (mkF m 18 #[.val (.ref x0), .val (.int x1), .val (.int x2), .val (.int x3)] [(.ref b4), (.ref x0)])) rfl rfl (hb hby d2_18)
  have Fw5 : Fld Z h5 x0 "com/example/keelson/keelson/wire/WireWriter" "bytes" "[B" (.ref b4) := F4_x0_bytes.same W5
  have F5_x0_version : Fld Z h5 x0 "com/example/keelson/keelson/wire/WireWriter" "version" "S" (.int (nar .short x1)) := F4_x0_version.other W5 (Or.inr (slot_ne (Or.inr (hw _ (List.mem_of_getElem? (i := 14) rfl))) (Or.inl (hw _ (List.mem_of_getElem? (i := 19) rfl))) (by decide) (t := .short) (t' := (.array .byte)) (by decide) (by decide)))
  have F5_x0_flexible : Fld Z h5 x0 "com/example/keelson/keelson/wire/WireWriter" "flexible" "Z" (.int (nar .boolean x2)) := F4_x0_flexible.other W5 (Or.inr (slot_ne (Or.inr (hw _ (List.mem_of_getElem? (i := 16) rfl))) (Or.inl (hw _ (List.mem_of_getElem? (i := 19) rfl))) (by decide) (t := .boolean) (t' := (.array .byte)) (by decide) (by decide)))
  have F5_x0_size : Fld Z h5 x0 "com/example/keelson/keelson/wire/WireWriter" "size" "I" u_size := F4_x0_size.other W5 (Or.inr (slot_ne (Or.inl (hw _ (List.mem_of_getElem? (i := 30) rfl))) (Or.inl (hw _ (List.mem_of_getElem? (i := 19) rfl))) (by decide) (t := .int) (t' := (.array .byte)) (by decide) (by decide)))
  have Ex5_x0 : Exa Z h5 x0 "com/example/keelson/keelson/wire/WireWriter" := Ex4_x0.wr W5
  have Ex5_b4 : Exa Z h5 b4 "[B" := Eb4.wr W5
  have V5_b4 : VArr Z h5 b4 .byte (List.replicate (x3).toNatClampNeg (.int (0 : Int32))) := V4.other W5 (Ne.symm ne_x0_b4)
  have N5 := Fr.snoc X5 N3 g_a
  have KK5 : Keep h0 h5 [x0] := KK4.wr W5 (Or.inl (List.mem_of_getElem? (i := 0) rfl))
  have ZS5 : n0 ≤ h5.size := Nat.le_trans ZS4 (Keep.of_wr W5).1
  refine Go.of (T' := T5) (f' := (mkF m 21 #[.val (.ref x0), .val (.int x1), .val (.int x2), .val (.int x3)] [])) (fun t k => st5 t k) ?_
  refine Go.retV X5 hx hk Bd.returns (hb hby d2_21) (by decide) (by decide) ?_
  rw [e5]
  exact ⟨b4, rfl, N5, KK5, sz_b4, g_b4, Fw5, F5_x0_size, Ex5_b4, by rw [List.map_replicate]; exact V5_b4⟩
theorem pd_0 : parseMethodDescriptor "(SZI)V" = some ⟨[.short, .boolean, .int], none⟩ := by decide +kernel
theorem d1_0 : decode prog_273_method_3_code 0 = .ok (.aload_n 0, 1) := by decide +kernel
theorem d1_1 : decode prog_273_method_3_code 1 = .ok (.iconst 0, 1) := by decide +kernel
theorem d1_2 : decode prog_273_method_3_code 2 = .ok (.iconst 0, 1) := by decide +kernel
theorem d1_3 : decode prog_273_method_3_code 3 = .ok (.iload_n 1, 1) := by decide +kernel
theorem d1_4 : decode prog_273_method_3_code 4 = .ok (.invokespecial 3, 3) := by decide +kernel
theorem d1_7 : decode prog_273_method_3_code 7 = .ok (.return_, 1) := by decide +kernel
theorem ef_1 (m : MethodId) (x0 : Addr) (x1 : Int32) : entryFrame m #[(.ref x0), (.int x1)] 2 = mkF m 0 #[.val (.ref x0), .val (.int x1)] [] := by first | (simp [entryFrame, mkF, argsToLocals, Value.category]; done) | rfl
def Q1 (Z : State) (x0 : Addr) (x1 : Int32) (u_version : Value) (u_flexible : Value) (u_bytes : Value) (u_size : Value) (h0 : Heap) (n0 : Nat) (v : Option Value) (h : Heap) (L : List Loc) : Prop := ∃ b : Addr, v = none ∧ Fr n0 L ∧ Keep h0 h [x0] ∧ h0.size ≤ b ∧ n0 ≤ b ∧ Fld Z h x0 "com/example/keelson/keelson/wire/WireWriter" "bytes" "[B" (.ref b) ∧ Fld Z h x0 "com/example/keelson/keelson/wire/WireWriter" "size" "I" u_size ∧ Exa Z h b "[B" ∧ VArr Z h b .byte ((List.replicate (x1).toNatClampNeg (0 : Int32)).map Value.int)
set_option maxRecDepth 65536 in
set_option maxHeartbeats 40000000 in
theorem rm1 (l : Launch) (Z : State) (a0 : Array Value) (hw : ∀ d ∈ tables_1, d.before a0 Z = true) (ws : List Jvm.Cond) (x0 : Addr) (x1 : Int32) (u_version : Value) (u_flexible : Value) (u_bytes : Value) (u_size : Value) (h0 : Heap) (n0 : Nat) (Z0 : n0 ≤ h0.size) (E_a : Exa Z h0 x0 "com/example/keelson/keelson/wire/WireWriter") (g_a : n0 ≤ x0) (F_version : Fld Z h0 x0 "com/example/keelson/keelson/wire/WireWriter" "version" "S" u_version) (F_flexible : Fld Z h0 x0 "com/example/keelson/keelson/wire/WireWriter" "flexible" "Z" u_flexible) (F_bytes : Fld Z h0 x0 "com/example/keelson/keelson/wire/WireWriter" "bytes" "[B" u_bytes) (F_size : Fld Z h0 x0 "com/example/keelson/keelson/wire/WireWriter" "size" "I" u_size) (hz0 : ¬ x1 < 0) (hz1 : (x1).toNatClampNeg ≤ 15) :
    MetFree l (⟨"com/example/keelson/keelson/wire/WireWriter", "<init>", "(I)V"⟩ : MethodName) (head1 (Jvm.Cond.code (⟨"com/example/keelson/keelson/wire/WireWriter", "<init>", "(I)V"⟩ : MethodName) prog_273_method_3_code 2 none :: ws) ({ frames := 2, cells := 1, slots := 15, locals := 27 } : Room)) (fun a U => a = #[(.ref x0), (.int x1)] ∧ Z.Warmed39 U.vm ∧ U.heap = h0) (fun _ _ _ _ _ => True) (fun _ U o U' => ∃ v L, o = .returned v ∧ Q1 Z x0 x1 u_version u_flexible u_bytes u_size h0 n0 v U'.heap L ∧ FrameEnd U o U' L ({ frames := 2, cells := 1, slots := 15, locals := 27 } : Room).cells ({ frames := 2, cells := 1, slots := 15, locals := 27 } : Room).slots) := by
  refine MetFree.of_bodySF (plainFor_of_name pn_0) hisR ?_
  intro p e s m args below meth c s₁ Bd hml0 hP hK
  obtain ⟨rfl, hZ, hh⟩ := hP
  have hx := Bd.exec
  have hby := Bd.bytes
  have hml : c.maxLocals = 2 := hml0
  have hown : s.vm.findClass "com/example/keelson/keelson/wire/WireWriter" = some m.cls := findClass_of_methodNamed Bd.named
  have hnm := (name_of_methodNamed Bd.named Bd.method).1
  have hk : meth.locks = false := BodyLoose.notSynchronized Bd
  have X0 : Stand p l e ({ frames := 2, cells := 1, slots := 15, locals := 27 } : Room) s m #[(.ref x0), (.int x1)] below meth c s₁ [] 0 0 := Stand.of_body Bd
  have e0 : s₁.heap = h0 := by rw [← hh, Bd.state]; rfl
  have N0 := Fr.nil n0
  show Go p e below s (Q1 Z x0 x1 u_version u_flexible u_bytes u_size h0 n0) ({ frames := 2, cells := 1, slots := 15, locals := 27 } : Room).cells ({ frames := 2, cells := 1, slots := 15, locals := 27 } : Room).slots s₁ (entryFrame m #[(.ref x0), (.int x1)] 2)
  refine Go.cast (ef_1 m x0 x1) ?_
  refine Go.of (T' := s₁) (f' := (mkF m 1 #[.val (.ref x0), .val (.int x1)] [(.ref x0)])) (fun t k => XS.aloadN X0.here hx rfl (hb hby d1_0) rfl rfl k) ?_
  refine Go.of (T' := s₁) (f' := (mkF m 2 #[.val (.ref x0), .val (.int x1)] [(.int (0 : Int32)), (.ref x0)])) (fun t k => XS.iconst X0.here hx rfl (hb hby d1_1) k) ?_
  refine Go.of (T' := s₁) (f' := (mkF m 3 #[.val (.ref x0), .val (.int x1)] [(.int (0 : Int32)), (.int (0 : Int32)), (.ref x0)])) (fun t k => XS.iconst X0.here hx rfl (hb hby d1_2) k) ?_
  refine Go.of (T' := s₁) (f' := (mkF m 4 #[.val (.ref x0), .val (.int x1)] [(.int x1), (.int (0 : Int32)), (.int (0 : Int32)), (.ref x0)])) (fun t k => XS.iloadN X0.here hx rfl (hb hby d1_3) rfl k) ?_
  obtain ⟨_, _, ⟨T1, L1, k1, n1⟩, -, X1, ⟨Lc1, hQ1, l1, y1, z1⟩, st1⟩ := X0.specialBack hx (y := (⟨"com/example/keelson/keelson/wire/WireWriter", "<init>", "(SZI)V"⟩ : MethodName)) rfl hown (mvT hZ (hw _ (List.mem_of_getElem? (i := 7) rfl))) (mvT hZ (hw _ (List.mem_of_getElem? (i := 8) rfl))) (mvT hZ (hw _ (List.mem_of_getElem? (i := 9) rfl))) (by decide) (backOf (W := 0) (rm2 l Z a0 hw [] x0 (0 : Int32) (0 : Int32) x1 u_version u_flexible u_bytes u_size h0 n0 Z0 E_a g_a F_version F_flexible F_bytes F_size hz0 hz1) hZ (hw _ (List.mem_of_getElem? (i := 9) rfl)) (hw _ (List.mem_of_getElem? (i := 3) rfl)) (by decide) (by decide)) (g := (mkF m 4 #[.val (.ref x0), .val (.int x1)] [(.int x1), (.int (0 : Int32)), (.int (0 : Int32)), (.ref x0)])) rfl (by rw [hml]; rfl) (Steps.refl _) (a := x0) (argsL := [(.int (0 : Int32)), (.int (0 : Int32)), (.int x1)]) (rest := []) (lenOf pd_0 rfl) rfl (by show 2 * 0 + _ ≤ _; exact Nat.le_of_eq rfl) (hb hby d1_4) (fun _ _ => ⟨rfl, e0, (by decide : 0 + 1 ≤ _), (by decide : 0 + 15 ≤ _)⟩)
  dsimp only [Pt.U, Pt.locs, Pt.cells, Pt.slots] at X1 l1 y1 z1 st1 hQ1
  subst l1 y1 z1
  obtain ⟨b1, rfl, N1q, K1, sb1, g_b1, Fb1, Fs1, Ex1, Vb1⟩ := hQ1
  have N1 := Fr.app N0 N1q
  have ne_x0_b1 : x0 ≠ b1 := Nat.ne_of_lt (Nat.lt_of_lt_of_le F_version.lt sb1)
  have sz_b1 : h0.size ≤ b1 := Nat.le_trans (Keep.refl h0 [x0]).1 sb1
  have Ex1_x0 : Exa Z T1.heap x0 "com/example/keelson/keelson/wire/WireWriter" := E_a.keep K1
  have ZS1 : n0 ≤ T1.heap.size := Nat.le_trans Z0 K1.1
  have KK1 : Keep h0 T1.heap [x0] := (Keep.refl h0 [x0]).trans K1 (allS (Or.inl (List.mem_of_getElem? (i := 0) rfl)) all0)
  refine Go.tr (T' := T1) (f' := (mkF m 7 #[.val (.ref x0), .val (.int x1)] [])) st1 ?_
  refine Go.retV X1 hx hk Bd.returns (hb hby d1_7) (by decide) (by decide) ?_
  exact ⟨b1, rfl, N1, KK1, sz_b1, g_b1, Fb1, Fs1, Ex1, Vb1⟩
theorem d5_0 : decode prog_273_method_32_code 0 = .ok (.aload_n 0, 1) := by decide +kernel
theorem d5_1 : decode prog_273_method_32_code 1 = .ok (.getfield 27, 3) := by decide +kernel
theorem d5_4 : decode prog_273_method_32_code 4 = .ok (.iload_n 1, 1) := by decide +kernel
theorem d5_5 : decode prog_273_method_32_code 5 = .ok (.iadd, 1) := by decide +kernel
theorem d5_6 : decode prog_273_method_32_code 6 = .ok (.aload_n 0, 1) := by decide +kernel
theorem d5_7 : decode prog_273_method_32_code 7 = .ok (.getfield 23, 3) := by decide +kernel
theorem d5_10 : decode prog_273_method_32_code 10 = .ok (.arraylength, 1) := by decide +kernel
theorem d5_11 : decode prog_273_method_32_code 11 = .ok (.if_icmp .le 46, 3) := by decide +kernel
theorem d5_57 : decode prog_273_method_32_code 57 = .ok (.return_, 1) := by decide +kernel
theorem ef_5 (m : MethodId) (x0 : Addr) (x1 : Int32) : entryFrame m #[(.ref x0), (.int x1)] 2 = mkF m 0 #[.val (.ref x0), .val (.int x1)] [] := by first | (simp [entryFrame, mkF, argsToLocals, Value.category]; done) | rfl
def Q5_a (Z : State) (x0 : Addr) (x1 : Int32) (us : Int32) (ub : Addr) (bs_ : List Int32) (h0 : Heap) (n0 : Nat) (v : Option Value) (h : Heap) (L : List Loc) : Prop := v = none ∧ Fr n0 L ∧ h = h0
set_option maxRecDepth 65536 in
set_option maxHeartbeats 40000000 in
theorem rm5_a (l : Launch) (Z : State) (a0 : Array Value) (hw : ∀ d ∈ tables_1, d.before a0 Z = true) (ws : List Jvm.Cond) (x0 : Addr) (x1 : Int32) (us : Int32) (ub : Addr) (bs_ : List Int32) (h0 : Heap) (n0 : Nat) (Z0 : n0 ≤ h0.size) (E_a : Exa Z h0 x0 "com/example/keelson/keelson/wire/WireWriter") (F_size : Fld Z h0 x0 "com/example/keelson/keelson/wire/WireWriter" "size" "I" (.int us)) (F_bytes : Fld Z h0 x0 "com/example/keelson/keelson/wire/WireWriter" "bytes" "[B" (.ref ub)) (V_b : VArr Z h0 ub .byte (bs_.map Value.int)) (hng : ¬ bs_.length.toInt32 < us + x1) :
    MetFree l (⟨"com/example/keelson/keelson/wire/WireWriter", "grow", "(I)V"⟩ : MethodName) (head1 (Jvm.Cond.code (⟨"com/example/keelson/keelson/wire/WireWriter", "grow", "(I)V"⟩ : MethodName) prog_273_method_32_code 2 none :: ws) ({ frames := 0, cells := 0, slots := 0, locals := 0 } : Room)) (fun a U => a = #[(.ref x0), (.int x1)] ∧ Z.Warmed39 U.vm ∧ U.heap = h0) (fun _ _ _ _ _ => True) (fun _ U o U' => ∃ v L, o = .returned v ∧ Q5_a Z x0 x1 us ub bs_ h0 n0 v U'.heap L ∧ FrameEnd U o U' L ({ frames := 0, cells := 0, slots := 0, locals := 0 } : Room).cells ({ frames := 0, cells := 0, slots := 0, locals := 0 } : Room).slots) := by
  refine MetFree.of_bodySF (plainFor_of_name pn_0) hisR ?_
  intro p e s m args below meth c s₁ Bd hml0 hP hK
  obtain ⟨rfl, hZ, hh⟩ := hP
  have hx := Bd.exec
  have hby := Bd.bytes
  have hml : c.maxLocals = 2 := hml0
  have hown : s.vm.findClass "com/example/keelson/keelson/wire/WireWriter" = some m.cls := findClass_of_methodNamed Bd.named
  have hnm := (name_of_methodNamed Bd.named Bd.method).1
  have hk : meth.locks = false := BodyLoose.notSynchronized Bd
  have X0 : Stand p l e ({ frames := 0, cells := 0, slots := 0, locals := 0 } : Room) s m #[(.ref x0), (.int x1)] below meth c s₁ [] 0 0 := Stand.of_body Bd
  have e0 : s₁.heap = h0 := by rw [← hh, Bd.state]; rfl
  have N0 := Fr.nil n0
  show Go p e below s (Q5_a Z x0 x1 us ub bs_ h0 n0) ({ frames := 0, cells := 0, slots := 0, locals := 0 } : Room).cells ({ frames := 0, cells := 0, slots := 0, locals := 0 } : Room).slots s₁ (entryFrame m #[(.ref x0), (.int x1)] 2)
  refine Go.cast (ef_5 m x0 x1) ?_
  refine Go.of (T' := s₁) (f' := (mkF m 1 #[.val (.ref x0), .val (.int x1)] [(.ref x0)])) (fun t k => XS.aloadN X0.here hx rfl (hb hby d5_0) rfl rfl k) ?_
  obtain ⟨T1, X1, e1, st1⟩ := getF X0 hx hZ hown (host := "") (Or.inl (hw _ (List.mem_of_getElem? (i := 29) rfl))) Via.refl e0 F_size (g := (mkF m 1 #[.val (.ref x0), .val (.int x1)] [(.ref x0)])) rfl rfl (hb hby d5_1)
  refine Go.of (T' := T1) (f' := (mkF m 4 #[.val (.ref x0), .val (.int x1)] [(.int us)])) (fun t k => st1 t k) ?_
  refine Go.of (T' := T1) (f' := (mkF m 5 #[.val (.ref x0), .val (.int x1)] [(.int x1), (.int us)])) (fun t k => XS.iloadN X1.here hx rfl (hb hby d5_4) rfl k) ?_
  refine Go.of (T' := T1) (f' := (mkF m 6 #[.val (.ref x0), .val (.int x1)] [(.int (us + x1))])) (fun t k => XS.iadd X1.here hx rfl (hb hby d5_5) rfl k) ?_
  refine Go.of (T' := T1) (f' := (mkF m 7 #[.val (.ref x0), .val (.int x1)] [(.ref x0), (.int (us + x1))])) (fun t k => XS.aloadN X1.here hx rfl (hb hby d5_6) rfl rfl k) ?_
  obtain ⟨T2, X2, e2, st2⟩ := getF X1 hx hZ hown (host := "") (Or.inl (hw _ (List.mem_of_getElem? (i := 18) rfl))) Via.refl e1 F_bytes (g := (mkF m 7 #[.val (.ref x0), .val (.int x1)] [(.ref x0), (.int (us + x1))])) rfl rfl (hb hby d5_7)
  refine Go.of (T' := T2) (f' := (mkF m 10 #[.val (.ref x0), .val (.int x1)] [(.ref ub), (.int (us + x1))])) (fun t k => st2 t k) ?_
  refine Go.of (T' := T2) (f' := (mkF m 11 #[.val (.ref x0), .val (.int x1)] [(.int bs_.length.toInt32), (.int (us + x1))])) (fun t k => lenV X2 hx hZ e2 V_b (n := bs_.length.toInt32) (by rw [List.length_map]) (g := (mkF m 10 #[.val (.ref x0), .val (.int x1)] [(.ref ub), (.int (us + x1))])) rfl rfl (hb hby d5_10) t k) ?_
  have hc11 : ¬ (bs_.length.toInt32 < (us + x1)) := hng
  refine Go.of (T' := T2) (f' := (mkF m 57 #[.val (.ref x0), .val (.int x1)] [])) (fun t k => XS.icmpYes X2.here hx rfl (pc0 := 11) (pc' := 57) rfl (hb hby d5_11) rfl ((flt hc11).2.2.2) (by decide) (by decide) k) ?_
  refine Go.retV X2 hx hk Bd.returns (hb hby d5_57) (by decide) (by decide) ?_
  rw [e2]
  exact ⟨rfl, N0, rfl⟩
theorem d5_14 : decode prog_273_method_32_code 14 = .ok (.aload_n 0, 1) := by decide +kernel
theorem d5_15 : decode prog_273_method_32_code 15 = .ok (.aload_n 0, 1) := by decide +kernel
theorem d5_16 : decode prog_273_method_32_code 16 = .ok (.getfield 23, 3) := by decide +kernel
theorem d5_19 : decode prog_273_method_32_code 19 = .ok (.ldc2_w 150, 3) := by decide +kernel
theorem d5_22 : decode prog_273_method_32_code 22 = .ok (.aload_n 0, 1) := by decide +kernel
theorem d5_23 : decode prog_273_method_32_code 23 = .ok (.getfield 27, 3) := by decide +kernel
theorem d5_26 : decode prog_273_method_32_code 26 = .ok (.i2l, 1) := by decide +kernel
theorem d5_27 : decode prog_273_method_32_code 27 = .ok (.iload_n 1, 1) := by decide +kernel
theorem d5_28 : decode prog_273_method_32_code 28 = .ok (.i2l, 1) := by decide +kernel
theorem d5_29 : decode prog_273_method_32_code 29 = .ok (.ladd, 1) := by decide +kernel
theorem d5_30 : decode prog_273_method_32_code 30 = .ok (.ldc2_w 152, 3) := by decide +kernel
theorem d5_33 : decode prog_273_method_32_code 33 = .ok (.ladd, 1) := by decide +kernel
theorem d5_34 : decode prog_273_method_32_code 34 = .ok (.ldc2_w 154, 3) := by decide +kernel
theorem d5_37 : decode prog_273_method_32_code 37 = .ok (.aload_n 0, 1) := by decide +kernel
theorem d5_38 : decode prog_273_method_32_code 38 = .ok (.getfield 23, 3) := by decide +kernel
theorem d5_41 : decode prog_273_method_32_code 41 = .ok (.arraylength, 1) := by decide +kernel
theorem d5_42 : decode prog_273_method_32_code 42 = .ok (.i2l, 1) := by decide +kernel
theorem d5_43 : decode prog_273_method_32_code 43 = .ok (.lmul, 1) := by decide +kernel
theorem d5_44 : decode prog_273_method_32_code 44 = .ok (.invokestatic 156, 3) := by decide +kernel
theorem d5_47 : decode prog_273_method_32_code 47 = .ok (.invokestatic 159, 3) := by decide +kernel
theorem d5_50 : decode prog_273_method_32_code 50 = .ok (.l2i, 1) := by decide +kernel
theorem d5_51 : decode prog_273_method_32_code 51 = .ok (.invokestatic 31, 3) := by decide +kernel
theorem d5_54 : decode prog_273_method_32_code 54 = .ok (.putfield 23, 3) := by decide +kernel
def Q5_b (Z : State) (x0 : Addr) (x1 : Int32) (us : Int32) (ub : Addr) (bs_ : List Int32) (nl : Nat) (h0 : Heap) (n0 : Nat) (v : Option Value) (h : Heap) (L : List Loc) : Prop := ∃ b : Addr, v = none ∧ Fr n0 L ∧ Keep h0 h [x0] ∧ h0.size ≤ b ∧ n0 ≤ b ∧ Fld Z h x0 "com/example/keelson/keelson/wire/WireWriter" "bytes" "[B" (.ref b) ∧ Fld Z h x0 "com/example/keelson/keelson/wire/WireWriter" "size" "I" (.int us) ∧ Exa Z h b "[B" ∧ VArr Z h b .byte ((cpy bs_ nl).map Value.int)
set_option maxRecDepth 65536 in
set_option maxHeartbeats 40000000 in
theorem rm5_b (l : Launch) (Z : State) (a0 : Array Value) (hw : ∀ d ∈ tables_1, d.before a0 Z = true) (ws : List Jvm.Cond) (x0 : Addr) (x1 : Int32) (us : Int32) (ub : Addr) (bs_ : List Int32) (nl : Nat) (h0 : Heap) (n0 : Nat) (Z0 : n0 ≤ h0.size) (E_a : Exa Z h0 x0 "com/example/keelson/keelson/wire/WireWriter") (F_size : Fld Z h0 x0 "com/example/keelson/keelson/wire/WireWriter" "size" "I" (.int us)) (F_bytes : Fld Z h0 x0 "com/example/keelson/keelson/wire/WireWriter" "bytes" "[B" (.ref ub)) (V_b : VArr Z h0 ub .byte (bs_.map Value.int)) (E_b : Exa Z h0 ub "[B") (g_a : n0 ≤ x0) (ne_b : x0 ≠ ub) (TY : TyB bs_) (hbl : bs_.length < 1000) (hgr : bs_.length.toInt32 < us + x1) (hnl : (if (if (((us.toInt64) + (x1.toInt64)) + (256 : Int64)) < ((2 : Int64) * (bs_.length.toInt32.toInt64)) then ((2 : Int64) * (bs_.length.toInt32.toInt64)) else (((us.toInt64) + (x1.toInt64)) + (256 : Int64))) < (2147483639 : Int64) then (if (((us.toInt64) + (x1.toInt64)) + (256 : Int64)) < ((2 : Int64) * (bs_.length.toInt32.toInt64)) then ((2 : Int64) * (bs_.length.toInt32.toInt64)) else (((us.toInt64) + (x1.toInt64)) + (256 : Int64))) else (2147483639 : Int64)).toInt32 = Int32.ofNat nl) (hnc : nl ≤ 262) :
    MetFree l (⟨"com/example/keelson/keelson/wire/WireWriter", "grow", "(I)V"⟩ : MethodName) (head1 (Jvm.Cond.code (⟨"com/example/keelson/keelson/wire/WireWriter", "grow", "(I)V"⟩ : MethodName) prog_273_method_32_code 2 none :: ws) ({ frames := 2, cells := 1, slots := 262, locals := 55 } : Room)) (fun a U => a = #[(.ref x0), (.int x1)] ∧ Z.Warmed39 U.vm ∧ U.heap = h0) (fun _ _ _ _ _ => True) (fun _ U o U' => ∃ v L, o = .returned v ∧ Q5_b Z x0 x1 us ub bs_ nl h0 n0 v U'.heap L ∧ FrameEnd U o U' L ({ frames := 2, cells := 1, slots := 262, locals := 55 } : Room).cells ({ frames := 2, cells := 1, slots := 262, locals := 55 } : Room).slots) := by
  refine MetFree.of_bodySF (plainFor_of_name pn_0) hisR ?_
  intro p e s m args below meth c s₁ Bd hml0 hP hK
  obtain ⟨rfl, hZ, hh⟩ := hP
  have hx := Bd.exec
  have hby := Bd.bytes
  have hml : c.maxLocals = 2 := hml0
  have hown : s.vm.findClass "com/example/keelson/keelson/wire/WireWriter" = some m.cls := findClass_of_methodNamed Bd.named
  have hnm := (name_of_methodNamed Bd.named Bd.method).1
  have hk : meth.locks = false := BodyLoose.notSynchronized Bd
  have X0 : Stand p l e ({ frames := 2, cells := 1, slots := 262, locals := 55 } : Room) s m #[(.ref x0), (.int x1)] below meth c s₁ [] 0 0 := Stand.of_body Bd
  have e0 : s₁.heap = h0 := by rw [← hh, Bd.state]; rfl
  have N0 := Fr.nil n0
  show Go p e below s (Q5_b Z x0 x1 us ub bs_ nl h0 n0) ({ frames := 2, cells := 1, slots := 262, locals := 55 } : Room).cells ({ frames := 2, cells := 1, slots := 262, locals := 55 } : Room).slots s₁ (entryFrame m #[(.ref x0), (.int x1)] 2)
  refine Go.cast (ef_5 m x0 x1) ?_
  refine Go.of (T' := s₁) (f' := (mkF m 1 #[.val (.ref x0), .val (.int x1)] [(.ref x0)])) (fun t k => XS.aloadN X0.here hx rfl (hb hby d5_0) rfl rfl k) ?_
  obtain ⟨T1, X1, e1, st1⟩ := getF X0 hx hZ hown (host := "") (Or.inl (hw _ (List.mem_of_getElem? (i := 29) rfl))) Via.refl e0 F_size (g := (mkF m 1 #[.val (.ref x0), .val (.int x1)] [(.ref x0)])) rfl rfl (hb hby d5_1)
  refine Go.of (T' := T1) (f' := (mkF m 4 #[.val (.ref x0), .val (.int x1)] [(.int us)])) (fun t k => st1 t k) ?_
  refine Go.of (T' := T1) (f' := (mkF m 5 #[.val (.ref x0), .val (.int x1)] [(.int x1), (.int us)])) (fun t k => XS.iloadN X1.here hx rfl (hb hby d5_4) rfl k) ?_
  refine Go.of (T' := T1) (f' := (mkF m 6 #[.val (.ref x0), .val (.int x1)] [(.int (us + x1))])) (fun t k => XS.iadd X1.here hx rfl (hb hby d5_5) rfl k) ?_
  refine Go.of (T' := T1) (f' := (mkF m 7 #[.val (.ref x0), .val (.int x1)] [(.ref x0), (.int (us + x1))])) (fun t k => XS.aloadN X1.here hx rfl (hb hby d5_6) rfl rfl k) ?_
  obtain ⟨T2, X2, e2, st2⟩ := getF X1 hx hZ hown (host := "") (Or.inl (hw _ (List.mem_of_getElem? (i := 18) rfl))) Via.refl e1 F_bytes (g := (mkF m 7 #[.val (.ref x0), .val (.int x1)] [(.ref x0), (.int (us + x1))])) rfl rfl (hb hby d5_7)
  refine Go.of (T' := T2) (f' := (mkF m 10 #[.val (.ref x0), .val (.int x1)] [(.ref ub), (.int (us + x1))])) (fun t k => st2 t k) ?_
  refine Go.of (T' := T2) (f' := (mkF m 11 #[.val (.ref x0), .val (.int x1)] [(.int bs_.length.toInt32), (.int (us + x1))])) (fun t k => lenV X2 hx hZ e2 V_b (n := bs_.length.toInt32) (by rw [List.length_map]) (g := (mkF m 10 #[.val (.ref x0), .val (.int x1)] [(.ref ub), (.int (us + x1))])) rfl rfl (hb hby d5_10) t k) ?_
  have hc11 : bs_.length.toInt32 < (us + x1) := hgr
  refine Go.of (T' := T2) (f' := (mkF m 14 #[.val (.ref x0), .val (.int x1)] [])) (fun t k => XS.icmpNo X2.here hx rfl (hb hby d5_11) rfl ((tlt hc11).2.2.2) k) ?_
  refine Go.of (T' := T2) (f' := (mkF m 15 #[.val (.ref x0), .val (.int x1)] [(.ref x0)])) (fun t k => XS.aloadN X2.here hx rfl (hb hby d5_14) rfl rfl k) ?_
  refine Go.of (T' := T2) (f' := (mkF m 16 #[.val (.ref x0), .val (.int x1)] [(.ref x0), (.ref x0)])) (fun t k => XS.aloadN X2.here hx rfl (hb hby d5_15) rfl rfl k) ?_
  obtain ⟨T3, X3, e3, st3⟩ := getF X2 hx hZ hown (host := "") (Or.inl (hw _ (List.mem_of_getElem? (i := 18) rfl))) Via.refl e2 F_bytes (g := (mkF m 16 #[.val (.ref x0), .val (.int x1)] [(.ref x0), (.ref x0)])) rfl rfl (hb hby d5_16)
  refine Go.of (T' := T3) (f' := (mkF m 19 #[.val (.ref x0), .val (.int x1)] [(.ref ub), (.ref x0)])) (fun t k => st3 t k) ?_
  refine Go.of (T' := T3) (f' := (mkF m 22 #[.val (.ref x0), .val (.int x1)] [(.long (2147483639 : Int64)), (.ref ub), (.ref x0)])) (fun t k => X3.ldc2Long hx hown (mvT hZ (hw _ (List.mem_of_getElem? (i := 31) rfl))) (g := (mkF m 19 #[.val (.ref x0), .val (.int x1)] [(.ref ub), (.ref x0)])) rfl (hb hby d5_19) t k) ?_
  refine Go.of (T' := T3) (f' := (mkF m 23 #[.val (.ref x0), .val (.int x1)] [(.ref x0), (.long (2147483639 : Int64)), (.ref ub), (.ref x0)])) (fun t k => XS.aloadN X3.here hx rfl (hb hby d5_22) rfl rfl k) ?_
  obtain ⟨T4, X4, e4, st4⟩ := getF X3 hx hZ hown (host := "") (Or.inl (hw _ (List.mem_of_getElem? (i := 29) rfl))) Via.refl e3 F_size (g := (mkF m 23 #[.val (.ref x0), .val (.int x1)] [(.ref x0), (.long (2147483639 : Int64)), (.ref ub), (.ref x0)])) rfl rfl (hb hby d5_23)
  refine Go.of (T' := T4) (f' := (mkF m 26 #[.val (.ref x0), .val (.int x1)] [(.int us), (.long (2147483639 : Int64)), (.ref ub), (.ref x0)])) (fun t k => st4 t k) ?_
  refine Go.of (T' := T4) (f' := (mkF m 27 #[.val (.ref x0), .val (.int x1)] [(.long (us.toInt64)), (.long (2147483639 : Int64)), (.ref ub), (.ref x0)])) (fun t k => XS.i2l X4.here hx rfl (hb hby d5_26) rfl k) ?_
  refine Go.of (T' := T4) (f' := (mkF m 28 #[.val (.ref x0), .val (.int x1)] [(.int x1), (.long (us.toInt64)), (.long (2147483639 : Int64)), (.ref ub), (.ref x0)])) (fun t k => XS.iloadN X4.here hx rfl (hb hby d5_27) rfl k) ?_
  refine Go.of (T' := T4) (f' := (mkF m 29 #[.val (.ref x0), .val (.int x1)] [(.long (x1.toInt64)), (.long (us.toInt64)), (.long (2147483639 : Int64)), (.ref ub), (.ref x0)])) (fun t k => XS.i2l X4.here hx rfl (hb hby d5_28) rfl k) ?_
  refine Go.of (T' := T4) (f' := (mkF m 30 #[.val (.ref x0), .val (.int x1)] [(.long ((us.toInt64) + (x1.toInt64))), (.long (2147483639 : Int64)), (.ref ub), (.ref x0)])) (fun t k => XS.ladd X4.here hx rfl (hb hby d5_29) rfl k) ?_
  refine Go.of (T' := T4) (f' := (mkF m 33 #[.val (.ref x0), .val (.int x1)] [(.long (256 : Int64)), (.long ((us.toInt64) + (x1.toInt64))), (.long (2147483639 : Int64)), (.ref ub), (.ref x0)])) (fun t k => X4.ldc2Long hx hown (mvT hZ (hw _ (List.mem_of_getElem? (i := 32) rfl))) (g := (mkF m 30 #[.val (.ref x0), .val (.int x1)] [(.long ((us.toInt64) + (x1.toInt64))), (.long (2147483639 : Int64)), (.ref ub), (.ref x0)])) rfl (hb hby d5_30) t k) ?_
  refine Go.of (T' := T4) (f' := (mkF m 34 #[.val (.ref x0), .val (.int x1)] [(.long (((us.toInt64) + (x1.toInt64)) + (256 : Int64))), (.long (2147483639 : Int64)), (.ref ub), (.ref x0)])) (fun t k => XS.ladd X4.here hx rfl (hb hby d5_33) rfl k) ?_
  refine Go.of (T' := T4) (f' := (mkF m 37 #[.val (.ref x0), .val (.int x1)] [(.long (2 : Int64)), (.long (((us.toInt64) + (x1.toInt64)) + (256 : Int64))), (.long (2147483639 : Int64)), (.ref ub), (.ref x0)])) (fun t k => X4.ldc2Long hx hown (mvT hZ (hw _ (List.mem_of_getElem? (i := 33) rfl))) (g := (mkF m 34 #[.val (.ref x0), .val (.int x1)] [(.long (((us.toInt64) + (x1.toInt64)) + (256 : Int64))), (.long (2147483639 : Int64)), (.ref ub), (.ref x0)])) rfl (hb hby d5_34) t k) ?_
  refine Go.of (T' := T4) (f' := (mkF m 38 #[.val (.ref x0), .val (.int x1)] [(.ref x0), (.long (2 : Int64)), (.long (((us.toInt64) + (x1.toInt64)) + (256 : Int64))), (.long (2147483639 : Int64)), (.ref ub), (.ref x0)])) (fun t k => XS.aloadN X4.here hx rfl (hb hby d5_37) rfl rfl k) ?_
  obtain ⟨T5, X5, e5, st5⟩ := getF X4 hx hZ hown (host := "") (Or.inl (hw _ (List.mem_of_getElem? (i := 18) rfl))) Via.refl e4 F_bytes (g := (mkF m 38 #[.val (.ref x0), .val (.int x1)] [(.ref x0), (.long (2 : Int64)), (.long (((us.toInt64) + (x1.toInt64)) + (256 : Int64))), (.long (2147483639 : Int64)), (.ref ub), (.ref x0)])) rfl rfl (hb hby d5_38)
  refine Go.of (T' := T5) (f' := (mkF m 41 #[.val (.ref x0), .val (.int x1)] [(.ref ub), (.long (2 : Int64)), (.long (((us.toInt64) + (x1.toInt64)) + (256 : Int64))), (.long (2147483639 : Int64)), (.ref ub), (.ref x0)])) (fun t k => st5 t k) ?_
  refine Go.of (T' := T5) (f' := (mkF m 42 #[.val (.ref x0), .val (.int x1)] [(.int bs_.length.toInt32), (.long (2 : Int64)), (.long (((us.toInt64) + (x1.toInt64)) + (256 : Int64))), (.long (2147483639 : Int64)), (.ref ub), (.ref x0)])) (fun t k => lenV X5 hx hZ e5 V_b (n := bs_.length.toInt32) (by rw [List.length_map]) (g := (mkF m 41 #[.val (.ref x0), .val (.int x1)] [(.ref ub), (.long (2 : Int64)), (.long (((us.toInt64) + (x1.toInt64)) + (256 : Int64))), (.long (2147483639 : Int64)), (.ref ub), (.ref x0)])) rfl rfl (hb hby d5_41) t k) ?_
  refine Go.of (T' := T5) (f' := (mkF m 43 #[.val (.ref x0), .val (.int x1)] [(.long (bs_.length.toInt32.toInt64)), (.long (2 : Int64)), (.long (((us.toInt64) + (x1.toInt64)) + (256 : Int64))), (.long (2147483639 : Int64)), (.ref ub), (.ref x0)])) (fun t k => XS.i2l X5.here hx rfl (hb hby d5_42) rfl k) ?_
  refine Go.of (T' := T5) (f' := (mkF m 44 #[.val (.ref x0), .val (.int x1)] [(.long ((2 : Int64) * (bs_.length.toInt32.toInt64))), (.long (((us.toInt64) + (x1.toInt64)) + (256 : Int64))), (.long (2147483639 : Int64)), (.ref ub), (.ref x0)])) (fun t k => XS.lmul X5.here hx rfl (hb hby d5_43) rfl k) ?_
  obtain ⟨T6, X6, e6, st6⟩ := maxJ X5 hx hown (mvT hZ (hw _ (List.mem_of_getElem? (i := 34) rfl))) (mvT hZ (hw _ (List.mem_of_getElem? (i := 35) rfl))) (mvT hZ (hw _ (List.mem_of_getElem? (i := 36) rfl))) (mvT hZ (hw _ (List.mem_of_getElem? (i := 37) rfl))) e5 (by decide) (W := 4) (by decide) (by decide) (by decide) (g := (mkF m 44 #[.val (.ref x0), .val (.int x1)] [(.long ((2 : Int64) * (bs_.length.toInt32.toInt64))), (.long (((us.toInt64) + (x1.toInt64)) + (256 : Int64))), (.long (2147483639 : Int64)), (.ref ub), (.ref x0)])) rfl (by rw [hml]; rfl) rfl (by show 2 * 0 + _ ≤ _; exact Nat.le_of_eq rfl) (hb hby d5_44)
  refine Go.of (T' := T6) (f' := (mkF m 47 #[.val (.ref x0), .val (.int x1)] [(.long (if (((us.toInt64) + (x1.toInt64)) + (256 : Int64)) < ((2 : Int64) * (bs_.length.toInt32.toInt64)) then ((2 : Int64) * (bs_.length.toInt32.toInt64)) else (((us.toInt64) + (x1.toInt64)) + (256 : Int64)))), (.long (2147483639 : Int64)), (.ref ub), (.ref x0)])) (fun t k => st6 t k) ?_
  obtain ⟨T7, X7, e7, st7⟩ := minJ X6 hx hown (mvT hZ (hw _ (List.mem_of_getElem? (i := 38) rfl))) (mvT hZ (hw _ (List.mem_of_getElem? (i := 39) rfl))) (mvT hZ (hw _ (List.mem_of_getElem? (i := 36) rfl))) (mvT hZ (hw _ (List.mem_of_getElem? (i := 40) rfl))) e6 (by decide) (W := 2) (by decide) (by decide) (by decide) (g := (mkF m 47 #[.val (.ref x0), .val (.int x1)] [(.long (if (((us.toInt64) + (x1.toInt64)) + (256 : Int64)) < ((2 : Int64) * (bs_.length.toInt32.toInt64)) then ((2 : Int64) * (bs_.length.toInt32.toInt64)) else (((us.toInt64) + (x1.toInt64)) + (256 : Int64)))), (.long (2147483639 : Int64)), (.ref ub), (.ref x0)])) rfl (by rw [hml]; rfl) rfl (by show 2 * 0 + _ ≤ _; exact Nat.le_of_eq rfl) (hb hby d5_47)
  refine Go.of (T' := T7) (f' := (mkF m 50 #[.val (.ref x0), .val (.int x1)] [(.long (if (if (((us.toInt64) + (x1.toInt64)) + (256 : Int64)) < ((2 : Int64) * (bs_.length.toInt32.toInt64)) then ((2 : Int64) * (bs_.length.toInt32.toInt64)) else (((us.toInt64) + (x1.toInt64)) + (256 : Int64))) < (2147483639 : Int64) then (if (((us.toInt64) + (x1.toInt64)) + (256 : Int64)) < ((2 : Int64) * (bs_.length.toInt32.toInt64)) then ((2 : Int64) * (bs_.length.toInt32.toInt64)) else (((us.toInt64) + (x1.toInt64)) + (256 : Int64))) else (2147483639 : Int64))), (.ref ub), (.ref x0)])) (fun t k => st7 t k) ?_
  refine Go.of (T' := T7) (f' := (mkF m 51 #[.val (.ref x0), .val (.int x1)] [(.int ((if (if (((us.toInt64) + (x1.toInt64)) + (256 : Int64)) < ((2 : Int64) * (bs_.length.toInt32.toInt64)) then ((2 : Int64) * (bs_.length.toInt32.toInt64)) else (((us.toInt64) + (x1.toInt64)) + (256 : Int64))) < (2147483639 : Int64) then (if (((us.toInt64) + (x1.toInt64)) + (256 : Int64)) < ((2 : Int64) * (bs_.length.toInt32.toInt64)) then ((2 : Int64) * (bs_.length.toInt32.toInt64)) else (((us.toInt64) + (x1.toInt64)) + (256 : Int64))) else (2147483639 : Int64)).toInt32)), (.ref ub), (.ref x0)])) (fun t k => XS.l2i X7.here hx rfl (hb hby d5_50) rfl k) ?_
  rw [hnl]
  obtain ⟨T8, h8, X8, e8, E8, V8, Eb8, st8⟩ := copyB X7 hx hZ hown (mvT hZ (hw _ (List.mem_of_getElem? (i := 41) rfl))) (mvT hZ (hw _ (List.mem_of_getElem? (i := 42) rfl))) (mvT hZ (hw _ (List.mem_of_getElem? (i := 43) rfl))) (mvT hZ (hw _ (List.mem_of_getElem? (i := 44) rfl))) (own_cptab hw hZ) e7 V_b E_b TY (Nat.lt_trans hbl (by decide)) (n := nl) (Nat.le_trans hnc (by decide)) (by decide) (W := 1) (by decide) (by decide) (by show _ + nl ≤ 262; omega) (g := (mkF m 51 #[.val (.ref x0), .val (.int x1)] [(.int (Int32.ofNat nl)), (.ref ub), (.ref x0)])) rfl (by rw [hml]; rfl) rfl (by show 2 * 0 + _ ≤ _; exact Nat.le_of_eq rfl) (hb hby d5_51)
  obtain ⟨b8, gb8⟩ : ∃ z, z = h0.size := ⟨_, rfl⟩
  rw [← gb8] at V8 Eb8 st8
  have g_b8 : n0 ≤ b8 := Nat.le_trans Z0 (Nat.le_of_eq gb8.symm)
  have sz_b8 : h0.size ≤ b8 := Nat.le_trans (Keep.refl h0 [x0]).1 (Nat.le_of_eq gb8.symm)
  have ne_x0_b8 : x0 ≠ b8 := Nat.ne_of_lt (Nat.lt_of_lt_of_le F_size.lt (Nat.le_of_eq gb8.symm))
  have ne_ub_b8 : ub ≠ b8 := Nat.ne_of_lt (Nat.lt_of_lt_of_le E_b.lt (Nat.le_of_eq gb8.symm))
  have ZS8 : n0 ≤ h8.size := Nat.le_trans Z0 E8.1
  have KK8 : Keep h0 h8 [x0] := (Keep.refl h0 [x0]).ext E8
  have F8_x0_size : Fld Z h8 x0 "com/example/keelson/keelson/wire/WireWriter" "size" "I" (.int us) := F_size.ext E8
  have F8_x0_bytes : Fld Z h8 x0 "com/example/keelson/keelson/wire/WireWriter" "bytes" "[B" (.ref ub) := F_bytes.ext E8
  have Ex8_x0 : Exa Z h8 x0 "com/example/keelson/keelson/wire/WireWriter" := E_a.ext E8
  have Ex8_ub : Exa Z h8 ub "[B" := E_b.ext E8
  have V8_ub : VArr Z h8 ub .byte (bs_.map Value.int) := V_b.ext E8
  refine Go.of (T' := T8) (f' := (mkF m 54 #[.val (.ref x0), .val (.int x1)] [(.ref b8), (.ref x0)])) (fun t k => st8 t k) ?_
  obtain ⟨T9, h9, X9, e9, W9, st9⟩ := putF X8 hx hZ hown (host := "") (Or.inl (hw _ (List.mem_of_getElem? (i := 18) rfl))) Via.refl e8 F8_x0_bytes Ex8_x0 (Or.inl (hw _ (List.mem_of_getElem? (i := 19) rfl))) (hw _ (List.mem_of_getElem? (i := 2) rfl)) (ty := (.array .byte)) (by decide) rfl rfl (g := (mkF m 54 #[.val (.ref x0), .val (.int x1)] [(.ref b8), (.ref x0)])) rfl rfl (hb hby d5_54)
  have Fw9 : Fld Z h9 x0 "com/example/keelson/keelson/wire/WireWriter" "bytes" "[B" (.ref b8) := F8_x0_bytes.same W9
  have F9_x0_size : Fld Z h9 x0 "com/example/keelson/keelson/wire/WireWriter" "size" "I" (.int us) := F8_x0_size.other W9 (Or.inr (slot_ne (Or.inl (hw _ (List.mem_of_getElem? (i := 30) rfl))) (Or.inl (hw _ (List.mem_of_getElem? (i := 19) rfl))) (by decide) (t := .int) (t' := (.array .byte)) (by decide) (by decide)))
  have Ex9_x0 : Exa Z h9 x0 "com/example/keelson/keelson/wire/WireWriter" := Ex8_x0.wr W9
  have Ex9_ub : Exa Z h9 ub "[B" := Ex8_ub.wr W9
  have Ex9_b8 : Exa Z h9 b8 "[B" := Eb8.wr W9
  have V9_ub : VArr Z h9 ub .byte (bs_.map Value.int) := V8_ub.other W9 (Ne.symm ne_b)
  have V9_b8 : VArr Z h9 b8 .byte ((cpy bs_ nl).map Value.int) := V8.other W9 (Ne.symm ne_x0_b8)
  have N9 := Fr.snoc X9 N0 g_a
  have KK9 : Keep h0 h9 [x0] := KK8.wr W9 (Or.inl (List.mem_of_getElem? (i := 0) rfl))
  have ZS9 : n0 ≤ h9.size := Nat.le_trans ZS8 (Keep.of_wr W9).1
  refine Go.of (T' := T9) (f' := (mkF m 57 #[.val (.ref x0), .val (.int x1)] [])) (fun t k => st9 t k) ?_
  refine Go.retV X9 hx hk Bd.returns (hb hby d5_57) (by decide) (by show _ + nl ≤ 262; omega) ?_
  rw [e9]
  exact ⟨b8, rfl, N9, KK9, sz_b8, g_b8, Fw9, F9_x0_size, Ex9_b8, V9_b8⟩
theorem pd_1 : parseMethodDescriptor "(I)V" = some ⟨[.int], none⟩ := by decide +kernel
theorem d4_0 : decode prog_273_method_11_code 0 = .ok (.aload_n 0, 1) := by decide +kernel
theorem d4_1 : decode prog_273_method_11_code 1 = .ok (.iconst 1, 1) := by decide +kernel
theorem d4_2 : decode prog_273_method_11_code 2 = .ok (.invokevirtual 51, 3) := by decide +kernel
theorem d4_5 : decode prog_273_method_11_code 5 = .ok (.aload_n 0, 1) := by decide +kernel
theorem d4_6 : decode prog_273_method_11_code 6 = .ok (.getfield 23, 3) := by decide +kernel
theorem d4_9 : decode prog_273_method_11_code 9 = .ok (.aload_n 0, 1) := by decide +kernel
theorem d4_10 : decode prog_273_method_11_code 10 = .ok (.dup, 1) := by decide +kernel
theorem d4_11 : decode prog_273_method_11_code 11 = .ok (.getfield 27, 3) := by decide +kernel
theorem d4_14 : decode prog_273_method_11_code 14 = .ok (.dup_x1, 1) := by decide +kernel
theorem d4_15 : decode prog_273_method_11_code 15 = .ok (.iconst 1, 1) := by decide +kernel
theorem d4_16 : decode prog_273_method_11_code 16 = .ok (.iadd, 1) := by decide +kernel
theorem d4_17 : decode prog_273_method_11_code 17 = .ok (.putfield 27, 3) := by decide +kernel
theorem d4_20 : decode prog_273_method_11_code 20 = .ok (.iload_n 1, 1) := by decide +kernel
theorem d4_21 : decode prog_273_method_11_code 21 = .ok (.i2b, 1) := by decide +kernel
theorem d4_22 : decode prog_273_method_11_code 22 = .ok (.bastore, 1) := by decide +kernel
theorem d4_23 : decode prog_273_method_11_code 23 = .ok (.return_, 1) := by decide +kernel
theorem ef_4 (m : MethodId) (x0 : Addr) (x1 : Int32) : entryFrame m #[(.ref x0), (.int x1)] 2 = mkF m 0 #[.val (.ref x0), .val (.int x1)] [] := by first | (simp [entryFrame, mkF, argsToLocals, Value.category]; done) | rfl
def Q4_a (Z : State) (x0 : Addr) (x1 : Int32) (us : Int32) (ub : Addr) (bs_ : List Int32) (k_ : Nat) (h0 : Heap) (n0 : Nat) (v : Option Value) (h : Heap) (L : List Loc) : Prop := v = none ∧ Fr n0 L ∧ Keep h0 h [x0, ub] ∧ Fld Z h x0 "com/example/keelson/keelson/wire/WireWriter" "bytes" "[B" (.ref ub) ∧ Fld Z h x0 "com/example/keelson/keelson/wire/WireWriter" "size" "I" (.int (us + 1)) ∧ VArr Z h ub .byte ((bs_.set k_ (nar .byte ((x1.toInt8.toInt32)))).map Value.int)
set_option maxRecDepth 65536 in
set_option maxHeartbeats 40000000 in
theorem rm4_a (l : Launch) (Z : State) (a0 : Array Value) (hw : ∀ d ∈ tables_1, d.before a0 Z = true) (ws : List Jvm.Cond) (x0 : Addr) (x1 : Int32) (us : Int32) (ub : Addr) (bs_ : List Int32) (k_ : Nat) (h0 : Heap) (n0 : Nat) (Z0 : n0 ≤ h0.size) (E_a : Exa Z h0 x0 "com/example/keelson/keelson/wire/WireWriter") (F_size : Fld Z h0 x0 "com/example/keelson/keelson/wire/WireWriter" "size" "I" (.int us)) (F_bytes : Fld Z h0 x0 "com/example/keelson/keelson/wire/WireWriter" "bytes" "[B" (.ref ub)) (V_b : VArr Z h0 ub .byte (bs_.map Value.int)) (g_a : n0 ≤ x0) (g_b : n0 ≤ ub) (ne_b : x0 ≠ ub) (hu : ¬ us < 0) (hk_ : us.toNatClampNeg = k_) (hkl : k_ < bs_.length) (hbl : bs_.length < 1000) :
    MetFree l (⟨"com/example/keelson/keelson/wire/WireWriter", "int8", "(I)V"⟩ : MethodName) (head1 (Jvm.Cond.code (⟨"com/example/keelson/keelson/wire/WireWriter", "int8", "(I)V"⟩ : MethodName) prog_273_method_11_code 2 none :: ws) ({ frames := 1, cells := 0, slots := 0, locals := 13 } : Room)) (fun a U => a = #[(.ref x0), (.int x1)] ∧ Z.Warmed39 U.vm ∧ U.heap = h0) (fun _ _ _ _ _ => True) (fun _ U o U' => ∃ v L, o = .returned v ∧ Q4_a Z x0 x1 us ub bs_ k_ h0 n0 v U'.heap L ∧ FrameEnd U o U' L ({ frames := 1, cells := 0, slots := 0, locals := 13 } : Room).cells ({ frames := 1, cells := 0, slots := 0, locals := 13 } : Room).slots) := by
  refine MetFree.of_bodySF (plainFor_of_name pn_0) hisR ?_
  intro p e s m args below meth c s₁ Bd hml0 hP hK
  obtain ⟨rfl, hZ, hh⟩ := hP
  have hx := Bd.exec
  have hby := Bd.bytes
  have hml : c.maxLocals = 2 := hml0
  have hown : s.vm.findClass "com/example/keelson/keelson/wire/WireWriter" = some m.cls := findClass_of_methodNamed Bd.named
  have hnm := (name_of_methodNamed Bd.named Bd.method).1
  have hk : meth.locks = false := BodyLoose.notSynchronized Bd
  have X0 : Stand p l e ({ frames := 1, cells := 0, slots := 0, locals := 13 } : Room) s m #[(.ref x0), (.int x1)] below meth c s₁ [] 0 0 := Stand.of_body Bd
  have e0 : s₁.heap = h0 := by rw [← hh, Bd.state]; rfl
  have N0 := Fr.nil n0
  show Go p e below s (Q4_a Z x0 x1 us ub bs_ k_ h0 n0) ({ frames := 1, cells := 0, slots := 0, locals := 13 } : Room).cells ({ frames := 1, cells := 0, slots := 0, locals := 13 } : Room).slots s₁ (entryFrame m #[(.ref x0), (.int x1)] 2)
  refine Go.cast (ef_4 m x0 x1) ?_
  refine Go.of (T' := s₁) (f' := (mkF m 1 #[.val (.ref x0), .val (.int x1)] [(.ref x0)])) (fun t k => XS.aloadN X0.here hx rfl (hb hby d4_0) rfl rfl k) ?_
  refine Go.of (T' := s₁) (f' := (mkF m 2 #[.val (.ref x0), .val (.int x1)] [(.int (1 : Int32)), (.ref x0)])) (fun t k => XS.iconst X0.here hx rfl (hb hby d4_1) k) ?_
  obtain ⟨cq1, q1, q1'⟩ := E_a.cell
  obtain ⟨_, _, ⟨T1, L1, k1, n1⟩, -, X1, ⟨Lc1, hQ1, l1, y1, z1⟩, st1⟩ := X0.privateBack hx (y := (⟨"com/example/keelson/keelson/wire/WireWriter", "grow", "(I)V"⟩ : MethodName)) hown (mvT hZ (hw _ (List.mem_of_getElem? (i := 25) rfl))) (mvT hZ (hw _ (List.mem_of_getElem? (i := 26) rfl))) (selfPriv (y0 := (⟨"com/example/keelson/keelson/wire/WireWriter", "int8", "(I)V"⟩ : MethodName)) (mvT hZ (hw _ (List.mem_of_getElem? (i := 23) rfl))) rfl (mvP hZ (hw _ (List.mem_of_getElem? (i := 27) rfl))) (mvT hZ (hw _ (List.mem_of_getElem? (i := 26) rfl))) (by decide)) (Cond.privateMethod_at (mvP hZ (hw _ (List.mem_of_getElem? (i := 27) rfl)) (args := #[]))) (mvT hZ (hw _ (List.mem_of_getElem? (i := 28) rfl))) (by decide) (backOf (W := 0) (rm5_a l Z a0 hw [] x0 (1 : Int32) us ub bs_ h0 n0 Z0 E_a F_size F_bytes V_b (own_ng hk_ hu hkl hbl)) hZ (hw _ (List.mem_of_getElem? (i := 28) rfl)) (hw _ (List.mem_of_getElem? (i := 3) rfl)) (by decide) (by decide)) (g := (mkF m 2 #[.val (.ref x0), .val (.int x1)] [(.int (1 : Int32)), (.ref x0)])) rfl (by rw [hml]; rfl) (Steps.refl _) (a := x0) (by rw [e0]; exact q1) q1' (argsL := [(.int (1 : Int32))]) (rest := []) (lenOf pd_1 rfl) rfl (by show 2 * 0 + _ ≤ _; exact Nat.le_of_eq rfl) (hb hby d4_2) (fun _ _ => ⟨rfl, e0, (by decide : 0 + 0 ≤ _), (by decide : 0 + 0 ≤ _)⟩)
  dsimp only [Pt.U, Pt.locs, Pt.cells, Pt.slots] at X1 l1 y1 z1 st1 hQ1
  subst l1 y1 z1
  obtain ⟨rfl, N1q, e1⟩ := hQ1
  have N1 := Fr.app N0 N1q
  refine Go.tr (T' := T1) (f' := (mkF m 5 #[.val (.ref x0), .val (.int x1)] [])) st1 ?_
  refine Go.of (T' := T1) (f' := (mkF m 6 #[.val (.ref x0), .val (.int x1)] [(.ref x0)])) (fun t k => XS.aloadN X1.here hx rfl (hb hby d4_5) rfl rfl k) ?_
  obtain ⟨T2, X2, e2, st2⟩ := getF X1 hx hZ hown (host := "") (Or.inl (hw _ (List.mem_of_getElem? (i := 18) rfl))) Via.refl e1 F_bytes (g := (mkF m 6 #[.val (.ref x0), .val (.int x1)] [(.ref x0)])) rfl rfl (hb hby d4_6)
  refine Go.of (T' := T2) (f' := (mkF m 9 #[.val (.ref x0), .val (.int x1)] [(.ref ub)])) (fun t k => st2 t k) ?_
  refine Go.of (T' := T2) (f' := (mkF m 10 #[.val (.ref x0), .val (.int x1)] [(.ref x0), (.ref ub)])) (fun t k => XS.aloadN X2.here hx rfl (hb hby d4_9) rfl rfl k) ?_
  refine Go.of (T' := T2) (f' := (mkF m 11 #[.val (.ref x0), .val (.int x1)] [(.ref x0), (.ref x0), (.ref ub)])) (fun t k => XS.dup X2.here hx rfl (hb hby d4_10) rfl rfl k) ?_
  obtain ⟨T3, X3, e3, st3⟩ := getF X2 hx hZ hown (host := "") (Or.inl (hw _ (List.mem_of_getElem? (i := 29) rfl))) Via.refl e2 F_size (g := (mkF m 11 #[.val (.ref x0), .val (.int x1)] [(.ref x0), (.ref x0), (.ref ub)])) rfl rfl (hb hby d4_11)
  refine Go.of (T' := T3) (f' := (mkF m 14 #[.val (.ref x0), .val (.int x1)] [(.int us), (.ref x0), (.ref ub)])) (fun t k => st3 t k) ?_
  refine Go.of (T' := T3) (f' := (mkF m 15 #[.val (.ref x0), .val (.int x1)] [(.int us), (.ref x0), (.int us), (.ref ub)])) (fun t k => XS.dupX1 X3.here hx rfl (hb hby d4_14) rfl rfl rfl k) ?_
  refine Go.of (T' := T3) (f' := (mkF m 16 #[.val (.ref x0), .val (.int x1)] [(.int (1 : Int32)), (.int us), (.ref x0), (.int us), (.ref ub)])) (fun t k => XS.iconst X3.here hx rfl (hb hby d4_15) k) ?_
  refine Go.of (T' := T3) (f' := (mkF m 17 #[.val (.ref x0), .val (.int x1)] [(.int (us + (1 : Int32))), (.ref x0), (.int us), (.ref ub)])) (fun t k => XS.iadd X3.here hx rfl (hb hby d4_16) rfl k) ?_
  obtain ⟨T4, h4, X4, e4, W4, st4⟩ := putF X3 hx hZ hown (host := "") (Or.inl (hw _ (List.mem_of_getElem? (i := 29) rfl))) Via.refl e3 F_size E_a (Or.inl (hw _ (List.mem_of_getElem? (i := 30) rfl))) (hw _ (List.mem_of_getElem? (i := 2) rfl)) (ty := .int) (by decide) rfl rfl (g := (mkF m 17 #[.val (.ref x0), .val (.int x1)] [(.int (us + (1 : Int32))), (.ref x0), (.int us), (.ref ub)])) rfl rfl (hb hby d4_17)
  have Fw4 : Fld Z h4 x0 "com/example/keelson/keelson/wire/WireWriter" "size" "I" (.int (us + (1 : Int32))) := F_size.same W4
  have F4_x0_bytes : Fld Z h4 x0 "com/example/keelson/keelson/wire/WireWriter" "bytes" "[B" (.ref ub) := F_bytes.other W4 (Or.inr (slot_ne (Or.inl (hw _ (List.mem_of_getElem? (i := 19) rfl))) (Or.inl (hw _ (List.mem_of_getElem? (i := 30) rfl))) (by decide) (t := (.array .byte)) (t' := .int) (by decide) (by decide)))
  have Ex4_x0 : Exa Z h4 x0 "com/example/keelson/keelson/wire/WireWriter" := E_a.wr W4
  have V4_ub : VArr Z h4 ub .byte (bs_.map Value.int) := V_b.other W4 (Ne.symm ne_b)
  have N4 := Fr.snoc X4 N1 g_a
  have KK4 : Keep h0 h4 [x0, ub] := (Keep.refl h0 [x0, ub]).wr W4 (Or.inl (List.mem_of_getElem? (i := 0) rfl))
  have ZS4 : n0 ≤ h4.size := Nat.le_trans Z0 (Keep.of_wr W4).1
  refine Go.of (T' := T4) (f' := (mkF m 20 #[.val (.ref x0), .val (.int x1)] [(.int us), (.ref ub)])) (fun t k => st4 t k) ?_
  refine Go.of (T' := T4) (f' := (mkF m 21 #[.val (.ref x0), .val (.int x1)] [(.int x1), (.int us), (.ref ub)])) (fun t k => XS.iloadN X4.here hx rfl (hb hby d4_20) rfl k) ?_
  refine Go.of (T' := T4) (f' := (mkF m 22 #[.val (.ref x0), .val (.int x1)] [(.int (x1.toInt8.toInt32)), (.int us), (.ref ub)])) (fun t k => XS.i2b X4.here hx rfl (hb hby d4_21) rfl k) ?_
  obtain ⟨T5, h5, X5, e5, W5, V5, st5⟩ := saB X4 hx hZ e4 V4_ub (j := us) (x := (x1.toInt8.toInt32)) hu hk_ (by rw [List.length_map]; exact hkl) (g := (mkF m 22 #[.val (.ref x0), .val (.int x1)] [(.int (x1.toInt8.toInt32)), (.int us), (.ref ub)])) rfl rfl (hb hby d4_22)
  have F5_x0_size : Fld Z h5 x0 "com/example/keelson/keelson/wire/WireWriter" "size" "I" (.int (us + (1 : Int32))) := Fw4.other W5 (Or.inl ne_b)
  have F5_x0_bytes : Fld Z h5 x0 "com/example/keelson/keelson/wire/WireWriter" "bytes" "[B" (.ref ub) := F4_x0_bytes.other W5 (Or.inl ne_b)
  have Ex5_x0 : Exa Z h5 x0 "com/example/keelson/keelson/wire/WireWriter" := Ex4_x0.wr W5
  have N5 := Fr.snoc X5 N4 g_b
  have KK5 : Keep h0 h5 [x0, ub] := KK4.wr W5 (Or.inl (List.mem_of_getElem? (i := 1) rfl))
  have ZS5 : n0 ≤ h5.size := Nat.le_trans ZS4 (Keep.of_wr W5).1
  refine Go.of (T' := T5) (f' := (mkF m 23 #[.val (.ref x0), .val (.int x1)] [])) (fun t k => st5 t k) ?_
  refine Go.retV X5 hx hk Bd.returns (hb hby d4_23) (by decide) (by decide) ?_
  rw [e5]
  exact ⟨rfl, N5, KK5, F5_x0_bytes, F5_x0_size, by rw [List.map_set]; exact V5⟩
def Q4_b (Z : State) (x0 : Addr) (x1 : Int32) (us : Int32) (ub : Addr) (bs_ : List Int32) (nl : Nat) (k_ : Nat) (h0 : Heap) (n0 : Nat) (v : Option Value) (h : Heap) (L : List Loc) : Prop := ∃ b : Addr, v = none ∧ Fr n0 L ∧ Keep h0 h [x0] ∧ h0.size ≤ b ∧ n0 ≤ b ∧ Fld Z h x0 "com/example/keelson/keelson/wire/WireWriter" "bytes" "[B" (.ref b) ∧ Fld Z h x0 "com/example/keelson/keelson/wire/WireWriter" "size" "I" (.int (us + 1)) ∧ Exa Z h b "[B" ∧ VArr Z h b .byte (((cpy bs_ nl).set k_ (nar .byte ((x1.toInt8.toInt32)))).map Value.int)
set_option maxRecDepth 65536 in
set_option maxHeartbeats 40000000 in
theorem rm4_b (l : Launch) (Z : State) (a0 : Array Value) (hw : ∀ d ∈ tables_1, d.before a0 Z = true) (ws : List Jvm.Cond) (x0 : Addr) (x1 : Int32) (us : Int32) (ub : Addr) (bs_ : List Int32) (nl : Nat) (k_ : Nat) (h0 : Heap) (n0 : Nat) (Z0 : n0 ≤ h0.size) (E_a : Exa Z h0 x0 "com/example/keelson/keelson/wire/WireWriter") (F_size : Fld Z h0 x0 "com/example/keelson/keelson/wire/WireWriter" "size" "I" (.int us)) (F_bytes : Fld Z h0 x0 "com/example/keelson/keelson/wire/WireWriter" "bytes" "[B" (.ref ub)) (V_b : VArr Z h0 ub .byte (bs_.map Value.int)) (E_b : Exa Z h0 ub "[B") (g_a : n0 ≤ x0) (ne_b : x0 ≠ ub) (TY : TyB bs_) (hbl : bs_.length < 1000) (hgr : bs_.length.toInt32 < us + 1) (hnl : (if (if (((us.toInt64) + ((1 : Int32).toInt64)) + (256 : Int64)) < ((2 : Int64) * (bs_.length.toInt32.toInt64)) then ((2 : Int64) * (bs_.length.toInt32.toInt64)) else (((us.toInt64) + ((1 : Int32).toInt64)) + (256 : Int64))) < (2147483639 : Int64) then (if (((us.toInt64) + ((1 : Int32).toInt64)) + (256 : Int64)) < ((2 : Int64) * (bs_.length.toInt32.toInt64)) then ((2 : Int64) * (bs_.length.toInt32.toInt64)) else (((us.toInt64) + ((1 : Int32).toInt64)) + (256 : Int64))) else (2147483639 : Int64)).toInt32 = Int32.ofNat nl) (hnc : nl ≤ 262) (hu : ¬ us < 0) (hk_ : us.toNatClampNeg = k_) (hkl : k_ < nl) :
    MetFree l (⟨"com/example/keelson/keelson/wire/WireWriter", "int8", "(I)V"⟩ : MethodName) (head1 (Jvm.Cond.code (⟨"com/example/keelson/keelson/wire/WireWriter", "int8", "(I)V"⟩ : MethodName) prog_273_method_11_code 2 none :: ws) ({ frames := 3, cells := 1, slots := 262, locals := 68 } : Room)) (fun a U => a = #[(.ref x0), (.int x1)] ∧ Z.Warmed39 U.vm ∧ U.heap = h0) (fun _ _ _ _ _ => True) (fun _ U o U' => ∃ v L, o = .returned v ∧ Q4_b Z x0 x1 us ub bs_ nl k_ h0 n0 v U'.heap L ∧ FrameEnd U o U' L ({ frames := 3, cells := 1, slots := 262, locals := 68 } : Room).cells ({ frames := 3, cells := 1, slots := 262, locals := 68 } : Room).slots) := by
  refine MetFree.of_bodySF (plainFor_of_name pn_0) hisR ?_
  intro p e s m args below meth c s₁ Bd hml0 hP hK
  obtain ⟨rfl, hZ, hh⟩ := hP
  have hx := Bd.exec
  have hby := Bd.bytes
  have hml : c.maxLocals = 2 := hml0
  have hown : s.vm.findClass "com/example/keelson/keelson/wire/WireWriter" = some m.cls := findClass_of_methodNamed Bd.named
  have hnm := (name_of_methodNamed Bd.named Bd.method).1
  have hk : meth.locks = false := BodyLoose.notSynchronized Bd
  have X0 : Stand p l e ({ frames := 3, cells := 1, slots := 262, locals := 68 } : Room) s m #[(.ref x0), (.int x1)] below meth c s₁ [] 0 0 := Stand.of_body Bd
  have e0 : s₁.heap = h0 := by rw [← hh, Bd.state]; rfl
  have N0 := Fr.nil n0
  show Go p e below s (Q4_b Z x0 x1 us ub bs_ nl k_ h0 n0) ({ frames := 3, cells := 1, slots := 262, locals := 68 } : Room).cells ({ frames := 3, cells := 1, slots := 262, locals := 68 } : Room).slots s₁ (entryFrame m #[(.ref x0), (.int x1)] 2)
  refine Go.cast (ef_4 m x0 x1) ?_
  refine Go.of (T' := s₁) (f' := (mkF m 1 #[.val (.ref x0), .val (.int x1)] [(.ref x0)])) (fun t k => XS.aloadN X0.here hx rfl (hb hby d4_0) rfl rfl k) ?_
  refine Go.of (T' := s₁) (f' := (mkF m 2 #[.val (.ref x0), .val (.int x1)] [(.int (1 : Int32)), (.ref x0)])) (fun t k => XS.iconst X0.here hx rfl (hb hby d4_1) k) ?_
  obtain ⟨cq1, q1, q1'⟩ := E_a.cell
  obtain ⟨_, _, ⟨T1, L1, k1, n1⟩, -, X1, ⟨Lc1, hQ1, l1, y1, z1⟩, st1⟩ := X0.privateBack hx (y := (⟨"com/example/keelson/keelson/wire/WireWriter", "grow", "(I)V"⟩ : MethodName)) hown (mvT hZ (hw _ (List.mem_of_getElem? (i := 25) rfl))) (mvT hZ (hw _ (List.mem_of_getElem? (i := 26) rfl))) (selfPriv (y0 := (⟨"com/example/keelson/keelson/wire/WireWriter", "int8", "(I)V"⟩ : MethodName)) (mvT hZ (hw _ (List.mem_of_getElem? (i := 23) rfl))) rfl (mvP hZ (hw _ (List.mem_of_getElem? (i := 27) rfl))) (mvT hZ (hw _ (List.mem_of_getElem? (i := 26) rfl))) (by decide)) (Cond.privateMethod_at (mvP hZ (hw _ (List.mem_of_getElem? (i := 27) rfl)) (args := #[]))) (mvT hZ (hw _ (List.mem_of_getElem? (i := 28) rfl))) (by decide) (backOf (W := 0) (rm5_b l Z a0 hw [] x0 (1 : Int32) us ub bs_ nl h0 n0 Z0 E_a F_size F_bytes V_b E_b g_a ne_b TY hbl hgr hnl hnc) hZ (hw _ (List.mem_of_getElem? (i := 28) rfl)) (hw _ (List.mem_of_getElem? (i := 3) rfl)) (by decide) (by decide)) (g := (mkF m 2 #[.val (.ref x0), .val (.int x1)] [(.int (1 : Int32)), (.ref x0)])) rfl (by rw [hml]; rfl) (Steps.refl _) (a := x0) (by rw [e0]; exact q1) q1' (argsL := [(.int (1 : Int32))]) (rest := []) (lenOf pd_1 rfl) rfl (by show 2 * 0 + _ ≤ _; exact Nat.le_of_eq rfl) (hb hby d4_2) (fun _ _ => ⟨rfl, e0, (by decide : 0 + 1 ≤ _), (by decide : 0 + 262 ≤ _)⟩)
  dsimp only [Pt.U, Pt.locs, Pt.cells, Pt.slots] at X1 l1 y1 z1 st1 hQ1
  subst l1 y1 z1
  obtain ⟨b1, rfl, N1q, K1, sb1, g_b1, Fb1, Fs1, Ex1, Vb1⟩ := hQ1
  have N1 := Fr.app N0 N1q
  have ne_x0_b1 : x0 ≠ b1 := Nat.ne_of_lt (Nat.lt_of_lt_of_le F_size.lt sb1)
  have ne_ub_b1 : ub ≠ b1 := Nat.ne_of_lt (Nat.lt_of_lt_of_le E_b.lt sb1)
  have sz_b1 : h0.size ≤ b1 := Nat.le_trans (Keep.refl h0 [x0]).1 sb1
  have Ex1_x0 : Exa Z T1.heap x0 "com/example/keelson/keelson/wire/WireWriter" := E_a.keep K1
  have Ex1_ub : Exa Z T1.heap ub "[B" := E_b.keep K1
  have V1_ub : VArr Z T1.heap ub .byte (bs_.map Value.int) := V_b.keep K1 (ninS (Ne.symm ne_b) nin0)
  have ZS1 : n0 ≤ T1.heap.size := Nat.le_trans Z0 K1.1
  have KK1 : Keep h0 T1.heap [x0] := (Keep.refl h0 [x0]).trans K1 (allS (Or.inl (List.mem_of_getElem? (i := 0) rfl)) all0)
  refine Go.tr (T' := T1) (f' := (mkF m 5 #[.val (.ref x0), .val (.int x1)] [])) st1 ?_
  refine Go.of (T' := T1) (f' := (mkF m 6 #[.val (.ref x0), .val (.int x1)] [(.ref x0)])) (fun t k => XS.aloadN X1.here hx rfl (hb hby d4_5) rfl rfl k) ?_
  obtain ⟨T2, X2, e2, st2⟩ := getF X1 hx hZ hown (host := "") (Or.inl (hw _ (List.mem_of_getElem? (i := 18) rfl))) Via.refl rfl Fb1 (g := (mkF m 6 #[.val (.ref x0), .val (.int x1)] [(.ref x0)])) rfl rfl (hb hby d4_6)
  refine Go.of (T' := T2) (f' := (mkF m 9 #[.val (.ref x0), .val (.int x1)] [(.ref b1)])) (fun t k => st2 t k) ?_
  refine Go.of (T' := T2) (f' := (mkF m 10 #[.val (.ref x0), .val (.int x1)] [(.ref x0), (.ref b1)])) (fun t k => XS.aloadN X2.here hx rfl (hb hby d4_9) rfl rfl k) ?_
  refine Go.of (T' := T2) (f' := (mkF m 11 #[.val (.ref x0), .val (.int x1)] [(.ref x0), (.ref x0), (.ref b1)])) (fun t k => XS.dup X2.here hx rfl (hb hby d4_10) rfl rfl k) ?_
  obtain ⟨T3, X3, e3, st3⟩ := getF X2 hx hZ hown (host := "") (Or.inl (hw _ (List.mem_of_getElem? (i := 29) rfl))) Via.refl e2 Fs1 (g := (mkF m 11 #[.val (.ref x0), .val (.int x1)] [(.ref x0), (.ref x0), (.ref b1)])) rfl rfl (hb hby d4_11)
  refine Go.of (T' := T3) (f' := (mkF m 14 #[.val (.ref x0), .val (.int x1)] [(.int us), (.ref x0), (.ref b1)])) (fun t k => st3 t k) ?_
  refine Go.of (T' := T3) (f' := (mkF m 15 #[.val (.ref x0), .val (.int x1)] [(.int us), (.ref x0), (.int us), (.ref b1)])) (fun t k => XS.dupX1 X3.here hx rfl (hb hby d4_14) rfl rfl rfl k) ?_
  refine Go.of (T' := T3) (f' := (mkF m 16 #[.val (.ref x0), .val (.int x1)] [(.int (1 : Int32)), (.int us), (.ref x0), (.int us), (.ref b1)])) (fun t k => XS.iconst X3.here hx rfl (hb hby d4_15) k) ?_
  refine Go.of (T' := T3) (f' := (mkF m 17 #[.val (.ref x0), .val (.int x1)] [(.int (us + (1 : Int32))), (.ref x0), (.int us), (.ref b1)])) (fun t k => XS.iadd X3.here hx rfl (hb hby d4_16) rfl k) ?_
  obtain ⟨T4, h4, X4, e4, W4, st4⟩ := putF X3 hx hZ hown (host := "") (Or.inl (hw _ (List.mem_of_getElem? (i := 29) rfl))) Via.refl e3 Fs1 Ex1_x0 (Or.inl (hw _ (List.mem_of_getElem? (i := 30) rfl))) (hw _ (List.mem_of_getElem? (i := 2) rfl)) (ty := .int) (by decide) rfl rfl (g := (mkF m 17 #[.val (.ref x0), .val (.int x1)] [(.int (us + (1 : Int32))), (.ref x0), (.int us), (.ref b1)])) rfl rfl (hb hby d4_17)
  have Fw4 : Fld Z h4 x0 "com/example/keelson/keelson/wire/WireWriter" "size" "I" (.int (us + (1 : Int32))) := Fs1.same W4
  have F4_x0_bytes : Fld Z h4 x0 "com/example/keelson/keelson/wire/WireWriter" "bytes" "[B" (.ref b1) := Fb1.other W4 (Or.inr (slot_ne (Or.inl (hw _ (List.mem_of_getElem? (i := 19) rfl))) (Or.inl (hw _ (List.mem_of_getElem? (i := 30) rfl))) (by decide) (t := (.array .byte)) (t' := .int) (by decide) (by decide)))
  have Ex4_x0 : Exa Z h4 x0 "com/example/keelson/keelson/wire/WireWriter" := Ex1_x0.wr W4
  have Ex4_ub : Exa Z h4 ub "[B" := Ex1_ub.wr W4
  have Ex4_b1 : Exa Z h4 b1 "[B" := Ex1.wr W4
  have V4_ub : VArr Z h4 ub .byte (bs_.map Value.int) := V1_ub.other W4 (Ne.symm ne_b)
  have V4_b1 : VArr Z h4 b1 .byte ((cpy bs_ nl).map Value.int) := Vb1.other W4 (Ne.symm ne_x0_b1)
  have N4 := Fr.snoc X4 N1 g_a
  have KK4 : Keep h0 h4 [x0] := KK1.wr W4 (Or.inl (List.mem_of_getElem? (i := 0) rfl))
  have ZS4 : n0 ≤ h4.size := Nat.le_trans ZS1 (Keep.of_wr W4).1
  refine Go.of (T' := T4) (f' := (mkF m 20 #[.val (.ref x0), .val (.int x1)] [(.int us), (.ref b1)])) (fun t k => st4 t k) ?_
  refine Go.of (T' := T4) (f' := (mkF m 21 #[.val (.ref x0), .val (.int x1)] [(.int x1), (.int us), (.ref b1)])) (fun t k => XS.iloadN X4.here hx rfl (hb hby d4_20) rfl k) ?_
  refine Go.of (T' := T4) (f' := (mkF m 22 #[.val (.ref x0), .val (.int x1)] [(.int (x1.toInt8.toInt32)), (.int us), (.ref b1)])) (fun t k => XS.i2b X4.here hx rfl (hb hby d4_21) rfl k) ?_
  obtain ⟨T5, h5, X5, e5, W5, V5, st5⟩ := saB X4 hx hZ e4 V4_b1 (j := us) (x := (x1.toInt8.toInt32)) hu hk_ (by rw [List.length_map, cpy, List.length_map, List.length_range]; exact hkl) (g := (mkF m 22 #[.val (.ref x0), .val (.int x1)] [(.int (x1.toInt8.toInt32)), (.int us), (.ref b1)])) rfl rfl (hb hby d4_22)
  have F5_x0_size : Fld Z h5 x0 "com/example/keelson/keelson/wire/WireWriter" "size" "I" (.int (us + (1 : Int32))) := Fw4.other W5 (Or.inl ne_x0_b1)
  have F5_x0_bytes : Fld Z h5 x0 "com/example/keelson/keelson/wire/WireWriter" "bytes" "[B" (.ref b1) := F4_x0_bytes.other W5 (Or.inl ne_x0_b1)
  have Ex5_x0 : Exa Z h5 x0 "com/example/keelson/keelson/wire/WireWriter" := Ex4_x0.wr W5
  have Ex5_ub : Exa Z h5 ub "[B" := Ex4_ub.wr W5
  have Ex5_b1 : Exa Z h5 b1 "[B" := Ex4_b1.wr W5
  have V5_ub : VArr Z h5 ub .byte (bs_.map Value.int) := V4_ub.other W5 ne_ub_b1
  have N5 := Fr.snoc X5 N4 g_b1
  have KK5 : Keep h0 h5 [x0] := KK4.wr W5 (Or.inr sz_b1)
  have ZS5 : n0 ≤ h5.size := Nat.le_trans ZS4 (Keep.of_wr W5).1
  refine Go.of (T' := T5) (f' := (mkF m 23 #[.val (.ref x0), .val (.int x1)] [])) (fun t k => st5 t k) ?_
  refine Go.retV X5 hx hk Bd.returns (hb hby d4_23) (by decide) (by decide) ?_
  rw [e5]
  exact ⟨b1, rfl, N5, KK5, sz_b1, g_b1, F5_x0_bytes, F5_x0_size, Ex5_b1, by rw [List.map_set]; exact V5⟩
def f0 (x : Int64) : Int32 := nar .byte ((x.toInt32).toInt8.toInt32)
def f1 (x : Int64) : Int32 := nar .byte (((x >>> ((8 : Int32) &&& 0x3f).toInt64).toInt32).toInt8.toInt32)
def f2 (x : Int64) : Int32 := nar .byte (((x >>> ((16 : Int32) &&& 0x3f).toInt64).toInt32).toInt8.toInt32)
def f3 (x : Int64) : Int32 := nar .byte (((x >>> ((24 : Int32) &&& 0x3f).toInt64).toInt32).toInt8.toInt32)
def f4 (x : Int64) : Int32 := nar .byte (((x >>> ((32 : Int32) &&& 0x3f).toInt64).toInt32).toInt8.toInt32)
def f5 (x : Int64) : Int32 := nar .byte (((x >>> ((40 : Int32) &&& 0x3f).toInt64).toInt32).toInt8.toInt32)
def p0 (v : Int32) : Int32 := nar .byte ((v >>> ((24 : Int32) &&& 31)).toInt8.toInt32)
def p1 (v : Int32) : Int32 := nar .byte ((v >>> ((16 : Int32) &&& 31)).toInt8.toInt32)
def p2 (v : Int32) : Int32 := nar .byte ((v >>> ((8 : Int32) &&& 31)).toInt8.toInt32)
def p3 (v : Int32) : Int32 := nar .byte (v.toInt8.toInt32)
def putL (bs : List Int32) (a : Nat) (v : Int32) : List Int32 := (((bs.set a (p0 v)).set (a + 1) (p1 v)).set (a + 2) (p2 v)).set (a + 3) (p3 v)
theorem TyB.put {bs : List Int32} (H : TyB bs) (a : Nat) (v : Int32) : TyB (putL bs a v) := (((H.set a _).set (a + 1) _).set (a + 2) _).set (a + 3) _
def okW (i at_ v : Int32) (fill : Int64) : Int32 := if (i - at_) < 0 then (((fill.toUInt64 >>> (((8 : Int32) * i) &&& 0x3f).toInt64.toUInt64).toInt64).toInt32 &&& (255 : Int32)) else if (i - at_) < 4 then (((v.toUInt32 >>> (((8 : Int32) * ((3 : Int32) - (i - at_))) &&& 31).toUInt32).toInt32) &&& (255 : Int32)) else (((fill.toUInt64 >>> (((8 : Int32) * i) &&& 0x3f).toInt64.toUInt64).toInt64).toInt32 &&& (255 : Int32))
def okV (got i at_ v : Int32) (fill : Int64) : Int32 := if (got &&& (255 : Int32)) = okW i at_ v fill then 1 else 0
theorem own_b8 (y : Int32) : (nar .byte (y.toInt8.toInt32)) &&& 255 = y &&& 255 := by
  apply Int32.toBitVec_inj.mp
  show ((y.toInt8.toInt32).toInt8.toInt32 &&& 255).toBitVec = _
  rw [Int32.toBitVec_and, Int32.toBitVec_and]
  apply BitVec.eq_of_getLsbD_eq
  intro i hi
  have h255 : (255 : Int32).toBitVec = 255#32 := rfl
  have hm : (255#32).getLsbD i = decide (i < 8) := by
    have k : ∀ j : Fin 32, (255#32).getLsbD j.1 = decide (j.1 < 8) := by decide
    exact k ⟨i, hi⟩
  rw [BitVec.getLsbD_and, BitVec.getLsbD_and, h255, hm]
  by_cases q : i < 8
  · have e : ∀ z : Int32, z.toInt8.toInt32.toBitVec.getLsbD i = z.toBitVec.getLsbD i := fun z => by
      show ((z.toBitVec.signExtend 8).signExtend 32).getLsbD i = _
      rw [BitVec.getLsbD_signExtend, BitVec.getLsbD_signExtend]
      simp [q, hi]
    rw [e, e]
  · simp [q]
theorem own_i32sh : ∀ s : Fin 25, ((Int32.ofNat s.1 &&& 31).toBitVec.smod 32) = BitVec.ofNat 32 s.1 ∧ ((Int32.ofNat s.1 &&& 31).toUInt32.toBitVec % 32) = BitVec.ofNat 32 s.1 := by decide +kernel
theorem own_shv (v : Int32) {s : Nat} (hs : s < 25) : (v >>> (Int32.ofNat s &&& 31)) &&& 255 = ((v.toUInt32 >>> (Int32.ofNat s &&& 31).toUInt32).toInt32) &&& 255 := by
  apply Int32.toBitVec_inj.mp
  rw [Int32.toBitVec_and, Int32.toBitVec_and, Int32.toBitVec_shiftRight, (own_i32sh ⟨s, hs⟩).1]
  have e : ((v.toUInt32 >>> (Int32.ofNat s &&& 31).toUInt32).toInt32).toBitVec = v.toBitVec >>> (BitVec.ofNat 32 s) := by
    show (v.toUInt32 >>> (Int32.ofNat s &&& 31).toUInt32).toBitVec = _
    rw [UInt32.toBitVec_shiftRight, (own_i32sh ⟨s, hs⟩).2]; rfl
  rw [e]
  apply BitVec.eq_of_getLsbD_eq
  intro i hi
  have hm : ((255 : Int32).toBitVec).getLsbD i = decide (i < 8) := by
    have k : ∀ j : Fin 32, (255#32).getLsbD j.1 = decide (j.1 < 8) := by decide
    exact k ⟨i, hi⟩
  rw [BitVec.getLsbD_and, BitVec.getLsbD_and, hm]
  by_cases q : i < 8
  · have hn : (BitVec.ofNat 32 s).toNat = s := by rw [BitVec.toNat_ofNat]; omega
    rw [BitVec.sshiftRight_eq', BitVec.getLsbD_sshiftRight, BitVec.ushiftRight_eq', BitVec.getLsbD_ushiftRight, hn]
    have : s + i < 32 := by omega
    have h2 : ¬ 32 ≤ i := by omega
    simp [this, q, h2]
  · simp [q]
theorem own_i64sh : ∀ s : Fin 41, ((Int32.ofNat s.1 &&& 0x3f).toInt64.toBitVec.smod 64) = BitVec.ofNat 64 s.1 ∧ ((Int32.ofNat s.1 &&& 0x3f).toInt64.toUInt64.toBitVec % 64) = BitVec.ofNat 64 s.1 := by decide +kernel
theorem own_shf (x : Int64) {s : Nat} (hs : s < 41) : ((x >>> (Int32.ofNat s &&& 0x3f).toInt64).toInt32) &&& 255 = (((x.toUInt64 >>> (Int32.ofNat s &&& 0x3f).toInt64.toUInt64).toInt64).toInt32) &&& 255 := by
  apply Int32.toBitVec_inj.mp
  rw [Int32.toBitVec_and, Int32.toBitVec_and]
  apply BitVec.eq_of_getLsbD_eq
  intro i hi
  have hm : ((255 : Int32).toBitVec).getLsbD i = decide (i < 8) := by
    have k : ∀ j : Fin 32, (255#32).getLsbD j.1 = decide (j.1 < 8) := by decide
    exact k ⟨i, hi⟩
  rw [BitVec.getLsbD_and, BitVec.getLsbD_and, hm]
  by_cases q : i < 8
  · have t : ∀ z : Int64, z.toInt32.toBitVec.getLsbD i = z.toBitVec.getLsbD i := fun z => by
      show (z.toBitVec.signExtend 32).getLsbD i = _
      rw [BitVec.getLsbD_signExtend]; simp [hi]; intro z'; omega
    have e : ((x.toUInt64 >>> (Int32.ofNat s &&& 0x3f).toInt64.toUInt64).toInt64).toBitVec = x.toBitVec >>> (BitVec.ofNat 64 s) := by
      show (x.toUInt64 >>> (Int32.ofNat s &&& 0x3f).toInt64.toUInt64).toBitVec = _
      rw [UInt64.toBitVec_shiftRight, (own_i64sh ⟨s, hs⟩).2]; rfl
    have hn : (BitVec.ofNat 64 s).toNat = s := by rw [BitVec.toNat_ofNat]; omega
    rw [t, t, e, Int64.toBitVec_shiftRight, (own_i64sh ⟨s, hs⟩).1, BitVec.sshiftRight_eq', BitVec.getLsbD_sshiftRight, BitVec.ushiftRight_eq', BitVec.getLsbD_ushiftRight, hn]
    have : s + i < 64 := by omega
    have h2 : ¬ 64 ≤ i := by omega
    simp [this, q, h2]
  · simp [q]
theorem own_okn {got i at_ v : Int32} {fill : Int64} (h : (got &&& (255 : Int32)) = okW i at_ v fill) : ¬ (okV got i at_ v fill = 0) := by
  rw [okV, if_pos h]; decide
theorem own_vv (v : Int32) {s : Nat} (hs : s < 25) : (nar .byte ((v >>> (Int32.ofNat s &&& 31)).toInt8.toInt32)) &&& 255 = ((v.toUInt32 >>> (Int32.ofNat s &&& 31).toUInt32).toInt32) &&& 255 := (own_b8 _).trans (own_shv v hs)
theorem own_ff (x : Int64) {s : Nat} (hs : s < 41) : (nar .byte (((x >>> (Int32.ofNat s &&& 0x3f).toInt64).toInt32).toInt8.toInt32)) &&& 255 = (((x.toUInt64 >>> (Int32.ofNat s &&& 0x3f).toInt64.toUInt64).toInt64).toInt32) &&& 255 := (own_b8 _).trans (own_shf x hs)
theorem own_v3 (v : Int32) : p3 v &&& 255 = ((v.toUInt32 >>> (Int32.ofNat 0 &&& 31).toUInt32).toInt32) &&& 255 := by
  rw [p3, own_b8, ← own_shv v (by decide)]
  congr 1
  apply Int32.toBitVec_inj.mp
  rw [Int32.toBitVec_shiftRight, (own_i32sh ⟨0, by decide⟩).1]; simp
theorem own_f0 (x : Int64) : f0 x &&& 255 = (((x.toUInt64 >>> (Int32.ofNat 0 &&& 0x3f).toInt64.toUInt64).toInt64).toInt32) &&& 255 := by
  rw [f0, own_b8, ← own_shf x (by decide)]
  congr 2
  apply Int64.toBitVec_inj.mp
  rw [Int64.toBitVec_shiftRight, (own_i64sh ⟨0, by decide⟩).1]; simp
theorem own_in {i at_ v : Int32} {fill : Int64} {s : Nat} (h1 : ¬ (i - at_) < 0) (h2 : (i - at_) < 4) (h3 : (8 : Int32) * ((3 : Int32) - (i - at_)) = Int32.ofNat s) : okW i at_ v fill = ((v.toUInt32 >>> (Int32.ofNat s &&& 31).toUInt32).toInt32) &&& 255 := by
  rw [okW, if_neg h1, if_pos h2, h3]
theorem own_out {i at_ v : Int32} {fill : Int64} {s : Nat} (h : (i - at_) < 0 ∨ ¬ (i - at_) < 4) (h3 : (8 : Int32) * i = Int32.ofNat s) : okW i at_ v fill = (((fill.toUInt64 >>> (Int32.ofNat s &&& 0x3f).toInt64.toUInt64).toInt64).toInt32) &&& 255 := by
  rw [okW]
  by_cases q : (i - at_) < 0
  · rw [if_pos q, h3]
  · rw [if_neg q, if_neg (h.resolve_left q), h3]
theorem own_ok {a : Nat} (ha : a < 3) {at_ : Int32} (hat : at_ = Int32.ofNat a) (v : Int32) (x : Int64) (t : List Int32) :
    ¬ (okV ((putL (f0 x :: f1 x :: f2 x :: f3 x :: f4 x :: f5 x :: t) a v).getD 0 0) 0 at_ v x = 0) ∧ ¬ (okV ((putL (f0 x :: f1 x :: f2 x :: f3 x :: f4 x :: f5 x :: t) a v).getD 1 0) 1 at_ v x = 0) ∧ ¬ (okV ((putL (f0 x :: f1 x :: f2 x :: f3 x :: f4 x :: f5 x :: t) a v).getD 2 0) 2 at_ v x = 0) ∧
    ¬ (okV ((putL (f0 x :: f1 x :: f2 x :: f3 x :: f4 x :: f5 x :: t) a v).getD 3 0) 3 at_ v x = 0) ∧ ¬ (okV ((putL (f0 x :: f1 x :: f2 x :: f3 x :: f4 x :: f5 x :: t) a v).getD 4 0) 4 at_ v x = 0) ∧ ¬ (okV ((putL (f0 x :: f1 x :: f2 x :: f3 x :: f4 x :: f5 x :: t) a v).getD 5 0) 5 at_ v x = 0) := by
  subst hat
  rcases (show a = 0 ∨ a = 1 ∨ a = 2 by omega) with rfl | rfl | rfl
  · refine ⟨own_okn ?_, own_okn ?_, own_okn ?_, own_okn ?_, own_okn ?_, own_okn ?_⟩
    · rw [own_in (s := 24) (by decide) (by decide) (by decide)]; exact own_vv v (by decide)
    · rw [own_in (s := 16) (by decide) (by decide) (by decide)]; exact own_vv v (by decide)
    · rw [own_in (s := 8) (by decide) (by decide) (by decide)]; exact own_vv v (by decide)
    · rw [own_in (s := 0) (by decide) (by decide) (by decide)]; exact own_v3 v
    · rw [own_out (s := 32) (by decide) (by decide)]; exact own_ff x (by decide)
    · rw [own_out (s := 40) (by decide) (by decide)]; exact own_ff x (by decide)
  · refine ⟨own_okn ?_, own_okn ?_, own_okn ?_, own_okn ?_, own_okn ?_, own_okn ?_⟩
    · rw [own_out (s := 0) (by decide) (by decide)]; exact own_f0 x
    · rw [own_in (s := 24) (by decide) (by decide) (by decide)]; exact own_vv v (by decide)
    · rw [own_in (s := 16) (by decide) (by decide) (by decide)]; exact own_vv v (by decide)
    · rw [own_in (s := 8) (by decide) (by decide) (by decide)]; exact own_vv v (by decide)
    · rw [own_in (s := 0) (by decide) (by decide) (by decide)]; exact own_v3 v
    · rw [own_out (s := 40) (by decide) (by decide)]; exact own_ff x (by decide)
  · refine ⟨own_okn ?_, own_okn ?_, own_okn ?_, own_okn ?_, own_okn ?_, own_okn ?_⟩
    · rw [own_out (s := 0) (by decide) (by decide)]; exact own_f0 x
    · rw [own_out (s := 8) (by decide) (by decide)]; exact own_ff x (by decide)
    · rw [own_in (s := 24) (by decide) (by decide) (by decide)]; exact own_vv v (by decide)
    · rw [own_in (s := 16) (by decide) (by decide) (by decide)]; exact own_vv v (by decide)
    · rw [own_in (s := 8) (by decide) (by decide) (by decide)]; exact own_vv v (by decide)
    · rw [own_in (s := 0) (by decide) (by decide) (by decide)]; exact own_v3 v
theorem own_at (x : Int32) : ∃ a : Nat, a < 3 ∧ (x &&& 2147483647) % 3 = Int32.ofNat a := by
  have h : (x &&& 2147483647).toBitVec.toNat ≤ 2147483647 := by rw [Int32.toBitVec_and, BitVec.toNat_and]; exact Nat.and_le_right
  have hy : 0 ≤ (x &&& 2147483647).toInt := by
    show 0 ≤ (x &&& 2147483647).toBitVec.toInt
    rw [BitVec.toInt_eq_toNat_cond, if_pos (by omega)]; omega
  have e : (3 : Int32).toInt = 3 := rfl
  have a1 := Int.tmod_nonneg (3 : Int) hy
  have a2 := Int.tmod_lt_of_pos (x &&& 2147483647).toInt (by omega : (0 : Int) < 3)
  refine ⟨((x &&& 2147483647).toInt.tmod 3).toNat, by omega, ?_⟩
  apply Int32.toInt_inj.mp
  rw [Int32.toInt_mod, e]
  show _ = (Nat.toInt32 _).toInt
  rw [len_toInt (by omega)]; omega
theorem own_ati {a : Nat} (ha : a < 3) {u : Int32} (hu : u = Int32.ofNat a) : (¬ u < 0 ∧ u.toNatClampNeg = a) ∧ (¬ u + 1 < 0 ∧ (u + 1).toNatClampNeg = a + 1) ∧ (¬ u + 2 < 0 ∧ (u + 2).toNatClampNeg = a + 2) ∧ (¬ u + 3 < 0 ∧ (u + 3).toNatClampNeg = a + 3) := by
  subst hu
  have k : ∀ n : Fin 3, (¬ Int32.ofNat n.1 < 0 ∧ (Int32.ofNat n.1).toNatClampNeg = n.1) ∧ (¬ Int32.ofNat n.1 + 1 < 0 ∧ (Int32.ofNat n.1 + 1).toNatClampNeg = n.1 + 1) ∧ (¬ Int32.ofNat n.1 + 2 < 0 ∧ (Int32.ofNat n.1 + 2).toNatClampNeg = n.1 + 2) ∧ (¬ Int32.ofNat n.1 + 3 < 0 ∧ (Int32.ofNat n.1 + 3).toNatClampNeg = n.1 + 3) := by decide +kernel
  exact k ⟨a, ha⟩
theorem own_cp (x : Int32) : (x &&& 15) = 0 ∨ (x &&& 15) = 1 ∨ (x &&& 15) = 2 ∨ (x &&& 15) = 3 ∨ (x &&& 15) = 4 ∨ (x &&& 15) = 5 ∨ (6 ≤ (x &&& 15).toNatClampNeg ∧ (x &&& 15).toNatClampNeg ≤ 15) := by
  have h : (x &&& 15).toBitVec.toNat < 16 := by rw [Int32.toBitVec_and, BitVec.toNat_and]; exact Nat.lt_succ_of_le Nat.and_le_right
  have e : x &&& 15 = Int32.ofNat (x &&& 15).toBitVec.toNat := by
    apply Int32.toBitVec_inj.mp
    apply BitVec.eq_of_toNat_eq
    show _ = (BitVec.ofNat 32 _).toNat
    simp
  generalize (x &&& 15).toBitVec.toNat = n at *
  rw [e]
  have key : ∀ k : Fin 16, Int32.ofNat k.1 = 0 ∨ Int32.ofNat k.1 = 1 ∨ Int32.ofNat k.1 = 2 ∨ Int32.ofNat k.1 = 3 ∨ Int32.ofNat k.1 = 4 ∨ Int32.ofNat k.1 = 5 ∨ (6 ≤ (Int32.ofNat k.1).toNatClampNeg ∧ (Int32.ofNat k.1).toNatClampNeg ≤ 15) := by decide +kernel
  exact key ⟨n, h⟩
theorem own_c15 (x : Int32) : ¬ (x &&& 15) < 0 ∧ (x &&& 15).toNatClampNeg ≤ 15 := by
  rcases own_cp x with h | h | h | h | h | h | h
  any_goals (rw [h]; decide)
  refine ⟨fun q => ?_, h.2⟩
  have e0 : (0 : Int32).toInt = 0 := rfl
  rw [Int32.lt_iff_toInt_lt, e0] at q
  have := h.1
  simp only [Int32.toNatClampNeg] at this
  omega
theorem own_rep6 {n : Nat} (h : 6 ≤ n) (h2 : n ≤ 15) : ∃ t : List Int32, t.length ≤ 300 ∧ TyB t ∧ List.replicate n (0 : Int32) = 0 :: 0 :: 0 :: 0 :: 0 :: 0 :: t := by
  obtain ⟨k, rfl⟩ : ∃ k, n = k + 6 := ⟨n - 6, by omega⟩
  refine ⟨List.replicate k 0, by rw [List.length_replicate]; omega, TyB.rep k, ?_⟩
  rfl
theorem own_cpy6 (bs : List Int32) (H : TyB bs) (m n : Nat) (h : m = n + 6) (hn : n ≤ 300) : ∃ t : List Int32, t.length ≤ 300 ∧ TyB t ∧ cpy bs m = bs.getD 0 0 :: bs.getD 1 0 :: bs.getD 2 0 :: bs.getD 3 0 :: bs.getD 4 0 :: bs.getD 5 0 :: t := by
  subst h
  refine ⟨((List.range n).map (fun j => bs.getD (j + 6) 0)), by rw [List.length_map, List.length_range]; exact hn, fun y hy => ?_, ?_⟩
  · obtain ⟨j, -, rfl⟩ := List.mem_map.mp hy
    rw [List.getD_eq_getElem?_getD]
    cases q : bs[j + 6]? with
    | none => decide
    | some v => exact H v (List.mem_of_getElem? q)
  · rw [cpy, Nat.add_comm n 6, List.range_add, List.map_append]
    simp [List.range_succ, Nat.add_comm]
theorem own_cpat (bs : List Int32) {n i : Nat} (h : i < n) : ((cpy bs n).map Value.int)[i]? = some (.int (bs.getD i 0)) := by
  rw [List.getElem?_map, cpy, List.getElem?_map, List.getElem?_range h]; rfl
theorem own_fty (x : Int64) : (fits .byte (.int (f0 x)) = true ∧ fits .byte (.int (f1 x)) = true ∧ fits .byte (.int (f2 x)) = true) ∧ fits .byte (.int (f3 x)) = true ∧ fits .byte (.int (f4 x)) = true ∧ fits .byte (.int (f5 x)) = true :=
  ⟨⟨fits_nar_byte _, fits_nar_byte _, fits_nar_byte _⟩, fits_nar_byte _, fits_nar_byte _, fits_nar_byte _⟩
theorem own_tyc {x : Int32} {t : List Int32} (h : fits .byte (.int x) = true) (H : TyB t) : TyB (x :: t) := fun y hy => by
  rcases List.mem_cons.mp hy with q | q
  · rw [q]; exact h
  · exact H y q
theorem own_ty0 : TyB [] := fun _ q => nomatch q
theorem own_ty1 (x : Int64) : TyB [f0 x] := own_tyc (own_fty x).1.1 own_ty0
theorem own_ty2 (x : Int64) : TyB [f0 x, f1 x] := own_tyc (own_fty x).1.1 (own_tyc (own_fty x).1.2.1 own_ty0)
theorem own_ty3 (x : Int64) : TyB [f0 x, f1 x, f2 x] := own_tyc (own_fty x).1.1 (own_tyc (own_fty x).1.2.1 (own_tyc (own_fty x).1.2.2 own_ty0))
theorem own_ty4 (x : Int64) : TyB [f0 x, f1 x, f2 x, f3 x] := own_tyc (own_fty x).1.1 (own_tyc (own_fty x).1.2.1 (own_tyc (own_fty x).1.2.2 (own_tyc (own_fty x).2.1 own_ty0)))
theorem own_ty5 (x : Int64) : TyB [f0 x, f1 x, f2 x, f3 x, f4 x] := own_tyc (own_fty x).1.1 (own_tyc (own_fty x).1.2.1 (own_tyc (own_fty x).1.2.2 (own_tyc (own_fty x).2.1 (own_tyc (own_fty x).2.2.1 own_ty0))))
theorem own_ty6 (x : Int64) {t : List Int32} (H : TyB t) : TyB (f0 x :: f1 x :: f2 x :: f3 x :: f4 x :: f5 x :: t) := own_tyc (own_fty x).1.1 (own_tyc (own_fty x).1.2.1 (own_tyc (own_fty x).1.2.2 (own_tyc (own_fty x).2.1 (own_tyc (own_fty x).2.2.1 (own_tyc (own_fty x).2.2.2 H)))))
theorem d10_0 : decode prog_273_method_16_code 0 = .ok (.aload_n 0, 1) := by decide +kernel
theorem d10_1 : decode prog_273_method_16_code 1 = .ok (.getfield 23, 3) := by decide +kernel
theorem d10_4 : decode prog_273_method_16_code 4 = .ok (.iload_n 1, 1) := by decide +kernel
theorem d10_5 : decode prog_273_method_16_code 5 = .ok (.iload_n 2, 1) := by decide +kernel
theorem d10_6 : decode prog_273_method_16_code 6 = .ok (.bipush 24, 2) := by decide +kernel
theorem d10_8 : decode prog_273_method_16_code 8 = .ok (.ishr, 1) := by decide +kernel
theorem d10_9 : decode prog_273_method_16_code 9 = .ok (.i2b, 1) := by decide +kernel
theorem d10_10 : decode prog_273_method_16_code 10 = .ok (.bastore, 1) := by decide +kernel
theorem d10_11 : decode prog_273_method_16_code 11 = .ok (.aload_n 0, 1) := by decide +kernel
theorem d10_12 : decode prog_273_method_16_code 12 = .ok (.getfield 23, 3) := by decide +kernel
theorem d10_15 : decode prog_273_method_16_code 15 = .ok (.iload_n 1, 1) := by decide +kernel
theorem d10_16 : decode prog_273_method_16_code 16 = .ok (.iconst 1, 1) := by decide +kernel
theorem d10_17 : decode prog_273_method_16_code 17 = .ok (.iadd, 1) := by decide +kernel
theorem d10_18 : decode prog_273_method_16_code 18 = .ok (.iload_n 2, 1) := by decide +kernel
theorem d10_19 : decode prog_273_method_16_code 19 = .ok (.bipush 16, 2) := by decide +kernel
theorem d10_21 : decode prog_273_method_16_code 21 = .ok (.ishr, 1) := by decide +kernel
theorem d10_22 : decode prog_273_method_16_code 22 = .ok (.i2b, 1) := by decide +kernel
theorem d10_23 : decode prog_273_method_16_code 23 = .ok (.bastore, 1) := by decide +kernel
theorem d10_24 : decode prog_273_method_16_code 24 = .ok (.aload_n 0, 1) := by decide +kernel
theorem d10_25 : decode prog_273_method_16_code 25 = .ok (.getfield 23, 3) := by decide +kernel
theorem d10_28 : decode prog_273_method_16_code 28 = .ok (.iload_n 1, 1) := by decide +kernel
theorem d10_29 : decode prog_273_method_16_code 29 = .ok (.iconst 2, 1) := by decide +kernel
theorem d10_30 : decode prog_273_method_16_code 30 = .ok (.iadd, 1) := by decide +kernel
theorem d10_31 : decode prog_273_method_16_code 31 = .ok (.iload_n 2, 1) := by decide +kernel
theorem d10_32 : decode prog_273_method_16_code 32 = .ok (.bipush 8, 2) := by decide +kernel
theorem d10_34 : decode prog_273_method_16_code 34 = .ok (.ishr, 1) := by decide +kernel
theorem d10_35 : decode prog_273_method_16_code 35 = .ok (.i2b, 1) := by decide +kernel
theorem d10_36 : decode prog_273_method_16_code 36 = .ok (.bastore, 1) := by decide +kernel
theorem d10_37 : decode prog_273_method_16_code 37 = .ok (.aload_n 0, 1) := by decide +kernel
theorem d10_38 : decode prog_273_method_16_code 38 = .ok (.getfield 23, 3) := by decide +kernel
theorem d10_41 : decode prog_273_method_16_code 41 = .ok (.iload_n 1, 1) := by decide +kernel
theorem d10_42 : decode prog_273_method_16_code 42 = .ok (.iconst 3, 1) := by decide +kernel
theorem d10_43 : decode prog_273_method_16_code 43 = .ok (.iadd, 1) := by decide +kernel
theorem d10_44 : decode prog_273_method_16_code 44 = .ok (.iload_n 2, 1) := by decide +kernel
theorem d10_45 : decode prog_273_method_16_code 45 = .ok (.i2b, 1) := by decide +kernel
theorem d10_46 : decode prog_273_method_16_code 46 = .ok (.bastore, 1) := by decide +kernel
theorem d10_47 : decode prog_273_method_16_code 47 = .ok (.return_, 1) := by decide +kernel
theorem ef_10 (m : MethodId) (x0 : Addr) (x1 : Int32) (x2 : Int32) : entryFrame m #[(.ref x0), (.int x1), (.int x2)] 3 = mkF m 0 #[.val (.ref x0), .val (.int x1), .val (.int x2)] [] := by first | (simp [entryFrame, mkF, argsToLocals, Value.category]; done) | rfl
def Q10 (Z : State) (x0 : Addr) (x1 : Int32) (x2 : Int32) (ub : Addr) (bs_ : List Int32) (a_ : Nat) (h0 : Heap) (n0 : Nat) (v : Option Value) (h : Heap) (L : List Loc) : Prop := v = none ∧ Fr n0 L ∧ Keep h0 h [ub] ∧ VArr Z h ub .byte ((putL bs_ a_ x2).map Value.int)
set_option maxRecDepth 65536 in
set_option maxHeartbeats 40000000 in
theorem rm10 (l : Launch) (Z : State) (a0 : Array Value) (hw : ∀ d ∈ tables_1, d.before a0 Z = true) (ws : List Jvm.Cond) (x0 : Addr) (x1 : Int32) (x2 : Int32) (ub : Addr) (bs_ : List Int32) (a_ : Nat) (h0 : Heap) (n0 : Nat) (Z0 : n0 ≤ h0.size) (F_bytes : Fld Z h0 x0 "com/example/keelson/keelson/wire/WireWriter" "bytes" "[B" (.ref ub)) (V_b : VArr Z h0 ub .byte (bs_.map Value.int)) (g_b : n0 ≤ ub) (ne_b : x0 ≠ ub) (ha3 : a_ < 3) (hat : x1 = Int32.ofNat a_) (hb6 : 6 ≤ bs_.length) :
    MetFree l (⟨"com/example/keelson/keelson/wire/WireWriter", "putInt", "(II)V"⟩ : MethodName) (head1 (Jvm.Cond.code (⟨"com/example/keelson/keelson/wire/WireWriter", "putInt", "(II)V"⟩ : MethodName) prog_273_method_16_code 3 none :: ws) ({ frames := 0, cells := 0, slots := 0, locals := 0 } : Room)) (fun a U => a = #[(.ref x0), (.int x1), (.int x2)] ∧ Z.Warmed39 U.vm ∧ U.heap = h0) (fun _ _ _ _ _ => True) (fun _ U o U' => ∃ v L, o = .returned v ∧ Q10 Z x0 x1 x2 ub bs_ a_ h0 n0 v U'.heap L ∧ FrameEnd U o U' L ({ frames := 0, cells := 0, slots := 0, locals := 0 } : Room).cells ({ frames := 0, cells := 0, slots := 0, locals := 0 } : Room).slots) := by
  refine MetFree.of_bodySF (plainFor_of_name pn_0) hisR ?_
  intro p e s m args below meth c s₁ Bd hml0 hP hK
  obtain ⟨rfl, hZ, hh⟩ := hP
  have hx := Bd.exec
  have hby := Bd.bytes
  have hml : c.maxLocals = 3 := hml0
  have hown : s.vm.findClass "com/example/keelson/keelson/wire/WireWriter" = some m.cls := findClass_of_methodNamed Bd.named
  have hnm := (name_of_methodNamed Bd.named Bd.method).1
  have hk : meth.locks = false := BodyLoose.notSynchronized Bd
  have X0 : Stand p l e ({ frames := 0, cells := 0, slots := 0, locals := 0 } : Room) s m #[(.ref x0), (.int x1), (.int x2)] below meth c s₁ [] 0 0 := Stand.of_body Bd
  have e0 : s₁.heap = h0 := by rw [← hh, Bd.state]; rfl
  have N0 := Fr.nil n0
  show Go p e below s (Q10 Z x0 x1 x2 ub bs_ a_ h0 n0) ({ frames := 0, cells := 0, slots := 0, locals := 0 } : Room).cells ({ frames := 0, cells := 0, slots := 0, locals := 0 } : Room).slots s₁ (entryFrame m #[(.ref x0), (.int x1), (.int x2)] 3)
  refine Go.cast (ef_10 m x0 x1 x2) ?_
  refine Go.of (T' := s₁) (f' := (mkF m 1 #[.val (.ref x0), .val (.int x1), .val (.int x2)] [(.ref x0)])) (fun t k => XS.aloadN X0.here hx rfl (hb hby d10_0) rfl rfl k) ?_
  obtain ⟨T1, X1, e1, st1⟩ := getF X0 hx hZ hown (host := "") (Or.inl (hw _ (List.mem_of_getElem? (i := 18) rfl))) Via.refl e0 F_bytes (g := (mkF m 1 #[.val (.ref x0), .val (.int x1), .val (.int x2)] [(.ref x0)])) rfl rfl (hb hby d10_1)
  refine Go.of (T' := T1) (f' := (mkF m 4 #[.val (.ref x0), .val (.int x1), .val (.int x2)] [(.ref ub)])) (fun t k => st1 t k) ?_
  refine Go.of (T' := T1) (f' := (mkF m 5 #[.val (.ref x0), .val (.int x1), .val (.int x2)] [(.int x1), (.ref ub)])) (fun t k => XS.iloadN X1.here hx rfl (hb hby d10_4) rfl k) ?_
  refine Go.of (T' := T1) (f' := (mkF m 6 #[.val (.ref x0), .val (.int x1), .val (.int x2)] [(.int x2), (.int x1), (.ref ub)])) (fun t k => XS.iloadN X1.here hx rfl (hb hby d10_5) rfl k) ?_
  refine Go.of (T' := T1) (f' := (mkF m 8 #[.val (.ref x0), .val (.int x1), .val (.int x2)] [(.int (24 : Int32)), (.int x2), (.int x1), (.ref ub)])) (fun t k => XS.bipush X1.here hx rfl (hb hby d10_6) k) ?_
  refine Go.of (T' := T1) (f' := (mkF m 9 #[.val (.ref x0), .val (.int x1), .val (.int x2)] [(.int (x2 >>> ((24 : Int32) &&& 31))), (.int x1), (.ref ub)])) (fun t k => XS.ishr X1.here hx rfl (hb hby d10_8) rfl k) ?_
  refine Go.of (T' := T1) (f' := (mkF m 10 #[.val (.ref x0), .val (.int x1), .val (.int x2)] [(.int ((x2 >>> ((24 : Int32) &&& 31)).toInt8.toInt32)), (.int x1), (.ref ub)])) (fun t k => XS.i2b X1.here hx rfl (hb hby d10_9) rfl k) ?_
  obtain ⟨T2, h2, X2, e2, W2, V2, st2⟩ := saB X1 hx hZ e1 V_b (j := x1) (x := ((x2 >>> ((24 : Int32) &&& 31)).toInt8.toInt32)) (own_ati ha3 hat).1.1 (own_ati ha3 hat).1.2 (by simp only [List.length_set, List.length_map]; omega) (g := (mkF m 10 #[.val (.ref x0), .val (.int x1), .val (.int x2)] [(.int ((x2 >>> ((24 : Int32) &&& 31)).toInt8.toInt32)), (.int x1), (.ref ub)])) rfl rfl (hb hby d10_10)
  have F2_x0_bytes : Fld Z h2 x0 "com/example/keelson/keelson/wire/WireWriter" "bytes" "[B" (.ref ub) := F_bytes.other W2 (Or.inl ne_b)
  have N2 := Fr.snoc X2 N0 g_b
  have KK2 : Keep h0 h2 [ub] := (Keep.refl h0 [ub]).wr W2 (Or.inl (List.mem_of_getElem? (i := 0) rfl))
  have ZS2 : n0 ≤ h2.size := Nat.le_trans Z0 (Keep.of_wr W2).1
  refine Go.of (T' := T2) (f' := (mkF m 11 #[.val (.ref x0), .val (.int x1), .val (.int x2)] [])) (fun t k => st2 t k) ?_
  refine Go.of (T' := T2) (f' := (mkF m 12 #[.val (.ref x0), .val (.int x1), .val (.int x2)] [(.ref x0)])) (fun t k => XS.aloadN X2.here hx rfl (hb hby d10_11) rfl rfl k) ?_
  obtain ⟨T3, X3, e3, st3⟩ := getF X2 hx hZ hown (host := "") (Or.inl (hw _ (List.mem_of_getElem? (i := 18) rfl))) Via.refl e2 F2_x0_bytes (g := (mkF m 12 #[.val (.ref x0), .val (.int x1), .val (.int x2)] [(.ref x0)])) rfl rfl (hb hby d10_12)
  refine Go.of (T' := T3) (f' := (mkF m 15 #[.val (.ref x0), .val (.int x1), .val (.int x2)] [(.ref ub)])) (fun t k => st3 t k) ?_
  refine Go.of (T' := T3) (f' := (mkF m 16 #[.val (.ref x0), .val (.int x1), .val (.int x2)] [(.int x1), (.ref ub)])) (fun t k => XS.iloadN X3.here hx rfl (hb hby d10_15) rfl k) ?_
  refine Go.of (T' := T3) (f' := (mkF m 17 #[.val (.ref x0), .val (.int x1), .val (.int x2)] [(.int (1 : Int32)), (.int x1), (.ref ub)])) (fun t k => XS.iconst X3.here hx rfl (hb hby d10_16) k) ?_
  refine Go.of (T' := T3) (f' := (mkF m 18 #[.val (.ref x0), .val (.int x1), .val (.int x2)] [(.int (x1 + (1 : Int32))), (.ref ub)])) (fun t k => XS.iadd X3.here hx rfl (hb hby d10_17) rfl k) ?_
  refine Go.of (T' := T3) (f' := (mkF m 19 #[.val (.ref x0), .val (.int x1), .val (.int x2)] [(.int x2), (.int (x1 + (1 : Int32))), (.ref ub)])) (fun t k => XS.iloadN X3.here hx rfl (hb hby d10_18) rfl k) ?_
  refine Go.of (T' := T3) (f' := (mkF m 21 #[.val (.ref x0), .val (.int x1), .val (.int x2)] [(.int (16 : Int32)), (.int x2), (.int (x1 + (1 : Int32))), (.ref ub)])) (fun t k => XS.bipush X3.here hx rfl (hb hby d10_19) k) ?_
  refine Go.of (T' := T3) (f' := (mkF m 22 #[.val (.ref x0), .val (.int x1), .val (.int x2)] [(.int (x2 >>> ((16 : Int32) &&& 31))), (.int (x1 + (1 : Int32))), (.ref ub)])) (fun t k => XS.ishr X3.here hx rfl (hb hby d10_21) rfl k) ?_
  refine Go.of (T' := T3) (f' := (mkF m 23 #[.val (.ref x0), .val (.int x1), .val (.int x2)] [(.int ((x2 >>> ((16 : Int32) &&& 31)).toInt8.toInt32)), (.int (x1 + (1 : Int32))), (.ref ub)])) (fun t k => XS.i2b X3.here hx rfl (hb hby d10_22) rfl k) ?_
  obtain ⟨T4, h4, X4, e4, W4, V4, st4⟩ := saB X3 hx hZ e3 V2 (j := (x1 + (1 : Int32))) (x := ((x2 >>> ((16 : Int32) &&& 31)).toInt8.toInt32)) (own_ati ha3 hat).2.1.1 (own_ati ha3 hat).2.1.2 (by simp only [List.length_set, List.length_map]; omega) (g := (mkF m 23 #[.val (.ref x0), .val (.int x1), .val (.int x2)] [(.int ((x2 >>> ((16 : Int32) &&& 31)).toInt8.toInt32)), (.int (x1 + (1 : Int32))), (.ref ub)])) rfl rfl (hb hby d10_23)
  have F4_x0_bytes : Fld Z h4 x0 "com/example/keelson/keelson/wire/WireWriter" "bytes" "[B" (.ref ub) := F2_x0_bytes.other W4 (Or.inl ne_b)
  have N4 := Fr.snoc X4 N2 g_b
  have KK4 : Keep h0 h4 [ub] := KK2.wr W4 (Or.inl (List.mem_of_getElem? (i := 0) rfl))
  have ZS4 : n0 ≤ h4.size := Nat.le_trans ZS2 (Keep.of_wr W4).1
  refine Go.of (T' := T4) (f' := (mkF m 24 #[.val (.ref x0), .val (.int x1), .val (.int x2)] [])) (fun t k => st4 t k) ?_
  refine Go.of (T' := T4) (f' := (mkF m 25 #[.val (.ref x0), .val (.int x1), .val (.int x2)] [(.ref x0)])) (fun t k => XS.aloadN X4.here hx rfl (hb hby d10_24) rfl rfl k) ?_
  obtain ⟨T5, X5, e5, st5⟩ := getF X4 hx hZ hown (host := "") (Or.inl (hw _ (List.mem_of_getElem? (i := 18) rfl))) Via.refl e4 F4_x0_bytes (g := (mkF m 25 #[.val (.ref x0), .val (.int x1), .val (.int x2)] [(.ref x0)])) rfl rfl (hb hby d10_25)
  refine Go.of (T' := T5) (f' := (mkF m 28 #[.val (.ref x0), .val (.int x1), .val (.int x2)] [(.ref ub)])) (fun t k => st5 t k) ?_
  refine Go.of (T' := T5) (f' := (mkF m 29 #[.val (.ref x0), .val (.int x1), .val (.int x2)] [(.int x1), (.ref ub)])) (fun t k => XS.iloadN X5.here hx rfl (hb hby d10_28) rfl k) ?_
  refine Go.of (T' := T5) (f' := (mkF m 30 #[.val (.ref x0), .val (.int x1), .val (.int x2)] [(.int (2 : Int32)), (.int x1), (.ref ub)])) (fun t k => XS.iconst X5.here hx rfl (hb hby d10_29) k) ?_
  refine Go.of (T' := T5) (f' := (mkF m 31 #[.val (.ref x0), .val (.int x1), .val (.int x2)] [(.int (x1 + (2 : Int32))), (.ref ub)])) (fun t k => XS.iadd X5.here hx rfl (hb hby d10_30) rfl k) ?_
  refine Go.of (T' := T5) (f' := (mkF m 32 #[.val (.ref x0), .val (.int x1), .val (.int x2)] [(.int x2), (.int (x1 + (2 : Int32))), (.ref ub)])) (fun t k => XS.iloadN X5.here hx rfl (hb hby d10_31) rfl k) ?_
  refine Go.of (T' := T5) (f' := (mkF m 34 #[.val (.ref x0), .val (.int x1), .val (.int x2)] [(.int (8 : Int32)), (.int x2), (.int (x1 + (2 : Int32))), (.ref ub)])) (fun t k => XS.bipush X5.here hx rfl (hb hby d10_32) k) ?_
  refine Go.of (T' := T5) (f' := (mkF m 35 #[.val (.ref x0), .val (.int x1), .val (.int x2)] [(.int (x2 >>> ((8 : Int32) &&& 31))), (.int (x1 + (2 : Int32))), (.ref ub)])) (fun t k => XS.ishr X5.here hx rfl (hb hby d10_34) rfl k) ?_
  refine Go.of (T' := T5) (f' := (mkF m 36 #[.val (.ref x0), .val (.int x1), .val (.int x2)] [(.int ((x2 >>> ((8 : Int32) &&& 31)).toInt8.toInt32)), (.int (x1 + (2 : Int32))), (.ref ub)])) (fun t k => XS.i2b X5.here hx rfl (hb hby d10_35) rfl k) ?_
  obtain ⟨T6, h6, X6, e6, W6, V6, st6⟩ := saB X5 hx hZ e5 V4 (j := (x1 + (2 : Int32))) (x := ((x2 >>> ((8 : Int32) &&& 31)).toInt8.toInt32)) (own_ati ha3 hat).2.2.1.1 (own_ati ha3 hat).2.2.1.2 (by simp only [List.length_set, List.length_map]; omega) (g := (mkF m 36 #[.val (.ref x0), .val (.int x1), .val (.int x2)] [(.int ((x2 >>> ((8 : Int32) &&& 31)).toInt8.toInt32)), (.int (x1 + (2 : Int32))), (.ref ub)])) rfl rfl (hb hby d10_36)
  have F6_x0_bytes : Fld Z h6 x0 "com/example/keelson/keelson/wire/WireWriter" "bytes" "[B" (.ref ub) := F4_x0_bytes.other W6 (Or.inl ne_b)
  have N6 := Fr.snoc X6 N4 g_b
  have KK6 : Keep h0 h6 [ub] := KK4.wr W6 (Or.inl (List.mem_of_getElem? (i := 0) rfl))
  have ZS6 : n0 ≤ h6.size := Nat.le_trans ZS4 (Keep.of_wr W6).1
  refine Go.of (T' := T6) (f' := (mkF m 37 #[.val (.ref x0), .val (.int x1), .val (.int x2)] [])) (fun t k => st6 t k) ?_
  refine Go.of (T' := T6) (f' := (mkF m 38 #[.val (.ref x0), .val (.int x1), .val (.int x2)] [(.ref x0)])) (fun t k => XS.aloadN X6.here hx rfl (hb hby d10_37) rfl rfl k) ?_
  obtain ⟨T7, X7, e7, st7⟩ := getF X6 hx hZ hown (host := "") (Or.inl (hw _ (List.mem_of_getElem? (i := 18) rfl))) Via.refl e6 F6_x0_bytes (g := (mkF m 38 #[.val (.ref x0), .val (.int x1), .val (.int x2)] [(.ref x0)])) rfl rfl (hb hby d10_38)
  refine Go.of (T' := T7) (f' := (mkF m 41 #[.val (.ref x0), .val (.int x1), .val (.int x2)] [(.ref ub)])) (fun t k => st7 t k) ?_
  refine Go.of (T' := T7) (f' := (mkF m 42 #[.val (.ref x0), .val (.int x1), .val (.int x2)] [(.int x1), (.ref ub)])) (fun t k => XS.iloadN X7.here hx rfl (hb hby d10_41) rfl k) ?_
  refine Go.of (T' := T7) (f' := (mkF m 43 #[.val (.ref x0), .val (.int x1), .val (.int x2)] [(.int (3 : Int32)), (.int x1), (.ref ub)])) (fun t k => XS.iconst X7.here hx rfl (hb hby d10_42) k) ?_
  refine Go.of (T' := T7) (f' := (mkF m 44 #[.val (.ref x0), .val (.int x1), .val (.int x2)] [(.int (x1 + (3 : Int32))), (.ref ub)])) (fun t k => XS.iadd X7.here hx rfl (hb hby d10_43) rfl k) ?_
  refine Go.of (T' := T7) (f' := (mkF m 45 #[.val (.ref x0), .val (.int x1), .val (.int x2)] [(.int x2), (.int (x1 + (3 : Int32))), (.ref ub)])) (fun t k => XS.iloadN X7.here hx rfl (hb hby d10_44) rfl k) ?_
  refine Go.of (T' := T7) (f' := (mkF m 46 #[.val (.ref x0), .val (.int x1), .val (.int x2)] [(.int (x2.toInt8.toInt32)), (.int (x1 + (3 : Int32))), (.ref ub)])) (fun t k => XS.i2b X7.here hx rfl (hb hby d10_45) rfl k) ?_
  obtain ⟨T8, h8, X8, e8, W8, V8, st8⟩ := saB X7 hx hZ e7 V6 (j := (x1 + (3 : Int32))) (x := (x2.toInt8.toInt32)) (own_ati ha3 hat).2.2.2.1 (own_ati ha3 hat).2.2.2.2 (by simp only [List.length_set, List.length_map]; omega) (g := (mkF m 46 #[.val (.ref x0), .val (.int x1), .val (.int x2)] [(.int (x2.toInt8.toInt32)), (.int (x1 + (3 : Int32))), (.ref ub)])) rfl rfl (hb hby d10_46)
  have F8_x0_bytes : Fld Z h8 x0 "com/example/keelson/keelson/wire/WireWriter" "bytes" "[B" (.ref ub) := F6_x0_bytes.other W8 (Or.inl ne_b)
  have N8 := Fr.snoc X8 N6 g_b
  have KK8 : Keep h0 h8 [ub] := KK6.wr W8 (Or.inl (List.mem_of_getElem? (i := 0) rfl))
  have ZS8 : n0 ≤ h8.size := Nat.le_trans ZS6 (Keep.of_wr W8).1
  refine Go.of (T' := T8) (f' := (mkF m 47 #[.val (.ref x0), .val (.int x1), .val (.int x2)] [])) (fun t k => st8 t k) ?_
  refine Go.retV X8 hx hk Bd.returns (hb hby d10_47) (by decide) (by decide) ?_
  rw [e8]
  exact ⟨rfl, N8, KK8, by rw [putL, List.map_set, List.map_set, List.map_set, List.map_set]; exact V8⟩
theorem d11_0 : decode prog_273_method_8_code 0 = .ok (.aload_n 0, 1) := by decide +kernel
theorem d11_1 : decode prog_273_method_8_code 1 = .ok (.getfield 23, 3) := by decide +kernel
theorem d11_4 : decode prog_273_method_8_code 4 = .ok (.aload_n 0, 1) := by decide +kernel
theorem d11_5 : decode prog_273_method_8_code 5 = .ok (.getfield 27, 3) := by decide +kernel
theorem d11_8 : decode prog_273_method_8_code 8 = .ok (.invokestatic 31, 3) := by decide +kernel
theorem d11_11 : decode prog_273_method_8_code 11 = .ok (.areturn, 1) := by decide +kernel
theorem ef_11 (m : MethodId) (x0 : Addr) : entryFrame m #[(.ref x0)] 1 = mkF m 0 #[.val (.ref x0)] [] := by first | (simp [entryFrame, mkF, argsToLocals, Value.category]; done) | rfl
def Q11 (Z : State) (x0 : Addr) (ub : Addr) (bs_ : List Int32) (h0 : Heap) (n0 : Nat) (v : Option Value) (h : Heap) (L : List Loc) : Prop := ∃ b : Addr, v = some (.ref b) ∧ Fr n0 L ∧ Keep h0 h [] ∧ h0.size ≤ b ∧ n0 ≤ b ∧ VArr Z h b .byte ((cpy bs_ 6).map Value.int)
set_option maxRecDepth 65536 in
set_option maxHeartbeats 40000000 in
theorem rm11 (l : Launch) (Z : State) (a0 : Array Value) (hw : ∀ d ∈ tables_1, d.before a0 Z = true) (ws : List Jvm.Cond) (x0 : Addr) (ub : Addr) (bs_ : List Int32) (h0 : Heap) (n0 : Nat) (Z0 : n0 ≤ h0.size) (F_size : Fld Z h0 x0 "com/example/keelson/keelson/wire/WireWriter" "size" "I" (.int (Int32.ofNat 6))) (F_bytes : Fld Z h0 x0 "com/example/keelson/keelson/wire/WireWriter" "bytes" "[B" (.ref ub)) (V_b : VArr Z h0 ub .byte (bs_.map Value.int)) (E_b : Exa Z h0 ub "[B") (TY : TyB bs_) (hbl : bs_.length < 1000) :
    MetFree l (⟨"com/example/keelson/keelson/wire/WireWriter", "toByteArray", "()[B"⟩ : MethodName) (head1 (Jvm.Cond.code (⟨"com/example/keelson/keelson/wire/WireWriter", "toByteArray", "()[B"⟩ : MethodName) prog_273_method_8_code 1 (some (.array .byte)) :: ws) ({ frames := 2, cells := 1, slots := 6, locals := 54 } : Room)) (fun a U => a = #[(.ref x0)] ∧ Z.Warmed39 U.vm ∧ U.heap = h0) (fun _ _ _ _ _ => True) (fun _ U o U' => ∃ v L, o = .returned v ∧ Q11 Z x0 ub bs_ h0 n0 v U'.heap L ∧ FrameEnd U o U' L ({ frames := 2, cells := 1, slots := 6, locals := 54 } : Room).cells ({ frames := 2, cells := 1, slots := 6, locals := 54 } : Room).slots) := by
  refine MetFree.of_bodySF (plainFor_of_name pn_0) hisR ?_
  intro p e s m args below meth c s₁ Bd hml0 hP hK
  obtain ⟨rfl, hZ, hh⟩ := hP
  have hx := Bd.exec
  have hby := Bd.bytes
  have hml : c.maxLocals = 1 := hml0
  have hown : s.vm.findClass "com/example/keelson/keelson/wire/WireWriter" = some m.cls := findClass_of_methodNamed Bd.named
  have hnm := (name_of_methodNamed Bd.named Bd.method).1
  have hk : meth.locks = false := BodyLoose.notSynchronized Bd
  have X0 : Stand p l e ({ frames := 2, cells := 1, slots := 6, locals := 54 } : Room) s m #[(.ref x0)] below meth c s₁ [] 0 0 := Stand.of_body Bd
  have e0 : s₁.heap = h0 := by rw [← hh, Bd.state]; rfl
  have N0 := Fr.nil n0
  show Go p e below s (Q11 Z x0 ub bs_ h0 n0) ({ frames := 2, cells := 1, slots := 6, locals := 54 } : Room).cells ({ frames := 2, cells := 1, slots := 6, locals := 54 } : Room).slots s₁ (entryFrame m #[(.ref x0)] 1)
  refine Go.cast (ef_11 m x0) ?_
  refine Go.of (T' := s₁) (f' := (mkF m 1 #[.val (.ref x0)] [(.ref x0)])) (fun t k => XS.aloadN X0.here hx rfl (hb hby d11_0) rfl rfl k) ?_
  obtain ⟨T1, X1, e1, st1⟩ := getF X0 hx hZ hown (host := "") (Or.inl (hw _ (List.mem_of_getElem? (i := 18) rfl))) Via.refl e0 F_bytes (g := (mkF m 1 #[.val (.ref x0)] [(.ref x0)])) rfl rfl (hb hby d11_1)
  refine Go.of (T' := T1) (f' := (mkF m 4 #[.val (.ref x0)] [(.ref ub)])) (fun t k => st1 t k) ?_
  refine Go.of (T' := T1) (f' := (mkF m 5 #[.val (.ref x0)] [(.ref x0), (.ref ub)])) (fun t k => XS.aloadN X1.here hx rfl (hb hby d11_4) rfl rfl k) ?_
  obtain ⟨T2, X2, e2, st2⟩ := getF X1 hx hZ hown (host := "") (Or.inl (hw _ (List.mem_of_getElem? (i := 29) rfl))) Via.refl e1 F_size (g := (mkF m 5 #[.val (.ref x0)] [(.ref x0), (.ref ub)])) rfl rfl (hb hby d11_5)
  refine Go.of (T' := T2) (f' := (mkF m 8 #[.val (.ref x0)] [(.int (Int32.ofNat 6)), (.ref ub)])) (fun t k => st2 t k) ?_
  obtain ⟨T3, h3, X3, e3, E3, V3, Eb3, st3⟩ := copyB X2 hx hZ hown (mvT hZ (hw _ (List.mem_of_getElem? (i := 41) rfl))) (mvT hZ (hw _ (List.mem_of_getElem? (i := 42) rfl))) (mvT hZ (hw _ (List.mem_of_getElem? (i := 43) rfl))) (mvT hZ (hw _ (List.mem_of_getElem? (i := 44) rfl))) (own_cptab hw hZ) e2 V_b E_b TY (Nat.lt_trans hbl (by decide)) (n := 6) (by decide) (by decide) (W := 0) (by decide) (by decide) (by decide) (g := (mkF m 8 #[.val (.ref x0)] [(.int (Int32.ofNat 6)), (.ref ub)])) rfl (by rw [hml]; rfl) rfl (by show 2 * 0 + _ ≤ _; exact Nat.le_of_eq rfl) (hb hby d11_8)
  obtain ⟨b3, gb3⟩ : ∃ z, z = h0.size := ⟨_, rfl⟩
  rw [← gb3] at V3 Eb3 st3
  have g_b3 : n0 ≤ b3 := Nat.le_trans Z0 (Nat.le_of_eq gb3.symm)
  have sz_b3 : h0.size ≤ b3 := Nat.le_trans (Keep.refl h0 []).1 (Nat.le_of_eq gb3.symm)
  have ne_x0_b3 : x0 ≠ b3 := Nat.ne_of_lt (Nat.lt_of_lt_of_le F_bytes.lt (Nat.le_of_eq gb3.symm))
  have ne_ub_b3 : ub ≠ b3 := Nat.ne_of_lt (Nat.lt_of_lt_of_le E_b.lt (Nat.le_of_eq gb3.symm))
  have ZS3 : n0 ≤ h3.size := Nat.le_trans Z0 E3.1
  have KK3 : Keep h0 h3 [] := (Keep.refl h0 []).ext E3
  have F3_x0_bytes : Fld Z h3 x0 "com/example/keelson/keelson/wire/WireWriter" "bytes" "[B" (.ref ub) := F_bytes.ext E3
  have F3_x0_size : Fld Z h3 x0 "com/example/keelson/keelson/wire/WireWriter" "size" "I" (.int (Int32.ofNat 6)) := F_size.ext E3
  have Ex3_ub : Exa Z h3 ub "[B" := E_b.ext E3
  have V3_ub : VArr Z h3 ub .byte (bs_.map Value.int) := V_b.ext E3
  refine Go.of (T' := T3) (f' := (mkF m 11 #[.val (.ref x0)] [(.ref b3)])) (fun t k => st3 t k) ?_
  refine Go.retA X3 hx hk Bd.returns rfl (hb hby d11_11) (by decide) (by decide) ?_
  rw [e3]
  exact ⟨b3, rfl, N0, KK3, sz_b3, g_b3, V3⟩
theorem d12_0 : decode method_3_code 0 = .ok (.iload_n 1, 1) := by decide +kernel
theorem d12_1 : decode method_3_code 1 = .ok (.iload_n 2, 1) := by decide +kernel
theorem d12_2 : decode method_3_code 2 = .ok (.isub, 1) := by decide +kernel
theorem d12_3 : decode method_3_code 3 = .ok (.istore 6, 2) := by decide +kernel
theorem d12_5 : decode method_3_code 5 = .ok (.iload 6, 2) := by decide +kernel
theorem d12_7 : decode method_3_code 7 = .ok (.ifCond .lt 27, 3) := by decide +kernel
theorem d12_10 : decode method_3_code 10 = .ok (.iload 6, 2) := by decide +kernel
theorem d12_12 : decode method_3_code 12 = .ok (.iconst 4, 1) := by decide +kernel
theorem d12_13 : decode method_3_code 13 = .ok (.if_icmp .ge 21, 3) := by decide +kernel
theorem d12_16 : decode method_3_code 16 = .ok (.iload_n 3, 1) := by decide +kernel
theorem d12_17 : decode method_3_code 17 = .ok (.bipush 8, 2) := by decide +kernel
theorem d12_19 : decode method_3_code 19 = .ok (.iconst 3, 1) := by decide +kernel
theorem d12_20 : decode method_3_code 20 = .ok (.iload 6, 2) := by decide +kernel
theorem d12_22 : decode method_3_code 22 = .ok (.isub, 1) := by decide +kernel
theorem d12_23 : decode method_3_code 23 = .ok (.imul, 1) := by decide +kernel
theorem d12_24 : decode method_3_code 24 = .ok (.iushr, 1) := by decide +kernel
theorem d12_25 : decode method_3_code 25 = .ok (.sipush 255, 3) := by decide +kernel
theorem d12_28 : decode method_3_code 28 = .ok (.iand, 1) := by decide +kernel
theorem d12_29 : decode method_3_code 29 = .ok (.istore 7, 2) := by decide +kernel
theorem d12_31 : decode method_3_code 31 = .ok (.goto 17, 3) := by decide +kernel
theorem d12_34 : decode method_3_code 34 = .ok (.lload 4, 2) := by decide +kernel
theorem d12_36 : decode method_3_code 36 = .ok (.bipush 8, 2) := by decide +kernel
theorem d12_38 : decode method_3_code 38 = .ok (.iload_n 1, 1) := by decide +kernel
theorem d12_39 : decode method_3_code 39 = .ok (.imul, 1) := by decide +kernel
theorem d12_40 : decode method_3_code 40 = .ok (.lushr, 1) := by decide +kernel
theorem d12_41 : decode method_3_code 41 = .ok (.l2i, 1) := by decide +kernel
theorem d12_42 : decode method_3_code 42 = .ok (.sipush 255, 3) := by decide +kernel
theorem d12_45 : decode method_3_code 45 = .ok (.iand, 1) := by decide +kernel
theorem d12_46 : decode method_3_code 46 = .ok (.istore 7, 2) := by decide +kernel
theorem d12_48 : decode method_3_code 48 = .ok (.iload_n 0, 1) := by decide +kernel
theorem d12_49 : decode method_3_code 49 = .ok (.sipush 255, 3) := by decide +kernel
theorem d12_52 : decode method_3_code 52 = .ok (.iand, 1) := by decide +kernel
theorem d12_53 : decode method_3_code 53 = .ok (.iload 7, 2) := by decide +kernel
theorem d12_55 : decode method_3_code 55 = .ok (.if_icmp .ne 7, 3) := by decide +kernel
theorem d12_58 : decode method_3_code 58 = .ok (.iconst 1, 1) := by decide +kernel
theorem d12_59 : decode method_3_code 59 = .ok (.goto 4, 3) := by decide +kernel
theorem d12_62 : decode method_3_code 62 = .ok (.iconst 0, 1) := by decide +kernel
theorem d12_63 : decode method_3_code 63 = .ok (.ireturn, 1) := by decide +kernel
theorem pn_1 : plainName "com/example/keelson/keelson/wire/WireWriterPutIntPinLaw" = true := by first | (simp [plainName, overriddenIn]; done) | decide +kernel
theorem ef_12 (m : MethodId) (x0 : Int32) (x1 : Int32) (x2 : Int32) (x3 : Int32) (x4 : Int64) : entryFrame m #[(.int x0), (.int x1), (.int x2), (.int x3), (.long x4)] 8 = mkF m 0 #[.val (.int x0), .val (.int x1), .val (.int x2), .val (.int x3), .val (.long x4), .second, .unset, .unset] [] := by first | (simp [entryFrame, mkF, argsToLocals, Value.category]; done) | rfl
def Q12 (Z : State) (x0 : Int32) (x1 : Int32) (x2 : Int32) (x3 : Int32) (x4 : Int64)  (h0 : Heap) (n0 : Nat) (v : Option Value) (h : Heap) (L : List Loc) : Prop := v = some (.int (okV x0 x1 x2 x3 x4)) ∧ Fr n0 L ∧ h = h0
set_option maxRecDepth 65536 in
set_option maxHeartbeats 40000000 in
theorem rm12 (l : Launch) (Z : State) (a0 : Array Value) (hw : ∀ d ∈ tables_1, d.before a0 Z = true) (ws : List Jvm.Cond) (x0 : Int32) (x1 : Int32) (x2 : Int32) (x3 : Int32) (x4 : Int64)  (h0 : Heap) (n0 : Nat) (Z0 : n0 ≤ h0.size)  :
    MetFree l (⟨"com/example/keelson/keelson/wire/WireWriterPutIntPinLaw", "ok", "(BIIIJ)Z"⟩ : MethodName) (head1 (Jvm.Cond.code (⟨"com/example/keelson/keelson/wire/WireWriterPutIntPinLaw", "ok", "(BIIIJ)Z"⟩ : MethodName) method_3_code 8 (some .boolean) :: ws) ({ frames := 0, cells := 0, slots := 0, locals := 0 } : Room)) (fun a U => a = #[(.int x0), (.int x1), (.int x2), (.int x3), (.long x4)] ∧ Z.Warmed39 U.vm ∧ U.heap = h0) (fun _ _ _ _ _ => True) (fun _ U o U' => ∃ v L, o = .returned v ∧ Q12 Z x0 x1 x2 x3 x4 h0 n0 v U'.heap L ∧ FrameEnd U o U' L ({ frames := 0, cells := 0, slots := 0, locals := 0 } : Room).cells ({ frames := 0, cells := 0, slots := 0, locals := 0 } : Room).slots) := by
  refine MetFree.of_bodySF (plainFor_of_name pn_1) hisR ?_
  intro p e s m args below meth c s₁ Bd hml0 hP hK
  obtain ⟨rfl, hZ, hh⟩ := hP
  have hx := Bd.exec
  have hby := Bd.bytes
  have hml : c.maxLocals = 8 := hml0
  have hown : s.vm.findClass "com/example/keelson/keelson/wire/WireWriterPutIntPinLaw" = some m.cls := findClass_of_methodNamed Bd.named
  have hnm := (name_of_methodNamed Bd.named Bd.method).1
  have hk : meth.locks = false := BodyLoose.notSynchronized Bd
  have X0 : Stand p l e ({ frames := 0, cells := 0, slots := 0, locals := 0 } : Room) s m #[(.int x0), (.int x1), (.int x2), (.int x3), (.long x4)] below meth c s₁ [] 0 0 := Stand.of_body Bd
  have e0 : s₁.heap = h0 := by rw [← hh, Bd.state]; rfl
  have N0 := Fr.nil n0
  show Go p e below s (Q12 Z x0 x1 x2 x3 x4 h0 n0) ({ frames := 0, cells := 0, slots := 0, locals := 0 } : Room).cells ({ frames := 0, cells := 0, slots := 0, locals := 0 } : Room).slots s₁ (entryFrame m #[(.int x0), (.int x1), (.int x2), (.int x3), (.long x4)] 8)
  refine Go.cast (ef_12 m x0 x1 x2 x3 x4) ?_
  refine Go.of (T' := s₁) (f' := (mkF m 1 #[.val (.int x0), .val (.int x1), .val (.int x2), .val (.int x3), .val (.long x4), .second, .unset, .unset] [(.int x1)])) (fun t k => XS.iloadN X0.here hx rfl (hb hby d12_0) rfl k) ?_
  refine Go.of (T' := s₁) (f' := (mkF m 2 #[.val (.int x0), .val (.int x1), .val (.int x2), .val (.int x3), .val (.long x4), .second, .unset, .unset] [(.int x2), (.int x1)])) (fun t k => XS.iloadN X0.here hx rfl (hb hby d12_1) rfl k) ?_
  refine Go.of (T' := s₁) (f' := (mkF m 3 #[.val (.int x0), .val (.int x1), .val (.int x2), .val (.int x3), .val (.long x4), .second, .unset, .unset] [(.int (x1 - x2))])) (fun t k => XS.isub X0.here hx rfl (hb hby d12_2) rfl k) ?_
  refine Go.of (T' := s₁) (f' := (mkF m 5 #[.val (.int x0), .val (.int x1), .val (.int x2), .val (.int x3), .val (.long x4), .second, .val (.int (x1 - x2)), .unset] [])) (fun t k => XS.istore X0.here hx rfl (hb hby d12_3) rfl (l' := #[.val (.int x0), .val (.int x1), .val (.int x2), .val (.int x3), .val (.long x4), .second, .val (.int (x1 - x2)), .unset]) rfl k) ?_
  refine Go.of (T' := s₁) (f' := (mkF m 7 #[.val (.int x0), .val (.int x1), .val (.int x2), .val (.int x3), .val (.long x4), .second, .val (.int (x1 - x2)), .unset] [(.int (x1 - x2))])) (fun t k => XS.iload X0.here hx rfl (hb hby d12_5) rfl k) ?_
  by_cases hc7 : (x1 - x2) < (0 : Int32)
  · -- pc 7: yes
    refine Go.of (T' := s₁) (f' := (mkF m 34 #[.val (.int x0), .val (.int x1), .val (.int x2), .val (.int x3), .val (.long x4), .second, .val (.int (x1 - x2)), .unset] [])) (fun t k => XS.ifYes X0.here hx rfl (pc0 := 7) (pc' := 34) rfl (hb hby d12_7) rfl ((if0 _ _).trans (tlt hc7).1) (by decide) (by decide) k) ?_
    refine Go.of (T' := s₁) (f' := (mkF m 36 #[.val (.int x0), .val (.int x1), .val (.int x2), .val (.int x3), .val (.long x4), .second, .val (.int (x1 - x2)), .unset] [(.long x4)])) (fun t k => XS.lload X0.here hx rfl (hb hby d12_34) rfl k) ?_
    refine Go.of (T' := s₁) (f' := (mkF m 38 #[.val (.int x0), .val (.int x1), .val (.int x2), .val (.int x3), .val (.long x4), .second, .val (.int (x1 - x2)), .unset] [(.int (8 : Int32)), (.long x4)])) (fun t k => XS.bipush X0.here hx rfl (hb hby d12_36) k) ?_
    refine Go.of (T' := s₁) (f' := (mkF m 39 #[.val (.int x0), .val (.int x1), .val (.int x2), .val (.int x3), .val (.long x4), .second, .val (.int (x1 - x2)), .unset] [(.int x1), (.int (8 : Int32)), (.long x4)])) (fun t k => XS.iloadN X0.here hx rfl (hb hby d12_38) rfl k) ?_
    refine Go.of (T' := s₁) (f' := (mkF m 40 #[.val (.int x0), .val (.int x1), .val (.int x2), .val (.int x3), .val (.long x4), .second, .val (.int (x1 - x2)), .unset] [(.int ((8 : Int32) * x1)), (.long x4)])) (fun t k => XS.imul X0.here hx rfl (hb hby d12_39) rfl k) ?_
    refine Go.of (T' := s₁) (f' := (mkF m 41 #[.val (.int x0), .val (.int x1), .val (.int x2), .val (.int x3), .val (.long x4), .second, .val (.int (x1 - x2)), .unset] [(.long ((x4.toUInt64 >>> (((8 : Int32) * x1) &&& 0x3f).toInt64.toUInt64).toInt64))])) (fun t k => XS.lushr X0.here hx rfl (hb hby d12_40) rfl k) ?_
    refine Go.of (T' := s₁) (f' := (mkF m 42 #[.val (.int x0), .val (.int x1), .val (.int x2), .val (.int x3), .val (.long x4), .second, .val (.int (x1 - x2)), .unset] [(.int (((x4.toUInt64 >>> (((8 : Int32) * x1) &&& 0x3f).toInt64.toUInt64).toInt64).toInt32))])) (fun t k => XS.l2i X0.here hx rfl (hb hby d12_41) rfl k) ?_
    refine Go.of (T' := s₁) (f' := (mkF m 45 #[.val (.int x0), .val (.int x1), .val (.int x2), .val (.int x3), .val (.long x4), .second, .val (.int (x1 - x2)), .unset] [(.int (255 : Int32)), (.int (((x4.toUInt64 >>> (((8 : Int32) * x1) &&& 0x3f).toInt64.toUInt64).toInt64).toInt32))])) (fun t k => XS.sipush X0.here hx rfl (hb hby d12_42) k) ?_
    refine Go.of (T' := s₁) (f' := (mkF m 46 #[.val (.int x0), .val (.int x1), .val (.int x2), .val (.int x3), .val (.long x4), .second, .val (.int (x1 - x2)), .unset] [(.int ((((x4.toUInt64 >>> (((8 : Int32) * x1) &&& 0x3f).toInt64.toUInt64).toInt64).toInt32) &&& (255 : Int32)))])) (fun t k => XS.iand X0.here hx rfl (hb hby d12_45) rfl k) ?_
    refine Go.of (T' := s₁) (f' := (mkF m 48 #[.val (.int x0), .val (.int x1), .val (.int x2), .val (.int x3), .val (.long x4), .second, .val (.int (x1 - x2)), .val (.int ((((x4.toUInt64 >>> (((8 : Int32) * x1) &&& 0x3f).toInt64.toUInt64).toInt64).toInt32) &&& (255 : Int32)))] [])) (fun t k => XS.istore X0.here hx rfl (hb hby d12_46) rfl (l' := #[.val (.int x0), .val (.int x1), .val (.int x2), .val (.int x3), .val (.long x4), .second, .val (.int (x1 - x2)), .val (.int ((((x4.toUInt64 >>> (((8 : Int32) * x1) &&& 0x3f).toInt64.toUInt64).toInt64).toInt32) &&& (255 : Int32)))]) rfl k) ?_
    refine Go.of (T' := s₁) (f' := (mkF m 49 #[.val (.int x0), .val (.int x1), .val (.int x2), .val (.int x3), .val (.long x4), .second, .val (.int (x1 - x2)), .val (.int ((((x4.toUInt64 >>> (((8 : Int32) * x1) &&& 0x3f).toInt64.toUInt64).toInt64).toInt32) &&& (255 : Int32)))] [(.int x0)])) (fun t k => XS.iloadN X0.here hx rfl (hb hby d12_48) rfl k) ?_
    refine Go.of (T' := s₁) (f' := (mkF m 52 #[.val (.int x0), .val (.int x1), .val (.int x2), .val (.int x3), .val (.long x4), .second, .val (.int (x1 - x2)), .val (.int ((((x4.toUInt64 >>> (((8 : Int32) * x1) &&& 0x3f).toInt64.toUInt64).toInt64).toInt32) &&& (255 : Int32)))] [(.int (255 : Int32)), (.int x0)])) (fun t k => XS.sipush X0.here hx rfl (hb hby d12_49) k) ?_
    refine Go.of (T' := s₁) (f' := (mkF m 53 #[.val (.int x0), .val (.int x1), .val (.int x2), .val (.int x3), .val (.long x4), .second, .val (.int (x1 - x2)), .val (.int ((((x4.toUInt64 >>> (((8 : Int32) * x1) &&& 0x3f).toInt64.toUInt64).toInt64).toInt32) &&& (255 : Int32)))] [(.int (x0 &&& (255 : Int32)))])) (fun t k => XS.iand X0.here hx rfl (hb hby d12_52) rfl k) ?_
    refine Go.of (T' := s₁) (f' := (mkF m 55 #[.val (.int x0), .val (.int x1), .val (.int x2), .val (.int x3), .val (.long x4), .second, .val (.int (x1 - x2)), .val (.int ((((x4.toUInt64 >>> (((8 : Int32) * x1) &&& 0x3f).toInt64.toUInt64).toInt64).toInt32) &&& (255 : Int32)))] [(.int ((((x4.toUInt64 >>> (((8 : Int32) * x1) &&& 0x3f).toInt64.toUInt64).toInt64).toInt32) &&& (255 : Int32))), (.int (x0 &&& (255 : Int32)))])) (fun t k => XS.iload X0.here hx rfl (hb hby d12_53) rfl k) ?_
    by_cases hc55 : (x0 &&& (255 : Int32)) = ((((x4.toUInt64 >>> (((8 : Int32) * x1) &&& 0x3f).toInt64.toUInt64).toInt64).toInt32) &&& (255 : Int32))
    · -- pc 55: no
      refine Go.of (T' := s₁) (f' := (mkF m 58 #[.val (.int x0), .val (.int x1), .val (.int x2), .val (.int x3), .val (.long x4), .second, .val (.int (x1 - x2)), .val (.int ((((x4.toUInt64 >>> (((8 : Int32) * x1) &&& 0x3f).toInt64.toUInt64).toInt64).toInt32) &&& (255 : Int32)))] [])) (fun t k => XS.icmpNo X0.here hx rfl (hb hby d12_55) rfl ((teq hc55).2) k) ?_
      refine Go.of (T' := s₁) (f' := (mkF m 59 #[.val (.int x0), .val (.int x1), .val (.int x2), .val (.int x3), .val (.long x4), .second, .val (.int (x1 - x2)), .val (.int ((((x4.toUInt64 >>> (((8 : Int32) * x1) &&& 0x3f).toInt64.toUInt64).toInt64).toInt32) &&& (255 : Int32)))] [(.int (1 : Int32))])) (fun t k => XS.iconst X0.here hx rfl (hb hby d12_58) k) ?_
      refine Go.of (T' := s₁) (f' := (mkF m 63 #[.val (.int x0), .val (.int x1), .val (.int x2), .val (.int x3), .val (.long x4), .second, .val (.int (x1 - x2)), .val (.int ((((x4.toUInt64 >>> (((8 : Int32) * x1) &&& 0x3f).toInt64.toUInt64).toInt64).toInt32) &&& (255 : Int32)))] [(.int (1 : Int32))])) (fun t k => XS.goto X0.here hx rfl (pc0 := 59) (pc' := 63) rfl (hb hby d12_59) (by decide) (by decide) k) ?_
      refine Go.retZ X0 hx hk (t := .boolean) Bd.returns (by simp) (hb hby d12_63) (by decide) (by decide) ?_
      rw [e0]
      exact ⟨by first | (rw [okV, okW, if_pos hc7, if_pos hc55]; done) | (rw [okV, okW, if_pos hc7, if_pos hc55]; rfl), N0, rfl⟩
    · -- pc 55: yes
      refine Go.of (T' := s₁) (f' := (mkF m 62 #[.val (.int x0), .val (.int x1), .val (.int x2), .val (.int x3), .val (.long x4), .second, .val (.int (x1 - x2)), .val (.int ((((x4.toUInt64 >>> (((8 : Int32) * x1) &&& 0x3f).toInt64.toUInt64).toInt64).toInt32) &&& (255 : Int32)))] [])) (fun t k => XS.icmpYes X0.here hx rfl (pc0 := 55) (pc' := 62) rfl (hb hby d12_55) rfl ((feq hc55).2) (by decide) (by decide) k) ?_
      refine Go.of (T' := s₁) (f' := (mkF m 63 #[.val (.int x0), .val (.int x1), .val (.int x2), .val (.int x3), .val (.long x4), .second, .val (.int (x1 - x2)), .val (.int ((((x4.toUInt64 >>> (((8 : Int32) * x1) &&& 0x3f).toInt64.toUInt64).toInt64).toInt32) &&& (255 : Int32)))] [(.int (0 : Int32))])) (fun t k => XS.iconst X0.here hx rfl (hb hby d12_62) k) ?_
      refine Go.retZ X0 hx hk (t := .boolean) Bd.returns (by simp) (hb hby d12_63) (by decide) (by decide) ?_
      rw [e0]
      exact ⟨by first | (rw [okV, okW, if_pos hc7, if_neg hc55]; done) | (rw [okV, okW, if_pos hc7, if_neg hc55]; rfl), N0, rfl⟩
  · -- pc 7: no
    refine Go.of (T' := s₁) (f' := (mkF m 10 #[.val (.int x0), .val (.int x1), .val (.int x2), .val (.int x3), .val (.long x4), .second, .val (.int (x1 - x2)), .unset] [])) (fun t k => XS.ifNo X0.here hx rfl (hb hby d12_7) rfl ((if0 _ _).trans (flt hc7).1) k) ?_
    refine Go.of (T' := s₁) (f' := (mkF m 12 #[.val (.int x0), .val (.int x1), .val (.int x2), .val (.int x3), .val (.long x4), .second, .val (.int (x1 - x2)), .unset] [(.int (x1 - x2))])) (fun t k => XS.iload X0.here hx rfl (hb hby d12_10) rfl k) ?_
    refine Go.of (T' := s₁) (f' := (mkF m 13 #[.val (.int x0), .val (.int x1), .val (.int x2), .val (.int x3), .val (.long x4), .second, .val (.int (x1 - x2)), .unset] [(.int (4 : Int32)), (.int (x1 - x2))])) (fun t k => XS.iconst X0.here hx rfl (hb hby d12_12) k) ?_
    by_cases hc13 : (x1 - x2) < (4 : Int32)
    · -- pc 13: no
      refine Go.of (T' := s₁) (f' := (mkF m 16 #[.val (.int x0), .val (.int x1), .val (.int x2), .val (.int x3), .val (.long x4), .second, .val (.int (x1 - x2)), .unset] [])) (fun t k => XS.icmpNo X0.here hx rfl (hb hby d12_13) rfl ((tlt hc13).2.1) k) ?_
      refine Go.of (T' := s₁) (f' := (mkF m 17 #[.val (.int x0), .val (.int x1), .val (.int x2), .val (.int x3), .val (.long x4), .second, .val (.int (x1 - x2)), .unset] [(.int x3)])) (fun t k => XS.iloadN X0.here hx rfl (hb hby d12_16) rfl k) ?_
      refine Go.of (T' := s₁) (f' := (mkF m 19 #[.val (.int x0), .val (.int x1), .val (.int x2), .val (.int x3), .val (.long x4), .second, .val (.int (x1 - x2)), .unset] [(.int (8 : Int32)), (.int x3)])) (fun t k => XS.bipush X0.here hx rfl (hb hby d12_17) k) ?_
      refine Go.of (T' := s₁) (f' := (mkF m 20 #[.val (.int x0), .val (.int x1), .val (.int x2), .val (.int x3), .val (.long x4), .second, .val (.int (x1 - x2)), .unset] [(.int (3 : Int32)), (.int (8 : Int32)), (.int x3)])) (fun t k => XS.iconst X0.here hx rfl (hb hby d12_19) k) ?_
      refine Go.of (T' := s₁) (f' := (mkF m 22 #[.val (.int x0), .val (.int x1), .val (.int x2), .val (.int x3), .val (.long x4), .second, .val (.int (x1 - x2)), .unset] [(.int (x1 - x2)), (.int (3 : Int32)), (.int (8 : Int32)), (.int x3)])) (fun t k => XS.iload X0.here hx rfl (hb hby d12_20) rfl k) ?_
      refine Go.of (T' := s₁) (f' := (mkF m 23 #[.val (.int x0), .val (.int x1), .val (.int x2), .val (.int x3), .val (.long x4), .second, .val (.int (x1 - x2)), .unset] [(.int ((3 : Int32) - (x1 - x2))), (.int (8 : Int32)), (.int x3)])) (fun t k => XS.isub X0.here hx rfl (hb hby d12_22) rfl k) ?_
      refine Go.of (T' := s₁) (f' := (mkF m 24 #[.val (.int x0), .val (.int x1), .val (.int x2), .val (.int x3), .val (.long x4), .second, .val (.int (x1 - x2)), .unset] [(.int ((8 : Int32) * ((3 : Int32) - (x1 - x2)))), (.int x3)])) (fun t k => XS.imul X0.here hx rfl (hb hby d12_23) rfl k) ?_
      refine Go.of (T' := s₁) (f' := (mkF m 25 #[.val (.int x0), .val (.int x1), .val (.int x2), .val (.int x3), .val (.long x4), .second, .val (.int (x1 - x2)), .unset] [(.int ((x3.toUInt32 >>> (((8 : Int32) * ((3 : Int32) - (x1 - x2))) &&& 31).toUInt32).toInt32))])) (fun t k => XS.iushr X0.here hx rfl (hb hby d12_24) rfl k) ?_
      refine Go.of (T' := s₁) (f' := (mkF m 28 #[.val (.int x0), .val (.int x1), .val (.int x2), .val (.int x3), .val (.long x4), .second, .val (.int (x1 - x2)), .unset] [(.int (255 : Int32)), (.int ((x3.toUInt32 >>> (((8 : Int32) * ((3 : Int32) - (x1 - x2))) &&& 31).toUInt32).toInt32))])) (fun t k => XS.sipush X0.here hx rfl (hb hby d12_25) k) ?_
      refine Go.of (T' := s₁) (f' := (mkF m 29 #[.val (.int x0), .val (.int x1), .val (.int x2), .val (.int x3), .val (.long x4), .second, .val (.int (x1 - x2)), .unset] [(.int (((x3.toUInt32 >>> (((8 : Int32) * ((3 : Int32) - (x1 - x2))) &&& 31).toUInt32).toInt32) &&& (255 : Int32)))])) (fun t k => XS.iand X0.here hx rfl (hb hby d12_28) rfl k) ?_
      refine Go.of (T' := s₁) (f' := (mkF m 31 #[.val (.int x0), .val (.int x1), .val (.int x2), .val (.int x3), .val (.long x4), .second, .val (.int (x1 - x2)), .val (.int (((x3.toUInt32 >>> (((8 : Int32) * ((3 : Int32) - (x1 - x2))) &&& 31).toUInt32).toInt32) &&& (255 : Int32)))] [])) (fun t k => XS.istore X0.here hx rfl (hb hby d12_29) rfl (l' := #[.val (.int x0), .val (.int x1), .val (.int x2), .val (.int x3), .val (.long x4), .second, .val (.int (x1 - x2)), .val (.int (((x3.toUInt32 >>> (((8 : Int32) * ((3 : Int32) - (x1 - x2))) &&& 31).toUInt32).toInt32) &&& (255 : Int32)))]) rfl k) ?_
      refine Go.of (T' := s₁) (f' := (mkF m 48 #[.val (.int x0), .val (.int x1), .val (.int x2), .val (.int x3), .val (.long x4), .second, .val (.int (x1 - x2)), .val (.int (((x3.toUInt32 >>> (((8 : Int32) * ((3 : Int32) - (x1 - x2))) &&& 31).toUInt32).toInt32) &&& (255 : Int32)))] [])) (fun t k => XS.goto X0.here hx rfl (pc0 := 31) (pc' := 48) rfl (hb hby d12_31) (by decide) (by decide) k) ?_
      refine Go.of (T' := s₁) (f' := (mkF m 49 #[.val (.int x0), .val (.int x1), .val (.int x2), .val (.int x3), .val (.long x4), .second, .val (.int (x1 - x2)), .val (.int (((x3.toUInt32 >>> (((8 : Int32) * ((3 : Int32) - (x1 - x2))) &&& 31).toUInt32).toInt32) &&& (255 : Int32)))] [(.int x0)])) (fun t k => XS.iloadN X0.here hx rfl (hb hby d12_48) rfl k) ?_
      refine Go.of (T' := s₁) (f' := (mkF m 52 #[.val (.int x0), .val (.int x1), .val (.int x2), .val (.int x3), .val (.long x4), .second, .val (.int (x1 - x2)), .val (.int (((x3.toUInt32 >>> (((8 : Int32) * ((3 : Int32) - (x1 - x2))) &&& 31).toUInt32).toInt32) &&& (255 : Int32)))] [(.int (255 : Int32)), (.int x0)])) (fun t k => XS.sipush X0.here hx rfl (hb hby d12_49) k) ?_
      refine Go.of (T' := s₁) (f' := (mkF m 53 #[.val (.int x0), .val (.int x1), .val (.int x2), .val (.int x3), .val (.long x4), .second, .val (.int (x1 - x2)), .val (.int (((x3.toUInt32 >>> (((8 : Int32) * ((3 : Int32) - (x1 - x2))) &&& 31).toUInt32).toInt32) &&& (255 : Int32)))] [(.int (x0 &&& (255 : Int32)))])) (fun t k => XS.iand X0.here hx rfl (hb hby d12_52) rfl k) ?_
      refine Go.of (T' := s₁) (f' := (mkF m 55 #[.val (.int x0), .val (.int x1), .val (.int x2), .val (.int x3), .val (.long x4), .second, .val (.int (x1 - x2)), .val (.int (((x3.toUInt32 >>> (((8 : Int32) * ((3 : Int32) - (x1 - x2))) &&& 31).toUInt32).toInt32) &&& (255 : Int32)))] [(.int (((x3.toUInt32 >>> (((8 : Int32) * ((3 : Int32) - (x1 - x2))) &&& 31).toUInt32).toInt32) &&& (255 : Int32))), (.int (x0 &&& (255 : Int32)))])) (fun t k => XS.iload X0.here hx rfl (hb hby d12_53) rfl k) ?_
      by_cases hc55 : (x0 &&& (255 : Int32)) = (((x3.toUInt32 >>> (((8 : Int32) * ((3 : Int32) - (x1 - x2))) &&& 31).toUInt32).toInt32) &&& (255 : Int32))
      · -- pc 55: no
        refine Go.of (T' := s₁) (f' := (mkF m 58 #[.val (.int x0), .val (.int x1), .val (.int x2), .val (.int x3), .val (.long x4), .second, .val (.int (x1 - x2)), .val (.int (((x3.toUInt32 >>> (((8 : Int32) * ((3 : Int32) - (x1 - x2))) &&& 31).toUInt32).toInt32) &&& (255 : Int32)))] [])) (fun t k => XS.icmpNo X0.here hx rfl (hb hby d12_55) rfl ((teq hc55).2) k) ?_
        refine Go.of (T' := s₁) (f' := (mkF m 59 #[.val (.int x0), .val (.int x1), .val (.int x2), .val (.int x3), .val (.long x4), .second, .val (.int (x1 - x2)), .val (.int (((x3.toUInt32 >>> (((8 : Int32) * ((3 : Int32) - (x1 - x2))) &&& 31).toUInt32).toInt32) &&& (255 : Int32)))] [(.int (1 : Int32))])) (fun t k => XS.iconst X0.here hx rfl (hb hby d12_58) k) ?_
        refine Go.of (T' := s₁) (f' := (mkF m 63 #[.val (.int x0), .val (.int x1), .val (.int x2), .val (.int x3), .val (.long x4), .second, .val (.int (x1 - x2)), .val (.int (((x3.toUInt32 >>> (((8 : Int32) * ((3 : Int32) - (x1 - x2))) &&& 31).toUInt32).toInt32) &&& (255 : Int32)))] [(.int (1 : Int32))])) (fun t k => XS.goto X0.here hx rfl (pc0 := 59) (pc' := 63) rfl (hb hby d12_59) (by decide) (by decide) k) ?_
        refine Go.retZ X0 hx hk (t := .boolean) Bd.returns (by simp) (hb hby d12_63) (by decide) (by decide) ?_
        rw [e0]
        exact ⟨by first | (rw [okV, okW, if_neg hc7, if_pos hc13, if_pos hc55]; done) | (rw [okV, okW, if_neg hc7, if_pos hc13, if_pos hc55]; rfl), N0, rfl⟩
      · -- pc 55: yes
        refine Go.of (T' := s₁) (f' := (mkF m 62 #[.val (.int x0), .val (.int x1), .val (.int x2), .val (.int x3), .val (.long x4), .second, .val (.int (x1 - x2)), .val (.int (((x3.toUInt32 >>> (((8 : Int32) * ((3 : Int32) - (x1 - x2))) &&& 31).toUInt32).toInt32) &&& (255 : Int32)))] [])) (fun t k => XS.icmpYes X0.here hx rfl (pc0 := 55) (pc' := 62) rfl (hb hby d12_55) rfl ((feq hc55).2) (by decide) (by decide) k) ?_
        refine Go.of (T' := s₁) (f' := (mkF m 63 #[.val (.int x0), .val (.int x1), .val (.int x2), .val (.int x3), .val (.long x4), .second, .val (.int (x1 - x2)), .val (.int (((x3.toUInt32 >>> (((8 : Int32) * ((3 : Int32) - (x1 - x2))) &&& 31).toUInt32).toInt32) &&& (255 : Int32)))] [(.int (0 : Int32))])) (fun t k => XS.iconst X0.here hx rfl (hb hby d12_62) k) ?_
        refine Go.retZ X0 hx hk (t := .boolean) Bd.returns (by simp) (hb hby d12_63) (by decide) (by decide) ?_
        rw [e0]
        exact ⟨by first | (rw [okV, okW, if_neg hc7, if_pos hc13, if_neg hc55]; done) | (rw [okV, okW, if_neg hc7, if_pos hc13, if_neg hc55]; rfl), N0, rfl⟩
    · -- pc 13: yes
      refine Go.of (T' := s₁) (f' := (mkF m 34 #[.val (.int x0), .val (.int x1), .val (.int x2), .val (.int x3), .val (.long x4), .second, .val (.int (x1 - x2)), .unset] [])) (fun t k => XS.icmpYes X0.here hx rfl (pc0 := 13) (pc' := 34) rfl (hb hby d12_13) rfl ((flt hc13).2.1) (by decide) (by decide) k) ?_
      refine Go.of (T' := s₁) (f' := (mkF m 36 #[.val (.int x0), .val (.int x1), .val (.int x2), .val (.int x3), .val (.long x4), .second, .val (.int (x1 - x2)), .unset] [(.long x4)])) (fun t k => XS.lload X0.here hx rfl (hb hby d12_34) rfl k) ?_
      refine Go.of (T' := s₁) (f' := (mkF m 38 #[.val (.int x0), .val (.int x1), .val (.int x2), .val (.int x3), .val (.long x4), .second, .val (.int (x1 - x2)), .unset] [(.int (8 : Int32)), (.long x4)])) (fun t k => XS.bipush X0.here hx rfl (hb hby d12_36) k) ?_
      refine Go.of (T' := s₁) (f' := (mkF m 39 #[.val (.int x0), .val (.int x1), .val (.int x2), .val (.int x3), .val (.long x4), .second, .val (.int (x1 - x2)), .unset] [(.int x1), (.int (8 : Int32)), (.long x4)])) (fun t k => XS.iloadN X0.here hx rfl (hb hby d12_38) rfl k) ?_
      refine Go.of (T' := s₁) (f' := (mkF m 40 #[.val (.int x0), .val (.int x1), .val (.int x2), .val (.int x3), .val (.long x4), .second, .val (.int (x1 - x2)), .unset] [(.int ((8 : Int32) * x1)), (.long x4)])) (fun t k => XS.imul X0.here hx rfl (hb hby d12_39) rfl k) ?_
      refine Go.of (T' := s₁) (f' := (mkF m 41 #[.val (.int x0), .val (.int x1), .val (.int x2), .val (.int x3), .val (.long x4), .second, .val (.int (x1 - x2)), .unset] [(.long ((x4.toUInt64 >>> (((8 : Int32) * x1) &&& 0x3f).toInt64.toUInt64).toInt64))])) (fun t k => XS.lushr X0.here hx rfl (hb hby d12_40) rfl k) ?_
      refine Go.of (T' := s₁) (f' := (mkF m 42 #[.val (.int x0), .val (.int x1), .val (.int x2), .val (.int x3), .val (.long x4), .second, .val (.int (x1 - x2)), .unset] [(.int (((x4.toUInt64 >>> (((8 : Int32) * x1) &&& 0x3f).toInt64.toUInt64).toInt64).toInt32))])) (fun t k => XS.l2i X0.here hx rfl (hb hby d12_41) rfl k) ?_
      refine Go.of (T' := s₁) (f' := (mkF m 45 #[.val (.int x0), .val (.int x1), .val (.int x2), .val (.int x3), .val (.long x4), .second, .val (.int (x1 - x2)), .unset] [(.int (255 : Int32)), (.int (((x4.toUInt64 >>> (((8 : Int32) * x1) &&& 0x3f).toInt64.toUInt64).toInt64).toInt32))])) (fun t k => XS.sipush X0.here hx rfl (hb hby d12_42) k) ?_
      refine Go.of (T' := s₁) (f' := (mkF m 46 #[.val (.int x0), .val (.int x1), .val (.int x2), .val (.int x3), .val (.long x4), .second, .val (.int (x1 - x2)), .unset] [(.int ((((x4.toUInt64 >>> (((8 : Int32) * x1) &&& 0x3f).toInt64.toUInt64).toInt64).toInt32) &&& (255 : Int32)))])) (fun t k => XS.iand X0.here hx rfl (hb hby d12_45) rfl k) ?_
      refine Go.of (T' := s₁) (f' := (mkF m 48 #[.val (.int x0), .val (.int x1), .val (.int x2), .val (.int x3), .val (.long x4), .second, .val (.int (x1 - x2)), .val (.int ((((x4.toUInt64 >>> (((8 : Int32) * x1) &&& 0x3f).toInt64.toUInt64).toInt64).toInt32) &&& (255 : Int32)))] [])) (fun t k => XS.istore X0.here hx rfl (hb hby d12_46) rfl (l' := #[.val (.int x0), .val (.int x1), .val (.int x2), .val (.int x3), .val (.long x4), .second, .val (.int (x1 - x2)), .val (.int ((((x4.toUInt64 >>> (((8 : Int32) * x1) &&& 0x3f).toInt64.toUInt64).toInt64).toInt32) &&& (255 : Int32)))]) rfl k) ?_
      refine Go.of (T' := s₁) (f' := (mkF m 49 #[.val (.int x0), .val (.int x1), .val (.int x2), .val (.int x3), .val (.long x4), .second, .val (.int (x1 - x2)), .val (.int ((((x4.toUInt64 >>> (((8 : Int32) * x1) &&& 0x3f).toInt64.toUInt64).toInt64).toInt32) &&& (255 : Int32)))] [(.int x0)])) (fun t k => XS.iloadN X0.here hx rfl (hb hby d12_48) rfl k) ?_
      refine Go.of (T' := s₁) (f' := (mkF m 52 #[.val (.int x0), .val (.int x1), .val (.int x2), .val (.int x3), .val (.long x4), .second, .val (.int (x1 - x2)), .val (.int ((((x4.toUInt64 >>> (((8 : Int32) * x1) &&& 0x3f).toInt64.toUInt64).toInt64).toInt32) &&& (255 : Int32)))] [(.int (255 : Int32)), (.int x0)])) (fun t k => XS.sipush X0.here hx rfl (hb hby d12_49) k) ?_
      refine Go.of (T' := s₁) (f' := (mkF m 53 #[.val (.int x0), .val (.int x1), .val (.int x2), .val (.int x3), .val (.long x4), .second, .val (.int (x1 - x2)), .val (.int ((((x4.toUInt64 >>> (((8 : Int32) * x1) &&& 0x3f).toInt64.toUInt64).toInt64).toInt32) &&& (255 : Int32)))] [(.int (x0 &&& (255 : Int32)))])) (fun t k => XS.iand X0.here hx rfl (hb hby d12_52) rfl k) ?_
      refine Go.of (T' := s₁) (f' := (mkF m 55 #[.val (.int x0), .val (.int x1), .val (.int x2), .val (.int x3), .val (.long x4), .second, .val (.int (x1 - x2)), .val (.int ((((x4.toUInt64 >>> (((8 : Int32) * x1) &&& 0x3f).toInt64.toUInt64).toInt64).toInt32) &&& (255 : Int32)))] [(.int ((((x4.toUInt64 >>> (((8 : Int32) * x1) &&& 0x3f).toInt64.toUInt64).toInt64).toInt32) &&& (255 : Int32))), (.int (x0 &&& (255 : Int32)))])) (fun t k => XS.iload X0.here hx rfl (hb hby d12_53) rfl k) ?_
      by_cases hc55 : (x0 &&& (255 : Int32)) = ((((x4.toUInt64 >>> (((8 : Int32) * x1) &&& 0x3f).toInt64.toUInt64).toInt64).toInt32) &&& (255 : Int32))
      · -- pc 55: no
        refine Go.of (T' := s₁) (f' := (mkF m 58 #[.val (.int x0), .val (.int x1), .val (.int x2), .val (.int x3), .val (.long x4), .second, .val (.int (x1 - x2)), .val (.int ((((x4.toUInt64 >>> (((8 : Int32) * x1) &&& 0x3f).toInt64.toUInt64).toInt64).toInt32) &&& (255 : Int32)))] [])) (fun t k => XS.icmpNo X0.here hx rfl (hb hby d12_55) rfl ((teq hc55).2) k) ?_
        refine Go.of (T' := s₁) (f' := (mkF m 59 #[.val (.int x0), .val (.int x1), .val (.int x2), .val (.int x3), .val (.long x4), .second, .val (.int (x1 - x2)), .val (.int ((((x4.toUInt64 >>> (((8 : Int32) * x1) &&& 0x3f).toInt64.toUInt64).toInt64).toInt32) &&& (255 : Int32)))] [(.int (1 : Int32))])) (fun t k => XS.iconst X0.here hx rfl (hb hby d12_58) k) ?_
        refine Go.of (T' := s₁) (f' := (mkF m 63 #[.val (.int x0), .val (.int x1), .val (.int x2), .val (.int x3), .val (.long x4), .second, .val (.int (x1 - x2)), .val (.int ((((x4.toUInt64 >>> (((8 : Int32) * x1) &&& 0x3f).toInt64.toUInt64).toInt64).toInt32) &&& (255 : Int32)))] [(.int (1 : Int32))])) (fun t k => XS.goto X0.here hx rfl (pc0 := 59) (pc' := 63) rfl (hb hby d12_59) (by decide) (by decide) k) ?_
        refine Go.retZ X0 hx hk (t := .boolean) Bd.returns (by simp) (hb hby d12_63) (by decide) (by decide) ?_
        rw [e0]
        exact ⟨by first | (rw [okV, okW, if_neg hc7, if_neg hc13, if_pos hc55]; done) | (rw [okV, okW, if_neg hc7, if_neg hc13, if_pos hc55]; rfl), N0, rfl⟩
      · -- pc 55: yes
        refine Go.of (T' := s₁) (f' := (mkF m 62 #[.val (.int x0), .val (.int x1), .val (.int x2), .val (.int x3), .val (.long x4), .second, .val (.int (x1 - x2)), .val (.int ((((x4.toUInt64 >>> (((8 : Int32) * x1) &&& 0x3f).toInt64.toUInt64).toInt64).toInt32) &&& (255 : Int32)))] [])) (fun t k => XS.icmpYes X0.here hx rfl (pc0 := 55) (pc' := 62) rfl (hb hby d12_55) rfl ((feq hc55).2) (by decide) (by decide) k) ?_
        refine Go.of (T' := s₁) (f' := (mkF m 63 #[.val (.int x0), .val (.int x1), .val (.int x2), .val (.int x3), .val (.long x4), .second, .val (.int (x1 - x2)), .val (.int ((((x4.toUInt64 >>> (((8 : Int32) * x1) &&& 0x3f).toInt64.toUInt64).toInt64).toInt32) &&& (255 : Int32)))] [(.int (0 : Int32))])) (fun t k => XS.iconst X0.here hx rfl (hb hby d12_62) k) ?_
        refine Go.retZ X0 hx hk (t := .boolean) Bd.returns (by simp) (hb hby d12_63) (by decide) (by decide) ?_
        rw [e0]
        exact ⟨by first | (rw [okV, okW, if_neg hc7, if_neg hc13, if_neg hc55]; done) | (rw [okV, okW, if_neg hc7, if_neg hc13, if_neg hc55]; rfl), N0, rfl⟩
theorem pd_2 : parseMethodDescriptor "(II)V" = some ⟨[.int, .int], none⟩ := by decide +kernel
theorem pd_3 : parseMethodDescriptor "()[B" = some ⟨[], some (.array .byte)⟩ := by decide +kernel
theorem pd_4 : parseMethodDescriptor "(BIIIJ)Z" = some ⟨[.byte, .int, .int, .int, .long], some .boolean⟩ := by decide +kernel
theorem ef_0 (m : MethodId) (x0 : Int64) (x1 : Int32) (x2 : Int32) (x3 : Int32) : entryFrame m #[(.long x0), (.int x1), (.int x2), (.int x3)] maxLocals = mkF m 0 #[.val (.long x0), .second, .val (.int x1), .val (.int x2), .val (.int x3), .unset, .unset, .unset] [] := by first | (simp [entryFrame, mkF, argsToLocals, Value.category, maxLocals]; done) | rfl
def Q0 (Z : State) (x0 : Int64) (x1 : Int32) (x2 : Int32) (x3 : Int32)  (h0 : Heap) (n0 : Nat) (v : Option Value) (h : Heap) (L : List Loc) : Prop := v = some (.int (1 : Int32)) ∧ Fr n0 L
set_option maxRecDepth 65536 in
set_option maxHeartbeats 40000000 in
theorem rm0 (l : Launch) (Z : State) (a0 : Array Value) (hw : ∀ d ∈ tables_1, d.before a0 Z = true) (ws : List Jvm.Cond) (x0 : Int64) (x1 : Int32) (x2 : Int32) (x3 : Int32)  (h0 : Heap) (n0 : Nat) (Z0 : n0 ≤ h0.size)  :
    MetFree l x (head1 (Jvm.Cond.code x code maxLocals ret :: ws) room_1) (fun a U => a = #[(.long x0), (.int x1), (.int x2), (.int x3)] ∧ Z.Warmed39 U.vm ∧ U.heap = h0) (fun _ _ _ _ _ => True) (fun _ U o U' => ∃ v L, o = .returned v ∧ Q0 Z x0 x1 x2 x3 h0 n0 v U'.heap L ∧ FrameEnd U o U' L 16 640) := by
  refine MetFree.of_bodySF (plainFor_of_name pn_1) hisR ?_
  intro p e s m args below meth c s₁ Bd hml0 hP hK
  obtain ⟨rfl, hZ, hh⟩ := hP
  have hx := Bd.exec
  have hby := Bd.bytes
  have hml : c.maxLocals = 8 := hml0
  have hown : s.vm.findClass "com/example/keelson/keelson/wire/WireWriterPutIntPinLaw" = some m.cls := findClass_of_methodNamed Bd.named
  have hnm := (name_of_methodNamed Bd.named Bd.method).1
  have hk : meth.locks = false := BodyLoose.notSynchronized Bd
  have X0 : Stand p l e room_1 s m #[(.long x0), (.int x1), (.int x2), (.int x3)] below meth c s₁ [] 0 0 := Stand.of_body Bd
  have e0 : s₁.heap = h0 := by rw [← hh, Bd.state]; rfl
  have N0 := Fr.nil n0
  show Go p e below s (Q0 Z x0 x1 x2 x3 h0 n0) 16 640 s₁ (entryFrame m #[(.long x0), (.int x1), (.int x2), (.int x3)] maxLocals)
  refine Go.cast (ef_0 m x0 x1 x2 x3) ?_
  refine Go.of (T' := s₁) (f' := (mkF m 1 #[.val (.long x0), .second, .val (.int x1), .val (.int x2), .val (.int x3), .unset, .unset, .unset] [(.int x2)])) (fun t k => XS.iloadN X0.here hx rfl (hb hby at_0) rfl k) ?_
  refine Go.of (T' := s₁) (f' := (mkF m 3 #[.val (.long x0), .second, .val (.int x1), .val (.int x2), .val (.int x3), .unset, .unset, .unset] [(.int (2147483647 : Int32)), (.int x2)])) (fun t k => X0.ldcInt hx hown (mvT hZ (hw _ (List.mem_of_getElem? (i := 0) rfl))) (g := (mkF m 1 #[.val (.long x0), .second, .val (.int x1), .val (.int x2), .val (.int x3), .unset, .unset, .unset] [(.int x2)])) rfl (hb hby at_1) t k) ?_
  refine Go.of (T' := s₁) (f' := (mkF m 4 #[.val (.long x0), .second, .val (.int x1), .val (.int x2), .val (.int x3), .unset, .unset, .unset] [(.int (x2 &&& (2147483647 : Int32)))])) (fun t k => XS.iand X0.here hx rfl (hb hby at_3) rfl k) ?_
  refine Go.of (T' := s₁) (f' := (mkF m 5 #[.val (.long x0), .second, .val (.int x1), .val (.int x2), .val (.int x3), .unset, .unset, .unset] [(.int (3 : Int32)), (.int (x2 &&& (2147483647 : Int32)))])) (fun t k => XS.iconst X0.here hx rfl (hb hby at_4) k) ?_
  have nz5 : (3 : Int32) ≠ (0 : Int32) := by decide
  refine Go.of (T' := s₁) (f' := (mkF m 6 #[.val (.long x0), .second, .val (.int x1), .val (.int x2), .val (.int x3), .unset, .unset, .unset] [(.int ((x2 &&& (2147483647 : Int32)) % (3 : Int32)))])) (fun t k => iremM (g := _) X0 hx rfl (hb hby at_5) rfl nz5 k) ?_
  refine Go.of (T' := s₁) (f' := (mkF m 8 #[.val (.long x0), .second, .val (.int x1), .val (.int x2), .val (.int x3), .val (.int ((x2 &&& (2147483647 : Int32)) % (3 : Int32))), .unset, .unset] [])) (fun t k => XS.istore X0.here hx rfl (hb hby at_6) rfl (l' := #[.val (.long x0), .second, .val (.int x1), .val (.int x2), .val (.int x3), .val (.int ((x2 &&& (2147483647 : Int32)) % (3 : Int32))), .unset, .unset]) rfl k) ?_
  obtain ⟨na, ha3, hat⟩ := own_at x2
  generalize ((x2 &&& (2147483647 : Int32)) % (3 : Int32)) = at_ at *
  obtain ⟨hz0, hz1⟩ := own_c15 x3
  have TAIL : ∀ (T : State) (locs : List Loc) (hp : Heap) (wr B : Addr) (tl_ : List Int32) (X : Stand p l e room_1 s m #[(.long x0), (.int x1), (.int x2), (.int x3)] below meth c T locs 3 300) (eT : T.heap = hp) (NL : Fr n0 locs) (E_w : Exa Z hp wr "com/example/keelson/keelson/wire/WireWriter") (F_b : Fld Z hp wr "com/example/keelson/keelson/wire/WireWriter" "bytes" "[B" (.ref B)) (F_s : Fld Z hp wr "com/example/keelson/keelson/wire/WireWriter" "size" "I" (.int (6 : Int32))) (E_B : Exa Z hp B "[B") (V_B : VArr Z hp B .byte ((f0 x0 :: f1 x0 :: f2 x0 :: f3 x0 :: f4 x0 :: f5 x0 :: tl_).map Value.int)) (g_w : n0 ≤ wr) (g_B : n0 ≤ B) (ne_wB : wr ≠ B) (sz_w : h0.size ≤ wr) (sz_B : h0.size ≤ B) (TYt : TyB (f0 x0 :: f1 x0 :: f2 x0 :: f3 x0 :: f4 x0 :: f5 x0 :: tl_)) (ht : tl_.length ≤ 300) (zs : n0 ≤ hp.size) (KT : Keep h0 hp []), Go p e below s (Q0 Z x0 x1 x2 x3 h0 n0) 16 640 T (mkF m 79 #[.val (.long x0), .second, .val (.int x1), .val (.int x2), .val (.int x3), .val (.int at_), .val (.ref wr), .unset] []) := by
    intro T locs hp wr B tl_ X eT NL E_w F_b F_s E_B V_B g_w g_B ne_wB sz_w sz_B TYt ht zs KT
    have hok := own_ok ha3 hat x1 x0 tl_
    refine Go.of (T' := T) (f' := (mkF m 81 #[.val (.long x0), .second, .val (.int x1), .val (.int x2), .val (.int x3), .val (.int at_), .val (.ref wr), .unset] [(.ref wr)])) (fun t k => XS.aload X.here hx rfl (hb hby at_79) rfl rfl k) ?_
    refine Go.of (T' := T) (f' := (mkF m 83 #[.val (.long x0), .second, .val (.int x1), .val (.int x2), .val (.int x3), .val (.int at_), .val (.ref wr), .unset] [(.int at_), (.ref wr)])) (fun t k => XS.iload X.here hx rfl (hb hby at_81) rfl k) ?_
    refine Go.of (T' := T) (f' := (mkF m 84 #[.val (.long x0), .second, .val (.int x1), .val (.int x2), .val (.int x3), .val (.int at_), .val (.ref wr), .unset] [(.int x1), (.int at_), (.ref wr)])) (fun t k => XS.iloadN X.here hx rfl (hb hby at_83) rfl k) ?_
    obtain ⟨cq1, kq1, q1a, q1b, q1c⟩ := isOf hZ eT E_w
    obtain ⟨_, _, ⟨T1, L1, k1, n1⟩, -, X1, ⟨Lc1, hQ1, l1, y1, z1⟩, st1⟩ := X.virtualBack hx (y := (⟨"com/example/keelson/keelson/wire/WireWriter", "putInt", "(II)V"⟩ : MethodName)) (z := (⟨"com/example/keelson/keelson/wire/WireWriter", "putInt", "(II)V"⟩ : MethodName)) hown (mvT hZ (hw _ (List.mem_of_getElem? (i := 52) rfl))) (mvT hZ (hw _ (List.mem_of_getElem? (i := 53) rfl))) (notFace_of_selects (args := #[]) (mvT hZ (hw _ (List.mem_of_getElem? (i := 55) rfl)))) (mvT hZ (hw _ (List.mem_of_getElem? (i := 55) rfl))) (mvT hZ (hw _ (List.mem_of_getElem? (i := 54) rfl))) (by decide) (backOf (W := 0) (rm10 l Z a0 hw [] wr at_ x1 B (f0 x0 :: f1 x0 :: f2 x0 :: f3 x0 :: f4 x0 :: f5 x0 :: tl_) na hp n0 zs F_b V_B g_B ne_wB ha3 hat (by simp only [List.length_cons]; omega)) hZ (hw _ (List.mem_of_getElem? (i := 56) rfl)) (hw _ (List.mem_of_getElem? (i := 3) rfl)) (by decide) (by decide)) q1a q1c (g := (mkF m 84 #[.val (.long x0), .second, .val (.int x1), .val (.int x2), .val (.int x3), .val (.int at_), .val (.ref wr), .unset] [(.int x1), (.int at_), (.ref wr)])) rfl (by rw [hml]; rfl) (Steps.refl _) (argsL := [(.int at_), (.int x1)]) (rest := []) (lenOf pd_2 rfl) rfl (by show 2 * 0 + _ ≤ _; exact Nat.le_of_eq rfl) (hb hby at_84) (fun _ _ => ⟨rfl, eT, (by decide : 3 + 0 ≤ _), (by decide : 300 + 0 ≤ _)⟩)
    dsimp only [Pt.U, Pt.locs, Pt.cells, Pt.slots] at X1 l1 y1 z1 st1 hQ1
    subst l1 y1 z1
    obtain ⟨rfl, N1q, K1, Vb1⟩ := hQ1
    have N1 := Fr.app NL N1q
    have F1_wr_bytes : Fld Z T1.heap wr "com/example/keelson/keelson/wire/WireWriter" "bytes" "[B" (.ref B) := F_b.keep K1 (ninS ne_wB nin0)
    have F1_wr_size : Fld Z T1.heap wr "com/example/keelson/keelson/wire/WireWriter" "size" "I" (.int (6 : Int32)) := F_s.keep K1 (ninS ne_wB nin0)
    have Ex1_wr : Exa Z T1.heap wr "com/example/keelson/keelson/wire/WireWriter" := E_w.keep K1
    have Ex1_B : Exa Z T1.heap B "[B" := E_B.keep K1
    have ZS1 : n0 ≤ T1.heap.size := Nat.le_trans zs K1.1
    have KK1 : Keep h0 T1.heap [] := KT.trans K1 (allS (Or.inr sz_B) all0)
    refine Go.tr (T' := T1) (f' := (mkF m 87 #[.val (.long x0), .second, .val (.int x1), .val (.int x2), .val (.int x3), .val (.int at_), .val (.ref wr), .unset] [])) st1 ?_
    refine Go.of (T' := T1) (f' := (mkF m 89 #[.val (.long x0), .second, .val (.int x1), .val (.int x2), .val (.int x3), .val (.int at_), .val (.ref wr), .unset] [(.ref wr)])) (fun t k => XS.aload X1.here hx rfl (hb hby at_87) rfl rfl k) ?_
    obtain ⟨cq2, kq2, q2a, q2b, q2c⟩ := isOf hZ rfl Ex1_wr
    obtain ⟨_, _, ⟨T2, L2, k2, n2⟩, -, X2, ⟨Lc2, hQ2, l2, y2, z2⟩, st2⟩ := X1.virtualBack hx (y := (⟨"com/example/keelson/keelson/wire/WireWriter", "toByteArray", "()[B"⟩ : MethodName)) (z := (⟨"com/example/keelson/keelson/wire/WireWriter", "toByteArray", "()[B"⟩ : MethodName)) hown (mvT hZ (hw _ (List.mem_of_getElem? (i := 57) rfl))) (mvT hZ (hw _ (List.mem_of_getElem? (i := 58) rfl))) (notFace_of_selects (args := #[]) (mvT hZ (hw _ (List.mem_of_getElem? (i := 60) rfl)))) (mvT hZ (hw _ (List.mem_of_getElem? (i := 60) rfl))) (mvT hZ (hw _ (List.mem_of_getElem? (i := 59) rfl))) (by decide) (backOf (W := 0) (rm11 l Z a0 hw [] wr B (putL (f0 x0 :: f1 x0 :: f2 x0 :: f3 x0 :: f4 x0 :: f5 x0 :: tl_) na x1) T1.heap n0 ZS1 F1_wr_size F1_wr_bytes Vb1 Ex1_B (TyB.put TYt na x1) (by simp only [putL, List.length_set, List.length_cons]; omega)) hZ (hw _ (List.mem_of_getElem? (i := 61) rfl)) (hw _ (List.mem_of_getElem? (i := 3) rfl)) (by decide) (by decide)) q2a q2c (g := (mkF m 89 #[.val (.long x0), .second, .val (.int x1), .val (.int x2), .val (.int x3), .val (.int at_), .val (.ref wr), .unset] [(.ref wr)])) rfl (by rw [hml]; rfl) (Steps.refl _) (argsL := []) (rest := []) (lenOf pd_3 rfl) rfl (by show 2 * 0 + _ ≤ _; exact Nat.le_of_eq rfl) (hb hby at_89) (fun _ _ => ⟨rfl, rfl, (by decide : 3 + 1 ≤ _), (by decide : 300 + 6 ≤ _)⟩)
    dsimp only [Pt.U, Pt.locs, Pt.cells, Pt.slots] at X2 l2 y2 z2 st2 hQ2
    subst l2 y2 z2
    obtain ⟨b2, rfl, N2q, K2, sb2, g_b2, Vb2⟩ := hQ2
    have N2 := Fr.app N1 N2q
    have ne_wr_b2 : wr ≠ b2 := Nat.ne_of_lt (Nat.lt_of_lt_of_le F1_wr_bytes.lt sb2)
    have ne_B_b2 : B ≠ b2 := Nat.ne_of_lt (Nat.lt_of_lt_of_le Ex1_B.lt sb2)
    have sz_b2 : h0.size ≤ b2 := Nat.le_trans KK1.1 sb2
    have F2_wr_bytes : Fld Z T2.heap wr "com/example/keelson/keelson/wire/WireWriter" "bytes" "[B" (.ref B) := F1_wr_bytes.keep K2 nin0
    have F2_wr_size : Fld Z T2.heap wr "com/example/keelson/keelson/wire/WireWriter" "size" "I" (.int (6 : Int32)) := F1_wr_size.keep K2 nin0
    have Ex2_wr : Exa Z T2.heap wr "com/example/keelson/keelson/wire/WireWriter" := Ex1_wr.keep K2
    have Ex2_B : Exa Z T2.heap B "[B" := Ex1_B.keep K2
    have V2_B : VArr Z T2.heap B .byte ((putL (f0 x0 :: f1 x0 :: f2 x0 :: f3 x0 :: f4 x0 :: f5 x0 :: tl_) na x1).map Value.int) := Vb1.keep K2 nin0
    have ZS2 : n0 ≤ T2.heap.size := Nat.le_trans ZS1 K2.1
    have KK2 : Keep h0 T2.heap [] := KK1.trans K2 all0
    refine Go.tr (T' := T2) (f' := (mkF m 92 #[.val (.long x0), .second, .val (.int x1), .val (.int x2), .val (.int x3), .val (.int at_), .val (.ref wr), .unset] [(.ref b2)])) st2 ?_
    refine Go.of (T' := T2) (f' := (mkF m 94 #[.val (.long x0), .second, .val (.int x1), .val (.int x2), .val (.int x3), .val (.int at_), .val (.ref wr), .val (.ref b2)] [])) (fun t k => XS.astore X2.here hx rfl (hb hby at_92) rfl rfl (l' := #[.val (.long x0), .second, .val (.int x1), .val (.int x2), .val (.int x3), .val (.int at_), .val (.ref wr), .val (.ref b2)]) rfl k) ?_
    refine Go.of (T' := T2) (f' := (mkF m 96 #[.val (.long x0), .second, .val (.int x1), .val (.int x2), .val (.int x3), .val (.int at_), .val (.ref wr), .val (.ref b2)] [(.ref b2)])) (fun t k => XS.aload X2.here hx rfl (hb hby at_94) rfl rfl k) ?_
    refine Go.of (T' := T2) (f' := (mkF m 97 #[.val (.long x0), .second, .val (.int x1), .val (.int x2), .val (.int x3), .val (.int at_), .val (.ref wr), .val (.ref b2)] [(.int (6 : Int32))])) (fun t k => lenV X2 hx hZ rfl Vb2 (n := (6 : Int32)) (by rw [List.length_map, cpy, List.length_map, List.length_range]; rfl) (g := (mkF m 96 #[.val (.long x0), .second, .val (.int x1), .val (.int x2), .val (.int x3), .val (.int at_), .val (.ref wr), .val (.ref b2)] [(.ref b2)])) rfl rfl (hb hby at_96) t k) ?_
    refine Go.of (T' := T2) (f' := (mkF m 99 #[.val (.long x0), .second, .val (.int x1), .val (.int x2), .val (.int x3), .val (.int at_), .val (.ref wr), .val (.ref b2)] [(.int (6 : Int32)), (.int (6 : Int32))])) (fun t k => XS.bipush X2.here hx rfl (hb hby at_97) k) ?_
    have hc99 : (6 : Int32) = (6 : Int32) := by decide
    refine Go.of (T' := T2) (f' := (mkF m 104 #[.val (.long x0), .second, .val (.int x1), .val (.int x2), .val (.int x3), .val (.int at_), .val (.ref wr), .val (.ref b2)] [])) (fun t k => XS.icmpYes X2.here hx rfl (pc0 := 99) (pc' := 104) rfl (hb hby at_99) rfl ((teq hc99).1) (by decide) (by decide) k) ?_
    refine Go.of (T' := T2) (f' := (mkF m 106 #[.val (.long x0), .second, .val (.int x1), .val (.int x2), .val (.int x3), .val (.int at_), .val (.ref wr), .val (.ref b2)] [(.ref b2)])) (fun t k => XS.aload X2.here hx rfl (hb hby at_104) rfl rfl k) ?_
    refine Go.of (T' := T2) (f' := (mkF m 107 #[.val (.long x0), .second, .val (.int x1), .val (.int x2), .val (.int x3), .val (.int at_), .val (.ref wr), .val (.ref b2)] [(.int (0 : Int32)), (.ref b2)])) (fun t k => XS.iconst X2.here hx rfl (hb hby at_106) k) ?_
    refine Go.of (T' := T2) (f' := (mkF m 108 #[.val (.long x0), .second, .val (.int x1), .val (.int x2), .val (.int x3), .val (.int at_), .val (.ref wr), .val (.ref b2)] [(.int (List.getD (putL (f0 x0 :: f1 x0 :: f2 x0 :: f3 x0 :: f4 x0 :: f5 x0 :: tl_) na x1) 0 0))])) (fun t k => ldB X2 hx hZ rfl Vb2 (j := (0 : Int32)) (v := (.int (List.getD (putL (f0 x0 :: f1 x0 :: f2 x0 :: f3 x0 :: f4 x0 :: f5 x0 :: tl_) na x1) 0 0))) (by decide) (i := 0) (by decide) (own_cpat _ (by decide)) (g := (mkF m 107 #[.val (.long x0), .second, .val (.int x1), .val (.int x2), .val (.int x3), .val (.int at_), .val (.ref wr), .val (.ref b2)] [(.int (0 : Int32)), (.ref b2)])) rfl rfl (hb hby at_107) t k) ?_
    refine Go.of (T' := T2) (f' := (mkF m 109 #[.val (.long x0), .second, .val (.int x1), .val (.int x2), .val (.int x3), .val (.int at_), .val (.ref wr), .val (.ref b2)] [(.int (0 : Int32)), (.int (List.getD (putL (f0 x0 :: f1 x0 :: f2 x0 :: f3 x0 :: f4 x0 :: f5 x0 :: tl_) na x1) 0 0))])) (fun t k => XS.iconst X2.here hx rfl (hb hby at_108) k) ?_
    refine Go.of (T' := T2) (f' := (mkF m 111 #[.val (.long x0), .second, .val (.int x1), .val (.int x2), .val (.int x3), .val (.int at_), .val (.ref wr), .val (.ref b2)] [(.int at_), (.int (0 : Int32)), (.int (List.getD (putL (f0 x0 :: f1 x0 :: f2 x0 :: f3 x0 :: f4 x0 :: f5 x0 :: tl_) na x1) 0 0))])) (fun t k => XS.iload X2.here hx rfl (hb hby at_109) rfl k) ?_
    refine Go.of (T' := T2) (f' := (mkF m 112 #[.val (.long x0), .second, .val (.int x1), .val (.int x2), .val (.int x3), .val (.int at_), .val (.ref wr), .val (.ref b2)] [(.int x1), (.int at_), (.int (0 : Int32)), (.int (List.getD (putL (f0 x0 :: f1 x0 :: f2 x0 :: f3 x0 :: f4 x0 :: f5 x0 :: tl_) na x1) 0 0))])) (fun t k => XS.iloadN X2.here hx rfl (hb hby at_111) rfl k) ?_
    refine Go.of (T' := T2) (f' := (mkF m 113 #[.val (.long x0), .second, .val (.int x1), .val (.int x2), .val (.int x3), .val (.int at_), .val (.ref wr), .val (.ref b2)] [(.long x0), (.int x1), (.int at_), (.int (0 : Int32)), (.int (List.getD (putL (f0 x0 :: f1 x0 :: f2 x0 :: f3 x0 :: f4 x0 :: f5 x0 :: tl_) na x1) 0 0))])) (fun t k => XS.lloadN X2.here hx rfl (hb hby at_112) rfl k) ?_
    obtain ⟨_, _, ⟨T3, L3, k3, n3⟩, -, X3, ⟨Lc3, hQ3, l3, y3, z3⟩, st3⟩ := Jvm.LawKit.callS X2 hx (y := (⟨"com/example/keelson/keelson/wire/WireWriterPutIntPinLaw", "ok", "(BIIIJ)Z"⟩ : MethodName)) hown (mvT hZ (hw _ (List.mem_of_getElem? (i := 62) rfl))) (mvT hZ (hw _ (List.mem_of_getElem? (i := 63) rfl))) (mvT hZ (hw _ (List.mem_of_getElem? (i := 64) rfl))) (mvT hZ (hw _ (List.mem_of_getElem? (i := 65) rfl))) (by decide) (backOf (W := 0) (rm12 l Z a0 hw [] (List.getD (putL (f0 x0 :: f1 x0 :: f2 x0 :: f3 x0 :: f4 x0 :: f5 x0 :: tl_) na x1) 0 0) (0 : Int32) at_ x1 x0 T2.heap n0 ZS2 ) hZ (hw _ (List.mem_of_getElem? (i := 65) rfl)) (hw _ (List.mem_of_getElem? (i := 64) rfl)) (by decide) (by decide)) (g := (mkF m 113 #[.val (.long x0), .second, .val (.int x1), .val (.int x2), .val (.int x3), .val (.int at_), .val (.ref wr), .val (.ref b2)] [(.long x0), (.int x1), (.int at_), (.int (0 : Int32)), (.int (List.getD (putL (f0 x0 :: f1 x0 :: f2 x0 :: f3 x0 :: f4 x0 :: f5 x0 :: tl_) na x1) 0 0))])) rfl (by rw [hml]; rfl) (argsL := [(.int (List.getD (putL (f0 x0 :: f1 x0 :: f2 x0 :: f3 x0 :: f4 x0 :: f5 x0 :: tl_) na x1) 0 0)), (.int (0 : Int32)), (.int at_), (.int x1), (.long x0)]) (rest := []) (lenOf pd_4 rfl) rfl (by show 2 * 0 + _ ≤ _; exact Nat.le_of_eq rfl) (hb hby at_113) (fun _ _ => ⟨rfl, rfl, (by decide : 4 + 0 ≤ _), (by decide : 306 + 0 ≤ _)⟩)
    dsimp only [Pt.U, Pt.locs, Pt.cells, Pt.slots] at X3 l3 y3 z3 st3 hQ3
    subst l3 y3 z3
    obtain ⟨rfl, N3q, e3⟩ := hQ3
    have N3 := Fr.app N2 N3q
    refine Go.of (T' := T3) (f' := (mkF m 116 #[.val (.long x0), .second, .val (.int x1), .val (.int x2), .val (.int x3), .val (.int at_), .val (.ref wr), .val (.ref b2)] [(.int (okV (List.getD (putL (f0 x0 :: f1 x0 :: f2 x0 :: f3 x0 :: f4 x0 :: f5 x0 :: tl_) na x1) 0 0) (0 : Int32) at_ x1 x0))])) (fun t k => st3 t k) ?_
    have hc116 : ¬ ((okV (List.getD (putL (f0 x0 :: f1 x0 :: f2 x0 :: f3 x0 :: f4 x0 :: f5 x0 :: tl_) na x1) 0 0) (0 : Int32) at_ x1 x0) = (0 : Int32)) := hok.1
    refine Go.of (T' := T3) (f' := (mkF m 119 #[.val (.long x0), .second, .val (.int x1), .val (.int x2), .val (.int x3), .val (.int at_), .val (.ref wr), .val (.ref b2)] [])) (fun t k => XS.ifNo X3.here hx rfl (hb hby at_116) rfl ((if0 _ _).trans (feq hc116).1) k) ?_
    refine Go.of (T' := T3) (f' := (mkF m 121 #[.val (.long x0), .second, .val (.int x1), .val (.int x2), .val (.int x3), .val (.int at_), .val (.ref wr), .val (.ref b2)] [(.ref b2)])) (fun t k => XS.aload X3.here hx rfl (hb hby at_119) rfl rfl k) ?_
    refine Go.of (T' := T3) (f' := (mkF m 122 #[.val (.long x0), .second, .val (.int x1), .val (.int x2), .val (.int x3), .val (.int at_), .val (.ref wr), .val (.ref b2)] [(.int (1 : Int32)), (.ref b2)])) (fun t k => XS.iconst X3.here hx rfl (hb hby at_121) k) ?_
    refine Go.of (T' := T3) (f' := (mkF m 123 #[.val (.long x0), .second, .val (.int x1), .val (.int x2), .val (.int x3), .val (.int at_), .val (.ref wr), .val (.ref b2)] [(.int (List.getD (putL (f0 x0 :: f1 x0 :: f2 x0 :: f3 x0 :: f4 x0 :: f5 x0 :: tl_) na x1) 1 0))])) (fun t k => ldB X3 hx hZ e3 Vb2 (j := (1 : Int32)) (v := (.int (List.getD (putL (f0 x0 :: f1 x0 :: f2 x0 :: f3 x0 :: f4 x0 :: f5 x0 :: tl_) na x1) 1 0))) (by decide) (i := 1) (by decide) (own_cpat _ (by decide)) (g := (mkF m 122 #[.val (.long x0), .second, .val (.int x1), .val (.int x2), .val (.int x3), .val (.int at_), .val (.ref wr), .val (.ref b2)] [(.int (1 : Int32)), (.ref b2)])) rfl rfl (hb hby at_122) t k) ?_
    refine Go.of (T' := T3) (f' := (mkF m 124 #[.val (.long x0), .second, .val (.int x1), .val (.int x2), .val (.int x3), .val (.int at_), .val (.ref wr), .val (.ref b2)] [(.int (1 : Int32)), (.int (List.getD (putL (f0 x0 :: f1 x0 :: f2 x0 :: f3 x0 :: f4 x0 :: f5 x0 :: tl_) na x1) 1 0))])) (fun t k => XS.iconst X3.here hx rfl (hb hby at_123) k) ?_
    refine Go.of (T' := T3) (f' := (mkF m 126 #[.val (.long x0), .second, .val (.int x1), .val (.int x2), .val (.int x3), .val (.int at_), .val (.ref wr), .val (.ref b2)] [(.int at_), (.int (1 : Int32)), (.int (List.getD (putL (f0 x0 :: f1 x0 :: f2 x0 :: f3 x0 :: f4 x0 :: f5 x0 :: tl_) na x1) 1 0))])) (fun t k => XS.iload X3.here hx rfl (hb hby at_124) rfl k) ?_
    refine Go.of (T' := T3) (f' := (mkF m 127 #[.val (.long x0), .second, .val (.int x1), .val (.int x2), .val (.int x3), .val (.int at_), .val (.ref wr), .val (.ref b2)] [(.int x1), (.int at_), (.int (1 : Int32)), (.int (List.getD (putL (f0 x0 :: f1 x0 :: f2 x0 :: f3 x0 :: f4 x0 :: f5 x0 :: tl_) na x1) 1 0))])) (fun t k => XS.iloadN X3.here hx rfl (hb hby at_126) rfl k) ?_
    refine Go.of (T' := T3) (f' := (mkF m 128 #[.val (.long x0), .second, .val (.int x1), .val (.int x2), .val (.int x3), .val (.int at_), .val (.ref wr), .val (.ref b2)] [(.long x0), (.int x1), (.int at_), (.int (1 : Int32)), (.int (List.getD (putL (f0 x0 :: f1 x0 :: f2 x0 :: f3 x0 :: f4 x0 :: f5 x0 :: tl_) na x1) 1 0))])) (fun t k => XS.lloadN X3.here hx rfl (hb hby at_127) rfl k) ?_
    obtain ⟨_, _, ⟨T4, L4, k4, n4⟩, -, X4, ⟨Lc4, hQ4, l4, y4, z4⟩, st4⟩ := Jvm.LawKit.callS X3 hx (y := (⟨"com/example/keelson/keelson/wire/WireWriterPutIntPinLaw", "ok", "(BIIIJ)Z"⟩ : MethodName)) hown (mvT hZ (hw _ (List.mem_of_getElem? (i := 62) rfl))) (mvT hZ (hw _ (List.mem_of_getElem? (i := 63) rfl))) (mvT hZ (hw _ (List.mem_of_getElem? (i := 64) rfl))) (mvT hZ (hw _ (List.mem_of_getElem? (i := 65) rfl))) (by decide) (backOf (W := 0) (rm12 l Z a0 hw [] (List.getD (putL (f0 x0 :: f1 x0 :: f2 x0 :: f3 x0 :: f4 x0 :: f5 x0 :: tl_) na x1) 1 0) (1 : Int32) at_ x1 x0 T2.heap n0 ZS2 ) hZ (hw _ (List.mem_of_getElem? (i := 65) rfl)) (hw _ (List.mem_of_getElem? (i := 64) rfl)) (by decide) (by decide)) (g := (mkF m 128 #[.val (.long x0), .second, .val (.int x1), .val (.int x2), .val (.int x3), .val (.int at_), .val (.ref wr), .val (.ref b2)] [(.long x0), (.int x1), (.int at_), (.int (1 : Int32)), (.int (List.getD (putL (f0 x0 :: f1 x0 :: f2 x0 :: f3 x0 :: f4 x0 :: f5 x0 :: tl_) na x1) 1 0))])) rfl (by rw [hml]; rfl) (argsL := [(.int (List.getD (putL (f0 x0 :: f1 x0 :: f2 x0 :: f3 x0 :: f4 x0 :: f5 x0 :: tl_) na x1) 1 0)), (.int (1 : Int32)), (.int at_), (.int x1), (.long x0)]) (rest := []) (lenOf pd_4 rfl) rfl (by show 2 * 0 + _ ≤ _; exact Nat.le_of_eq rfl) (hb hby at_128) (fun _ _ => ⟨rfl, e3, (by decide : 4 + 0 ≤ _), (by decide : 306 + 0 ≤ _)⟩)
    dsimp only [Pt.U, Pt.locs, Pt.cells, Pt.slots] at X4 l4 y4 z4 st4 hQ4
    subst l4 y4 z4
    obtain ⟨rfl, N4q, e4⟩ := hQ4
    have N4 := Fr.app N3 N4q
    refine Go.of (T' := T4) (f' := (mkF m 131 #[.val (.long x0), .second, .val (.int x1), .val (.int x2), .val (.int x3), .val (.int at_), .val (.ref wr), .val (.ref b2)] [(.int (okV (List.getD (putL (f0 x0 :: f1 x0 :: f2 x0 :: f3 x0 :: f4 x0 :: f5 x0 :: tl_) na x1) 1 0) (1 : Int32) at_ x1 x0))])) (fun t k => st4 t k) ?_
    have hc131 : ¬ ((okV (List.getD (putL (f0 x0 :: f1 x0 :: f2 x0 :: f3 x0 :: f4 x0 :: f5 x0 :: tl_) na x1) 1 0) (1 : Int32) at_ x1 x0) = (0 : Int32)) := hok.2.1
    refine Go.of (T' := T4) (f' := (mkF m 134 #[.val (.long x0), .second, .val (.int x1), .val (.int x2), .val (.int x3), .val (.int at_), .val (.ref wr), .val (.ref b2)] [])) (fun t k => XS.ifNo X4.here hx rfl (hb hby at_131) rfl ((if0 _ _).trans (feq hc131).1) k) ?_
    refine Go.of (T' := T4) (f' := (mkF m 136 #[.val (.long x0), .second, .val (.int x1), .val (.int x2), .val (.int x3), .val (.int at_), .val (.ref wr), .val (.ref b2)] [(.ref b2)])) (fun t k => XS.aload X4.here hx rfl (hb hby at_134) rfl rfl k) ?_
    refine Go.of (T' := T4) (f' := (mkF m 137 #[.val (.long x0), .second, .val (.int x1), .val (.int x2), .val (.int x3), .val (.int at_), .val (.ref wr), .val (.ref b2)] [(.int (2 : Int32)), (.ref b2)])) (fun t k => XS.iconst X4.here hx rfl (hb hby at_136) k) ?_
    refine Go.of (T' := T4) (f' := (mkF m 138 #[.val (.long x0), .second, .val (.int x1), .val (.int x2), .val (.int x3), .val (.int at_), .val (.ref wr), .val (.ref b2)] [(.int (List.getD (putL (f0 x0 :: f1 x0 :: f2 x0 :: f3 x0 :: f4 x0 :: f5 x0 :: tl_) na x1) 2 0))])) (fun t k => ldB X4 hx hZ e4 Vb2 (j := (2 : Int32)) (v := (.int (List.getD (putL (f0 x0 :: f1 x0 :: f2 x0 :: f3 x0 :: f4 x0 :: f5 x0 :: tl_) na x1) 2 0))) (by decide) (i := 2) (by decide) (own_cpat _ (by decide)) (g := (mkF m 137 #[.val (.long x0), .second, .val (.int x1), .val (.int x2), .val (.int x3), .val (.int at_), .val (.ref wr), .val (.ref b2)] [(.int (2 : Int32)), (.ref b2)])) rfl rfl (hb hby at_137) t k) ?_
    refine Go.of (T' := T4) (f' := (mkF m 139 #[.val (.long x0), .second, .val (.int x1), .val (.int x2), .val (.int x3), .val (.int at_), .val (.ref wr), .val (.ref b2)] [(.int (2 : Int32)), (.int (List.getD (putL (f0 x0 :: f1 x0 :: f2 x0 :: f3 x0 :: f4 x0 :: f5 x0 :: tl_) na x1) 2 0))])) (fun t k => XS.iconst X4.here hx rfl (hb hby at_138) k) ?_
    refine Go.of (T' := T4) (f' := (mkF m 141 #[.val (.long x0), .second, .val (.int x1), .val (.int x2), .val (.int x3), .val (.int at_), .val (.ref wr), .val (.ref b2)] [(.int at_), (.int (2 : Int32)), (.int (List.getD (putL (f0 x0 :: f1 x0 :: f2 x0 :: f3 x0 :: f4 x0 :: f5 x0 :: tl_) na x1) 2 0))])) (fun t k => XS.iload X4.here hx rfl (hb hby at_139) rfl k) ?_
    refine Go.of (T' := T4) (f' := (mkF m 142 #[.val (.long x0), .second, .val (.int x1), .val (.int x2), .val (.int x3), .val (.int at_), .val (.ref wr), .val (.ref b2)] [(.int x1), (.int at_), (.int (2 : Int32)), (.int (List.getD (putL (f0 x0 :: f1 x0 :: f2 x0 :: f3 x0 :: f4 x0 :: f5 x0 :: tl_) na x1) 2 0))])) (fun t k => XS.iloadN X4.here hx rfl (hb hby at_141) rfl k) ?_
    refine Go.of (T' := T4) (f' := (mkF m 143 #[.val (.long x0), .second, .val (.int x1), .val (.int x2), .val (.int x3), .val (.int at_), .val (.ref wr), .val (.ref b2)] [(.long x0), (.int x1), (.int at_), (.int (2 : Int32)), (.int (List.getD (putL (f0 x0 :: f1 x0 :: f2 x0 :: f3 x0 :: f4 x0 :: f5 x0 :: tl_) na x1) 2 0))])) (fun t k => XS.lloadN X4.here hx rfl (hb hby at_142) rfl k) ?_
    obtain ⟨_, _, ⟨T5, L5, k5, n5⟩, -, X5, ⟨Lc5, hQ5, l5, y5, z5⟩, st5⟩ := Jvm.LawKit.callS X4 hx (y := (⟨"com/example/keelson/keelson/wire/WireWriterPutIntPinLaw", "ok", "(BIIIJ)Z"⟩ : MethodName)) hown (mvT hZ (hw _ (List.mem_of_getElem? (i := 62) rfl))) (mvT hZ (hw _ (List.mem_of_getElem? (i := 63) rfl))) (mvT hZ (hw _ (List.mem_of_getElem? (i := 64) rfl))) (mvT hZ (hw _ (List.mem_of_getElem? (i := 65) rfl))) (by decide) (backOf (W := 0) (rm12 l Z a0 hw [] (List.getD (putL (f0 x0 :: f1 x0 :: f2 x0 :: f3 x0 :: f4 x0 :: f5 x0 :: tl_) na x1) 2 0) (2 : Int32) at_ x1 x0 T2.heap n0 ZS2 ) hZ (hw _ (List.mem_of_getElem? (i := 65) rfl)) (hw _ (List.mem_of_getElem? (i := 64) rfl)) (by decide) (by decide)) (g := (mkF m 143 #[.val (.long x0), .second, .val (.int x1), .val (.int x2), .val (.int x3), .val (.int at_), .val (.ref wr), .val (.ref b2)] [(.long x0), (.int x1), (.int at_), (.int (2 : Int32)), (.int (List.getD (putL (f0 x0 :: f1 x0 :: f2 x0 :: f3 x0 :: f4 x0 :: f5 x0 :: tl_) na x1) 2 0))])) rfl (by rw [hml]; rfl) (argsL := [(.int (List.getD (putL (f0 x0 :: f1 x0 :: f2 x0 :: f3 x0 :: f4 x0 :: f5 x0 :: tl_) na x1) 2 0)), (.int (2 : Int32)), (.int at_), (.int x1), (.long x0)]) (rest := []) (lenOf pd_4 rfl) rfl (by show 2 * 0 + _ ≤ _; exact Nat.le_of_eq rfl) (hb hby at_143) (fun _ _ => ⟨rfl, e4, (by decide : 4 + 0 ≤ _), (by decide : 306 + 0 ≤ _)⟩)
    dsimp only [Pt.U, Pt.locs, Pt.cells, Pt.slots] at X5 l5 y5 z5 st5 hQ5
    subst l5 y5 z5
    obtain ⟨rfl, N5q, e5⟩ := hQ5
    have N5 := Fr.app N4 N5q
    refine Go.of (T' := T5) (f' := (mkF m 146 #[.val (.long x0), .second, .val (.int x1), .val (.int x2), .val (.int x3), .val (.int at_), .val (.ref wr), .val (.ref b2)] [(.int (okV (List.getD (putL (f0 x0 :: f1 x0 :: f2 x0 :: f3 x0 :: f4 x0 :: f5 x0 :: tl_) na x1) 2 0) (2 : Int32) at_ x1 x0))])) (fun t k => st5 t k) ?_
    have hc146 : ¬ ((okV (List.getD (putL (f0 x0 :: f1 x0 :: f2 x0 :: f3 x0 :: f4 x0 :: f5 x0 :: tl_) na x1) 2 0) (2 : Int32) at_ x1 x0) = (0 : Int32)) := hok.2.2.1
    refine Go.of (T' := T5) (f' := (mkF m 149 #[.val (.long x0), .second, .val (.int x1), .val (.int x2), .val (.int x3), .val (.int at_), .val (.ref wr), .val (.ref b2)] [])) (fun t k => XS.ifNo X5.here hx rfl (hb hby at_146) rfl ((if0 _ _).trans (feq hc146).1) k) ?_
    refine Go.of (T' := T5) (f' := (mkF m 151 #[.val (.long x0), .second, .val (.int x1), .val (.int x2), .val (.int x3), .val (.int at_), .val (.ref wr), .val (.ref b2)] [(.ref b2)])) (fun t k => XS.aload X5.here hx rfl (hb hby at_149) rfl rfl k) ?_
    refine Go.of (T' := T5) (f' := (mkF m 152 #[.val (.long x0), .second, .val (.int x1), .val (.int x2), .val (.int x3), .val (.int at_), .val (.ref wr), .val (.ref b2)] [(.int (3 : Int32)), (.ref b2)])) (fun t k => XS.iconst X5.here hx rfl (hb hby at_151) k) ?_
    refine Go.of (T' := T5) (f' := (mkF m 153 #[.val (.long x0), .second, .val (.int x1), .val (.int x2), .val (.int x3), .val (.int at_), .val (.ref wr), .val (.ref b2)] [(.int (List.getD (putL (f0 x0 :: f1 x0 :: f2 x0 :: f3 x0 :: f4 x0 :: f5 x0 :: tl_) na x1) 3 0))])) (fun t k => ldB X5 hx hZ e5 Vb2 (j := (3 : Int32)) (v := (.int (List.getD (putL (f0 x0 :: f1 x0 :: f2 x0 :: f3 x0 :: f4 x0 :: f5 x0 :: tl_) na x1) 3 0))) (by decide) (i := 3) (by decide) (own_cpat _ (by decide)) (g := (mkF m 152 #[.val (.long x0), .second, .val (.int x1), .val (.int x2), .val (.int x3), .val (.int at_), .val (.ref wr), .val (.ref b2)] [(.int (3 : Int32)), (.ref b2)])) rfl rfl (hb hby at_152) t k) ?_
    refine Go.of (T' := T5) (f' := (mkF m 154 #[.val (.long x0), .second, .val (.int x1), .val (.int x2), .val (.int x3), .val (.int at_), .val (.ref wr), .val (.ref b2)] [(.int (3 : Int32)), (.int (List.getD (putL (f0 x0 :: f1 x0 :: f2 x0 :: f3 x0 :: f4 x0 :: f5 x0 :: tl_) na x1) 3 0))])) (fun t k => XS.iconst X5.here hx rfl (hb hby at_153) k) ?_
    refine Go.of (T' := T5) (f' := (mkF m 156 #[.val (.long x0), .second, .val (.int x1), .val (.int x2), .val (.int x3), .val (.int at_), .val (.ref wr), .val (.ref b2)] [(.int at_), (.int (3 : Int32)), (.int (List.getD (putL (f0 x0 :: f1 x0 :: f2 x0 :: f3 x0 :: f4 x0 :: f5 x0 :: tl_) na x1) 3 0))])) (fun t k => XS.iload X5.here hx rfl (hb hby at_154) rfl k) ?_
    refine Go.of (T' := T5) (f' := (mkF m 157 #[.val (.long x0), .second, .val (.int x1), .val (.int x2), .val (.int x3), .val (.int at_), .val (.ref wr), .val (.ref b2)] [(.int x1), (.int at_), (.int (3 : Int32)), (.int (List.getD (putL (f0 x0 :: f1 x0 :: f2 x0 :: f3 x0 :: f4 x0 :: f5 x0 :: tl_) na x1) 3 0))])) (fun t k => XS.iloadN X5.here hx rfl (hb hby at_156) rfl k) ?_
    refine Go.of (T' := T5) (f' := (mkF m 158 #[.val (.long x0), .second, .val (.int x1), .val (.int x2), .val (.int x3), .val (.int at_), .val (.ref wr), .val (.ref b2)] [(.long x0), (.int x1), (.int at_), (.int (3 : Int32)), (.int (List.getD (putL (f0 x0 :: f1 x0 :: f2 x0 :: f3 x0 :: f4 x0 :: f5 x0 :: tl_) na x1) 3 0))])) (fun t k => XS.lloadN X5.here hx rfl (hb hby at_157) rfl k) ?_
    obtain ⟨_, _, ⟨T6, L6, k6, n6⟩, -, X6, ⟨Lc6, hQ6, l6, y6, z6⟩, st6⟩ := Jvm.LawKit.callS X5 hx (y := (⟨"com/example/keelson/keelson/wire/WireWriterPutIntPinLaw", "ok", "(BIIIJ)Z"⟩ : MethodName)) hown (mvT hZ (hw _ (List.mem_of_getElem? (i := 62) rfl))) (mvT hZ (hw _ (List.mem_of_getElem? (i := 63) rfl))) (mvT hZ (hw _ (List.mem_of_getElem? (i := 64) rfl))) (mvT hZ (hw _ (List.mem_of_getElem? (i := 65) rfl))) (by decide) (backOf (W := 0) (rm12 l Z a0 hw [] (List.getD (putL (f0 x0 :: f1 x0 :: f2 x0 :: f3 x0 :: f4 x0 :: f5 x0 :: tl_) na x1) 3 0) (3 : Int32) at_ x1 x0 T2.heap n0 ZS2 ) hZ (hw _ (List.mem_of_getElem? (i := 65) rfl)) (hw _ (List.mem_of_getElem? (i := 64) rfl)) (by decide) (by decide)) (g := (mkF m 158 #[.val (.long x0), .second, .val (.int x1), .val (.int x2), .val (.int x3), .val (.int at_), .val (.ref wr), .val (.ref b2)] [(.long x0), (.int x1), (.int at_), (.int (3 : Int32)), (.int (List.getD (putL (f0 x0 :: f1 x0 :: f2 x0 :: f3 x0 :: f4 x0 :: f5 x0 :: tl_) na x1) 3 0))])) rfl (by rw [hml]; rfl) (argsL := [(.int (List.getD (putL (f0 x0 :: f1 x0 :: f2 x0 :: f3 x0 :: f4 x0 :: f5 x0 :: tl_) na x1) 3 0)), (.int (3 : Int32)), (.int at_), (.int x1), (.long x0)]) (rest := []) (lenOf pd_4 rfl) rfl (by show 2 * 0 + _ ≤ _; exact Nat.le_of_eq rfl) (hb hby at_158) (fun _ _ => ⟨rfl, e5, (by decide : 4 + 0 ≤ _), (by decide : 306 + 0 ≤ _)⟩)
    dsimp only [Pt.U, Pt.locs, Pt.cells, Pt.slots] at X6 l6 y6 z6 st6 hQ6
    subst l6 y6 z6
    obtain ⟨rfl, N6q, e6⟩ := hQ6
    have N6 := Fr.app N5 N6q
    refine Go.of (T' := T6) (f' := (mkF m 161 #[.val (.long x0), .second, .val (.int x1), .val (.int x2), .val (.int x3), .val (.int at_), .val (.ref wr), .val (.ref b2)] [(.int (okV (List.getD (putL (f0 x0 :: f1 x0 :: f2 x0 :: f3 x0 :: f4 x0 :: f5 x0 :: tl_) na x1) 3 0) (3 : Int32) at_ x1 x0))])) (fun t k => st6 t k) ?_
    have hc161 : ¬ ((okV (List.getD (putL (f0 x0 :: f1 x0 :: f2 x0 :: f3 x0 :: f4 x0 :: f5 x0 :: tl_) na x1) 3 0) (3 : Int32) at_ x1 x0) = (0 : Int32)) := hok.2.2.2.1
    refine Go.of (T' := T6) (f' := (mkF m 164 #[.val (.long x0), .second, .val (.int x1), .val (.int x2), .val (.int x3), .val (.int at_), .val (.ref wr), .val (.ref b2)] [])) (fun t k => XS.ifNo X6.here hx rfl (hb hby at_161) rfl ((if0 _ _).trans (feq hc161).1) k) ?_
    refine Go.of (T' := T6) (f' := (mkF m 166 #[.val (.long x0), .second, .val (.int x1), .val (.int x2), .val (.int x3), .val (.int at_), .val (.ref wr), .val (.ref b2)] [(.ref b2)])) (fun t k => XS.aload X6.here hx rfl (hb hby at_164) rfl rfl k) ?_
    refine Go.of (T' := T6) (f' := (mkF m 167 #[.val (.long x0), .second, .val (.int x1), .val (.int x2), .val (.int x3), .val (.int at_), .val (.ref wr), .val (.ref b2)] [(.int (4 : Int32)), (.ref b2)])) (fun t k => XS.iconst X6.here hx rfl (hb hby at_166) k) ?_
    refine Go.of (T' := T6) (f' := (mkF m 168 #[.val (.long x0), .second, .val (.int x1), .val (.int x2), .val (.int x3), .val (.int at_), .val (.ref wr), .val (.ref b2)] [(.int (List.getD (putL (f0 x0 :: f1 x0 :: f2 x0 :: f3 x0 :: f4 x0 :: f5 x0 :: tl_) na x1) 4 0))])) (fun t k => ldB X6 hx hZ e6 Vb2 (j := (4 : Int32)) (v := (.int (List.getD (putL (f0 x0 :: f1 x0 :: f2 x0 :: f3 x0 :: f4 x0 :: f5 x0 :: tl_) na x1) 4 0))) (by decide) (i := 4) (by decide) (own_cpat _ (by decide)) (g := (mkF m 167 #[.val (.long x0), .second, .val (.int x1), .val (.int x2), .val (.int x3), .val (.int at_), .val (.ref wr), .val (.ref b2)] [(.int (4 : Int32)), (.ref b2)])) rfl rfl (hb hby at_167) t k) ?_
    refine Go.of (T' := T6) (f' := (mkF m 169 #[.val (.long x0), .second, .val (.int x1), .val (.int x2), .val (.int x3), .val (.int at_), .val (.ref wr), .val (.ref b2)] [(.int (4 : Int32)), (.int (List.getD (putL (f0 x0 :: f1 x0 :: f2 x0 :: f3 x0 :: f4 x0 :: f5 x0 :: tl_) na x1) 4 0))])) (fun t k => XS.iconst X6.here hx rfl (hb hby at_168) k) ?_
    refine Go.of (T' := T6) (f' := (mkF m 171 #[.val (.long x0), .second, .val (.int x1), .val (.int x2), .val (.int x3), .val (.int at_), .val (.ref wr), .val (.ref b2)] [(.int at_), (.int (4 : Int32)), (.int (List.getD (putL (f0 x0 :: f1 x0 :: f2 x0 :: f3 x0 :: f4 x0 :: f5 x0 :: tl_) na x1) 4 0))])) (fun t k => XS.iload X6.here hx rfl (hb hby at_169) rfl k) ?_
    refine Go.of (T' := T6) (f' := (mkF m 172 #[.val (.long x0), .second, .val (.int x1), .val (.int x2), .val (.int x3), .val (.int at_), .val (.ref wr), .val (.ref b2)] [(.int x1), (.int at_), (.int (4 : Int32)), (.int (List.getD (putL (f0 x0 :: f1 x0 :: f2 x0 :: f3 x0 :: f4 x0 :: f5 x0 :: tl_) na x1) 4 0))])) (fun t k => XS.iloadN X6.here hx rfl (hb hby at_171) rfl k) ?_
    refine Go.of (T' := T6) (f' := (mkF m 173 #[.val (.long x0), .second, .val (.int x1), .val (.int x2), .val (.int x3), .val (.int at_), .val (.ref wr), .val (.ref b2)] [(.long x0), (.int x1), (.int at_), (.int (4 : Int32)), (.int (List.getD (putL (f0 x0 :: f1 x0 :: f2 x0 :: f3 x0 :: f4 x0 :: f5 x0 :: tl_) na x1) 4 0))])) (fun t k => XS.lloadN X6.here hx rfl (hb hby at_172) rfl k) ?_
    obtain ⟨_, _, ⟨T7, L7, k7, n7⟩, -, X7, ⟨Lc7, hQ7, l7, y7, z7⟩, st7⟩ := Jvm.LawKit.callS X6 hx (y := (⟨"com/example/keelson/keelson/wire/WireWriterPutIntPinLaw", "ok", "(BIIIJ)Z"⟩ : MethodName)) hown (mvT hZ (hw _ (List.mem_of_getElem? (i := 62) rfl))) (mvT hZ (hw _ (List.mem_of_getElem? (i := 63) rfl))) (mvT hZ (hw _ (List.mem_of_getElem? (i := 64) rfl))) (mvT hZ (hw _ (List.mem_of_getElem? (i := 65) rfl))) (by decide) (backOf (W := 0) (rm12 l Z a0 hw [] (List.getD (putL (f0 x0 :: f1 x0 :: f2 x0 :: f3 x0 :: f4 x0 :: f5 x0 :: tl_) na x1) 4 0) (4 : Int32) at_ x1 x0 T2.heap n0 ZS2 ) hZ (hw _ (List.mem_of_getElem? (i := 65) rfl)) (hw _ (List.mem_of_getElem? (i := 64) rfl)) (by decide) (by decide)) (g := (mkF m 173 #[.val (.long x0), .second, .val (.int x1), .val (.int x2), .val (.int x3), .val (.int at_), .val (.ref wr), .val (.ref b2)] [(.long x0), (.int x1), (.int at_), (.int (4 : Int32)), (.int (List.getD (putL (f0 x0 :: f1 x0 :: f2 x0 :: f3 x0 :: f4 x0 :: f5 x0 :: tl_) na x1) 4 0))])) rfl (by rw [hml]; rfl) (argsL := [(.int (List.getD (putL (f0 x0 :: f1 x0 :: f2 x0 :: f3 x0 :: f4 x0 :: f5 x0 :: tl_) na x1) 4 0)), (.int (4 : Int32)), (.int at_), (.int x1), (.long x0)]) (rest := []) (lenOf pd_4 rfl) rfl (by show 2 * 0 + _ ≤ _; exact Nat.le_of_eq rfl) (hb hby at_173) (fun _ _ => ⟨rfl, e6, (by decide : 4 + 0 ≤ _), (by decide : 306 + 0 ≤ _)⟩)
    dsimp only [Pt.U, Pt.locs, Pt.cells, Pt.slots] at X7 l7 y7 z7 st7 hQ7
    subst l7 y7 z7
    obtain ⟨rfl, N7q, e7⟩ := hQ7
    have N7 := Fr.app N6 N7q
    refine Go.of (T' := T7) (f' := (mkF m 176 #[.val (.long x0), .second, .val (.int x1), .val (.int x2), .val (.int x3), .val (.int at_), .val (.ref wr), .val (.ref b2)] [(.int (okV (List.getD (putL (f0 x0 :: f1 x0 :: f2 x0 :: f3 x0 :: f4 x0 :: f5 x0 :: tl_) na x1) 4 0) (4 : Int32) at_ x1 x0))])) (fun t k => st7 t k) ?_
    have hc176 : ¬ ((okV (List.getD (putL (f0 x0 :: f1 x0 :: f2 x0 :: f3 x0 :: f4 x0 :: f5 x0 :: tl_) na x1) 4 0) (4 : Int32) at_ x1 x0) = (0 : Int32)) := hok.2.2.2.2.1
    refine Go.of (T' := T7) (f' := (mkF m 179 #[.val (.long x0), .second, .val (.int x1), .val (.int x2), .val (.int x3), .val (.int at_), .val (.ref wr), .val (.ref b2)] [])) (fun t k => XS.ifNo X7.here hx rfl (hb hby at_176) rfl ((if0 _ _).trans (feq hc176).1) k) ?_
    refine Go.of (T' := T7) (f' := (mkF m 181 #[.val (.long x0), .second, .val (.int x1), .val (.int x2), .val (.int x3), .val (.int at_), .val (.ref wr), .val (.ref b2)] [(.ref b2)])) (fun t k => XS.aload X7.here hx rfl (hb hby at_179) rfl rfl k) ?_
    refine Go.of (T' := T7) (f' := (mkF m 182 #[.val (.long x0), .second, .val (.int x1), .val (.int x2), .val (.int x3), .val (.int at_), .val (.ref wr), .val (.ref b2)] [(.int (5 : Int32)), (.ref b2)])) (fun t k => XS.iconst X7.here hx rfl (hb hby at_181) k) ?_
    refine Go.of (T' := T7) (f' := (mkF m 183 #[.val (.long x0), .second, .val (.int x1), .val (.int x2), .val (.int x3), .val (.int at_), .val (.ref wr), .val (.ref b2)] [(.int (List.getD (putL (f0 x0 :: f1 x0 :: f2 x0 :: f3 x0 :: f4 x0 :: f5 x0 :: tl_) na x1) 5 0))])) (fun t k => ldB X7 hx hZ e7 Vb2 (j := (5 : Int32)) (v := (.int (List.getD (putL (f0 x0 :: f1 x0 :: f2 x0 :: f3 x0 :: f4 x0 :: f5 x0 :: tl_) na x1) 5 0))) (by decide) (i := 5) (by decide) (own_cpat _ (by decide)) (g := (mkF m 182 #[.val (.long x0), .second, .val (.int x1), .val (.int x2), .val (.int x3), .val (.int at_), .val (.ref wr), .val (.ref b2)] [(.int (5 : Int32)), (.ref b2)])) rfl rfl (hb hby at_182) t k) ?_
    refine Go.of (T' := T7) (f' := (mkF m 184 #[.val (.long x0), .second, .val (.int x1), .val (.int x2), .val (.int x3), .val (.int at_), .val (.ref wr), .val (.ref b2)] [(.int (5 : Int32)), (.int (List.getD (putL (f0 x0 :: f1 x0 :: f2 x0 :: f3 x0 :: f4 x0 :: f5 x0 :: tl_) na x1) 5 0))])) (fun t k => XS.iconst X7.here hx rfl (hb hby at_183) k) ?_
    refine Go.of (T' := T7) (f' := (mkF m 186 #[.val (.long x0), .second, .val (.int x1), .val (.int x2), .val (.int x3), .val (.int at_), .val (.ref wr), .val (.ref b2)] [(.int at_), (.int (5 : Int32)), (.int (List.getD (putL (f0 x0 :: f1 x0 :: f2 x0 :: f3 x0 :: f4 x0 :: f5 x0 :: tl_) na x1) 5 0))])) (fun t k => XS.iload X7.here hx rfl (hb hby at_184) rfl k) ?_
    refine Go.of (T' := T7) (f' := (mkF m 187 #[.val (.long x0), .second, .val (.int x1), .val (.int x2), .val (.int x3), .val (.int at_), .val (.ref wr), .val (.ref b2)] [(.int x1), (.int at_), (.int (5 : Int32)), (.int (List.getD (putL (f0 x0 :: f1 x0 :: f2 x0 :: f3 x0 :: f4 x0 :: f5 x0 :: tl_) na x1) 5 0))])) (fun t k => XS.iloadN X7.here hx rfl (hb hby at_186) rfl k) ?_
    refine Go.of (T' := T7) (f' := (mkF m 188 #[.val (.long x0), .second, .val (.int x1), .val (.int x2), .val (.int x3), .val (.int at_), .val (.ref wr), .val (.ref b2)] [(.long x0), (.int x1), (.int at_), (.int (5 : Int32)), (.int (List.getD (putL (f0 x0 :: f1 x0 :: f2 x0 :: f3 x0 :: f4 x0 :: f5 x0 :: tl_) na x1) 5 0))])) (fun t k => XS.lloadN X7.here hx rfl (hb hby at_187) rfl k) ?_
    obtain ⟨_, _, ⟨T8, L8, k8, n8⟩, -, X8, ⟨Lc8, hQ8, l8, y8, z8⟩, st8⟩ := Jvm.LawKit.callS X7 hx (y := (⟨"com/example/keelson/keelson/wire/WireWriterPutIntPinLaw", "ok", "(BIIIJ)Z"⟩ : MethodName)) hown (mvT hZ (hw _ (List.mem_of_getElem? (i := 62) rfl))) (mvT hZ (hw _ (List.mem_of_getElem? (i := 63) rfl))) (mvT hZ (hw _ (List.mem_of_getElem? (i := 64) rfl))) (mvT hZ (hw _ (List.mem_of_getElem? (i := 65) rfl))) (by decide) (backOf (W := 0) (rm12 l Z a0 hw [] (List.getD (putL (f0 x0 :: f1 x0 :: f2 x0 :: f3 x0 :: f4 x0 :: f5 x0 :: tl_) na x1) 5 0) (5 : Int32) at_ x1 x0 T2.heap n0 ZS2 ) hZ (hw _ (List.mem_of_getElem? (i := 65) rfl)) (hw _ (List.mem_of_getElem? (i := 64) rfl)) (by decide) (by decide)) (g := (mkF m 188 #[.val (.long x0), .second, .val (.int x1), .val (.int x2), .val (.int x3), .val (.int at_), .val (.ref wr), .val (.ref b2)] [(.long x0), (.int x1), (.int at_), (.int (5 : Int32)), (.int (List.getD (putL (f0 x0 :: f1 x0 :: f2 x0 :: f3 x0 :: f4 x0 :: f5 x0 :: tl_) na x1) 5 0))])) rfl (by rw [hml]; rfl) (argsL := [(.int (List.getD (putL (f0 x0 :: f1 x0 :: f2 x0 :: f3 x0 :: f4 x0 :: f5 x0 :: tl_) na x1) 5 0)), (.int (5 : Int32)), (.int at_), (.int x1), (.long x0)]) (rest := []) (lenOf pd_4 rfl) rfl (by show 2 * 0 + _ ≤ _; exact Nat.le_of_eq rfl) (hb hby at_188) (fun _ _ => ⟨rfl, e7, (by decide : 4 + 0 ≤ _), (by decide : 306 + 0 ≤ _)⟩)
    dsimp only [Pt.U, Pt.locs, Pt.cells, Pt.slots] at X8 l8 y8 z8 st8 hQ8
    subst l8 y8 z8
    obtain ⟨rfl, N8q, e8⟩ := hQ8
    have N8 := Fr.app N7 N8q
    refine Go.of (T' := T8) (f' := (mkF m 191 #[.val (.long x0), .second, .val (.int x1), .val (.int x2), .val (.int x3), .val (.int at_), .val (.ref wr), .val (.ref b2)] [(.int (okV (List.getD (putL (f0 x0 :: f1 x0 :: f2 x0 :: f3 x0 :: f4 x0 :: f5 x0 :: tl_) na x1) 5 0) (5 : Int32) at_ x1 x0))])) (fun t k => st8 t k) ?_
    have hc191 : ¬ ((okV (List.getD (putL (f0 x0 :: f1 x0 :: f2 x0 :: f3 x0 :: f4 x0 :: f5 x0 :: tl_) na x1) 5 0) (5 : Int32) at_ x1 x0) = (0 : Int32)) := hok.2.2.2.2.2
    refine Go.of (T' := T8) (f' := (mkF m 194 #[.val (.long x0), .second, .val (.int x1), .val (.int x2), .val (.int x3), .val (.int at_), .val (.ref wr), .val (.ref b2)] [])) (fun t k => XS.ifNo X8.here hx rfl (hb hby at_191) rfl ((if0 _ _).trans (feq hc191).1) k) ?_
    refine Go.of (T' := T8) (f' := (mkF m 195 #[.val (.long x0), .second, .val (.int x1), .val (.int x2), .val (.int x3), .val (.int at_), .val (.ref wr), .val (.ref b2)] [(.int (1 : Int32))])) (fun t k => XS.iconst X8.here hx rfl (hb hby at_194) k) ?_
    refine Go.of (T' := T8) (f' := (mkF m 199 #[.val (.long x0), .second, .val (.int x1), .val (.int x2), .val (.int x3), .val (.int at_), .val (.ref wr), .val (.ref b2)] [(.int (1 : Int32))])) (fun t k => XS.goto X8.here hx rfl (pc0 := 195) (pc' := 199) rfl (hb hby at_195) (by decide) (by decide) k) ?_
    refine Go.retZ X8 hx hk (t := .boolean) Bd.returns (by simp) (hb hby at_199) (by decide) (by decide) ?_
    rw [e8]
    exact ⟨rfl, N8⟩
  obtain ⟨T9, h9, X9, e9, E9, A9, D9, -, st9⟩ := newO X0 hx hZ hown (hw _ (List.mem_of_getElem? (i := 1) rfl)) (hw _ (List.mem_of_getElem? (i := 2) rfl)) (hw _ (List.mem_of_getElem? (i := 3) rfl)) e0 (g := (mkF m 8 #[.val (.long x0), .second, .val (.int x1), .val (.int x2), .val (.int x3), .val (.int at_), .unset, .unset] [])) rfl (hb hby at_8) (by decide) (by decide)
  obtain ⟨b9, gb9⟩ : ∃ z, z = h0.size := ⟨_, rfl⟩
  rw [← gb9] at A9 D9 st9
  have g_b9 : n0 ≤ b9 := Nat.le_trans Z0 (Nat.le_of_eq gb9.symm)
  have sz_b9 : h0.size ≤ b9 := Nat.le_trans (Keep.refl h0 []).1 (Nat.le_of_eq gb9.symm)
  have ZS9 : n0 ≤ h9.size := Nat.le_trans Z0 E9.1
  have KK9 : Keep h0 h9 [] := (Keep.refl h0 []).ext E9
  have F9_b9_version : Fld Z h9 b9 "com/example/keelson/keelson/wire/WireWriter" "version" "S" (.int (0 : Int32)) := D9 (Or.inr (hw _ (List.mem_of_getElem? (i := 14) rfl))) (ty := .short) (by decide)
  have F9_b9_flexible : Fld Z h9 b9 "com/example/keelson/keelson/wire/WireWriter" "flexible" "Z" (.int (0 : Int32)) := D9 (Or.inr (hw _ (List.mem_of_getElem? (i := 16) rfl))) (ty := .boolean) (by decide)
  have F9_b9_bytes : Fld Z h9 b9 "com/example/keelson/keelson/wire/WireWriter" "bytes" "[B" .null := D9 (Or.inl (hw _ (List.mem_of_getElem? (i := 19) rfl))) (ty := (.array .byte)) (by decide)
  have F9_b9_size : Fld Z h9 b9 "com/example/keelson/keelson/wire/WireWriter" "size" "I" (.int (0 : Int32)) := D9 (Or.inl (hw _ (List.mem_of_getElem? (i := 30) rfl))) (ty := .int) (by decide)
  refine Go.of (T' := T9) (f' := (mkF m 11 #[.val (.long x0), .second, .val (.int x1), .val (.int x2), .val (.int x3), .val (.int at_), .unset, .unset] [(.ref b9)])) (fun t k => st9 t k) ?_
  refine Go.of (T' := T9) (f' := (mkF m 12 #[.val (.long x0), .second, .val (.int x1), .val (.int x2), .val (.int x3), .val (.int at_), .unset, .unset] [(.ref b9), (.ref b9)])) (fun t k => XS.dup X9.here hx rfl (hb hby at_11) rfl rfl k) ?_
  refine Go.of (T' := T9) (f' := (mkF m 14 #[.val (.long x0), .second, .val (.int x1), .val (.int x2), .val (.int x3), .val (.int at_), .unset, .unset] [(.int x3), (.ref b9), (.ref b9)])) (fun t k => XS.iload X9.here hx rfl (hb hby at_12) rfl k) ?_
  refine Go.of (T' := T9) (f' := (mkF m 16 #[.val (.long x0), .second, .val (.int x1), .val (.int x2), .val (.int x3), .val (.int at_), .unset, .unset] [(.int (15 : Int32)), (.int x3), (.ref b9), (.ref b9)])) (fun t k => XS.bipush X9.here hx rfl (hb hby at_14) k) ?_
  refine Go.of (T' := T9) (f' := (mkF m 17 #[.val (.long x0), .second, .val (.int x1), .val (.int x2), .val (.int x3), .val (.int at_), .unset, .unset] [(.int (x3 &&& (15 : Int32))), (.ref b9), (.ref b9)])) (fun t k => XS.iand X9.here hx rfl (hb hby at_16) rfl k) ?_
  obtain ⟨_, _, ⟨T10, L10, k10, n10⟩, -, X10, ⟨Lc10, hQ10, l10, y10, z10⟩, st10⟩ := X9.specialBack hx (y := (⟨"com/example/keelson/keelson/wire/WireWriter", "<init>", "(I)V"⟩ : MethodName)) rfl hown (mvT hZ (hw _ (List.mem_of_getElem? (i := 4) rfl))) (mvT hZ (hw _ (List.mem_of_getElem? (i := 5) rfl))) (mvT hZ (hw _ (List.mem_of_getElem? (i := 6) rfl))) (by decide) (backOf (W := 1) (rm1 l Z a0 hw [] b9 (x3 &&& (15 : Int32)) (.int (0 : Int32)) (.int (0 : Int32)) .null (.int (0 : Int32)) h9 n0 ZS9 A9 g_b9 F9_b9_version F9_b9_flexible F9_b9_bytes F9_b9_size hz0 hz1) hZ (hw _ (List.mem_of_getElem? (i := 6) rfl)) (hw _ (List.mem_of_getElem? (i := 3) rfl)) (by decide) (by decide)) (g := (mkF m 17 #[.val (.long x0), .second, .val (.int x1), .val (.int x2), .val (.int x3), .val (.int at_), .unset, .unset] [(.int (x3 &&& (15 : Int32))), (.ref b9), (.ref b9)])) rfl (by rw [hml]; rfl) (Steps.refl _) (a := b9) (argsL := [(.int (x3 &&& (15 : Int32)))]) (rest := [(.ref b9)]) (lenOf pd_1 rfl) rfl (by show 2 * 0 + _ ≤ _; exact Nat.le_of_eq rfl) (hb hby at_17) (fun _ _ => ⟨rfl, e9, (by decide : 1 + 1 ≤ _), (by decide : 4 + 15 ≤ _)⟩)
  dsimp only [Pt.U, Pt.locs, Pt.cells, Pt.slots] at X10 l10 y10 z10 st10 hQ10
  subst l10 y10 z10
  obtain ⟨b10, rfl, N10q, K10, sb10, g_b10, Fb10, Fs10, Ex10, Vb10⟩ := hQ10
  have N10 := Fr.app N0 N10q
  have ne_b9_b10 : b9 ≠ b10 := Nat.ne_of_lt (Nat.lt_of_lt_of_le F9_b9_version.lt sb10)
  have sz_b10 : h0.size ≤ b10 := Nat.le_trans KK9.1 sb10
  have Ex10_b9 : Exa Z T10.heap b9 "com/example/keelson/keelson/wire/WireWriter" := A9.keep K10
  have ZS10 : n0 ≤ T10.heap.size := Nat.le_trans ZS9 K10.1
  have KK10 : Keep h0 T10.heap [] := KK9.trans K10 (allS (Or.inr sz_b9) all0)
  refine Go.tr (T' := T10) (f' := (mkF m 20 #[.val (.long x0), .second, .val (.int x1), .val (.int x2), .val (.int x3), .val (.int at_), .unset, .unset] [(.ref b9)])) st10 ?_
  rcases own_cp x3 with hn | hn | hn | hn | hn | hn | hn
  · -- capacity 0
    rw [hn, show (0 : Int32).toNatClampNeg = 0 from by decide] at Vb10
    have VV : VArr Z T10.heap b10 .byte (([] : List Int32).map Value.int) := Vb10
    refine Go.of (T' := T10) (f' := (mkF m 22 #[.val (.long x0), .second, .val (.int x1), .val (.int x2), .val (.int x3), .val (.int at_), .val (.ref b9), .unset] [])) (fun t k => XS.astore X10.here hx rfl (hb hby at_20) rfl rfl (l' := #[.val (.long x0), .second, .val (.int x1), .val (.int x2), .val (.int x3), .val (.int at_), .val (.ref b9), .unset]) rfl k) ?_
    refine Go.of (T' := T10) (f' := (mkF m 24 #[.val (.long x0), .second, .val (.int x1), .val (.int x2), .val (.int x3), .val (.int at_), .val (.ref b9), .unset] [(.ref b9)])) (fun t k => XS.aload X10.here hx rfl (hb hby at_22) rfl rfl k) ?_
    refine Go.of (T' := T10) (f' := (mkF m 25 #[.val (.long x0), .second, .val (.int x1), .val (.int x2), .val (.int x3), .val (.int at_), .val (.ref b9), .unset] [(.long x0), (.ref b9)])) (fun t k => XS.lloadN X10.here hx rfl (hb hby at_24) rfl k) ?_
    refine Go.of (T' := T10) (f' := (mkF m 26 #[.val (.long x0), .second, .val (.int x1), .val (.int x2), .val (.int x3), .val (.int at_), .val (.ref b9), .unset] [(.int (x0.toInt32)), (.ref b9)])) (fun t k => XS.l2i X10.here hx rfl (hb hby at_25) rfl k) ?_
    have TY11 : TyB ([] : List Int32) := own_ty0
    obtain ⟨cq11, kq11, q11a, q11b, q11c⟩ := isOf hZ rfl Ex10_b9
    obtain ⟨_, _, ⟨T11, L11, k11, n11⟩, -, X11, ⟨Lc11, hQ11, l11, y11, z11⟩, st11⟩ := X10.virtualBack hx (y := (⟨"com/example/keelson/keelson/wire/WireWriter", "int8", "(I)V"⟩ : MethodName)) (z := (⟨"com/example/keelson/keelson/wire/WireWriter", "int8", "(I)V"⟩ : MethodName)) hown (mvT hZ (hw _ (List.mem_of_getElem? (i := 20) rfl))) (mvT hZ (hw _ (List.mem_of_getElem? (i := 21) rfl))) (notFace_of_selects (args := #[]) (mvT hZ (hw _ (List.mem_of_getElem? (i := 23) rfl)))) (mvT hZ (hw _ (List.mem_of_getElem? (i := 23) rfl))) (mvT hZ (hw _ (List.mem_of_getElem? (i := 22) rfl))) (by decide) (backOf (W := 0) (rm4_b l Z a0 hw [] b9 (x0.toInt32) (0 : Int32) b10 [] 257 0 T10.heap n0 ZS10 Ex10_b9 Fs10 Fb10 VV Ex10 g_b9 ne_b9_b10 TY11 (by first | (simp only [List.length_cons, List.length_nil]; omega) | simp) (own_g ⟨0, by decide⟩).1 (own_g ⟨0, by decide⟩).2 (by decide) (by decide) (by decide) (by decide)) hZ (hw _ (List.mem_of_getElem? (i := 24) rfl)) (hw _ (List.mem_of_getElem? (i := 3) rfl)) (by decide) (by decide)) q11a q11c (g := (mkF m 26 #[.val (.long x0), .second, .val (.int x1), .val (.int x2), .val (.int x3), .val (.int at_), .val (.ref b9), .unset] [(.int (x0.toInt32)), (.ref b9)])) rfl (by rw [hml]; rfl) (Steps.refl _) (argsL := [(.int (x0.toInt32))]) (rest := []) (lenOf pd_1 rfl) rfl (by show 2 * 0 + _ ≤ _; exact Nat.le_of_eq rfl) (hb hby at_26) (fun _ _ => ⟨rfl, rfl, (by decide : 2 + 1 ≤ _), (by decide : 19 + 262 ≤ _)⟩)
    dsimp only [Pt.U, Pt.locs, Pt.cells, Pt.slots] at X11 l11 y11 z11 st11 hQ11
    subst l11 y11 z11
    obtain ⟨b11, rfl, N11q, K11, sb11, g_b11, Fb11, Fz11, Exz11, Vz11⟩ := hQ11
    have N11 := Fr.app N10 N11q
    have ne_b9_b11 : b9 ≠ b11 := Nat.ne_of_lt (Nat.lt_of_lt_of_le Fb10.lt sb11)
    have ne_b10_b11 : b10 ≠ b11 := Nat.ne_of_lt (Nat.lt_of_lt_of_le Ex10.lt sb11)
    have sz_b11 : h0.size ≤ b11 := Nat.le_trans KK10.1 sb11
    have Ex11_b9 : Exa Z T11.heap b9 "com/example/keelson/keelson/wire/WireWriter" := Ex10_b9.keep K11
    have Ex11_b10 : Exa Z T11.heap b10 "[B" := Ex10.keep K11
    have V11_b10 : VArr Z T11.heap b10 .byte (([] : List Int32).map Value.int) := VV.keep K11 (ninS (Ne.symm ne_b9_b10) nin0)
    obtain ⟨tl_, htl, htT, hcp⟩ := own_cpy6 [] TY11 257 251 (by decide) (by decide)
    rw [hcp] at Vz11
    have Fs11 : Fld Z T11.heap b9 "com/example/keelson/keelson/wire/WireWriter" "size" "I" (.int (1 : Int32)) := Fz11
    have V11 : VArr Z T11.heap b11 .byte (((f0 x0) :: (0 : Int32) :: (0 : Int32) :: (0 : Int32) :: (0 : Int32) :: (0 : Int32) :: tl_).map Value.int) := Vz11
    have ZS11 : n0 ≤ T11.heap.size := Nat.le_trans ZS10 K11.1
    have KK11 : Keep h0 T11.heap [] := KK10.trans K11 (allS (Or.inr sz_b9) all0)
    refine Go.tr (T' := T11) (f' := (mkF m 29 #[.val (.long x0), .second, .val (.int x1), .val (.int x2), .val (.int x3), .val (.int at_), .val (.ref b9), .unset] [])) st11 ?_
    refine Go.of (T' := T11) (f' := (mkF m 31 #[.val (.long x0), .second, .val (.int x1), .val (.int x2), .val (.int x3), .val (.int at_), .val (.ref b9), .unset] [(.ref b9)])) (fun t k => XS.aload X11.here hx rfl (hb hby at_29) rfl rfl k) ?_
    refine Go.of (T' := T11) (f' := (mkF m 32 #[.val (.long x0), .second, .val (.int x1), .val (.int x2), .val (.int x3), .val (.int at_), .val (.ref b9), .unset] [(.long x0), (.ref b9)])) (fun t k => XS.lloadN X11.here hx rfl (hb hby at_31) rfl k) ?_
    refine Go.of (T' := T11) (f' := (mkF m 34 #[.val (.long x0), .second, .val (.int x1), .val (.int x2), .val (.int x3), .val (.int at_), .val (.ref b9), .unset] [(.int (8 : Int32)), (.long x0), (.ref b9)])) (fun t k => XS.bipush X11.here hx rfl (hb hby at_32) k) ?_
    refine Go.of (T' := T11) (f' := (mkF m 35 #[.val (.long x0), .second, .val (.int x1), .val (.int x2), .val (.int x3), .val (.int at_), .val (.ref b9), .unset] [(.long (x0 >>> ((8 : Int32) &&& 0x3f).toInt64)), (.ref b9)])) (fun t k => XS.lshr X11.here hx rfl (hb hby at_34) rfl k) ?_
    refine Go.of (T' := T11) (f' := (mkF m 36 #[.val (.long x0), .second, .val (.int x1), .val (.int x2), .val (.int x3), .val (.int at_), .val (.ref b9), .unset] [(.int ((x0 >>> ((8 : Int32) &&& 0x3f).toInt64).toInt32)), (.ref b9)])) (fun t k => XS.l2i X11.here hx rfl (hb hby at_35) rfl k) ?_
    obtain ⟨cq12, kq12, q12a, q12b, q12c⟩ := isOf hZ rfl Ex11_b9
    obtain ⟨_, _, ⟨T12, L12, k12, n12⟩, -, X12, ⟨Lc12, hQ12, l12, y12, z12⟩, st12⟩ := X11.virtualBack hx (y := (⟨"com/example/keelson/keelson/wire/WireWriter", "int8", "(I)V"⟩ : MethodName)) (z := (⟨"com/example/keelson/keelson/wire/WireWriter", "int8", "(I)V"⟩ : MethodName)) hown (mvT hZ (hw _ (List.mem_of_getElem? (i := 20) rfl))) (mvT hZ (hw _ (List.mem_of_getElem? (i := 21) rfl))) (notFace_of_selects (args := #[]) (mvT hZ (hw _ (List.mem_of_getElem? (i := 23) rfl)))) (mvT hZ (hw _ (List.mem_of_getElem? (i := 23) rfl))) (mvT hZ (hw _ (List.mem_of_getElem? (i := 22) rfl))) (by decide) (backOf (W := 0) (rm4_a l Z a0 hw [] b9 ((x0 >>> ((8 : Int32) &&& 0x3f).toInt64).toInt32) (1 : Int32) b11 ((f0 x0) :: (0 : Int32) :: (0 : Int32) :: (0 : Int32) :: (0 : Int32) :: (0 : Int32) :: tl_) 1 T11.heap n0 ZS11 Ex11_b9 Fs11 Fb11 V11 g_b9 g_b11 ne_b9_b11 (by decide) (by decide) (by first | (simp only [List.length_cons, List.length_nil]; omega) | simp) (by first | (simp only [List.length_cons, List.length_nil]; omega) | simp)) hZ (hw _ (List.mem_of_getElem? (i := 24) rfl)) (hw _ (List.mem_of_getElem? (i := 3) rfl)) (by decide) (by decide)) q12a q12c (g := (mkF m 36 #[.val (.long x0), .second, .val (.int x1), .val (.int x2), .val (.int x3), .val (.int at_), .val (.ref b9), .unset] [(.int ((x0 >>> ((8 : Int32) &&& 0x3f).toInt64).toInt32)), (.ref b9)])) rfl (by rw [hml]; rfl) (Steps.refl _) (argsL := [(.int ((x0 >>> ((8 : Int32) &&& 0x3f).toInt64).toInt32))]) (rest := []) (lenOf pd_1 rfl) rfl (by show 2 * 0 + _ ≤ _; exact Nat.le_of_eq rfl) (hb hby at_36) (fun _ _ => ⟨rfl, rfl, (by decide : 3 + 0 ≤ _), (by decide : 281 + 0 ≤ _)⟩)
    dsimp only [Pt.U, Pt.locs, Pt.cells, Pt.slots] at X12 l12 y12 z12 st12 hQ12
    subst l12 y12 z12
    obtain ⟨rfl, N12q, K12, Fb12, Fz12, Vz12⟩ := hQ12
    have N12 := Fr.app N11 N12q
    have Ex12_b9 : Exa Z T12.heap b9 "com/example/keelson/keelson/wire/WireWriter" := Ex11_b9.keep K12
    have Ex12_b11 : Exa Z T12.heap b11 "[B" := Exz11.keep K12
    have Fs12 : Fld Z T12.heap b9 "com/example/keelson/keelson/wire/WireWriter" "size" "I" (.int (2 : Int32)) := Fz12
    have V12 : VArr Z T12.heap b11 .byte (((f0 x0) :: (f1 x0) :: (0 : Int32) :: (0 : Int32) :: (0 : Int32) :: (0 : Int32) :: tl_).map Value.int) := Vz12
    have ZS12 : n0 ≤ T12.heap.size := Nat.le_trans ZS11 K12.1
    have KK12 : Keep h0 T12.heap [] := KK11.trans K12 (allS (Or.inr sz_b9) (allS (Or.inr sz_b11) all0))
    refine Go.tr (T' := T12) (f' := (mkF m 39 #[.val (.long x0), .second, .val (.int x1), .val (.int x2), .val (.int x3), .val (.int at_), .val (.ref b9), .unset] [])) st12 ?_
    refine Go.of (T' := T12) (f' := (mkF m 41 #[.val (.long x0), .second, .val (.int x1), .val (.int x2), .val (.int x3), .val (.int at_), .val (.ref b9), .unset] [(.ref b9)])) (fun t k => XS.aload X12.here hx rfl (hb hby at_39) rfl rfl k) ?_
    refine Go.of (T' := T12) (f' := (mkF m 42 #[.val (.long x0), .second, .val (.int x1), .val (.int x2), .val (.int x3), .val (.int at_), .val (.ref b9), .unset] [(.long x0), (.ref b9)])) (fun t k => XS.lloadN X12.here hx rfl (hb hby at_41) rfl k) ?_
    refine Go.of (T' := T12) (f' := (mkF m 44 #[.val (.long x0), .second, .val (.int x1), .val (.int x2), .val (.int x3), .val (.int at_), .val (.ref b9), .unset] [(.int (16 : Int32)), (.long x0), (.ref b9)])) (fun t k => XS.bipush X12.here hx rfl (hb hby at_42) k) ?_
    refine Go.of (T' := T12) (f' := (mkF m 45 #[.val (.long x0), .second, .val (.int x1), .val (.int x2), .val (.int x3), .val (.int at_), .val (.ref b9), .unset] [(.long (x0 >>> ((16 : Int32) &&& 0x3f).toInt64)), (.ref b9)])) (fun t k => XS.lshr X12.here hx rfl (hb hby at_44) rfl k) ?_
    refine Go.of (T' := T12) (f' := (mkF m 46 #[.val (.long x0), .second, .val (.int x1), .val (.int x2), .val (.int x3), .val (.int at_), .val (.ref b9), .unset] [(.int ((x0 >>> ((16 : Int32) &&& 0x3f).toInt64).toInt32)), (.ref b9)])) (fun t k => XS.l2i X12.here hx rfl (hb hby at_45) rfl k) ?_
    obtain ⟨cq13, kq13, q13a, q13b, q13c⟩ := isOf hZ rfl Ex12_b9
    obtain ⟨_, _, ⟨T13, L13, k13, n13⟩, -, X13, ⟨Lc13, hQ13, l13, y13, z13⟩, st13⟩ := X12.virtualBack hx (y := (⟨"com/example/keelson/keelson/wire/WireWriter", "int8", "(I)V"⟩ : MethodName)) (z := (⟨"com/example/keelson/keelson/wire/WireWriter", "int8", "(I)V"⟩ : MethodName)) hown (mvT hZ (hw _ (List.mem_of_getElem? (i := 20) rfl))) (mvT hZ (hw _ (List.mem_of_getElem? (i := 21) rfl))) (notFace_of_selects (args := #[]) (mvT hZ (hw _ (List.mem_of_getElem? (i := 23) rfl)))) (mvT hZ (hw _ (List.mem_of_getElem? (i := 23) rfl))) (mvT hZ (hw _ (List.mem_of_getElem? (i := 22) rfl))) (by decide) (backOf (W := 0) (rm4_a l Z a0 hw [] b9 ((x0 >>> ((16 : Int32) &&& 0x3f).toInt64).toInt32) (2 : Int32) b11 ((f0 x0) :: (f1 x0) :: (0 : Int32) :: (0 : Int32) :: (0 : Int32) :: (0 : Int32) :: tl_) 2 T12.heap n0 ZS12 Ex12_b9 Fs12 Fb12 V12 g_b9 g_b11 ne_b9_b11 (by decide) (by decide) (by first | (simp only [List.length_cons, List.length_nil]; omega) | simp) (by first | (simp only [List.length_cons, List.length_nil]; omega) | simp)) hZ (hw _ (List.mem_of_getElem? (i := 24) rfl)) (hw _ (List.mem_of_getElem? (i := 3) rfl)) (by decide) (by decide)) q13a q13c (g := (mkF m 46 #[.val (.long x0), .second, .val (.int x1), .val (.int x2), .val (.int x3), .val (.int at_), .val (.ref b9), .unset] [(.int ((x0 >>> ((16 : Int32) &&& 0x3f).toInt64).toInt32)), (.ref b9)])) rfl (by rw [hml]; rfl) (Steps.refl _) (argsL := [(.int ((x0 >>> ((16 : Int32) &&& 0x3f).toInt64).toInt32))]) (rest := []) (lenOf pd_1 rfl) rfl (by show 2 * 0 + _ ≤ _; exact Nat.le_of_eq rfl) (hb hby at_46) (fun _ _ => ⟨rfl, rfl, (by decide : 3 + 0 ≤ _), (by decide : 281 + 0 ≤ _)⟩)
    dsimp only [Pt.U, Pt.locs, Pt.cells, Pt.slots] at X13 l13 y13 z13 st13 hQ13
    subst l13 y13 z13
    obtain ⟨rfl, N13q, K13, Fb13, Fz13, Vz13⟩ := hQ13
    have N13 := Fr.app N12 N13q
    have Ex13_b9 : Exa Z T13.heap b9 "com/example/keelson/keelson/wire/WireWriter" := Ex12_b9.keep K13
    have Ex13_b11 : Exa Z T13.heap b11 "[B" := Ex12_b11.keep K13
    have Fs13 : Fld Z T13.heap b9 "com/example/keelson/keelson/wire/WireWriter" "size" "I" (.int (3 : Int32)) := Fz13
    have V13 : VArr Z T13.heap b11 .byte (((f0 x0) :: (f1 x0) :: (f2 x0) :: (0 : Int32) :: (0 : Int32) :: (0 : Int32) :: tl_).map Value.int) := Vz13
    have ZS13 : n0 ≤ T13.heap.size := Nat.le_trans ZS12 K13.1
    have KK13 : Keep h0 T13.heap [] := KK12.trans K13 (allS (Or.inr sz_b9) (allS (Or.inr sz_b11) all0))
    refine Go.tr (T' := T13) (f' := (mkF m 49 #[.val (.long x0), .second, .val (.int x1), .val (.int x2), .val (.int x3), .val (.int at_), .val (.ref b9), .unset] [])) st13 ?_
    refine Go.of (T' := T13) (f' := (mkF m 51 #[.val (.long x0), .second, .val (.int x1), .val (.int x2), .val (.int x3), .val (.int at_), .val (.ref b9), .unset] [(.ref b9)])) (fun t k => XS.aload X13.here hx rfl (hb hby at_49) rfl rfl k) ?_
    refine Go.of (T' := T13) (f' := (mkF m 52 #[.val (.long x0), .second, .val (.int x1), .val (.int x2), .val (.int x3), .val (.int at_), .val (.ref b9), .unset] [(.long x0), (.ref b9)])) (fun t k => XS.lloadN X13.here hx rfl (hb hby at_51) rfl k) ?_
    refine Go.of (T' := T13) (f' := (mkF m 54 #[.val (.long x0), .second, .val (.int x1), .val (.int x2), .val (.int x3), .val (.int at_), .val (.ref b9), .unset] [(.int (24 : Int32)), (.long x0), (.ref b9)])) (fun t k => XS.bipush X13.here hx rfl (hb hby at_52) k) ?_
    refine Go.of (T' := T13) (f' := (mkF m 55 #[.val (.long x0), .second, .val (.int x1), .val (.int x2), .val (.int x3), .val (.int at_), .val (.ref b9), .unset] [(.long (x0 >>> ((24 : Int32) &&& 0x3f).toInt64)), (.ref b9)])) (fun t k => XS.lshr X13.here hx rfl (hb hby at_54) rfl k) ?_
    refine Go.of (T' := T13) (f' := (mkF m 56 #[.val (.long x0), .second, .val (.int x1), .val (.int x2), .val (.int x3), .val (.int at_), .val (.ref b9), .unset] [(.int ((x0 >>> ((24 : Int32) &&& 0x3f).toInt64).toInt32)), (.ref b9)])) (fun t k => XS.l2i X13.here hx rfl (hb hby at_55) rfl k) ?_
    obtain ⟨cq14, kq14, q14a, q14b, q14c⟩ := isOf hZ rfl Ex13_b9
    obtain ⟨_, _, ⟨T14, L14, k14, n14⟩, -, X14, ⟨Lc14, hQ14, l14, y14, z14⟩, st14⟩ := X13.virtualBack hx (y := (⟨"com/example/keelson/keelson/wire/WireWriter", "int8", "(I)V"⟩ : MethodName)) (z := (⟨"com/example/keelson/keelson/wire/WireWriter", "int8", "(I)V"⟩ : MethodName)) hown (mvT hZ (hw _ (List.mem_of_getElem? (i := 20) rfl))) (mvT hZ (hw _ (List.mem_of_getElem? (i := 21) rfl))) (notFace_of_selects (args := #[]) (mvT hZ (hw _ (List.mem_of_getElem? (i := 23) rfl)))) (mvT hZ (hw _ (List.mem_of_getElem? (i := 23) rfl))) (mvT hZ (hw _ (List.mem_of_getElem? (i := 22) rfl))) (by decide) (backOf (W := 0) (rm4_a l Z a0 hw [] b9 ((x0 >>> ((24 : Int32) &&& 0x3f).toInt64).toInt32) (3 : Int32) b11 ((f0 x0) :: (f1 x0) :: (f2 x0) :: (0 : Int32) :: (0 : Int32) :: (0 : Int32) :: tl_) 3 T13.heap n0 ZS13 Ex13_b9 Fs13 Fb13 V13 g_b9 g_b11 ne_b9_b11 (by decide) (by decide) (by first | (simp only [List.length_cons, List.length_nil]; omega) | simp) (by first | (simp only [List.length_cons, List.length_nil]; omega) | simp)) hZ (hw _ (List.mem_of_getElem? (i := 24) rfl)) (hw _ (List.mem_of_getElem? (i := 3) rfl)) (by decide) (by decide)) q14a q14c (g := (mkF m 56 #[.val (.long x0), .second, .val (.int x1), .val (.int x2), .val (.int x3), .val (.int at_), .val (.ref b9), .unset] [(.int ((x0 >>> ((24 : Int32) &&& 0x3f).toInt64).toInt32)), (.ref b9)])) rfl (by rw [hml]; rfl) (Steps.refl _) (argsL := [(.int ((x0 >>> ((24 : Int32) &&& 0x3f).toInt64).toInt32))]) (rest := []) (lenOf pd_1 rfl) rfl (by show 2 * 0 + _ ≤ _; exact Nat.le_of_eq rfl) (hb hby at_56) (fun _ _ => ⟨rfl, rfl, (by decide : 3 + 0 ≤ _), (by decide : 281 + 0 ≤ _)⟩)
    dsimp only [Pt.U, Pt.locs, Pt.cells, Pt.slots] at X14 l14 y14 z14 st14 hQ14
    subst l14 y14 z14
    obtain ⟨rfl, N14q, K14, Fb14, Fz14, Vz14⟩ := hQ14
    have N14 := Fr.app N13 N14q
    have Ex14_b9 : Exa Z T14.heap b9 "com/example/keelson/keelson/wire/WireWriter" := Ex13_b9.keep K14
    have Ex14_b11 : Exa Z T14.heap b11 "[B" := Ex13_b11.keep K14
    have Fs14 : Fld Z T14.heap b9 "com/example/keelson/keelson/wire/WireWriter" "size" "I" (.int (4 : Int32)) := Fz14
    have V14 : VArr Z T14.heap b11 .byte (((f0 x0) :: (f1 x0) :: (f2 x0) :: (f3 x0) :: (0 : Int32) :: (0 : Int32) :: tl_).map Value.int) := Vz14
    have ZS14 : n0 ≤ T14.heap.size := Nat.le_trans ZS13 K14.1
    have KK14 : Keep h0 T14.heap [] := KK13.trans K14 (allS (Or.inr sz_b9) (allS (Or.inr sz_b11) all0))
    refine Go.tr (T' := T14) (f' := (mkF m 59 #[.val (.long x0), .second, .val (.int x1), .val (.int x2), .val (.int x3), .val (.int at_), .val (.ref b9), .unset] [])) st14 ?_
    refine Go.of (T' := T14) (f' := (mkF m 61 #[.val (.long x0), .second, .val (.int x1), .val (.int x2), .val (.int x3), .val (.int at_), .val (.ref b9), .unset] [(.ref b9)])) (fun t k => XS.aload X14.here hx rfl (hb hby at_59) rfl rfl k) ?_
    refine Go.of (T' := T14) (f' := (mkF m 62 #[.val (.long x0), .second, .val (.int x1), .val (.int x2), .val (.int x3), .val (.int at_), .val (.ref b9), .unset] [(.long x0), (.ref b9)])) (fun t k => XS.lloadN X14.here hx rfl (hb hby at_61) rfl k) ?_
    refine Go.of (T' := T14) (f' := (mkF m 64 #[.val (.long x0), .second, .val (.int x1), .val (.int x2), .val (.int x3), .val (.int at_), .val (.ref b9), .unset] [(.int (32 : Int32)), (.long x0), (.ref b9)])) (fun t k => XS.bipush X14.here hx rfl (hb hby at_62) k) ?_
    refine Go.of (T' := T14) (f' := (mkF m 65 #[.val (.long x0), .second, .val (.int x1), .val (.int x2), .val (.int x3), .val (.int at_), .val (.ref b9), .unset] [(.long (x0 >>> ((32 : Int32) &&& 0x3f).toInt64)), (.ref b9)])) (fun t k => XS.lshr X14.here hx rfl (hb hby at_64) rfl k) ?_
    refine Go.of (T' := T14) (f' := (mkF m 66 #[.val (.long x0), .second, .val (.int x1), .val (.int x2), .val (.int x3), .val (.int at_), .val (.ref b9), .unset] [(.int ((x0 >>> ((32 : Int32) &&& 0x3f).toInt64).toInt32)), (.ref b9)])) (fun t k => XS.l2i X14.here hx rfl (hb hby at_65) rfl k) ?_
    obtain ⟨cq15, kq15, q15a, q15b, q15c⟩ := isOf hZ rfl Ex14_b9
    obtain ⟨_, _, ⟨T15, L15, k15, n15⟩, -, X15, ⟨Lc15, hQ15, l15, y15, z15⟩, st15⟩ := X14.virtualBack hx (y := (⟨"com/example/keelson/keelson/wire/WireWriter", "int8", "(I)V"⟩ : MethodName)) (z := (⟨"com/example/keelson/keelson/wire/WireWriter", "int8", "(I)V"⟩ : MethodName)) hown (mvT hZ (hw _ (List.mem_of_getElem? (i := 20) rfl))) (mvT hZ (hw _ (List.mem_of_getElem? (i := 21) rfl))) (notFace_of_selects (args := #[]) (mvT hZ (hw _ (List.mem_of_getElem? (i := 23) rfl)))) (mvT hZ (hw _ (List.mem_of_getElem? (i := 23) rfl))) (mvT hZ (hw _ (List.mem_of_getElem? (i := 22) rfl))) (by decide) (backOf (W := 0) (rm4_a l Z a0 hw [] b9 ((x0 >>> ((32 : Int32) &&& 0x3f).toInt64).toInt32) (4 : Int32) b11 ((f0 x0) :: (f1 x0) :: (f2 x0) :: (f3 x0) :: (0 : Int32) :: (0 : Int32) :: tl_) 4 T14.heap n0 ZS14 Ex14_b9 Fs14 Fb14 V14 g_b9 g_b11 ne_b9_b11 (by decide) (by decide) (by first | (simp only [List.length_cons, List.length_nil]; omega) | simp) (by first | (simp only [List.length_cons, List.length_nil]; omega) | simp)) hZ (hw _ (List.mem_of_getElem? (i := 24) rfl)) (hw _ (List.mem_of_getElem? (i := 3) rfl)) (by decide) (by decide)) q15a q15c (g := (mkF m 66 #[.val (.long x0), .second, .val (.int x1), .val (.int x2), .val (.int x3), .val (.int at_), .val (.ref b9), .unset] [(.int ((x0 >>> ((32 : Int32) &&& 0x3f).toInt64).toInt32)), (.ref b9)])) rfl (by rw [hml]; rfl) (Steps.refl _) (argsL := [(.int ((x0 >>> ((32 : Int32) &&& 0x3f).toInt64).toInt32))]) (rest := []) (lenOf pd_1 rfl) rfl (by show 2 * 0 + _ ≤ _; exact Nat.le_of_eq rfl) (hb hby at_66) (fun _ _ => ⟨rfl, rfl, (by decide : 3 + 0 ≤ _), (by decide : 281 + 0 ≤ _)⟩)
    dsimp only [Pt.U, Pt.locs, Pt.cells, Pt.slots] at X15 l15 y15 z15 st15 hQ15
    subst l15 y15 z15
    obtain ⟨rfl, N15q, K15, Fb15, Fz15, Vz15⟩ := hQ15
    have N15 := Fr.app N14 N15q
    have Ex15_b9 : Exa Z T15.heap b9 "com/example/keelson/keelson/wire/WireWriter" := Ex14_b9.keep K15
    have Ex15_b11 : Exa Z T15.heap b11 "[B" := Ex14_b11.keep K15
    have Fs15 : Fld Z T15.heap b9 "com/example/keelson/keelson/wire/WireWriter" "size" "I" (.int (5 : Int32)) := Fz15
    have V15 : VArr Z T15.heap b11 .byte (((f0 x0) :: (f1 x0) :: (f2 x0) :: (f3 x0) :: (f4 x0) :: (0 : Int32) :: tl_).map Value.int) := Vz15
    have ZS15 : n0 ≤ T15.heap.size := Nat.le_trans ZS14 K15.1
    have KK15 : Keep h0 T15.heap [] := KK14.trans K15 (allS (Or.inr sz_b9) (allS (Or.inr sz_b11) all0))
    refine Go.tr (T' := T15) (f' := (mkF m 69 #[.val (.long x0), .second, .val (.int x1), .val (.int x2), .val (.int x3), .val (.int at_), .val (.ref b9), .unset] [])) st15 ?_
    refine Go.of (T' := T15) (f' := (mkF m 71 #[.val (.long x0), .second, .val (.int x1), .val (.int x2), .val (.int x3), .val (.int at_), .val (.ref b9), .unset] [(.ref b9)])) (fun t k => XS.aload X15.here hx rfl (hb hby at_69) rfl rfl k) ?_
    refine Go.of (T' := T15) (f' := (mkF m 72 #[.val (.long x0), .second, .val (.int x1), .val (.int x2), .val (.int x3), .val (.int at_), .val (.ref b9), .unset] [(.long x0), (.ref b9)])) (fun t k => XS.lloadN X15.here hx rfl (hb hby at_71) rfl k) ?_
    refine Go.of (T' := T15) (f' := (mkF m 74 #[.val (.long x0), .second, .val (.int x1), .val (.int x2), .val (.int x3), .val (.int at_), .val (.ref b9), .unset] [(.int (40 : Int32)), (.long x0), (.ref b9)])) (fun t k => XS.bipush X15.here hx rfl (hb hby at_72) k) ?_
    refine Go.of (T' := T15) (f' := (mkF m 75 #[.val (.long x0), .second, .val (.int x1), .val (.int x2), .val (.int x3), .val (.int at_), .val (.ref b9), .unset] [(.long (x0 >>> ((40 : Int32) &&& 0x3f).toInt64)), (.ref b9)])) (fun t k => XS.lshr X15.here hx rfl (hb hby at_74) rfl k) ?_
    refine Go.of (T' := T15) (f' := (mkF m 76 #[.val (.long x0), .second, .val (.int x1), .val (.int x2), .val (.int x3), .val (.int at_), .val (.ref b9), .unset] [(.int ((x0 >>> ((40 : Int32) &&& 0x3f).toInt64).toInt32)), (.ref b9)])) (fun t k => XS.l2i X15.here hx rfl (hb hby at_75) rfl k) ?_
    obtain ⟨cq16, kq16, q16a, q16b, q16c⟩ := isOf hZ rfl Ex15_b9
    obtain ⟨_, _, ⟨T16, L16, k16, n16⟩, -, X16, ⟨Lc16, hQ16, l16, y16, z16⟩, st16⟩ := X15.virtualBack hx (y := (⟨"com/example/keelson/keelson/wire/WireWriter", "int8", "(I)V"⟩ : MethodName)) (z := (⟨"com/example/keelson/keelson/wire/WireWriter", "int8", "(I)V"⟩ : MethodName)) hown (mvT hZ (hw _ (List.mem_of_getElem? (i := 20) rfl))) (mvT hZ (hw _ (List.mem_of_getElem? (i := 21) rfl))) (notFace_of_selects (args := #[]) (mvT hZ (hw _ (List.mem_of_getElem? (i := 23) rfl)))) (mvT hZ (hw _ (List.mem_of_getElem? (i := 23) rfl))) (mvT hZ (hw _ (List.mem_of_getElem? (i := 22) rfl))) (by decide) (backOf (W := 0) (rm4_a l Z a0 hw [] b9 ((x0 >>> ((40 : Int32) &&& 0x3f).toInt64).toInt32) (5 : Int32) b11 ((f0 x0) :: (f1 x0) :: (f2 x0) :: (f3 x0) :: (f4 x0) :: (0 : Int32) :: tl_) 5 T15.heap n0 ZS15 Ex15_b9 Fs15 Fb15 V15 g_b9 g_b11 ne_b9_b11 (by decide) (by decide) (by first | (simp only [List.length_cons, List.length_nil]; omega) | simp) (by first | (simp only [List.length_cons, List.length_nil]; omega) | simp)) hZ (hw _ (List.mem_of_getElem? (i := 24) rfl)) (hw _ (List.mem_of_getElem? (i := 3) rfl)) (by decide) (by decide)) q16a q16c (g := (mkF m 76 #[.val (.long x0), .second, .val (.int x1), .val (.int x2), .val (.int x3), .val (.int at_), .val (.ref b9), .unset] [(.int ((x0 >>> ((40 : Int32) &&& 0x3f).toInt64).toInt32)), (.ref b9)])) rfl (by rw [hml]; rfl) (Steps.refl _) (argsL := [(.int ((x0 >>> ((40 : Int32) &&& 0x3f).toInt64).toInt32))]) (rest := []) (lenOf pd_1 rfl) rfl (by show 2 * 0 + _ ≤ _; exact Nat.le_of_eq rfl) (hb hby at_76) (fun _ _ => ⟨rfl, rfl, (by decide : 3 + 0 ≤ _), (by decide : 281 + 0 ≤ _)⟩)
    dsimp only [Pt.U, Pt.locs, Pt.cells, Pt.slots] at X16 l16 y16 z16 st16 hQ16
    subst l16 y16 z16
    obtain ⟨rfl, N16q, K16, Fb16, Fz16, Vz16⟩ := hQ16
    have N16 := Fr.app N15 N16q
    have Ex16_b9 : Exa Z T16.heap b9 "com/example/keelson/keelson/wire/WireWriter" := Ex15_b9.keep K16
    have Ex16_b11 : Exa Z T16.heap b11 "[B" := Ex15_b11.keep K16
    have Fs16 : Fld Z T16.heap b9 "com/example/keelson/keelson/wire/WireWriter" "size" "I" (.int (6 : Int32)) := Fz16
    have V16 : VArr Z T16.heap b11 .byte (((f0 x0) :: (f1 x0) :: (f2 x0) :: (f3 x0) :: (f4 x0) :: (f5 x0) :: tl_).map Value.int) := Vz16
    have ZS16 : n0 ≤ T16.heap.size := Nat.le_trans ZS15 K16.1
    have KK16 : Keep h0 T16.heap [] := KK15.trans K16 (allS (Or.inr sz_b9) (allS (Or.inr sz_b11) all0))
    refine Go.tr (T' := T16) (f' := (mkF m 79 #[.val (.long x0), .second, .val (.int x1), .val (.int x2), .val (.int x3), .val (.int at_), .val (.ref b9), .unset] [])) st16 ?_
    have TY6 := own_ty6 x0 htT
    have XX := X16.more (cells' := 3) (slots' := 300) (by decide) (by decide)
    exact TAIL T16 _ T16.heap b9 b11 tl_ XX rfl N16 Ex16_b9 Fb16 Fs16 Ex16_b11 V16 g_b9 g_b11 ne_b9_b11 sz_b9 sz_b11 TY6 htl ZS16 KK16
  · -- capacity 1
    rw [hn, show (1 : Int32).toNatClampNeg = 1 from by decide] at Vb10
    have VV : VArr Z T10.heap b10 .byte (([(0 : Int32)] : List Int32).map Value.int) := Vb10
    refine Go.of (T' := T10) (f' := (mkF m 22 #[.val (.long x0), .second, .val (.int x1), .val (.int x2), .val (.int x3), .val (.int at_), .val (.ref b9), .unset] [])) (fun t k => XS.astore X10.here hx rfl (hb hby at_20) rfl rfl (l' := #[.val (.long x0), .second, .val (.int x1), .val (.int x2), .val (.int x3), .val (.int at_), .val (.ref b9), .unset]) rfl k) ?_
    refine Go.of (T' := T10) (f' := (mkF m 24 #[.val (.long x0), .second, .val (.int x1), .val (.int x2), .val (.int x3), .val (.int at_), .val (.ref b9), .unset] [(.ref b9)])) (fun t k => XS.aload X10.here hx rfl (hb hby at_22) rfl rfl k) ?_
    refine Go.of (T' := T10) (f' := (mkF m 25 #[.val (.long x0), .second, .val (.int x1), .val (.int x2), .val (.int x3), .val (.int at_), .val (.ref b9), .unset] [(.long x0), (.ref b9)])) (fun t k => XS.lloadN X10.here hx rfl (hb hby at_24) rfl k) ?_
    refine Go.of (T' := T10) (f' := (mkF m 26 #[.val (.long x0), .second, .val (.int x1), .val (.int x2), .val (.int x3), .val (.int at_), .val (.ref b9), .unset] [(.int (x0.toInt32)), (.ref b9)])) (fun t k => XS.l2i X10.here hx rfl (hb hby at_25) rfl k) ?_
    obtain ⟨cq17, kq17, q17a, q17b, q17c⟩ := isOf hZ rfl Ex10_b9
    obtain ⟨_, _, ⟨T17, L17, k17, n17⟩, -, X17, ⟨Lc17, hQ17, l17, y17, z17⟩, st17⟩ := X10.virtualBack hx (y := (⟨"com/example/keelson/keelson/wire/WireWriter", "int8", "(I)V"⟩ : MethodName)) (z := (⟨"com/example/keelson/keelson/wire/WireWriter", "int8", "(I)V"⟩ : MethodName)) hown (mvT hZ (hw _ (List.mem_of_getElem? (i := 20) rfl))) (mvT hZ (hw _ (List.mem_of_getElem? (i := 21) rfl))) (notFace_of_selects (args := #[]) (mvT hZ (hw _ (List.mem_of_getElem? (i := 23) rfl)))) (mvT hZ (hw _ (List.mem_of_getElem? (i := 23) rfl))) (mvT hZ (hw _ (List.mem_of_getElem? (i := 22) rfl))) (by decide) (backOf (W := 0) (rm4_a l Z a0 hw [] b9 (x0.toInt32) (0 : Int32) b10 [(0 : Int32)] 0 T10.heap n0 ZS10 Ex10_b9 Fs10 Fb10 VV g_b9 g_b10 ne_b9_b10 (by decide) (by decide) (by first | (simp only [List.length_cons, List.length_nil]; omega) | simp) (by first | (simp only [List.length_cons, List.length_nil]; omega) | simp)) hZ (hw _ (List.mem_of_getElem? (i := 24) rfl)) (hw _ (List.mem_of_getElem? (i := 3) rfl)) (by decide) (by decide)) q17a q17c (g := (mkF m 26 #[.val (.long x0), .second, .val (.int x1), .val (.int x2), .val (.int x3), .val (.int at_), .val (.ref b9), .unset] [(.int (x0.toInt32)), (.ref b9)])) rfl (by rw [hml]; rfl) (Steps.refl _) (argsL := [(.int (x0.toInt32))]) (rest := []) (lenOf pd_1 rfl) rfl (by show 2 * 0 + _ ≤ _; exact Nat.le_of_eq rfl) (hb hby at_26) (fun _ _ => ⟨rfl, rfl, (by decide : 2 + 0 ≤ _), (by decide : 19 + 0 ≤ _)⟩)
    dsimp only [Pt.U, Pt.locs, Pt.cells, Pt.slots] at X17 l17 y17 z17 st17 hQ17
    subst l17 y17 z17
    obtain ⟨rfl, N17q, K17, Fb17, Fz17, Vz17⟩ := hQ17
    have N17 := Fr.app N10 N17q
    have Ex17_b9 : Exa Z T17.heap b9 "com/example/keelson/keelson/wire/WireWriter" := Ex10_b9.keep K17
    have Ex17_b10 : Exa Z T17.heap b10 "[B" := Ex10.keep K17
    have Fs17 : Fld Z T17.heap b9 "com/example/keelson/keelson/wire/WireWriter" "size" "I" (.int (1 : Int32)) := Fz17
    have V17 : VArr Z T17.heap b10 .byte ([(f0 x0)].map Value.int) := Vz17
    have ZS17 : n0 ≤ T17.heap.size := Nat.le_trans ZS10 K17.1
    have KK17 : Keep h0 T17.heap [] := KK10.trans K17 (allS (Or.inr sz_b9) (allS (Or.inr sz_b10) all0))
    refine Go.tr (T' := T17) (f' := (mkF m 29 #[.val (.long x0), .second, .val (.int x1), .val (.int x2), .val (.int x3), .val (.int at_), .val (.ref b9), .unset] [])) st17 ?_
    refine Go.of (T' := T17) (f' := (mkF m 31 #[.val (.long x0), .second, .val (.int x1), .val (.int x2), .val (.int x3), .val (.int at_), .val (.ref b9), .unset] [(.ref b9)])) (fun t k => XS.aload X17.here hx rfl (hb hby at_29) rfl rfl k) ?_
    refine Go.of (T' := T17) (f' := (mkF m 32 #[.val (.long x0), .second, .val (.int x1), .val (.int x2), .val (.int x3), .val (.int at_), .val (.ref b9), .unset] [(.long x0), (.ref b9)])) (fun t k => XS.lloadN X17.here hx rfl (hb hby at_31) rfl k) ?_
    refine Go.of (T' := T17) (f' := (mkF m 34 #[.val (.long x0), .second, .val (.int x1), .val (.int x2), .val (.int x3), .val (.int at_), .val (.ref b9), .unset] [(.int (8 : Int32)), (.long x0), (.ref b9)])) (fun t k => XS.bipush X17.here hx rfl (hb hby at_32) k) ?_
    refine Go.of (T' := T17) (f' := (mkF m 35 #[.val (.long x0), .second, .val (.int x1), .val (.int x2), .val (.int x3), .val (.int at_), .val (.ref b9), .unset] [(.long (x0 >>> ((8 : Int32) &&& 0x3f).toInt64)), (.ref b9)])) (fun t k => XS.lshr X17.here hx rfl (hb hby at_34) rfl k) ?_
    refine Go.of (T' := T17) (f' := (mkF m 36 #[.val (.long x0), .second, .val (.int x1), .val (.int x2), .val (.int x3), .val (.int at_), .val (.ref b9), .unset] [(.int ((x0 >>> ((8 : Int32) &&& 0x3f).toInt64).toInt32)), (.ref b9)])) (fun t k => XS.l2i X17.here hx rfl (hb hby at_35) rfl k) ?_
    have TY18 : TyB [(f0 x0)] := own_ty1 x0
    obtain ⟨cq18, kq18, q18a, q18b, q18c⟩ := isOf hZ rfl Ex17_b9
    obtain ⟨_, _, ⟨T18, L18, k18, n18⟩, -, X18, ⟨Lc18, hQ18, l18, y18, z18⟩, st18⟩ := X17.virtualBack hx (y := (⟨"com/example/keelson/keelson/wire/WireWriter", "int8", "(I)V"⟩ : MethodName)) (z := (⟨"com/example/keelson/keelson/wire/WireWriter", "int8", "(I)V"⟩ : MethodName)) hown (mvT hZ (hw _ (List.mem_of_getElem? (i := 20) rfl))) (mvT hZ (hw _ (List.mem_of_getElem? (i := 21) rfl))) (notFace_of_selects (args := #[]) (mvT hZ (hw _ (List.mem_of_getElem? (i := 23) rfl)))) (mvT hZ (hw _ (List.mem_of_getElem? (i := 23) rfl))) (mvT hZ (hw _ (List.mem_of_getElem? (i := 22) rfl))) (by decide) (backOf (W := 0) (rm4_b l Z a0 hw [] b9 ((x0 >>> ((8 : Int32) &&& 0x3f).toInt64).toInt32) (1 : Int32) b10 [(f0 x0)] 258 1 T17.heap n0 ZS17 Ex17_b9 Fs17 Fb17 V17 Ex17_b10 g_b9 ne_b9_b10 TY18 (by first | (simp only [List.length_cons, List.length_nil]; omega) | simp) (own_g ⟨1, by decide⟩).1 (own_g ⟨1, by decide⟩).2 (by decide) (by decide) (by decide) (by decide)) hZ (hw _ (List.mem_of_getElem? (i := 24) rfl)) (hw _ (List.mem_of_getElem? (i := 3) rfl)) (by decide) (by decide)) q18a q18c (g := (mkF m 36 #[.val (.long x0), .second, .val (.int x1), .val (.int x2), .val (.int x3), .val (.int at_), .val (.ref b9), .unset] [(.int ((x0 >>> ((8 : Int32) &&& 0x3f).toInt64).toInt32)), (.ref b9)])) rfl (by rw [hml]; rfl) (Steps.refl _) (argsL := [(.int ((x0 >>> ((8 : Int32) &&& 0x3f).toInt64).toInt32))]) (rest := []) (lenOf pd_1 rfl) rfl (by show 2 * 0 + _ ≤ _; exact Nat.le_of_eq rfl) (hb hby at_36) (fun _ _ => ⟨rfl, rfl, (by decide : 2 + 1 ≤ _), (by decide : 19 + 262 ≤ _)⟩)
    dsimp only [Pt.U, Pt.locs, Pt.cells, Pt.slots] at X18 l18 y18 z18 st18 hQ18
    subst l18 y18 z18
    obtain ⟨b18, rfl, N18q, K18, sb18, g_b18, Fb18, Fz18, Exz18, Vz18⟩ := hQ18
    have N18 := Fr.app N17 N18q
    have ne_b9_b18 : b9 ≠ b18 := Nat.ne_of_lt (Nat.lt_of_lt_of_le Fb17.lt sb18)
    have ne_b10_b18 : b10 ≠ b18 := Nat.ne_of_lt (Nat.lt_of_lt_of_le Ex17_b10.lt sb18)
    have sz_b18 : h0.size ≤ b18 := Nat.le_trans KK17.1 sb18
    have Ex18_b9 : Exa Z T18.heap b9 "com/example/keelson/keelson/wire/WireWriter" := Ex17_b9.keep K18
    have Ex18_b10 : Exa Z T18.heap b10 "[B" := Ex17_b10.keep K18
    have V18_b10 : VArr Z T18.heap b10 .byte ([(f0 x0)].map Value.int) := V17.keep K18 (ninS (Ne.symm ne_b9_b10) nin0)
    obtain ⟨tl_, htl, htT, hcp⟩ := own_cpy6 [(f0 x0)] TY18 258 252 (by decide) (by decide)
    rw [hcp] at Vz18
    have Fs18 : Fld Z T18.heap b9 "com/example/keelson/keelson/wire/WireWriter" "size" "I" (.int (2 : Int32)) := Fz18
    have V18 : VArr Z T18.heap b18 .byte (((f0 x0) :: (f1 x0) :: (0 : Int32) :: (0 : Int32) :: (0 : Int32) :: (0 : Int32) :: tl_).map Value.int) := Vz18
    have ZS18 : n0 ≤ T18.heap.size := Nat.le_trans ZS17 K18.1
    have KK18 : Keep h0 T18.heap [] := KK17.trans K18 (allS (Or.inr sz_b9) all0)
    refine Go.tr (T' := T18) (f' := (mkF m 39 #[.val (.long x0), .second, .val (.int x1), .val (.int x2), .val (.int x3), .val (.int at_), .val (.ref b9), .unset] [])) st18 ?_
    refine Go.of (T' := T18) (f' := (mkF m 41 #[.val (.long x0), .second, .val (.int x1), .val (.int x2), .val (.int x3), .val (.int at_), .val (.ref b9), .unset] [(.ref b9)])) (fun t k => XS.aload X18.here hx rfl (hb hby at_39) rfl rfl k) ?_
    refine Go.of (T' := T18) (f' := (mkF m 42 #[.val (.long x0), .second, .val (.int x1), .val (.int x2), .val (.int x3), .val (.int at_), .val (.ref b9), .unset] [(.long x0), (.ref b9)])) (fun t k => XS.lloadN X18.here hx rfl (hb hby at_41) rfl k) ?_
    refine Go.of (T' := T18) (f' := (mkF m 44 #[.val (.long x0), .second, .val (.int x1), .val (.int x2), .val (.int x3), .val (.int at_), .val (.ref b9), .unset] [(.int (16 : Int32)), (.long x0), (.ref b9)])) (fun t k => XS.bipush X18.here hx rfl (hb hby at_42) k) ?_
    refine Go.of (T' := T18) (f' := (mkF m 45 #[.val (.long x0), .second, .val (.int x1), .val (.int x2), .val (.int x3), .val (.int at_), .val (.ref b9), .unset] [(.long (x0 >>> ((16 : Int32) &&& 0x3f).toInt64)), (.ref b9)])) (fun t k => XS.lshr X18.here hx rfl (hb hby at_44) rfl k) ?_
    refine Go.of (T' := T18) (f' := (mkF m 46 #[.val (.long x0), .second, .val (.int x1), .val (.int x2), .val (.int x3), .val (.int at_), .val (.ref b9), .unset] [(.int ((x0 >>> ((16 : Int32) &&& 0x3f).toInt64).toInt32)), (.ref b9)])) (fun t k => XS.l2i X18.here hx rfl (hb hby at_45) rfl k) ?_
    obtain ⟨cq19, kq19, q19a, q19b, q19c⟩ := isOf hZ rfl Ex18_b9
    obtain ⟨_, _, ⟨T19, L19, k19, n19⟩, -, X19, ⟨Lc19, hQ19, l19, y19, z19⟩, st19⟩ := X18.virtualBack hx (y := (⟨"com/example/keelson/keelson/wire/WireWriter", "int8", "(I)V"⟩ : MethodName)) (z := (⟨"com/example/keelson/keelson/wire/WireWriter", "int8", "(I)V"⟩ : MethodName)) hown (mvT hZ (hw _ (List.mem_of_getElem? (i := 20) rfl))) (mvT hZ (hw _ (List.mem_of_getElem? (i := 21) rfl))) (notFace_of_selects (args := #[]) (mvT hZ (hw _ (List.mem_of_getElem? (i := 23) rfl)))) (mvT hZ (hw _ (List.mem_of_getElem? (i := 23) rfl))) (mvT hZ (hw _ (List.mem_of_getElem? (i := 22) rfl))) (by decide) (backOf (W := 0) (rm4_a l Z a0 hw [] b9 ((x0 >>> ((16 : Int32) &&& 0x3f).toInt64).toInt32) (2 : Int32) b18 ((f0 x0) :: (f1 x0) :: (0 : Int32) :: (0 : Int32) :: (0 : Int32) :: (0 : Int32) :: tl_) 2 T18.heap n0 ZS18 Ex18_b9 Fs18 Fb18 V18 g_b9 g_b18 ne_b9_b18 (by decide) (by decide) (by first | (simp only [List.length_cons, List.length_nil]; omega) | simp) (by first | (simp only [List.length_cons, List.length_nil]; omega) | simp)) hZ (hw _ (List.mem_of_getElem? (i := 24) rfl)) (hw _ (List.mem_of_getElem? (i := 3) rfl)) (by decide) (by decide)) q19a q19c (g := (mkF m 46 #[.val (.long x0), .second, .val (.int x1), .val (.int x2), .val (.int x3), .val (.int at_), .val (.ref b9), .unset] [(.int ((x0 >>> ((16 : Int32) &&& 0x3f).toInt64).toInt32)), (.ref b9)])) rfl (by rw [hml]; rfl) (Steps.refl _) (argsL := [(.int ((x0 >>> ((16 : Int32) &&& 0x3f).toInt64).toInt32))]) (rest := []) (lenOf pd_1 rfl) rfl (by show 2 * 0 + _ ≤ _; exact Nat.le_of_eq rfl) (hb hby at_46) (fun _ _ => ⟨rfl, rfl, (by decide : 3 + 0 ≤ _), (by decide : 281 + 0 ≤ _)⟩)
    dsimp only [Pt.U, Pt.locs, Pt.cells, Pt.slots] at X19 l19 y19 z19 st19 hQ19
    subst l19 y19 z19
    obtain ⟨rfl, N19q, K19, Fb19, Fz19, Vz19⟩ := hQ19
    have N19 := Fr.app N18 N19q
    have Ex19_b9 : Exa Z T19.heap b9 "com/example/keelson/keelson/wire/WireWriter" := Ex18_b9.keep K19
    have Ex19_b18 : Exa Z T19.heap b18 "[B" := Exz18.keep K19
    have Fs19 : Fld Z T19.heap b9 "com/example/keelson/keelson/wire/WireWriter" "size" "I" (.int (3 : Int32)) := Fz19
    have V19 : VArr Z T19.heap b18 .byte (((f0 x0) :: (f1 x0) :: (f2 x0) :: (0 : Int32) :: (0 : Int32) :: (0 : Int32) :: tl_).map Value.int) := Vz19
    have ZS19 : n0 ≤ T19.heap.size := Nat.le_trans ZS18 K19.1
    have KK19 : Keep h0 T19.heap [] := KK18.trans K19 (allS (Or.inr sz_b9) (allS (Or.inr sz_b18) all0))
    refine Go.tr (T' := T19) (f' := (mkF m 49 #[.val (.long x0), .second, .val (.int x1), .val (.int x2), .val (.int x3), .val (.int at_), .val (.ref b9), .unset] [])) st19 ?_
    refine Go.of (T' := T19) (f' := (mkF m 51 #[.val (.long x0), .second, .val (.int x1), .val (.int x2), .val (.int x3), .val (.int at_), .val (.ref b9), .unset] [(.ref b9)])) (fun t k => XS.aload X19.here hx rfl (hb hby at_49) rfl rfl k) ?_
    refine Go.of (T' := T19) (f' := (mkF m 52 #[.val (.long x0), .second, .val (.int x1), .val (.int x2), .val (.int x3), .val (.int at_), .val (.ref b9), .unset] [(.long x0), (.ref b9)])) (fun t k => XS.lloadN X19.here hx rfl (hb hby at_51) rfl k) ?_
    refine Go.of (T' := T19) (f' := (mkF m 54 #[.val (.long x0), .second, .val (.int x1), .val (.int x2), .val (.int x3), .val (.int at_), .val (.ref b9), .unset] [(.int (24 : Int32)), (.long x0), (.ref b9)])) (fun t k => XS.bipush X19.here hx rfl (hb hby at_52) k) ?_
    refine Go.of (T' := T19) (f' := (mkF m 55 #[.val (.long x0), .second, .val (.int x1), .val (.int x2), .val (.int x3), .val (.int at_), .val (.ref b9), .unset] [(.long (x0 >>> ((24 : Int32) &&& 0x3f).toInt64)), (.ref b9)])) (fun t k => XS.lshr X19.here hx rfl (hb hby at_54) rfl k) ?_
    refine Go.of (T' := T19) (f' := (mkF m 56 #[.val (.long x0), .second, .val (.int x1), .val (.int x2), .val (.int x3), .val (.int at_), .val (.ref b9), .unset] [(.int ((x0 >>> ((24 : Int32) &&& 0x3f).toInt64).toInt32)), (.ref b9)])) (fun t k => XS.l2i X19.here hx rfl (hb hby at_55) rfl k) ?_
    obtain ⟨cq20, kq20, q20a, q20b, q20c⟩ := isOf hZ rfl Ex19_b9
    obtain ⟨_, _, ⟨T20, L20, k20, n20⟩, -, X20, ⟨Lc20, hQ20, l20, y20, z20⟩, st20⟩ := X19.virtualBack hx (y := (⟨"com/example/keelson/keelson/wire/WireWriter", "int8", "(I)V"⟩ : MethodName)) (z := (⟨"com/example/keelson/keelson/wire/WireWriter", "int8", "(I)V"⟩ : MethodName)) hown (mvT hZ (hw _ (List.mem_of_getElem? (i := 20) rfl))) (mvT hZ (hw _ (List.mem_of_getElem? (i := 21) rfl))) (notFace_of_selects (args := #[]) (mvT hZ (hw _ (List.mem_of_getElem? (i := 23) rfl)))) (mvT hZ (hw _ (List.mem_of_getElem? (i := 23) rfl))) (mvT hZ (hw _ (List.mem_of_getElem? (i := 22) rfl))) (by decide) (backOf (W := 0) (rm4_a l Z a0 hw [] b9 ((x0 >>> ((24 : Int32) &&& 0x3f).toInt64).toInt32) (3 : Int32) b18 ((f0 x0) :: (f1 x0) :: (f2 x0) :: (0 : Int32) :: (0 : Int32) :: (0 : Int32) :: tl_) 3 T19.heap n0 ZS19 Ex19_b9 Fs19 Fb19 V19 g_b9 g_b18 ne_b9_b18 (by decide) (by decide) (by first | (simp only [List.length_cons, List.length_nil]; omega) | simp) (by first | (simp only [List.length_cons, List.length_nil]; omega) | simp)) hZ (hw _ (List.mem_of_getElem? (i := 24) rfl)) (hw _ (List.mem_of_getElem? (i := 3) rfl)) (by decide) (by decide)) q20a q20c (g := (mkF m 56 #[.val (.long x0), .second, .val (.int x1), .val (.int x2), .val (.int x3), .val (.int at_), .val (.ref b9), .unset] [(.int ((x0 >>> ((24 : Int32) &&& 0x3f).toInt64).toInt32)), (.ref b9)])) rfl (by rw [hml]; rfl) (Steps.refl _) (argsL := [(.int ((x0 >>> ((24 : Int32) &&& 0x3f).toInt64).toInt32))]) (rest := []) (lenOf pd_1 rfl) rfl (by show 2 * 0 + _ ≤ _; exact Nat.le_of_eq rfl) (hb hby at_56) (fun _ _ => ⟨rfl, rfl, (by decide : 3 + 0 ≤ _), (by decide : 281 + 0 ≤ _)⟩)
    dsimp only [Pt.U, Pt.locs, Pt.cells, Pt.slots] at X20 l20 y20 z20 st20 hQ20
    subst l20 y20 z20
    obtain ⟨rfl, N20q, K20, Fb20, Fz20, Vz20⟩ := hQ20
    have N20 := Fr.app N19 N20q
    have Ex20_b9 : Exa Z T20.heap b9 "com/example/keelson/keelson/wire/WireWriter" := Ex19_b9.keep K20
    have Ex20_b18 : Exa Z T20.heap b18 "[B" := Ex19_b18.keep K20
    have Fs20 : Fld Z T20.heap b9 "com/example/keelson/keelson/wire/WireWriter" "size" "I" (.int (4 : Int32)) := Fz20
    have V20 : VArr Z T20.heap b18 .byte (((f0 x0) :: (f1 x0) :: (f2 x0) :: (f3 x0) :: (0 : Int32) :: (0 : Int32) :: tl_).map Value.int) := Vz20
    have ZS20 : n0 ≤ T20.heap.size := Nat.le_trans ZS19 K20.1
    have KK20 : Keep h0 T20.heap [] := KK19.trans K20 (allS (Or.inr sz_b9) (allS (Or.inr sz_b18) all0))
    refine Go.tr (T' := T20) (f' := (mkF m 59 #[.val (.long x0), .second, .val (.int x1), .val (.int x2), .val (.int x3), .val (.int at_), .val (.ref b9), .unset] [])) st20 ?_
    refine Go.of (T' := T20) (f' := (mkF m 61 #[.val (.long x0), .second, .val (.int x1), .val (.int x2), .val (.int x3), .val (.int at_), .val (.ref b9), .unset] [(.ref b9)])) (fun t k => XS.aload X20.here hx rfl (hb hby at_59) rfl rfl k) ?_
    refine Go.of (T' := T20) (f' := (mkF m 62 #[.val (.long x0), .second, .val (.int x1), .val (.int x2), .val (.int x3), .val (.int at_), .val (.ref b9), .unset] [(.long x0), (.ref b9)])) (fun t k => XS.lloadN X20.here hx rfl (hb hby at_61) rfl k) ?_
    refine Go.of (T' := T20) (f' := (mkF m 64 #[.val (.long x0), .second, .val (.int x1), .val (.int x2), .val (.int x3), .val (.int at_), .val (.ref b9), .unset] [(.int (32 : Int32)), (.long x0), (.ref b9)])) (fun t k => XS.bipush X20.here hx rfl (hb hby at_62) k) ?_
    refine Go.of (T' := T20) (f' := (mkF m 65 #[.val (.long x0), .second, .val (.int x1), .val (.int x2), .val (.int x3), .val (.int at_), .val (.ref b9), .unset] [(.long (x0 >>> ((32 : Int32) &&& 0x3f).toInt64)), (.ref b9)])) (fun t k => XS.lshr X20.here hx rfl (hb hby at_64) rfl k) ?_
    refine Go.of (T' := T20) (f' := (mkF m 66 #[.val (.long x0), .second, .val (.int x1), .val (.int x2), .val (.int x3), .val (.int at_), .val (.ref b9), .unset] [(.int ((x0 >>> ((32 : Int32) &&& 0x3f).toInt64).toInt32)), (.ref b9)])) (fun t k => XS.l2i X20.here hx rfl (hb hby at_65) rfl k) ?_
    obtain ⟨cq21, kq21, q21a, q21b, q21c⟩ := isOf hZ rfl Ex20_b9
    obtain ⟨_, _, ⟨T21, L21, k21, n21⟩, -, X21, ⟨Lc21, hQ21, l21, y21, z21⟩, st21⟩ := X20.virtualBack hx (y := (⟨"com/example/keelson/keelson/wire/WireWriter", "int8", "(I)V"⟩ : MethodName)) (z := (⟨"com/example/keelson/keelson/wire/WireWriter", "int8", "(I)V"⟩ : MethodName)) hown (mvT hZ (hw _ (List.mem_of_getElem? (i := 20) rfl))) (mvT hZ (hw _ (List.mem_of_getElem? (i := 21) rfl))) (notFace_of_selects (args := #[]) (mvT hZ (hw _ (List.mem_of_getElem? (i := 23) rfl)))) (mvT hZ (hw _ (List.mem_of_getElem? (i := 23) rfl))) (mvT hZ (hw _ (List.mem_of_getElem? (i := 22) rfl))) (by decide) (backOf (W := 0) (rm4_a l Z a0 hw [] b9 ((x0 >>> ((32 : Int32) &&& 0x3f).toInt64).toInt32) (4 : Int32) b18 ((f0 x0) :: (f1 x0) :: (f2 x0) :: (f3 x0) :: (0 : Int32) :: (0 : Int32) :: tl_) 4 T20.heap n0 ZS20 Ex20_b9 Fs20 Fb20 V20 g_b9 g_b18 ne_b9_b18 (by decide) (by decide) (by first | (simp only [List.length_cons, List.length_nil]; omega) | simp) (by first | (simp only [List.length_cons, List.length_nil]; omega) | simp)) hZ (hw _ (List.mem_of_getElem? (i := 24) rfl)) (hw _ (List.mem_of_getElem? (i := 3) rfl)) (by decide) (by decide)) q21a q21c (g := (mkF m 66 #[.val (.long x0), .second, .val (.int x1), .val (.int x2), .val (.int x3), .val (.int at_), .val (.ref b9), .unset] [(.int ((x0 >>> ((32 : Int32) &&& 0x3f).toInt64).toInt32)), (.ref b9)])) rfl (by rw [hml]; rfl) (Steps.refl _) (argsL := [(.int ((x0 >>> ((32 : Int32) &&& 0x3f).toInt64).toInt32))]) (rest := []) (lenOf pd_1 rfl) rfl (by show 2 * 0 + _ ≤ _; exact Nat.le_of_eq rfl) (hb hby at_66) (fun _ _ => ⟨rfl, rfl, (by decide : 3 + 0 ≤ _), (by decide : 281 + 0 ≤ _)⟩)
    dsimp only [Pt.U, Pt.locs, Pt.cells, Pt.slots] at X21 l21 y21 z21 st21 hQ21
    subst l21 y21 z21
    obtain ⟨rfl, N21q, K21, Fb21, Fz21, Vz21⟩ := hQ21
    have N21 := Fr.app N20 N21q
    have Ex21_b9 : Exa Z T21.heap b9 "com/example/keelson/keelson/wire/WireWriter" := Ex20_b9.keep K21
    have Ex21_b18 : Exa Z T21.heap b18 "[B" := Ex20_b18.keep K21
    have Fs21 : Fld Z T21.heap b9 "com/example/keelson/keelson/wire/WireWriter" "size" "I" (.int (5 : Int32)) := Fz21
    have V21 : VArr Z T21.heap b18 .byte (((f0 x0) :: (f1 x0) :: (f2 x0) :: (f3 x0) :: (f4 x0) :: (0 : Int32) :: tl_).map Value.int) := Vz21
    have ZS21 : n0 ≤ T21.heap.size := Nat.le_trans ZS20 K21.1
    have KK21 : Keep h0 T21.heap [] := KK20.trans K21 (allS (Or.inr sz_b9) (allS (Or.inr sz_b18) all0))
    refine Go.tr (T' := T21) (f' := (mkF m 69 #[.val (.long x0), .second, .val (.int x1), .val (.int x2), .val (.int x3), .val (.int at_), .val (.ref b9), .unset] [])) st21 ?_
    refine Go.of (T' := T21) (f' := (mkF m 71 #[.val (.long x0), .second, .val (.int x1), .val (.int x2), .val (.int x3), .val (.int at_), .val (.ref b9), .unset] [(.ref b9)])) (fun t k => XS.aload X21.here hx rfl (hb hby at_69) rfl rfl k) ?_
    refine Go.of (T' := T21) (f' := (mkF m 72 #[.val (.long x0), .second, .val (.int x1), .val (.int x2), .val (.int x3), .val (.int at_), .val (.ref b9), .unset] [(.long x0), (.ref b9)])) (fun t k => XS.lloadN X21.here hx rfl (hb hby at_71) rfl k) ?_
    refine Go.of (T' := T21) (f' := (mkF m 74 #[.val (.long x0), .second, .val (.int x1), .val (.int x2), .val (.int x3), .val (.int at_), .val (.ref b9), .unset] [(.int (40 : Int32)), (.long x0), (.ref b9)])) (fun t k => XS.bipush X21.here hx rfl (hb hby at_72) k) ?_
    refine Go.of (T' := T21) (f' := (mkF m 75 #[.val (.long x0), .second, .val (.int x1), .val (.int x2), .val (.int x3), .val (.int at_), .val (.ref b9), .unset] [(.long (x0 >>> ((40 : Int32) &&& 0x3f).toInt64)), (.ref b9)])) (fun t k => XS.lshr X21.here hx rfl (hb hby at_74) rfl k) ?_
    refine Go.of (T' := T21) (f' := (mkF m 76 #[.val (.long x0), .second, .val (.int x1), .val (.int x2), .val (.int x3), .val (.int at_), .val (.ref b9), .unset] [(.int ((x0 >>> ((40 : Int32) &&& 0x3f).toInt64).toInt32)), (.ref b9)])) (fun t k => XS.l2i X21.here hx rfl (hb hby at_75) rfl k) ?_
    obtain ⟨cq22, kq22, q22a, q22b, q22c⟩ := isOf hZ rfl Ex21_b9
    obtain ⟨_, _, ⟨T22, L22, k22, n22⟩, -, X22, ⟨Lc22, hQ22, l22, y22, z22⟩, st22⟩ := X21.virtualBack hx (y := (⟨"com/example/keelson/keelson/wire/WireWriter", "int8", "(I)V"⟩ : MethodName)) (z := (⟨"com/example/keelson/keelson/wire/WireWriter", "int8", "(I)V"⟩ : MethodName)) hown (mvT hZ (hw _ (List.mem_of_getElem? (i := 20) rfl))) (mvT hZ (hw _ (List.mem_of_getElem? (i := 21) rfl))) (notFace_of_selects (args := #[]) (mvT hZ (hw _ (List.mem_of_getElem? (i := 23) rfl)))) (mvT hZ (hw _ (List.mem_of_getElem? (i := 23) rfl))) (mvT hZ (hw _ (List.mem_of_getElem? (i := 22) rfl))) (by decide) (backOf (W := 0) (rm4_a l Z a0 hw [] b9 ((x0 >>> ((40 : Int32) &&& 0x3f).toInt64).toInt32) (5 : Int32) b18 ((f0 x0) :: (f1 x0) :: (f2 x0) :: (f3 x0) :: (f4 x0) :: (0 : Int32) :: tl_) 5 T21.heap n0 ZS21 Ex21_b9 Fs21 Fb21 V21 g_b9 g_b18 ne_b9_b18 (by decide) (by decide) (by first | (simp only [List.length_cons, List.length_nil]; omega) | simp) (by first | (simp only [List.length_cons, List.length_nil]; omega) | simp)) hZ (hw _ (List.mem_of_getElem? (i := 24) rfl)) (hw _ (List.mem_of_getElem? (i := 3) rfl)) (by decide) (by decide)) q22a q22c (g := (mkF m 76 #[.val (.long x0), .second, .val (.int x1), .val (.int x2), .val (.int x3), .val (.int at_), .val (.ref b9), .unset] [(.int ((x0 >>> ((40 : Int32) &&& 0x3f).toInt64).toInt32)), (.ref b9)])) rfl (by rw [hml]; rfl) (Steps.refl _) (argsL := [(.int ((x0 >>> ((40 : Int32) &&& 0x3f).toInt64).toInt32))]) (rest := []) (lenOf pd_1 rfl) rfl (by show 2 * 0 + _ ≤ _; exact Nat.le_of_eq rfl) (hb hby at_76) (fun _ _ => ⟨rfl, rfl, (by decide : 3 + 0 ≤ _), (by decide : 281 + 0 ≤ _)⟩)
    dsimp only [Pt.U, Pt.locs, Pt.cells, Pt.slots] at X22 l22 y22 z22 st22 hQ22
    subst l22 y22 z22
    obtain ⟨rfl, N22q, K22, Fb22, Fz22, Vz22⟩ := hQ22
    have N22 := Fr.app N21 N22q
    have Ex22_b9 : Exa Z T22.heap b9 "com/example/keelson/keelson/wire/WireWriter" := Ex21_b9.keep K22
    have Ex22_b18 : Exa Z T22.heap b18 "[B" := Ex21_b18.keep K22
    have Fs22 : Fld Z T22.heap b9 "com/example/keelson/keelson/wire/WireWriter" "size" "I" (.int (6 : Int32)) := Fz22
    have V22 : VArr Z T22.heap b18 .byte (((f0 x0) :: (f1 x0) :: (f2 x0) :: (f3 x0) :: (f4 x0) :: (f5 x0) :: tl_).map Value.int) := Vz22
    have ZS22 : n0 ≤ T22.heap.size := Nat.le_trans ZS21 K22.1
    have KK22 : Keep h0 T22.heap [] := KK21.trans K22 (allS (Or.inr sz_b9) (allS (Or.inr sz_b18) all0))
    refine Go.tr (T' := T22) (f' := (mkF m 79 #[.val (.long x0), .second, .val (.int x1), .val (.int x2), .val (.int x3), .val (.int at_), .val (.ref b9), .unset] [])) st22 ?_
    have TY6 := own_ty6 x0 htT
    have XX := X22.more (cells' := 3) (slots' := 300) (by decide) (by decide)
    exact TAIL T22 _ T22.heap b9 b18 tl_ XX rfl N22 Ex22_b9 Fb22 Fs22 Ex22_b18 V22 g_b9 g_b18 ne_b9_b18 sz_b9 sz_b18 TY6 htl ZS22 KK22
  · -- capacity 2
    rw [hn, show (2 : Int32).toNatClampNeg = 2 from by decide] at Vb10
    have VV : VArr Z T10.heap b10 .byte (([(0 : Int32), (0 : Int32)] : List Int32).map Value.int) := Vb10
    refine Go.of (T' := T10) (f' := (mkF m 22 #[.val (.long x0), .second, .val (.int x1), .val (.int x2), .val (.int x3), .val (.int at_), .val (.ref b9), .unset] [])) (fun t k => XS.astore X10.here hx rfl (hb hby at_20) rfl rfl (l' := #[.val (.long x0), .second, .val (.int x1), .val (.int x2), .val (.int x3), .val (.int at_), .val (.ref b9), .unset]) rfl k) ?_
    refine Go.of (T' := T10) (f' := (mkF m 24 #[.val (.long x0), .second, .val (.int x1), .val (.int x2), .val (.int x3), .val (.int at_), .val (.ref b9), .unset] [(.ref b9)])) (fun t k => XS.aload X10.here hx rfl (hb hby at_22) rfl rfl k) ?_
    refine Go.of (T' := T10) (f' := (mkF m 25 #[.val (.long x0), .second, .val (.int x1), .val (.int x2), .val (.int x3), .val (.int at_), .val (.ref b9), .unset] [(.long x0), (.ref b9)])) (fun t k => XS.lloadN X10.here hx rfl (hb hby at_24) rfl k) ?_
    refine Go.of (T' := T10) (f' := (mkF m 26 #[.val (.long x0), .second, .val (.int x1), .val (.int x2), .val (.int x3), .val (.int at_), .val (.ref b9), .unset] [(.int (x0.toInt32)), (.ref b9)])) (fun t k => XS.l2i X10.here hx rfl (hb hby at_25) rfl k) ?_
    obtain ⟨cq23, kq23, q23a, q23b, q23c⟩ := isOf hZ rfl Ex10_b9
    obtain ⟨_, _, ⟨T23, L23, k23, n23⟩, -, X23, ⟨Lc23, hQ23, l23, y23, z23⟩, st23⟩ := X10.virtualBack hx (y := (⟨"com/example/keelson/keelson/wire/WireWriter", "int8", "(I)V"⟩ : MethodName)) (z := (⟨"com/example/keelson/keelson/wire/WireWriter", "int8", "(I)V"⟩ : MethodName)) hown (mvT hZ (hw _ (List.mem_of_getElem? (i := 20) rfl))) (mvT hZ (hw _ (List.mem_of_getElem? (i := 21) rfl))) (notFace_of_selects (args := #[]) (mvT hZ (hw _ (List.mem_of_getElem? (i := 23) rfl)))) (mvT hZ (hw _ (List.mem_of_getElem? (i := 23) rfl))) (mvT hZ (hw _ (List.mem_of_getElem? (i := 22) rfl))) (by decide) (backOf (W := 0) (rm4_a l Z a0 hw [] b9 (x0.toInt32) (0 : Int32) b10 [(0 : Int32), (0 : Int32)] 0 T10.heap n0 ZS10 Ex10_b9 Fs10 Fb10 VV g_b9 g_b10 ne_b9_b10 (by decide) (by decide) (by first | (simp only [List.length_cons, List.length_nil]; omega) | simp) (by first | (simp only [List.length_cons, List.length_nil]; omega) | simp)) hZ (hw _ (List.mem_of_getElem? (i := 24) rfl)) (hw _ (List.mem_of_getElem? (i := 3) rfl)) (by decide) (by decide)) q23a q23c (g := (mkF m 26 #[.val (.long x0), .second, .val (.int x1), .val (.int x2), .val (.int x3), .val (.int at_), .val (.ref b9), .unset] [(.int (x0.toInt32)), (.ref b9)])) rfl (by rw [hml]; rfl) (Steps.refl _) (argsL := [(.int (x0.toInt32))]) (rest := []) (lenOf pd_1 rfl) rfl (by show 2 * 0 + _ ≤ _; exact Nat.le_of_eq rfl) (hb hby at_26) (fun _ _ => ⟨rfl, rfl, (by decide : 2 + 0 ≤ _), (by decide : 19 + 0 ≤ _)⟩)
    dsimp only [Pt.U, Pt.locs, Pt.cells, Pt.slots] at X23 l23 y23 z23 st23 hQ23
    subst l23 y23 z23
    obtain ⟨rfl, N23q, K23, Fb23, Fz23, Vz23⟩ := hQ23
    have N23 := Fr.app N10 N23q
    have Ex23_b9 : Exa Z T23.heap b9 "com/example/keelson/keelson/wire/WireWriter" := Ex10_b9.keep K23
    have Ex23_b10 : Exa Z T23.heap b10 "[B" := Ex10.keep K23
    have Fs23 : Fld Z T23.heap b9 "com/example/keelson/keelson/wire/WireWriter" "size" "I" (.int (1 : Int32)) := Fz23
    have V23 : VArr Z T23.heap b10 .byte ([(f0 x0), (0 : Int32)].map Value.int) := Vz23
    have ZS23 : n0 ≤ T23.heap.size := Nat.le_trans ZS10 K23.1
    have KK23 : Keep h0 T23.heap [] := KK10.trans K23 (allS (Or.inr sz_b9) (allS (Or.inr sz_b10) all0))
    refine Go.tr (T' := T23) (f' := (mkF m 29 #[.val (.long x0), .second, .val (.int x1), .val (.int x2), .val (.int x3), .val (.int at_), .val (.ref b9), .unset] [])) st23 ?_
    refine Go.of (T' := T23) (f' := (mkF m 31 #[.val (.long x0), .second, .val (.int x1), .val (.int x2), .val (.int x3), .val (.int at_), .val (.ref b9), .unset] [(.ref b9)])) (fun t k => XS.aload X23.here hx rfl (hb hby at_29) rfl rfl k) ?_
    refine Go.of (T' := T23) (f' := (mkF m 32 #[.val (.long x0), .second, .val (.int x1), .val (.int x2), .val (.int x3), .val (.int at_), .val (.ref b9), .unset] [(.long x0), (.ref b9)])) (fun t k => XS.lloadN X23.here hx rfl (hb hby at_31) rfl k) ?_
    refine Go.of (T' := T23) (f' := (mkF m 34 #[.val (.long x0), .second, .val (.int x1), .val (.int x2), .val (.int x3), .val (.int at_), .val (.ref b9), .unset] [(.int (8 : Int32)), (.long x0), (.ref b9)])) (fun t k => XS.bipush X23.here hx rfl (hb hby at_32) k) ?_
    refine Go.of (T' := T23) (f' := (mkF m 35 #[.val (.long x0), .second, .val (.int x1), .val (.int x2), .val (.int x3), .val (.int at_), .val (.ref b9), .unset] [(.long (x0 >>> ((8 : Int32) &&& 0x3f).toInt64)), (.ref b9)])) (fun t k => XS.lshr X23.here hx rfl (hb hby at_34) rfl k) ?_
    refine Go.of (T' := T23) (f' := (mkF m 36 #[.val (.long x0), .second, .val (.int x1), .val (.int x2), .val (.int x3), .val (.int at_), .val (.ref b9), .unset] [(.int ((x0 >>> ((8 : Int32) &&& 0x3f).toInt64).toInt32)), (.ref b9)])) (fun t k => XS.l2i X23.here hx rfl (hb hby at_35) rfl k) ?_
    obtain ⟨cq24, kq24, q24a, q24b, q24c⟩ := isOf hZ rfl Ex23_b9
    obtain ⟨_, _, ⟨T24, L24, k24, n24⟩, -, X24, ⟨Lc24, hQ24, l24, y24, z24⟩, st24⟩ := X23.virtualBack hx (y := (⟨"com/example/keelson/keelson/wire/WireWriter", "int8", "(I)V"⟩ : MethodName)) (z := (⟨"com/example/keelson/keelson/wire/WireWriter", "int8", "(I)V"⟩ : MethodName)) hown (mvT hZ (hw _ (List.mem_of_getElem? (i := 20) rfl))) (mvT hZ (hw _ (List.mem_of_getElem? (i := 21) rfl))) (notFace_of_selects (args := #[]) (mvT hZ (hw _ (List.mem_of_getElem? (i := 23) rfl)))) (mvT hZ (hw _ (List.mem_of_getElem? (i := 23) rfl))) (mvT hZ (hw _ (List.mem_of_getElem? (i := 22) rfl))) (by decide) (backOf (W := 0) (rm4_a l Z a0 hw [] b9 ((x0 >>> ((8 : Int32) &&& 0x3f).toInt64).toInt32) (1 : Int32) b10 [(f0 x0), (0 : Int32)] 1 T23.heap n0 ZS23 Ex23_b9 Fs23 Fb23 V23 g_b9 g_b10 ne_b9_b10 (by decide) (by decide) (by first | (simp only [List.length_cons, List.length_nil]; omega) | simp) (by first | (simp only [List.length_cons, List.length_nil]; omega) | simp)) hZ (hw _ (List.mem_of_getElem? (i := 24) rfl)) (hw _ (List.mem_of_getElem? (i := 3) rfl)) (by decide) (by decide)) q24a q24c (g := (mkF m 36 #[.val (.long x0), .second, .val (.int x1), .val (.int x2), .val (.int x3), .val (.int at_), .val (.ref b9), .unset] [(.int ((x0 >>> ((8 : Int32) &&& 0x3f).toInt64).toInt32)), (.ref b9)])) rfl (by rw [hml]; rfl) (Steps.refl _) (argsL := [(.int ((x0 >>> ((8 : Int32) &&& 0x3f).toInt64).toInt32))]) (rest := []) (lenOf pd_1 rfl) rfl (by show 2 * 0 + _ ≤ _; exact Nat.le_of_eq rfl) (hb hby at_36) (fun _ _ => ⟨rfl, rfl, (by decide : 2 + 0 ≤ _), (by decide : 19 + 0 ≤ _)⟩)
    dsimp only [Pt.U, Pt.locs, Pt.cells, Pt.slots] at X24 l24 y24 z24 st24 hQ24
    subst l24 y24 z24
    obtain ⟨rfl, N24q, K24, Fb24, Fz24, Vz24⟩ := hQ24
    have N24 := Fr.app N23 N24q
    have Ex24_b9 : Exa Z T24.heap b9 "com/example/keelson/keelson/wire/WireWriter" := Ex23_b9.keep K24
    have Ex24_b10 : Exa Z T24.heap b10 "[B" := Ex23_b10.keep K24
    have Fs24 : Fld Z T24.heap b9 "com/example/keelson/keelson/wire/WireWriter" "size" "I" (.int (2 : Int32)) := Fz24
    have V24 : VArr Z T24.heap b10 .byte ([(f0 x0), (f1 x0)].map Value.int) := Vz24
    have ZS24 : n0 ≤ T24.heap.size := Nat.le_trans ZS23 K24.1
    have KK24 : Keep h0 T24.heap [] := KK23.trans K24 (allS (Or.inr sz_b9) (allS (Or.inr sz_b10) all0))
    refine Go.tr (T' := T24) (f' := (mkF m 39 #[.val (.long x0), .second, .val (.int x1), .val (.int x2), .val (.int x3), .val (.int at_), .val (.ref b9), .unset] [])) st24 ?_
    refine Go.of (T' := T24) (f' := (mkF m 41 #[.val (.long x0), .second, .val (.int x1), .val (.int x2), .val (.int x3), .val (.int at_), .val (.ref b9), .unset] [(.ref b9)])) (fun t k => XS.aload X24.here hx rfl (hb hby at_39) rfl rfl k) ?_
    refine Go.of (T' := T24) (f' := (mkF m 42 #[.val (.long x0), .second, .val (.int x1), .val (.int x2), .val (.int x3), .val (.int at_), .val (.ref b9), .unset] [(.long x0), (.ref b9)])) (fun t k => XS.lloadN X24.here hx rfl (hb hby at_41) rfl k) ?_
    refine Go.of (T' := T24) (f' := (mkF m 44 #[.val (.long x0), .second, .val (.int x1), .val (.int x2), .val (.int x3), .val (.int at_), .val (.ref b9), .unset] [(.int (16 : Int32)), (.long x0), (.ref b9)])) (fun t k => XS.bipush X24.here hx rfl (hb hby at_42) k) ?_
    refine Go.of (T' := T24) (f' := (mkF m 45 #[.val (.long x0), .second, .val (.int x1), .val (.int x2), .val (.int x3), .val (.int at_), .val (.ref b9), .unset] [(.long (x0 >>> ((16 : Int32) &&& 0x3f).toInt64)), (.ref b9)])) (fun t k => XS.lshr X24.here hx rfl (hb hby at_44) rfl k) ?_
    refine Go.of (T' := T24) (f' := (mkF m 46 #[.val (.long x0), .second, .val (.int x1), .val (.int x2), .val (.int x3), .val (.int at_), .val (.ref b9), .unset] [(.int ((x0 >>> ((16 : Int32) &&& 0x3f).toInt64).toInt32)), (.ref b9)])) (fun t k => XS.l2i X24.here hx rfl (hb hby at_45) rfl k) ?_
    have TY25 : TyB [(f0 x0), (f1 x0)] := own_ty2 x0
    obtain ⟨cq25, kq25, q25a, q25b, q25c⟩ := isOf hZ rfl Ex24_b9
    obtain ⟨_, _, ⟨T25, L25, k25, n25⟩, -, X25, ⟨Lc25, hQ25, l25, y25, z25⟩, st25⟩ := X24.virtualBack hx (y := (⟨"com/example/keelson/keelson/wire/WireWriter", "int8", "(I)V"⟩ : MethodName)) (z := (⟨"com/example/keelson/keelson/wire/WireWriter", "int8", "(I)V"⟩ : MethodName)) hown (mvT hZ (hw _ (List.mem_of_getElem? (i := 20) rfl))) (mvT hZ (hw _ (List.mem_of_getElem? (i := 21) rfl))) (notFace_of_selects (args := #[]) (mvT hZ (hw _ (List.mem_of_getElem? (i := 23) rfl)))) (mvT hZ (hw _ (List.mem_of_getElem? (i := 23) rfl))) (mvT hZ (hw _ (List.mem_of_getElem? (i := 22) rfl))) (by decide) (backOf (W := 0) (rm4_b l Z a0 hw [] b9 ((x0 >>> ((16 : Int32) &&& 0x3f).toInt64).toInt32) (2 : Int32) b10 [(f0 x0), (f1 x0)] 259 2 T24.heap n0 ZS24 Ex24_b9 Fs24 Fb24 V24 Ex24_b10 g_b9 ne_b9_b10 TY25 (by first | (simp only [List.length_cons, List.length_nil]; omega) | simp) (own_g ⟨2, by decide⟩).1 (own_g ⟨2, by decide⟩).2 (by decide) (by decide) (by decide) (by decide)) hZ (hw _ (List.mem_of_getElem? (i := 24) rfl)) (hw _ (List.mem_of_getElem? (i := 3) rfl)) (by decide) (by decide)) q25a q25c (g := (mkF m 46 #[.val (.long x0), .second, .val (.int x1), .val (.int x2), .val (.int x3), .val (.int at_), .val (.ref b9), .unset] [(.int ((x0 >>> ((16 : Int32) &&& 0x3f).toInt64).toInt32)), (.ref b9)])) rfl (by rw [hml]; rfl) (Steps.refl _) (argsL := [(.int ((x0 >>> ((16 : Int32) &&& 0x3f).toInt64).toInt32))]) (rest := []) (lenOf pd_1 rfl) rfl (by show 2 * 0 + _ ≤ _; exact Nat.le_of_eq rfl) (hb hby at_46) (fun _ _ => ⟨rfl, rfl, (by decide : 2 + 1 ≤ _), (by decide : 19 + 262 ≤ _)⟩)
    dsimp only [Pt.U, Pt.locs, Pt.cells, Pt.slots] at X25 l25 y25 z25 st25 hQ25
    subst l25 y25 z25
    obtain ⟨b25, rfl, N25q, K25, sb25, g_b25, Fb25, Fz25, Exz25, Vz25⟩ := hQ25
    have N25 := Fr.app N24 N25q
    have ne_b9_b25 : b9 ≠ b25 := Nat.ne_of_lt (Nat.lt_of_lt_of_le Fb24.lt sb25)
    have ne_b10_b25 : b10 ≠ b25 := Nat.ne_of_lt (Nat.lt_of_lt_of_le Ex24_b10.lt sb25)
    have sz_b25 : h0.size ≤ b25 := Nat.le_trans KK24.1 sb25
    have Ex25_b9 : Exa Z T25.heap b9 "com/example/keelson/keelson/wire/WireWriter" := Ex24_b9.keep K25
    have Ex25_b10 : Exa Z T25.heap b10 "[B" := Ex24_b10.keep K25
    have V25_b10 : VArr Z T25.heap b10 .byte ([(f0 x0), (f1 x0)].map Value.int) := V24.keep K25 (ninS (Ne.symm ne_b9_b10) nin0)
    obtain ⟨tl_, htl, htT, hcp⟩ := own_cpy6 [(f0 x0), (f1 x0)] TY25 259 253 (by decide) (by decide)
    rw [hcp] at Vz25
    have Fs25 : Fld Z T25.heap b9 "com/example/keelson/keelson/wire/WireWriter" "size" "I" (.int (3 : Int32)) := Fz25
    have V25 : VArr Z T25.heap b25 .byte (((f0 x0) :: (f1 x0) :: (f2 x0) :: (0 : Int32) :: (0 : Int32) :: (0 : Int32) :: tl_).map Value.int) := Vz25
    have ZS25 : n0 ≤ T25.heap.size := Nat.le_trans ZS24 K25.1
    have KK25 : Keep h0 T25.heap [] := KK24.trans K25 (allS (Or.inr sz_b9) all0)
    refine Go.tr (T' := T25) (f' := (mkF m 49 #[.val (.long x0), .second, .val (.int x1), .val (.int x2), .val (.int x3), .val (.int at_), .val (.ref b9), .unset] [])) st25 ?_
    refine Go.of (T' := T25) (f' := (mkF m 51 #[.val (.long x0), .second, .val (.int x1), .val (.int x2), .val (.int x3), .val (.int at_), .val (.ref b9), .unset] [(.ref b9)])) (fun t k => XS.aload X25.here hx rfl (hb hby at_49) rfl rfl k) ?_
    refine Go.of (T' := T25) (f' := (mkF m 52 #[.val (.long x0), .second, .val (.int x1), .val (.int x2), .val (.int x3), .val (.int at_), .val (.ref b9), .unset] [(.long x0), (.ref b9)])) (fun t k => XS.lloadN X25.here hx rfl (hb hby at_51) rfl k) ?_
    refine Go.of (T' := T25) (f' := (mkF m 54 #[.val (.long x0), .second, .val (.int x1), .val (.int x2), .val (.int x3), .val (.int at_), .val (.ref b9), .unset] [(.int (24 : Int32)), (.long x0), (.ref b9)])) (fun t k => XS.bipush X25.here hx rfl (hb hby at_52) k) ?_
    refine Go.of (T' := T25) (f' := (mkF m 55 #[.val (.long x0), .second, .val (.int x1), .val (.int x2), .val (.int x3), .val (.int at_), .val (.ref b9), .unset] [(.long (x0 >>> ((24 : Int32) &&& 0x3f).toInt64)), (.ref b9)])) (fun t k => XS.lshr X25.here hx rfl (hb hby at_54) rfl k) ?_
    refine Go.of (T' := T25) (f' := (mkF m 56 #[.val (.long x0), .second, .val (.int x1), .val (.int x2), .val (.int x3), .val (.int at_), .val (.ref b9), .unset] [(.int ((x0 >>> ((24 : Int32) &&& 0x3f).toInt64).toInt32)), (.ref b9)])) (fun t k => XS.l2i X25.here hx rfl (hb hby at_55) rfl k) ?_
    obtain ⟨cq26, kq26, q26a, q26b, q26c⟩ := isOf hZ rfl Ex25_b9
    obtain ⟨_, _, ⟨T26, L26, k26, n26⟩, -, X26, ⟨Lc26, hQ26, l26, y26, z26⟩, st26⟩ := X25.virtualBack hx (y := (⟨"com/example/keelson/keelson/wire/WireWriter", "int8", "(I)V"⟩ : MethodName)) (z := (⟨"com/example/keelson/keelson/wire/WireWriter", "int8", "(I)V"⟩ : MethodName)) hown (mvT hZ (hw _ (List.mem_of_getElem? (i := 20) rfl))) (mvT hZ (hw _ (List.mem_of_getElem? (i := 21) rfl))) (notFace_of_selects (args := #[]) (mvT hZ (hw _ (List.mem_of_getElem? (i := 23) rfl)))) (mvT hZ (hw _ (List.mem_of_getElem? (i := 23) rfl))) (mvT hZ (hw _ (List.mem_of_getElem? (i := 22) rfl))) (by decide) (backOf (W := 0) (rm4_a l Z a0 hw [] b9 ((x0 >>> ((24 : Int32) &&& 0x3f).toInt64).toInt32) (3 : Int32) b25 ((f0 x0) :: (f1 x0) :: (f2 x0) :: (0 : Int32) :: (0 : Int32) :: (0 : Int32) :: tl_) 3 T25.heap n0 ZS25 Ex25_b9 Fs25 Fb25 V25 g_b9 g_b25 ne_b9_b25 (by decide) (by decide) (by first | (simp only [List.length_cons, List.length_nil]; omega) | simp) (by first | (simp only [List.length_cons, List.length_nil]; omega) | simp)) hZ (hw _ (List.mem_of_getElem? (i := 24) rfl)) (hw _ (List.mem_of_getElem? (i := 3) rfl)) (by decide) (by decide)) q26a q26c (g := (mkF m 56 #[.val (.long x0), .second, .val (.int x1), .val (.int x2), .val (.int x3), .val (.int at_), .val (.ref b9), .unset] [(.int ((x0 >>> ((24 : Int32) &&& 0x3f).toInt64).toInt32)), (.ref b9)])) rfl (by rw [hml]; rfl) (Steps.refl _) (argsL := [(.int ((x0 >>> ((24 : Int32) &&& 0x3f).toInt64).toInt32))]) (rest := []) (lenOf pd_1 rfl) rfl (by show 2 * 0 + _ ≤ _; exact Nat.le_of_eq rfl) (hb hby at_56) (fun _ _ => ⟨rfl, rfl, (by decide : 3 + 0 ≤ _), (by decide : 281 + 0 ≤ _)⟩)
    dsimp only [Pt.U, Pt.locs, Pt.cells, Pt.slots] at X26 l26 y26 z26 st26 hQ26
    subst l26 y26 z26
    obtain ⟨rfl, N26q, K26, Fb26, Fz26, Vz26⟩ := hQ26
    have N26 := Fr.app N25 N26q
    have Ex26_b9 : Exa Z T26.heap b9 "com/example/keelson/keelson/wire/WireWriter" := Ex25_b9.keep K26
    have Ex26_b25 : Exa Z T26.heap b25 "[B" := Exz25.keep K26
    have Fs26 : Fld Z T26.heap b9 "com/example/keelson/keelson/wire/WireWriter" "size" "I" (.int (4 : Int32)) := Fz26
    have V26 : VArr Z T26.heap b25 .byte (((f0 x0) :: (f1 x0) :: (f2 x0) :: (f3 x0) :: (0 : Int32) :: (0 : Int32) :: tl_).map Value.int) := Vz26
    have ZS26 : n0 ≤ T26.heap.size := Nat.le_trans ZS25 K26.1
    have KK26 : Keep h0 T26.heap [] := KK25.trans K26 (allS (Or.inr sz_b9) (allS (Or.inr sz_b25) all0))
    refine Go.tr (T' := T26) (f' := (mkF m 59 #[.val (.long x0), .second, .val (.int x1), .val (.int x2), .val (.int x3), .val (.int at_), .val (.ref b9), .unset] [])) st26 ?_
    refine Go.of (T' := T26) (f' := (mkF m 61 #[.val (.long x0), .second, .val (.int x1), .val (.int x2), .val (.int x3), .val (.int at_), .val (.ref b9), .unset] [(.ref b9)])) (fun t k => XS.aload X26.here hx rfl (hb hby at_59) rfl rfl k) ?_
    refine Go.of (T' := T26) (f' := (mkF m 62 #[.val (.long x0), .second, .val (.int x1), .val (.int x2), .val (.int x3), .val (.int at_), .val (.ref b9), .unset] [(.long x0), (.ref b9)])) (fun t k => XS.lloadN X26.here hx rfl (hb hby at_61) rfl k) ?_
    refine Go.of (T' := T26) (f' := (mkF m 64 #[.val (.long x0), .second, .val (.int x1), .val (.int x2), .val (.int x3), .val (.int at_), .val (.ref b9), .unset] [(.int (32 : Int32)), (.long x0), (.ref b9)])) (fun t k => XS.bipush X26.here hx rfl (hb hby at_62) k) ?_
    refine Go.of (T' := T26) (f' := (mkF m 65 #[.val (.long x0), .second, .val (.int x1), .val (.int x2), .val (.int x3), .val (.int at_), .val (.ref b9), .unset] [(.long (x0 >>> ((32 : Int32) &&& 0x3f).toInt64)), (.ref b9)])) (fun t k => XS.lshr X26.here hx rfl (hb hby at_64) rfl k) ?_
    refine Go.of (T' := T26) (f' := (mkF m 66 #[.val (.long x0), .second, .val (.int x1), .val (.int x2), .val (.int x3), .val (.int at_), .val (.ref b9), .unset] [(.int ((x0 >>> ((32 : Int32) &&& 0x3f).toInt64).toInt32)), (.ref b9)])) (fun t k => XS.l2i X26.here hx rfl (hb hby at_65) rfl k) ?_
    obtain ⟨cq27, kq27, q27a, q27b, q27c⟩ := isOf hZ rfl Ex26_b9
    obtain ⟨_, _, ⟨T27, L27, k27, n27⟩, -, X27, ⟨Lc27, hQ27, l27, y27, z27⟩, st27⟩ := X26.virtualBack hx (y := (⟨"com/example/keelson/keelson/wire/WireWriter", "int8", "(I)V"⟩ : MethodName)) (z := (⟨"com/example/keelson/keelson/wire/WireWriter", "int8", "(I)V"⟩ : MethodName)) hown (mvT hZ (hw _ (List.mem_of_getElem? (i := 20) rfl))) (mvT hZ (hw _ (List.mem_of_getElem? (i := 21) rfl))) (notFace_of_selects (args := #[]) (mvT hZ (hw _ (List.mem_of_getElem? (i := 23) rfl)))) (mvT hZ (hw _ (List.mem_of_getElem? (i := 23) rfl))) (mvT hZ (hw _ (List.mem_of_getElem? (i := 22) rfl))) (by decide) (backOf (W := 0) (rm4_a l Z a0 hw [] b9 ((x0 >>> ((32 : Int32) &&& 0x3f).toInt64).toInt32) (4 : Int32) b25 ((f0 x0) :: (f1 x0) :: (f2 x0) :: (f3 x0) :: (0 : Int32) :: (0 : Int32) :: tl_) 4 T26.heap n0 ZS26 Ex26_b9 Fs26 Fb26 V26 g_b9 g_b25 ne_b9_b25 (by decide) (by decide) (by first | (simp only [List.length_cons, List.length_nil]; omega) | simp) (by first | (simp only [List.length_cons, List.length_nil]; omega) | simp)) hZ (hw _ (List.mem_of_getElem? (i := 24) rfl)) (hw _ (List.mem_of_getElem? (i := 3) rfl)) (by decide) (by decide)) q27a q27c (g := (mkF m 66 #[.val (.long x0), .second, .val (.int x1), .val (.int x2), .val (.int x3), .val (.int at_), .val (.ref b9), .unset] [(.int ((x0 >>> ((32 : Int32) &&& 0x3f).toInt64).toInt32)), (.ref b9)])) rfl (by rw [hml]; rfl) (Steps.refl _) (argsL := [(.int ((x0 >>> ((32 : Int32) &&& 0x3f).toInt64).toInt32))]) (rest := []) (lenOf pd_1 rfl) rfl (by show 2 * 0 + _ ≤ _; exact Nat.le_of_eq rfl) (hb hby at_66) (fun _ _ => ⟨rfl, rfl, (by decide : 3 + 0 ≤ _), (by decide : 281 + 0 ≤ _)⟩)
    dsimp only [Pt.U, Pt.locs, Pt.cells, Pt.slots] at X27 l27 y27 z27 st27 hQ27
    subst l27 y27 z27
    obtain ⟨rfl, N27q, K27, Fb27, Fz27, Vz27⟩ := hQ27
    have N27 := Fr.app N26 N27q
    have Ex27_b9 : Exa Z T27.heap b9 "com/example/keelson/keelson/wire/WireWriter" := Ex26_b9.keep K27
    have Ex27_b25 : Exa Z T27.heap b25 "[B" := Ex26_b25.keep K27
    have Fs27 : Fld Z T27.heap b9 "com/example/keelson/keelson/wire/WireWriter" "size" "I" (.int (5 : Int32)) := Fz27
    have V27 : VArr Z T27.heap b25 .byte (((f0 x0) :: (f1 x0) :: (f2 x0) :: (f3 x0) :: (f4 x0) :: (0 : Int32) :: tl_).map Value.int) := Vz27
    have ZS27 : n0 ≤ T27.heap.size := Nat.le_trans ZS26 K27.1
    have KK27 : Keep h0 T27.heap [] := KK26.trans K27 (allS (Or.inr sz_b9) (allS (Or.inr sz_b25) all0))
    refine Go.tr (T' := T27) (f' := (mkF m 69 #[.val (.long x0), .second, .val (.int x1), .val (.int x2), .val (.int x3), .val (.int at_), .val (.ref b9), .unset] [])) st27 ?_
    refine Go.of (T' := T27) (f' := (mkF m 71 #[.val (.long x0), .second, .val (.int x1), .val (.int x2), .val (.int x3), .val (.int at_), .val (.ref b9), .unset] [(.ref b9)])) (fun t k => XS.aload X27.here hx rfl (hb hby at_69) rfl rfl k) ?_
    refine Go.of (T' := T27) (f' := (mkF m 72 #[.val (.long x0), .second, .val (.int x1), .val (.int x2), .val (.int x3), .val (.int at_), .val (.ref b9), .unset] [(.long x0), (.ref b9)])) (fun t k => XS.lloadN X27.here hx rfl (hb hby at_71) rfl k) ?_
    refine Go.of (T' := T27) (f' := (mkF m 74 #[.val (.long x0), .second, .val (.int x1), .val (.int x2), .val (.int x3), .val (.int at_), .val (.ref b9), .unset] [(.int (40 : Int32)), (.long x0), (.ref b9)])) (fun t k => XS.bipush X27.here hx rfl (hb hby at_72) k) ?_
    refine Go.of (T' := T27) (f' := (mkF m 75 #[.val (.long x0), .second, .val (.int x1), .val (.int x2), .val (.int x3), .val (.int at_), .val (.ref b9), .unset] [(.long (x0 >>> ((40 : Int32) &&& 0x3f).toInt64)), (.ref b9)])) (fun t k => XS.lshr X27.here hx rfl (hb hby at_74) rfl k) ?_
    refine Go.of (T' := T27) (f' := (mkF m 76 #[.val (.long x0), .second, .val (.int x1), .val (.int x2), .val (.int x3), .val (.int at_), .val (.ref b9), .unset] [(.int ((x0 >>> ((40 : Int32) &&& 0x3f).toInt64).toInt32)), (.ref b9)])) (fun t k => XS.l2i X27.here hx rfl (hb hby at_75) rfl k) ?_
    obtain ⟨cq28, kq28, q28a, q28b, q28c⟩ := isOf hZ rfl Ex27_b9
    obtain ⟨_, _, ⟨T28, L28, k28, n28⟩, -, X28, ⟨Lc28, hQ28, l28, y28, z28⟩, st28⟩ := X27.virtualBack hx (y := (⟨"com/example/keelson/keelson/wire/WireWriter", "int8", "(I)V"⟩ : MethodName)) (z := (⟨"com/example/keelson/keelson/wire/WireWriter", "int8", "(I)V"⟩ : MethodName)) hown (mvT hZ (hw _ (List.mem_of_getElem? (i := 20) rfl))) (mvT hZ (hw _ (List.mem_of_getElem? (i := 21) rfl))) (notFace_of_selects (args := #[]) (mvT hZ (hw _ (List.mem_of_getElem? (i := 23) rfl)))) (mvT hZ (hw _ (List.mem_of_getElem? (i := 23) rfl))) (mvT hZ (hw _ (List.mem_of_getElem? (i := 22) rfl))) (by decide) (backOf (W := 0) (rm4_a l Z a0 hw [] b9 ((x0 >>> ((40 : Int32) &&& 0x3f).toInt64).toInt32) (5 : Int32) b25 ((f0 x0) :: (f1 x0) :: (f2 x0) :: (f3 x0) :: (f4 x0) :: (0 : Int32) :: tl_) 5 T27.heap n0 ZS27 Ex27_b9 Fs27 Fb27 V27 g_b9 g_b25 ne_b9_b25 (by decide) (by decide) (by first | (simp only [List.length_cons, List.length_nil]; omega) | simp) (by first | (simp only [List.length_cons, List.length_nil]; omega) | simp)) hZ (hw _ (List.mem_of_getElem? (i := 24) rfl)) (hw _ (List.mem_of_getElem? (i := 3) rfl)) (by decide) (by decide)) q28a q28c (g := (mkF m 76 #[.val (.long x0), .second, .val (.int x1), .val (.int x2), .val (.int x3), .val (.int at_), .val (.ref b9), .unset] [(.int ((x0 >>> ((40 : Int32) &&& 0x3f).toInt64).toInt32)), (.ref b9)])) rfl (by rw [hml]; rfl) (Steps.refl _) (argsL := [(.int ((x0 >>> ((40 : Int32) &&& 0x3f).toInt64).toInt32))]) (rest := []) (lenOf pd_1 rfl) rfl (by show 2 * 0 + _ ≤ _; exact Nat.le_of_eq rfl) (hb hby at_76) (fun _ _ => ⟨rfl, rfl, (by decide : 3 + 0 ≤ _), (by decide : 281 + 0 ≤ _)⟩)
    dsimp only [Pt.U, Pt.locs, Pt.cells, Pt.slots] at X28 l28 y28 z28 st28 hQ28
    subst l28 y28 z28
    obtain ⟨rfl, N28q, K28, Fb28, Fz28, Vz28⟩ := hQ28
    have N28 := Fr.app N27 N28q
    have Ex28_b9 : Exa Z T28.heap b9 "com/example/keelson/keelson/wire/WireWriter" := Ex27_b9.keep K28
    have Ex28_b25 : Exa Z T28.heap b25 "[B" := Ex27_b25.keep K28
    have Fs28 : Fld Z T28.heap b9 "com/example/keelson/keelson/wire/WireWriter" "size" "I" (.int (6 : Int32)) := Fz28
    have V28 : VArr Z T28.heap b25 .byte (((f0 x0) :: (f1 x0) :: (f2 x0) :: (f3 x0) :: (f4 x0) :: (f5 x0) :: tl_).map Value.int) := Vz28
    have ZS28 : n0 ≤ T28.heap.size := Nat.le_trans ZS27 K28.1
    have KK28 : Keep h0 T28.heap [] := KK27.trans K28 (allS (Or.inr sz_b9) (allS (Or.inr sz_b25) all0))
    refine Go.tr (T' := T28) (f' := (mkF m 79 #[.val (.long x0), .second, .val (.int x1), .val (.int x2), .val (.int x3), .val (.int at_), .val (.ref b9), .unset] [])) st28 ?_
    have TY6 := own_ty6 x0 htT
    have XX := X28.more (cells' := 3) (slots' := 300) (by decide) (by decide)
    exact TAIL T28 _ T28.heap b9 b25 tl_ XX rfl N28 Ex28_b9 Fb28 Fs28 Ex28_b25 V28 g_b9 g_b25 ne_b9_b25 sz_b9 sz_b25 TY6 htl ZS28 KK28
  · -- capacity 3
    rw [hn, show (3 : Int32).toNatClampNeg = 3 from by decide] at Vb10
    have VV : VArr Z T10.heap b10 .byte (([(0 : Int32), (0 : Int32), (0 : Int32)] : List Int32).map Value.int) := Vb10
    refine Go.of (T' := T10) (f' := (mkF m 22 #[.val (.long x0), .second, .val (.int x1), .val (.int x2), .val (.int x3), .val (.int at_), .val (.ref b9), .unset] [])) (fun t k => XS.astore X10.here hx rfl (hb hby at_20) rfl rfl (l' := #[.val (.long x0), .second, .val (.int x1), .val (.int x2), .val (.int x3), .val (.int at_), .val (.ref b9), .unset]) rfl k) ?_
    refine Go.of (T' := T10) (f' := (mkF m 24 #[.val (.long x0), .second, .val (.int x1), .val (.int x2), .val (.int x3), .val (.int at_), .val (.ref b9), .unset] [(.ref b9)])) (fun t k => XS.aload X10.here hx rfl (hb hby at_22) rfl rfl k) ?_
    refine Go.of (T' := T10) (f' := (mkF m 25 #[.val (.long x0), .second, .val (.int x1), .val (.int x2), .val (.int x3), .val (.int at_), .val (.ref b9), .unset] [(.long x0), (.ref b9)])) (fun t k => XS.lloadN X10.here hx rfl (hb hby at_24) rfl k) ?_
    refine Go.of (T' := T10) (f' := (mkF m 26 #[.val (.long x0), .second, .val (.int x1), .val (.int x2), .val (.int x3), .val (.int at_), .val (.ref b9), .unset] [(.int (x0.toInt32)), (.ref b9)])) (fun t k => XS.l2i X10.here hx rfl (hb hby at_25) rfl k) ?_
    obtain ⟨cq29, kq29, q29a, q29b, q29c⟩ := isOf hZ rfl Ex10_b9
    obtain ⟨_, _, ⟨T29, L29, k29, n29⟩, -, X29, ⟨Lc29, hQ29, l29, y29, z29⟩, st29⟩ := X10.virtualBack hx (y := (⟨"com/example/keelson/keelson/wire/WireWriter", "int8", "(I)V"⟩ : MethodName)) (z := (⟨"com/example/keelson/keelson/wire/WireWriter", "int8", "(I)V"⟩ : MethodName)) hown (mvT hZ (hw _ (List.mem_of_getElem? (i := 20) rfl))) (mvT hZ (hw _ (List.mem_of_getElem? (i := 21) rfl))) (notFace_of_selects (args := #[]) (mvT hZ (hw _ (List.mem_of_getElem? (i := 23) rfl)))) (mvT hZ (hw _ (List.mem_of_getElem? (i := 23) rfl))) (mvT hZ (hw _ (List.mem_of_getElem? (i := 22) rfl))) (by decide) (backOf (W := 0) (rm4_a l Z a0 hw [] b9 (x0.toInt32) (0 : Int32) b10 [(0 : Int32), (0 : Int32), (0 : Int32)] 0 T10.heap n0 ZS10 Ex10_b9 Fs10 Fb10 VV g_b9 g_b10 ne_b9_b10 (by decide) (by decide) (by first | (simp only [List.length_cons, List.length_nil]; omega) | simp) (by first | (simp only [List.length_cons, List.length_nil]; omega) | simp)) hZ (hw _ (List.mem_of_getElem? (i := 24) rfl)) (hw _ (List.mem_of_getElem? (i := 3) rfl)) (by decide) (by decide)) q29a q29c (g := (mkF m 26 #[.val (.long x0), .second, .val (.int x1), .val (.int x2), .val (.int x3), .val (.int at_), .val (.ref b9), .unset] [(.int (x0.toInt32)), (.ref b9)])) rfl (by rw [hml]; rfl) (Steps.refl _) (argsL := [(.int (x0.toInt32))]) (rest := []) (lenOf pd_1 rfl) rfl (by show 2 * 0 + _ ≤ _; exact Nat.le_of_eq rfl) (hb hby at_26) (fun _ _ => ⟨rfl, rfl, (by decide : 2 + 0 ≤ _), (by decide : 19 + 0 ≤ _)⟩)
    dsimp only [Pt.U, Pt.locs, Pt.cells, Pt.slots] at X29 l29 y29 z29 st29 hQ29
    subst l29 y29 z29
    obtain ⟨rfl, N29q, K29, Fb29, Fz29, Vz29⟩ := hQ29
    have N29 := Fr.app N10 N29q
    have Ex29_b9 : Exa Z T29.heap b9 "com/example/keelson/keelson/wire/WireWriter" := Ex10_b9.keep K29
    have Ex29_b10 : Exa Z T29.heap b10 "[B" := Ex10.keep K29
    have Fs29 : Fld Z T29.heap b9 "com/example/keelson/keelson/wire/WireWriter" "size" "I" (.int (1 : Int32)) := Fz29
    have V29 : VArr Z T29.heap b10 .byte ([(f0 x0), (0 : Int32), (0 : Int32)].map Value.int) := Vz29
    have ZS29 : n0 ≤ T29.heap.size := Nat.le_trans ZS10 K29.1
    have KK29 : Keep h0 T29.heap [] := KK10.trans K29 (allS (Or.inr sz_b9) (allS (Or.inr sz_b10) all0))
    refine Go.tr (T' := T29) (f' := (mkF m 29 #[.val (.long x0), .second, .val (.int x1), .val (.int x2), .val (.int x3), .val (.int at_), .val (.ref b9), .unset] [])) st29 ?_
    refine Go.of (T' := T29) (f' := (mkF m 31 #[.val (.long x0), .second, .val (.int x1), .val (.int x2), .val (.int x3), .val (.int at_), .val (.ref b9), .unset] [(.ref b9)])) (fun t k => XS.aload X29.here hx rfl (hb hby at_29) rfl rfl k) ?_
    refine Go.of (T' := T29) (f' := (mkF m 32 #[.val (.long x0), .second, .val (.int x1), .val (.int x2), .val (.int x3), .val (.int at_), .val (.ref b9), .unset] [(.long x0), (.ref b9)])) (fun t k => XS.lloadN X29.here hx rfl (hb hby at_31) rfl k) ?_
    refine Go.of (T' := T29) (f' := (mkF m 34 #[.val (.long x0), .second, .val (.int x1), .val (.int x2), .val (.int x3), .val (.int at_), .val (.ref b9), .unset] [(.int (8 : Int32)), (.long x0), (.ref b9)])) (fun t k => XS.bipush X29.here hx rfl (hb hby at_32) k) ?_
    refine Go.of (T' := T29) (f' := (mkF m 35 #[.val (.long x0), .second, .val (.int x1), .val (.int x2), .val (.int x3), .val (.int at_), .val (.ref b9), .unset] [(.long (x0 >>> ((8 : Int32) &&& 0x3f).toInt64)), (.ref b9)])) (fun t k => XS.lshr X29.here hx rfl (hb hby at_34) rfl k) ?_
    refine Go.of (T' := T29) (f' := (mkF m 36 #[.val (.long x0), .second, .val (.int x1), .val (.int x2), .val (.int x3), .val (.int at_), .val (.ref b9), .unset] [(.int ((x0 >>> ((8 : Int32) &&& 0x3f).toInt64).toInt32)), (.ref b9)])) (fun t k => XS.l2i X29.here hx rfl (hb hby at_35) rfl k) ?_
    obtain ⟨cq30, kq30, q30a, q30b, q30c⟩ := isOf hZ rfl Ex29_b9
    obtain ⟨_, _, ⟨T30, L30, k30, n30⟩, -, X30, ⟨Lc30, hQ30, l30, y30, z30⟩, st30⟩ := X29.virtualBack hx (y := (⟨"com/example/keelson/keelson/wire/WireWriter", "int8", "(I)V"⟩ : MethodName)) (z := (⟨"com/example/keelson/keelson/wire/WireWriter", "int8", "(I)V"⟩ : MethodName)) hown (mvT hZ (hw _ (List.mem_of_getElem? (i := 20) rfl))) (mvT hZ (hw _ (List.mem_of_getElem? (i := 21) rfl))) (notFace_of_selects (args := #[]) (mvT hZ (hw _ (List.mem_of_getElem? (i := 23) rfl)))) (mvT hZ (hw _ (List.mem_of_getElem? (i := 23) rfl))) (mvT hZ (hw _ (List.mem_of_getElem? (i := 22) rfl))) (by decide) (backOf (W := 0) (rm4_a l Z a0 hw [] b9 ((x0 >>> ((8 : Int32) &&& 0x3f).toInt64).toInt32) (1 : Int32) b10 [(f0 x0), (0 : Int32), (0 : Int32)] 1 T29.heap n0 ZS29 Ex29_b9 Fs29 Fb29 V29 g_b9 g_b10 ne_b9_b10 (by decide) (by decide) (by first | (simp only [List.length_cons, List.length_nil]; omega) | simp) (by first | (simp only [List.length_cons, List.length_nil]; omega) | simp)) hZ (hw _ (List.mem_of_getElem? (i := 24) rfl)) (hw _ (List.mem_of_getElem? (i := 3) rfl)) (by decide) (by decide)) q30a q30c (g := (mkF m 36 #[.val (.long x0), .second, .val (.int x1), .val (.int x2), .val (.int x3), .val (.int at_), .val (.ref b9), .unset] [(.int ((x0 >>> ((8 : Int32) &&& 0x3f).toInt64).toInt32)), (.ref b9)])) rfl (by rw [hml]; rfl) (Steps.refl _) (argsL := [(.int ((x0 >>> ((8 : Int32) &&& 0x3f).toInt64).toInt32))]) (rest := []) (lenOf pd_1 rfl) rfl (by show 2 * 0 + _ ≤ _; exact Nat.le_of_eq rfl) (hb hby at_36) (fun _ _ => ⟨rfl, rfl, (by decide : 2 + 0 ≤ _), (by decide : 19 + 0 ≤ _)⟩)
    dsimp only [Pt.U, Pt.locs, Pt.cells, Pt.slots] at X30 l30 y30 z30 st30 hQ30
    subst l30 y30 z30
    obtain ⟨rfl, N30q, K30, Fb30, Fz30, Vz30⟩ := hQ30
    have N30 := Fr.app N29 N30q
    have Ex30_b9 : Exa Z T30.heap b9 "com/example/keelson/keelson/wire/WireWriter" := Ex29_b9.keep K30
    have Ex30_b10 : Exa Z T30.heap b10 "[B" := Ex29_b10.keep K30
    have Fs30 : Fld Z T30.heap b9 "com/example/keelson/keelson/wire/WireWriter" "size" "I" (.int (2 : Int32)) := Fz30
    have V30 : VArr Z T30.heap b10 .byte ([(f0 x0), (f1 x0), (0 : Int32)].map Value.int) := Vz30
    have ZS30 : n0 ≤ T30.heap.size := Nat.le_trans ZS29 K30.1
    have KK30 : Keep h0 T30.heap [] := KK29.trans K30 (allS (Or.inr sz_b9) (allS (Or.inr sz_b10) all0))
    refine Go.tr (T' := T30) (f' := (mkF m 39 #[.val (.long x0), .second, .val (.int x1), .val (.int x2), .val (.int x3), .val (.int at_), .val (.ref b9), .unset] [])) st30 ?_
    refine Go.of (T' := T30) (f' := (mkF m 41 #[.val (.long x0), .second, .val (.int x1), .val (.int x2), .val (.int x3), .val (.int at_), .val (.ref b9), .unset] [(.ref b9)])) (fun t k => XS.aload X30.here hx rfl (hb hby at_39) rfl rfl k) ?_
    refine Go.of (T' := T30) (f' := (mkF m 42 #[.val (.long x0), .second, .val (.int x1), .val (.int x2), .val (.int x3), .val (.int at_), .val (.ref b9), .unset] [(.long x0), (.ref b9)])) (fun t k => XS.lloadN X30.here hx rfl (hb hby at_41) rfl k) ?_
    refine Go.of (T' := T30) (f' := (mkF m 44 #[.val (.long x0), .second, .val (.int x1), .val (.int x2), .val (.int x3), .val (.int at_), .val (.ref b9), .unset] [(.int (16 : Int32)), (.long x0), (.ref b9)])) (fun t k => XS.bipush X30.here hx rfl (hb hby at_42) k) ?_
    refine Go.of (T' := T30) (f' := (mkF m 45 #[.val (.long x0), .second, .val (.int x1), .val (.int x2), .val (.int x3), .val (.int at_), .val (.ref b9), .unset] [(.long (x0 >>> ((16 : Int32) &&& 0x3f).toInt64)), (.ref b9)])) (fun t k => XS.lshr X30.here hx rfl (hb hby at_44) rfl k) ?_
    refine Go.of (T' := T30) (f' := (mkF m 46 #[.val (.long x0), .second, .val (.int x1), .val (.int x2), .val (.int x3), .val (.int at_), .val (.ref b9), .unset] [(.int ((x0 >>> ((16 : Int32) &&& 0x3f).toInt64).toInt32)), (.ref b9)])) (fun t k => XS.l2i X30.here hx rfl (hb hby at_45) rfl k) ?_
    obtain ⟨cq31, kq31, q31a, q31b, q31c⟩ := isOf hZ rfl Ex30_b9
    obtain ⟨_, _, ⟨T31, L31, k31, n31⟩, -, X31, ⟨Lc31, hQ31, l31, y31, z31⟩, st31⟩ := X30.virtualBack hx (y := (⟨"com/example/keelson/keelson/wire/WireWriter", "int8", "(I)V"⟩ : MethodName)) (z := (⟨"com/example/keelson/keelson/wire/WireWriter", "int8", "(I)V"⟩ : MethodName)) hown (mvT hZ (hw _ (List.mem_of_getElem? (i := 20) rfl))) (mvT hZ (hw _ (List.mem_of_getElem? (i := 21) rfl))) (notFace_of_selects (args := #[]) (mvT hZ (hw _ (List.mem_of_getElem? (i := 23) rfl)))) (mvT hZ (hw _ (List.mem_of_getElem? (i := 23) rfl))) (mvT hZ (hw _ (List.mem_of_getElem? (i := 22) rfl))) (by decide) (backOf (W := 0) (rm4_a l Z a0 hw [] b9 ((x0 >>> ((16 : Int32) &&& 0x3f).toInt64).toInt32) (2 : Int32) b10 [(f0 x0), (f1 x0), (0 : Int32)] 2 T30.heap n0 ZS30 Ex30_b9 Fs30 Fb30 V30 g_b9 g_b10 ne_b9_b10 (by decide) (by decide) (by first | (simp only [List.length_cons, List.length_nil]; omega) | simp) (by first | (simp only [List.length_cons, List.length_nil]; omega) | simp)) hZ (hw _ (List.mem_of_getElem? (i := 24) rfl)) (hw _ (List.mem_of_getElem? (i := 3) rfl)) (by decide) (by decide)) q31a q31c (g := (mkF m 46 #[.val (.long x0), .second, .val (.int x1), .val (.int x2), .val (.int x3), .val (.int at_), .val (.ref b9), .unset] [(.int ((x0 >>> ((16 : Int32) &&& 0x3f).toInt64).toInt32)), (.ref b9)])) rfl (by rw [hml]; rfl) (Steps.refl _) (argsL := [(.int ((x0 >>> ((16 : Int32) &&& 0x3f).toInt64).toInt32))]) (rest := []) (lenOf pd_1 rfl) rfl (by show 2 * 0 + _ ≤ _; exact Nat.le_of_eq rfl) (hb hby at_46) (fun _ _ => ⟨rfl, rfl, (by decide : 2 + 0 ≤ _), (by decide : 19 + 0 ≤ _)⟩)
    dsimp only [Pt.U, Pt.locs, Pt.cells, Pt.slots] at X31 l31 y31 z31 st31 hQ31
    subst l31 y31 z31
    obtain ⟨rfl, N31q, K31, Fb31, Fz31, Vz31⟩ := hQ31
    have N31 := Fr.app N30 N31q
    have Ex31_b9 : Exa Z T31.heap b9 "com/example/keelson/keelson/wire/WireWriter" := Ex30_b9.keep K31
    have Ex31_b10 : Exa Z T31.heap b10 "[B" := Ex30_b10.keep K31
    have Fs31 : Fld Z T31.heap b9 "com/example/keelson/keelson/wire/WireWriter" "size" "I" (.int (3 : Int32)) := Fz31
    have V31 : VArr Z T31.heap b10 .byte ([(f0 x0), (f1 x0), (f2 x0)].map Value.int) := Vz31
    have ZS31 : n0 ≤ T31.heap.size := Nat.le_trans ZS30 K31.1
    have KK31 : Keep h0 T31.heap [] := KK30.trans K31 (allS (Or.inr sz_b9) (allS (Or.inr sz_b10) all0))
    refine Go.tr (T' := T31) (f' := (mkF m 49 #[.val (.long x0), .second, .val (.int x1), .val (.int x2), .val (.int x3), .val (.int at_), .val (.ref b9), .unset] [])) st31 ?_
    refine Go.of (T' := T31) (f' := (mkF m 51 #[.val (.long x0), .second, .val (.int x1), .val (.int x2), .val (.int x3), .val (.int at_), .val (.ref b9), .unset] [(.ref b9)])) (fun t k => XS.aload X31.here hx rfl (hb hby at_49) rfl rfl k) ?_
    refine Go.of (T' := T31) (f' := (mkF m 52 #[.val (.long x0), .second, .val (.int x1), .val (.int x2), .val (.int x3), .val (.int at_), .val (.ref b9), .unset] [(.long x0), (.ref b9)])) (fun t k => XS.lloadN X31.here hx rfl (hb hby at_51) rfl k) ?_
    refine Go.of (T' := T31) (f' := (mkF m 54 #[.val (.long x0), .second, .val (.int x1), .val (.int x2), .val (.int x3), .val (.int at_), .val (.ref b9), .unset] [(.int (24 : Int32)), (.long x0), (.ref b9)])) (fun t k => XS.bipush X31.here hx rfl (hb hby at_52) k) ?_
    refine Go.of (T' := T31) (f' := (mkF m 55 #[.val (.long x0), .second, .val (.int x1), .val (.int x2), .val (.int x3), .val (.int at_), .val (.ref b9), .unset] [(.long (x0 >>> ((24 : Int32) &&& 0x3f).toInt64)), (.ref b9)])) (fun t k => XS.lshr X31.here hx rfl (hb hby at_54) rfl k) ?_
    refine Go.of (T' := T31) (f' := (mkF m 56 #[.val (.long x0), .second, .val (.int x1), .val (.int x2), .val (.int x3), .val (.int at_), .val (.ref b9), .unset] [(.int ((x0 >>> ((24 : Int32) &&& 0x3f).toInt64).toInt32)), (.ref b9)])) (fun t k => XS.l2i X31.here hx rfl (hb hby at_55) rfl k) ?_
    have TY32 : TyB [(f0 x0), (f1 x0), (f2 x0)] := own_ty3 x0
    obtain ⟨cq32, kq32, q32a, q32b, q32c⟩ := isOf hZ rfl Ex31_b9
    obtain ⟨_, _, ⟨T32, L32, k32, n32⟩, -, X32, ⟨Lc32, hQ32, l32, y32, z32⟩, st32⟩ := X31.virtualBack hx (y := (⟨"com/example/keelson/keelson/wire/WireWriter", "int8", "(I)V"⟩ : MethodName)) (z := (⟨"com/example/keelson/keelson/wire/WireWriter", "int8", "(I)V"⟩ : MethodName)) hown (mvT hZ (hw _ (List.mem_of_getElem? (i := 20) rfl))) (mvT hZ (hw _ (List.mem_of_getElem? (i := 21) rfl))) (notFace_of_selects (args := #[]) (mvT hZ (hw _ (List.mem_of_getElem? (i := 23) rfl)))) (mvT hZ (hw _ (List.mem_of_getElem? (i := 23) rfl))) (mvT hZ (hw _ (List.mem_of_getElem? (i := 22) rfl))) (by decide) (backOf (W := 0) (rm4_b l Z a0 hw [] b9 ((x0 >>> ((24 : Int32) &&& 0x3f).toInt64).toInt32) (3 : Int32) b10 [(f0 x0), (f1 x0), (f2 x0)] 260 3 T31.heap n0 ZS31 Ex31_b9 Fs31 Fb31 V31 Ex31_b10 g_b9 ne_b9_b10 TY32 (by first | (simp only [List.length_cons, List.length_nil]; omega) | simp) (own_g ⟨3, by decide⟩).1 (own_g ⟨3, by decide⟩).2 (by decide) (by decide) (by decide) (by decide)) hZ (hw _ (List.mem_of_getElem? (i := 24) rfl)) (hw _ (List.mem_of_getElem? (i := 3) rfl)) (by decide) (by decide)) q32a q32c (g := (mkF m 56 #[.val (.long x0), .second, .val (.int x1), .val (.int x2), .val (.int x3), .val (.int at_), .val (.ref b9), .unset] [(.int ((x0 >>> ((24 : Int32) &&& 0x3f).toInt64).toInt32)), (.ref b9)])) rfl (by rw [hml]; rfl) (Steps.refl _) (argsL := [(.int ((x0 >>> ((24 : Int32) &&& 0x3f).toInt64).toInt32))]) (rest := []) (lenOf pd_1 rfl) rfl (by show 2 * 0 + _ ≤ _; exact Nat.le_of_eq rfl) (hb hby at_56) (fun _ _ => ⟨rfl, rfl, (by decide : 2 + 1 ≤ _), (by decide : 19 + 262 ≤ _)⟩)
    dsimp only [Pt.U, Pt.locs, Pt.cells, Pt.slots] at X32 l32 y32 z32 st32 hQ32
    subst l32 y32 z32
    obtain ⟨b32, rfl, N32q, K32, sb32, g_b32, Fb32, Fz32, Exz32, Vz32⟩ := hQ32
    have N32 := Fr.app N31 N32q
    have ne_b9_b32 : b9 ≠ b32 := Nat.ne_of_lt (Nat.lt_of_lt_of_le Fb31.lt sb32)
    have ne_b10_b32 : b10 ≠ b32 := Nat.ne_of_lt (Nat.lt_of_lt_of_le Ex31_b10.lt sb32)
    have sz_b32 : h0.size ≤ b32 := Nat.le_trans KK31.1 sb32
    have Ex32_b9 : Exa Z T32.heap b9 "com/example/keelson/keelson/wire/WireWriter" := Ex31_b9.keep K32
    have Ex32_b10 : Exa Z T32.heap b10 "[B" := Ex31_b10.keep K32
    have V32_b10 : VArr Z T32.heap b10 .byte ([(f0 x0), (f1 x0), (f2 x0)].map Value.int) := V31.keep K32 (ninS (Ne.symm ne_b9_b10) nin0)
    obtain ⟨tl_, htl, htT, hcp⟩ := own_cpy6 [(f0 x0), (f1 x0), (f2 x0)] TY32 260 254 (by decide) (by decide)
    rw [hcp] at Vz32
    have Fs32 : Fld Z T32.heap b9 "com/example/keelson/keelson/wire/WireWriter" "size" "I" (.int (4 : Int32)) := Fz32
    have V32 : VArr Z T32.heap b32 .byte (((f0 x0) :: (f1 x0) :: (f2 x0) :: (f3 x0) :: (0 : Int32) :: (0 : Int32) :: tl_).map Value.int) := Vz32
    have ZS32 : n0 ≤ T32.heap.size := Nat.le_trans ZS31 K32.1
    have KK32 : Keep h0 T32.heap [] := KK31.trans K32 (allS (Or.inr sz_b9) all0)
    refine Go.tr (T' := T32) (f' := (mkF m 59 #[.val (.long x0), .second, .val (.int x1), .val (.int x2), .val (.int x3), .val (.int at_), .val (.ref b9), .unset] [])) st32 ?_
    refine Go.of (T' := T32) (f' := (mkF m 61 #[.val (.long x0), .second, .val (.int x1), .val (.int x2), .val (.int x3), .val (.int at_), .val (.ref b9), .unset] [(.ref b9)])) (fun t k => XS.aload X32.here hx rfl (hb hby at_59) rfl rfl k) ?_
    refine Go.of (T' := T32) (f' := (mkF m 62 #[.val (.long x0), .second, .val (.int x1), .val (.int x2), .val (.int x3), .val (.int at_), .val (.ref b9), .unset] [(.long x0), (.ref b9)])) (fun t k => XS.lloadN X32.here hx rfl (hb hby at_61) rfl k) ?_
    refine Go.of (T' := T32) (f' := (mkF m 64 #[.val (.long x0), .second, .val (.int x1), .val (.int x2), .val (.int x3), .val (.int at_), .val (.ref b9), .unset] [(.int (32 : Int32)), (.long x0), (.ref b9)])) (fun t k => XS.bipush X32.here hx rfl (hb hby at_62) k) ?_
    refine Go.of (T' := T32) (f' := (mkF m 65 #[.val (.long x0), .second, .val (.int x1), .val (.int x2), .val (.int x3), .val (.int at_), .val (.ref b9), .unset] [(.long (x0 >>> ((32 : Int32) &&& 0x3f).toInt64)), (.ref b9)])) (fun t k => XS.lshr X32.here hx rfl (hb hby at_64) rfl k) ?_
    refine Go.of (T' := T32) (f' := (mkF m 66 #[.val (.long x0), .second, .val (.int x1), .val (.int x2), .val (.int x3), .val (.int at_), .val (.ref b9), .unset] [(.int ((x0 >>> ((32 : Int32) &&& 0x3f).toInt64).toInt32)), (.ref b9)])) (fun t k => XS.l2i X32.here hx rfl (hb hby at_65) rfl k) ?_
    obtain ⟨cq33, kq33, q33a, q33b, q33c⟩ := isOf hZ rfl Ex32_b9
    obtain ⟨_, _, ⟨T33, L33, k33, n33⟩, -, X33, ⟨Lc33, hQ33, l33, y33, z33⟩, st33⟩ := X32.virtualBack hx (y := (⟨"com/example/keelson/keelson/wire/WireWriter", "int8", "(I)V"⟩ : MethodName)) (z := (⟨"com/example/keelson/keelson/wire/WireWriter", "int8", "(I)V"⟩ : MethodName)) hown (mvT hZ (hw _ (List.mem_of_getElem? (i := 20) rfl))) (mvT hZ (hw _ (List.mem_of_getElem? (i := 21) rfl))) (notFace_of_selects (args := #[]) (mvT hZ (hw _ (List.mem_of_getElem? (i := 23) rfl)))) (mvT hZ (hw _ (List.mem_of_getElem? (i := 23) rfl))) (mvT hZ (hw _ (List.mem_of_getElem? (i := 22) rfl))) (by decide) (backOf (W := 0) (rm4_a l Z a0 hw [] b9 ((x0 >>> ((32 : Int32) &&& 0x3f).toInt64).toInt32) (4 : Int32) b32 ((f0 x0) :: (f1 x0) :: (f2 x0) :: (f3 x0) :: (0 : Int32) :: (0 : Int32) :: tl_) 4 T32.heap n0 ZS32 Ex32_b9 Fs32 Fb32 V32 g_b9 g_b32 ne_b9_b32 (by decide) (by decide) (by first | (simp only [List.length_cons, List.length_nil]; omega) | simp) (by first | (simp only [List.length_cons, List.length_nil]; omega) | simp)) hZ (hw _ (List.mem_of_getElem? (i := 24) rfl)) (hw _ (List.mem_of_getElem? (i := 3) rfl)) (by decide) (by decide)) q33a q33c (g := (mkF m 66 #[.val (.long x0), .second, .val (.int x1), .val (.int x2), .val (.int x3), .val (.int at_), .val (.ref b9), .unset] [(.int ((x0 >>> ((32 : Int32) &&& 0x3f).toInt64).toInt32)), (.ref b9)])) rfl (by rw [hml]; rfl) (Steps.refl _) (argsL := [(.int ((x0 >>> ((32 : Int32) &&& 0x3f).toInt64).toInt32))]) (rest := []) (lenOf pd_1 rfl) rfl (by show 2 * 0 + _ ≤ _; exact Nat.le_of_eq rfl) (hb hby at_66) (fun _ _ => ⟨rfl, rfl, (by decide : 3 + 0 ≤ _), (by decide : 281 + 0 ≤ _)⟩)
    dsimp only [Pt.U, Pt.locs, Pt.cells, Pt.slots] at X33 l33 y33 z33 st33 hQ33
    subst l33 y33 z33
    obtain ⟨rfl, N33q, K33, Fb33, Fz33, Vz33⟩ := hQ33
    have N33 := Fr.app N32 N33q
    have Ex33_b9 : Exa Z T33.heap b9 "com/example/keelson/keelson/wire/WireWriter" := Ex32_b9.keep K33
    have Ex33_b32 : Exa Z T33.heap b32 "[B" := Exz32.keep K33
    have Fs33 : Fld Z T33.heap b9 "com/example/keelson/keelson/wire/WireWriter" "size" "I" (.int (5 : Int32)) := Fz33
    have V33 : VArr Z T33.heap b32 .byte (((f0 x0) :: (f1 x0) :: (f2 x0) :: (f3 x0) :: (f4 x0) :: (0 : Int32) :: tl_).map Value.int) := Vz33
    have ZS33 : n0 ≤ T33.heap.size := Nat.le_trans ZS32 K33.1
    have KK33 : Keep h0 T33.heap [] := KK32.trans K33 (allS (Or.inr sz_b9) (allS (Or.inr sz_b32) all0))
    refine Go.tr (T' := T33) (f' := (mkF m 69 #[.val (.long x0), .second, .val (.int x1), .val (.int x2), .val (.int x3), .val (.int at_), .val (.ref b9), .unset] [])) st33 ?_
    refine Go.of (T' := T33) (f' := (mkF m 71 #[.val (.long x0), .second, .val (.int x1), .val (.int x2), .val (.int x3), .val (.int at_), .val (.ref b9), .unset] [(.ref b9)])) (fun t k => XS.aload X33.here hx rfl (hb hby at_69) rfl rfl k) ?_
    refine Go.of (T' := T33) (f' := (mkF m 72 #[.val (.long x0), .second, .val (.int x1), .val (.int x2), .val (.int x3), .val (.int at_), .val (.ref b9), .unset] [(.long x0), (.ref b9)])) (fun t k => XS.lloadN X33.here hx rfl (hb hby at_71) rfl k) ?_
    refine Go.of (T' := T33) (f' := (mkF m 74 #[.val (.long x0), .second, .val (.int x1), .val (.int x2), .val (.int x3), .val (.int at_), .val (.ref b9), .unset] [(.int (40 : Int32)), (.long x0), (.ref b9)])) (fun t k => XS.bipush X33.here hx rfl (hb hby at_72) k) ?_
    refine Go.of (T' := T33) (f' := (mkF m 75 #[.val (.long x0), .second, .val (.int x1), .val (.int x2), .val (.int x3), .val (.int at_), .val (.ref b9), .unset] [(.long (x0 >>> ((40 : Int32) &&& 0x3f).toInt64)), (.ref b9)])) (fun t k => XS.lshr X33.here hx rfl (hb hby at_74) rfl k) ?_
    refine Go.of (T' := T33) (f' := (mkF m 76 #[.val (.long x0), .second, .val (.int x1), .val (.int x2), .val (.int x3), .val (.int at_), .val (.ref b9), .unset] [(.int ((x0 >>> ((40 : Int32) &&& 0x3f).toInt64).toInt32)), (.ref b9)])) (fun t k => XS.l2i X33.here hx rfl (hb hby at_75) rfl k) ?_
    obtain ⟨cq34, kq34, q34a, q34b, q34c⟩ := isOf hZ rfl Ex33_b9
    obtain ⟨_, _, ⟨T34, L34, k34, n34⟩, -, X34, ⟨Lc34, hQ34, l34, y34, z34⟩, st34⟩ := X33.virtualBack hx (y := (⟨"com/example/keelson/keelson/wire/WireWriter", "int8", "(I)V"⟩ : MethodName)) (z := (⟨"com/example/keelson/keelson/wire/WireWriter", "int8", "(I)V"⟩ : MethodName)) hown (mvT hZ (hw _ (List.mem_of_getElem? (i := 20) rfl))) (mvT hZ (hw _ (List.mem_of_getElem? (i := 21) rfl))) (notFace_of_selects (args := #[]) (mvT hZ (hw _ (List.mem_of_getElem? (i := 23) rfl)))) (mvT hZ (hw _ (List.mem_of_getElem? (i := 23) rfl))) (mvT hZ (hw _ (List.mem_of_getElem? (i := 22) rfl))) (by decide) (backOf (W := 0) (rm4_a l Z a0 hw [] b9 ((x0 >>> ((40 : Int32) &&& 0x3f).toInt64).toInt32) (5 : Int32) b32 ((f0 x0) :: (f1 x0) :: (f2 x0) :: (f3 x0) :: (f4 x0) :: (0 : Int32) :: tl_) 5 T33.heap n0 ZS33 Ex33_b9 Fs33 Fb33 V33 g_b9 g_b32 ne_b9_b32 (by decide) (by decide) (by first | (simp only [List.length_cons, List.length_nil]; omega) | simp) (by first | (simp only [List.length_cons, List.length_nil]; omega) | simp)) hZ (hw _ (List.mem_of_getElem? (i := 24) rfl)) (hw _ (List.mem_of_getElem? (i := 3) rfl)) (by decide) (by decide)) q34a q34c (g := (mkF m 76 #[.val (.long x0), .second, .val (.int x1), .val (.int x2), .val (.int x3), .val (.int at_), .val (.ref b9), .unset] [(.int ((x0 >>> ((40 : Int32) &&& 0x3f).toInt64).toInt32)), (.ref b9)])) rfl (by rw [hml]; rfl) (Steps.refl _) (argsL := [(.int ((x0 >>> ((40 : Int32) &&& 0x3f).toInt64).toInt32))]) (rest := []) (lenOf pd_1 rfl) rfl (by show 2 * 0 + _ ≤ _; exact Nat.le_of_eq rfl) (hb hby at_76) (fun _ _ => ⟨rfl, rfl, (by decide : 3 + 0 ≤ _), (by decide : 281 + 0 ≤ _)⟩)
    dsimp only [Pt.U, Pt.locs, Pt.cells, Pt.slots] at X34 l34 y34 z34 st34 hQ34
    subst l34 y34 z34
    obtain ⟨rfl, N34q, K34, Fb34, Fz34, Vz34⟩ := hQ34
    have N34 := Fr.app N33 N34q
    have Ex34_b9 : Exa Z T34.heap b9 "com/example/keelson/keelson/wire/WireWriter" := Ex33_b9.keep K34
    have Ex34_b32 : Exa Z T34.heap b32 "[B" := Ex33_b32.keep K34
    have Fs34 : Fld Z T34.heap b9 "com/example/keelson/keelson/wire/WireWriter" "size" "I" (.int (6 : Int32)) := Fz34
    have V34 : VArr Z T34.heap b32 .byte (((f0 x0) :: (f1 x0) :: (f2 x0) :: (f3 x0) :: (f4 x0) :: (f5 x0) :: tl_).map Value.int) := Vz34
    have ZS34 : n0 ≤ T34.heap.size := Nat.le_trans ZS33 K34.1
    have KK34 : Keep h0 T34.heap [] := KK33.trans K34 (allS (Or.inr sz_b9) (allS (Or.inr sz_b32) all0))
    refine Go.tr (T' := T34) (f' := (mkF m 79 #[.val (.long x0), .second, .val (.int x1), .val (.int x2), .val (.int x3), .val (.int at_), .val (.ref b9), .unset] [])) st34 ?_
    have TY6 := own_ty6 x0 htT
    have XX := X34.more (cells' := 3) (slots' := 300) (by decide) (by decide)
    exact TAIL T34 _ T34.heap b9 b32 tl_ XX rfl N34 Ex34_b9 Fb34 Fs34 Ex34_b32 V34 g_b9 g_b32 ne_b9_b32 sz_b9 sz_b32 TY6 htl ZS34 KK34
  · -- capacity 4
    rw [hn, show (4 : Int32).toNatClampNeg = 4 from by decide] at Vb10
    have VV : VArr Z T10.heap b10 .byte (([(0 : Int32), (0 : Int32), (0 : Int32), (0 : Int32)] : List Int32).map Value.int) := Vb10
    refine Go.of (T' := T10) (f' := (mkF m 22 #[.val (.long x0), .second, .val (.int x1), .val (.int x2), .val (.int x3), .val (.int at_), .val (.ref b9), .unset] [])) (fun t k => XS.astore X10.here hx rfl (hb hby at_20) rfl rfl (l' := #[.val (.long x0), .second, .val (.int x1), .val (.int x2), .val (.int x3), .val (.int at_), .val (.ref b9), .unset]) rfl k) ?_
    refine Go.of (T' := T10) (f' := (mkF m 24 #[.val (.long x0), .second, .val (.int x1), .val (.int x2), .val (.int x3), .val (.int at_), .val (.ref b9), .unset] [(.ref b9)])) (fun t k => XS.aload X10.here hx rfl (hb hby at_22) rfl rfl k) ?_
    refine Go.of (T' := T10) (f' := (mkF m 25 #[.val (.long x0), .second, .val (.int x1), .val (.int x2), .val (.int x3), .val (.int at_), .val (.ref b9), .unset] [(.long x0), (.ref b9)])) (fun t k => XS.lloadN X10.here hx rfl (hb hby at_24) rfl k) ?_
    refine Go.of (T' := T10) (f' := (mkF m 26 #[.val (.long x0), .second, .val (.int x1), .val (.int x2), .val (.int x3), .val (.int at_), .val (.ref b9), .unset] [(.int (x0.toInt32)), (.ref b9)])) (fun t k => XS.l2i X10.here hx rfl (hb hby at_25) rfl k) ?_
    obtain ⟨cq35, kq35, q35a, q35b, q35c⟩ := isOf hZ rfl Ex10_b9
    obtain ⟨_, _, ⟨T35, L35, k35, n35⟩, -, X35, ⟨Lc35, hQ35, l35, y35, z35⟩, st35⟩ := X10.virtualBack hx (y := (⟨"com/example/keelson/keelson/wire/WireWriter", "int8", "(I)V"⟩ : MethodName)) (z := (⟨"com/example/keelson/keelson/wire/WireWriter", "int8", "(I)V"⟩ : MethodName)) hown (mvT hZ (hw _ (List.mem_of_getElem? (i := 20) rfl))) (mvT hZ (hw _ (List.mem_of_getElem? (i := 21) rfl))) (notFace_of_selects (args := #[]) (mvT hZ (hw _ (List.mem_of_getElem? (i := 23) rfl)))) (mvT hZ (hw _ (List.mem_of_getElem? (i := 23) rfl))) (mvT hZ (hw _ (List.mem_of_getElem? (i := 22) rfl))) (by decide) (backOf (W := 0) (rm4_a l Z a0 hw [] b9 (x0.toInt32) (0 : Int32) b10 [(0 : Int32), (0 : Int32), (0 : Int32), (0 : Int32)] 0 T10.heap n0 ZS10 Ex10_b9 Fs10 Fb10 VV g_b9 g_b10 ne_b9_b10 (by decide) (by decide) (by first | (simp only [List.length_cons, List.length_nil]; omega) | simp) (by first | (simp only [List.length_cons, List.length_nil]; omega) | simp)) hZ (hw _ (List.mem_of_getElem? (i := 24) rfl)) (hw _ (List.mem_of_getElem? (i := 3) rfl)) (by decide) (by decide)) q35a q35c (g := (mkF m 26 #[.val (.long x0), .second, .val (.int x1), .val (.int x2), .val (.int x3), .val (.int at_), .val (.ref b9), .unset] [(.int (x0.toInt32)), (.ref b9)])) rfl (by rw [hml]; rfl) (Steps.refl _) (argsL := [(.int (x0.toInt32))]) (rest := []) (lenOf pd_1 rfl) rfl (by show 2 * 0 + _ ≤ _; exact Nat.le_of_eq rfl) (hb hby at_26) (fun _ _ => ⟨rfl, rfl, (by decide : 2 + 0 ≤ _), (by decide : 19 + 0 ≤ _)⟩)
    dsimp only [Pt.U, Pt.locs, Pt.cells, Pt.slots] at X35 l35 y35 z35 st35 hQ35
    subst l35 y35 z35
    obtain ⟨rfl, N35q, K35, Fb35, Fz35, Vz35⟩ := hQ35
    have N35 := Fr.app N10 N35q
    have Ex35_b9 : Exa Z T35.heap b9 "com/example/keelson/keelson/wire/WireWriter" := Ex10_b9.keep K35
    have Ex35_b10 : Exa Z T35.heap b10 "[B" := Ex10.keep K35
    have Fs35 : Fld Z T35.heap b9 "com/example/keelson/keelson/wire/WireWriter" "size" "I" (.int (1 : Int32)) := Fz35
    have V35 : VArr Z T35.heap b10 .byte ([(f0 x0), (0 : Int32), (0 : Int32), (0 : Int32)].map Value.int) := Vz35
    have ZS35 : n0 ≤ T35.heap.size := Nat.le_trans ZS10 K35.1
    have KK35 : Keep h0 T35.heap [] := KK10.trans K35 (allS (Or.inr sz_b9) (allS (Or.inr sz_b10) all0))
    refine Go.tr (T' := T35) (f' := (mkF m 29 #[.val (.long x0), .second, .val (.int x1), .val (.int x2), .val (.int x3), .val (.int at_), .val (.ref b9), .unset] [])) st35 ?_
    refine Go.of (T' := T35) (f' := (mkF m 31 #[.val (.long x0), .second, .val (.int x1), .val (.int x2), .val (.int x3), .val (.int at_), .val (.ref b9), .unset] [(.ref b9)])) (fun t k => XS.aload X35.here hx rfl (hb hby at_29) rfl rfl k) ?_
    refine Go.of (T' := T35) (f' := (mkF m 32 #[.val (.long x0), .second, .val (.int x1), .val (.int x2), .val (.int x3), .val (.int at_), .val (.ref b9), .unset] [(.long x0), (.ref b9)])) (fun t k => XS.lloadN X35.here hx rfl (hb hby at_31) rfl k) ?_
    refine Go.of (T' := T35) (f' := (mkF m 34 #[.val (.long x0), .second, .val (.int x1), .val (.int x2), .val (.int x3), .val (.int at_), .val (.ref b9), .unset] [(.int (8 : Int32)), (.long x0), (.ref b9)])) (fun t k => XS.bipush X35.here hx rfl (hb hby at_32) k) ?_
    refine Go.of (T' := T35) (f' := (mkF m 35 #[.val (.long x0), .second, .val (.int x1), .val (.int x2), .val (.int x3), .val (.int at_), .val (.ref b9), .unset] [(.long (x0 >>> ((8 : Int32) &&& 0x3f).toInt64)), (.ref b9)])) (fun t k => XS.lshr X35.here hx rfl (hb hby at_34) rfl k) ?_
    refine Go.of (T' := T35) (f' := (mkF m 36 #[.val (.long x0), .second, .val (.int x1), .val (.int x2), .val (.int x3), .val (.int at_), .val (.ref b9), .unset] [(.int ((x0 >>> ((8 : Int32) &&& 0x3f).toInt64).toInt32)), (.ref b9)])) (fun t k => XS.l2i X35.here hx rfl (hb hby at_35) rfl k) ?_
    obtain ⟨cq36, kq36, q36a, q36b, q36c⟩ := isOf hZ rfl Ex35_b9
    obtain ⟨_, _, ⟨T36, L36, k36, n36⟩, -, X36, ⟨Lc36, hQ36, l36, y36, z36⟩, st36⟩ := X35.virtualBack hx (y := (⟨"com/example/keelson/keelson/wire/WireWriter", "int8", "(I)V"⟩ : MethodName)) (z := (⟨"com/example/keelson/keelson/wire/WireWriter", "int8", "(I)V"⟩ : MethodName)) hown (mvT hZ (hw _ (List.mem_of_getElem? (i := 20) rfl))) (mvT hZ (hw _ (List.mem_of_getElem? (i := 21) rfl))) (notFace_of_selects (args := #[]) (mvT hZ (hw _ (List.mem_of_getElem? (i := 23) rfl)))) (mvT hZ (hw _ (List.mem_of_getElem? (i := 23) rfl))) (mvT hZ (hw _ (List.mem_of_getElem? (i := 22) rfl))) (by decide) (backOf (W := 0) (rm4_a l Z a0 hw [] b9 ((x0 >>> ((8 : Int32) &&& 0x3f).toInt64).toInt32) (1 : Int32) b10 [(f0 x0), (0 : Int32), (0 : Int32), (0 : Int32)] 1 T35.heap n0 ZS35 Ex35_b9 Fs35 Fb35 V35 g_b9 g_b10 ne_b9_b10 (by decide) (by decide) (by first | (simp only [List.length_cons, List.length_nil]; omega) | simp) (by first | (simp only [List.length_cons, List.length_nil]; omega) | simp)) hZ (hw _ (List.mem_of_getElem? (i := 24) rfl)) (hw _ (List.mem_of_getElem? (i := 3) rfl)) (by decide) (by decide)) q36a q36c (g := (mkF m 36 #[.val (.long x0), .second, .val (.int x1), .val (.int x2), .val (.int x3), .val (.int at_), .val (.ref b9), .unset] [(.int ((x0 >>> ((8 : Int32) &&& 0x3f).toInt64).toInt32)), (.ref b9)])) rfl (by rw [hml]; rfl) (Steps.refl _) (argsL := [(.int ((x0 >>> ((8 : Int32) &&& 0x3f).toInt64).toInt32))]) (rest := []) (lenOf pd_1 rfl) rfl (by show 2 * 0 + _ ≤ _; exact Nat.le_of_eq rfl) (hb hby at_36) (fun _ _ => ⟨rfl, rfl, (by decide : 2 + 0 ≤ _), (by decide : 19 + 0 ≤ _)⟩)
    dsimp only [Pt.U, Pt.locs, Pt.cells, Pt.slots] at X36 l36 y36 z36 st36 hQ36
    subst l36 y36 z36
    obtain ⟨rfl, N36q, K36, Fb36, Fz36, Vz36⟩ := hQ36
    have N36 := Fr.app N35 N36q
    have Ex36_b9 : Exa Z T36.heap b9 "com/example/keelson/keelson/wire/WireWriter" := Ex35_b9.keep K36
    have Ex36_b10 : Exa Z T36.heap b10 "[B" := Ex35_b10.keep K36
    have Fs36 : Fld Z T36.heap b9 "com/example/keelson/keelson/wire/WireWriter" "size" "I" (.int (2 : Int32)) := Fz36
    have V36 : VArr Z T36.heap b10 .byte ([(f0 x0), (f1 x0), (0 : Int32), (0 : Int32)].map Value.int) := Vz36
    have ZS36 : n0 ≤ T36.heap.size := Nat.le_trans ZS35 K36.1
    have KK36 : Keep h0 T36.heap [] := KK35.trans K36 (allS (Or.inr sz_b9) (allS (Or.inr sz_b10) all0))
    refine Go.tr (T' := T36) (f' := (mkF m 39 #[.val (.long x0), .second, .val (.int x1), .val (.int x2), .val (.int x3), .val (.int at_), .val (.ref b9), .unset] [])) st36 ?_
    refine Go.of (T' := T36) (f' := (mkF m 41 #[.val (.long x0), .second, .val (.int x1), .val (.int x2), .val (.int x3), .val (.int at_), .val (.ref b9), .unset] [(.ref b9)])) (fun t k => XS.aload X36.here hx rfl (hb hby at_39) rfl rfl k) ?_
    refine Go.of (T' := T36) (f' := (mkF m 42 #[.val (.long x0), .second, .val (.int x1), .val (.int x2), .val (.int x3), .val (.int at_), .val (.ref b9), .unset] [(.long x0), (.ref b9)])) (fun t k => XS.lloadN X36.here hx rfl (hb hby at_41) rfl k) ?_
    refine Go.of (T' := T36) (f' := (mkF m 44 #[.val (.long x0), .second, .val (.int x1), .val (.int x2), .val (.int x3), .val (.int at_), .val (.ref b9), .unset] [(.int (16 : Int32)), (.long x0), (.ref b9)])) (fun t k => XS.bipush X36.here hx rfl (hb hby at_42) k) ?_
    refine Go.of (T' := T36) (f' := (mkF m 45 #[.val (.long x0), .second, .val (.int x1), .val (.int x2), .val (.int x3), .val (.int at_), .val (.ref b9), .unset] [(.long (x0 >>> ((16 : Int32) &&& 0x3f).toInt64)), (.ref b9)])) (fun t k => XS.lshr X36.here hx rfl (hb hby at_44) rfl k) ?_
    refine Go.of (T' := T36) (f' := (mkF m 46 #[.val (.long x0), .second, .val (.int x1), .val (.int x2), .val (.int x3), .val (.int at_), .val (.ref b9), .unset] [(.int ((x0 >>> ((16 : Int32) &&& 0x3f).toInt64).toInt32)), (.ref b9)])) (fun t k => XS.l2i X36.here hx rfl (hb hby at_45) rfl k) ?_
    obtain ⟨cq37, kq37, q37a, q37b, q37c⟩ := isOf hZ rfl Ex36_b9
    obtain ⟨_, _, ⟨T37, L37, k37, n37⟩, -, X37, ⟨Lc37, hQ37, l37, y37, z37⟩, st37⟩ := X36.virtualBack hx (y := (⟨"com/example/keelson/keelson/wire/WireWriter", "int8", "(I)V"⟩ : MethodName)) (z := (⟨"com/example/keelson/keelson/wire/WireWriter", "int8", "(I)V"⟩ : MethodName)) hown (mvT hZ (hw _ (List.mem_of_getElem? (i := 20) rfl))) (mvT hZ (hw _ (List.mem_of_getElem? (i := 21) rfl))) (notFace_of_selects (args := #[]) (mvT hZ (hw _ (List.mem_of_getElem? (i := 23) rfl)))) (mvT hZ (hw _ (List.mem_of_getElem? (i := 23) rfl))) (mvT hZ (hw _ (List.mem_of_getElem? (i := 22) rfl))) (by decide) (backOf (W := 0) (rm4_a l Z a0 hw [] b9 ((x0 >>> ((16 : Int32) &&& 0x3f).toInt64).toInt32) (2 : Int32) b10 [(f0 x0), (f1 x0), (0 : Int32), (0 : Int32)] 2 T36.heap n0 ZS36 Ex36_b9 Fs36 Fb36 V36 g_b9 g_b10 ne_b9_b10 (by decide) (by decide) (by first | (simp only [List.length_cons, List.length_nil]; omega) | simp) (by first | (simp only [List.length_cons, List.length_nil]; omega) | simp)) hZ (hw _ (List.mem_of_getElem? (i := 24) rfl)) (hw _ (List.mem_of_getElem? (i := 3) rfl)) (by decide) (by decide)) q37a q37c (g := (mkF m 46 #[.val (.long x0), .second, .val (.int x1), .val (.int x2), .val (.int x3), .val (.int at_), .val (.ref b9), .unset] [(.int ((x0 >>> ((16 : Int32) &&& 0x3f).toInt64).toInt32)), (.ref b9)])) rfl (by rw [hml]; rfl) (Steps.refl _) (argsL := [(.int ((x0 >>> ((16 : Int32) &&& 0x3f).toInt64).toInt32))]) (rest := []) (lenOf pd_1 rfl) rfl (by show 2 * 0 + _ ≤ _; exact Nat.le_of_eq rfl) (hb hby at_46) (fun _ _ => ⟨rfl, rfl, (by decide : 2 + 0 ≤ _), (by decide : 19 + 0 ≤ _)⟩)
    dsimp only [Pt.U, Pt.locs, Pt.cells, Pt.slots] at X37 l37 y37 z37 st37 hQ37
    subst l37 y37 z37
    obtain ⟨rfl, N37q, K37, Fb37, Fz37, Vz37⟩ := hQ37
    have N37 := Fr.app N36 N37q
    have Ex37_b9 : Exa Z T37.heap b9 "com/example/keelson/keelson/wire/WireWriter" := Ex36_b9.keep K37
    have Ex37_b10 : Exa Z T37.heap b10 "[B" := Ex36_b10.keep K37
    have Fs37 : Fld Z T37.heap b9 "com/example/keelson/keelson/wire/WireWriter" "size" "I" (.int (3 : Int32)) := Fz37
    have V37 : VArr Z T37.heap b10 .byte ([(f0 x0), (f1 x0), (f2 x0), (0 : Int32)].map Value.int) := Vz37
    have ZS37 : n0 ≤ T37.heap.size := Nat.le_trans ZS36 K37.1
    have KK37 : Keep h0 T37.heap [] := KK36.trans K37 (allS (Or.inr sz_b9) (allS (Or.inr sz_b10) all0))
    refine Go.tr (T' := T37) (f' := (mkF m 49 #[.val (.long x0), .second, .val (.int x1), .val (.int x2), .val (.int x3), .val (.int at_), .val (.ref b9), .unset] [])) st37 ?_
    refine Go.of (T' := T37) (f' := (mkF m 51 #[.val (.long x0), .second, .val (.int x1), .val (.int x2), .val (.int x3), .val (.int at_), .val (.ref b9), .unset] [(.ref b9)])) (fun t k => XS.aload X37.here hx rfl (hb hby at_49) rfl rfl k) ?_
    refine Go.of (T' := T37) (f' := (mkF m 52 #[.val (.long x0), .second, .val (.int x1), .val (.int x2), .val (.int x3), .val (.int at_), .val (.ref b9), .unset] [(.long x0), (.ref b9)])) (fun t k => XS.lloadN X37.here hx rfl (hb hby at_51) rfl k) ?_
    refine Go.of (T' := T37) (f' := (mkF m 54 #[.val (.long x0), .second, .val (.int x1), .val (.int x2), .val (.int x3), .val (.int at_), .val (.ref b9), .unset] [(.int (24 : Int32)), (.long x0), (.ref b9)])) (fun t k => XS.bipush X37.here hx rfl (hb hby at_52) k) ?_
    refine Go.of (T' := T37) (f' := (mkF m 55 #[.val (.long x0), .second, .val (.int x1), .val (.int x2), .val (.int x3), .val (.int at_), .val (.ref b9), .unset] [(.long (x0 >>> ((24 : Int32) &&& 0x3f).toInt64)), (.ref b9)])) (fun t k => XS.lshr X37.here hx rfl (hb hby at_54) rfl k) ?_
    refine Go.of (T' := T37) (f' := (mkF m 56 #[.val (.long x0), .second, .val (.int x1), .val (.int x2), .val (.int x3), .val (.int at_), .val (.ref b9), .unset] [(.int ((x0 >>> ((24 : Int32) &&& 0x3f).toInt64).toInt32)), (.ref b9)])) (fun t k => XS.l2i X37.here hx rfl (hb hby at_55) rfl k) ?_
    obtain ⟨cq38, kq38, q38a, q38b, q38c⟩ := isOf hZ rfl Ex37_b9
    obtain ⟨_, _, ⟨T38, L38, k38, n38⟩, -, X38, ⟨Lc38, hQ38, l38, y38, z38⟩, st38⟩ := X37.virtualBack hx (y := (⟨"com/example/keelson/keelson/wire/WireWriter", "int8", "(I)V"⟩ : MethodName)) (z := (⟨"com/example/keelson/keelson/wire/WireWriter", "int8", "(I)V"⟩ : MethodName)) hown (mvT hZ (hw _ (List.mem_of_getElem? (i := 20) rfl))) (mvT hZ (hw _ (List.mem_of_getElem? (i := 21) rfl))) (notFace_of_selects (args := #[]) (mvT hZ (hw _ (List.mem_of_getElem? (i := 23) rfl)))) (mvT hZ (hw _ (List.mem_of_getElem? (i := 23) rfl))) (mvT hZ (hw _ (List.mem_of_getElem? (i := 22) rfl))) (by decide) (backOf (W := 0) (rm4_a l Z a0 hw [] b9 ((x0 >>> ((24 : Int32) &&& 0x3f).toInt64).toInt32) (3 : Int32) b10 [(f0 x0), (f1 x0), (f2 x0), (0 : Int32)] 3 T37.heap n0 ZS37 Ex37_b9 Fs37 Fb37 V37 g_b9 g_b10 ne_b9_b10 (by decide) (by decide) (by first | (simp only [List.length_cons, List.length_nil]; omega) | simp) (by first | (simp only [List.length_cons, List.length_nil]; omega) | simp)) hZ (hw _ (List.mem_of_getElem? (i := 24) rfl)) (hw _ (List.mem_of_getElem? (i := 3) rfl)) (by decide) (by decide)) q38a q38c (g := (mkF m 56 #[.val (.long x0), .second, .val (.int x1), .val (.int x2), .val (.int x3), .val (.int at_), .val (.ref b9), .unset] [(.int ((x0 >>> ((24 : Int32) &&& 0x3f).toInt64).toInt32)), (.ref b9)])) rfl (by rw [hml]; rfl) (Steps.refl _) (argsL := [(.int ((x0 >>> ((24 : Int32) &&& 0x3f).toInt64).toInt32))]) (rest := []) (lenOf pd_1 rfl) rfl (by show 2 * 0 + _ ≤ _; exact Nat.le_of_eq rfl) (hb hby at_56) (fun _ _ => ⟨rfl, rfl, (by decide : 2 + 0 ≤ _), (by decide : 19 + 0 ≤ _)⟩)
    dsimp only [Pt.U, Pt.locs, Pt.cells, Pt.slots] at X38 l38 y38 z38 st38 hQ38
    subst l38 y38 z38
    obtain ⟨rfl, N38q, K38, Fb38, Fz38, Vz38⟩ := hQ38
    have N38 := Fr.app N37 N38q
    have Ex38_b9 : Exa Z T38.heap b9 "com/example/keelson/keelson/wire/WireWriter" := Ex37_b9.keep K38
    have Ex38_b10 : Exa Z T38.heap b10 "[B" := Ex37_b10.keep K38
    have Fs38 : Fld Z T38.heap b9 "com/example/keelson/keelson/wire/WireWriter" "size" "I" (.int (4 : Int32)) := Fz38
    have V38 : VArr Z T38.heap b10 .byte ([(f0 x0), (f1 x0), (f2 x0), (f3 x0)].map Value.int) := Vz38
    have ZS38 : n0 ≤ T38.heap.size := Nat.le_trans ZS37 K38.1
    have KK38 : Keep h0 T38.heap [] := KK37.trans K38 (allS (Or.inr sz_b9) (allS (Or.inr sz_b10) all0))
    refine Go.tr (T' := T38) (f' := (mkF m 59 #[.val (.long x0), .second, .val (.int x1), .val (.int x2), .val (.int x3), .val (.int at_), .val (.ref b9), .unset] [])) st38 ?_
    refine Go.of (T' := T38) (f' := (mkF m 61 #[.val (.long x0), .second, .val (.int x1), .val (.int x2), .val (.int x3), .val (.int at_), .val (.ref b9), .unset] [(.ref b9)])) (fun t k => XS.aload X38.here hx rfl (hb hby at_59) rfl rfl k) ?_
    refine Go.of (T' := T38) (f' := (mkF m 62 #[.val (.long x0), .second, .val (.int x1), .val (.int x2), .val (.int x3), .val (.int at_), .val (.ref b9), .unset] [(.long x0), (.ref b9)])) (fun t k => XS.lloadN X38.here hx rfl (hb hby at_61) rfl k) ?_
    refine Go.of (T' := T38) (f' := (mkF m 64 #[.val (.long x0), .second, .val (.int x1), .val (.int x2), .val (.int x3), .val (.int at_), .val (.ref b9), .unset] [(.int (32 : Int32)), (.long x0), (.ref b9)])) (fun t k => XS.bipush X38.here hx rfl (hb hby at_62) k) ?_
    refine Go.of (T' := T38) (f' := (mkF m 65 #[.val (.long x0), .second, .val (.int x1), .val (.int x2), .val (.int x3), .val (.int at_), .val (.ref b9), .unset] [(.long (x0 >>> ((32 : Int32) &&& 0x3f).toInt64)), (.ref b9)])) (fun t k => XS.lshr X38.here hx rfl (hb hby at_64) rfl k) ?_
    refine Go.of (T' := T38) (f' := (mkF m 66 #[.val (.long x0), .second, .val (.int x1), .val (.int x2), .val (.int x3), .val (.int at_), .val (.ref b9), .unset] [(.int ((x0 >>> ((32 : Int32) &&& 0x3f).toInt64).toInt32)), (.ref b9)])) (fun t k => XS.l2i X38.here hx rfl (hb hby at_65) rfl k) ?_
    have TY39 : TyB [(f0 x0), (f1 x0), (f2 x0), (f3 x0)] := own_ty4 x0
    obtain ⟨cq39, kq39, q39a, q39b, q39c⟩ := isOf hZ rfl Ex38_b9
    obtain ⟨_, _, ⟨T39, L39, k39, n39⟩, -, X39, ⟨Lc39, hQ39, l39, y39, z39⟩, st39⟩ := X38.virtualBack hx (y := (⟨"com/example/keelson/keelson/wire/WireWriter", "int8", "(I)V"⟩ : MethodName)) (z := (⟨"com/example/keelson/keelson/wire/WireWriter", "int8", "(I)V"⟩ : MethodName)) hown (mvT hZ (hw _ (List.mem_of_getElem? (i := 20) rfl))) (mvT hZ (hw _ (List.mem_of_getElem? (i := 21) rfl))) (notFace_of_selects (args := #[]) (mvT hZ (hw _ (List.mem_of_getElem? (i := 23) rfl)))) (mvT hZ (hw _ (List.mem_of_getElem? (i := 23) rfl))) (mvT hZ (hw _ (List.mem_of_getElem? (i := 22) rfl))) (by decide) (backOf (W := 0) (rm4_b l Z a0 hw [] b9 ((x0 >>> ((32 : Int32) &&& 0x3f).toInt64).toInt32) (4 : Int32) b10 [(f0 x0), (f1 x0), (f2 x0), (f3 x0)] 261 4 T38.heap n0 ZS38 Ex38_b9 Fs38 Fb38 V38 Ex38_b10 g_b9 ne_b9_b10 TY39 (by first | (simp only [List.length_cons, List.length_nil]; omega) | simp) (own_g ⟨4, by decide⟩).1 (own_g ⟨4, by decide⟩).2 (by decide) (by decide) (by decide) (by decide)) hZ (hw _ (List.mem_of_getElem? (i := 24) rfl)) (hw _ (List.mem_of_getElem? (i := 3) rfl)) (by decide) (by decide)) q39a q39c (g := (mkF m 66 #[.val (.long x0), .second, .val (.int x1), .val (.int x2), .val (.int x3), .val (.int at_), .val (.ref b9), .unset] [(.int ((x0 >>> ((32 : Int32) &&& 0x3f).toInt64).toInt32)), (.ref b9)])) rfl (by rw [hml]; rfl) (Steps.refl _) (argsL := [(.int ((x0 >>> ((32 : Int32) &&& 0x3f).toInt64).toInt32))]) (rest := []) (lenOf pd_1 rfl) rfl (by show 2 * 0 + _ ≤ _; exact Nat.le_of_eq rfl) (hb hby at_66) (fun _ _ => ⟨rfl, rfl, (by decide : 2 + 1 ≤ _), (by decide : 19 + 262 ≤ _)⟩)
    dsimp only [Pt.U, Pt.locs, Pt.cells, Pt.slots] at X39 l39 y39 z39 st39 hQ39
    subst l39 y39 z39
    obtain ⟨b39, rfl, N39q, K39, sb39, g_b39, Fb39, Fz39, Exz39, Vz39⟩ := hQ39
    have N39 := Fr.app N38 N39q
    have ne_b9_b39 : b9 ≠ b39 := Nat.ne_of_lt (Nat.lt_of_lt_of_le Fb38.lt sb39)
    have ne_b10_b39 : b10 ≠ b39 := Nat.ne_of_lt (Nat.lt_of_lt_of_le Ex38_b10.lt sb39)
    have sz_b39 : h0.size ≤ b39 := Nat.le_trans KK38.1 sb39
    have Ex39_b9 : Exa Z T39.heap b9 "com/example/keelson/keelson/wire/WireWriter" := Ex38_b9.keep K39
    have Ex39_b10 : Exa Z T39.heap b10 "[B" := Ex38_b10.keep K39
    have V39_b10 : VArr Z T39.heap b10 .byte ([(f0 x0), (f1 x0), (f2 x0), (f3 x0)].map Value.int) := V38.keep K39 (ninS (Ne.symm ne_b9_b10) nin0)
    obtain ⟨tl_, htl, htT, hcp⟩ := own_cpy6 [(f0 x0), (f1 x0), (f2 x0), (f3 x0)] TY39 261 255 (by decide) (by decide)
    rw [hcp] at Vz39
    have Fs39 : Fld Z T39.heap b9 "com/example/keelson/keelson/wire/WireWriter" "size" "I" (.int (5 : Int32)) := Fz39
    have V39 : VArr Z T39.heap b39 .byte (((f0 x0) :: (f1 x0) :: (f2 x0) :: (f3 x0) :: (f4 x0) :: (0 : Int32) :: tl_).map Value.int) := Vz39
    have ZS39 : n0 ≤ T39.heap.size := Nat.le_trans ZS38 K39.1
    have KK39 : Keep h0 T39.heap [] := KK38.trans K39 (allS (Or.inr sz_b9) all0)
    refine Go.tr (T' := T39) (f' := (mkF m 69 #[.val (.long x0), .second, .val (.int x1), .val (.int x2), .val (.int x3), .val (.int at_), .val (.ref b9), .unset] [])) st39 ?_
    refine Go.of (T' := T39) (f' := (mkF m 71 #[.val (.long x0), .second, .val (.int x1), .val (.int x2), .val (.int x3), .val (.int at_), .val (.ref b9), .unset] [(.ref b9)])) (fun t k => XS.aload X39.here hx rfl (hb hby at_69) rfl rfl k) ?_
    refine Go.of (T' := T39) (f' := (mkF m 72 #[.val (.long x0), .second, .val (.int x1), .val (.int x2), .val (.int x3), .val (.int at_), .val (.ref b9), .unset] [(.long x0), (.ref b9)])) (fun t k => XS.lloadN X39.here hx rfl (hb hby at_71) rfl k) ?_
    refine Go.of (T' := T39) (f' := (mkF m 74 #[.val (.long x0), .second, .val (.int x1), .val (.int x2), .val (.int x3), .val (.int at_), .val (.ref b9), .unset] [(.int (40 : Int32)), (.long x0), (.ref b9)])) (fun t k => XS.bipush X39.here hx rfl (hb hby at_72) k) ?_
    refine Go.of (T' := T39) (f' := (mkF m 75 #[.val (.long x0), .second, .val (.int x1), .val (.int x2), .val (.int x3), .val (.int at_), .val (.ref b9), .unset] [(.long (x0 >>> ((40 : Int32) &&& 0x3f).toInt64)), (.ref b9)])) (fun t k => XS.lshr X39.here hx rfl (hb hby at_74) rfl k) ?_
    refine Go.of (T' := T39) (f' := (mkF m 76 #[.val (.long x0), .second, .val (.int x1), .val (.int x2), .val (.int x3), .val (.int at_), .val (.ref b9), .unset] [(.int ((x0 >>> ((40 : Int32) &&& 0x3f).toInt64).toInt32)), (.ref b9)])) (fun t k => XS.l2i X39.here hx rfl (hb hby at_75) rfl k) ?_
    obtain ⟨cq40, kq40, q40a, q40b, q40c⟩ := isOf hZ rfl Ex39_b9
    obtain ⟨_, _, ⟨T40, L40, k40, n40⟩, -, X40, ⟨Lc40, hQ40, l40, y40, z40⟩, st40⟩ := X39.virtualBack hx (y := (⟨"com/example/keelson/keelson/wire/WireWriter", "int8", "(I)V"⟩ : MethodName)) (z := (⟨"com/example/keelson/keelson/wire/WireWriter", "int8", "(I)V"⟩ : MethodName)) hown (mvT hZ (hw _ (List.mem_of_getElem? (i := 20) rfl))) (mvT hZ (hw _ (List.mem_of_getElem? (i := 21) rfl))) (notFace_of_selects (args := #[]) (mvT hZ (hw _ (List.mem_of_getElem? (i := 23) rfl)))) (mvT hZ (hw _ (List.mem_of_getElem? (i := 23) rfl))) (mvT hZ (hw _ (List.mem_of_getElem? (i := 22) rfl))) (by decide) (backOf (W := 0) (rm4_a l Z a0 hw [] b9 ((x0 >>> ((40 : Int32) &&& 0x3f).toInt64).toInt32) (5 : Int32) b39 ((f0 x0) :: (f1 x0) :: (f2 x0) :: (f3 x0) :: (f4 x0) :: (0 : Int32) :: tl_) 5 T39.heap n0 ZS39 Ex39_b9 Fs39 Fb39 V39 g_b9 g_b39 ne_b9_b39 (by decide) (by decide) (by first | (simp only [List.length_cons, List.length_nil]; omega) | simp) (by first | (simp only [List.length_cons, List.length_nil]; omega) | simp)) hZ (hw _ (List.mem_of_getElem? (i := 24) rfl)) (hw _ (List.mem_of_getElem? (i := 3) rfl)) (by decide) (by decide)) q40a q40c (g := (mkF m 76 #[.val (.long x0), .second, .val (.int x1), .val (.int x2), .val (.int x3), .val (.int at_), .val (.ref b9), .unset] [(.int ((x0 >>> ((40 : Int32) &&& 0x3f).toInt64).toInt32)), (.ref b9)])) rfl (by rw [hml]; rfl) (Steps.refl _) (argsL := [(.int ((x0 >>> ((40 : Int32) &&& 0x3f).toInt64).toInt32))]) (rest := []) (lenOf pd_1 rfl) rfl (by show 2 * 0 + _ ≤ _; exact Nat.le_of_eq rfl) (hb hby at_76) (fun _ _ => ⟨rfl, rfl, (by decide : 3 + 0 ≤ _), (by decide : 281 + 0 ≤ _)⟩)
    dsimp only [Pt.U, Pt.locs, Pt.cells, Pt.slots] at X40 l40 y40 z40 st40 hQ40
    subst l40 y40 z40
    obtain ⟨rfl, N40q, K40, Fb40, Fz40, Vz40⟩ := hQ40
    have N40 := Fr.app N39 N40q
    have Ex40_b9 : Exa Z T40.heap b9 "com/example/keelson/keelson/wire/WireWriter" := Ex39_b9.keep K40
    have Ex40_b39 : Exa Z T40.heap b39 "[B" := Exz39.keep K40
    have Fs40 : Fld Z T40.heap b9 "com/example/keelson/keelson/wire/WireWriter" "size" "I" (.int (6 : Int32)) := Fz40
    have V40 : VArr Z T40.heap b39 .byte (((f0 x0) :: (f1 x0) :: (f2 x0) :: (f3 x0) :: (f4 x0) :: (f5 x0) :: tl_).map Value.int) := Vz40
    have ZS40 : n0 ≤ T40.heap.size := Nat.le_trans ZS39 K40.1
    have KK40 : Keep h0 T40.heap [] := KK39.trans K40 (allS (Or.inr sz_b9) (allS (Or.inr sz_b39) all0))
    refine Go.tr (T' := T40) (f' := (mkF m 79 #[.val (.long x0), .second, .val (.int x1), .val (.int x2), .val (.int x3), .val (.int at_), .val (.ref b9), .unset] [])) st40 ?_
    have TY6 := own_ty6 x0 htT
    have XX := X40.more (cells' := 3) (slots' := 300) (by decide) (by decide)
    exact TAIL T40 _ T40.heap b9 b39 tl_ XX rfl N40 Ex40_b9 Fb40 Fs40 Ex40_b39 V40 g_b9 g_b39 ne_b9_b39 sz_b9 sz_b39 TY6 htl ZS40 KK40
  · -- capacity 5
    rw [hn, show (5 : Int32).toNatClampNeg = 5 from by decide] at Vb10
    have VV : VArr Z T10.heap b10 .byte (([(0 : Int32), (0 : Int32), (0 : Int32), (0 : Int32), (0 : Int32)] : List Int32).map Value.int) := Vb10
    refine Go.of (T' := T10) (f' := (mkF m 22 #[.val (.long x0), .second, .val (.int x1), .val (.int x2), .val (.int x3), .val (.int at_), .val (.ref b9), .unset] [])) (fun t k => XS.astore X10.here hx rfl (hb hby at_20) rfl rfl (l' := #[.val (.long x0), .second, .val (.int x1), .val (.int x2), .val (.int x3), .val (.int at_), .val (.ref b9), .unset]) rfl k) ?_
    refine Go.of (T' := T10) (f' := (mkF m 24 #[.val (.long x0), .second, .val (.int x1), .val (.int x2), .val (.int x3), .val (.int at_), .val (.ref b9), .unset] [(.ref b9)])) (fun t k => XS.aload X10.here hx rfl (hb hby at_22) rfl rfl k) ?_
    refine Go.of (T' := T10) (f' := (mkF m 25 #[.val (.long x0), .second, .val (.int x1), .val (.int x2), .val (.int x3), .val (.int at_), .val (.ref b9), .unset] [(.long x0), (.ref b9)])) (fun t k => XS.lloadN X10.here hx rfl (hb hby at_24) rfl k) ?_
    refine Go.of (T' := T10) (f' := (mkF m 26 #[.val (.long x0), .second, .val (.int x1), .val (.int x2), .val (.int x3), .val (.int at_), .val (.ref b9), .unset] [(.int (x0.toInt32)), (.ref b9)])) (fun t k => XS.l2i X10.here hx rfl (hb hby at_25) rfl k) ?_
    obtain ⟨cq41, kq41, q41a, q41b, q41c⟩ := isOf hZ rfl Ex10_b9
    obtain ⟨_, _, ⟨T41, L41, k41, n41⟩, -, X41, ⟨Lc41, hQ41, l41, y41, z41⟩, st41⟩ := X10.virtualBack hx (y := (⟨"com/example/keelson/keelson/wire/WireWriter", "int8", "(I)V"⟩ : MethodName)) (z := (⟨"com/example/keelson/keelson/wire/WireWriter", "int8", "(I)V"⟩ : MethodName)) hown (mvT hZ (hw _ (List.mem_of_getElem? (i := 20) rfl))) (mvT hZ (hw _ (List.mem_of_getElem? (i := 21) rfl))) (notFace_of_selects (args := #[]) (mvT hZ (hw _ (List.mem_of_getElem? (i := 23) rfl)))) (mvT hZ (hw _ (List.mem_of_getElem? (i := 23) rfl))) (mvT hZ (hw _ (List.mem_of_getElem? (i := 22) rfl))) (by decide) (backOf (W := 0) (rm4_a l Z a0 hw [] b9 (x0.toInt32) (0 : Int32) b10 [(0 : Int32), (0 : Int32), (0 : Int32), (0 : Int32), (0 : Int32)] 0 T10.heap n0 ZS10 Ex10_b9 Fs10 Fb10 VV g_b9 g_b10 ne_b9_b10 (by decide) (by decide) (by first | (simp only [List.length_cons, List.length_nil]; omega) | simp) (by first | (simp only [List.length_cons, List.length_nil]; omega) | simp)) hZ (hw _ (List.mem_of_getElem? (i := 24) rfl)) (hw _ (List.mem_of_getElem? (i := 3) rfl)) (by decide) (by decide)) q41a q41c (g := (mkF m 26 #[.val (.long x0), .second, .val (.int x1), .val (.int x2), .val (.int x3), .val (.int at_), .val (.ref b9), .unset] [(.int (x0.toInt32)), (.ref b9)])) rfl (by rw [hml]; rfl) (Steps.refl _) (argsL := [(.int (x0.toInt32))]) (rest := []) (lenOf pd_1 rfl) rfl (by show 2 * 0 + _ ≤ _; exact Nat.le_of_eq rfl) (hb hby at_26) (fun _ _ => ⟨rfl, rfl, (by decide : 2 + 0 ≤ _), (by decide : 19 + 0 ≤ _)⟩)
    dsimp only [Pt.U, Pt.locs, Pt.cells, Pt.slots] at X41 l41 y41 z41 st41 hQ41
    subst l41 y41 z41
    obtain ⟨rfl, N41q, K41, Fb41, Fz41, Vz41⟩ := hQ41
    have N41 := Fr.app N10 N41q
    have Ex41_b9 : Exa Z T41.heap b9 "com/example/keelson/keelson/wire/WireWriter" := Ex10_b9.keep K41
    have Ex41_b10 : Exa Z T41.heap b10 "[B" := Ex10.keep K41
    have Fs41 : Fld Z T41.heap b9 "com/example/keelson/keelson/wire/WireWriter" "size" "I" (.int (1 : Int32)) := Fz41
    have V41 : VArr Z T41.heap b10 .byte ([(f0 x0), (0 : Int32), (0 : Int32), (0 : Int32), (0 : Int32)].map Value.int) := Vz41
    have ZS41 : n0 ≤ T41.heap.size := Nat.le_trans ZS10 K41.1
    have KK41 : Keep h0 T41.heap [] := KK10.trans K41 (allS (Or.inr sz_b9) (allS (Or.inr sz_b10) all0))
    refine Go.tr (T' := T41) (f' := (mkF m 29 #[.val (.long x0), .second, .val (.int x1), .val (.int x2), .val (.int x3), .val (.int at_), .val (.ref b9), .unset] [])) st41 ?_
    refine Go.of (T' := T41) (f' := (mkF m 31 #[.val (.long x0), .second, .val (.int x1), .val (.int x2), .val (.int x3), .val (.int at_), .val (.ref b9), .unset] [(.ref b9)])) (fun t k => XS.aload X41.here hx rfl (hb hby at_29) rfl rfl k) ?_
    refine Go.of (T' := T41) (f' := (mkF m 32 #[.val (.long x0), .second, .val (.int x1), .val (.int x2), .val (.int x3), .val (.int at_), .val (.ref b9), .unset] [(.long x0), (.ref b9)])) (fun t k => XS.lloadN X41.here hx rfl (hb hby at_31) rfl k) ?_
    refine Go.of (T' := T41) (f' := (mkF m 34 #[.val (.long x0), .second, .val (.int x1), .val (.int x2), .val (.int x3), .val (.int at_), .val (.ref b9), .unset] [(.int (8 : Int32)), (.long x0), (.ref b9)])) (fun t k => XS.bipush X41.here hx rfl (hb hby at_32) k) ?_
    refine Go.of (T' := T41) (f' := (mkF m 35 #[.val (.long x0), .second, .val (.int x1), .val (.int x2), .val (.int x3), .val (.int at_), .val (.ref b9), .unset] [(.long (x0 >>> ((8 : Int32) &&& 0x3f).toInt64)), (.ref b9)])) (fun t k => XS.lshr X41.here hx rfl (hb hby at_34) rfl k) ?_
    refine Go.of (T' := T41) (f' := (mkF m 36 #[.val (.long x0), .second, .val (.int x1), .val (.int x2), .val (.int x3), .val (.int at_), .val (.ref b9), .unset] [(.int ((x0 >>> ((8 : Int32) &&& 0x3f).toInt64).toInt32)), (.ref b9)])) (fun t k => XS.l2i X41.here hx rfl (hb hby at_35) rfl k) ?_
    obtain ⟨cq42, kq42, q42a, q42b, q42c⟩ := isOf hZ rfl Ex41_b9
    obtain ⟨_, _, ⟨T42, L42, k42, n42⟩, -, X42, ⟨Lc42, hQ42, l42, y42, z42⟩, st42⟩ := X41.virtualBack hx (y := (⟨"com/example/keelson/keelson/wire/WireWriter", "int8", "(I)V"⟩ : MethodName)) (z := (⟨"com/example/keelson/keelson/wire/WireWriter", "int8", "(I)V"⟩ : MethodName)) hown (mvT hZ (hw _ (List.mem_of_getElem? (i := 20) rfl))) (mvT hZ (hw _ (List.mem_of_getElem? (i := 21) rfl))) (notFace_of_selects (args := #[]) (mvT hZ (hw _ (List.mem_of_getElem? (i := 23) rfl)))) (mvT hZ (hw _ (List.mem_of_getElem? (i := 23) rfl))) (mvT hZ (hw _ (List.mem_of_getElem? (i := 22) rfl))) (by decide) (backOf (W := 0) (rm4_a l Z a0 hw [] b9 ((x0 >>> ((8 : Int32) &&& 0x3f).toInt64).toInt32) (1 : Int32) b10 [(f0 x0), (0 : Int32), (0 : Int32), (0 : Int32), (0 : Int32)] 1 T41.heap n0 ZS41 Ex41_b9 Fs41 Fb41 V41 g_b9 g_b10 ne_b9_b10 (by decide) (by decide) (by first | (simp only [List.length_cons, List.length_nil]; omega) | simp) (by first | (simp only [List.length_cons, List.length_nil]; omega) | simp)) hZ (hw _ (List.mem_of_getElem? (i := 24) rfl)) (hw _ (List.mem_of_getElem? (i := 3) rfl)) (by decide) (by decide)) q42a q42c (g := (mkF m 36 #[.val (.long x0), .second, .val (.int x1), .val (.int x2), .val (.int x3), .val (.int at_), .val (.ref b9), .unset] [(.int ((x0 >>> ((8 : Int32) &&& 0x3f).toInt64).toInt32)), (.ref b9)])) rfl (by rw [hml]; rfl) (Steps.refl _) (argsL := [(.int ((x0 >>> ((8 : Int32) &&& 0x3f).toInt64).toInt32))]) (rest := []) (lenOf pd_1 rfl) rfl (by show 2 * 0 + _ ≤ _; exact Nat.le_of_eq rfl) (hb hby at_36) (fun _ _ => ⟨rfl, rfl, (by decide : 2 + 0 ≤ _), (by decide : 19 + 0 ≤ _)⟩)
    dsimp only [Pt.U, Pt.locs, Pt.cells, Pt.slots] at X42 l42 y42 z42 st42 hQ42
    subst l42 y42 z42
    obtain ⟨rfl, N42q, K42, Fb42, Fz42, Vz42⟩ := hQ42
    have N42 := Fr.app N41 N42q
    have Ex42_b9 : Exa Z T42.heap b9 "com/example/keelson/keelson/wire/WireWriter" := Ex41_b9.keep K42
    have Ex42_b10 : Exa Z T42.heap b10 "[B" := Ex41_b10.keep K42
    have Fs42 : Fld Z T42.heap b9 "com/example/keelson/keelson/wire/WireWriter" "size" "I" (.int (2 : Int32)) := Fz42
    have V42 : VArr Z T42.heap b10 .byte ([(f0 x0), (f1 x0), (0 : Int32), (0 : Int32), (0 : Int32)].map Value.int) := Vz42
    have ZS42 : n0 ≤ T42.heap.size := Nat.le_trans ZS41 K42.1
    have KK42 : Keep h0 T42.heap [] := KK41.trans K42 (allS (Or.inr sz_b9) (allS (Or.inr sz_b10) all0))
    refine Go.tr (T' := T42) (f' := (mkF m 39 #[.val (.long x0), .second, .val (.int x1), .val (.int x2), .val (.int x3), .val (.int at_), .val (.ref b9), .unset] [])) st42 ?_
    refine Go.of (T' := T42) (f' := (mkF m 41 #[.val (.long x0), .second, .val (.int x1), .val (.int x2), .val (.int x3), .val (.int at_), .val (.ref b9), .unset] [(.ref b9)])) (fun t k => XS.aload X42.here hx rfl (hb hby at_39) rfl rfl k) ?_
    refine Go.of (T' := T42) (f' := (mkF m 42 #[.val (.long x0), .second, .val (.int x1), .val (.int x2), .val (.int x3), .val (.int at_), .val (.ref b9), .unset] [(.long x0), (.ref b9)])) (fun t k => XS.lloadN X42.here hx rfl (hb hby at_41) rfl k) ?_
    refine Go.of (T' := T42) (f' := (mkF m 44 #[.val (.long x0), .second, .val (.int x1), .val (.int x2), .val (.int x3), .val (.int at_), .val (.ref b9), .unset] [(.int (16 : Int32)), (.long x0), (.ref b9)])) (fun t k => XS.bipush X42.here hx rfl (hb hby at_42) k) ?_
    refine Go.of (T' := T42) (f' := (mkF m 45 #[.val (.long x0), .second, .val (.int x1), .val (.int x2), .val (.int x3), .val (.int at_), .val (.ref b9), .unset] [(.long (x0 >>> ((16 : Int32) &&& 0x3f).toInt64)), (.ref b9)])) (fun t k => XS.lshr X42.here hx rfl (hb hby at_44) rfl k) ?_
    refine Go.of (T' := T42) (f' := (mkF m 46 #[.val (.long x0), .second, .val (.int x1), .val (.int x2), .val (.int x3), .val (.int at_), .val (.ref b9), .unset] [(.int ((x0 >>> ((16 : Int32) &&& 0x3f).toInt64).toInt32)), (.ref b9)])) (fun t k => XS.l2i X42.here hx rfl (hb hby at_45) rfl k) ?_
    obtain ⟨cq43, kq43, q43a, q43b, q43c⟩ := isOf hZ rfl Ex42_b9
    obtain ⟨_, _, ⟨T43, L43, k43, n43⟩, -, X43, ⟨Lc43, hQ43, l43, y43, z43⟩, st43⟩ := X42.virtualBack hx (y := (⟨"com/example/keelson/keelson/wire/WireWriter", "int8", "(I)V"⟩ : MethodName)) (z := (⟨"com/example/keelson/keelson/wire/WireWriter", "int8", "(I)V"⟩ : MethodName)) hown (mvT hZ (hw _ (List.mem_of_getElem? (i := 20) rfl))) (mvT hZ (hw _ (List.mem_of_getElem? (i := 21) rfl))) (notFace_of_selects (args := #[]) (mvT hZ (hw _ (List.mem_of_getElem? (i := 23) rfl)))) (mvT hZ (hw _ (List.mem_of_getElem? (i := 23) rfl))) (mvT hZ (hw _ (List.mem_of_getElem? (i := 22) rfl))) (by decide) (backOf (W := 0) (rm4_a l Z a0 hw [] b9 ((x0 >>> ((16 : Int32) &&& 0x3f).toInt64).toInt32) (2 : Int32) b10 [(f0 x0), (f1 x0), (0 : Int32), (0 : Int32), (0 : Int32)] 2 T42.heap n0 ZS42 Ex42_b9 Fs42 Fb42 V42 g_b9 g_b10 ne_b9_b10 (by decide) (by decide) (by first | (simp only [List.length_cons, List.length_nil]; omega) | simp) (by first | (simp only [List.length_cons, List.length_nil]; omega) | simp)) hZ (hw _ (List.mem_of_getElem? (i := 24) rfl)) (hw _ (List.mem_of_getElem? (i := 3) rfl)) (by decide) (by decide)) q43a q43c (g := (mkF m 46 #[.val (.long x0), .second, .val (.int x1), .val (.int x2), .val (.int x3), .val (.int at_), .val (.ref b9), .unset] [(.int ((x0 >>> ((16 : Int32) &&& 0x3f).toInt64).toInt32)), (.ref b9)])) rfl (by rw [hml]; rfl) (Steps.refl _) (argsL := [(.int ((x0 >>> ((16 : Int32) &&& 0x3f).toInt64).toInt32))]) (rest := []) (lenOf pd_1 rfl) rfl (by show 2 * 0 + _ ≤ _; exact Nat.le_of_eq rfl) (hb hby at_46) (fun _ _ => ⟨rfl, rfl, (by decide : 2 + 0 ≤ _), (by decide : 19 + 0 ≤ _)⟩)
    dsimp only [Pt.U, Pt.locs, Pt.cells, Pt.slots] at X43 l43 y43 z43 st43 hQ43
    subst l43 y43 z43
    obtain ⟨rfl, N43q, K43, Fb43, Fz43, Vz43⟩ := hQ43
    have N43 := Fr.app N42 N43q
    have Ex43_b9 : Exa Z T43.heap b9 "com/example/keelson/keelson/wire/WireWriter" := Ex42_b9.keep K43
    have Ex43_b10 : Exa Z T43.heap b10 "[B" := Ex42_b10.keep K43
    have Fs43 : Fld Z T43.heap b9 "com/example/keelson/keelson/wire/WireWriter" "size" "I" (.int (3 : Int32)) := Fz43
    have V43 : VArr Z T43.heap b10 .byte ([(f0 x0), (f1 x0), (f2 x0), (0 : Int32), (0 : Int32)].map Value.int) := Vz43
    have ZS43 : n0 ≤ T43.heap.size := Nat.le_trans ZS42 K43.1
    have KK43 : Keep h0 T43.heap [] := KK42.trans K43 (allS (Or.inr sz_b9) (allS (Or.inr sz_b10) all0))
    refine Go.tr (T' := T43) (f' := (mkF m 49 #[.val (.long x0), .second, .val (.int x1), .val (.int x2), .val (.int x3), .val (.int at_), .val (.ref b9), .unset] [])) st43 ?_
    refine Go.of (T' := T43) (f' := (mkF m 51 #[.val (.long x0), .second, .val (.int x1), .val (.int x2), .val (.int x3), .val (.int at_), .val (.ref b9), .unset] [(.ref b9)])) (fun t k => XS.aload X43.here hx rfl (hb hby at_49) rfl rfl k) ?_
    refine Go.of (T' := T43) (f' := (mkF m 52 #[.val (.long x0), .second, .val (.int x1), .val (.int x2), .val (.int x3), .val (.int at_), .val (.ref b9), .unset] [(.long x0), (.ref b9)])) (fun t k => XS.lloadN X43.here hx rfl (hb hby at_51) rfl k) ?_
    refine Go.of (T' := T43) (f' := (mkF m 54 #[.val (.long x0), .second, .val (.int x1), .val (.int x2), .val (.int x3), .val (.int at_), .val (.ref b9), .unset] [(.int (24 : Int32)), (.long x0), (.ref b9)])) (fun t k => XS.bipush X43.here hx rfl (hb hby at_52) k) ?_
    refine Go.of (T' := T43) (f' := (mkF m 55 #[.val (.long x0), .second, .val (.int x1), .val (.int x2), .val (.int x3), .val (.int at_), .val (.ref b9), .unset] [(.long (x0 >>> ((24 : Int32) &&& 0x3f).toInt64)), (.ref b9)])) (fun t k => XS.lshr X43.here hx rfl (hb hby at_54) rfl k) ?_
    refine Go.of (T' := T43) (f' := (mkF m 56 #[.val (.long x0), .second, .val (.int x1), .val (.int x2), .val (.int x3), .val (.int at_), .val (.ref b9), .unset] [(.int ((x0 >>> ((24 : Int32) &&& 0x3f).toInt64).toInt32)), (.ref b9)])) (fun t k => XS.l2i X43.here hx rfl (hb hby at_55) rfl k) ?_
    obtain ⟨cq44, kq44, q44a, q44b, q44c⟩ := isOf hZ rfl Ex43_b9
    obtain ⟨_, _, ⟨T44, L44, k44, n44⟩, -, X44, ⟨Lc44, hQ44, l44, y44, z44⟩, st44⟩ := X43.virtualBack hx (y := (⟨"com/example/keelson/keelson/wire/WireWriter", "int8", "(I)V"⟩ : MethodName)) (z := (⟨"com/example/keelson/keelson/wire/WireWriter", "int8", "(I)V"⟩ : MethodName)) hown (mvT hZ (hw _ (List.mem_of_getElem? (i := 20) rfl))) (mvT hZ (hw _ (List.mem_of_getElem? (i := 21) rfl))) (notFace_of_selects (args := #[]) (mvT hZ (hw _ (List.mem_of_getElem? (i := 23) rfl)))) (mvT hZ (hw _ (List.mem_of_getElem? (i := 23) rfl))) (mvT hZ (hw _ (List.mem_of_getElem? (i := 22) rfl))) (by decide) (backOf (W := 0) (rm4_a l Z a0 hw [] b9 ((x0 >>> ((24 : Int32) &&& 0x3f).toInt64).toInt32) (3 : Int32) b10 [(f0 x0), (f1 x0), (f2 x0), (0 : Int32), (0 : Int32)] 3 T43.heap n0 ZS43 Ex43_b9 Fs43 Fb43 V43 g_b9 g_b10 ne_b9_b10 (by decide) (by decide) (by first | (simp only [List.length_cons, List.length_nil]; omega) | simp) (by first | (simp only [List.length_cons, List.length_nil]; omega) | simp)) hZ (hw _ (List.mem_of_getElem? (i := 24) rfl)) (hw _ (List.mem_of_getElem? (i := 3) rfl)) (by decide) (by decide)) q44a q44c (g := (mkF m 56 #[.val (.long x0), .second, .val (.int x1), .val (.int x2), .val (.int x3), .val (.int at_), .val (.ref b9), .unset] [(.int ((x0 >>> ((24 : Int32) &&& 0x3f).toInt64).toInt32)), (.ref b9)])) rfl (by rw [hml]; rfl) (Steps.refl _) (argsL := [(.int ((x0 >>> ((24 : Int32) &&& 0x3f).toInt64).toInt32))]) (rest := []) (lenOf pd_1 rfl) rfl (by show 2 * 0 + _ ≤ _; exact Nat.le_of_eq rfl) (hb hby at_56) (fun _ _ => ⟨rfl, rfl, (by decide : 2 + 0 ≤ _), (by decide : 19 + 0 ≤ _)⟩)
    dsimp only [Pt.U, Pt.locs, Pt.cells, Pt.slots] at X44 l44 y44 z44 st44 hQ44
    subst l44 y44 z44
    obtain ⟨rfl, N44q, K44, Fb44, Fz44, Vz44⟩ := hQ44
    have N44 := Fr.app N43 N44q
    have Ex44_b9 : Exa Z T44.heap b9 "com/example/keelson/keelson/wire/WireWriter" := Ex43_b9.keep K44
    have Ex44_b10 : Exa Z T44.heap b10 "[B" := Ex43_b10.keep K44
    have Fs44 : Fld Z T44.heap b9 "com/example/keelson/keelson/wire/WireWriter" "size" "I" (.int (4 : Int32)) := Fz44
    have V44 : VArr Z T44.heap b10 .byte ([(f0 x0), (f1 x0), (f2 x0), (f3 x0), (0 : Int32)].map Value.int) := Vz44
    have ZS44 : n0 ≤ T44.heap.size := Nat.le_trans ZS43 K44.1
    have KK44 : Keep h0 T44.heap [] := KK43.trans K44 (allS (Or.inr sz_b9) (allS (Or.inr sz_b10) all0))
    refine Go.tr (T' := T44) (f' := (mkF m 59 #[.val (.long x0), .second, .val (.int x1), .val (.int x2), .val (.int x3), .val (.int at_), .val (.ref b9), .unset] [])) st44 ?_
    refine Go.of (T' := T44) (f' := (mkF m 61 #[.val (.long x0), .second, .val (.int x1), .val (.int x2), .val (.int x3), .val (.int at_), .val (.ref b9), .unset] [(.ref b9)])) (fun t k => XS.aload X44.here hx rfl (hb hby at_59) rfl rfl k) ?_
    refine Go.of (T' := T44) (f' := (mkF m 62 #[.val (.long x0), .second, .val (.int x1), .val (.int x2), .val (.int x3), .val (.int at_), .val (.ref b9), .unset] [(.long x0), (.ref b9)])) (fun t k => XS.lloadN X44.here hx rfl (hb hby at_61) rfl k) ?_
    refine Go.of (T' := T44) (f' := (mkF m 64 #[.val (.long x0), .second, .val (.int x1), .val (.int x2), .val (.int x3), .val (.int at_), .val (.ref b9), .unset] [(.int (32 : Int32)), (.long x0), (.ref b9)])) (fun t k => XS.bipush X44.here hx rfl (hb hby at_62) k) ?_
    refine Go.of (T' := T44) (f' := (mkF m 65 #[.val (.long x0), .second, .val (.int x1), .val (.int x2), .val (.int x3), .val (.int at_), .val (.ref b9), .unset] [(.long (x0 >>> ((32 : Int32) &&& 0x3f).toInt64)), (.ref b9)])) (fun t k => XS.lshr X44.here hx rfl (hb hby at_64) rfl k) ?_
    refine Go.of (T' := T44) (f' := (mkF m 66 #[.val (.long x0), .second, .val (.int x1), .val (.int x2), .val (.int x3), .val (.int at_), .val (.ref b9), .unset] [(.int ((x0 >>> ((32 : Int32) &&& 0x3f).toInt64).toInt32)), (.ref b9)])) (fun t k => XS.l2i X44.here hx rfl (hb hby at_65) rfl k) ?_
    obtain ⟨cq45, kq45, q45a, q45b, q45c⟩ := isOf hZ rfl Ex44_b9
    obtain ⟨_, _, ⟨T45, L45, k45, n45⟩, -, X45, ⟨Lc45, hQ45, l45, y45, z45⟩, st45⟩ := X44.virtualBack hx (y := (⟨"com/example/keelson/keelson/wire/WireWriter", "int8", "(I)V"⟩ : MethodName)) (z := (⟨"com/example/keelson/keelson/wire/WireWriter", "int8", "(I)V"⟩ : MethodName)) hown (mvT hZ (hw _ (List.mem_of_getElem? (i := 20) rfl))) (mvT hZ (hw _ (List.mem_of_getElem? (i := 21) rfl))) (notFace_of_selects (args := #[]) (mvT hZ (hw _ (List.mem_of_getElem? (i := 23) rfl)))) (mvT hZ (hw _ (List.mem_of_getElem? (i := 23) rfl))) (mvT hZ (hw _ (List.mem_of_getElem? (i := 22) rfl))) (by decide) (backOf (W := 0) (rm4_a l Z a0 hw [] b9 ((x0 >>> ((32 : Int32) &&& 0x3f).toInt64).toInt32) (4 : Int32) b10 [(f0 x0), (f1 x0), (f2 x0), (f3 x0), (0 : Int32)] 4 T44.heap n0 ZS44 Ex44_b9 Fs44 Fb44 V44 g_b9 g_b10 ne_b9_b10 (by decide) (by decide) (by first | (simp only [List.length_cons, List.length_nil]; omega) | simp) (by first | (simp only [List.length_cons, List.length_nil]; omega) | simp)) hZ (hw _ (List.mem_of_getElem? (i := 24) rfl)) (hw _ (List.mem_of_getElem? (i := 3) rfl)) (by decide) (by decide)) q45a q45c (g := (mkF m 66 #[.val (.long x0), .second, .val (.int x1), .val (.int x2), .val (.int x3), .val (.int at_), .val (.ref b9), .unset] [(.int ((x0 >>> ((32 : Int32) &&& 0x3f).toInt64).toInt32)), (.ref b9)])) rfl (by rw [hml]; rfl) (Steps.refl _) (argsL := [(.int ((x0 >>> ((32 : Int32) &&& 0x3f).toInt64).toInt32))]) (rest := []) (lenOf pd_1 rfl) rfl (by show 2 * 0 + _ ≤ _; exact Nat.le_of_eq rfl) (hb hby at_66) (fun _ _ => ⟨rfl, rfl, (by decide : 2 + 0 ≤ _), (by decide : 19 + 0 ≤ _)⟩)
    dsimp only [Pt.U, Pt.locs, Pt.cells, Pt.slots] at X45 l45 y45 z45 st45 hQ45
    subst l45 y45 z45
    obtain ⟨rfl, N45q, K45, Fb45, Fz45, Vz45⟩ := hQ45
    have N45 := Fr.app N44 N45q
    have Ex45_b9 : Exa Z T45.heap b9 "com/example/keelson/keelson/wire/WireWriter" := Ex44_b9.keep K45
    have Ex45_b10 : Exa Z T45.heap b10 "[B" := Ex44_b10.keep K45
    have Fs45 : Fld Z T45.heap b9 "com/example/keelson/keelson/wire/WireWriter" "size" "I" (.int (5 : Int32)) := Fz45
    have V45 : VArr Z T45.heap b10 .byte ([(f0 x0), (f1 x0), (f2 x0), (f3 x0), (f4 x0)].map Value.int) := Vz45
    have ZS45 : n0 ≤ T45.heap.size := Nat.le_trans ZS44 K45.1
    have KK45 : Keep h0 T45.heap [] := KK44.trans K45 (allS (Or.inr sz_b9) (allS (Or.inr sz_b10) all0))
    refine Go.tr (T' := T45) (f' := (mkF m 69 #[.val (.long x0), .second, .val (.int x1), .val (.int x2), .val (.int x3), .val (.int at_), .val (.ref b9), .unset] [])) st45 ?_
    refine Go.of (T' := T45) (f' := (mkF m 71 #[.val (.long x0), .second, .val (.int x1), .val (.int x2), .val (.int x3), .val (.int at_), .val (.ref b9), .unset] [(.ref b9)])) (fun t k => XS.aload X45.here hx rfl (hb hby at_69) rfl rfl k) ?_
    refine Go.of (T' := T45) (f' := (mkF m 72 #[.val (.long x0), .second, .val (.int x1), .val (.int x2), .val (.int x3), .val (.int at_), .val (.ref b9), .unset] [(.long x0), (.ref b9)])) (fun t k => XS.lloadN X45.here hx rfl (hb hby at_71) rfl k) ?_
    refine Go.of (T' := T45) (f' := (mkF m 74 #[.val (.long x0), .second, .val (.int x1), .val (.int x2), .val (.int x3), .val (.int at_), .val (.ref b9), .unset] [(.int (40 : Int32)), (.long x0), (.ref b9)])) (fun t k => XS.bipush X45.here hx rfl (hb hby at_72) k) ?_
    refine Go.of (T' := T45) (f' := (mkF m 75 #[.val (.long x0), .second, .val (.int x1), .val (.int x2), .val (.int x3), .val (.int at_), .val (.ref b9), .unset] [(.long (x0 >>> ((40 : Int32) &&& 0x3f).toInt64)), (.ref b9)])) (fun t k => XS.lshr X45.here hx rfl (hb hby at_74) rfl k) ?_
    refine Go.of (T' := T45) (f' := (mkF m 76 #[.val (.long x0), .second, .val (.int x1), .val (.int x2), .val (.int x3), .val (.int at_), .val (.ref b9), .unset] [(.int ((x0 >>> ((40 : Int32) &&& 0x3f).toInt64).toInt32)), (.ref b9)])) (fun t k => XS.l2i X45.here hx rfl (hb hby at_75) rfl k) ?_
    have TY46 : TyB [(f0 x0), (f1 x0), (f2 x0), (f3 x0), (f4 x0)] := own_ty5 x0
    obtain ⟨cq46, kq46, q46a, q46b, q46c⟩ := isOf hZ rfl Ex45_b9
    obtain ⟨_, _, ⟨T46, L46, k46, n46⟩, -, X46, ⟨Lc46, hQ46, l46, y46, z46⟩, st46⟩ := X45.virtualBack hx (y := (⟨"com/example/keelson/keelson/wire/WireWriter", "int8", "(I)V"⟩ : MethodName)) (z := (⟨"com/example/keelson/keelson/wire/WireWriter", "int8", "(I)V"⟩ : MethodName)) hown (mvT hZ (hw _ (List.mem_of_getElem? (i := 20) rfl))) (mvT hZ (hw _ (List.mem_of_getElem? (i := 21) rfl))) (notFace_of_selects (args := #[]) (mvT hZ (hw _ (List.mem_of_getElem? (i := 23) rfl)))) (mvT hZ (hw _ (List.mem_of_getElem? (i := 23) rfl))) (mvT hZ (hw _ (List.mem_of_getElem? (i := 22) rfl))) (by decide) (backOf (W := 0) (rm4_b l Z a0 hw [] b9 ((x0 >>> ((40 : Int32) &&& 0x3f).toInt64).toInt32) (5 : Int32) b10 [(f0 x0), (f1 x0), (f2 x0), (f3 x0), (f4 x0)] 262 5 T45.heap n0 ZS45 Ex45_b9 Fs45 Fb45 V45 Ex45_b10 g_b9 ne_b9_b10 TY46 (by first | (simp only [List.length_cons, List.length_nil]; omega) | simp) (own_g ⟨5, by decide⟩).1 (own_g ⟨5, by decide⟩).2 (by decide) (by decide) (by decide) (by decide)) hZ (hw _ (List.mem_of_getElem? (i := 24) rfl)) (hw _ (List.mem_of_getElem? (i := 3) rfl)) (by decide) (by decide)) q46a q46c (g := (mkF m 76 #[.val (.long x0), .second, .val (.int x1), .val (.int x2), .val (.int x3), .val (.int at_), .val (.ref b9), .unset] [(.int ((x0 >>> ((40 : Int32) &&& 0x3f).toInt64).toInt32)), (.ref b9)])) rfl (by rw [hml]; rfl) (Steps.refl _) (argsL := [(.int ((x0 >>> ((40 : Int32) &&& 0x3f).toInt64).toInt32))]) (rest := []) (lenOf pd_1 rfl) rfl (by show 2 * 0 + _ ≤ _; exact Nat.le_of_eq rfl) (hb hby at_76) (fun _ _ => ⟨rfl, rfl, (by decide : 2 + 1 ≤ _), (by decide : 19 + 262 ≤ _)⟩)
    dsimp only [Pt.U, Pt.locs, Pt.cells, Pt.slots] at X46 l46 y46 z46 st46 hQ46
    subst l46 y46 z46
    obtain ⟨b46, rfl, N46q, K46, sb46, g_b46, Fb46, Fz46, Exz46, Vz46⟩ := hQ46
    have N46 := Fr.app N45 N46q
    have ne_b9_b46 : b9 ≠ b46 := Nat.ne_of_lt (Nat.lt_of_lt_of_le Fb45.lt sb46)
    have ne_b10_b46 : b10 ≠ b46 := Nat.ne_of_lt (Nat.lt_of_lt_of_le Ex45_b10.lt sb46)
    have sz_b46 : h0.size ≤ b46 := Nat.le_trans KK45.1 sb46
    have Ex46_b9 : Exa Z T46.heap b9 "com/example/keelson/keelson/wire/WireWriter" := Ex45_b9.keep K46
    have Ex46_b10 : Exa Z T46.heap b10 "[B" := Ex45_b10.keep K46
    have V46_b10 : VArr Z T46.heap b10 .byte ([(f0 x0), (f1 x0), (f2 x0), (f3 x0), (f4 x0)].map Value.int) := V45.keep K46 (ninS (Ne.symm ne_b9_b10) nin0)
    obtain ⟨tl_, htl, htT, hcp⟩ := own_cpy6 [(f0 x0), (f1 x0), (f2 x0), (f3 x0), (f4 x0)] TY46 262 256 (by decide) (by decide)
    rw [hcp] at Vz46
    have Fs46 : Fld Z T46.heap b9 "com/example/keelson/keelson/wire/WireWriter" "size" "I" (.int (6 : Int32)) := Fz46
    have V46 : VArr Z T46.heap b46 .byte (((f0 x0) :: (f1 x0) :: (f2 x0) :: (f3 x0) :: (f4 x0) :: (f5 x0) :: tl_).map Value.int) := Vz46
    have ZS46 : n0 ≤ T46.heap.size := Nat.le_trans ZS45 K46.1
    have KK46 : Keep h0 T46.heap [] := KK45.trans K46 (allS (Or.inr sz_b9) all0)
    refine Go.tr (T' := T46) (f' := (mkF m 79 #[.val (.long x0), .second, .val (.int x1), .val (.int x2), .val (.int x3), .val (.int at_), .val (.ref b9), .unset] [])) st46 ?_
    have TY6 := own_ty6 x0 htT
    have XX := X46.more (cells' := 3) (slots' := 300) (by decide) (by decide)
    exact TAIL T46 _ T46.heap b9 b46 tl_ XX rfl N46 Ex46_b9 Fb46 Fs46 Exz46 V46 g_b9 g_b46 ne_b9_b46 sz_b9 sz_b46 TY6 htl ZS46 KK46
  · -- capacity 6
    obtain ⟨tl_, htl, htT, hrp⟩ := own_rep6 hn.1 hn.2
    rw [hrp] at Vb10
    have VV : VArr Z T10.heap b10 .byte (((0 : Int32) :: (0 : Int32) :: (0 : Int32) :: (0 : Int32) :: (0 : Int32) :: (0 : Int32) :: tl_).map Value.int) := Vb10
    refine Go.of (T' := T10) (f' := (mkF m 22 #[.val (.long x0), .second, .val (.int x1), .val (.int x2), .val (.int x3), .val (.int at_), .val (.ref b9), .unset] [])) (fun t k => XS.astore X10.here hx rfl (hb hby at_20) rfl rfl (l' := #[.val (.long x0), .second, .val (.int x1), .val (.int x2), .val (.int x3), .val (.int at_), .val (.ref b9), .unset]) rfl k) ?_
    refine Go.of (T' := T10) (f' := (mkF m 24 #[.val (.long x0), .second, .val (.int x1), .val (.int x2), .val (.int x3), .val (.int at_), .val (.ref b9), .unset] [(.ref b9)])) (fun t k => XS.aload X10.here hx rfl (hb hby at_22) rfl rfl k) ?_
    refine Go.of (T' := T10) (f' := (mkF m 25 #[.val (.long x0), .second, .val (.int x1), .val (.int x2), .val (.int x3), .val (.int at_), .val (.ref b9), .unset] [(.long x0), (.ref b9)])) (fun t k => XS.lloadN X10.here hx rfl (hb hby at_24) rfl k) ?_
    refine Go.of (T' := T10) (f' := (mkF m 26 #[.val (.long x0), .second, .val (.int x1), .val (.int x2), .val (.int x3), .val (.int at_), .val (.ref b9), .unset] [(.int (x0.toInt32)), (.ref b9)])) (fun t k => XS.l2i X10.here hx rfl (hb hby at_25) rfl k) ?_
    obtain ⟨cq47, kq47, q47a, q47b, q47c⟩ := isOf hZ rfl Ex10_b9
    obtain ⟨_, _, ⟨T47, L47, k47, n47⟩, -, X47, ⟨Lc47, hQ47, l47, y47, z47⟩, st47⟩ := X10.virtualBack hx (y := (⟨"com/example/keelson/keelson/wire/WireWriter", "int8", "(I)V"⟩ : MethodName)) (z := (⟨"com/example/keelson/keelson/wire/WireWriter", "int8", "(I)V"⟩ : MethodName)) hown (mvT hZ (hw _ (List.mem_of_getElem? (i := 20) rfl))) (mvT hZ (hw _ (List.mem_of_getElem? (i := 21) rfl))) (notFace_of_selects (args := #[]) (mvT hZ (hw _ (List.mem_of_getElem? (i := 23) rfl)))) (mvT hZ (hw _ (List.mem_of_getElem? (i := 23) rfl))) (mvT hZ (hw _ (List.mem_of_getElem? (i := 22) rfl))) (by decide) (backOf (W := 0) (rm4_a l Z a0 hw [] b9 (x0.toInt32) (0 : Int32) b10 ((0 : Int32) :: (0 : Int32) :: (0 : Int32) :: (0 : Int32) :: (0 : Int32) :: (0 : Int32) :: tl_) 0 T10.heap n0 ZS10 Ex10_b9 Fs10 Fb10 VV g_b9 g_b10 ne_b9_b10 (by decide) (by decide) (by first | (simp only [List.length_cons, List.length_nil]; omega) | simp) (by first | (simp only [List.length_cons, List.length_nil]; omega) | simp)) hZ (hw _ (List.mem_of_getElem? (i := 24) rfl)) (hw _ (List.mem_of_getElem? (i := 3) rfl)) (by decide) (by decide)) q47a q47c (g := (mkF m 26 #[.val (.long x0), .second, .val (.int x1), .val (.int x2), .val (.int x3), .val (.int at_), .val (.ref b9), .unset] [(.int (x0.toInt32)), (.ref b9)])) rfl (by rw [hml]; rfl) (Steps.refl _) (argsL := [(.int (x0.toInt32))]) (rest := []) (lenOf pd_1 rfl) rfl (by show 2 * 0 + _ ≤ _; exact Nat.le_of_eq rfl) (hb hby at_26) (fun _ _ => ⟨rfl, rfl, (by decide : 2 + 0 ≤ _), (by decide : 19 + 0 ≤ _)⟩)
    dsimp only [Pt.U, Pt.locs, Pt.cells, Pt.slots] at X47 l47 y47 z47 st47 hQ47
    subst l47 y47 z47
    obtain ⟨rfl, N47q, K47, Fb47, Fz47, Vz47⟩ := hQ47
    have N47 := Fr.app N10 N47q
    have Ex47_b9 : Exa Z T47.heap b9 "com/example/keelson/keelson/wire/WireWriter" := Ex10_b9.keep K47
    have Ex47_b10 : Exa Z T47.heap b10 "[B" := Ex10.keep K47
    have Fs47 : Fld Z T47.heap b9 "com/example/keelson/keelson/wire/WireWriter" "size" "I" (.int (1 : Int32)) := Fz47
    have V47 : VArr Z T47.heap b10 .byte (((f0 x0) :: (0 : Int32) :: (0 : Int32) :: (0 : Int32) :: (0 : Int32) :: (0 : Int32) :: tl_).map Value.int) := Vz47
    have ZS47 : n0 ≤ T47.heap.size := Nat.le_trans ZS10 K47.1
    have KK47 : Keep h0 T47.heap [] := KK10.trans K47 (allS (Or.inr sz_b9) (allS (Or.inr sz_b10) all0))
    refine Go.tr (T' := T47) (f' := (mkF m 29 #[.val (.long x0), .second, .val (.int x1), .val (.int x2), .val (.int x3), .val (.int at_), .val (.ref b9), .unset] [])) st47 ?_
    refine Go.of (T' := T47) (f' := (mkF m 31 #[.val (.long x0), .second, .val (.int x1), .val (.int x2), .val (.int x3), .val (.int at_), .val (.ref b9), .unset] [(.ref b9)])) (fun t k => XS.aload X47.here hx rfl (hb hby at_29) rfl rfl k) ?_
    refine Go.of (T' := T47) (f' := (mkF m 32 #[.val (.long x0), .second, .val (.int x1), .val (.int x2), .val (.int x3), .val (.int at_), .val (.ref b9), .unset] [(.long x0), (.ref b9)])) (fun t k => XS.lloadN X47.here hx rfl (hb hby at_31) rfl k) ?_
    refine Go.of (T' := T47) (f' := (mkF m 34 #[.val (.long x0), .second, .val (.int x1), .val (.int x2), .val (.int x3), .val (.int at_), .val (.ref b9), .unset] [(.int (8 : Int32)), (.long x0), (.ref b9)])) (fun t k => XS.bipush X47.here hx rfl (hb hby at_32) k) ?_
    refine Go.of (T' := T47) (f' := (mkF m 35 #[.val (.long x0), .second, .val (.int x1), .val (.int x2), .val (.int x3), .val (.int at_), .val (.ref b9), .unset] [(.long (x0 >>> ((8 : Int32) &&& 0x3f).toInt64)), (.ref b9)])) (fun t k => XS.lshr X47.here hx rfl (hb hby at_34) rfl k) ?_
    refine Go.of (T' := T47) (f' := (mkF m 36 #[.val (.long x0), .second, .val (.int x1), .val (.int x2), .val (.int x3), .val (.int at_), .val (.ref b9), .unset] [(.int ((x0 >>> ((8 : Int32) &&& 0x3f).toInt64).toInt32)), (.ref b9)])) (fun t k => XS.l2i X47.here hx rfl (hb hby at_35) rfl k) ?_
    obtain ⟨cq48, kq48, q48a, q48b, q48c⟩ := isOf hZ rfl Ex47_b9
    obtain ⟨_, _, ⟨T48, L48, k48, n48⟩, -, X48, ⟨Lc48, hQ48, l48, y48, z48⟩, st48⟩ := X47.virtualBack hx (y := (⟨"com/example/keelson/keelson/wire/WireWriter", "int8", "(I)V"⟩ : MethodName)) (z := (⟨"com/example/keelson/keelson/wire/WireWriter", "int8", "(I)V"⟩ : MethodName)) hown (mvT hZ (hw _ (List.mem_of_getElem? (i := 20) rfl))) (mvT hZ (hw _ (List.mem_of_getElem? (i := 21) rfl))) (notFace_of_selects (args := #[]) (mvT hZ (hw _ (List.mem_of_getElem? (i := 23) rfl)))) (mvT hZ (hw _ (List.mem_of_getElem? (i := 23) rfl))) (mvT hZ (hw _ (List.mem_of_getElem? (i := 22) rfl))) (by decide) (backOf (W := 0) (rm4_a l Z a0 hw [] b9 ((x0 >>> ((8 : Int32) &&& 0x3f).toInt64).toInt32) (1 : Int32) b10 ((f0 x0) :: (0 : Int32) :: (0 : Int32) :: (0 : Int32) :: (0 : Int32) :: (0 : Int32) :: tl_) 1 T47.heap n0 ZS47 Ex47_b9 Fs47 Fb47 V47 g_b9 g_b10 ne_b9_b10 (by decide) (by decide) (by first | (simp only [List.length_cons, List.length_nil]; omega) | simp) (by first | (simp only [List.length_cons, List.length_nil]; omega) | simp)) hZ (hw _ (List.mem_of_getElem? (i := 24) rfl)) (hw _ (List.mem_of_getElem? (i := 3) rfl)) (by decide) (by decide)) q48a q48c (g := (mkF m 36 #[.val (.long x0), .second, .val (.int x1), .val (.int x2), .val (.int x3), .val (.int at_), .val (.ref b9), .unset] [(.int ((x0 >>> ((8 : Int32) &&& 0x3f).toInt64).toInt32)), (.ref b9)])) rfl (by rw [hml]; rfl) (Steps.refl _) (argsL := [(.int ((x0 >>> ((8 : Int32) &&& 0x3f).toInt64).toInt32))]) (rest := []) (lenOf pd_1 rfl) rfl (by show 2 * 0 + _ ≤ _; exact Nat.le_of_eq rfl) (hb hby at_36) (fun _ _ => ⟨rfl, rfl, (by decide : 2 + 0 ≤ _), (by decide : 19 + 0 ≤ _)⟩)
    dsimp only [Pt.U, Pt.locs, Pt.cells, Pt.slots] at X48 l48 y48 z48 st48 hQ48
    subst l48 y48 z48
    obtain ⟨rfl, N48q, K48, Fb48, Fz48, Vz48⟩ := hQ48
    have N48 := Fr.app N47 N48q
    have Ex48_b9 : Exa Z T48.heap b9 "com/example/keelson/keelson/wire/WireWriter" := Ex47_b9.keep K48
    have Ex48_b10 : Exa Z T48.heap b10 "[B" := Ex47_b10.keep K48
    have Fs48 : Fld Z T48.heap b9 "com/example/keelson/keelson/wire/WireWriter" "size" "I" (.int (2 : Int32)) := Fz48
    have V48 : VArr Z T48.heap b10 .byte (((f0 x0) :: (f1 x0) :: (0 : Int32) :: (0 : Int32) :: (0 : Int32) :: (0 : Int32) :: tl_).map Value.int) := Vz48
    have ZS48 : n0 ≤ T48.heap.size := Nat.le_trans ZS47 K48.1
    have KK48 : Keep h0 T48.heap [] := KK47.trans K48 (allS (Or.inr sz_b9) (allS (Or.inr sz_b10) all0))
    refine Go.tr (T' := T48) (f' := (mkF m 39 #[.val (.long x0), .second, .val (.int x1), .val (.int x2), .val (.int x3), .val (.int at_), .val (.ref b9), .unset] [])) st48 ?_
    refine Go.of (T' := T48) (f' := (mkF m 41 #[.val (.long x0), .second, .val (.int x1), .val (.int x2), .val (.int x3), .val (.int at_), .val (.ref b9), .unset] [(.ref b9)])) (fun t k => XS.aload X48.here hx rfl (hb hby at_39) rfl rfl k) ?_
    refine Go.of (T' := T48) (f' := (mkF m 42 #[.val (.long x0), .second, .val (.int x1), .val (.int x2), .val (.int x3), .val (.int at_), .val (.ref b9), .unset] [(.long x0), (.ref b9)])) (fun t k => XS.lloadN X48.here hx rfl (hb hby at_41) rfl k) ?_
    refine Go.of (T' := T48) (f' := (mkF m 44 #[.val (.long x0), .second, .val (.int x1), .val (.int x2), .val (.int x3), .val (.int at_), .val (.ref b9), .unset] [(.int (16 : Int32)), (.long x0), (.ref b9)])) (fun t k => XS.bipush X48.here hx rfl (hb hby at_42) k) ?_
    refine Go.of (T' := T48) (f' := (mkF m 45 #[.val (.long x0), .second, .val (.int x1), .val (.int x2), .val (.int x3), .val (.int at_), .val (.ref b9), .unset] [(.long (x0 >>> ((16 : Int32) &&& 0x3f).toInt64)), (.ref b9)])) (fun t k => XS.lshr X48.here hx rfl (hb hby at_44) rfl k) ?_
    refine Go.of (T' := T48) (f' := (mkF m 46 #[.val (.long x0), .second, .val (.int x1), .val (.int x2), .val (.int x3), .val (.int at_), .val (.ref b9), .unset] [(.int ((x0 >>> ((16 : Int32) &&& 0x3f).toInt64).toInt32)), (.ref b9)])) (fun t k => XS.l2i X48.here hx rfl (hb hby at_45) rfl k) ?_
    obtain ⟨cq49, kq49, q49a, q49b, q49c⟩ := isOf hZ rfl Ex48_b9
    obtain ⟨_, _, ⟨T49, L49, k49, n49⟩, -, X49, ⟨Lc49, hQ49, l49, y49, z49⟩, st49⟩ := X48.virtualBack hx (y := (⟨"com/example/keelson/keelson/wire/WireWriter", "int8", "(I)V"⟩ : MethodName)) (z := (⟨"com/example/keelson/keelson/wire/WireWriter", "int8", "(I)V"⟩ : MethodName)) hown (mvT hZ (hw _ (List.mem_of_getElem? (i := 20) rfl))) (mvT hZ (hw _ (List.mem_of_getElem? (i := 21) rfl))) (notFace_of_selects (args := #[]) (mvT hZ (hw _ (List.mem_of_getElem? (i := 23) rfl)))) (mvT hZ (hw _ (List.mem_of_getElem? (i := 23) rfl))) (mvT hZ (hw _ (List.mem_of_getElem? (i := 22) rfl))) (by decide) (backOf (W := 0) (rm4_a l Z a0 hw [] b9 ((x0 >>> ((16 : Int32) &&& 0x3f).toInt64).toInt32) (2 : Int32) b10 ((f0 x0) :: (f1 x0) :: (0 : Int32) :: (0 : Int32) :: (0 : Int32) :: (0 : Int32) :: tl_) 2 T48.heap n0 ZS48 Ex48_b9 Fs48 Fb48 V48 g_b9 g_b10 ne_b9_b10 (by decide) (by decide) (by first | (simp only [List.length_cons, List.length_nil]; omega) | simp) (by first | (simp only [List.length_cons, List.length_nil]; omega) | simp)) hZ (hw _ (List.mem_of_getElem? (i := 24) rfl)) (hw _ (List.mem_of_getElem? (i := 3) rfl)) (by decide) (by decide)) q49a q49c (g := (mkF m 46 #[.val (.long x0), .second, .val (.int x1), .val (.int x2), .val (.int x3), .val (.int at_), .val (.ref b9), .unset] [(.int ((x0 >>> ((16 : Int32) &&& 0x3f).toInt64).toInt32)), (.ref b9)])) rfl (by rw [hml]; rfl) (Steps.refl _) (argsL := [(.int ((x0 >>> ((16 : Int32) &&& 0x3f).toInt64).toInt32))]) (rest := []) (lenOf pd_1 rfl) rfl (by show 2 * 0 + _ ≤ _; exact Nat.le_of_eq rfl) (hb hby at_46) (fun _ _ => ⟨rfl, rfl, (by decide : 2 + 0 ≤ _), (by decide : 19 + 0 ≤ _)⟩)
    dsimp only [Pt.U, Pt.locs, Pt.cells, Pt.slots] at X49 l49 y49 z49 st49 hQ49
    subst l49 y49 z49
    obtain ⟨rfl, N49q, K49, Fb49, Fz49, Vz49⟩ := hQ49
    have N49 := Fr.app N48 N49q
    have Ex49_b9 : Exa Z T49.heap b9 "com/example/keelson/keelson/wire/WireWriter" := Ex48_b9.keep K49
    have Ex49_b10 : Exa Z T49.heap b10 "[B" := Ex48_b10.keep K49
    have Fs49 : Fld Z T49.heap b9 "com/example/keelson/keelson/wire/WireWriter" "size" "I" (.int (3 : Int32)) := Fz49
    have V49 : VArr Z T49.heap b10 .byte (((f0 x0) :: (f1 x0) :: (f2 x0) :: (0 : Int32) :: (0 : Int32) :: (0 : Int32) :: tl_).map Value.int) := Vz49
    have ZS49 : n0 ≤ T49.heap.size := Nat.le_trans ZS48 K49.1
    have KK49 : Keep h0 T49.heap [] := KK48.trans K49 (allS (Or.inr sz_b9) (allS (Or.inr sz_b10) all0))
    refine Go.tr (T' := T49) (f' := (mkF m 49 #[.val (.long x0), .second, .val (.int x1), .val (.int x2), .val (.int x3), .val (.int at_), .val (.ref b9), .unset] [])) st49 ?_
    refine Go.of (T' := T49) (f' := (mkF m 51 #[.val (.long x0), .second, .val (.int x1), .val (.int x2), .val (.int x3), .val (.int at_), .val (.ref b9), .unset] [(.ref b9)])) (fun t k => XS.aload X49.here hx rfl (hb hby at_49) rfl rfl k) ?_
    refine Go.of (T' := T49) (f' := (mkF m 52 #[.val (.long x0), .second, .val (.int x1), .val (.int x2), .val (.int x3), .val (.int at_), .val (.ref b9), .unset] [(.long x0), (.ref b9)])) (fun t k => XS.lloadN X49.here hx rfl (hb hby at_51) rfl k) ?_
    refine Go.of (T' := T49) (f' := (mkF m 54 #[.val (.long x0), .second, .val (.int x1), .val (.int x2), .val (.int x3), .val (.int at_), .val (.ref b9), .unset] [(.int (24 : Int32)), (.long x0), (.ref b9)])) (fun t k => XS.bipush X49.here hx rfl (hb hby at_52) k) ?_
    refine Go.of (T' := T49) (f' := (mkF m 55 #[.val (.long x0), .second, .val (.int x1), .val (.int x2), .val (.int x3), .val (.int at_), .val (.ref b9), .unset] [(.long (x0 >>> ((24 : Int32) &&& 0x3f).toInt64)), (.ref b9)])) (fun t k => XS.lshr X49.here hx rfl (hb hby at_54) rfl k) ?_
    refine Go.of (T' := T49) (f' := (mkF m 56 #[.val (.long x0), .second, .val (.int x1), .val (.int x2), .val (.int x3), .val (.int at_), .val (.ref b9), .unset] [(.int ((x0 >>> ((24 : Int32) &&& 0x3f).toInt64).toInt32)), (.ref b9)])) (fun t k => XS.l2i X49.here hx rfl (hb hby at_55) rfl k) ?_
    obtain ⟨cq50, kq50, q50a, q50b, q50c⟩ := isOf hZ rfl Ex49_b9
    obtain ⟨_, _, ⟨T50, L50, k50, n50⟩, -, X50, ⟨Lc50, hQ50, l50, y50, z50⟩, st50⟩ := X49.virtualBack hx (y := (⟨"com/example/keelson/keelson/wire/WireWriter", "int8", "(I)V"⟩ : MethodName)) (z := (⟨"com/example/keelson/keelson/wire/WireWriter", "int8", "(I)V"⟩ : MethodName)) hown (mvT hZ (hw _ (List.mem_of_getElem? (i := 20) rfl))) (mvT hZ (hw _ (List.mem_of_getElem? (i := 21) rfl))) (notFace_of_selects (args := #[]) (mvT hZ (hw _ (List.mem_of_getElem? (i := 23) rfl)))) (mvT hZ (hw _ (List.mem_of_getElem? (i := 23) rfl))) (mvT hZ (hw _ (List.mem_of_getElem? (i := 22) rfl))) (by decide) (backOf (W := 0) (rm4_a l Z a0 hw [] b9 ((x0 >>> ((24 : Int32) &&& 0x3f).toInt64).toInt32) (3 : Int32) b10 ((f0 x0) :: (f1 x0) :: (f2 x0) :: (0 : Int32) :: (0 : Int32) :: (0 : Int32) :: tl_) 3 T49.heap n0 ZS49 Ex49_b9 Fs49 Fb49 V49 g_b9 g_b10 ne_b9_b10 (by decide) (by decide) (by first | (simp only [List.length_cons, List.length_nil]; omega) | simp) (by first | (simp only [List.length_cons, List.length_nil]; omega) | simp)) hZ (hw _ (List.mem_of_getElem? (i := 24) rfl)) (hw _ (List.mem_of_getElem? (i := 3) rfl)) (by decide) (by decide)) q50a q50c (g := (mkF m 56 #[.val (.long x0), .second, .val (.int x1), .val (.int x2), .val (.int x3), .val (.int at_), .val (.ref b9), .unset] [(.int ((x0 >>> ((24 : Int32) &&& 0x3f).toInt64).toInt32)), (.ref b9)])) rfl (by rw [hml]; rfl) (Steps.refl _) (argsL := [(.int ((x0 >>> ((24 : Int32) &&& 0x3f).toInt64).toInt32))]) (rest := []) (lenOf pd_1 rfl) rfl (by show 2 * 0 + _ ≤ _; exact Nat.le_of_eq rfl) (hb hby at_56) (fun _ _ => ⟨rfl, rfl, (by decide : 2 + 0 ≤ _), (by decide : 19 + 0 ≤ _)⟩)
    dsimp only [Pt.U, Pt.locs, Pt.cells, Pt.slots] at X50 l50 y50 z50 st50 hQ50
    subst l50 y50 z50
    obtain ⟨rfl, N50q, K50, Fb50, Fz50, Vz50⟩ := hQ50
    have N50 := Fr.app N49 N50q
    have Ex50_b9 : Exa Z T50.heap b9 "com/example/keelson/keelson/wire/WireWriter" := Ex49_b9.keep K50
    have Ex50_b10 : Exa Z T50.heap b10 "[B" := Ex49_b10.keep K50
    have Fs50 : Fld Z T50.heap b9 "com/example/keelson/keelson/wire/WireWriter" "size" "I" (.int (4 : Int32)) := Fz50
    have V50 : VArr Z T50.heap b10 .byte (((f0 x0) :: (f1 x0) :: (f2 x0) :: (f3 x0) :: (0 : Int32) :: (0 : Int32) :: tl_).map Value.int) := Vz50
    have ZS50 : n0 ≤ T50.heap.size := Nat.le_trans ZS49 K50.1
    have KK50 : Keep h0 T50.heap [] := KK49.trans K50 (allS (Or.inr sz_b9) (allS (Or.inr sz_b10) all0))
    refine Go.tr (T' := T50) (f' := (mkF m 59 #[.val (.long x0), .second, .val (.int x1), .val (.int x2), .val (.int x3), .val (.int at_), .val (.ref b9), .unset] [])) st50 ?_
    refine Go.of (T' := T50) (f' := (mkF m 61 #[.val (.long x0), .second, .val (.int x1), .val (.int x2), .val (.int x3), .val (.int at_), .val (.ref b9), .unset] [(.ref b9)])) (fun t k => XS.aload X50.here hx rfl (hb hby at_59) rfl rfl k) ?_
    refine Go.of (T' := T50) (f' := (mkF m 62 #[.val (.long x0), .second, .val (.int x1), .val (.int x2), .val (.int x3), .val (.int at_), .val (.ref b9), .unset] [(.long x0), (.ref b9)])) (fun t k => XS.lloadN X50.here hx rfl (hb hby at_61) rfl k) ?_
    refine Go.of (T' := T50) (f' := (mkF m 64 #[.val (.long x0), .second, .val (.int x1), .val (.int x2), .val (.int x3), .val (.int at_), .val (.ref b9), .unset] [(.int (32 : Int32)), (.long x0), (.ref b9)])) (fun t k => XS.bipush X50.here hx rfl (hb hby at_62) k) ?_
    refine Go.of (T' := T50) (f' := (mkF m 65 #[.val (.long x0), .second, .val (.int x1), .val (.int x2), .val (.int x3), .val (.int at_), .val (.ref b9), .unset] [(.long (x0 >>> ((32 : Int32) &&& 0x3f).toInt64)), (.ref b9)])) (fun t k => XS.lshr X50.here hx rfl (hb hby at_64) rfl k) ?_
    refine Go.of (T' := T50) (f' := (mkF m 66 #[.val (.long x0), .second, .val (.int x1), .val (.int x2), .val (.int x3), .val (.int at_), .val (.ref b9), .unset] [(.int ((x0 >>> ((32 : Int32) &&& 0x3f).toInt64).toInt32)), (.ref b9)])) (fun t k => XS.l2i X50.here hx rfl (hb hby at_65) rfl k) ?_
    obtain ⟨cq51, kq51, q51a, q51b, q51c⟩ := isOf hZ rfl Ex50_b9
    obtain ⟨_, _, ⟨T51, L51, k51, n51⟩, -, X51, ⟨Lc51, hQ51, l51, y51, z51⟩, st51⟩ := X50.virtualBack hx (y := (⟨"com/example/keelson/keelson/wire/WireWriter", "int8", "(I)V"⟩ : MethodName)) (z := (⟨"com/example/keelson/keelson/wire/WireWriter", "int8", "(I)V"⟩ : MethodName)) hown (mvT hZ (hw _ (List.mem_of_getElem? (i := 20) rfl))) (mvT hZ (hw _ (List.mem_of_getElem? (i := 21) rfl))) (notFace_of_selects (args := #[]) (mvT hZ (hw _ (List.mem_of_getElem? (i := 23) rfl)))) (mvT hZ (hw _ (List.mem_of_getElem? (i := 23) rfl))) (mvT hZ (hw _ (List.mem_of_getElem? (i := 22) rfl))) (by decide) (backOf (W := 0) (rm4_a l Z a0 hw [] b9 ((x0 >>> ((32 : Int32) &&& 0x3f).toInt64).toInt32) (4 : Int32) b10 ((f0 x0) :: (f1 x0) :: (f2 x0) :: (f3 x0) :: (0 : Int32) :: (0 : Int32) :: tl_) 4 T50.heap n0 ZS50 Ex50_b9 Fs50 Fb50 V50 g_b9 g_b10 ne_b9_b10 (by decide) (by decide) (by first | (simp only [List.length_cons, List.length_nil]; omega) | simp) (by first | (simp only [List.length_cons, List.length_nil]; omega) | simp)) hZ (hw _ (List.mem_of_getElem? (i := 24) rfl)) (hw _ (List.mem_of_getElem? (i := 3) rfl)) (by decide) (by decide)) q51a q51c (g := (mkF m 66 #[.val (.long x0), .second, .val (.int x1), .val (.int x2), .val (.int x3), .val (.int at_), .val (.ref b9), .unset] [(.int ((x0 >>> ((32 : Int32) &&& 0x3f).toInt64).toInt32)), (.ref b9)])) rfl (by rw [hml]; rfl) (Steps.refl _) (argsL := [(.int ((x0 >>> ((32 : Int32) &&& 0x3f).toInt64).toInt32))]) (rest := []) (lenOf pd_1 rfl) rfl (by show 2 * 0 + _ ≤ _; exact Nat.le_of_eq rfl) (hb hby at_66) (fun _ _ => ⟨rfl, rfl, (by decide : 2 + 0 ≤ _), (by decide : 19 + 0 ≤ _)⟩)
    dsimp only [Pt.U, Pt.locs, Pt.cells, Pt.slots] at X51 l51 y51 z51 st51 hQ51
    subst l51 y51 z51
    obtain ⟨rfl, N51q, K51, Fb51, Fz51, Vz51⟩ := hQ51
    have N51 := Fr.app N50 N51q
    have Ex51_b9 : Exa Z T51.heap b9 "com/example/keelson/keelson/wire/WireWriter" := Ex50_b9.keep K51
    have Ex51_b10 : Exa Z T51.heap b10 "[B" := Ex50_b10.keep K51
    have Fs51 : Fld Z T51.heap b9 "com/example/keelson/keelson/wire/WireWriter" "size" "I" (.int (5 : Int32)) := Fz51
    have V51 : VArr Z T51.heap b10 .byte (((f0 x0) :: (f1 x0) :: (f2 x0) :: (f3 x0) :: (f4 x0) :: (0 : Int32) :: tl_).map Value.int) := Vz51
    have ZS51 : n0 ≤ T51.heap.size := Nat.le_trans ZS50 K51.1
    have KK51 : Keep h0 T51.heap [] := KK50.trans K51 (allS (Or.inr sz_b9) (allS (Or.inr sz_b10) all0))
    refine Go.tr (T' := T51) (f' := (mkF m 69 #[.val (.long x0), .second, .val (.int x1), .val (.int x2), .val (.int x3), .val (.int at_), .val (.ref b9), .unset] [])) st51 ?_
    refine Go.of (T' := T51) (f' := (mkF m 71 #[.val (.long x0), .second, .val (.int x1), .val (.int x2), .val (.int x3), .val (.int at_), .val (.ref b9), .unset] [(.ref b9)])) (fun t k => XS.aload X51.here hx rfl (hb hby at_69) rfl rfl k) ?_
    refine Go.of (T' := T51) (f' := (mkF m 72 #[.val (.long x0), .second, .val (.int x1), .val (.int x2), .val (.int x3), .val (.int at_), .val (.ref b9), .unset] [(.long x0), (.ref b9)])) (fun t k => XS.lloadN X51.here hx rfl (hb hby at_71) rfl k) ?_
    refine Go.of (T' := T51) (f' := (mkF m 74 #[.val (.long x0), .second, .val (.int x1), .val (.int x2), .val (.int x3), .val (.int at_), .val (.ref b9), .unset] [(.int (40 : Int32)), (.long x0), (.ref b9)])) (fun t k => XS.bipush X51.here hx rfl (hb hby at_72) k) ?_
    refine Go.of (T' := T51) (f' := (mkF m 75 #[.val (.long x0), .second, .val (.int x1), .val (.int x2), .val (.int x3), .val (.int at_), .val (.ref b9), .unset] [(.long (x0 >>> ((40 : Int32) &&& 0x3f).toInt64)), (.ref b9)])) (fun t k => XS.lshr X51.here hx rfl (hb hby at_74) rfl k) ?_
    refine Go.of (T' := T51) (f' := (mkF m 76 #[.val (.long x0), .second, .val (.int x1), .val (.int x2), .val (.int x3), .val (.int at_), .val (.ref b9), .unset] [(.int ((x0 >>> ((40 : Int32) &&& 0x3f).toInt64).toInt32)), (.ref b9)])) (fun t k => XS.l2i X51.here hx rfl (hb hby at_75) rfl k) ?_
    obtain ⟨cq52, kq52, q52a, q52b, q52c⟩ := isOf hZ rfl Ex51_b9
    obtain ⟨_, _, ⟨T52, L52, k52, n52⟩, -, X52, ⟨Lc52, hQ52, l52, y52, z52⟩, st52⟩ := X51.virtualBack hx (y := (⟨"com/example/keelson/keelson/wire/WireWriter", "int8", "(I)V"⟩ : MethodName)) (z := (⟨"com/example/keelson/keelson/wire/WireWriter", "int8", "(I)V"⟩ : MethodName)) hown (mvT hZ (hw _ (List.mem_of_getElem? (i := 20) rfl))) (mvT hZ (hw _ (List.mem_of_getElem? (i := 21) rfl))) (notFace_of_selects (args := #[]) (mvT hZ (hw _ (List.mem_of_getElem? (i := 23) rfl)))) (mvT hZ (hw _ (List.mem_of_getElem? (i := 23) rfl))) (mvT hZ (hw _ (List.mem_of_getElem? (i := 22) rfl))) (by decide) (backOf (W := 0) (rm4_a l Z a0 hw [] b9 ((x0 >>> ((40 : Int32) &&& 0x3f).toInt64).toInt32) (5 : Int32) b10 ((f0 x0) :: (f1 x0) :: (f2 x0) :: (f3 x0) :: (f4 x0) :: (0 : Int32) :: tl_) 5 T51.heap n0 ZS51 Ex51_b9 Fs51 Fb51 V51 g_b9 g_b10 ne_b9_b10 (by decide) (by decide) (by first | (simp only [List.length_cons, List.length_nil]; omega) | simp) (by first | (simp only [List.length_cons, List.length_nil]; omega) | simp)) hZ (hw _ (List.mem_of_getElem? (i := 24) rfl)) (hw _ (List.mem_of_getElem? (i := 3) rfl)) (by decide) (by decide)) q52a q52c (g := (mkF m 76 #[.val (.long x0), .second, .val (.int x1), .val (.int x2), .val (.int x3), .val (.int at_), .val (.ref b9), .unset] [(.int ((x0 >>> ((40 : Int32) &&& 0x3f).toInt64).toInt32)), (.ref b9)])) rfl (by rw [hml]; rfl) (Steps.refl _) (argsL := [(.int ((x0 >>> ((40 : Int32) &&& 0x3f).toInt64).toInt32))]) (rest := []) (lenOf pd_1 rfl) rfl (by show 2 * 0 + _ ≤ _; exact Nat.le_of_eq rfl) (hb hby at_76) (fun _ _ => ⟨rfl, rfl, (by decide : 2 + 0 ≤ _), (by decide : 19 + 0 ≤ _)⟩)
    dsimp only [Pt.U, Pt.locs, Pt.cells, Pt.slots] at X52 l52 y52 z52 st52 hQ52
    subst l52 y52 z52
    obtain ⟨rfl, N52q, K52, Fb52, Fz52, Vz52⟩ := hQ52
    have N52 := Fr.app N51 N52q
    have Ex52_b9 : Exa Z T52.heap b9 "com/example/keelson/keelson/wire/WireWriter" := Ex51_b9.keep K52
    have Ex52_b10 : Exa Z T52.heap b10 "[B" := Ex51_b10.keep K52
    have Fs52 : Fld Z T52.heap b9 "com/example/keelson/keelson/wire/WireWriter" "size" "I" (.int (6 : Int32)) := Fz52
    have V52 : VArr Z T52.heap b10 .byte (((f0 x0) :: (f1 x0) :: (f2 x0) :: (f3 x0) :: (f4 x0) :: (f5 x0) :: tl_).map Value.int) := Vz52
    have ZS52 : n0 ≤ T52.heap.size := Nat.le_trans ZS51 K52.1
    have KK52 : Keep h0 T52.heap [] := KK51.trans K52 (allS (Or.inr sz_b9) (allS (Or.inr sz_b10) all0))
    refine Go.tr (T' := T52) (f' := (mkF m 79 #[.val (.long x0), .second, .val (.int x1), .val (.int x2), .val (.int x3), .val (.int at_), .val (.ref b9), .unset] [])) st52 ?_
    have TY6 := own_ty6 x0 htT
    have XX := X52.more (cells' := 3) (slots' := 300) (by decide) (by decide)
    exact TAIL T52 _ T52.heap b9 b10 tl_ XX rfl N52 Ex52_b9 Fb52 Fs52 Ex52_b10 V52 g_b9 g_b10 ne_b9_b10 sz_b9 sz_b10 TY6 htl ZS52 KK52
set_option maxRecDepth 65536 in
set_option maxHeartbeats 40000000 in
theorem comes_1 {Post : Tables → Env → Array Value → State → Outcome → State → Prop} (hpost : ∀ tb e args s v u, (limb_1_1.after args s (.returned v) u = true ∧ limb_1_2.after args s (.returned v) u = true ∧ True) → FrameEnd s (.returned v) u (Jvm.fieldLocs frame_1_writes args s ++ Jvm.arrayLocs frame_1_arrays args s ++ Jvm.staticLocs frame_1_statics s) 16 640 → Post tb e args s (.returned v) u) :
    ArmFor flags0 classFile x code maxLocals ret World_1 tables_1 room_1 Calls_1 rest_1 Pre_1 Post := by
  intro l hfl _ _ p e ha hc hk s m args below hf hA hF happ hP
  obtain ⟨hcalls, hrest, hpre⟩ := hP
  obtain ⟨-, -, -, hnamed, -, -, -, hat⟩ := (Spec.applies_iff hf).mp happ
  obtain ⟨hg, hn⟩ := and_e (Cond.before_iff.mp (show (Jvm.Cond.and given_1 narrow_1).before args s = true from hpre))
  obtain ⟨g0, gr0⟩ := and_e hg
  obtain ⟨ga0, gr1⟩ := and_e gr0
  obtain ⟨ga1, gr2⟩ := and_e gr1
  obtain ⟨ga2, gr3⟩ := and_e gr2
  have ga3 := gr3
  obtain ⟨w0, w1, w2, w3, rfl⟩ : ∃ w0 w1 w2 w3 : Value, args = #[w0, w1, w2, w3] := by
    have hs : args.size = 4 := by simpa [Cond.value, given_1] using g0
    obtain ⟨L⟩ := args
    match L, hs with
    | [w0, w1, w2, w3], _ => exact ⟨w0, w1, w2, w3, rfl⟩
  have hw := fun d (hd : d ∈ tables_1) => atoms_spec (ws := Jvm.Cond.code x code maxLocals ret :: tables_1) hat d (List.mem_cons_of_mem _ hd)
  obtain ⟨i0, ei0⟩ := isL_v ga0
  obtain rfl : w0 = (.long i0) := Option.some.inj ei0
  obtain ⟨i1, ei1⟩ := is_v ga1
  obtain rfl : w1 = (.int i1) := Option.some.inj ei1
  obtain ⟨i2, ei2⟩ := is_v ga2
  obtain rfl : w2 = (.int i2) := Option.some.inj ei2
  obtain ⟨i3, ei3⟩ := is_v ga3
  obtain rfl : w3 = (.int i3) := Option.some.inj ei3
  obtain ⟨n, o, h1, h2, h3, _, L, rfl, ⟨rfl, N⟩, hq⟩ := rm0 l s _ hw tables_1 i0 i1 i2 i3 s.heap s.heap.size (Nat.le_refl _)  p e ha hc hk s m _ below hf ((Spec.applies_iff_loose hf).mp happ).1 ⟨rfl, State.Warmed39.refl s, rfl⟩ trivial
  refine ⟨n, _, h1, h2, h3, hpost _ _ _ _ _ _ ⟨Cond.after_iff.mpr rfl, Cond.after_iff.mpr (eq_i res_at (Term.int_eval (1)) rfl), trivial⟩ ⟨hq.1, hq.2.1, (hq.2.2.sift fun y hy => Or.inr (N y hy)).mono (by decide) (by decide)⟩⟩
theorem main_1_1 : Claimed_1_1 := comes_1 fun _ _ _ _ _ _ h hF => ⟨h.1, hF⟩
theorem main_1_2 : Claimed_1_2 := comes_1 fun _ _ _ _ _ _ h hF => ⟨h.2.1, hF⟩
end Jvm.Pilot.@@N@@
namespace Jvm.Pilot.@@N@@
open Jvm Jvm.ClassFile Sem Op Lib Jvm.Free Jvm.Stand Jvm.Pilot.@@N@@.Jvm.D
/-! MADE BY PROGRAM (witnessworld.py) out of the Statement's table words and the real class files: 12 classes; the members and pool entries that the words name. The judged class is class 1, her method 1. -/
namespace start1
open Jvm.ClassFile
def u (s : String) : CpInfo := .utf8 (stringToUtf16 s)
/-- a pool by its gaps: so many unusable entries, then the entry; so many at the end -/
def gap : Nat → List CpInfo → List CpInfo
  | 0, r => r
  | n + 1, r => .unusable :: gap n r
def poolList (es : List (Nat × CpInfo)) (last : Nat) : List CpInfo := es.foldr (fun e r => gap e.1 (e.2 :: r)) (gap last [])
def pool (es : List (Nat × CpInfo)) (last : Nat) : Array CpInfo := ⟨poolList es last⟩
def fileOf (pool : Array CpInfo) (this : Nat) (attrs : Array Attribute := #[]) (ms : Array MethodInfo := #[]) (fl : Nat := 33) (sup : Nat := 0) (ifs : Array Nat := #[]) (fds : Array FieldInfo := #[]) : ClassFile where
  minorVersion := 0
  majorVersion := 65
  constantPool := pool
  accessFlags := fl
  thisClass := this
  superClass := sup
  interfaces := ifs
  fields := fds
  methods := ms
  attributes := attrs
def plain (name : String) (sup : Option ClassId) : Class where
  name := name
  kind := .ordinary
  loader := none
  accessFlags := 33
  super := sup
  interfaces := #[]
  cf := none
  fields := #[]
  methods := #[]
  instanceTypes := #[]
  staticTypes := #[]
  resolved := #[]
  callSites := []
  init := .initialized
  statics := none
  mirror := none

def pool0 : Array CpInfo := pool [(5, u "<init>"), (0, u "()V"), (1, .class_ 10), (1, u "java/lang/Object"), (85, u "clone"), (0, u "()Ljava/lang/Object;")] 26

def k0c0 : Code := { maxStack := 0, maxLocals := 1, code := object_method_1_code, exceptionTable := #[], attributes := #[] }
def k0m0 : Method := { name := "<init>", desc := "()V", sig := { parameters := [], returnType := none }, accessFlags := 1, code := some k0c0 }
def k0m1 : Method := { name := "clone", desc := "()Ljava/lang/Object;", sig := { parameters := [], returnType := some (.object "java/lang/Object") }, accessFlags := 260, code := none }
/-- java/lang/Object -/
def k0 : Class := { plain "java/lang/Object" none with
  accessFlags := 33
  interfaces := #[]
  cf := some (fileOf pool0 8 #[] #[{ accessFlags := 1, nameIndex := 5, descriptorIndex := 6, attributes := #[] }, { accessFlags := 260, nameIndex := 96, descriptorIndex := 97, attributes := #[] }] 33 0 #[] #[])
  fields := #[]
  methods := #[k0m0, k0m1]
  instanceTypes := #[]
  staticTypes := #[]
  resolved := Array.replicate 124 none
  statics := none }

def pool1 : Array CpInfo := pool [(2, .class_ 4), (1, u "java/lang/Object"), (0, u "<init>"), (0, u "()V"), (0, .integer 2147483647), (0, .class_ 9), (0, u "com/example/keelson/keelson/wire/WireWriter"), (0, .methodref 8 11), (0, .nameAndType 5 12), (0, u "(I)V"), (0, .methodref 8 14), (0, .nameAndType 15 12), (0, u "int8"), (0, .methodref 8 17), (0, .nameAndType 18 19), (0, u "putInt"), (0, u "(II)V"), (0, .methodref 8 21), (0, .nameAndType 22 23), (0, u "toByteArray"), (0, u "()[B"), (0, .methodref 25 26), (0, .class_ 27), (0, .nameAndType 28 29), (0, u "com/example/keelson/keelson/wire/WireWriterPutIntPinLaw"), (0, u "ok"), (0, u "(BIIIJ)Z"), (2, u "law"), (0, u "(JIII)Z")] 5

def k1m0 : Method := { name := "<init>", desc := "()V", sig := { parameters := [], returnType := none }, accessFlags := 1, code := none }
def k1c1 : Code := { maxStack := 6, maxLocals := 8, code := code, exceptionTable := #[], attributes := #[] }
def k1m1 : Method := { name := "law", desc := "(JIII)Z", sig := { parameters := [.long, .int, .int, .int], returnType := some .boolean }, accessFlags := 9, code := some k1c1 }
def k1c2 : Code := { maxStack := 4, maxLocals := 8, code := method_3_code, exceptionTable := #[], attributes := #[] }
def k1m2 : Method := { name := "ok", desc := "(BIIIJ)Z", sig := { parameters := [.byte, .int, .int, .int, .long], returnType := some .boolean }, accessFlags := 10, code := some k1c2 }
/-- com/example/keelson/keelson/wire/WireWriterPutIntPinLaw -/
def k1 : Class := { plain "com/example/keelson/keelson/wire/WireWriterPutIntPinLaw" (some 0) with
  accessFlags := 49
  interfaces := #[]
  cf := some (fileOf pool1 25 #[] #[{ accessFlags := 1, nameIndex := 5, descriptorIndex := 6, attributes := #[] }, { accessFlags := 9, nameIndex := 32, descriptorIndex := 33, attributes := #[] }, { accessFlags := 10, nameIndex := 28, descriptorIndex := 29, attributes := #[] }] 49 2 #[] #[])
  fields := #[]
  methods := #[k1m0, k1m1, k1m2]
  instanceTypes := #[]
  staticTypes := #[]
  resolved := Array.replicate 39 none
  statics := none }

def pool2 : Array CpInfo := pool [(1, .class_ 2), (0, u "com/example/keelson/keelson/wire/WireWriter"), (0, .methodref 1 4), (0, .nameAndType 5 6), (0, u "<init>"), (0, u "(SZI)V"), (3, .methodref 11 12), (0, .class_ 13), (0, .nameAndType 5 14), (0, u "java/lang/Object"), (0, u "()V"), (0, .fieldref 1 16), (0, .nameAndType 17 18), (0, u "version"), (0, u "S"), (0, .fieldref 1 20), (0, .nameAndType 21 22), (0, u "flexible"), (0, u "Z"), (0, .fieldref 1 24), (0, .nameAndType 25 26), (0, u "bytes"), (0, u "[B"), (0, .fieldref 1 28), (0, .nameAndType 29 30), (0, u "size"), (0, u "I"), (0, .methodref 32 33), (0, .class_ 34), (0, .nameAndType 35 36), (0, u "java/util/Arrays"), (0, u "copyOf"), (0, u "([BI)[B"), (8, u "putInt"), (0, u "(II)V"), (4, .methodref 1 52), (0, .nameAndType 53 54), (0, u "grow"), (0, u "(I)V"), (5, u "int8"), (26, .class_ 89), (1, u "java/lang/Math"), (0, u "max"), (59, .long 2147483639), (1, .long 256), (1, .long 2), (1, .methodref 87 157), (0, .nameAndType 90 158), (0, u "(JJ)J"), (0, .methodref 87 160), (0, .nameAndType 161 158), (0, u "min"), (0, u "INITIAL_CAPACITY"), (6, u "toByteArray"), (0, u "()[B")] 32

def k2m0 : Method := { name := "<init>", desc := "()V", sig := { parameters := [], returnType := none }, accessFlags := 0, code := none }
def k2c1 : Code := { maxStack := 4, maxLocals := 2, code := prog_273_method_3_code, exceptionTable := #[], attributes := #[] }
def k2m1 : Method := { name := "<init>", desc := "(I)V", sig := { parameters := [.int], returnType := none }, accessFlags := 0, code := some k2c1 }
def k2c2 : Code := { maxStack := 2, maxLocals := 4, code := prog_273_method_4_code, exceptionTable := #[], attributes := #[] }
def k2m2 : Method := { name := "<init>", desc := "(SZI)V", sig := { parameters := [.short, .boolean, .int], returnType := none }, accessFlags := 2, code := some k2c2 }
def k2c3 : Code := { maxStack := 2, maxLocals := 1, code := prog_273_method_8_code, exceptionTable := #[], attributes := #[] }
def k2m3 : Method := { name := "toByteArray", desc := "()[B", sig := { parameters := [], returnType := some (.array .byte) }, accessFlags := 0, code := some k2c3 }
def k2c4 : Code := { maxStack := 5, maxLocals := 2, code := prog_273_method_11_code, exceptionTable := #[], attributes := #[] }
def k2m4 : Method := { name := "int8", desc := "(I)V", sig := { parameters := [.int], returnType := none }, accessFlags := 0, code := some k2c4 }
def k2c5 : Code := { maxStack := 4, maxLocals := 3, code := prog_273_method_16_code, exceptionTable := #[], attributes := #[] }
def k2m5 : Method := { name := "putInt", desc := "(II)V", sig := { parameters := [.int, .int], returnType := none }, accessFlags := 0, code := some k2c5 }
def k2c6 : Code := { maxStack := 10, maxLocals := 2, code := prog_273_method_32_code, exceptionTable := #[], attributes := #[] }
def k2m6 : Method := { name := "grow", desc := "(I)V", sig := { parameters := [.int], returnType := none }, accessFlags := 2, code := some k2c6 }
/-- com/example/keelson/keelson/wire/WireWriter -/
def k2 : Class := { plain "com/example/keelson/keelson/wire/WireWriter" (some 0) with
  accessFlags := 48
  interfaces := #[]
  cf := some (fileOf pool2 1 #[] #[{ accessFlags := 0, nameIndex := 5, descriptorIndex := 14, attributes := #[] }, { accessFlags := 0, nameIndex := 5, descriptorIndex := 54, attributes := #[] }, { accessFlags := 2, nameIndex := 5, descriptorIndex := 6, attributes := #[] }, { accessFlags := 0, nameIndex := 169, descriptorIndex := 170, attributes := #[] }, { accessFlags := 0, nameIndex := 60, descriptorIndex := 54, attributes := #[] }, { accessFlags := 0, nameIndex := 45, descriptorIndex := 46, attributes := #[] }, { accessFlags := 2, nameIndex := 53, descriptorIndex := 54, attributes := #[] }] 48 11 #[] #[{ accessFlags := 26, nameIndex := 162, descriptorIndex := 30, attributes := #[] }, { accessFlags := 18, nameIndex := 17, descriptorIndex := 18, attributes := #[] }, { accessFlags := 18, nameIndex := 21, descriptorIndex := 22, attributes := #[] }, { accessFlags := 2, nameIndex := 25, descriptorIndex := 26, attributes := #[] }, { accessFlags := 2, nameIndex := 29, descriptorIndex := 30, attributes := #[] }])
  fields := #[{ name := "INITIAL_CAPACITY", type := .int, accessFlags := 26, slot := 0, constantValue := 0 }, { name := "version", type := .short, accessFlags := 18, slot := 0, constantValue := 0 }, { name := "flexible", type := .boolean, accessFlags := 18, slot := 1, constantValue := 0 }, { name := "bytes", type := (.array .byte), accessFlags := 2, slot := 2, constantValue := 0 }, { name := "size", type := .int, accessFlags := 2, slot := 3, constantValue := 0 }]
  methods := #[k2m0, k2m1, k2m2, k2m3, k2m4, k2m5, k2m6]
  instanceTypes := #[.short, .boolean, (.array .byte), .int]
  staticTypes := #[.int]
  resolved := Array.replicate 203 none
  statics := none }

def pool3 : Array CpInfo := pool [(1, .class_ 2), (0, u "java/lang/Math"), (1, .class_ 6), (1, u "java/lang/Object"), (0, u "<init>"), (0, u "()V"), (89, .class_ 100), (1, u "java/lang/Math$RandomNumberGeneratorHolder"), (20, u "(JJ)J"), (50, u "negativeZeroFloatBits"), (0, u "J"), (2, u "negativeZeroDoubleBits"), (21, u "max"), (2, u "min"), (43, u "$assertionsDisabled"), (0, u "Z"), (88, u "(II)I"), (2, u "twoToTheDoubleScaleDown"), (0, u "D"), (4, u "twoToTheDoubleScaleUp"), (9, u "E"), (3, u "PI"), (2, u "TAU"), (2, u "DEGREES_TO_RADIANS"), (0, u "RADIANS_TO_DEGREES")] 94

def k3m0 : Method := { name := "<init>", desc := "()V", sig := { parameters := [], returnType := none }, accessFlags := 2, code := none }
def k3c1 : Code := { maxStack := 4, maxLocals := 4, code := jdk_29_method_66_code, exceptionTable := #[], attributes := #[] }
def k3m1 : Method := { name := "max", desc := "(JJ)J", sig := { parameters := [.long, .long], returnType := some .long }, accessFlags := 9, code := some k3c1 }
def k3c2 : Code := { maxStack := 2, maxLocals := 2, code := jdk_29_method_69_code, exceptionTable := #[], attributes := #[] }
def k3m2 : Method := { name := "min", desc := "(II)I", sig := { parameters := [.int, .int], returnType := some .int }, accessFlags := 9, code := some k3c2 }
def k3c3 : Code := { maxStack := 4, maxLocals := 4, code := jdk_29_method_70_code, exceptionTable := #[], attributes := #[] }
def k3m3 : Method := { name := "min", desc := "(JJ)J", sig := { parameters := [.long, .long], returnType := some .long }, accessFlags := 9, code := some k3c3 }
/-- java/lang/Math -/
def k3 : Class := { plain "java/lang/Math" (some 0) with
  accessFlags := 49
  interfaces := #[]
  cf := some (fileOf pool3 1 #[.nestMembers #[98]] #[{ accessFlags := 2, nameIndex := 7, descriptorIndex := 8, attributes := #[] }, { accessFlags := 9, nameIndex := 198, descriptorIndex := 121, attributes := #[] }, { accessFlags := 9, nameIndex := 201, descriptorIndex := 335, attributes := #[] }, { accessFlags := 9, nameIndex := 201, descriptorIndex := 121, attributes := #[] }] 49 4 #[] #[{ accessFlags := 25, nameIndex := 354, descriptorIndex := 339, attributes := #[] }, { accessFlags := 25, nameIndex := 358, descriptorIndex := 339, attributes := #[] }, { accessFlags := 25, nameIndex := 361, descriptorIndex := 339, attributes := #[] }, { accessFlags := 26, nameIndex := 364, descriptorIndex := 339, attributes := #[] }, { accessFlags := 26, nameIndex := 365, descriptorIndex := 339, attributes := #[] }, { accessFlags := 26, nameIndex := 172, descriptorIndex := 173, attributes := #[] }, { accessFlags := 26, nameIndex := 176, descriptorIndex := 173, attributes := #[] }, { accessFlags := 8, nameIndex := 344, descriptorIndex := 339, attributes := #[] }, { accessFlags := 8, nameIndex := 338, descriptorIndex := 339, attributes := #[] }, { accessFlags := 4120, nameIndex := 245, descriptorIndex := 246, attributes := #[] }])
  fields := #[{ name := "E", type := .double, accessFlags := 25, slot := 0, constantValue := 0 }, { name := "PI", type := .double, accessFlags := 25, slot := 1, constantValue := 0 }, { name := "TAU", type := .double, accessFlags := 25, slot := 2, constantValue := 0 }, { name := "DEGREES_TO_RADIANS", type := .double, accessFlags := 26, slot := 3, constantValue := 0 }, { name := "RADIANS_TO_DEGREES", type := .double, accessFlags := 26, slot := 4, constantValue := 0 }, { name := "negativeZeroFloatBits", type := .long, accessFlags := 26, slot := 5, constantValue := 0 }, { name := "negativeZeroDoubleBits", type := .long, accessFlags := 26, slot := 6, constantValue := 0 }, { name := "twoToTheDoubleScaleUp", type := .double, accessFlags := 8, slot := 7, constantValue := 0 }, { name := "twoToTheDoubleScaleDown", type := .double, accessFlags := 8, slot := 8, constantValue := 0 }, { name := "$assertionsDisabled", type := .boolean, accessFlags := 4120, slot := 9, constantValue := 0 }]
  methods := #[k3m0, k3m1, k3m2, k3m3]
  instanceTypes := #[]
  staticTypes := #[.double, .double, .double, .double, .double, .long, .long, .double, .double, .boolean]
  resolved := Array.replicate 460 none
  statics := none }

def pool4 : Array CpInfo := pool [(2, .class_ 4), (1, u "java/lang/Object"), (0, u "<init>"), (0, u "()V"), (7, .class_ 16), (1, u "java/util/Arrays"), (57, .class_ 76), (1, u "java/util/Arrays$NaturalOrder"), (32, u "()Ljava/lang/Object;"), (3, .class_ 115), (1, u "java/util/Arrays$LegacyMergeSort"), (1, u "Z"), (10, .nameAndType 129 109), (0, u "clone"), (20, .methodref 151 152), (0, .class_ 153), (0, .nameAndType 154 155), (0, u "java/lang/System"), (0, u "arraycopy"), (0, u "(Ljava/lang/Object;ILjava/lang/Object;II)V"), (146, u "copyOf"), (1, .methodref 305 306), (0, .class_ 307), (0, .nameAndType 308 309), (0, u "java/lang/Math"), (0, u "min"), (0, u "(II)I"), (0, .methodref 311 128), (0, .class_ 312), (0, u "[B"), (62, .class_ 376), (0, u "java/util/Arrays$ArrayList"), (68, u "$assertionsDisabled"), (269, u "MIN_ARRAY_SORT_GRAN"), (0, u "I"), (2, u "INSERTIONSORT_THRESHOLD"), (149, u "([BI)[B"), (105, .class_ 976), (0, u "java/util/Arrays$ArrayItr")] 52

def k4m0 : Method := { name := "<init>", desc := "()V", sig := { parameters := [], returnType := none }, accessFlags := 2, code := none }
def k4c1 : Code := { maxStack := 6, maxLocals := 3, code := jdk_65_method_121_code, exceptionTable := #[], attributes := #[] }
def k4m1 : Method := { name := "copyOf", desc := "([BI)[B", sig := { parameters := [(.array .byte), .int], returnType := some (.array .byte) }, accessFlags := 9, code := some k4c1 }
/-- java/util/Arrays -/
def k4 : Class := { plain "java/util/Arrays" (some 0) with
  accessFlags := 49
  interfaces := #[]
  cf := some (fileOf pool4 14 #[.nestMembers #[975, 375, 113, 74]] #[{ accessFlags := 2, nameIndex := 5, descriptorIndex := 6, attributes := #[] }, { accessFlags := 9, nameIndex := 302, descriptorIndex := 869, attributes := #[] }] 49 2 #[] #[{ accessFlags := 26, nameIndex := 715, descriptorIndex := 716, attributes := #[] }, { accessFlags := 26, nameIndex := 719, descriptorIndex := 716, attributes := #[] }, { accessFlags := 4120, nameIndex := 445, descriptorIndex := 117, attributes := #[] }])
  fields := #[{ name := "MIN_ARRAY_SORT_GRAN", type := .int, accessFlags := 26, slot := 0, constantValue := 0 }, { name := "INSERTIONSORT_THRESHOLD", type := .int, accessFlags := 26, slot := 1, constantValue := 0 }, { name := "$assertionsDisabled", type := .boolean, accessFlags := 4120, slot := 2, constantValue := 0 }]
  methods := #[k4m0, k4m1]
  instanceTypes := #[]
  staticTypes := #[.int, .int, .boolean]
  resolved := Array.replicate 1029 none
  statics := none }

def pool5 : Array CpInfo := pool [(2, .class_ 4), (1, u "java/lang/Object"), (0, u "<init>"), (0, u "()V"), (1, .class_ 10), (1, u "java/lang/System"), (0, u "allowSecurityManager"), (0, u "I"), (16, u "cons"), (0, u "Ljava/io/Console;"), (77, .class_ 110), (1, u "java/lang/System$CallersHolder"), (43, u "initialErrStream"), (0, u "Ljava/io/PrintStream;"), (19, u "security"), (0, u "Ljava/lang/SecurityManager;"), (31, .class_ 209), (0, u "java/lang/System$1"), (7, u "props"), (0, u "Ljava/util/Properties;"), (2, u "lineSeparator"), (0, u "Ljava/lang/String;"), (96, .class_ 321), (1, u "java/lang/System$LoggerFinder"), (5, .class_ 328), (0, u "java/lang/System$Logger"), (67, u "err"), (2, u "out"), (91, u "notSupportedJnuEncoding"), (15, u "in"), (17, u "initialIn"), (0, u "Ljava/io/InputStream;"), (35, u "bootLayer"), (0, u "Ljava/lang/ModuleLayer;"), (99, .class_ 664), (0, u "java/lang/System$2"), (9, u "NEVER"), (2, u "MAYBE"), (49, u "arraycopy"), (0, u "(Ljava/lang/Object;ILjava/lang/Object;II)V"), (72, .class_ 802), (0, u "java/lang/System$Logger$Level")] 31

def k5m0 : Method := { name := "<init>", desc := "()V", sig := { parameters := [], returnType := none }, accessFlags := 2, code := none }
def k5m1 : Method := { name := "arraycopy", desc := "(Ljava/lang/Object;ILjava/lang/Object;II)V", sig := { parameters := [(.object "java/lang/Object"), .int, (.object "java/lang/Object"), .int, .int], returnType := none }, accessFlags := 265, code := none }
/-- java/lang/System -/
def k5 : Class := { plain "java/lang/System" (some 0) with
  accessFlags := 49
  interfaces := #[]
  cf := some (fileOf pool5 8 #[.nestMembers #[319, 327, 801, 108, 663, 208]] #[{ accessFlags := 2, nameIndex := 5, descriptorIndex := 6, attributes := #[] }, { accessFlags := 265, nameIndex := 727, descriptorIndex := 728, attributes := #[] }] 49 2 #[] #[{ accessFlags := 25, nameIndex := 507, descriptorIndex := 526, attributes := #[] }, { accessFlags := 25, nameIndex := 399, descriptorIndex := 155, attributes := #[] }, { accessFlags := 25, nameIndex := 396, descriptorIndex := 155, attributes := #[] }, { accessFlags := 10, nameIndex := 525, descriptorIndex := 526, attributes := #[] }, { accessFlags := 26, nameIndex := 674, descriptorIndex := 12, attributes := #[] }, { accessFlags := 26, nameIndex := 677, descriptorIndex := 12, attributes := #[] }, { accessFlags := 10, nameIndex := 11, descriptorIndex := 12, attributes := #[] }, { accessFlags := 74, nameIndex := 175, descriptorIndex := 176, attributes := #[] }, { accessFlags := 10, nameIndex := 491, descriptorIndex := 222, attributes := #[] }, { accessFlags := 74, nameIndex := 29, descriptorIndex := 30, attributes := #[] }, { accessFlags := 74, nameIndex := 154, descriptorIndex := 155, attributes := #[] }, { accessFlags := 10, nameIndex := 217, descriptorIndex := 218, attributes := #[] }, { accessFlags := 10, nameIndex := 221, descriptorIndex := 222, attributes := #[] }, { accessFlags := 8, nameIndex := 562, descriptorIndex := 563, attributes := #[] }])
  fields := #[{ name := "in", type := (.object "java/io/InputStream"), accessFlags := 25, slot := 0, constantValue := 0 }, { name := "out", type := (.object "java/io/PrintStream"), accessFlags := 25, slot := 1, constantValue := 0 }, { name := "err", type := (.object "java/io/PrintStream"), accessFlags := 25, slot := 2, constantValue := 0 }, { name := "initialIn", type := (.object "java/io/InputStream"), accessFlags := 10, slot := 3, constantValue := 0 }, { name := "NEVER", type := .int, accessFlags := 26, slot := 4, constantValue := 0 }, { name := "MAYBE", type := .int, accessFlags := 26, slot := 5, constantValue := 0 }, { name := "allowSecurityManager", type := .int, accessFlags := 10, slot := 6, constantValue := 0 }, { name := "security", type := (.object "java/lang/SecurityManager"), accessFlags := 74, slot := 7, constantValue := 0 }, { name := "notSupportedJnuEncoding", type := (.object "java/lang/String"), accessFlags := 10, slot := 8, constantValue := 0 }, { name := "cons", type := (.object "java/io/Console"), accessFlags := 74, slot := 9, constantValue := 0 }, { name := "initialErrStream", type := (.object "java/io/PrintStream"), accessFlags := 74, slot := 10, constantValue := 0 }, { name := "props", type := (.object "java/util/Properties"), accessFlags := 10, slot := 11, constantValue := 0 }, { name := "lineSeparator", type := (.object "java/lang/String"), accessFlags := 10, slot := 12, constantValue := 0 }, { name := "bootLayer", type := (.object "java/lang/ModuleLayer"), accessFlags := 8, slot := 13, constantValue := 0 }]
  methods := #[k5m0, k5m1]
  instanceTypes := #[]
  staticTypes := #[(.object "java/io/InputStream"), (.object "java/io/PrintStream"), (.object "java/io/PrintStream"), (.object "java/io/InputStream"), .int, .int, .int, (.object "java/lang/SecurityManager"), (.object "java/lang/String"), (.object "java/io/Console"), (.object "java/io/PrintStream"), (.object "java/util/Properties"), (.object "java/lang/String"), (.object "java/lang/ModuleLayer")]
  resolved := Array.replicate 834 none
  statics := none }

def pool6 : Array CpInfo := pool [(1, .class_ 2), (0, u "java/lang/Cloneable"), (0, .class_ 4), (0, u "java/lang/Object")] 2

/-- java/lang/Cloneable -/
def k6 : Class := { plain "java/lang/Cloneable" (some 0) with
  accessFlags := 1537
  interfaces := #[]
  cf := some (fileOf pool6 1 #[] #[] 1537 3 #[] #[])
  fields := #[]
  methods := #[]
  instanceTypes := #[]
  staticTypes := #[]
  resolved := Array.replicate 7 none
  statics := none }

def pool7 : Array CpInfo := pool [(1, u "java/io/Serializable"), (0, .class_ 1), (0, u "java/lang/Object"), (0, .class_ 3)] 3

/-- java/io/Serializable -/
def k7 : Class := { plain "java/io/Serializable" (some 0) with
  accessFlags := 1537
  interfaces := #[]
  cf := some (fileOf pool7 2 #[] #[] 1537 4 #[] #[])
  fields := #[]
  methods := #[]
  instanceTypes := #[]
  staticTypes := #[]
  resolved := Array.replicate 8 none
  statics := none }

/-- the primitive byte -/
def k8 : Class := { plain "byte" none with kind := .primitive 'B', accessFlags := 0x411 }
/-- [B -/
def k9 : Class := { plain "[B" (some 0) with kind := .array 8 .byte, interfaces := #[6, 7], accessFlags := 1041 }

/-- the primitive int -/
def k10 : Class := { plain "int" none with kind := .primitive 'I', accessFlags := 0x411 }
/-- [I -/
def k11 : Class := { plain "[I" (some 0) with kind := .array 10 .int, interfaces := #[6, 7], accessFlags := 1041 }

def heap : Heap := #[]
def classes : Array Class := #[k0, k1, k2, k3, k4, k5, k6, k7, k8, k9, k10, k11]
def interned : List (Array UInt16 × Addr) := []
def slotsUsed : Nat := 0
def theMethod : MethodId := ⟨1, 1⟩
def args0 : Array Value := #[.long 5, .int 6, .int 7, .int 8]
def aboutOver (below : List Frame) : State where
  vm := { classes := classes, interned := interned.toArray }
  heap := heap
  slotsUsed := slotsUsed
  threads := #[{ frames := .invoking theMethod args0 :: below }]
def below0 : List Frame := [.native { method := ⟨0, 0⟩, args := #[] }]
def about1 : State := aboutOver below0
def p0 : Program := .bare "" "" ""
def e0 : Env := launch0.env 0 0 0
theorem w_frames : about1.frames = Frame.invoking theMethod args0 :: below0 := rfl
set_option maxRecDepth 65536 in
theorem w_args : argsFit about1.vm theMethod args0 = true := by decide +kernel
set_option maxRecDepth 65536 in
theorem w_heap : heapFits about1 = true := by decide +kernel
set_option maxRecDepth 65536 in
theorem w_runnable : about1.curStatus? = some .runnable := by decide +kernel
set_option maxRecDepth 65536 in
theorem w_alone : about1.alone = true := by decide +kernel
set_option maxRecDepth 65536 in
theorem w_named : about1.methodNamed? x = some theMethod := by decide +kernel
set_option maxRecDepth 65536 in
theorem w_hears : about1.hears theMethod below0 = true := by decide +kernel
set_option maxRecDepth 65536 in
theorem w_ripe : about1.ripe theMethod args0 below0 = true := by decide +kernel
theorem w_running : about1.status = .running := rfl
set_option maxRecDepth 65536 in
theorem w_room : about1.hasRoom e0.platform room_1 = true :=
  launch0.hasRoom_least _ room_1 (by decide +kernel) (by decide +kernel) (by decide +kernel) (by decide +kernel) (by decide +kernel) (by decide +kernel)
theorem allAtoms_all (ts : List Jvm.Cond) (a : Array Jvm.Value) (st : Jvm.State) : (allAtoms ts).before a st = ts.all (fun c => c.before a st) := by
  induction ts with
  | nil => rfl
  | cons c t ih =>
    show (Jvm.Cond.and c (allAtoms t)).before a st = _
    rw [Jvm.Cond.before_and, ih, List.all_cons]
def words1 : List Jvm.Cond := Jvm.Cond.code x code maxLocals ret :: tables_1
/-- a 'code' word, met by the world's own term for the bytes: nothing is compared byte by byte -/
theorem code_word {y : MethodName} {bytes : ByteArray} {mx : Nat} {rt : Option FieldType} {a : Array Value} {s : State} {m : MethodId} {meth : Method} {c : Code} (h1 : s.methodNamed? y = some m) (h2 : s.vm.method? m = some meth) (h3 : meth.code = some c) (h4 : c.code = bytes)
    (h5 : (c.maxLocals == mx && c.exceptionTable.isEmpty && decide (c.maxStack ≤ mostOperands) && decide (meth.sig.returnType = rt) && !meth.locks && decide (parseMethodDescriptor y.desc = some meth.sig)) = true) : (Jvm.Cond.code y bytes mx rt).before a s = true := by
  simp only [Bool.and_eq_true, beq_iff_eq, Bool.not_eq_true', decide_eq_true_eq] at h5
  obtain ⟨⟨⟨⟨⟨g1, g2⟩, g3⟩, g4⟩, g5⟩, g6⟩ := h5
  simp [Cond.before, Cond.holds, Cond.value, h1, h2, h3, h4, g1, g2, g3, g4, g5, g6]
def isCode : Jvm.Cond → Bool
  | .code _ _ _ _ => true
  | _ => false
theorem all_split {L : List Jvm.Cond} {P : Jvm.Cond → Bool} (h1 : L.all (fun c => isCode c || P c) = true) (h2 : ∀ c ∈ L.filter isCode, P c = true) : L.all P = true := by
  refine List.all_eq_true.mpr fun c hc => ?_
  have h := List.all_eq_true.mp h1 c hc
  rcases Bool.eq_false_or_eq_true (isCode c) with hi | hi
  · exact h2 c (List.mem_filter.mpr ⟨hc, hi⟩)
  · simpa [hi] using h
set_option maxRecDepth 65536 in
theorem w_c0 : (Jvm.Cond.code x code maxLocals ret).before args0 about1 = true := code_word (m := ⟨1, 1⟩) (meth := k1m1) (c := k1c1) (by decide +kernel) rfl rfl rfl (by decide +kernel)
set_option maxRecDepth 65536 in
theorem w_c1 : (Jvm.Cond.code ({ cls := "com/example/keelson/keelson/wire/WireWriter", name := "<init>", desc := "(I)V" } : Jvm.MethodName) prog_273_method_3_code (2 : Nat) (Option.none : Option Jvm.ClassFile.FieldType)).before args0 about1 = true := code_word (m := ⟨2, 1⟩) (meth := k2m1) (c := k2c1) (by decide +kernel) rfl rfl rfl (by decide +kernel)
set_option maxRecDepth 65536 in
theorem w_c2 : (Jvm.Cond.code ({ cls := "com/example/keelson/keelson/wire/WireWriter", name := "<init>", desc := "(SZI)V" } : Jvm.MethodName) prog_273_method_4_code (4 : Nat) (Option.none : Option Jvm.ClassFile.FieldType)).before args0 about1 = true := code_word (m := ⟨2, 2⟩) (meth := k2m2) (c := k2c2) (by decide +kernel) rfl rfl rfl (by decide +kernel)
set_option maxRecDepth 65536 in
theorem w_c3 : (Jvm.Cond.code ({ cls := "java/lang/Object", name := "<init>", desc := "()V" } : Jvm.MethodName) object_method_1_code (1 : Nat) (Option.none : Option Jvm.ClassFile.FieldType)).before args0 about1 = true := code_word (m := ⟨0, 0⟩) (meth := k0m0) (c := k0c0) (by decide +kernel) rfl rfl rfl (by decide +kernel)
set_option maxRecDepth 65536 in
theorem w_c4 : (Jvm.Cond.code ({ cls := "com/example/keelson/keelson/wire/WireWriter", name := "int8", desc := "(I)V" } : Jvm.MethodName) prog_273_method_11_code (2 : Nat) (Option.none : Option Jvm.ClassFile.FieldType)).before args0 about1 = true := code_word (m := ⟨2, 4⟩) (meth := k2m4) (c := k2c4) (by decide +kernel) rfl rfl rfl (by decide +kernel)
set_option maxRecDepth 65536 in
theorem w_c5 : (Jvm.Cond.code ({ cls := "com/example/keelson/keelson/wire/WireWriter", name := "grow", desc := "(I)V" } : Jvm.MethodName) prog_273_method_32_code (2 : Nat) (Option.none : Option Jvm.ClassFile.FieldType)).before args0 about1 = true := code_word (m := ⟨2, 6⟩) (meth := k2m6) (c := k2c6) (by decide +kernel) rfl rfl rfl (by decide +kernel)
set_option maxRecDepth 65536 in
theorem w_c6 : (Jvm.Cond.code ({ cls := "java/lang/Math", name := "max", desc := "(JJ)J" } : Jvm.MethodName) jdk_29_method_66_code (4 : Nat) (Option.some Jvm.ClassFile.FieldType.long)).before args0 about1 = true := code_word (m := ⟨3, 1⟩) (meth := k3m1) (c := k3c1) (by decide +kernel) rfl rfl rfl (by decide +kernel)
set_option maxRecDepth 65536 in
theorem w_c7 : (Jvm.Cond.code ({ cls := "java/lang/Math", name := "min", desc := "(JJ)J" } : Jvm.MethodName) jdk_29_method_70_code (4 : Nat) (Option.some Jvm.ClassFile.FieldType.long)).before args0 about1 = true := code_word (m := ⟨3, 3⟩) (meth := k3m3) (c := k3c3) (by decide +kernel) rfl rfl rfl (by decide +kernel)
set_option maxRecDepth 65536 in
theorem w_c8 : (Jvm.Cond.code ({ cls := "java/util/Arrays", name := "copyOf", desc := "([BI)[B" } : Jvm.MethodName) jdk_65_method_121_code (3 : Nat) (Option.some (Jvm.ClassFile.FieldType.array Jvm.ClassFile.FieldType.byte))).before args0 about1 = true := code_word (m := ⟨4, 1⟩) (meth := k4m1) (c := k4c1) (by decide +kernel) rfl rfl rfl (by decide +kernel)
set_option maxRecDepth 65536 in
theorem w_c9 : (Jvm.Cond.code ({ cls := "java/lang/Math", name := "min", desc := "(II)I" } : Jvm.MethodName) jdk_29_method_69_code (2 : Nat) (Option.some Jvm.ClassFile.FieldType.int)).before args0 about1 = true := code_word (m := ⟨3, 2⟩) (meth := k3m2) (c := k3c2) (by decide +kernel) rfl rfl rfl (by decide +kernel)
set_option maxRecDepth 65536 in
theorem w_c10 : (Jvm.Cond.code ({ cls := "com/example/keelson/keelson/wire/WireWriter", name := "putInt", desc := "(II)V" } : Jvm.MethodName) prog_273_method_16_code (3 : Nat) (Option.none : Option Jvm.ClassFile.FieldType)).before args0 about1 = true := code_word (m := ⟨2, 5⟩) (meth := k2m5) (c := k2c5) (by decide +kernel) rfl rfl rfl (by decide +kernel)
set_option maxRecDepth 65536 in
theorem w_c11 : (Jvm.Cond.code ({ cls := "com/example/keelson/keelson/wire/WireWriter", name := "toByteArray", desc := "()[B" } : Jvm.MethodName) prog_273_method_8_code (1 : Nat) (Option.some (Jvm.ClassFile.FieldType.array Jvm.ClassFile.FieldType.byte))).before args0 about1 = true := code_word (m := ⟨2, 3⟩) (meth := k2m3) (c := k2c3) (by decide +kernel) rfl rfl rfl (by decide +kernel)
set_option maxRecDepth 65536 in
theorem w_c12 : (Jvm.Cond.code ({ cls := "com/example/keelson/keelson/wire/WireWriterPutIntPinLaw", name := "ok", desc := "(BIIIJ)Z" } : Jvm.MethodName) method_3_code (8 : Nat) (Option.some Jvm.ClassFile.FieldType.boolean)).before args0 about1 = true := code_word (m := ⟨1, 2⟩) (meth := k1m2) (c := k1c2) (by decide +kernel) rfl rfl rfl (by decide +kernel)
def codes1 : List Jvm.Cond := [Jvm.Cond.code x code maxLocals ret, Jvm.Cond.code ({ cls := "com/example/keelson/keelson/wire/WireWriter", name := "<init>", desc := "(I)V" } : Jvm.MethodName) prog_273_method_3_code (2 : Nat) (Option.none : Option Jvm.ClassFile.FieldType), Jvm.Cond.code ({ cls := "com/example/keelson/keelson/wire/WireWriter", name := "<init>", desc := "(SZI)V" } : Jvm.MethodName) prog_273_method_4_code (4 : Nat) (Option.none : Option Jvm.ClassFile.FieldType), Jvm.Cond.code ({ cls := "java/lang/Object", name := "<init>", desc := "()V" } : Jvm.MethodName) object_method_1_code (1 : Nat) (Option.none : Option Jvm.ClassFile.FieldType), Jvm.Cond.code ({ cls := "com/example/keelson/keelson/wire/WireWriter", name := "int8", desc := "(I)V" } : Jvm.MethodName) prog_273_method_11_code (2 : Nat) (Option.none : Option Jvm.ClassFile.FieldType), Jvm.Cond.code ({ cls := "com/example/keelson/keelson/wire/WireWriter", name := "grow", desc := "(I)V" } : Jvm.MethodName) prog_273_method_32_code (2 : Nat) (Option.none : Option Jvm.ClassFile.FieldType), Jvm.Cond.code ({ cls := "java/lang/Math", name := "max", desc := "(JJ)J" } : Jvm.MethodName) jdk_29_method_66_code (4 : Nat) (Option.some Jvm.ClassFile.FieldType.long), Jvm.Cond.code ({ cls := "java/lang/Math", name := "min", desc := "(JJ)J" } : Jvm.MethodName) jdk_29_method_70_code (4 : Nat) (Option.some Jvm.ClassFile.FieldType.long), Jvm.Cond.code ({ cls := "java/util/Arrays", name := "copyOf", desc := "([BI)[B" } : Jvm.MethodName) jdk_65_method_121_code (3 : Nat) (Option.some (Jvm.ClassFile.FieldType.array Jvm.ClassFile.FieldType.byte)), Jvm.Cond.code ({ cls := "java/lang/Math", name := "min", desc := "(II)I" } : Jvm.MethodName) jdk_29_method_69_code (2 : Nat) (Option.some Jvm.ClassFile.FieldType.int), Jvm.Cond.code ({ cls := "com/example/keelson/keelson/wire/WireWriter", name := "putInt", desc := "(II)V" } : Jvm.MethodName) prog_273_method_16_code (3 : Nat) (Option.none : Option Jvm.ClassFile.FieldType), Jvm.Cond.code ({ cls := "com/example/keelson/keelson/wire/WireWriter", name := "toByteArray", desc := "()[B" } : Jvm.MethodName) prog_273_method_8_code (1 : Nat) (Option.some (Jvm.ClassFile.FieldType.array Jvm.ClassFile.FieldType.byte)), Jvm.Cond.code ({ cls := "com/example/keelson/keelson/wire/WireWriterPutIntPinLaw", name := "ok", desc := "(BIIIJ)Z" } : Jvm.MethodName) method_3_code (8 : Nat) (Option.some Jvm.ClassFile.FieldType.boolean)]
set_option maxRecDepth 65536 in
theorem codes_eq : words1.filter isCode = codes1 := rfl
theorem w_codes : ∀ c ∈ words1.filter isCode, c.before args0 about1 = true := by
  rw [codes_eq]
  intro c hc
  simp only [codes1, List.mem_cons, List.not_mem_nil, or_false] at hc
  rcases hc with rfl | rfl | rfl | rfl | rfl | rfl | rfl | rfl | rfl | rfl | rfl | rfl | rfl
  · exact w_c0
  · exact w_c1
  · exact w_c2
  · exact w_c3
  · exact w_c4
  · exact w_c5
  · exact w_c6
  · exact w_c7
  · exact w_c8
  · exact w_c9
  · exact w_c10
  · exact w_c11
  · exact w_c12
set_option maxRecDepth 65536 in
theorem w_t1 : (words1.take 24).all (fun c => isCode c || c.before args0 about1) = true := by decide +kernel
set_option maxRecDepth 65536 in
theorem w_t2 : ((words1.drop 24).take 24).all (fun c => isCode c || c.before args0 about1) = true := by decide +kernel
set_option maxRecDepth 65536 in
theorem w_t3 : (((words1.drop 24).drop 24).take 24).all (fun c => isCode c || c.before args0 about1) = true := by decide +kernel
set_option maxRecDepth 65536 in
theorem w_t4 : (((words1.drop 24).drop 24).drop 24).all (fun c => isCode c || c.before args0 about1) = true := by decide +kernel
theorem w_tables : (allAtoms (Jvm.Cond.code x code maxLocals ret :: tables_1)).before args0 about1 = true := by
  rw [allAtoms_all]
  show words1.all (fun c => c.before args0 about1) = true
  refine all_split ?_ w_codes
  rw [← List.take_append_drop 24 words1, List.all_append, w_t1, ← List.take_append_drop 24 (words1.drop 24), List.all_append, w_t2, ← List.take_append_drop 24 ((words1.drop 24).drop 24), List.all_append, w_t3, w_t4]
  rfl
set_option maxRecDepth 65536 in
theorem w_case : (Jvm.Cond.and given_1 narrow_1).before args0 about1 = true := by decide +kernel
theorem w_applies : (headSpec (Jvm.Cond.code x code maxLocals ret :: tables_1) room_1).applies x e0.platform about1 = true :=
  (Spec.applies_iff w_frames).mpr ⟨w_running, w_runnable, w_alone, w_named, w_hears, w_ripe, w_room, w_tables⟩
theorem atStart : AtStart classFile x code maxLocals ret World_1 tables_1 room_1 Calls_1 rest_1 Pre_1 launch0 p0 e0 about1 theMethod args0 below0 :=
  ⟨lists_1, trivial, launch0.admits_env _ _ _, launch0.least_env, fairChoices_fair.cas, fairChoices_fair.clock, w_frames, w_args, w_heap, w_applies, trivial, trivial, w_case⟩
end start1
theorem witness_1 : WitnessClaimed_1 := ⟨start1.p0, start1.e0, start1.about1, start1.theMethod, start1.args0, start1.below0, start1.atStart⟩
end Jvm.Pilot.@@N@@
