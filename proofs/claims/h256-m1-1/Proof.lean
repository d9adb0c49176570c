import JvmDerived
import JvmDerived.Pilot.@@N@@Statement
import JvmDerived.Pilot.@@N@@Code
set_option linter.unusedVariables false
set_option linter.unusedSimpArgs false
namespace Jvm.Pilot.@@N@@
open Jvm Jvm.ClassFile Sem Op Lib Jvm.Free Jvm.Stand Jvm.LawKit Jvm.RoadKit Bundle Jvm.Pilot.@@N@@.Jvm.D
/-! the walk in continuation style: 'Fin': from F on the run comes to an end that answers Q -/
section Own
variable {p : Program} {l : Launch} {e : Env} {R : Room} {s : State} {m : MethodId} {args : Array Value} {below : List Frame} {meth : Method} {c : Code} {T : State} {locs : List Loc} {cells slots : Nat}
def OFin (p : Program) (e : Env) (below : List Frame) (Q : Outcome → State → Prop) (F : State) : Prop := ∃ s₂ o, Steps p.tables e below F s₂ ∧ s₂.status = .running ∧ Ended s₂ below o ∧ Q o s₂
def ORet (Q : Option Value → Heap → List Loc → Prop) (s : State) (C S : Nat) (o : Outcome) (U' : State) : Prop := ∃ v L, o = .returned v ∧ Q v U'.heap L ∧ FrameEnd s o U' L C S
theorem OFin.go {Q : Outcome → State → Prop} {F F' : State} (st : ∀ t, Steps p.tables e below F' t → Steps p.tables e below F t) (h : OFin p e below Q F') : OFin p e below Q F := by
  obtain ⟨s2, o, h1, r⟩ := h; exact ⟨s2, o, st _ h1, r⟩
theorem OFin.tr {Q : Outcome → State → Prop} {F F' : State} (st : Steps p.tables e below F F') (h : OFin p e below Q F') : OFin p e below Q F := by
  obtain ⟨s2, o, h1, r⟩ := h; exact ⟨s2, o, st.trans h1, r⟩
variable {Q : Option Value → Heap → List Loc → Prop} {C S : Nat}
theorem finZ (X : Stand p l e R s m args below meth c T locs cells slots) (hx : p.tables.exec = Jvm.exec) (hlocks : meth.locks = false) {t : FieldType} (hret : meth.sig.returnType = some t) (ht : t = .boolean ∨ t = .byte ∨ t = .char ∨ t = .short) {pc : Nat} (hd : decode c.code pc = .ok (.ireturn, 1)) {z z' : Int32} (hz : nar t z = z') (hc : cells ≤ C) (hs : slots ≤ S) {Ls : Array Slot} {rest : List Value} (hQ : Q (some (.int z')) T.heap locs) : OFin p e below (ORet Q s C S) (T.setTop (mkF m pc Ls (.int z :: rest))) := by
  subst hz
  obtain ⟨fs, hr, hrun, hended, hW, hsame⟩ := X.leave (v := some (.int (nar t z))) (fun h => by rw [hret] at h; cases h)
  exact ⟨_, _, retN X hx (t := t) hret ht hd hr, hrun, hended, _, _, rfl, hQ, ⟨_, rfl⟩, hW, hsame.mono hc hs⟩
theorem finI (X : Stand p l e R s m args below meth c T locs cells slots) (hx : p.tables.exec = Jvm.exec) (hlocks : meth.locks = false) (hret : meth.sig.returnType = some .int) {pc : Nat} (hd : decode c.code pc = .ok (.ireturn, 1)) {z : Int32} (hc : cells ≤ C) (hs : slots ≤ S) {Ls : Array Slot} {rest : List Value} (hQ : Q (some (.int z)) T.heap locs) : OFin p e below (ORet Q s C S) (T.setTop (mkF m pc Ls (.int z :: rest))) := by
  obtain ⟨fs, hr, hrun, hended, hW, hsame⟩ := X.leave (v := some (.int z)) (fun h => by rw [hret] at h; cases h)
  exact ⟨_, _, retOut X hx hret rfl (Or.inl ⟨rfl, Or.inl rfl, _, rfl⟩) hd hr, hrun, hended, _, _, rfl, hQ, ⟨_, rfl⟩, hW, hsame.mono hc hs⟩
theorem finJ (X : Stand p l e R s m args below meth c T locs cells slots) (hx : p.tables.exec = Jvm.exec) (hlocks : meth.locks = false) (hret : meth.sig.returnType = some .long) {pc : Nat} (hd : decode c.code pc = .ok (.lreturn, 1)) {z : Int64} (hc : cells ≤ C) (hs : slots ≤ S) {Ls : Array Slot} {rest : List Value} (hQ : Q (some (.long z)) T.heap locs) : OFin p e below (ORet Q s C S) (T.setTop (mkF m pc Ls (.long z :: rest))) := by
  obtain ⟨fs, hr, hrun, hended, hW, hsame⟩ := X.leave (v := some (.long z)) (fun h => by rw [hret] at h; cases h)
  exact ⟨_, _, retOut X hx hret rfl (Or.inr (Or.inl ⟨rfl, rfl, _, rfl⟩)) hd hr, hrun, hended, _, _, rfl, hQ, ⟨_, rfl⟩, hW, hsame.mono hc hs⟩
theorem finA (X : Stand p l e R s m args below meth c T locs cells slots) (hx : p.tables.exec = Jvm.exec) (hlocks : meth.locks = false) {w : Value} (hw : w.isRef = true) {t : FieldType} (hret : meth.sig.returnType = some t) (ht : t.isReference = true) {pc : Nat} (hd : decode c.code pc = .ok (.areturn, 1)) (hc : cells ≤ C) (hs : slots ≤ S) {Ls : Array Slot} {rest : List Value} (hQ : Q (some w) T.heap locs) : OFin p e below (ORet Q s C S) (T.setTop (mkF m pc Ls (w :: rest))) := by
  obtain ⟨fs, hr, hrun, hended, hW, hsame⟩ := X.leave (v := some w) (fun h => by rw [hret] at h; cases h)
  refine ⟨_, _, retOut X hx hret ?_ (Or.inr (Or.inr (Or.inr (Or.inr ⟨rfl, ht, hw⟩)))) hd hr, hrun, hended, _, _, rfl, hQ, ⟨_, rfl⟩, hW, hsame.mono hc hs⟩
  cases w <;> first | (simp [Value.isRef] at hw; done) | (cases t <;> first | rfl | (simp [FieldType.isReference] at ht; done))
theorem finV (X : Stand p l e R s m args below meth c T locs cells slots) (hx : p.tables.exec = Jvm.exec) (hlocks : meth.locks = false) (hret : meth.sig.returnType = none) {pc : Nat} (hd : decode c.code pc = .ok (.return_, 1)) (hc : cells ≤ C) (hs : slots ≤ S) {Ls : Array Slot} (hQ : Q none T.heap locs) : OFin p e below (ORet Q s C S) (T.setTop (mkF m pc Ls [])) := by
  obtain ⟨fs, hr, hrun, hended, hW, hsame⟩ := X.leave (v := none) (fun _ => rfl)
  exact ⟨_, _, X.returnOut hx hret hd hr, hrun, hended, _, _, rfl, hQ, ⟨_, rfl⟩, hW, hsame.mono hc hs⟩
end Own
/-- a boolean as the int that bears it -/
def bi (P : Prop) [Decidable P] : Int32 := if P then 1 else 0
theorem bi_t {P : Prop} [Decidable P] (h : P) : bi P = 1 := if_pos h
theorem bi_f {P : Prop} [Decidable P] (h : ¬ P) : bi P = 0 := if_neg h
theorem nar_bi (P : Prop) [Decidable P] : nar .boolean (bi P) = bi P := by unfold bi; split <;> rfl
theorem bi_iff {P Q : Prop} [Decidable P] [Decidable Q] : bi P = bi Q ↔ (P ↔ Q) := by
  unfold bi; by_cases h : P <;> by_cases k : Q <;> simp [h, k]
theorem bi0 {P : Prop} [Decidable P] : (bi P = 0) ↔ ¬ P := by unfold bi; by_cases h : P <;> simp [h]
theorem bi_ne_t {P : Prop} [Decidable P] (h : P) : ifCond.holds .ne (bi P) = true := by rw [bi_t h]; rfl
theorem bi_ne_f {P : Prop} [Decidable P] (h : ¬ P) : ifCond.holds .ne (bi P) = false := by rw [bi_f h]; rfl
theorem bi_eq_t {P : Prop} [Decidable P] (h : ¬ P) : ifCond.holds .eq (bi P) = true := by rw [bi_f h]; rfl
theorem bi_eq_f {P : Prop} [Decidable P] (h : P) : ifCond.holds .eq (bi P) = false := by rw [bi_t h]; rfl
theorem lc_lt_t {x y : Int64} (h : x < y) : ifCond.holds .lt (lcmpW x y) = true := (if0 _ _).trans (tlt ((lw_lt x y).mpr h)).1
theorem lc_lt_f {x y : Int64} (h : ¬ x < y) : ifCond.holds .lt (lcmpW x y) = false := (if0 _ _).trans (flt fun q => h ((lw_lt x y).mp q)).1
theorem lc_ge_t {x y : Int64} (h : ¬ x < y) : ifCond.holds .ge (lcmpW x y) = true := (if0 _ _).trans (flt fun q => h ((lw_lt x y).mp q)).2.1
theorem lc_ge_f {x y : Int64} (h : x < y) : ifCond.holds .ge (lcmpW x y) = false := (if0 _ _).trans (tlt ((lw_lt x y).mpr h)).2.1
theorem lc_gt_t {x y : Int64} (h : y < x) : ifCond.holds .gt (lcmpW x y) = true := (if0 _ _).trans (tlt ((lw_gt x y).mpr h)).2.2.1
theorem lc_gt_f {x y : Int64} (h : ¬ y < x) : ifCond.holds .gt (lcmpW x y) = false := (if0 _ _).trans (flt fun q => h ((lw_gt x y).mp q)).2.2.1
theorem lc_le_t {x y : Int64} (h : ¬ y < x) : ifCond.holds .le (lcmpW x y) = true := (if0 _ _).trans (flt fun q => h ((lw_gt x y).mp q)).2.2.2
theorem lc_le_f {x y : Int64} (h : y < x) : ifCond.holds .le (lcmpW x y) = false := (if0 _ _).trans (tlt ((lw_gt x y).mpr h)).2.2.2
theorem lc_eq_t {x y : Int64} (h : x = y) : ifCond.holds .eq (lcmpW x y) = true := (if0 _ _).trans (teq ((lw_eq x y).mpr h)).1
theorem lc_eq_f {x y : Int64} (h : ¬ x = y) : ifCond.holds .eq (lcmpW x y) = false := (if0 _ _).trans (feq fun q => h ((lw_eq x y).mp q)).1
theorem lc_ne_t {x y : Int64} (h : ¬ x = y) : ifCond.holds .ne (lcmpW x y) = true := (if0 _ _).trans (feq fun q => h ((lw_eq x y).mp q)).2
theorem lc_ne_f {x y : Int64} (h : x = y) : ifCond.holds .ne (lcmpW x y) = false := (if0 _ _).trans (teq ((lw_eq x y).mpr h)).2
/-! arrays by their places -/
def upd {α : Type} (f : Nat → α) (i : Nat) (v : α) : Nat → α := fun j => if j = i then v else f j
theorem upd_hit {α : Type} (f : Nat → α) (i : Nat) (v : α) : upd f i v i = v := if_pos rfl
theorem upd_miss {α : Type} {f : Nat → α} {i j : Nat} {v : α} (h : j ≠ i) : upd f i v j = f j := if_neg h
def Ara (Z : State) (h : Heap) (a : Addr) (ty : FieldType) (n : Nat) (f : Nat → Value) : Prop := ∃ c : Cell, Arr Z h a c ty ∧ c.slots.size = n ∧ n < 2 ^ 31 ∧ ∀ i, i < n → c.slots[i]? = some (f i)
section Ara
variable {Z : State} {h h' : Heap} {a b : Addr} {ty : FieldType} {n : Nat} {f f' : Nat → Value} {sl : Nat} {v : Value} {ws : List Addr}
theorem Ara.lt (F : Ara Z h a ty n f) : a < h.size := by obtain ⟨c, A, -⟩ := F; exact A.lt
theorem Ara.ext (F : Ara Z h a ty n f) (E : Ext h h') : Ara Z h' a ty n f := by obtain ⟨c, A, r⟩ := F; exact ⟨c, A.ext E, r⟩
theorem Ara.other (F : Ara Z h b ty n f) (W : Wr h h' a sl v) (q : b ≠ a) : Ara Z h' b ty n f := by obtain ⟨c, A, r⟩ := F; exact ⟨c, A.other W q, r⟩
theorem Ara.keep (F : Ara Z h a ty n f) (K : Keep h h' ws) (q : a ∉ ws) : Ara Z h' a ty n f := by obtain ⟨c, A, r⟩ := F; exact ⟨c, ⟨K.2.1 a c A.1 q, A.2⟩, r⟩
theorem Ara.set (F : Ara Z h a ty n f) (W : Wr h h' a sl v) : Ara Z h' a ty n (upd f sl v) := by
  obtain ⟨c, A, r1, r2, r3⟩ := F
  refine ⟨_, A.same W, by rw [sz_set]; exact r1, r2, fun i hi => ?_⟩
  by_cases q : i = sl
  · subst q; rw [upd_hit]; simp [Cell.setSlot, r1, hi]
  · rw [upd_miss q]; simp only [Cell.setSlot]; rw [Array.getElem?_setIfInBounds_ne (fun z => q z.symm)]; exact r3 i hi
theorem Ara.new {k : ClassId} {z : Int32} (A : Arr Z h a (newA k ty z) ty) (hn : z.toNatClampNeg = n) : Ara Z h a ty n (fun _ => defaultValue ty) := by
  refine ⟨_, A, by rw [sz_new]; exact hn, ?_, fun i hi => ?_⟩
  · rw [← hn]; have := z.toInt_lt; unfold Int32.toNatClampNeg; omega
  · rw [← hn] at hi; simp [newA, hi]
theorem Ara.congr (F : Ara Z h a ty n f) (q : ∀ i, i < n → f i = f' i) : Ara Z h a ty n f' := by obtain ⟨c, A, r1, r2, r3⟩ := F; exact ⟨c, A, r1, r2, fun i hi => by rw [← q i hi]; exact r3 i hi⟩
variable {p : Program} {l : Launch} {e : Env} {R : Room} {s : State} {m : MethodId} {args : Array Value} {below : List Frame} {meth : Method} {c : Code} {T : State} {locs : List Loc} {cells slots : Nat} {j : Int32} {i : Nat} {rest : List Value} {g : JFrame} {t : State} {x : Value}
theorem hin_of {cl : Cell} (S : cl.slots.size = n) (hj0 : ¬ j < 0) (hj : j.toNatClampNeg = i) (hi : i < n) : ¬ (j < 0 ∨ cl.slots.size ≤ j.toNatClampNeg) := by rw [S, hj]; exact fun q => q.elim hj0 (Nat.not_le.mpr hi)
theorem rdB (X : Stand p l e R s m args below meth c T locs cells slots) (hx : p.tables.exec = Jvm.exec) (hZ : Z.Warmed39 s.vm) (eT : T.heap = h) (F : Ara Z h a .byte n f) (hj0 : ¬ j < 0) (hj : j.toNatClampNeg = i) (hi : i < n) (hv : f i = x) (hg : g.method = m) (hs : g.stack = .int j :: .ref a :: rest) (hd : decode c.code g.pc = .ok (.baload, 1))
    (k : Steps p.tables e below (T.setTop { g with pc := g.pc + 1, stack := x :: rest }) t) : Steps p.tables e below (T.setTop g) t := by
  obtain ⟨cl, A, r1, r2, r3⟩ := F
  exact X.baloadBytes hx (by rw [eT]; exact A.1) (State.isArrayOf_alike hZ.alike A.2.1) A.2.2 (hin_of r1 hj0 hj hi) (by rw [hj, r3 i hi, hv]) hg hs hd _ k
theorem rdI (X : Stand p l e R s m args below meth c T locs cells slots) (hx : p.tables.exec = Jvm.exec) (hZ : Z.Warmed39 s.vm) (eT : T.heap = h) (F : Ara Z h a .int n f) (hj0 : ¬ j < 0) (hj : j.toNatClampNeg = i) (hi : i < n) (hv : f i = x) (hg : g.method = m) (hs : g.stack = .int j :: .ref a :: rest) (hd : decode c.code g.pc = .ok (.iaload, 1))
    (k : Steps p.tables e below (T.setTop { g with pc := g.pc + 1, stack := x :: rest }) t) : Steps p.tables e below (T.setTop g) t := by
  obtain ⟨cl, A, r1, r2, r3⟩ := F
  exact X.iaload hx (by rw [eT]; exact A.1) (State.isArrayOf_alike hZ.alike A.2.1) A.2.2 (hin_of r1 hj0 hj hi) (by rw [hj, r3 i hi, hv]) hg hs hd _ k
theorem rdJ (X : Stand p l e R s m args below meth c T locs cells slots) (hx : p.tables.exec = Jvm.exec) (hZ : Z.Warmed39 s.vm) (eT : T.heap = h) (F : Ara Z h a .long n f) (hj0 : ¬ j < 0) (hj : j.toNatClampNeg = i) (hi : i < n) (hv : f i = x) (hg : g.method = m) (hs : g.stack = .int j :: .ref a :: rest) (hd : decode c.code g.pc = .ok (.laload, 1))
    (k : Steps p.tables e below (T.setTop { g with pc := g.pc + 1, stack := x :: rest }) t) : Steps p.tables e below (T.setTop g) t := by
  obtain ⟨cl, A, r1, r2, r3⟩ := F
  exact X.laload hx (by rw [eT]; exact A.1) (State.isArrayOf_alike hZ.alike A.2.1) A.2.2 (hin_of r1 hj0 hj hi) (by rw [hj, r3 i hi, hv]) hg hs hd _ k
theorem rdR (X : Stand p l e R s m args below meth c T locs cells slots) (hx : p.tables.exec = Jvm.exec) (hZ : Z.Warmed39 s.vm) (eT : T.heap = h) (F : Ara Z h a ty n f) (hty : ty.isReference = true) (hj0 : ¬ j < 0) (hj : j.toNatClampNeg = i) (hi : i < n) (hv : f i = x) (hg : g.method = m) (hs : g.stack = .int j :: .ref a :: rest) (hd : decode c.code g.pc = .ok (.aaload, 1))
    (k : Steps p.tables e below (T.setTop { g with pc := g.pc + 1, stack := x :: rest }) t) : Steps p.tables e below (T.setTop g) t := by
  obtain ⟨cl, A, r1, r2, r3⟩ := F
  exact X.aaload hx (by rw [eT]; exact A.1) (State.isArrayOf_alike hZ.alike A.2.1) hty A.2.2 (hin_of r1 hj0 hj hi) (by rw [hj, r3 i hi, hv]) hg hs hd _ k
theorem alen (X : Stand p l e R s m args below meth c T locs cells slots) (hx : p.tables.exec = Jvm.exec) (hZ : Z.Warmed39 s.vm) (eT : T.heap = h) (F : Ara Z h a ty n f) {z : Int32} (hz : n.toInt32 = z) (hg : g.method = m) (hs : g.stack = .ref a :: rest) (hd : decode c.code g.pc = .ok (.arraylength, 1))
    (k : Steps p.tables e below (T.setTop { g with pc := g.pc + 1, stack := .int z :: rest }) t) : Steps p.tables e below (T.setTop g) t := by
  obtain ⟨cl, A, r1, r2, r3⟩ := F
  refine X.arraylength hx (by rw [eT]; exact A.1) (State.isArrayOf_alike hZ.alike A.2.1) hg hs hd _ ?_
  rw [r1, hz]; exact k
theorem wrB (X : Stand p l e R s m args below meth c T locs cells slots) (hx : p.tables.exec = Jvm.exec) (hZ : Z.Warmed39 s.vm) (eT : T.heap = h) (F : Ara Z h a .byte n f) {y : Int32} (hj0 : ¬ j < 0) (hj : j.toNatClampNeg = i) (hi : i < n) {y' : Int32} (hy : nar .byte y = y') (hg : g.method = m) (hs : g.stack = .int y :: .int j :: .ref a :: rest) (hd : decode c.code g.pc = .ok (.bastore, 1)) :
    ∃ T' h', Stand p l e R s m args below meth c T' (locs ++ [⟨a, i⟩]) cells slots ∧ T'.heap = h' ∧ Wr h h' a i (.int y') ∧ ∀ target, Steps p.tables e below (T'.setTop { g with pc := g.pc + 1, stack := rest }) target → Steps p.tables e below (T.setTop g) target := by
  subst hj hy
  obtain ⟨cl, A, r1, r2, r3⟩ := F
  exact stB X hx hZ eT A (hin_of r1 hj0 rfl hi) hg hs hd
theorem wrI (X : Stand p l e R s m args below meth c T locs cells slots) (hx : p.tables.exec = Jvm.exec) (hZ : Z.Warmed39 s.vm) (eT : T.heap = h) (F : Ara Z h a .int n f) {y : Int32} (hj0 : ¬ j < 0) (hj : j.toNatClampNeg = i) (hi : i < n) (hg : g.method = m) (hs : g.stack = .int y :: .int j :: .ref a :: rest) (hd : decode c.code g.pc = .ok (.iastore, 1)) :
    ∃ T' h', Stand p l e R s m args below meth c T' (locs ++ [⟨a, i⟩]) cells slots ∧ T'.heap = h' ∧ Wr h h' a i (.int y) ∧ ∀ target, Steps p.tables e below (T'.setTop { g with pc := g.pc + 1, stack := rest }) target → Steps p.tables e below (T.setTop g) target := by
  subst hj
  obtain ⟨cl, A, r1, r2, r3⟩ := F
  exact stI X hx hZ eT A (hin_of r1 hj0 rfl hi) hg hs hd
theorem wrJ (X : Stand p l e R s m args below meth c T locs cells slots) (hx : p.tables.exec = Jvm.exec) (hZ : Z.Warmed39 s.vm) (eT : T.heap = h) (F : Ara Z h a .long n f) {y : Int64} (hj0 : ¬ j < 0) (hj : j.toNatClampNeg = i) (hi : i < n) (hg : g.method = m) (hs : g.stack = .long y :: .int j :: .ref a :: rest) (hd : decode c.code g.pc = .ok (.lastore, 1)) :
    ∃ T' h', Stand p l e R s m args below meth c T' (locs ++ [⟨a, i⟩]) cells slots ∧ T'.heap = h' ∧ Wr h h' a i (.long y) ∧ ∀ target, Steps p.tables e below (T'.setTop { g with pc := g.pc + 1, stack := rest }) target → Steps p.tables e below (T.setTop g) target := by
  subst hj
  obtain ⟨cl, A, r1, r2, r3⟩ := F
  exact stJ X hx hZ eT A (hin_of r1 hj0 rfl hi) hg hs hd
end Ara
theorem wr_le {h h' : Heap} {a : Addr} {sl : Nat} {v : Value} (W : Wr h h' a sl v) : h.size ≤ h'.size := Nat.le_of_eq W.size.symm
theorem up_lt {k a b : Nat} (h : a < k) (g : b = k) : a ≠ b := by omega
theorem nar_b (y : Int32) : nar .byte y.toInt8.toInt32 = y.toInt8.toInt32 := by show y.toInt8.toInt32.toInt8.toInt32 = _; rw [Int8.toInt8_toInt32]
theorem Sta_keep {Z : State} {h h' : Heap} {C n d : String} {v : Value} {ws : List Addr} {k : Nat} (F : Sta Z h C n d v) (K : Keep h h' ws) (q : ∀ x ∈ ws, Z.heap.size ≤ x) (hst : ∀ cf kk i f st, Z.fieldFound? C n d = some (cf, kk, i, f) → kk.statics = some st → st < Z.heap.size) : Sta Z h' C n d v := by
  obtain ⟨cf, i, kk, f, st, cell, h1, h2, h3, h4, h5, r⟩ := F
  exact ⟨cf, i, kk, f, st, cell, h1, h2, h3, h4, K.2.1 _ _ h5 (fun z => absurd (hst _ _ _ _ _ h1 h4) (Nat.not_lt.mpr (q _ z))), r⟩
theorem eqv_r {Z : State} {args : Array Value} {X F : Term} {idx : List Nat} {y : Addr} (hF : F.eval args Z none idx Z = some (.ref y)) (h : (Cond.eq X F).value args Z none Z idx = some true) : X.eval args Z none idx Z = some (.ref y) := by
  cases hx : X.eval args Z none idx Z with
  | none => simp [Cond.value, hF, hx] at h
  | some x => cases x <;> simp [Cond.value, hF, hx] at h ⊢ <;> exact h
/-! calls by a contract, in one piece -/
section Calls
variable {p : Program} {l : Launch} {e : Env} {R : Room} {s : State} {m : MethodId} {args : Array Value} {below : List Frame} {meth : Method} {c : Code} {T : State} {locs : List Loc} {cells slots : Nat} {Z : State} {a0 : Array Value} {h : Heap}
abbrev Meets1 (l : Launch) (y : MethodName) (bytes : ByteArray) (maxL : Nat) (ret : Option FieldType) (rm : Room) (Z : State) (as' : Array Value) (h : Heap) (Q : Option Value → Heap → List Loc → Prop) : Prop :=
  MetFree l y (head1 [Cond.code y bytes maxL ret] rm) (fun a U => a = as' ∧ Z.Warmed39 U.vm ∧ U.heap = h) (fun _ _ _ _ _ => True) (fun _ U o U' => ∃ v L, o = .returned v ∧ Q v U'.heap L ∧ FrameEnd U o U' L rm.cells rm.slots)
theorem callQ (X : Stand p l e R s m args below meth c T locs cells slots) (hx : p.tables.exec = Jvm.exec) (hZ : Z.Warmed39 s.vm) {own : String} {index : Nat} {y : MethodName} {bytes : ByteArray} {maxL : Nat} {ret : Option FieldType} (hown : s.vm.findClass own = some m.cls)
    (w1 : (Cond.methodLink own index y).before a0 Z = true) (w2 : (Cond.static y).before a0 Z = true) (w3 : (Cond.initialized y.cls).before a0 Z = true) (w4 : (Cond.code y bytes maxL ret).before a0 Z = true) (hy : y.cls ≠ "java/lang/invoke/MethodHandle" ∧ y.cls ≠ "java/lang/invoke/VarHandle")
    {rm : Room} {argsL rest : List Value} {Q : Option Value → Heap → List Loc → Prop} (hM : Meets1 l y bytes maxL ret rm Z argsL.toArray h Q) {W : Nat} (hf : rm.frames + 1 ≤ R.frames) (hl : W + (maxL + 11) + rm.locals ≤ R.locals) (eT : T.heap = h)
    {g : JFrame} (hg : g.method = m) (hsize : g.locals.size = c.maxLocals) (hlen : ∀ sig, parseMethodDescriptor y.desc = some sig → argsL.length = sig.parameters.length) (hstack : g.stack = argsL.reverse ++ rest) (hW : 2 * g.monitorRoom + (rest.map fun v => v.category).sum ≤ W) (hd : decode c.code g.pc = .ok (.invokestatic index, 3)) (hc : cells + rm.cells ≤ R.cells) (hs : slots + rm.slots ≤ R.slots) :
    ∃ v T' L, Stand p l e R s m args below meth c T' (locs ++ L) (cells + rm.cells) (slots + rm.slots) ∧ Q v T'.heap L ∧ ∀ target, Steps p.tables e below (T'.setTop { g with pc := g.pc + 3, stack := v.toList ++ rest }) target → Steps p.tables e below (T.setTop g) target := by
  obtain ⟨v, _, ⟨T', L', k', n'⟩, -, X', ⟨L, hQ, hl', hk', hn'⟩, st⟩ := Jvm.LawKit.callS X hx hown (mvT hZ w1) (mvT hZ w2) (mvT hZ w3) (mvT hZ w4) hy (backOf (W := W) hM hZ w4 w3 hf hl) hg hsize hlen hstack hW hd (fun _ _ => ⟨rfl, eT, hc, hs⟩)
  dsimp only [Pt.U, Pt.locs, Pt.cells, Pt.slots] at X' hl' hk' hn' st hQ
  subst hl' hk' hn'
  exact ⟨v, T', L, X', hQ, st⟩
theorem specQ (X : Stand p l e R s m args below meth c T locs cells slots) (hx : p.tables.exec = Jvm.exec) (hZ : Z.Warmed39 s.vm) {own : String} {index : Nat} {y : MethodName} {bytes : ByteArray} {maxL : Nat} (hy1 : y.name = "<init>") (hown : s.vm.findClass own = some m.cls)
    (w1 : (Cond.methodLink own index y).before a0 Z = true) (w2 : (Cond.instanceMethod y).before a0 Z = true) (w3 : (Cond.initialized y.cls).before a0 Z = true) (w4 : (Cond.code y bytes maxL none).before a0 Z = true) (hy : y.cls ≠ "java/lang/invoke/MethodHandle" ∧ y.cls ≠ "java/lang/invoke/VarHandle")
    {rm : Room} {a : Addr} {argsL rest : List Value} {Q : Option Value → Heap → List Loc → Prop} (hM : Meets1 l y bytes maxL none rm Z (.ref a :: argsL).toArray h Q) {W : Nat} (hf : rm.frames + 1 ≤ R.frames) (hl : W + (maxL + 11) + rm.locals ≤ R.locals) (eT : T.heap = h)
    {g : JFrame} (hg : g.method = m) (hsize : g.locals.size = c.maxLocals) (hlen : ∀ sig, parseMethodDescriptor y.desc = some sig → argsL.length = sig.parameters.length) (hstack : g.stack = argsL.reverse ++ .ref a :: rest) (hW : 2 * g.monitorRoom + (rest.map fun v => v.category).sum ≤ W) (hd : decode c.code g.pc = .ok (.invokespecial index, 3)) (hc : cells + rm.cells ≤ R.cells) (hs : slots + rm.slots ≤ R.slots) :
    ∃ v T' L, Stand p l e R s m args below meth c T' (locs ++ L) (cells + rm.cells) (slots + rm.slots) ∧ Q v T'.heap L ∧ ∀ target, Steps p.tables e below (T'.setTop { g with pc := g.pc + 3, stack := v.toList ++ rest }) target → Steps p.tables e below (T.setTop g) target := by
  obtain ⟨v, _, ⟨T', L', k', n'⟩, -, X', ⟨L, hQ, hl', hk', hn'⟩, st⟩ := X.specialBack hx hy1 hown (mvT hZ w1) (mvT hZ w2) (mvT hZ w4) hy (backOf (W := W) hM hZ w4 w3 hf hl) hg hsize (Steps.refl _) hlen hstack hW hd (fun _ _ => ⟨rfl, eT, hc, hs⟩)
  dsimp only [Pt.U, Pt.locs, Pt.cells, Pt.slots] at X' hl' hk' hn' st hQ
  subst hl' hk' hn'
  exact ⟨v, T', L, X', hQ, fun t k => st.trans k⟩
theorem virtQ (X : Stand p l e R s m args below meth c T locs cells slots) (hx : p.tables.exec = Jvm.exec) (hZ : Z.Warmed39 s.vm) {own : String} {index : Nat} {y : MethodName} {bytes : ByteArray} {maxL : Nat} {ret : Option FieldType} (hown : s.vm.findClass own = some m.cls)
    (w1 : (Cond.methodLink own index y).before a0 Z = true) (w2 : (Cond.instanceMethod y).before a0 Z = true) (w3 : (Cond.initialized y.cls).before a0 Z = true) (w4 : (Cond.code y bytes maxL ret).before a0 Z = true) (w5 : (Cond.declares y).before a0 Z = true) (w6 : (Cond.selects y.cls y y).before a0 Z = true) (hy : y.cls ≠ "java/lang/invoke/MethodHandle" ∧ y.cls ≠ "java/lang/invoke/VarHandle")
    {rm : Room} {a : Addr} (E : Exa Z h a y.cls) {argsL rest : List Value} {Q : Option Value → Heap → List Loc → Prop} (hM : Meets1 l y bytes maxL ret rm Z (.ref a :: argsL).toArray h Q) {W : Nat} (hf : rm.frames + 1 ≤ R.frames) (hl : W + (maxL + 11) + rm.locals ≤ R.locals) (eT : T.heap = h)
    {g : JFrame} (hg : g.method = m) (hsize : g.locals.size = c.maxLocals) (hlen : ∀ sig, parseMethodDescriptor y.desc = some sig → argsL.length = sig.parameters.length) (hstack : g.stack = argsL.reverse ++ .ref a :: rest) (hW : 2 * g.monitorRoom + (rest.map fun v => v.category).sum ≤ W) (hd : decode c.code g.pc = .ok (.invokevirtual index, 3)) (hc : cells + rm.cells ≤ R.cells) (hs : slots + rm.slots ≤ R.slots) :
    ∃ v T' L, Stand p l e R s m args below meth c T' (locs ++ L) (cells + rm.cells) (slots + rm.slots) ∧ Q v T'.heap L ∧ ∀ target, Steps p.tables e below (T'.setTop { g with pc := g.pc + 3, stack := v.toList ++ rest }) target → Steps p.tables e below (T.setTop g) target := by
  obtain ⟨cq, kq, qa, qb, qc⟩ := isOf hZ eT E
  obtain ⟨v, _, ⟨T', L', k', n'⟩, -, X', ⟨L, hQ, hl', hk', hn'⟩, st⟩ := X.virtualBack hx (y := y) (z := y) hown (mvT hZ w1) (mvT hZ w5) (notFace_of_selects (args := #[]) (mvT hZ w6)) (mvT hZ w6) (mvT hZ w2) hy (backOf (W := W) hM hZ w4 w3 hf hl) qa qc hg hsize (Steps.refl _) hlen hstack hW hd (fun _ _ => ⟨rfl, eT, hc, hs⟩)
  dsimp only [Pt.U, Pt.locs, Pt.cells, Pt.slots] at X' hl' hk' hn' st hQ
  subst hl' hk' hn'
  exact ⟨v, T', L, X', hQ, fun t k => st.trans k⟩
theorem privQ (X : Stand p l e R s m args below meth c T locs cells slots) (hx : p.tables.exec = Jvm.exec) (hZ : Z.Warmed39 s.vm) {own : String} {index : Nat} {y : MethodName} {bytes : ByteArray} {maxL : Nat} {ret : Option FieldType} (hown : s.vm.findClass own = some m.cls)
    (w1 : (Cond.methodLink own index y).before a0 Z = true) (w2 : (Cond.instanceMethod y).before a0 Z = true) (w3 : (Cond.initialized y.cls).before a0 Z = true) (w4 : (Cond.code y bytes maxL ret).before a0 Z = true) (w5 : (Cond.privateMethod y).before a0 Z = true) (w6 : (Cond.selects y.cls y y).before a0 Z = true) (hy : y.cls ≠ "java/lang/invoke/MethodHandle" ∧ y.cls ≠ "java/lang/invoke/VarHandle")
    {rm : Room} {a : Addr} {C : String} (E : Exa Z h a C) {argsL rest : List Value} {Q : Option Value → Heap → List Loc → Prop} (hM : Meets1 l y bytes maxL ret rm Z (.ref a :: argsL).toArray h Q) {W : Nat} (hf : rm.frames + 1 ≤ R.frames) (hl : W + (maxL + 11) + rm.locals ≤ R.locals) (eT : T.heap = h)
    {g : JFrame} (hg : g.method = m) (hsize : g.locals.size = c.maxLocals) (hlen : ∀ sig, parseMethodDescriptor y.desc = some sig → argsL.length = sig.parameters.length) (hstack : g.stack = argsL.reverse ++ .ref a :: rest) (hW : 2 * g.monitorRoom + (rest.map fun v => v.category).sum ≤ W) (hd : decode c.code g.pc = .ok (.invokevirtual index, 3)) (hc : cells + rm.cells ≤ R.cells) (hs : slots + rm.slots ≤ R.slots) :
    ∃ v T' L, Stand p l e R s m args below meth c T' (locs ++ L) (cells + rm.cells) (slots + rm.slots) ∧ Q v T'.heap L ∧ ∀ target, Steps p.tables e below (T'.setTop { g with pc := g.pc + 3, stack := v.toList ++ rest }) target → Steps p.tables e below (T.setTop g) target := by
  obtain ⟨cq, q1, q2⟩ := E.cell
  obtain ⟨v, _, ⟨T', L', k', n'⟩, -, X', ⟨L, hQ, hl', hk', hn'⟩, st⟩ := X.privateBack hx (y := y) hown (mvT hZ w1) (mvT hZ w2) (mvT hZ w6) (Cond.privateMethod_at (mvP hZ w5 (args := #[]))) (mvT hZ w4) hy (backOf (W := W) hM hZ w4 w3 hf hl) hg hsize (Steps.refl _) (a := a) (by rw [eT]; exact q1) q2 hlen hstack hW hd (fun _ _ => ⟨rfl, eT, hc, hs⟩)
  dsimp only [Pt.U, Pt.locs, Pt.cells, Pt.slots] at X' hl' hk' hn' st hQ
  subst hl' hk' hn'
  exact ⟨v, T', L, X', hQ, fun t k => st.trans k⟩
end Calls
theorem ef_rm5 (m : MethodId) (o0 : Addr) : entryFrame m #[(.ref o0)] 1 = mkF m 0 #[.val (.ref o0)] [] := by first | (simp [entryFrame, mkF, argsToLocals, Value.category]; done) | rfl
theorem pn_0 : plainName "java/lang/Record" = true := by first | (simp [plainName, overriddenIn]; done) | decide +kernel
def Q_rm5 (Z : State) (o0 : Addr)  (h0 : Heap) (n0 : Nat) (v : Option Value) (h : Heap) (L : List Loc) : Prop := v = none ∧ Fr n0 L ∧ h = h0
theorem d5_0 : decode jdk_30_method_1_code 0 = .ok (.aload_n 0, 1) := by decide +kernel
theorem d5_1 : decode jdk_30_method_1_code 1 = .ok (.invokespecial 1, 3) := by decide +kernel
theorem d5_4 : decode jdk_30_method_1_code 4 = .ok (.return_, 1) := by decide +kernel
set_option maxRecDepth 65536 in
set_option maxHeartbeats 40000000 in
theorem rm5 (l : Launch) (Z : State) (a0 : Array Value) (hw : ∀ d ∈ tables_1, d.before a0 Z = true) (ws : List Jvm.Cond) (o0 : Addr)  (h0 : Heap) (n0 : Nat) (Z0 : n0 ≤ h0.size)  :
    MetFree l (⟨"java/lang/Record", "<init>", "()V"⟩ : MethodName) (head1 (Jvm.Cond.code (⟨"java/lang/Record", "<init>", "()V"⟩ : MethodName) jdk_30_method_1_code 1 none :: ws) ({ frames := 1, cells := 0, slots := 0, locals := 12 } : Room)) (fun a U => a = #[(.ref o0)] ∧ Z.Warmed39 U.vm ∧ U.heap = h0) (fun _ _ _ _ _ => True) (fun _ U o U' => ∃ v L, o = .returned v ∧ (Q_rm5 Z o0 h0 n0) v U'.heap L ∧ FrameEnd U o U' L ({ frames := 1, cells := 0, slots := 0, locals := 12 } : Room).cells ({ frames := 1, cells := 0, slots := 0, locals := 12 } : Room).slots) := by
  refine MetFree.of_bodySF (plainFor_of_name pn_0) hisR ?_
  intro p e s m args below meth c s₁ Bd hml0 hP hK
  obtain ⟨rfl, hZ, hh⟩ := hP
  have hx := Bd.exec
  have hby := Bd.bytes
  have hml : c.maxLocals = 1 := hml0
  have hown : s.vm.findClass "java/lang/Record" = some m.cls := findClass_of_methodNamed Bd.named
  have hnm := (name_of_methodNamed Bd.named Bd.method).1
  have X0 : Stand p l e ({ frames := 1, cells := 0, slots := 0, locals := 12 } : Room) s m #[(.ref o0)] below meth c s₁ [] 0 0 := Stand.of_body Bd
  have e0 : s₁.heap = h0 := by rw [← hh, Bd.state]; rfl
  have N0 := Fr.nil n0
  show OFin p e below (ORet (Q_rm5 Z o0 h0 n0) s ({ frames := 1, cells := 0, slots := 0, locals := 12 } : Room).cells ({ frames := 1, cells := 0, slots := 0, locals := 12 } : Room).slots) (s₁.setTop (entryFrame m #[(.ref o0)] 1))
  refine OFin.go (fun t k => castTop (ef_rm5 m o0) k) ?_
  show OFin p e below (ORet (Q_rm5 Z o0 h0 n0) s ({ frames := 1, cells := 0, slots := 0, locals := 12 } : Room).cells ({ frames := 1, cells := 0, slots := 0, locals := 12 } : Room).slots) (s₁.setTop (mkF m 0 #[.val (.ref o0)] []))
  have S1 : ∀ t, Steps p.tables e below (s₁.setTop (mkF m 1 #[.val (.ref o0)] [(.ref o0)])) t → Steps p.tables e below (s₁.setTop (mkF m 0 #[.val (.ref o0)] [])) t := by
    intro t k
    show Steps p.tables e below (s₁.setTop (mkF m 0 #[.val (.ref o0)] [])) t
    refine XS.aloadN X0.here hx rfl (hb hby d5_0) rfl rfl ?_
    exact k
  refine OFin.go S1 ?_
  obtain ⟨T2, X2, e2, st2⟩ := initO X0 hx hZ hown (hw _ (List.mem_of_getElem? (i := 33) rfl)) (hw _ (List.mem_of_getElem? (i := 7) rfl)) (hw _ (List.mem_of_getElem? (i := 8) rfl)) e0 (g := (mkF m 1 #[.val (.ref o0)] [(.ref o0)])) rfl (by rw [hml]; rfl) rfl (hb hby d5_1) (by decide) (W := 0) (by show 2 * 0 + _ ≤ _; exact Nat.le_of_eq rfl) (by decide)
  refine OFin.go st2 ?_
  show OFin p e below _ (T2.setTop (mkF m 4 #[.val (.ref o0)] []))
  exact finV X2 hx Bd.notSynchronized Bd.returns (hb hby d5_4) (by decide) (by decide) (⟨rfl, N0, e2⟩)
theorem ef_rm4 (m : MethodId) (o0 : Addr) (x : Int64) (y : Int64) : entryFrame m #[(.ref o0), (.long x), (.long y)] 5 = mkF m 0 #[.val (.ref o0), .val (.long x), .second, .val (.long y), .second] [] := by first | (simp [entryFrame, mkF, argsToLocals, Value.category]; done) | rfl
theorem pn_1 : plainName "com/example/clockwrap/clockwrap/store/TimerLog$Tally" = true := by first | (simp [plainName, overriddenIn]; done) | decide +kernel
def Q_rm4 (Z : State) (o0 : Addr) (x : Int64) (y : Int64)  (h0 : Heap) (n0 : Nat) (v : Option Value) (h : Heap) (L : List Loc) : Prop := v = none ∧ Fr n0 L ∧ Keep h0 h [o0] ∧ Fld Z h o0 "com/example/clockwrap/clockwrap/store/TimerLog$Tally" "additionsLength" "J" (.long x) ∧ Fld Z h o0 "com/example/clockwrap/clockwrap/store/TimerLog$Tally" "removedLength" "J" (.long y)
theorem d4_0 : decode prog_50_method_1_code 0 = .ok (.aload_n 0, 1) := by decide +kernel
theorem pd_0 : parseMethodDescriptor "()V" = some ⟨[], none⟩ := by decide +kernel
theorem d4_1 : decode prog_50_method_1_code 1 = .ok (.invokespecial 3, 3) := by decide +kernel
theorem d4_4 : decode prog_50_method_1_code 4 = .ok (.aload_n 0, 1) := by decide +kernel
theorem d4_5 : decode prog_50_method_1_code 5 = .ok (.lload_n 1, 1) := by decide +kernel
theorem d4_6 : decode prog_50_method_1_code 6 = .ok (.putfield 9, 3) := by decide +kernel
theorem d4_9 : decode prog_50_method_1_code 9 = .ok (.aload_n 0, 1) := by decide +kernel
theorem d4_10 : decode prog_50_method_1_code 10 = .ok (.lload_n 3, 1) := by decide +kernel
theorem d4_11 : decode prog_50_method_1_code 11 = .ok (.putfield 15, 3) := by decide +kernel
theorem d4_14 : decode prog_50_method_1_code 14 = .ok (.return_, 1) := by decide +kernel
set_option maxRecDepth 65536 in
set_option maxHeartbeats 40000000 in
theorem rm4 (l : Launch) (Z : State) (a0 : Array Value) (hw : ∀ d ∈ tables_1, d.before a0 Z = true) (ws : List Jvm.Cond) (o0 : Addr) (x : Int64) (y : Int64)  (h0 : Heap) (n0 : Nat) (Z0 : n0 ≤ h0.size) (ge0 : n0 ≤ o0) (E_o0 : Exa Z h0 o0 "com/example/clockwrap/clockwrap/store/TimerLog$Tally") (F_o0_additionsLength : Fld Z h0 o0 "com/example/clockwrap/clockwrap/store/TimerLog$Tally" "additionsLength" "J" (.long (0 : Int64))) (F_o0_removedLength : Fld Z h0 o0 "com/example/clockwrap/clockwrap/store/TimerLog$Tally" "removedLength" "J" (.long (0 : Int64))) :
    MetFree l (⟨"com/example/clockwrap/clockwrap/store/TimerLog$Tally", "<init>", "(JJ)V"⟩ : MethodName) (head1 (Jvm.Cond.code (⟨"com/example/clockwrap/clockwrap/store/TimerLog$Tally", "<init>", "(JJ)V"⟩ : MethodName) prog_50_method_1_code 5 none :: ws) ({ frames := 2, cells := 0, slots := 0, locals := 24 } : Room)) (fun a U => a = #[(.ref o0), (.long x), (.long y)] ∧ Z.Warmed39 U.vm ∧ U.heap = h0) (fun _ _ _ _ _ => True) (fun _ U o U' => ∃ v L, o = .returned v ∧ (Q_rm4 Z o0 x y h0 n0) v U'.heap L ∧ FrameEnd U o U' L ({ frames := 2, cells := 0, slots := 0, locals := 24 } : Room).cells ({ frames := 2, cells := 0, slots := 0, locals := 24 } : Room).slots) := by
  refine MetFree.of_bodySF (plainFor_of_name pn_1) hisR ?_
  intro p e s m args below meth c s₁ Bd hml0 hP hK
  obtain ⟨rfl, hZ, hh⟩ := hP
  have hx := Bd.exec
  have hby := Bd.bytes
  have hml : c.maxLocals = 5 := hml0
  have hown : s.vm.findClass "com/example/clockwrap/clockwrap/store/TimerLog$Tally" = some m.cls := findClass_of_methodNamed Bd.named
  have hnm := (name_of_methodNamed Bd.named Bd.method).1
  have X0 : Stand p l e ({ frames := 2, cells := 0, slots := 0, locals := 24 } : Room) s m #[(.ref o0), (.long x), (.long y)] below meth c s₁ [] 0 0 := Stand.of_body Bd
  have e0 : s₁.heap = h0 := by rw [← hh, Bd.state]; rfl
  have N0 := Fr.nil n0
  show OFin p e below (ORet (Q_rm4 Z o0 x y h0 n0) s ({ frames := 2, cells := 0, slots := 0, locals := 24 } : Room).cells ({ frames := 2, cells := 0, slots := 0, locals := 24 } : Room).slots) (s₁.setTop (entryFrame m #[(.ref o0), (.long x), (.long y)] 5))
  refine OFin.go (fun t k => castTop (ef_rm4 m o0 x y) k) ?_
  have K0 := Keep.refl h0 [o0]
  show OFin p e below (ORet (Q_rm4 Z o0 x y h0 n0) s ({ frames := 2, cells := 0, slots := 0, locals := 24 } : Room).cells ({ frames := 2, cells := 0, slots := 0, locals := 24 } : Room).slots) (s₁.setTop (mkF m 0 #[.val (.ref o0), .val (.long x), .second, .val (.long y), .second] []))
  have S1 : ∀ t, Steps p.tables e below (s₁.setTop (mkF m 1 #[.val (.ref o0), .val (.long x), .second, .val (.long y), .second] [(.ref o0)])) t → Steps p.tables e below (s₁.setTop (mkF m 0 #[.val (.ref o0), .val (.long x), .second, .val (.long y), .second] [])) t := by
    intro t k
    show Steps p.tables e below (s₁.setTop (mkF m 0 #[.val (.ref o0), .val (.long x), .second, .val (.long y), .second] [])) t
    refine XS.aloadN X0.here hx rfl (hb hby d4_0) rfl rfl ?_
    exact k
  refine OFin.go S1 ?_
  obtain ⟨_, T2, Lc2, X2, hQ2, st2⟩ := specQ X0 hx hZ (y := (⟨"java/lang/Record", "<init>", "()V"⟩ : MethodName)) rfl hown (hw _ (List.mem_of_getElem? (i := 28) rfl)) (hw _ (List.mem_of_getElem? (i := 29) rfl)) (hw _ (List.mem_of_getElem? (i := 31) rfl)) (hw _ (List.mem_of_getElem? (i := 32) rfl)) (by decide) (a := o0) (argsL := []) (rest := []) (rm5 l Z a0 hw [] o0 h0 n0 Z0) (W := 0) (by decide) (by decide) e0 (g := (mkF m 1 #[.val (.ref o0), .val (.long x), .second, .val (.long y), .second] [(.ref o0)])) rfl (by rw [hml]; rfl) (lenOf pd_0 rfl) rfl (by show 2 * 0 + _ ≤ _; exact Nat.le_of_eq rfl) (hb hby d4_1) (Nat.le_of_ble_eq_true rfl) (Nat.le_of_ble_eq_true rfl)
  obtain ⟨rfl, N2q, e2⟩ := hQ2
  have N2 := Fr.app N0 N2q
  refine OFin.go st2 ?_
  show OFin p e below _ (T2.setTop (mkF m 4 #[.val (.ref o0), .val (.long x), .second, .val (.long y), .second] []))
  have S3 : ∀ t, Steps p.tables e below (T2.setTop (mkF m 6 #[.val (.ref o0), .val (.long x), .second, .val (.long y), .second] [(.long x), (.ref o0)])) t → Steps p.tables e below (T2.setTop (mkF m 4 #[.val (.ref o0), .val (.long x), .second, .val (.long y), .second] [])) t := by
    intro t k
    show Steps p.tables e below (T2.setTop (mkF m 4 #[.val (.ref o0), .val (.long x), .second, .val (.long y), .second] [])) t
    refine XS.aloadN X2.here hx rfl (hb hby d4_4) rfl rfl ?_
    show Steps p.tables e below (T2.setTop (mkF m 5 #[.val (.ref o0), .val (.long x), .second, .val (.long y), .second] [(.ref o0)])) t
    refine XS.lloadN X2.here hx rfl (hb hby d4_5) rfl ?_
    exact k
  refine OFin.go S3 ?_
  obtain ⟨T4, h4, X4, e4, W4, st4⟩ := putF X2 hx hZ hown (host := "") (Or.inl (hw _ (List.mem_of_getElem? (i := 34) rfl))) Via.refl e2 F_o0_additionsLength E_o0 (Or.inr ⟨(hw _ (List.mem_of_getElem? (i := 35) rfl)), rfl, hnm⟩) (hw _ (List.mem_of_getElem? (i := 24) rfl)) (ty := .long) (by decide) rfl rfl (g := (mkF m 6 #[.val (.ref o0), .val (.long x), .second, .val (.long y), .second] [(.long x), (.ref o0)])) rfl rfl (hb hby d4_6)
  have Fw4 := F_o0_additionsLength.same W4
  have N4 := Fr.snoc X4 N2 ge0
  have Z4 : n0 ≤ h4.size := Nat.le_trans Z0 (wr_le W4)
  have K4 := Keep.wr K0 W4 (Or.inl (List.mem_of_getElem? (i := 0) rfl))
  refine OFin.go st4 ?_
  show OFin p e below _ (T4.setTop (mkF m 9 #[.val (.ref o0), .val (.long x), .second, .val (.long y), .second] []))
  have S5 : ∀ t, Steps p.tables e below (T4.setTop (mkF m 11 #[.val (.ref o0), .val (.long x), .second, .val (.long y), .second] [(.long y), (.ref o0)])) t → Steps p.tables e below (T4.setTop (mkF m 9 #[.val (.ref o0), .val (.long x), .second, .val (.long y), .second] [])) t := by
    intro t k
    show Steps p.tables e below (T4.setTop (mkF m 9 #[.val (.ref o0), .val (.long x), .second, .val (.long y), .second] [])) t
    refine XS.aloadN X4.here hx rfl (hb hby d4_9) rfl rfl ?_
    show Steps p.tables e below (T4.setTop (mkF m 10 #[.val (.ref o0), .val (.long x), .second, .val (.long y), .second] [(.ref o0)])) t
    refine XS.lloadN X4.here hx rfl (hb hby d4_10) rfl ?_
    exact k
  refine OFin.go S5 ?_
  have F6 := F_o0_removedLength.other W4 (Or.inr (slot_ne (Or.inr (hw _ (List.mem_of_getElem? (i := 37) rfl))) (Or.inr (hw _ (List.mem_of_getElem? (i := 35) rfl))) (by decide) (t := .long) (t' := .long) (by decide) (by decide)))
  have F7 := E_o0.wr W4
  obtain ⟨T8, h8, X8, e8, W8, st8⟩ := putF X4 hx hZ hown (host := "") (Or.inl (hw _ (List.mem_of_getElem? (i := 36) rfl))) Via.refl e4 F6 F7 (Or.inr ⟨(hw _ (List.mem_of_getElem? (i := 37) rfl)), rfl, hnm⟩) (hw _ (List.mem_of_getElem? (i := 24) rfl)) (ty := .long) (by decide) rfl rfl (g := (mkF m 11 #[.val (.ref o0), .val (.long x), .second, .val (.long y), .second] [(.long y), (.ref o0)])) rfl rfl (hb hby d4_11)
  have Fw8 := F6.same W8
  have N8 := Fr.snoc X8 N4 ge0
  have Z8 : n0 ≤ h8.size := Nat.le_trans Z4 (wr_le W8)
  have K8 := Keep.wr K4 W8 (Or.inl (List.mem_of_getElem? (i := 0) rfl))
  refine OFin.go st8 ?_
  show OFin p e below _ (T8.setTop (mkF m 14 #[.val (.ref o0), .val (.long x), .second, .val (.long y), .second] []))
  have F9 := Fw4.other W8 (Or.inr (slot_ne (Or.inr (hw _ (List.mem_of_getElem? (i := 35) rfl))) (Or.inr (hw _ (List.mem_of_getElem? (i := 37) rfl))) (by decide) (t := .long) (t' := .long) (by decide) (by decide)))
  exact finV X8 hx Bd.notSynchronized Bd.returns (hb hby d4_14) (by decide) (by decide) (by rw [e8]; exact ⟨rfl, N8, K8, F9, Fw8⟩)
theorem ef_rm7 (m : MethodId) (o0 : Addr) (o1 : Addr) : entryFrame m #[(.ref o0), (.ref o1)] 2 = mkF m 0 #[.val (.ref o0), .val (.ref o1)] [] := by first | (simp [entryFrame, mkF, argsToLocals, Value.category]; done) | rfl
def Q_rm7 (Z : State) (o0 : Addr) (o1 : Addr) (x0 y0 x1 y1 : Int64) (h0 : Heap) (n0 : Nat) (v : Option Value) (h : Heap) (L : List Loc) : Prop := ∃ b, v = some (.ref b) ∧ Fr n0 L ∧ Keep h0 h [] ∧ h0.size ≤ b ∧ Exa Z h b "com/example/clockwrap/clockwrap/store/TimerLog$Tally" ∧ Fld Z h b "com/example/clockwrap/clockwrap/store/TimerLog$Tally" "additionsLength" "J" (.long (x0 + x1)) ∧ Fld Z h b "com/example/clockwrap/clockwrap/store/TimerLog$Tally" "removedLength" "J" (.long (y0 + y1))
theorem d7_0 : decode prog_50_method_3_code 0 = .ok (.new 10, 3) := by decide +kernel
theorem d7_3 : decode prog_50_method_3_code 3 = .ok (.dup, 1) := by decide +kernel
theorem d7_4 : decode prog_50_method_3_code 4 = .ok (.aload_n 0, 1) := by decide +kernel
theorem d7_5 : decode prog_50_method_3_code 5 = .ok (.getfield 9, 3) := by decide +kernel
theorem d7_8 : decode prog_50_method_3_code 8 = .ok (.aload_n 1, 1) := by decide +kernel
theorem d7_9 : decode prog_50_method_3_code 9 = .ok (.getfield 9, 3) := by decide +kernel
theorem d7_12 : decode prog_50_method_3_code 12 = .ok (.ladd, 1) := by decide +kernel
theorem d7_13 : decode prog_50_method_3_code 13 = .ok (.aload_n 0, 1) := by decide +kernel
theorem d7_14 : decode prog_50_method_3_code 14 = .ok (.getfield 15, 3) := by decide +kernel
theorem d7_17 : decode prog_50_method_3_code 17 = .ok (.aload_n 1, 1) := by decide +kernel
theorem d7_18 : decode prog_50_method_3_code 18 = .ok (.getfield 15, 3) := by decide +kernel
theorem d7_21 : decode prog_50_method_3_code 21 = .ok (.ladd, 1) := by decide +kernel
theorem pd_1 : parseMethodDescriptor "(JJ)V" = some ⟨[.long, .long], none⟩ := by decide +kernel
theorem d7_22 : decode prog_50_method_3_code 22 = .ok (.invokespecial 50, 3) := by decide +kernel
theorem d7_25 : decode prog_50_method_3_code 25 = .ok (.areturn, 1) := by decide +kernel
set_option maxRecDepth 65536 in
set_option maxHeartbeats 40000000 in
theorem rm7 (l : Launch) (Z : State) (a0 : Array Value) (hw : ∀ d ∈ tables_1, d.before a0 Z = true) (ws : List Jvm.Cond) (o0 : Addr) (o1 : Addr) (x0 y0 x1 y1 : Int64) (h0 : Heap) (n0 : Nat) (Z0 : n0 ≤ h0.size) (F_o0_additionsLength : Fld Z h0 o0 "com/example/clockwrap/clockwrap/store/TimerLog$Tally" "additionsLength" "J" (.long x0)) (F_o0_removedLength : Fld Z h0 o0 "com/example/clockwrap/clockwrap/store/TimerLog$Tally" "removedLength" "J" (.long y0)) (F_o1_additionsLength : Fld Z h0 o1 "com/example/clockwrap/clockwrap/store/TimerLog$Tally" "additionsLength" "J" (.long x1)) (F_o1_removedLength : Fld Z h0 o1 "com/example/clockwrap/clockwrap/store/TimerLog$Tally" "removedLength" "J" (.long y1)) :
    MetFree l (⟨"com/example/clockwrap/clockwrap/store/TimerLog$Tally", "plus", "(Lcom/example/clockwrap/clockwrap/store/TimerLog$Tally;)Lcom/example/clockwrap/clockwrap/store/TimerLog$Tally;"⟩ : MethodName) (head1 (Jvm.Cond.code (⟨"com/example/clockwrap/clockwrap/store/TimerLog$Tally", "plus", "(Lcom/example/clockwrap/clockwrap/store/TimerLog$Tally;)Lcom/example/clockwrap/clockwrap/store/TimerLog$Tally;"⟩ : MethodName) prog_50_method_3_code 2 (some (.object "com/example/clockwrap/clockwrap/store/TimerLog$Tally")) :: ws) ({ frames := 3, cells := 1, slots := 2, locals := 60 } : Room)) (fun a U => a = #[(.ref o0), (.ref o1)] ∧ Z.Warmed39 U.vm ∧ U.heap = h0) (fun _ _ _ _ _ => True) (fun _ U o U' => ∃ v L, o = .returned v ∧ (Q_rm7 Z o0 o1 x0 y0 x1 y1 h0 n0) v U'.heap L ∧ FrameEnd U o U' L ({ frames := 3, cells := 1, slots := 2, locals := 60 } : Room).cells ({ frames := 3, cells := 1, slots := 2, locals := 60 } : Room).slots) := by
  refine MetFree.of_bodySF (plainFor_of_name pn_1) hisR ?_
  intro p e s m args below meth c s₁ Bd hml0 hP hK
  obtain ⟨rfl, hZ, hh⟩ := hP
  have hx := Bd.exec
  have hby := Bd.bytes
  have hml : c.maxLocals = 2 := hml0
  have hown : s.vm.findClass "com/example/clockwrap/clockwrap/store/TimerLog$Tally" = some m.cls := findClass_of_methodNamed Bd.named
  have hnm := (name_of_methodNamed Bd.named Bd.method).1
  have X0 : Stand p l e ({ frames := 3, cells := 1, slots := 2, locals := 60 } : Room) s m #[(.ref o0), (.ref o1)] below meth c s₁ [] 0 0 := Stand.of_body Bd
  have e0 : s₁.heap = h0 := by rw [← hh, Bd.state]; rfl
  have N0 := Fr.nil n0
  show OFin p e below (ORet (Q_rm7 Z o0 o1 x0 y0 x1 y1 h0 n0) s ({ frames := 3, cells := 1, slots := 2, locals := 60 } : Room).cells ({ frames := 3, cells := 1, slots := 2, locals := 60 } : Room).slots) (s₁.setTop (entryFrame m #[(.ref o0), (.ref o1)] 2))
  refine OFin.go (fun t k => castTop (ef_rm7 m o0 o1) k) ?_
  have K0 := Keep.refl h0 []
  show OFin p e below (ORet (Q_rm7 Z o0 o1 x0 y0 x1 y1 h0 n0) s ({ frames := 3, cells := 1, slots := 2, locals := 60 } : Room).cells ({ frames := 3, cells := 1, slots := 2, locals := 60 } : Room).slots) (s₁.setTop (mkF m 0 #[.val (.ref o0), .val (.ref o1)] []))
  obtain ⟨T1, h1, X1, e1, E1, A1, D1, -, st1⟩ := newO X0 hx hZ hown (hw _ (List.mem_of_getElem? (i := 48) rfl)) (hw _ (List.mem_of_getElem? (i := 24) rfl)) (hw _ (List.mem_of_getElem? (i := 10) rfl)) e0 (g := (mkF m 0 #[.val (.ref o0), .val (.ref o1)] [])) rfl (hb hby d7_0) (Nat.le_of_ble_eq_true rfl) (Nat.le_of_ble_eq_true rfl)
  obtain ⟨b1, g1⟩ : ∃ z, z = h0.size := ⟨_, rfl⟩
  rw [← g1] at A1 D1 st1
  have q2 : o0 ≠ b1 := up_lt F_o0_additionsLength.lt g1
  have q3 : o1 ≠ b1 := up_lt F_o1_additionsLength.lt g1
  have ge1 : n0 ≤ b1 := Nat.le_trans Z0 (Nat.le_of_eq g1.symm)
  have Z1 : n0 ≤ h1.size := Nat.le_trans Z0 E1.1
  have sz1 : h0.size ≤ b1 := Nat.le_trans K0.1 (Nat.le_of_eq g1.symm)
  have K1 := Keep.ext K0 E1
  have F1_additionsLength : Fld Z h1 b1 "com/example/clockwrap/clockwrap/store/TimerLog$Tally" "additionsLength" "J" (.long (0 : Int64)) := D1 (Or.inr (hw _ (List.mem_of_getElem? (i := 35) rfl))) (ty := .long) (by decide)
  have F1_removedLength : Fld Z h1 b1 "com/example/clockwrap/clockwrap/store/TimerLog$Tally" "removedLength" "J" (.long (0 : Int64)) := D1 (Or.inr (hw _ (List.mem_of_getElem? (i := 37) rfl))) (ty := .long) (by decide)
  refine OFin.go st1 ?_
  show OFin p e below _ (T1.setTop (mkF m 3 #[.val (.ref o0), .val (.ref o1)] [(.ref b1)]))
  have S4 : ∀ t, Steps p.tables e below (T1.setTop (mkF m 5 #[.val (.ref o0), .val (.ref o1)] [(.ref o0), (.ref b1), (.ref b1)])) t → Steps p.tables e below (T1.setTop (mkF m 3 #[.val (.ref o0), .val (.ref o1)] [(.ref b1)])) t := by
    intro t k
    show Steps p.tables e below (T1.setTop (mkF m 3 #[.val (.ref o0), .val (.ref o1)] [(.ref b1)])) t
    refine XS.dup X1.here hx rfl (hb hby d7_3) rfl rfl ?_
    show Steps p.tables e below (T1.setTop (mkF m 4 #[.val (.ref o0), .val (.ref o1)] [(.ref b1), (.ref b1)])) t
    refine XS.aloadN X1.here hx rfl (hb hby d7_4) rfl rfl ?_
    exact k
  refine OFin.go S4 ?_
  have F5 := F_o0_additionsLength.ext E1
  obtain ⟨T6, X6, e6, st6⟩ := getF X1 hx hZ hown (host := "") (Or.inl (hw _ (List.mem_of_getElem? (i := 34) rfl))) Via.refl e1 F5 (g := (mkF m 5 #[.val (.ref o0), .val (.ref o1)] [(.ref o0), (.ref b1), (.ref b1)])) rfl rfl (hb hby d7_5)
  refine OFin.go st6 ?_
  show OFin p e below _ (T6.setTop (mkF m 8 #[.val (.ref o0), .val (.ref o1)] [(.long x0), (.ref b1), (.ref b1)]))
  have S7 : ∀ t, Steps p.tables e below (T6.setTop (mkF m 9 #[.val (.ref o0), .val (.ref o1)] [(.ref o1), (.long x0), (.ref b1), (.ref b1)])) t → Steps p.tables e below (T6.setTop (mkF m 8 #[.val (.ref o0), .val (.ref o1)] [(.long x0), (.ref b1), (.ref b1)])) t := by
    intro t k
    show Steps p.tables e below (T6.setTop (mkF m 8 #[.val (.ref o0), .val (.ref o1)] [(.long x0), (.ref b1), (.ref b1)])) t
    refine XS.aloadN X6.here hx rfl (hb hby d7_8) rfl rfl ?_
    exact k
  refine OFin.go S7 ?_
  have F8 := F_o1_additionsLength.ext E1
  obtain ⟨T9, X9, e9, st9⟩ := getF X6 hx hZ hown (host := "") (Or.inl (hw _ (List.mem_of_getElem? (i := 34) rfl))) Via.refl e6 F8 (g := (mkF m 9 #[.val (.ref o0), .val (.ref o1)] [(.ref o1), (.long x0), (.ref b1), (.ref b1)])) rfl rfl (hb hby d7_9)
  refine OFin.go st9 ?_
  show OFin p e below _ (T9.setTop (mkF m 12 #[.val (.ref o0), .val (.ref o1)] [(.long x1), (.long x0), (.ref b1), (.ref b1)]))
  have S10 : ∀ t, Steps p.tables e below (T9.setTop (mkF m 14 #[.val (.ref o0), .val (.ref o1)] [(.ref o0), (.long (x0 + x1)), (.ref b1), (.ref b1)])) t → Steps p.tables e below (T9.setTop (mkF m 12 #[.val (.ref o0), .val (.ref o1)] [(.long x1), (.long x0), (.ref b1), (.ref b1)])) t := by
    intro t k
    show Steps p.tables e below (T9.setTop (mkF m 12 #[.val (.ref o0), .val (.ref o1)] [(.long x1), (.long x0), (.ref b1), (.ref b1)])) t
    refine XS.ladd X9.here hx rfl (hb hby d7_12) rfl ?_
    show Steps p.tables e below (T9.setTop (mkF m 13 #[.val (.ref o0), .val (.ref o1)] [(.long (x0 + x1)), (.ref b1), (.ref b1)])) t
    refine XS.aloadN X9.here hx rfl (hb hby d7_13) rfl rfl ?_
    exact k
  refine OFin.go S10 ?_
  have F11 := F_o0_removedLength.ext E1
  obtain ⟨T12, X12, e12, st12⟩ := getF X9 hx hZ hown (host := "") (Or.inl (hw _ (List.mem_of_getElem? (i := 36) rfl))) Via.refl e9 F11 (g := (mkF m 14 #[.val (.ref o0), .val (.ref o1)] [(.ref o0), (.long (x0 + x1)), (.ref b1), (.ref b1)])) rfl rfl (hb hby d7_14)
  refine OFin.go st12 ?_
  show OFin p e below _ (T12.setTop (mkF m 17 #[.val (.ref o0), .val (.ref o1)] [(.long y0), (.long (x0 + x1)), (.ref b1), (.ref b1)]))
  have S13 : ∀ t, Steps p.tables e below (T12.setTop (mkF m 18 #[.val (.ref o0), .val (.ref o1)] [(.ref o1), (.long y0), (.long (x0 + x1)), (.ref b1), (.ref b1)])) t → Steps p.tables e below (T12.setTop (mkF m 17 #[.val (.ref o0), .val (.ref o1)] [(.long y0), (.long (x0 + x1)), (.ref b1), (.ref b1)])) t := by
    intro t k
    show Steps p.tables e below (T12.setTop (mkF m 17 #[.val (.ref o0), .val (.ref o1)] [(.long y0), (.long (x0 + x1)), (.ref b1), (.ref b1)])) t
    refine XS.aloadN X12.here hx rfl (hb hby d7_17) rfl rfl ?_
    exact k
  refine OFin.go S13 ?_
  have F14 := F_o1_removedLength.ext E1
  obtain ⟨T15, X15, e15, st15⟩ := getF X12 hx hZ hown (host := "") (Or.inl (hw _ (List.mem_of_getElem? (i := 36) rfl))) Via.refl e12 F14 (g := (mkF m 18 #[.val (.ref o0), .val (.ref o1)] [(.ref o1), (.long y0), (.long (x0 + x1)), (.ref b1), (.ref b1)])) rfl rfl (hb hby d7_18)
  refine OFin.go st15 ?_
  show OFin p e below _ (T15.setTop (mkF m 21 #[.val (.ref o0), .val (.ref o1)] [(.long y1), (.long y0), (.long (x0 + x1)), (.ref b1), (.ref b1)]))
  have S16 : ∀ t, Steps p.tables e below (T15.setTop (mkF m 22 #[.val (.ref o0), .val (.ref o1)] [(.long (y0 + y1)), (.long (x0 + x1)), (.ref b1), (.ref b1)])) t → Steps p.tables e below (T15.setTop (mkF m 21 #[.val (.ref o0), .val (.ref o1)] [(.long y1), (.long y0), (.long (x0 + x1)), (.ref b1), (.ref b1)])) t := by
    intro t k
    show Steps p.tables e below (T15.setTop (mkF m 21 #[.val (.ref o0), .val (.ref o1)] [(.long y1), (.long y0), (.long (x0 + x1)), (.ref b1), (.ref b1)])) t
    refine XS.ladd X15.here hx rfl (hb hby d7_21) rfl ?_
    exact k
  refine OFin.go S16 ?_
  obtain ⟨_, T17, Lc17, X17, hQ17, st17⟩ := specQ X15 hx hZ (y := (⟨"com/example/clockwrap/clockwrap/store/TimerLog$Tally", "<init>", "(JJ)V"⟩ : MethodName)) rfl hown (hw _ (List.mem_of_getElem? (i := 49) rfl)) (hw _ (List.mem_of_getElem? (i := 26) rfl)) (hw _ (List.mem_of_getElem? (i := 10) rfl)) (hw _ (List.mem_of_getElem? (i := 27) rfl)) (by decide) (a := b1) (argsL := [(.long (x0 + x1)), (.long (y0 + y1))]) (rest := [(.ref b1)]) (rm4 l Z a0 hw [] b1 (x0 + x1) (y0 + y1) h1 n0 Z1 ge1 A1 F1_additionsLength F1_removedLength) (W := 1) (by decide) (by decide) e15 (g := (mkF m 22 #[.val (.ref o0), .val (.ref o1)] [(.long (y0 + y1)), (.long (x0 + x1)), (.ref b1), (.ref b1)])) rfl (by rw [hml]; rfl) (lenOf pd_1 rfl) rfl (by show 2 * 0 + _ ≤ _; exact Nat.le_of_eq rfl) (hb hby d7_22) (Nat.le_of_ble_eq_true rfl) (Nat.le_of_ble_eq_true rfl)
  obtain ⟨rfl, N17q, K17q, F17_b1_additionsLength, F17_b1_removedLength⟩ := hQ17
  have Z17 : n0 ≤ T17.heap.size := Nat.le_trans Z1 K17q.1
  have K17 := Keep.trans K1 K17q (allS (Or.inr sz1) all0)
  have N17 := Fr.app N0 N17q
  refine OFin.go st17 ?_
  show OFin p e below _ (T17.setTop (mkF m 25 #[.val (.ref o0), .val (.ref o1)] [(.ref b1)]))
  have F18 := A1.keep K17q
  exact finA X17 hx Bd.notSynchronized rfl Bd.returns rfl (hb hby d7_25) (by decide) (by decide) (by exact ⟨b1, rfl, N17, K17, sz1, F18, F17_b1_additionsLength, F17_b1_removedLength⟩)
theorem ef_rm10 (m : MethodId) (o0 : Addr) (o1 : Addr) : entryFrame m #[(.ref o0), (.ref o1)] 2 = mkF m 0 #[.val (.ref o0), .val (.ref o1)] [] := by first | (simp [entryFrame, mkF, argsToLocals, Value.category]; done) | rfl
def Q_rm10 (Z : State) (o0 : Addr) (o1 : Addr) (x0 y0 x1 y1 : Int64) (h0 : Heap) (n0 : Nat) (v : Option Value) (h : Heap) (L : List Loc) : Prop := ∃ b, v = some (.ref b) ∧ Fr n0 L ∧ Keep h0 h [] ∧ h0.size ≤ b ∧ Exa Z h b "com/example/clockwrap/clockwrap/store/TimerLog$Tally" ∧ Fld Z h b "com/example/clockwrap/clockwrap/store/TimerLog$Tally" "additionsLength" "J" (.long (x0 - x1)) ∧ Fld Z h b "com/example/clockwrap/clockwrap/store/TimerLog$Tally" "removedLength" "J" (.long (y0 - y1))
theorem d10_0 : decode prog_50_method_4_code 0 = .ok (.new 10, 3) := by decide +kernel
theorem d10_3 : decode prog_50_method_4_code 3 = .ok (.dup, 1) := by decide +kernel
theorem d10_4 : decode prog_50_method_4_code 4 = .ok (.aload_n 0, 1) := by decide +kernel
theorem d10_5 : decode prog_50_method_4_code 5 = .ok (.getfield 9, 3) := by decide +kernel
theorem d10_8 : decode prog_50_method_4_code 8 = .ok (.aload_n 1, 1) := by decide +kernel
theorem d10_9 : decode prog_50_method_4_code 9 = .ok (.getfield 9, 3) := by decide +kernel
theorem d10_12 : decode prog_50_method_4_code 12 = .ok (.lsub, 1) := by decide +kernel
theorem d10_13 : decode prog_50_method_4_code 13 = .ok (.aload_n 0, 1) := by decide +kernel
theorem d10_14 : decode prog_50_method_4_code 14 = .ok (.getfield 15, 3) := by decide +kernel
theorem d10_17 : decode prog_50_method_4_code 17 = .ok (.aload_n 1, 1) := by decide +kernel
theorem d10_18 : decode prog_50_method_4_code 18 = .ok (.getfield 15, 3) := by decide +kernel
theorem d10_21 : decode prog_50_method_4_code 21 = .ok (.lsub, 1) := by decide +kernel
theorem d10_22 : decode prog_50_method_4_code 22 = .ok (.invokespecial 50, 3) := by decide +kernel
theorem d10_25 : decode prog_50_method_4_code 25 = .ok (.areturn, 1) := by decide +kernel
set_option maxRecDepth 65536 in
set_option maxHeartbeats 40000000 in
theorem rm10 (l : Launch) (Z : State) (a0 : Array Value) (hw : ∀ d ∈ tables_1, d.before a0 Z = true) (ws : List Jvm.Cond) (o0 : Addr) (o1 : Addr) (x0 y0 x1 y1 : Int64) (h0 : Heap) (n0 : Nat) (Z0 : n0 ≤ h0.size) (F_o0_additionsLength : Fld Z h0 o0 "com/example/clockwrap/clockwrap/store/TimerLog$Tally" "additionsLength" "J" (.long x0)) (F_o0_removedLength : Fld Z h0 o0 "com/example/clockwrap/clockwrap/store/TimerLog$Tally" "removedLength" "J" (.long y0)) (F_o1_additionsLength : Fld Z h0 o1 "com/example/clockwrap/clockwrap/store/TimerLog$Tally" "additionsLength" "J" (.long x1)) (F_o1_removedLength : Fld Z h0 o1 "com/example/clockwrap/clockwrap/store/TimerLog$Tally" "removedLength" "J" (.long y1)) :
    MetFree l (⟨"com/example/clockwrap/clockwrap/store/TimerLog$Tally", "minus", "(Lcom/example/clockwrap/clockwrap/store/TimerLog$Tally;)Lcom/example/clockwrap/clockwrap/store/TimerLog$Tally;"⟩ : MethodName) (head1 (Jvm.Cond.code (⟨"com/example/clockwrap/clockwrap/store/TimerLog$Tally", "minus", "(Lcom/example/clockwrap/clockwrap/store/TimerLog$Tally;)Lcom/example/clockwrap/clockwrap/store/TimerLog$Tally;"⟩ : MethodName) prog_50_method_4_code 2 (some (.object "com/example/clockwrap/clockwrap/store/TimerLog$Tally")) :: ws) ({ frames := 3, cells := 1, slots := 2, locals := 60 } : Room)) (fun a U => a = #[(.ref o0), (.ref o1)] ∧ Z.Warmed39 U.vm ∧ U.heap = h0) (fun _ _ _ _ _ => True) (fun _ U o U' => ∃ v L, o = .returned v ∧ (Q_rm10 Z o0 o1 x0 y0 x1 y1 h0 n0) v U'.heap L ∧ FrameEnd U o U' L ({ frames := 3, cells := 1, slots := 2, locals := 60 } : Room).cells ({ frames := 3, cells := 1, slots := 2, locals := 60 } : Room).slots) := by
  refine MetFree.of_bodySF (plainFor_of_name pn_1) hisR ?_
  intro p e s m args below meth c s₁ Bd hml0 hP hK
  obtain ⟨rfl, hZ, hh⟩ := hP
  have hx := Bd.exec
  have hby := Bd.bytes
  have hml : c.maxLocals = 2 := hml0
  have hown : s.vm.findClass "com/example/clockwrap/clockwrap/store/TimerLog$Tally" = some m.cls := findClass_of_methodNamed Bd.named
  have hnm := (name_of_methodNamed Bd.named Bd.method).1
  have X0 : Stand p l e ({ frames := 3, cells := 1, slots := 2, locals := 60 } : Room) s m #[(.ref o0), (.ref o1)] below meth c s₁ [] 0 0 := Stand.of_body Bd
  have e0 : s₁.heap = h0 := by rw [← hh, Bd.state]; rfl
  have N0 := Fr.nil n0
  show OFin p e below (ORet (Q_rm10 Z o0 o1 x0 y0 x1 y1 h0 n0) s ({ frames := 3, cells := 1, slots := 2, locals := 60 } : Room).cells ({ frames := 3, cells := 1, slots := 2, locals := 60 } : Room).slots) (s₁.setTop (entryFrame m #[(.ref o0), (.ref o1)] 2))
  refine OFin.go (fun t k => castTop (ef_rm10 m o0 o1) k) ?_
  have K0 := Keep.refl h0 []
  show OFin p e below (ORet (Q_rm10 Z o0 o1 x0 y0 x1 y1 h0 n0) s ({ frames := 3, cells := 1, slots := 2, locals := 60 } : Room).cells ({ frames := 3, cells := 1, slots := 2, locals := 60 } : Room).slots) (s₁.setTop (mkF m 0 #[.val (.ref o0), .val (.ref o1)] []))
  obtain ⟨T1, h1, X1, e1, E1, A1, D1, -, st1⟩ := newO X0 hx hZ hown (hw _ (List.mem_of_getElem? (i := 48) rfl)) (hw _ (List.mem_of_getElem? (i := 24) rfl)) (hw _ (List.mem_of_getElem? (i := 10) rfl)) e0 (g := (mkF m 0 #[.val (.ref o0), .val (.ref o1)] [])) rfl (hb hby d10_0) (Nat.le_of_ble_eq_true rfl) (Nat.le_of_ble_eq_true rfl)
  obtain ⟨b1, g1⟩ : ∃ z, z = h0.size := ⟨_, rfl⟩
  rw [← g1] at A1 D1 st1
  have q2 : o0 ≠ b1 := up_lt F_o0_additionsLength.lt g1
  have q3 : o1 ≠ b1 := up_lt F_o1_additionsLength.lt g1
  have ge1 : n0 ≤ b1 := Nat.le_trans Z0 (Nat.le_of_eq g1.symm)
  have Z1 : n0 ≤ h1.size := Nat.le_trans Z0 E1.1
  have sz1 : h0.size ≤ b1 := Nat.le_trans K0.1 (Nat.le_of_eq g1.symm)
  have K1 := Keep.ext K0 E1
  have F1_additionsLength : Fld Z h1 b1 "com/example/clockwrap/clockwrap/store/TimerLog$Tally" "additionsLength" "J" (.long (0 : Int64)) := D1 (Or.inr (hw _ (List.mem_of_getElem? (i := 35) rfl))) (ty := .long) (by decide)
  have F1_removedLength : Fld Z h1 b1 "com/example/clockwrap/clockwrap/store/TimerLog$Tally" "removedLength" "J" (.long (0 : Int64)) := D1 (Or.inr (hw _ (List.mem_of_getElem? (i := 37) rfl))) (ty := .long) (by decide)
  refine OFin.go st1 ?_
  show OFin p e below _ (T1.setTop (mkF m 3 #[.val (.ref o0), .val (.ref o1)] [(.ref b1)]))
  have S4 : ∀ t, Steps p.tables e below (T1.setTop (mkF m 5 #[.val (.ref o0), .val (.ref o1)] [(.ref o0), (.ref b1), (.ref b1)])) t → Steps p.tables e below (T1.setTop (mkF m 3 #[.val (.ref o0), .val (.ref o1)] [(.ref b1)])) t := by
    intro t k
    show Steps p.tables e below (T1.setTop (mkF m 3 #[.val (.ref o0), .val (.ref o1)] [(.ref b1)])) t
    refine XS.dup X1.here hx rfl (hb hby d10_3) rfl rfl ?_
    show Steps p.tables e below (T1.setTop (mkF m 4 #[.val (.ref o0), .val (.ref o1)] [(.ref b1), (.ref b1)])) t
    refine XS.aloadN X1.here hx rfl (hb hby d10_4) rfl rfl ?_
    exact k
  refine OFin.go S4 ?_
  have F5 := F_o0_additionsLength.ext E1
  obtain ⟨T6, X6, e6, st6⟩ := getF X1 hx hZ hown (host := "") (Or.inl (hw _ (List.mem_of_getElem? (i := 34) rfl))) Via.refl e1 F5 (g := (mkF m 5 #[.val (.ref o0), .val (.ref o1)] [(.ref o0), (.ref b1), (.ref b1)])) rfl rfl (hb hby d10_5)
  refine OFin.go st6 ?_
  show OFin p e below _ (T6.setTop (mkF m 8 #[.val (.ref o0), .val (.ref o1)] [(.long x0), (.ref b1), (.ref b1)]))
  have S7 : ∀ t, Steps p.tables e below (T6.setTop (mkF m 9 #[.val (.ref o0), .val (.ref o1)] [(.ref o1), (.long x0), (.ref b1), (.ref b1)])) t → Steps p.tables e below (T6.setTop (mkF m 8 #[.val (.ref o0), .val (.ref o1)] [(.long x0), (.ref b1), (.ref b1)])) t := by
    intro t k
    show Steps p.tables e below (T6.setTop (mkF m 8 #[.val (.ref o0), .val (.ref o1)] [(.long x0), (.ref b1), (.ref b1)])) t
    refine XS.aloadN X6.here hx rfl (hb hby d10_8) rfl rfl ?_
    exact k
  refine OFin.go S7 ?_
  have F8 := F_o1_additionsLength.ext E1
  obtain ⟨T9, X9, e9, st9⟩ := getF X6 hx hZ hown (host := "") (Or.inl (hw _ (List.mem_of_getElem? (i := 34) rfl))) Via.refl e6 F8 (g := (mkF m 9 #[.val (.ref o0), .val (.ref o1)] [(.ref o1), (.long x0), (.ref b1), (.ref b1)])) rfl rfl (hb hby d10_9)
  refine OFin.go st9 ?_
  show OFin p e below _ (T9.setTop (mkF m 12 #[.val (.ref o0), .val (.ref o1)] [(.long x1), (.long x0), (.ref b1), (.ref b1)]))
  have S10 : ∀ t, Steps p.tables e below (T9.setTop (mkF m 14 #[.val (.ref o0), .val (.ref o1)] [(.ref o0), (.long (x0 - x1)), (.ref b1), (.ref b1)])) t → Steps p.tables e below (T9.setTop (mkF m 12 #[.val (.ref o0), .val (.ref o1)] [(.long x1), (.long x0), (.ref b1), (.ref b1)])) t := by
    intro t k
    show Steps p.tables e below (T9.setTop (mkF m 12 #[.val (.ref o0), .val (.ref o1)] [(.long x1), (.long x0), (.ref b1), (.ref b1)])) t
    refine XS.lsub X9.here hx rfl (hb hby d10_12) rfl ?_
    show Steps p.tables e below (T9.setTop (mkF m 13 #[.val (.ref o0), .val (.ref o1)] [(.long (x0 - x1)), (.ref b1), (.ref b1)])) t
    refine XS.aloadN X9.here hx rfl (hb hby d10_13) rfl rfl ?_
    exact k
  refine OFin.go S10 ?_
  have F11 := F_o0_removedLength.ext E1
  obtain ⟨T12, X12, e12, st12⟩ := getF X9 hx hZ hown (host := "") (Or.inl (hw _ (List.mem_of_getElem? (i := 36) rfl))) Via.refl e9 F11 (g := (mkF m 14 #[.val (.ref o0), .val (.ref o1)] [(.ref o0), (.long (x0 - x1)), (.ref b1), (.ref b1)])) rfl rfl (hb hby d10_14)
  refine OFin.go st12 ?_
  show OFin p e below _ (T12.setTop (mkF m 17 #[.val (.ref o0), .val (.ref o1)] [(.long y0), (.long (x0 - x1)), (.ref b1), (.ref b1)]))
  have S13 : ∀ t, Steps p.tables e below (T12.setTop (mkF m 18 #[.val (.ref o0), .val (.ref o1)] [(.ref o1), (.long y0), (.long (x0 - x1)), (.ref b1), (.ref b1)])) t → Steps p.tables e below (T12.setTop (mkF m 17 #[.val (.ref o0), .val (.ref o1)] [(.long y0), (.long (x0 - x1)), (.ref b1), (.ref b1)])) t := by
    intro t k
    show Steps p.tables e below (T12.setTop (mkF m 17 #[.val (.ref o0), .val (.ref o1)] [(.long y0), (.long (x0 - x1)), (.ref b1), (.ref b1)])) t
    refine XS.aloadN X12.here hx rfl (hb hby d10_17) rfl rfl ?_
    exact k
  refine OFin.go S13 ?_
  have F14 := F_o1_removedLength.ext E1
  obtain ⟨T15, X15, e15, st15⟩ := getF X12 hx hZ hown (host := "") (Or.inl (hw _ (List.mem_of_getElem? (i := 36) rfl))) Via.refl e12 F14 (g := (mkF m 18 #[.val (.ref o0), .val (.ref o1)] [(.ref o1), (.long y0), (.long (x0 - x1)), (.ref b1), (.ref b1)])) rfl rfl (hb hby d10_18)
  refine OFin.go st15 ?_
  show OFin p e below _ (T15.setTop (mkF m 21 #[.val (.ref o0), .val (.ref o1)] [(.long y1), (.long y0), (.long (x0 - x1)), (.ref b1), (.ref b1)]))
  have S16 : ∀ t, Steps p.tables e below (T15.setTop (mkF m 22 #[.val (.ref o0), .val (.ref o1)] [(.long (y0 - y1)), (.long (x0 - x1)), (.ref b1), (.ref b1)])) t → Steps p.tables e below (T15.setTop (mkF m 21 #[.val (.ref o0), .val (.ref o1)] [(.long y1), (.long y0), (.long (x0 - x1)), (.ref b1), (.ref b1)])) t := by
    intro t k
    show Steps p.tables e below (T15.setTop (mkF m 21 #[.val (.ref o0), .val (.ref o1)] [(.long y1), (.long y0), (.long (x0 - x1)), (.ref b1), (.ref b1)])) t
    refine XS.lsub X15.here hx rfl (hb hby d10_21) rfl ?_
    exact k
  refine OFin.go S16 ?_
  obtain ⟨_, T17, Lc17, X17, hQ17, st17⟩ := specQ X15 hx hZ (y := (⟨"com/example/clockwrap/clockwrap/store/TimerLog$Tally", "<init>", "(JJ)V"⟩ : MethodName)) rfl hown (hw _ (List.mem_of_getElem? (i := 49) rfl)) (hw _ (List.mem_of_getElem? (i := 26) rfl)) (hw _ (List.mem_of_getElem? (i := 10) rfl)) (hw _ (List.mem_of_getElem? (i := 27) rfl)) (by decide) (a := b1) (argsL := [(.long (x0 - x1)), (.long (y0 - y1))]) (rest := [(.ref b1)]) (rm4 l Z a0 hw [] b1 (x0 - x1) (y0 - y1) h1 n0 Z1 ge1 A1 F1_additionsLength F1_removedLength) (W := 1) (by decide) (by decide) e15 (g := (mkF m 22 #[.val (.ref o0), .val (.ref o1)] [(.long (y0 - y1)), (.long (x0 - x1)), (.ref b1), (.ref b1)])) rfl (by rw [hml]; rfl) (lenOf pd_1 rfl) rfl (by show 2 * 0 + _ ≤ _; exact Nat.le_of_eq rfl) (hb hby d10_22) (Nat.le_of_ble_eq_true rfl) (Nat.le_of_ble_eq_true rfl)
  obtain ⟨rfl, N17q, K17q, F17_b1_additionsLength, F17_b1_removedLength⟩ := hQ17
  have Z17 : n0 ≤ T17.heap.size := Nat.le_trans Z1 K17q.1
  have K17 := Keep.trans K1 K17q (allS (Or.inr sz1) all0)
  have N17 := Fr.app N0 N17q
  refine OFin.go st17 ?_
  show OFin p e below _ (T17.setTop (mkF m 25 #[.val (.ref o0), .val (.ref o1)] [(.ref b1)]))
  have F18 := A1.keep K17q
  exact finA X17 hx Bd.notSynchronized rfl Bd.returns rfl (hb hby d10_25) (by decide) (by decide) (by exact ⟨b1, rfl, N17, K17, sz1, F18, F17_b1_additionsLength, F17_b1_removedLength⟩)
theorem ef_rm11 (m : MethodId) (o0 : Addr) : entryFrame m #[(.ref o0)] 1 = mkF m 0 #[.val (.ref o0)] [] := by first | (simp [entryFrame, mkF, argsToLocals, Value.category]; done) | rfl
def Q_rm11 (Z : State) (o0 : Addr) (x : Int64) (h0 : Heap) (n0 : Nat) (v : Option Value) (h : Heap) (L : List Loc) : Prop := v = some (.long x) ∧ Fr n0 L ∧ h = h0
theorem d11_0 : decode prog_50_method_8_code 0 = .ok (.aload_n 0, 1) := by decide +kernel
theorem d11_1 : decode prog_50_method_8_code 1 = .ok (.getfield 9, 3) := by decide +kernel
theorem d11_4 : decode prog_50_method_8_code 4 = .ok (.lreturn, 1) := by decide +kernel
set_option maxRecDepth 65536 in
set_option maxHeartbeats 40000000 in
theorem rm11 (l : Launch) (Z : State) (a0 : Array Value) (hw : ∀ d ∈ tables_1, d.before a0 Z = true) (ws : List Jvm.Cond) (o0 : Addr) (x : Int64) (h0 : Heap) (n0 : Nat) (Z0 : n0 ≤ h0.size) (F_o0_additionsLength : Fld Z h0 o0 "com/example/clockwrap/clockwrap/store/TimerLog$Tally" "additionsLength" "J" (.long x)) :
    MetFree l (⟨"com/example/clockwrap/clockwrap/store/TimerLog$Tally", "additionsLength", "()J"⟩ : MethodName) (head1 (Jvm.Cond.code (⟨"com/example/clockwrap/clockwrap/store/TimerLog$Tally", "additionsLength", "()J"⟩ : MethodName) prog_50_method_8_code 1 (some .long) :: ws) ({ frames := 0, cells := 0, slots := 0, locals := 0 } : Room)) (fun a U => a = #[(.ref o0)] ∧ Z.Warmed39 U.vm ∧ U.heap = h0) (fun _ _ _ _ _ => True) (fun _ U o U' => ∃ v L, o = .returned v ∧ (Q_rm11 Z o0 x h0 n0) v U'.heap L ∧ FrameEnd U o U' L ({ frames := 0, cells := 0, slots := 0, locals := 0 } : Room).cells ({ frames := 0, cells := 0, slots := 0, locals := 0 } : Room).slots) := by
  refine MetFree.of_bodySF (plainFor_of_name pn_1) hisR ?_
  intro p e s m args below meth c s₁ Bd hml0 hP hK
  obtain ⟨rfl, hZ, hh⟩ := hP
  have hx := Bd.exec
  have hby := Bd.bytes
  have hml : c.maxLocals = 1 := hml0
  have hown : s.vm.findClass "com/example/clockwrap/clockwrap/store/TimerLog$Tally" = some m.cls := findClass_of_methodNamed Bd.named
  have hnm := (name_of_methodNamed Bd.named Bd.method).1
  have X0 : Stand p l e ({ frames := 0, cells := 0, slots := 0, locals := 0 } : Room) s m #[(.ref o0)] below meth c s₁ [] 0 0 := Stand.of_body Bd
  have e0 : s₁.heap = h0 := by rw [← hh, Bd.state]; rfl
  have N0 := Fr.nil n0
  show OFin p e below (ORet (Q_rm11 Z o0 x h0 n0) s ({ frames := 0, cells := 0, slots := 0, locals := 0 } : Room).cells ({ frames := 0, cells := 0, slots := 0, locals := 0 } : Room).slots) (s₁.setTop (entryFrame m #[(.ref o0)] 1))
  refine OFin.go (fun t k => castTop (ef_rm11 m o0) k) ?_
  show OFin p e below (ORet (Q_rm11 Z o0 x h0 n0) s ({ frames := 0, cells := 0, slots := 0, locals := 0 } : Room).cells ({ frames := 0, cells := 0, slots := 0, locals := 0 } : Room).slots) (s₁.setTop (mkF m 0 #[.val (.ref o0)] []))
  have S1 : ∀ t, Steps p.tables e below (s₁.setTop (mkF m 1 #[.val (.ref o0)] [(.ref o0)])) t → Steps p.tables e below (s₁.setTop (mkF m 0 #[.val (.ref o0)] [])) t := by
    intro t k
    show Steps p.tables e below (s₁.setTop (mkF m 0 #[.val (.ref o0)] [])) t
    refine XS.aloadN X0.here hx rfl (hb hby d11_0) rfl rfl ?_
    exact k
  refine OFin.go S1 ?_
  obtain ⟨T2, X2, e2, st2⟩ := getF X0 hx hZ hown (host := "") (Or.inl (hw _ (List.mem_of_getElem? (i := 34) rfl))) Via.refl e0 F_o0_additionsLength (g := (mkF m 1 #[.val (.ref o0)] [(.ref o0)])) rfl rfl (hb hby d11_1)
  refine OFin.go st2 ?_
  show OFin p e below _ (T2.setTop (mkF m 4 #[.val (.ref o0)] [(.long x)]))
  exact finJ X2 hx Bd.notSynchronized Bd.returns (hb hby d11_4) (by decide) (by decide) (⟨rfl, N0, e2⟩)
theorem ef_rm12 (m : MethodId) (o0 : Addr) : entryFrame m #[(.ref o0)] 1 = mkF m 0 #[.val (.ref o0)] [] := by first | (simp [entryFrame, mkF, argsToLocals, Value.category]; done) | rfl
def Q_rm12 (Z : State) (o0 : Addr) (x : Int64) (h0 : Heap) (n0 : Nat) (v : Option Value) (h : Heap) (L : List Loc) : Prop := v = some (.long x) ∧ Fr n0 L ∧ h = h0
theorem d12_0 : decode prog_50_method_9_code 0 = .ok (.aload_n 0, 1) := by decide +kernel
theorem d12_1 : decode prog_50_method_9_code 1 = .ok (.getfield 15, 3) := by decide +kernel
theorem d12_4 : decode prog_50_method_9_code 4 = .ok (.lreturn, 1) := by decide +kernel
set_option maxRecDepth 65536 in
set_option maxHeartbeats 40000000 in
theorem rm12 (l : Launch) (Z : State) (a0 : Array Value) (hw : ∀ d ∈ tables_1, d.before a0 Z = true) (ws : List Jvm.Cond) (o0 : Addr) (x : Int64) (h0 : Heap) (n0 : Nat) (Z0 : n0 ≤ h0.size) (F_o0_removedLength : Fld Z h0 o0 "com/example/clockwrap/clockwrap/store/TimerLog$Tally" "removedLength" "J" (.long x)) :
    MetFree l (⟨"com/example/clockwrap/clockwrap/store/TimerLog$Tally", "removedLength", "()J"⟩ : MethodName) (head1 (Jvm.Cond.code (⟨"com/example/clockwrap/clockwrap/store/TimerLog$Tally", "removedLength", "()J"⟩ : MethodName) prog_50_method_9_code 1 (some .long) :: ws) ({ frames := 0, cells := 0, slots := 0, locals := 0 } : Room)) (fun a U => a = #[(.ref o0)] ∧ Z.Warmed39 U.vm ∧ U.heap = h0) (fun _ _ _ _ _ => True) (fun _ U o U' => ∃ v L, o = .returned v ∧ (Q_rm12 Z o0 x h0 n0) v U'.heap L ∧ FrameEnd U o U' L ({ frames := 0, cells := 0, slots := 0, locals := 0 } : Room).cells ({ frames := 0, cells := 0, slots := 0, locals := 0 } : Room).slots) := by
  refine MetFree.of_bodySF (plainFor_of_name pn_1) hisR ?_
  intro p e s m args below meth c s₁ Bd hml0 hP hK
  obtain ⟨rfl, hZ, hh⟩ := hP
  have hx := Bd.exec
  have hby := Bd.bytes
  have hml : c.maxLocals = 1 := hml0
  have hown : s.vm.findClass "com/example/clockwrap/clockwrap/store/TimerLog$Tally" = some m.cls := findClass_of_methodNamed Bd.named
  have hnm := (name_of_methodNamed Bd.named Bd.method).1
  have X0 : Stand p l e ({ frames := 0, cells := 0, slots := 0, locals := 0 } : Room) s m #[(.ref o0)] below meth c s₁ [] 0 0 := Stand.of_body Bd
  have e0 : s₁.heap = h0 := by rw [← hh, Bd.state]; rfl
  have N0 := Fr.nil n0
  show OFin p e below (ORet (Q_rm12 Z o0 x h0 n0) s ({ frames := 0, cells := 0, slots := 0, locals := 0 } : Room).cells ({ frames := 0, cells := 0, slots := 0, locals := 0 } : Room).slots) (s₁.setTop (entryFrame m #[(.ref o0)] 1))
  refine OFin.go (fun t k => castTop (ef_rm12 m o0) k) ?_
  show OFin p e below (ORet (Q_rm12 Z o0 x h0 n0) s ({ frames := 0, cells := 0, slots := 0, locals := 0 } : Room).cells ({ frames := 0, cells := 0, slots := 0, locals := 0 } : Room).slots) (s₁.setTop (mkF m 0 #[.val (.ref o0)] []))
  have S1 : ∀ t, Steps p.tables e below (s₁.setTop (mkF m 1 #[.val (.ref o0)] [(.ref o0)])) t → Steps p.tables e below (s₁.setTop (mkF m 0 #[.val (.ref o0)] [])) t := by
    intro t k
    show Steps p.tables e below (s₁.setTop (mkF m 0 #[.val (.ref o0)] [])) t
    refine XS.aloadN X0.here hx rfl (hb hby d12_0) rfl rfl ?_
    exact k
  refine OFin.go S1 ?_
  obtain ⟨T2, X2, e2, st2⟩ := getF X0 hx hZ hown (host := "") (Or.inl (hw _ (List.mem_of_getElem? (i := 36) rfl))) Via.refl e0 F_o0_removedLength (g := (mkF m 1 #[.val (.ref o0)] [(.ref o0)])) rfl rfl (hb hby d12_1)
  refine OFin.go st2 ?_
  show OFin p e below _ (T2.setTop (mkF m 4 #[.val (.ref o0)] [(.long x)]))
  exact finJ X2 hx Bd.notSynchronized Bd.returns (hb hby d12_4) (by decide) (by decide) (⟨rfl, N0, e2⟩)
theorem ef_rm3 (m : MethodId) (o0 : Addr) (z : Int64) (o2 : Addr) : entryFrame m #[(.ref o0), (.long z), (.ref o2)] 4 = mkF m 0 #[.val (.ref o0), .val (.long z), .second, .val (.ref o2)] [] := by first | (simp [entryFrame, mkF, argsToLocals, Value.category]; done) | rfl
theorem pn_2 : plainName "com/example/clockwrap/clockwrap/store/GarbageEstimate" = true := by first | (simp [plainName, overriddenIn]; done) | decide +kernel
def Q_rm3 (Z : State) (o0 : Addr) (z : Int64) (o2 : Addr) (z0 : Int64) (ap rd : Addr) (h0 : Heap) (n0 : Nat) (v : Option Value) (h : Heap) (L : List Loc) : Prop := v = none ∧ Fr n0 L ∧ Keep h0 h [o0] ∧ Fld Z h o0 "com/example/clockwrap/clockwrap/store/GarbageEstimate" "compactedLengthRead" "J" (.long z) ∧ Fld Z h o0 "com/example/clockwrap/clockwrap/store/GarbageEstimate" "appended" "Lcom/example/clockwrap/clockwrap/store/TimerLog$Tally;" (.ref ap) ∧ Fld Z h o0 "com/example/clockwrap/clockwrap/store/GarbageEstimate" "read" "Lcom/example/clockwrap/clockwrap/store/TimerLog$Tally;" (.ref o2)
theorem d3_0 : decode prog_29_method_7_code 0 = .ok (.aload_n 0, 1) := by decide +kernel
theorem d3_1 : decode prog_29_method_7_code 1 = .ok (.lload_n 1, 1) := by decide +kernel
theorem d3_2 : decode prog_29_method_7_code 2 = .ok (.putfield 28, 3) := by decide +kernel
theorem d3_5 : decode prog_29_method_7_code 5 = .ok (.aload_n 0, 1) := by decide +kernel
theorem d3_6 : decode prog_29_method_7_code 6 = .ok (.aload_n 3, 1) := by decide +kernel
theorem d3_7 : decode prog_29_method_7_code 7 = .ok (.putfield 18, 3) := by decide +kernel
theorem d3_10 : decode prog_29_method_7_code 10 = .ok (.return_, 1) := by decide +kernel
set_option maxRecDepth 65536 in
set_option maxHeartbeats 40000000 in
theorem rm3 (l : Launch) (Z : State) (a0 : Array Value) (hw : ∀ d ∈ tables_1, d.before a0 Z = true) (ws : List Jvm.Cond) (o0 : Addr) (z : Int64) (o2 : Addr) (z0 : Int64) (ap rd : Addr) (h0 : Heap) (n0 : Nat) (Z0 : n0 ≤ h0.size) (ge0 : n0 ≤ o0) (E_o0 : Exa Z h0 o0 "com/example/clockwrap/clockwrap/store/GarbageEstimate") (F_o0_compactedLengthRead : Fld Z h0 o0 "com/example/clockwrap/clockwrap/store/GarbageEstimate" "compactedLengthRead" "J" (.long z0)) (F_o0_appended : Fld Z h0 o0 "com/example/clockwrap/clockwrap/store/GarbageEstimate" "appended" "Lcom/example/clockwrap/clockwrap/store/TimerLog$Tally;" (.ref ap)) (F_o0_read : Fld Z h0 o0 "com/example/clockwrap/clockwrap/store/GarbageEstimate" "read" "Lcom/example/clockwrap/clockwrap/store/TimerLog$Tally;" (.ref rd)) :
    MetFree l (⟨"com/example/clockwrap/clockwrap/store/GarbageEstimate", "read", "(JLcom/example/clockwrap/clockwrap/store/TimerLog$Tally;)V"⟩ : MethodName) (head1 (Jvm.Cond.code (⟨"com/example/clockwrap/clockwrap/store/GarbageEstimate", "read", "(JLcom/example/clockwrap/clockwrap/store/TimerLog$Tally;)V"⟩ : MethodName) prog_29_method_7_code 4 none :: ws) ({ frames := 0, cells := 0, slots := 0, locals := 0 } : Room)) (fun a U => a = #[(.ref o0), (.long z), (.ref o2)] ∧ Z.Warmed39 U.vm ∧ U.heap = h0) (fun _ _ _ _ _ => True) (fun _ U o U' => ∃ v L, o = .returned v ∧ (Q_rm3 Z o0 z o2 z0 ap rd h0 n0) v U'.heap L ∧ FrameEnd U o U' L ({ frames := 0, cells := 0, slots := 0, locals := 0 } : Room).cells ({ frames := 0, cells := 0, slots := 0, locals := 0 } : Room).slots) := by
  refine MetFree.of_bodySF (plainFor_of_name pn_2) hisR ?_
  intro p e s m args below meth c s₁ Bd hml0 hP hK
  obtain ⟨rfl, hZ, hh⟩ := hP
  have hx := Bd.exec
  have hby := Bd.bytes
  have hml : c.maxLocals = 4 := hml0
  have hown : s.vm.findClass "com/example/clockwrap/clockwrap/store/GarbageEstimate" = some m.cls := findClass_of_methodNamed Bd.named
  have hnm := (name_of_methodNamed Bd.named Bd.method).1
  have X0 : Stand p l e ({ frames := 0, cells := 0, slots := 0, locals := 0 } : Room) s m #[(.ref o0), (.long z), (.ref o2)] below meth c s₁ [] 0 0 := Stand.of_body Bd
  have e0 : s₁.heap = h0 := by rw [← hh, Bd.state]; rfl
  have N0 := Fr.nil n0
  show OFin p e below (ORet (Q_rm3 Z o0 z o2 z0 ap rd h0 n0) s ({ frames := 0, cells := 0, slots := 0, locals := 0 } : Room).cells ({ frames := 0, cells := 0, slots := 0, locals := 0 } : Room).slots) (s₁.setTop (entryFrame m #[(.ref o0), (.long z), (.ref o2)] 4))
  refine OFin.go (fun t k => castTop (ef_rm3 m o0 z o2) k) ?_
  have K0 := Keep.refl h0 [o0]
  show OFin p e below (ORet (Q_rm3 Z o0 z o2 z0 ap rd h0 n0) s ({ frames := 0, cells := 0, slots := 0, locals := 0 } : Room).cells ({ frames := 0, cells := 0, slots := 0, locals := 0 } : Room).slots) (s₁.setTop (mkF m 0 #[.val (.ref o0), .val (.long z), .second, .val (.ref o2)] []))
  have S1 : ∀ t, Steps p.tables e below (s₁.setTop (mkF m 2 #[.val (.ref o0), .val (.long z), .second, .val (.ref o2)] [(.long z), (.ref o0)])) t → Steps p.tables e below (s₁.setTop (mkF m 0 #[.val (.ref o0), .val (.long z), .second, .val (.ref o2)] [])) t := by
    intro t k
    show Steps p.tables e below (s₁.setTop (mkF m 0 #[.val (.ref o0), .val (.long z), .second, .val (.ref o2)] [])) t
    refine XS.aloadN X0.here hx rfl (hb hby d3_0) rfl rfl ?_
    show Steps p.tables e below (s₁.setTop (mkF m 1 #[.val (.ref o0), .val (.long z), .second, .val (.ref o2)] [(.ref o0)])) t
    refine XS.lloadN X0.here hx rfl (hb hby d3_1) rfl ?_
    exact k
  refine OFin.go S1 ?_
  obtain ⟨T2, h2, X2, e2, W2, st2⟩ := putF X0 hx hZ hown (host := "") (Or.inl (hw _ (List.mem_of_getElem? (i := 21) rfl))) Via.refl e0 F_o0_compactedLengthRead E_o0 (Or.inl (hw _ (List.mem_of_getElem? (i := 22) rfl))) (hw _ (List.mem_of_getElem? (i := 1) rfl)) (ty := .long) (by decide) rfl rfl (g := (mkF m 2 #[.val (.ref o0), .val (.long z), .second, .val (.ref o2)] [(.long z), (.ref o0)])) rfl rfl (hb hby d3_2)
  have Fw2 := F_o0_compactedLengthRead.same W2
  have N2 := Fr.snoc X2 N0 ge0
  have Z2 : n0 ≤ h2.size := Nat.le_trans Z0 (wr_le W2)
  have K2 := Keep.wr K0 W2 (Or.inl (List.mem_of_getElem? (i := 0) rfl))
  refine OFin.go st2 ?_
  show OFin p e below _ (T2.setTop (mkF m 5 #[.val (.ref o0), .val (.long z), .second, .val (.ref o2)] []))
  have S3 : ∀ t, Steps p.tables e below (T2.setTop (mkF m 7 #[.val (.ref o0), .val (.long z), .second, .val (.ref o2)] [(.ref o2), (.ref o0)])) t → Steps p.tables e below (T2.setTop (mkF m 5 #[.val (.ref o0), .val (.long z), .second, .val (.ref o2)] [])) t := by
    intro t k
    show Steps p.tables e below (T2.setTop (mkF m 5 #[.val (.ref o0), .val (.long z), .second, .val (.ref o2)] [])) t
    refine XS.aloadN X2.here hx rfl (hb hby d3_5) rfl rfl ?_
    show Steps p.tables e below (T2.setTop (mkF m 6 #[.val (.ref o0), .val (.long z), .second, .val (.ref o2)] [(.ref o0)])) t
    refine XS.aloadN X2.here hx rfl (hb hby d3_6) rfl rfl ?_
    exact k
  refine OFin.go S3 ?_
  have F4 := F_o0_read.other W2 (Or.inr (slot_ne (Or.inl (hw _ (List.mem_of_getElem? (i := 15) rfl))) (Or.inl (hw _ (List.mem_of_getElem? (i := 22) rfl))) (by decide) (t := (.object "com/example/clockwrap/clockwrap/store/TimerLog$Tally")) (t' := .long) (by decide) (by decide)))
  have F5 := E_o0.wr W2
  obtain ⟨T6, h6, X6, e6, W6, st6⟩ := putF X2 hx hZ hown (host := "") (Or.inl (hw _ (List.mem_of_getElem? (i := 14) rfl))) Via.refl e2 F4 F5 (Or.inl (hw _ (List.mem_of_getElem? (i := 15) rfl))) (hw _ (List.mem_of_getElem? (i := 1) rfl)) (ty := (.object "com/example/clockwrap/clockwrap/store/TimerLog$Tally")) (by decide) rfl rfl (g := (mkF m 7 #[.val (.ref o0), .val (.long z), .second, .val (.ref o2)] [(.ref o2), (.ref o0)])) rfl rfl (hb hby d3_7)
  have Fw6 := F4.same W6
  have N6 := Fr.snoc X6 N2 ge0
  have Z6 : n0 ≤ h6.size := Nat.le_trans Z2 (wr_le W6)
  have K6 := Keep.wr K2 W6 (Or.inl (List.mem_of_getElem? (i := 0) rfl))
  refine OFin.go st6 ?_
  show OFin p e below _ (T6.setTop (mkF m 10 #[.val (.ref o0), .val (.long z), .second, .val (.ref o2)] []))
  have F7 := Fw2.other W6 (Or.inr (slot_ne (Or.inl (hw _ (List.mem_of_getElem? (i := 22) rfl))) (Or.inl (hw _ (List.mem_of_getElem? (i := 15) rfl))) (by decide) (t := .long) (t' := (.object "com/example/clockwrap/clockwrap/store/TimerLog$Tally")) (by decide) (by decide)))
  have F8 := F_o0_appended.other W2 (Or.inr (slot_ne (Or.inl (hw _ (List.mem_of_getElem? (i := 13) rfl))) (Or.inl (hw _ (List.mem_of_getElem? (i := 22) rfl))) (by decide) (t := (.object "com/example/clockwrap/clockwrap/store/TimerLog$Tally")) (t' := .long) (by decide) (by decide)))
  have F9 := F8.other W6 (Or.inr (slot_ne (Or.inl (hw _ (List.mem_of_getElem? (i := 13) rfl))) (Or.inl (hw _ (List.mem_of_getElem? (i := 15) rfl))) (by decide) (t := (.object "com/example/clockwrap/clockwrap/store/TimerLog$Tally")) (t' := (.object "com/example/clockwrap/clockwrap/store/TimerLog$Tally")) (by decide) (by decide)))
  exact finV X6 hx Bd.notSynchronized Bd.returns (hb hby d3_10) (by decide) (by decide) (by rw [e6]; exact ⟨rfl, N6, K6, F7, F9, Fw6⟩)
theorem ef_rm1 (m : MethodId) (o0 : Addr) (z : Int64) : entryFrame m #[(.ref o0), (.long z)] 3 = mkF m 0 #[.val (.ref o0), .val (.long z), .second] [] := by first | (simp [entryFrame, mkF, argsToLocals, Value.category]; done) | rfl
def Q_rm1 (Z : State) (o0 : Addr) (z : Int64) (aN : Addr) (h0 : Heap) (n0 : Nat) (v : Option Value) (h : Heap) (L : List Loc) : Prop := v = none ∧ Fr n0 L ∧ Keep h0 h [o0] ∧ Fld Z h o0 "com/example/clockwrap/clockwrap/store/GarbageEstimate" "compactedLengthRead" "J" (.long z) ∧ Fld Z h o0 "com/example/clockwrap/clockwrap/store/GarbageEstimate" "appended" "Lcom/example/clockwrap/clockwrap/store/TimerLog$Tally;" (.ref aN) ∧ Fld Z h o0 "com/example/clockwrap/clockwrap/store/GarbageEstimate" "read" "Lcom/example/clockwrap/clockwrap/store/TimerLog$Tally;" (.ref aN)
theorem d1_0 : decode prog_29_method_1_code 0 = .ok (.aload_n 0, 1) := by decide +kernel
theorem d1_1 : decode prog_29_method_1_code 1 = .ok (.invokespecial 1, 3) := by decide +kernel
theorem d1_4 : decode prog_29_method_1_code 4 = .ok (.aload_n 0, 1) := by decide +kernel
theorem d1_5 : decode prog_29_method_1_code 5 = .ok (.getstatic 7, 3) := by decide +kernel
theorem d1_8 : decode prog_29_method_1_code 8 = .ok (.putfield 13, 3) := by decide +kernel
theorem d1_11 : decode prog_29_method_1_code 11 = .ok (.aload_n 0, 1) := by decide +kernel
theorem d1_12 : decode prog_29_method_1_code 12 = .ok (.getstatic 7, 3) := by decide +kernel
theorem d1_15 : decode prog_29_method_1_code 15 = .ok (.putfield 18, 3) := by decide +kernel
theorem d1_18 : decode prog_29_method_1_code 18 = .ok (.aload_n 0, 1) := by decide +kernel
theorem d1_19 : decode prog_29_method_1_code 19 = .ok (.lload_n 1, 1) := by decide +kernel
theorem d1_20 : decode prog_29_method_1_code 20 = .ok (.getstatic 7, 3) := by decide +kernel
theorem pd_2 : parseMethodDescriptor "(JLcom/example/clockwrap/clockwrap/store/TimerLog$Tally;)V" = some ⟨[.long, (.object "com/example/clockwrap/clockwrap/store/TimerLog$Tally")], none⟩ := by decide +kernel
theorem d1_23 : decode prog_29_method_1_code 23 = .ok (.invokevirtual 21, 3) := by decide +kernel
theorem d1_26 : decode prog_29_method_1_code 26 = .ok (.return_, 1) := by decide +kernel
set_option maxRecDepth 65536 in
set_option maxHeartbeats 40000000 in
theorem rm1 (l : Launch) (Z : State) (a0 : Array Value) (hw : ∀ d ∈ tables_1, d.before a0 Z = true) (ws : List Jvm.Cond) (o0 : Addr) (z : Int64) (aN : Addr) (h0 : Heap) (n0 : Nat) (Z0 : n0 ≤ h0.size) (ge0 : n0 ≤ o0) (SN : Sta Z h0 "com/example/clockwrap/clockwrap/store/TimerLog$Tally" "NONE" "Lcom/example/clockwrap/clockwrap/store/TimerLog$Tally;" (.ref aN)) (E_o0 : Exa Z h0 o0 "com/example/clockwrap/clockwrap/store/GarbageEstimate") (F_o0_compactedLengthRead : Fld Z h0 o0 "com/example/clockwrap/clockwrap/store/GarbageEstimate" "compactedLengthRead" "J" (.long (0 : Int64))) (F_o0_appended : Fld Z h0 o0 "com/example/clockwrap/clockwrap/store/GarbageEstimate" "appended" "Lcom/example/clockwrap/clockwrap/store/TimerLog$Tally;" .null) (F_o0_read : Fld Z h0 o0 "com/example/clockwrap/clockwrap/store/GarbageEstimate" "read" "Lcom/example/clockwrap/clockwrap/store/TimerLog$Tally;" .null) :
    MetFree l (⟨"com/example/clockwrap/clockwrap/store/GarbageEstimate", "<init>", "(J)V"⟩ : MethodName) (head1 (Jvm.Cond.code (⟨"com/example/clockwrap/clockwrap/store/GarbageEstimate", "<init>", "(J)V"⟩ : MethodName) prog_29_method_1_code 3 none :: ws) ({ frames := 1, cells := 0, slots := 0, locals := 15 } : Room)) (fun a U => a = #[(.ref o0), (.long z)] ∧ Z.Warmed39 U.vm ∧ U.heap = h0) (fun _ _ _ _ _ => True) (fun _ U o U' => ∃ v L, o = .returned v ∧ (Q_rm1 Z o0 z aN h0 n0) v U'.heap L ∧ FrameEnd U o U' L ({ frames := 1, cells := 0, slots := 0, locals := 15 } : Room).cells ({ frames := 1, cells := 0, slots := 0, locals := 15 } : Room).slots) := by
  refine MetFree.of_bodySF (plainFor_of_name pn_2) hisR ?_
  intro p e s m args below meth c s₁ Bd hml0 hP hK
  obtain ⟨rfl, hZ, hh⟩ := hP
  have hx := Bd.exec
  have hby := Bd.bytes
  have hml : c.maxLocals = 3 := hml0
  have hown : s.vm.findClass "com/example/clockwrap/clockwrap/store/GarbageEstimate" = some m.cls := findClass_of_methodNamed Bd.named
  have hnm := (name_of_methodNamed Bd.named Bd.method).1
  have X0 : Stand p l e ({ frames := 1, cells := 0, slots := 0, locals := 15 } : Room) s m #[(.ref o0), (.long z)] below meth c s₁ [] 0 0 := Stand.of_body Bd
  have e0 : s₁.heap = h0 := by rw [← hh, Bd.state]; rfl
  have N0 := Fr.nil n0
  show OFin p e below (ORet (Q_rm1 Z o0 z aN h0 n0) s ({ frames := 1, cells := 0, slots := 0, locals := 15 } : Room).cells ({ frames := 1, cells := 0, slots := 0, locals := 15 } : Room).slots) (s₁.setTop (entryFrame m #[(.ref o0), (.long z)] 3))
  refine OFin.go (fun t k => castTop (ef_rm1 m o0 z) k) ?_
  have K0 := Keep.refl h0 [o0]
  show OFin p e below (ORet (Q_rm1 Z o0 z aN h0 n0) s ({ frames := 1, cells := 0, slots := 0, locals := 15 } : Room).cells ({ frames := 1, cells := 0, slots := 0, locals := 15 } : Room).slots) (s₁.setTop (mkF m 0 #[.val (.ref o0), .val (.long z), .second] []))
  have S1 : ∀ t, Steps p.tables e below (s₁.setTop (mkF m 1 #[.val (.ref o0), .val (.long z), .second] [(.ref o0)])) t → Steps p.tables e below (s₁.setTop (mkF m 0 #[.val (.ref o0), .val (.long z), .second] [])) t := by
    intro t k
    show Steps p.tables e below (s₁.setTop (mkF m 0 #[.val (.ref o0), .val (.long z), .second] [])) t
    refine XS.aloadN X0.here hx rfl (hb hby d1_0) rfl rfl ?_
    exact k
  refine OFin.go S1 ?_
  obtain ⟨T2, X2, e2, st2⟩ := initO X0 hx hZ hown (hw _ (List.mem_of_getElem? (i := 6) rfl)) (hw _ (List.mem_of_getElem? (i := 7) rfl)) (hw _ (List.mem_of_getElem? (i := 8) rfl)) e0 (g := (mkF m 1 #[.val (.ref o0), .val (.long z), .second] [(.ref o0)])) rfl (by rw [hml]; rfl) rfl (hb hby d1_1) (by decide) (W := 0) (by show 2 * 0 + _ ≤ _; exact Nat.le_of_eq rfl) (by decide)
  refine OFin.go st2 ?_
  show OFin p e below _ (T2.setTop (mkF m 4 #[.val (.ref o0), .val (.long z), .second] []))
  have S3 : ∀ t, Steps p.tables e below (T2.setTop (mkF m 5 #[.val (.ref o0), .val (.long z), .second] [(.ref o0)])) t → Steps p.tables e below (T2.setTop (mkF m 4 #[.val (.ref o0), .val (.long z), .second] [])) t := by
    intro t k
    show Steps p.tables e below (T2.setTop (mkF m 4 #[.val (.ref o0), .val (.long z), .second] [])) t
    refine XS.aloadN X2.here hx rfl (hb hby d1_4) rfl rfl ?_
    exact k
  refine OFin.go S3 ?_
  obtain ⟨T4, X4, e4, st4⟩ := getS2 X2 hx hZ hown (host := "") (Or.inl (hw _ (List.mem_of_getElem? (i := 9) rfl))) Via.refl e2 SN (g := (mkF m 5 #[.val (.ref o0), .val (.long z), .second] [(.ref o0)])) rfl (hb hby d1_5)
  refine OFin.go st4 ?_
  show OFin p e below _ (T4.setTop (mkF m 8 #[.val (.ref o0), .val (.long z), .second] [(.ref aN), (.ref o0)]))
  obtain ⟨T5, h5, X5, e5, W5, st5⟩ := putF X4 hx hZ hown (host := "") (Or.inl (hw _ (List.mem_of_getElem? (i := 12) rfl))) Via.refl e4 F_o0_appended E_o0 (Or.inl (hw _ (List.mem_of_getElem? (i := 13) rfl))) (hw _ (List.mem_of_getElem? (i := 1) rfl)) (ty := (.object "com/example/clockwrap/clockwrap/store/TimerLog$Tally")) (by decide) rfl rfl (g := (mkF m 8 #[.val (.ref o0), .val (.long z), .second] [(.ref aN), (.ref o0)])) rfl rfl (hb hby d1_8)
  have Fw5 := F_o0_appended.same W5
  have N5 := Fr.snoc X5 N0 ge0
  have Z5 : n0 ≤ h5.size := Nat.le_trans Z0 (wr_le W5)
  have K5 := Keep.wr K0 W5 (Or.inl (List.mem_of_getElem? (i := 0) rfl))
  refine OFin.go st5 ?_
  show OFin p e below _ (T5.setTop (mkF m 11 #[.val (.ref o0), .val (.long z), .second] []))
  have S6 : ∀ t, Steps p.tables e below (T5.setTop (mkF m 12 #[.val (.ref o0), .val (.long z), .second] [(.ref o0)])) t → Steps p.tables e below (T5.setTop (mkF m 11 #[.val (.ref o0), .val (.long z), .second] [])) t := by
    intro t k
    show Steps p.tables e below (T5.setTop (mkF m 11 #[.val (.ref o0), .val (.long z), .second] [])) t
    refine XS.aloadN X5.here hx rfl (hb hby d1_11) rfl rfl ?_
    exact k
  refine OFin.go S6 ?_
  have F7 := SN.wr W5
  obtain ⟨T8, X8, e8, st8⟩ := getS2 X5 hx hZ hown (host := "") (Or.inl (hw _ (List.mem_of_getElem? (i := 9) rfl))) Via.refl e5 F7 (g := (mkF m 12 #[.val (.ref o0), .val (.long z), .second] [(.ref o0)])) rfl (hb hby d1_12)
  refine OFin.go st8 ?_
  show OFin p e below _ (T8.setTop (mkF m 15 #[.val (.ref o0), .val (.long z), .second] [(.ref aN), (.ref o0)]))
  have F9 := F_o0_read.other W5 (Or.inr (slot_ne (Or.inl (hw _ (List.mem_of_getElem? (i := 15) rfl))) (Or.inl (hw _ (List.mem_of_getElem? (i := 13) rfl))) (by decide) (t := (.object "com/example/clockwrap/clockwrap/store/TimerLog$Tally")) (t' := (.object "com/example/clockwrap/clockwrap/store/TimerLog$Tally")) (by decide) (by decide)))
  have F10 := E_o0.wr W5
  obtain ⟨T11, h11, X11, e11, W11, st11⟩ := putF X8 hx hZ hown (host := "") (Or.inl (hw _ (List.mem_of_getElem? (i := 14) rfl))) Via.refl e8 F9 F10 (Or.inl (hw _ (List.mem_of_getElem? (i := 15) rfl))) (hw _ (List.mem_of_getElem? (i := 1) rfl)) (ty := (.object "com/example/clockwrap/clockwrap/store/TimerLog$Tally")) (by decide) rfl rfl (g := (mkF m 15 #[.val (.ref o0), .val (.long z), .second] [(.ref aN), (.ref o0)])) rfl rfl (hb hby d1_15)
  have Fw11 := F9.same W11
  have N11 := Fr.snoc X11 N5 ge0
  have Z11 : n0 ≤ h11.size := Nat.le_trans Z5 (wr_le W11)
  have K11 := Keep.wr K5 W11 (Or.inl (List.mem_of_getElem? (i := 0) rfl))
  refine OFin.go st11 ?_
  show OFin p e below _ (T11.setTop (mkF m 18 #[.val (.ref o0), .val (.long z), .second] []))
  have S12 : ∀ t, Steps p.tables e below (T11.setTop (mkF m 20 #[.val (.ref o0), .val (.long z), .second] [(.long z), (.ref o0)])) t → Steps p.tables e below (T11.setTop (mkF m 18 #[.val (.ref o0), .val (.long z), .second] [])) t := by
    intro t k
    show Steps p.tables e below (T11.setTop (mkF m 18 #[.val (.ref o0), .val (.long z), .second] [])) t
    refine XS.aloadN X11.here hx rfl (hb hby d1_18) rfl rfl ?_
    show Steps p.tables e below (T11.setTop (mkF m 19 #[.val (.ref o0), .val (.long z), .second] [(.ref o0)])) t
    refine XS.lloadN X11.here hx rfl (hb hby d1_19) rfl ?_
    exact k
  refine OFin.go S12 ?_
  have F13 := F7.wr W11
  obtain ⟨T14, X14, e14, st14⟩ := getS2 X11 hx hZ hown (host := "") (Or.inl (hw _ (List.mem_of_getElem? (i := 9) rfl))) Via.refl e11 F13 (g := (mkF m 20 #[.val (.ref o0), .val (.long z), .second] [(.long z), (.ref o0)])) rfl (hb hby d1_20)
  refine OFin.go st14 ?_
  show OFin p e below _ (T14.setTop (mkF m 23 #[.val (.ref o0), .val (.long z), .second] [(.ref aN), (.long z), (.ref o0)]))
  have F16 := F_o0_compactedLengthRead.other W5 (Or.inr (slot_ne (Or.inl (hw _ (List.mem_of_getElem? (i := 22) rfl))) (Or.inl (hw _ (List.mem_of_getElem? (i := 13) rfl))) (by decide) (t := .long) (t' := (.object "com/example/clockwrap/clockwrap/store/TimerLog$Tally")) (by decide) (by decide)))
  have F17 := F16.other W11 (Or.inr (slot_ne (Or.inl (hw _ (List.mem_of_getElem? (i := 22) rfl))) (Or.inl (hw _ (List.mem_of_getElem? (i := 15) rfl))) (by decide) (t := .long) (t' := (.object "com/example/clockwrap/clockwrap/store/TimerLog$Tally")) (by decide) (by decide)))
  have F18 := Fw5.other W11 (Or.inr (slot_ne (Or.inl (hw _ (List.mem_of_getElem? (i := 13) rfl))) (Or.inl (hw _ (List.mem_of_getElem? (i := 15) rfl))) (by decide) (t := (.object "com/example/clockwrap/clockwrap/store/TimerLog$Tally")) (t' := (.object "com/example/clockwrap/clockwrap/store/TimerLog$Tally")) (by decide) (by decide)))
  have F19 := F10.wr W11
  obtain ⟨_, T15, Lc15, X15, hQ15, st15⟩ := virtQ X14 hx hZ (y := (⟨"com/example/clockwrap/clockwrap/store/GarbageEstimate", "read", "(JLcom/example/clockwrap/clockwrap/store/TimerLog$Tally;)V"⟩ : MethodName)) hown (hw _ (List.mem_of_getElem? (i := 16) rfl)) (hw _ (List.mem_of_getElem? (i := 18) rfl)) (hw _ (List.mem_of_getElem? (i := 2) rfl)) (hw _ (List.mem_of_getElem? (i := 20) rfl)) (hw _ (List.mem_of_getElem? (i := 17) rfl)) (hw _ (List.mem_of_getElem? (i := 19) rfl)) (by decide) F19 (argsL := [(.long z), (.ref aN)]) (rest := []) (rm3 l Z a0 hw [] o0 z aN (0 : Int64) aN aN h11 n0 Z11 ge0 F19 F17 F18 Fw11) (W := 0) (by decide) (by decide) e14 (g := (mkF m 23 #[.val (.ref o0), .val (.long z), .second] [(.ref aN), (.long z), (.ref o0)])) rfl (by rw [hml]; rfl) (lenOf pd_2 rfl) rfl (by show 2 * 0 + _ ≤ _; exact Nat.le_of_eq rfl) (hb hby d1_23) (Nat.le_of_ble_eq_true rfl) (Nat.le_of_ble_eq_true rfl)
  obtain ⟨rfl, N15q, K15q, F15_o0_compactedLengthRead, F15_o0_appended, F15_o0_read⟩ := hQ15
  have Z15 : n0 ≤ T15.heap.size := Nat.le_trans Z11 K15q.1
  have K15 := Keep.trans K11 K15q (allS (Or.inl (List.mem_of_getElem? (i := 0) rfl)) all0)
  have N15 := Fr.app N11 N15q
  refine OFin.go st15 ?_
  show OFin p e below _ (T15.setTop (mkF m 26 #[.val (.ref o0), .val (.long z), .second] []))
  exact finV X15 hx Bd.notSynchronized Bd.returns (hb hby d1_26) (by decide) (by decide) (by exact ⟨rfl, N15, K15, F15_o0_compactedLengthRead, F15_o0_appended, F15_o0_read⟩)
theorem ef_rm6 (m : MethodId) (o0 : Addr) (o1 : Addr) : entryFrame m #[(.ref o0), (.ref o1)] 2 = mkF m 0 #[.val (.ref o0), .val (.ref o1)] [] := by first | (simp [entryFrame, mkF, argsToLocals, Value.category]; done) | rfl
def Q_rm6 (Z : State) (o0 : Addr) (o1 : Addr) (z0 : Int64) (ap rd : Addr) (x0 y0 x1 y1 : Int64) (h0 : Heap) (n0 : Nat) (v : Option Value) (h : Heap) (L : List Loc) : Prop := ∃ b, v = none ∧ Fr n0 L ∧ Keep h0 h [o0] ∧ h0.size ≤ b ∧ Fld Z h o0 "com/example/clockwrap/clockwrap/store/GarbageEstimate" "compactedLengthRead" "J" (.long z0) ∧ Fld Z h o0 "com/example/clockwrap/clockwrap/store/GarbageEstimate" "appended" "Lcom/example/clockwrap/clockwrap/store/TimerLog$Tally;" (.ref b) ∧ Fld Z h o0 "com/example/clockwrap/clockwrap/store/GarbageEstimate" "read" "Lcom/example/clockwrap/clockwrap/store/TimerLog$Tally;" (.ref rd) ∧ Exa Z h b "com/example/clockwrap/clockwrap/store/TimerLog$Tally" ∧ Fld Z h b "com/example/clockwrap/clockwrap/store/TimerLog$Tally" "additionsLength" "J" (.long (x0 + x1)) ∧ Fld Z h b "com/example/clockwrap/clockwrap/store/TimerLog$Tally" "removedLength" "J" (.long (y0 + y1))
theorem d6_0 : decode prog_29_method_4_code 0 = .ok (.aload_n 0, 1) := by decide +kernel
theorem d6_1 : decode prog_29_method_4_code 1 = .ok (.aload_n 0, 1) := by decide +kernel
theorem d6_2 : decode prog_29_method_4_code 2 = .ok (.getfield 13, 3) := by decide +kernel
theorem d6_5 : decode prog_29_method_4_code 5 = .ok (.aload_n 1, 1) := by decide +kernel
theorem pd_3 : parseMethodDescriptor "(Lcom/example/clockwrap/clockwrap/store/TimerLog$Tally;)Lcom/example/clockwrap/clockwrap/store/TimerLog$Tally;" = some ⟨[(.object "com/example/clockwrap/clockwrap/store/TimerLog$Tally")], some (.object "com/example/clockwrap/clockwrap/store/TimerLog$Tally")⟩ := by decide +kernel
theorem d6_6 : decode prog_29_method_4_code 6 = .ok (.invokevirtual 42, 3) := by decide +kernel
theorem d6_9 : decode prog_29_method_4_code 9 = .ok (.putfield 13, 3) := by decide +kernel
theorem d6_12 : decode prog_29_method_4_code 12 = .ok (.return_, 1) := by decide +kernel
set_option maxRecDepth 65536 in
set_option maxHeartbeats 40000000 in
theorem rm6 (l : Launch) (Z : State) (a0 : Array Value) (hw : ∀ d ∈ tables_1, d.before a0 Z = true) (ws : List Jvm.Cond) (o0 : Addr) (o1 : Addr) (z0 : Int64) (ap rd : Addr) (x0 y0 x1 y1 : Int64) (h0 : Heap) (n0 : Nat) (Z0 : n0 ≤ h0.size) (ge0 : n0 ≤ o0) (E_o0 : Exa Z h0 o0 "com/example/clockwrap/clockwrap/store/GarbageEstimate") (F_o0_compactedLengthRead : Fld Z h0 o0 "com/example/clockwrap/clockwrap/store/GarbageEstimate" "compactedLengthRead" "J" (.long z0)) (F_o0_appended : Fld Z h0 o0 "com/example/clockwrap/clockwrap/store/GarbageEstimate" "appended" "Lcom/example/clockwrap/clockwrap/store/TimerLog$Tally;" (.ref ap)) (F_o0_read : Fld Z h0 o0 "com/example/clockwrap/clockwrap/store/GarbageEstimate" "read" "Lcom/example/clockwrap/clockwrap/store/TimerLog$Tally;" (.ref rd)) (E_ap : Exa Z h0 ap "com/example/clockwrap/clockwrap/store/TimerLog$Tally") (F_ap_additionsLength : Fld Z h0 ap "com/example/clockwrap/clockwrap/store/TimerLog$Tally" "additionsLength" "J" (.long x0)) (F_ap_removedLength : Fld Z h0 ap "com/example/clockwrap/clockwrap/store/TimerLog$Tally" "removedLength" "J" (.long y0)) (F_o1_additionsLength : Fld Z h0 o1 "com/example/clockwrap/clockwrap/store/TimerLog$Tally" "additionsLength" "J" (.long x1)) (F_o1_removedLength : Fld Z h0 o1 "com/example/clockwrap/clockwrap/store/TimerLog$Tally" "removedLength" "J" (.long y1)) :
    MetFree l (⟨"com/example/clockwrap/clockwrap/store/GarbageEstimate", "appended", "(Lcom/example/clockwrap/clockwrap/store/TimerLog$Tally;)V"⟩ : MethodName) (head1 (Jvm.Cond.code (⟨"com/example/clockwrap/clockwrap/store/GarbageEstimate", "appended", "(Lcom/example/clockwrap/clockwrap/store/TimerLog$Tally;)V"⟩ : MethodName) prog_29_method_4_code 2 none :: ws) ({ frames := 4, cells := 1, slots := 2, locals := 90 } : Room)) (fun a U => a = #[(.ref o0), (.ref o1)] ∧ Z.Warmed39 U.vm ∧ U.heap = h0) (fun _ _ _ _ _ => True) (fun _ U o U' => ∃ v L, o = .returned v ∧ (Q_rm6 Z o0 o1 z0 ap rd x0 y0 x1 y1 h0 n0) v U'.heap L ∧ FrameEnd U o U' L ({ frames := 4, cells := 1, slots := 2, locals := 90 } : Room).cells ({ frames := 4, cells := 1, slots := 2, locals := 90 } : Room).slots) := by
  refine MetFree.of_bodySF (plainFor_of_name pn_2) hisR ?_
  intro p e s m args below meth c s₁ Bd hml0 hP hK
  obtain ⟨rfl, hZ, hh⟩ := hP
  have hx := Bd.exec
  have hby := Bd.bytes
  have hml : c.maxLocals = 2 := hml0
  have hown : s.vm.findClass "com/example/clockwrap/clockwrap/store/GarbageEstimate" = some m.cls := findClass_of_methodNamed Bd.named
  have hnm := (name_of_methodNamed Bd.named Bd.method).1
  have X0 : Stand p l e ({ frames := 4, cells := 1, slots := 2, locals := 90 } : Room) s m #[(.ref o0), (.ref o1)] below meth c s₁ [] 0 0 := Stand.of_body Bd
  have e0 : s₁.heap = h0 := by rw [← hh, Bd.state]; rfl
  have N0 := Fr.nil n0
  show OFin p e below (ORet (Q_rm6 Z o0 o1 z0 ap rd x0 y0 x1 y1 h0 n0) s ({ frames := 4, cells := 1, slots := 2, locals := 90 } : Room).cells ({ frames := 4, cells := 1, slots := 2, locals := 90 } : Room).slots) (s₁.setTop (entryFrame m #[(.ref o0), (.ref o1)] 2))
  refine OFin.go (fun t k => castTop (ef_rm6 m o0 o1) k) ?_
  have K0 := Keep.refl h0 [o0]
  show OFin p e below (ORet (Q_rm6 Z o0 o1 z0 ap rd x0 y0 x1 y1 h0 n0) s ({ frames := 4, cells := 1, slots := 2, locals := 90 } : Room).cells ({ frames := 4, cells := 1, slots := 2, locals := 90 } : Room).slots) (s₁.setTop (mkF m 0 #[.val (.ref o0), .val (.ref o1)] []))
  have S1 : ∀ t, Steps p.tables e below (s₁.setTop (mkF m 2 #[.val (.ref o0), .val (.ref o1)] [(.ref o0), (.ref o0)])) t → Steps p.tables e below (s₁.setTop (mkF m 0 #[.val (.ref o0), .val (.ref o1)] [])) t := by
    intro t k
    show Steps p.tables e below (s₁.setTop (mkF m 0 #[.val (.ref o0), .val (.ref o1)] [])) t
    refine XS.aloadN X0.here hx rfl (hb hby d6_0) rfl rfl ?_
    show Steps p.tables e below (s₁.setTop (mkF m 1 #[.val (.ref o0), .val (.ref o1)] [(.ref o0)])) t
    refine XS.aloadN X0.here hx rfl (hb hby d6_1) rfl rfl ?_
    exact k
  refine OFin.go S1 ?_
  obtain ⟨T2, X2, e2, st2⟩ := getF X0 hx hZ hown (host := "") (Or.inl (hw _ (List.mem_of_getElem? (i := 12) rfl))) Via.refl e0 F_o0_appended (g := (mkF m 2 #[.val (.ref o0), .val (.ref o1)] [(.ref o0), (.ref o0)])) rfl rfl (hb hby d6_2)
  refine OFin.go st2 ?_
  show OFin p e below _ (T2.setTop (mkF m 5 #[.val (.ref o0), .val (.ref o1)] [(.ref ap), (.ref o0)]))
  have S3 : ∀ t, Steps p.tables e below (T2.setTop (mkF m 6 #[.val (.ref o0), .val (.ref o1)] [(.ref o1), (.ref ap), (.ref o0)])) t → Steps p.tables e below (T2.setTop (mkF m 5 #[.val (.ref o0), .val (.ref o1)] [(.ref ap), (.ref o0)])) t := by
    intro t k
    show Steps p.tables e below (T2.setTop (mkF m 5 #[.val (.ref o0), .val (.ref o1)] [(.ref ap), (.ref o0)])) t
    refine XS.aloadN X2.here hx rfl (hb hby d6_5) rfl rfl ?_
    exact k
  refine OFin.go S3 ?_
  obtain ⟨_, T4, Lc4, X4, hQ4, st4⟩ := virtQ X2 hx hZ (y := (⟨"com/example/clockwrap/clockwrap/store/TimerLog$Tally", "plus", "(Lcom/example/clockwrap/clockwrap/store/TimerLog$Tally;)Lcom/example/clockwrap/clockwrap/store/TimerLog$Tally;"⟩ : MethodName)) hown (hw _ (List.mem_of_getElem? (i := 43) rfl)) (hw _ (List.mem_of_getElem? (i := 45) rfl)) (hw _ (List.mem_of_getElem? (i := 10) rfl)) (hw _ (List.mem_of_getElem? (i := 47) rfl)) (hw _ (List.mem_of_getElem? (i := 44) rfl)) (hw _ (List.mem_of_getElem? (i := 46) rfl)) (by decide) E_ap (argsL := [(.ref o1)]) (rest := [(.ref o0)]) (rm7 l Z a0 hw [] ap o1 x0 y0 x1 y1 h0 n0 Z0 F_ap_additionsLength F_ap_removedLength F_o1_additionsLength F_o1_removedLength) (W := 1) (by decide) (by decide) e2 (g := (mkF m 6 #[.val (.ref o0), .val (.ref o1)] [(.ref o1), (.ref ap), (.ref o0)])) rfl (by rw [hml]; rfl) (lenOf pd_3 rfl) rfl (by show 2 * 0 + _ ≤ _; exact Nat.le_of_eq rfl) (hb hby d6_6) (Nat.le_of_ble_eq_true rfl) (Nat.le_of_ble_eq_true rfl)
  obtain ⟨b4, rfl, N4q, K4q, hb4, E4_b4, F4_b4_additionsLength, F4_b4_removedLength⟩ := hQ4
  have q5 : o0 ≠ b4 := Nat.ne_of_lt (Nat.lt_of_lt_of_le E_o0.lt hb4)
  have q6 : ap ≠ b4 := Nat.ne_of_lt (Nat.lt_of_lt_of_le E_ap.lt hb4)
  have q7 : o1 ≠ b4 := Nat.ne_of_lt (Nat.lt_of_lt_of_le F_o1_additionsLength.lt hb4)
  have ge4 : n0 ≤ b4 := Nat.le_trans Z0 hb4
  have sz4 : h0.size ≤ b4 := Nat.le_trans K0.1 hb4
  have Z4 : n0 ≤ T4.heap.size := Nat.le_trans Z0 K4q.1
  have K4 := Keep.trans K0 K4q all0
  have N4 := Fr.app N0 N4q
  refine OFin.go st4 ?_
  show OFin p e below _ (T4.setTop (mkF m 9 #[.val (.ref o0), .val (.ref o1)] [(.ref b4), (.ref o0)]))
  have F8 := F_o0_appended.keep K4q nin0
  have F9 := E_o0.keep K4q
  obtain ⟨T10, h10, X10, e10, W10, st10⟩ := putF X4 hx hZ hown (host := "") (Or.inl (hw _ (List.mem_of_getElem? (i := 12) rfl))) Via.refl rfl F8 F9 (Or.inl (hw _ (List.mem_of_getElem? (i := 13) rfl))) (hw _ (List.mem_of_getElem? (i := 1) rfl)) (ty := (.object "com/example/clockwrap/clockwrap/store/TimerLog$Tally")) (by decide) rfl rfl (g := (mkF m 9 #[.val (.ref o0), .val (.ref o1)] [(.ref b4), (.ref o0)])) rfl rfl (hb hby d6_9)
  have Fw10 := F8.same W10
  have N10 := Fr.snoc X10 N4 ge0
  have Z10 : n0 ≤ h10.size := Nat.le_trans Z4 (wr_le W10)
  have K10 := Keep.wr K4 W10 (Or.inl (List.mem_of_getElem? (i := 0) rfl))
  refine OFin.go st10 ?_
  show OFin p e below _ (T10.setTop (mkF m 12 #[.val (.ref o0), .val (.ref o1)] []))
  have F11 := F_o0_compactedLengthRead.keep K4q nin0
  have F12 := F11.other W10 (Or.inr (slot_ne (Or.inl (hw _ (List.mem_of_getElem? (i := 22) rfl))) (Or.inl (hw _ (List.mem_of_getElem? (i := 13) rfl))) (by decide) (t := .long) (t' := (.object "com/example/clockwrap/clockwrap/store/TimerLog$Tally")) (by decide) (by decide)))
  have F13 := F_o0_read.keep K4q nin0
  have F14 := F13.other W10 (Or.inr (slot_ne (Or.inl (hw _ (List.mem_of_getElem? (i := 15) rfl))) (Or.inl (hw _ (List.mem_of_getElem? (i := 13) rfl))) (by decide) (t := (.object "com/example/clockwrap/clockwrap/store/TimerLog$Tally")) (t' := (.object "com/example/clockwrap/clockwrap/store/TimerLog$Tally")) (by decide) (by decide)))
  have F15 := E4_b4.wr W10
  have F16 := F4_b4_additionsLength.other W10 (Or.inl (Ne.symm q5))
  have F17 := F4_b4_removedLength.other W10 (Or.inl (Ne.symm q5))
  exact finV X10 hx Bd.notSynchronized Bd.returns (hb hby d6_12) (by decide) (by decide) (by rw [e10]; exact ⟨b4, rfl, N10, K10, sz4, F12, Fw10, F14, F15, F16, F17⟩)
theorem ef_rm8 (m : MethodId) (o0 : Addr) (z : Int64) : entryFrame m #[(.ref o0), (.long z)] 3 = mkF m 0 #[.val (.ref o0), .val (.long z), .second] [] := by first | (simp [entryFrame, mkF, argsToLocals, Value.category]; done) | rfl
def Q_rm8 (Z : State) (o0 : Addr) (z : Int64) (z0 : Int64) (ap rd : Addr) (h0 : Heap) (n0 : Nat) (v : Option Value) (h : Heap) (L : List Loc) : Prop := v = none ∧ Fr n0 L ∧ Keep h0 h [o0] ∧ Fld Z h o0 "com/example/clockwrap/clockwrap/store/GarbageEstimate" "compactedLengthRead" "J" (.long z) ∧ Fld Z h o0 "com/example/clockwrap/clockwrap/store/GarbageEstimate" "appended" "Lcom/example/clockwrap/clockwrap/store/TimerLog$Tally;" (.ref ap) ∧ Fld Z h o0 "com/example/clockwrap/clockwrap/store/GarbageEstimate" "read" "Lcom/example/clockwrap/clockwrap/store/TimerLog$Tally;" (.ref ap)
theorem d8_0 : decode prog_29_method_8_code 0 = .ok (.aload_n 0, 1) := by decide +kernel
theorem d8_1 : decode prog_29_method_8_code 1 = .ok (.lload_n 1, 1) := by decide +kernel
theorem d8_2 : decode prog_29_method_8_code 2 = .ok (.putfield 28, 3) := by decide +kernel
theorem d8_5 : decode prog_29_method_8_code 5 = .ok (.aload_n 0, 1) := by decide +kernel
theorem d8_6 : decode prog_29_method_8_code 6 = .ok (.aload_n 0, 1) := by decide +kernel
theorem d8_7 : decode prog_29_method_8_code 7 = .ok (.getfield 13, 3) := by decide +kernel
theorem d8_10 : decode prog_29_method_8_code 10 = .ok (.putfield 18, 3) := by decide +kernel
theorem d8_13 : decode prog_29_method_8_code 13 = .ok (.return_, 1) := by decide +kernel
set_option maxRecDepth 65536 in
set_option maxHeartbeats 40000000 in
theorem rm8 (l : Launch) (Z : State) (a0 : Array Value) (hw : ∀ d ∈ tables_1, d.before a0 Z = true) (ws : List Jvm.Cond) (o0 : Addr) (z : Int64) (z0 : Int64) (ap rd : Addr) (h0 : Heap) (n0 : Nat) (Z0 : n0 ≤ h0.size) (ge0 : n0 ≤ o0) (E_o0 : Exa Z h0 o0 "com/example/clockwrap/clockwrap/store/GarbageEstimate") (F_o0_compactedLengthRead : Fld Z h0 o0 "com/example/clockwrap/clockwrap/store/GarbageEstimate" "compactedLengthRead" "J" (.long z0)) (F_o0_appended : Fld Z h0 o0 "com/example/clockwrap/clockwrap/store/GarbageEstimate" "appended" "Lcom/example/clockwrap/clockwrap/store/TimerLog$Tally;" (.ref ap)) (F_o0_read : Fld Z h0 o0 "com/example/clockwrap/clockwrap/store/GarbageEstimate" "read" "Lcom/example/clockwrap/clockwrap/store/TimerLog$Tally;" (.ref rd)) :
    MetFree l (⟨"com/example/clockwrap/clockwrap/store/GarbageEstimate", "takeAllAsLive", "(J)V"⟩ : MethodName) (head1 (Jvm.Cond.code (⟨"com/example/clockwrap/clockwrap/store/GarbageEstimate", "takeAllAsLive", "(J)V"⟩ : MethodName) prog_29_method_8_code 3 none :: ws) ({ frames := 0, cells := 0, slots := 0, locals := 0 } : Room)) (fun a U => a = #[(.ref o0), (.long z)] ∧ Z.Warmed39 U.vm ∧ U.heap = h0) (fun _ _ _ _ _ => True) (fun _ U o U' => ∃ v L, o = .returned v ∧ (Q_rm8 Z o0 z z0 ap rd h0 n0) v U'.heap L ∧ FrameEnd U o U' L ({ frames := 0, cells := 0, slots := 0, locals := 0 } : Room).cells ({ frames := 0, cells := 0, slots := 0, locals := 0 } : Room).slots) := by
  refine MetFree.of_bodySF (plainFor_of_name pn_2) hisR ?_
  intro p e s m args below meth c s₁ Bd hml0 hP hK
  obtain ⟨rfl, hZ, hh⟩ := hP
  have hx := Bd.exec
  have hby := Bd.bytes
  have hml : c.maxLocals = 3 := hml0
  have hown : s.vm.findClass "com/example/clockwrap/clockwrap/store/GarbageEstimate" = some m.cls := findClass_of_methodNamed Bd.named
  have hnm := (name_of_methodNamed Bd.named Bd.method).1
  have X0 : Stand p l e ({ frames := 0, cells := 0, slots := 0, locals := 0 } : Room) s m #[(.ref o0), (.long z)] below meth c s₁ [] 0 0 := Stand.of_body Bd
  have e0 : s₁.heap = h0 := by rw [← hh, Bd.state]; rfl
  have N0 := Fr.nil n0
  show OFin p e below (ORet (Q_rm8 Z o0 z z0 ap rd h0 n0) s ({ frames := 0, cells := 0, slots := 0, locals := 0 } : Room).cells ({ frames := 0, cells := 0, slots := 0, locals := 0 } : Room).slots) (s₁.setTop (entryFrame m #[(.ref o0), (.long z)] 3))
  refine OFin.go (fun t k => castTop (ef_rm8 m o0 z) k) ?_
  have K0 := Keep.refl h0 [o0]
  show OFin p e below (ORet (Q_rm8 Z o0 z z0 ap rd h0 n0) s ({ frames := 0, cells := 0, slots := 0, locals := 0 } : Room).cells ({ frames := 0, cells := 0, slots := 0, locals := 0 } : Room).slots) (s₁.setTop (mkF m 0 #[.val (.ref o0), .val (.long z), .second] []))
  have S1 : ∀ t, Steps p.tables e below (s₁.setTop (mkF m 2 #[.val (.ref o0), .val (.long z), .second] [(.long z), (.ref o0)])) t → Steps p.tables e below (s₁.setTop (mkF m 0 #[.val (.ref o0), .val (.long z), .second] [])) t := by
    intro t k
    show Steps p.tables e below (s₁.setTop (mkF m 0 #[.val (.ref o0), .val (.long z), .second] [])) t
    refine XS.aloadN X0.here hx rfl (hb hby d8_0) rfl rfl ?_
    show Steps p.tables e below (s₁.setTop (mkF m 1 #[.val (.ref o0), .val (.long z), .second] [(.ref o0)])) t
    refine XS.lloadN X0.here hx rfl (hb hby d8_1) rfl ?_
    exact k
  refine OFin.go S1 ?_
  obtain ⟨T2, h2, X2, e2, W2, st2⟩ := putF X0 hx hZ hown (host := "") (Or.inl (hw _ (List.mem_of_getElem? (i := 21) rfl))) Via.refl e0 F_o0_compactedLengthRead E_o0 (Or.inl (hw _ (List.mem_of_getElem? (i := 22) rfl))) (hw _ (List.mem_of_getElem? (i := 1) rfl)) (ty := .long) (by decide) rfl rfl (g := (mkF m 2 #[.val (.ref o0), .val (.long z), .second] [(.long z), (.ref o0)])) rfl rfl (hb hby d8_2)
  have Fw2 := F_o0_compactedLengthRead.same W2
  have N2 := Fr.snoc X2 N0 ge0
  have Z2 : n0 ≤ h2.size := Nat.le_trans Z0 (wr_le W2)
  have K2 := Keep.wr K0 W2 (Or.inl (List.mem_of_getElem? (i := 0) rfl))
  refine OFin.go st2 ?_
  show OFin p e below _ (T2.setTop (mkF m 5 #[.val (.ref o0), .val (.long z), .second] []))
  have S3 : ∀ t, Steps p.tables e below (T2.setTop (mkF m 7 #[.val (.ref o0), .val (.long z), .second] [(.ref o0), (.ref o0)])) t → Steps p.tables e below (T2.setTop (mkF m 5 #[.val (.ref o0), .val (.long z), .second] [])) t := by
    intro t k
    show Steps p.tables e below (T2.setTop (mkF m 5 #[.val (.ref o0), .val (.long z), .second] [])) t
    refine XS.aloadN X2.here hx rfl (hb hby d8_5) rfl rfl ?_
    show Steps p.tables e below (T2.setTop (mkF m 6 #[.val (.ref o0), .val (.long z), .second] [(.ref o0)])) t
    refine XS.aloadN X2.here hx rfl (hb hby d8_6) rfl rfl ?_
    exact k
  refine OFin.go S3 ?_
  have F4 := F_o0_appended.other W2 (Or.inr (slot_ne (Or.inl (hw _ (List.mem_of_getElem? (i := 13) rfl))) (Or.inl (hw _ (List.mem_of_getElem? (i := 22) rfl))) (by decide) (t := (.object "com/example/clockwrap/clockwrap/store/TimerLog$Tally")) (t' := .long) (by decide) (by decide)))
  obtain ⟨T5, X5, e5, st5⟩ := getF X2 hx hZ hown (host := "") (Or.inl (hw _ (List.mem_of_getElem? (i := 12) rfl))) Via.refl e2 F4 (g := (mkF m 7 #[.val (.ref o0), .val (.long z), .second] [(.ref o0), (.ref o0)])) rfl rfl (hb hby d8_7)
  refine OFin.go st5 ?_
  show OFin p e below _ (T5.setTop (mkF m 10 #[.val (.ref o0), .val (.long z), .second] [(.ref ap), (.ref o0)]))
  have F6 := F_o0_read.other W2 (Or.inr (slot_ne (Or.inl (hw _ (List.mem_of_getElem? (i := 15) rfl))) (Or.inl (hw _ (List.mem_of_getElem? (i := 22) rfl))) (by decide) (t := (.object "com/example/clockwrap/clockwrap/store/TimerLog$Tally")) (t' := .long) (by decide) (by decide)))
  have F7 := E_o0.wr W2
  obtain ⟨T8, h8, X8, e8, W8, st8⟩ := putF X5 hx hZ hown (host := "") (Or.inl (hw _ (List.mem_of_getElem? (i := 14) rfl))) Via.refl e5 F6 F7 (Or.inl (hw _ (List.mem_of_getElem? (i := 15) rfl))) (hw _ (List.mem_of_getElem? (i := 1) rfl)) (ty := (.object "com/example/clockwrap/clockwrap/store/TimerLog$Tally")) (by decide) rfl rfl (g := (mkF m 10 #[.val (.ref o0), .val (.long z), .second] [(.ref ap), (.ref o0)])) rfl rfl (hb hby d8_10)
  have Fw8 := F6.same W8
  have N8 := Fr.snoc X8 N2 ge0
  have Z8 : n0 ≤ h8.size := Nat.le_trans Z2 (wr_le W8)
  have K8 := Keep.wr K2 W8 (Or.inl (List.mem_of_getElem? (i := 0) rfl))
  refine OFin.go st8 ?_
  show OFin p e below _ (T8.setTop (mkF m 13 #[.val (.ref o0), .val (.long z), .second] []))
  have F9 := Fw2.other W8 (Or.inr (slot_ne (Or.inl (hw _ (List.mem_of_getElem? (i := 22) rfl))) (Or.inl (hw _ (List.mem_of_getElem? (i := 15) rfl))) (by decide) (t := .long) (t' := (.object "com/example/clockwrap/clockwrap/store/TimerLog$Tally")) (by decide) (by decide)))
  have F10 := F4.other W8 (Or.inr (slot_ne (Or.inl (hw _ (List.mem_of_getElem? (i := 13) rfl))) (Or.inl (hw _ (List.mem_of_getElem? (i := 15) rfl))) (by decide) (t := (.object "com/example/clockwrap/clockwrap/store/TimerLog$Tally")) (t' := (.object "com/example/clockwrap/clockwrap/store/TimerLog$Tally")) (by decide) (by decide)))
  exact finV X8 hx Bd.notSynchronized Bd.returns (hb hby d8_13) (by decide) (by decide) (by rw [e8]; exact ⟨rfl, N8, K8, F9, F10, Fw8⟩)
theorem ef_rm9 (m : MethodId) (o0 : Addr) : entryFrame m #[(.ref o0)] 2 = mkF m 0 #[.val (.ref o0), .unset] [] := by first | (simp [entryFrame, mkF, argsToLocals, Value.category]; done) | rfl
def Q_rm9 (Z : State) (o0 : Addr) (z0 : Int64) (ap rd : Addr) (x0 y0 x1 y1 : Int64) (h0 : Heap) (n0 : Nat) (v : Option Value) (h : Heap) (L : List Loc) : Prop := v = some (.long ((z0 + (x0 - x1)) - (y0 - y1))) ∧ Fr n0 L ∧ Keep h0 h []
theorem d9_0 : decode prog_29_method_2_code 0 = .ok (.aload_n 0, 1) := by decide +kernel
theorem d9_1 : decode prog_29_method_2_code 1 = .ok (.getfield 13, 3) := by decide +kernel
theorem d9_4 : decode prog_29_method_2_code 4 = .ok (.aload_n 0, 1) := by decide +kernel
theorem d9_5 : decode prog_29_method_2_code 5 = .ok (.getfield 18, 3) := by decide +kernel
theorem d9_8 : decode prog_29_method_2_code 8 = .ok (.invokevirtual 24, 3) := by decide +kernel
theorem d9_11 : decode prog_29_method_2_code 11 = .ok (.astore_n 1, 1) := by decide +kernel
theorem d9_12 : decode prog_29_method_2_code 12 = .ok (.aload_n 0, 1) := by decide +kernel
theorem d9_13 : decode prog_29_method_2_code 13 = .ok (.getfield 28, 3) := by decide +kernel
theorem d9_16 : decode prog_29_method_2_code 16 = .ok (.aload_n 1, 1) := by decide +kernel
theorem pd_4 : parseMethodDescriptor "()J" = some ⟨[], some .long⟩ := by decide +kernel
theorem d9_17 : decode prog_29_method_2_code 17 = .ok (.invokevirtual 32, 3) := by decide +kernel
theorem d9_20 : decode prog_29_method_2_code 20 = .ok (.ladd, 1) := by decide +kernel
theorem d9_21 : decode prog_29_method_2_code 21 = .ok (.aload_n 1, 1) := by decide +kernel
theorem d9_22 : decode prog_29_method_2_code 22 = .ok (.invokevirtual 36, 3) := by decide +kernel
theorem d9_25 : decode prog_29_method_2_code 25 = .ok (.lsub, 1) := by decide +kernel
theorem d9_26 : decode prog_29_method_2_code 26 = .ok (.lreturn, 1) := by decide +kernel
set_option maxRecDepth 65536 in
set_option maxHeartbeats 40000000 in
theorem rm9 (l : Launch) (Z : State) (a0 : Array Value) (hw : ∀ d ∈ tables_1, d.before a0 Z = true) (ws : List Jvm.Cond) (o0 : Addr) (z0 : Int64) (ap rd : Addr) (x0 y0 x1 y1 : Int64) (h0 : Heap) (n0 : Nat) (Z0 : n0 ≤ h0.size) (E_o0 : Exa Z h0 o0 "com/example/clockwrap/clockwrap/store/GarbageEstimate") (F_o0_compactedLengthRead : Fld Z h0 o0 "com/example/clockwrap/clockwrap/store/GarbageEstimate" "compactedLengthRead" "J" (.long z0)) (F_o0_appended : Fld Z h0 o0 "com/example/clockwrap/clockwrap/store/GarbageEstimate" "appended" "Lcom/example/clockwrap/clockwrap/store/TimerLog$Tally;" (.ref ap)) (F_o0_read : Fld Z h0 o0 "com/example/clockwrap/clockwrap/store/GarbageEstimate" "read" "Lcom/example/clockwrap/clockwrap/store/TimerLog$Tally;" (.ref rd)) (E_ap : Exa Z h0 ap "com/example/clockwrap/clockwrap/store/TimerLog$Tally") (F_ap_additionsLength : Fld Z h0 ap "com/example/clockwrap/clockwrap/store/TimerLog$Tally" "additionsLength" "J" (.long x0)) (F_ap_removedLength : Fld Z h0 ap "com/example/clockwrap/clockwrap/store/TimerLog$Tally" "removedLength" "J" (.long y0)) (F_rd_additionsLength : Fld Z h0 rd "com/example/clockwrap/clockwrap/store/TimerLog$Tally" "additionsLength" "J" (.long x1)) (F_rd_removedLength : Fld Z h0 rd "com/example/clockwrap/clockwrap/store/TimerLog$Tally" "removedLength" "J" (.long y1)) :
    MetFree l (⟨"com/example/clockwrap/clockwrap/store/GarbageEstimate", "compactedLength", "()J"⟩ : MethodName) (head1 (Jvm.Cond.code (⟨"com/example/clockwrap/clockwrap/store/GarbageEstimate", "compactedLength", "()J"⟩ : MethodName) prog_29_method_2_code 2 (some .long) :: ws) ({ frames := 4, cells := 1, slots := 2, locals := 90 } : Room)) (fun a U => a = #[(.ref o0)] ∧ Z.Warmed39 U.vm ∧ U.heap = h0) (fun _ _ _ _ _ => True) (fun _ U o U' => ∃ v L, o = .returned v ∧ (Q_rm9 Z o0 z0 ap rd x0 y0 x1 y1 h0 n0) v U'.heap L ∧ FrameEnd U o U' L ({ frames := 4, cells := 1, slots := 2, locals := 90 } : Room).cells ({ frames := 4, cells := 1, slots := 2, locals := 90 } : Room).slots) := by
  refine MetFree.of_bodySF (plainFor_of_name pn_2) hisR ?_
  intro p e s m args below meth c s₁ Bd hml0 hP hK
  obtain ⟨rfl, hZ, hh⟩ := hP
  have hx := Bd.exec
  have hby := Bd.bytes
  have hml : c.maxLocals = 2 := hml0
  have hown : s.vm.findClass "com/example/clockwrap/clockwrap/store/GarbageEstimate" = some m.cls := findClass_of_methodNamed Bd.named
  have hnm := (name_of_methodNamed Bd.named Bd.method).1
  have X0 : Stand p l e ({ frames := 4, cells := 1, slots := 2, locals := 90 } : Room) s m #[(.ref o0)] below meth c s₁ [] 0 0 := Stand.of_body Bd
  have e0 : s₁.heap = h0 := by rw [← hh, Bd.state]; rfl
  have N0 := Fr.nil n0
  show OFin p e below (ORet (Q_rm9 Z o0 z0 ap rd x0 y0 x1 y1 h0 n0) s ({ frames := 4, cells := 1, slots := 2, locals := 90 } : Room).cells ({ frames := 4, cells := 1, slots := 2, locals := 90 } : Room).slots) (s₁.setTop (entryFrame m #[(.ref o0)] 2))
  refine OFin.go (fun t k => castTop (ef_rm9 m o0) k) ?_
  have K0 := Keep.refl h0 []
  show OFin p e below (ORet (Q_rm9 Z o0 z0 ap rd x0 y0 x1 y1 h0 n0) s ({ frames := 4, cells := 1, slots := 2, locals := 90 } : Room).cells ({ frames := 4, cells := 1, slots := 2, locals := 90 } : Room).slots) (s₁.setTop (mkF m 0 #[.val (.ref o0), .unset] []))
  have S1 : ∀ t, Steps p.tables e below (s₁.setTop (mkF m 1 #[.val (.ref o0), .unset] [(.ref o0)])) t → Steps p.tables e below (s₁.setTop (mkF m 0 #[.val (.ref o0), .unset] [])) t := by
    intro t k
    show Steps p.tables e below (s₁.setTop (mkF m 0 #[.val (.ref o0), .unset] [])) t
    refine XS.aloadN X0.here hx rfl (hb hby d9_0) rfl rfl ?_
    exact k
  refine OFin.go S1 ?_
  obtain ⟨T2, X2, e2, st2⟩ := getF X0 hx hZ hown (host := "") (Or.inl (hw _ (List.mem_of_getElem? (i := 12) rfl))) Via.refl e0 F_o0_appended (g := (mkF m 1 #[.val (.ref o0), .unset] [(.ref o0)])) rfl rfl (hb hby d9_1)
  refine OFin.go st2 ?_
  show OFin p e below _ (T2.setTop (mkF m 4 #[.val (.ref o0), .unset] [(.ref ap)]))
  have S3 : ∀ t, Steps p.tables e below (T2.setTop (mkF m 5 #[.val (.ref o0), .unset] [(.ref o0), (.ref ap)])) t → Steps p.tables e below (T2.setTop (mkF m 4 #[.val (.ref o0), .unset] [(.ref ap)])) t := by
    intro t k
    show Steps p.tables e below (T2.setTop (mkF m 4 #[.val (.ref o0), .unset] [(.ref ap)])) t
    refine XS.aloadN X2.here hx rfl (hb hby d9_4) rfl rfl ?_
    exact k
  refine OFin.go S3 ?_
  obtain ⟨T4, X4, e4, st4⟩ := getF X2 hx hZ hown (host := "") (Or.inl (hw _ (List.mem_of_getElem? (i := 14) rfl))) Via.refl e2 F_o0_read (g := (mkF m 5 #[.val (.ref o0), .unset] [(.ref o0), (.ref ap)])) rfl rfl (hb hby d9_5)
  refine OFin.go st4 ?_
  show OFin p e below _ (T4.setTop (mkF m 8 #[.val (.ref o0), .unset] [(.ref rd), (.ref ap)]))
  obtain ⟨_, T5, Lc5, X5, hQ5, st5⟩ := virtQ X4 hx hZ (y := (⟨"com/example/clockwrap/clockwrap/store/TimerLog$Tally", "minus", "(Lcom/example/clockwrap/clockwrap/store/TimerLog$Tally;)Lcom/example/clockwrap/clockwrap/store/TimerLog$Tally;"⟩ : MethodName)) hown (hw _ (List.mem_of_getElem? (i := 60) rfl)) (hw _ (List.mem_of_getElem? (i := 62) rfl)) (hw _ (List.mem_of_getElem? (i := 10) rfl)) (hw _ (List.mem_of_getElem? (i := 64) rfl)) (hw _ (List.mem_of_getElem? (i := 61) rfl)) (hw _ (List.mem_of_getElem? (i := 63) rfl)) (by decide) E_ap (argsL := [(.ref rd)]) (rest := []) (rm10 l Z a0 hw [] ap rd x0 y0 x1 y1 h0 n0 Z0 F_ap_additionsLength F_ap_removedLength F_rd_additionsLength F_rd_removedLength) (W := 0) (by decide) (by decide) e4 (g := (mkF m 8 #[.val (.ref o0), .unset] [(.ref rd), (.ref ap)])) rfl (by rw [hml]; rfl) (lenOf pd_3 rfl) rfl (by show 2 * 0 + _ ≤ _; exact Nat.le_of_eq rfl) (hb hby d9_8) (Nat.le_of_ble_eq_true rfl) (Nat.le_of_ble_eq_true rfl)
  obtain ⟨b5, rfl, N5q, K5q, hb5, E5_b5, F5_b5_additionsLength, F5_b5_removedLength⟩ := hQ5
  have q6 : o0 ≠ b5 := Nat.ne_of_lt (Nat.lt_of_lt_of_le E_o0.lt hb5)
  have q7 : ap ≠ b5 := Nat.ne_of_lt (Nat.lt_of_lt_of_le E_ap.lt hb5)
  have q8 : rd ≠ b5 := Nat.ne_of_lt (Nat.lt_of_lt_of_le F_rd_additionsLength.lt hb5)
  have ge5 : n0 ≤ b5 := Nat.le_trans Z0 hb5
  have sz5 : h0.size ≤ b5 := Nat.le_trans K0.1 hb5
  have Z5 : n0 ≤ T5.heap.size := Nat.le_trans Z0 K5q.1
  have K5 := Keep.trans K0 K5q all0
  have N5 := Fr.app N0 N5q
  refine OFin.go st5 ?_
  show OFin p e below _ (T5.setTop (mkF m 11 #[.val (.ref o0), .unset] [(.ref b5)]))
  have S9 : ∀ t, Steps p.tables e below (T5.setTop (mkF m 13 #[.val (.ref o0), .val (.ref b5)] [(.ref o0)])) t → Steps p.tables e below (T5.setTop (mkF m 11 #[.val (.ref o0), .unset] [(.ref b5)])) t := by
    intro t k
    show Steps p.tables e below (T5.setTop (mkF m 11 #[.val (.ref o0), .unset] [(.ref b5)])) t
    refine XS.astoreN X5.here hx rfl (hb hby d9_11) rfl rfl (l' := #[.val (.ref o0), .val (.ref b5)]) rfl ?_
    show Steps p.tables e below (T5.setTop (mkF m 12 #[.val (.ref o0), .val (.ref b5)] [])) t
    refine XS.aloadN X5.here hx rfl (hb hby d9_12) rfl rfl ?_
    exact k
  refine OFin.go S9 ?_
  have F10 := F_o0_compactedLengthRead.keep K5q nin0
  obtain ⟨T11, X11, e11, st11⟩ := getF X5 hx hZ hown (host := "") (Or.inl (hw _ (List.mem_of_getElem? (i := 21) rfl))) Via.refl rfl F10 (g := (mkF m 13 #[.val (.ref o0), .val (.ref b5)] [(.ref o0)])) rfl rfl (hb hby d9_13)
  refine OFin.go st11 ?_
  show OFin p e below _ (T11.setTop (mkF m 16 #[.val (.ref o0), .val (.ref b5)] [(.long z0)]))
  have S12 : ∀ t, Steps p.tables e below (T11.setTop (mkF m 17 #[.val (.ref o0), .val (.ref b5)] [(.ref b5), (.long z0)])) t → Steps p.tables e below (T11.setTop (mkF m 16 #[.val (.ref o0), .val (.ref b5)] [(.long z0)])) t := by
    intro t k
    show Steps p.tables e below (T11.setTop (mkF m 16 #[.val (.ref o0), .val (.ref b5)] [(.long z0)])) t
    refine XS.aloadN X11.here hx rfl (hb hby d9_16) rfl rfl ?_
    exact k
  refine OFin.go S12 ?_
  obtain ⟨_, T13, Lc13, X13, hQ13, st13⟩ := virtQ X11 hx hZ (y := (⟨"com/example/clockwrap/clockwrap/store/TimerLog$Tally", "additionsLength", "()J"⟩ : MethodName)) hown (hw _ (List.mem_of_getElem? (i := 65) rfl)) (hw _ (List.mem_of_getElem? (i := 67) rfl)) (hw _ (List.mem_of_getElem? (i := 10) rfl)) (hw _ (List.mem_of_getElem? (i := 69) rfl)) (hw _ (List.mem_of_getElem? (i := 66) rfl)) (hw _ (List.mem_of_getElem? (i := 68) rfl)) (by decide) E5_b5 (argsL := []) (rest := [(.long z0)]) (rm11 l Z a0 hw [] b5 (x0 - x1) T5.heap n0 Z5 F5_b5_additionsLength) (W := 2) (by decide) (by decide) e11 (g := (mkF m 17 #[.val (.ref o0), .val (.ref b5)] [(.ref b5), (.long z0)])) rfl (by rw [hml]; rfl) (lenOf pd_4 rfl) rfl (by show 2 * 0 + _ ≤ _; exact Nat.le_of_eq rfl) (hb hby d9_17) (Nat.le_of_ble_eq_true rfl) (Nat.le_of_ble_eq_true rfl)
  obtain ⟨rfl, N13q, e13⟩ := hQ13
  have N13 := Fr.app N5 N13q
  refine OFin.go st13 ?_
  show OFin p e below _ (T13.setTop (mkF m 20 #[.val (.ref o0), .val (.ref b5)] [(.long (x0 - x1)), (.long z0)]))
  have S14 : ∀ t, Steps p.tables e below (T13.setTop (mkF m 22 #[.val (.ref o0), .val (.ref b5)] [(.ref b5), (.long (z0 + (x0 - x1)))])) t → Steps p.tables e below (T13.setTop (mkF m 20 #[.val (.ref o0), .val (.ref b5)] [(.long (x0 - x1)), (.long z0)])) t := by
    intro t k
    show Steps p.tables e below (T13.setTop (mkF m 20 #[.val (.ref o0), .val (.ref b5)] [(.long (x0 - x1)), (.long z0)])) t
    refine XS.ladd X13.here hx rfl (hb hby d9_20) rfl ?_
    show Steps p.tables e below (T13.setTop (mkF m 21 #[.val (.ref o0), .val (.ref b5)] [(.long (z0 + (x0 - x1)))])) t
    refine XS.aloadN X13.here hx rfl (hb hby d9_21) rfl rfl ?_
    exact k
  refine OFin.go S14 ?_
  obtain ⟨_, T15, Lc15, X15, hQ15, st15⟩ := virtQ X13 hx hZ (y := (⟨"com/example/clockwrap/clockwrap/store/TimerLog$Tally", "removedLength", "()J"⟩ : MethodName)) hown (hw _ (List.mem_of_getElem? (i := 70) rfl)) (hw _ (List.mem_of_getElem? (i := 72) rfl)) (hw _ (List.mem_of_getElem? (i := 10) rfl)) (hw _ (List.mem_of_getElem? (i := 74) rfl)) (hw _ (List.mem_of_getElem? (i := 71) rfl)) (hw _ (List.mem_of_getElem? (i := 73) rfl)) (by decide) E5_b5 (argsL := []) (rest := [(.long (z0 + (x0 - x1)))]) (rm12 l Z a0 hw [] b5 (y0 - y1) T5.heap n0 Z5 F5_b5_removedLength) (W := 2) (by decide) (by decide) e13 (g := (mkF m 22 #[.val (.ref o0), .val (.ref b5)] [(.ref b5), (.long (z0 + (x0 - x1)))])) rfl (by rw [hml]; rfl) (lenOf pd_4 rfl) rfl (by show 2 * 0 + _ ≤ _; exact Nat.le_of_eq rfl) (hb hby d9_22) (Nat.le_of_ble_eq_true rfl) (Nat.le_of_ble_eq_true rfl)
  obtain ⟨rfl, N15q, e15⟩ := hQ15
  have N15 := Fr.app N13 N15q
  refine OFin.go st15 ?_
  show OFin p e below _ (T15.setTop (mkF m 25 #[.val (.ref o0), .val (.ref b5)] [(.long (y0 - y1)), (.long (z0 + (x0 - x1)))]))
  have S16 : ∀ t, Steps p.tables e below (T15.setTop (mkF m 26 #[.val (.ref o0), .val (.ref b5)] [(.long ((z0 + (x0 - x1)) - (y0 - y1)))])) t → Steps p.tables e below (T15.setTop (mkF m 25 #[.val (.ref o0), .val (.ref b5)] [(.long (y0 - y1)), (.long (z0 + (x0 - x1)))])) t := by
    intro t k
    show Steps p.tables e below (T15.setTop (mkF m 25 #[.val (.ref o0), .val (.ref b5)] [(.long (y0 - y1)), (.long (z0 + (x0 - x1)))])) t
    refine XS.lsub X15.here hx rfl (hb hby d9_25) rfl ?_
    exact k
  refine OFin.go S16 ?_
  exact finJ X15 hx Bd.notSynchronized Bd.returns (hb hby d9_26) (by decide) (by decide) (by rw [e15]; exact ⟨rfl, N15, K5⟩)
theorem ef_rm13 (m : MethodId) (o0 : Addr) (z : Int64) : entryFrame m #[(.ref o0), (.long z)] 3 = mkF m 0 #[.val (.ref o0), .val (.long z), .second] [] := by first | (simp [entryFrame, mkF, argsToLocals, Value.category]; done) | rfl
def Q_rm13 (Z : State) (o0 : Addr) (z : Int64) (z0 : Int64) (ap rd : Addr) (x0 y0 x1 y1 : Int64) (h0 : Heap) (n0 : Nat) (v : Option Value) (h : Heap) (L : List Loc) : Prop := v = some (.long (z - ((z0 + (x0 - x1)) - (y0 - y1)))) ∧ Fr n0 L ∧ Keep h0 h []
theorem d13_0 : decode prog_29_method_3_code 0 = .ok (.lload_n 1, 1) := by decide +kernel
theorem d13_1 : decode prog_29_method_3_code 1 = .ok (.aload_n 0, 1) := by decide +kernel
theorem d13_2 : decode prog_29_method_3_code 2 = .ok (.invokevirtual 39, 3) := by decide +kernel
theorem d13_5 : decode prog_29_method_3_code 5 = .ok (.lsub, 1) := by decide +kernel
theorem d13_6 : decode prog_29_method_3_code 6 = .ok (.lreturn, 1) := by decide +kernel
set_option maxRecDepth 65536 in
set_option maxHeartbeats 40000000 in
theorem rm13 (l : Launch) (Z : State) (a0 : Array Value) (hw : ∀ d ∈ tables_1, d.before a0 Z = true) (ws : List Jvm.Cond) (o0 : Addr) (z : Int64) (z0 : Int64) (ap rd : Addr) (x0 y0 x1 y1 : Int64) (h0 : Heap) (n0 : Nat) (Z0 : n0 ≤ h0.size) (E_o0 : Exa Z h0 o0 "com/example/clockwrap/clockwrap/store/GarbageEstimate") (F_o0_compactedLengthRead : Fld Z h0 o0 "com/example/clockwrap/clockwrap/store/GarbageEstimate" "compactedLengthRead" "J" (.long z0)) (F_o0_appended : Fld Z h0 o0 "com/example/clockwrap/clockwrap/store/GarbageEstimate" "appended" "Lcom/example/clockwrap/clockwrap/store/TimerLog$Tally;" (.ref ap)) (F_o0_read : Fld Z h0 o0 "com/example/clockwrap/clockwrap/store/GarbageEstimate" "read" "Lcom/example/clockwrap/clockwrap/store/TimerLog$Tally;" (.ref rd)) (E_ap : Exa Z h0 ap "com/example/clockwrap/clockwrap/store/TimerLog$Tally") (F_ap_additionsLength : Fld Z h0 ap "com/example/clockwrap/clockwrap/store/TimerLog$Tally" "additionsLength" "J" (.long x0)) (F_ap_removedLength : Fld Z h0 ap "com/example/clockwrap/clockwrap/store/TimerLog$Tally" "removedLength" "J" (.long y0)) (F_rd_additionsLength : Fld Z h0 rd "com/example/clockwrap/clockwrap/store/TimerLog$Tally" "additionsLength" "J" (.long x1)) (F_rd_removedLength : Fld Z h0 rd "com/example/clockwrap/clockwrap/store/TimerLog$Tally" "removedLength" "J" (.long y1)) :
    MetFree l (⟨"com/example/clockwrap/clockwrap/store/GarbageEstimate", "garbage", "(J)J"⟩ : MethodName) (head1 (Jvm.Cond.code (⟨"com/example/clockwrap/clockwrap/store/GarbageEstimate", "garbage", "(J)J"⟩ : MethodName) prog_29_method_3_code 3 (some .long) :: ws) ({ frames := 5, cells := 1, slots := 2, locals := 120 } : Room)) (fun a U => a = #[(.ref o0), (.long z)] ∧ Z.Warmed39 U.vm ∧ U.heap = h0) (fun _ _ _ _ _ => True) (fun _ U o U' => ∃ v L, o = .returned v ∧ (Q_rm13 Z o0 z z0 ap rd x0 y0 x1 y1 h0 n0) v U'.heap L ∧ FrameEnd U o U' L ({ frames := 5, cells := 1, slots := 2, locals := 120 } : Room).cells ({ frames := 5, cells := 1, slots := 2, locals := 120 } : Room).slots) := by
  refine MetFree.of_bodySF (plainFor_of_name pn_2) hisR ?_
  intro p e s m args below meth c s₁ Bd hml0 hP hK
  obtain ⟨rfl, hZ, hh⟩ := hP
  have hx := Bd.exec
  have hby := Bd.bytes
  have hml : c.maxLocals = 3 := hml0
  have hown : s.vm.findClass "com/example/clockwrap/clockwrap/store/GarbageEstimate" = some m.cls := findClass_of_methodNamed Bd.named
  have hnm := (name_of_methodNamed Bd.named Bd.method).1
  have X0 : Stand p l e ({ frames := 5, cells := 1, slots := 2, locals := 120 } : Room) s m #[(.ref o0), (.long z)] below meth c s₁ [] 0 0 := Stand.of_body Bd
  have e0 : s₁.heap = h0 := by rw [← hh, Bd.state]; rfl
  have N0 := Fr.nil n0
  show OFin p e below (ORet (Q_rm13 Z o0 z z0 ap rd x0 y0 x1 y1 h0 n0) s ({ frames := 5, cells := 1, slots := 2, locals := 120 } : Room).cells ({ frames := 5, cells := 1, slots := 2, locals := 120 } : Room).slots) (s₁.setTop (entryFrame m #[(.ref o0), (.long z)] 3))
  refine OFin.go (fun t k => castTop (ef_rm13 m o0 z) k) ?_
  have K0 := Keep.refl h0 []
  show OFin p e below (ORet (Q_rm13 Z o0 z z0 ap rd x0 y0 x1 y1 h0 n0) s ({ frames := 5, cells := 1, slots := 2, locals := 120 } : Room).cells ({ frames := 5, cells := 1, slots := 2, locals := 120 } : Room).slots) (s₁.setTop (mkF m 0 #[.val (.ref o0), .val (.long z), .second] []))
  have S1 : ∀ t, Steps p.tables e below (s₁.setTop (mkF m 2 #[.val (.ref o0), .val (.long z), .second] [(.ref o0), (.long z)])) t → Steps p.tables e below (s₁.setTop (mkF m 0 #[.val (.ref o0), .val (.long z), .second] [])) t := by
    intro t k
    show Steps p.tables e below (s₁.setTop (mkF m 0 #[.val (.ref o0), .val (.long z), .second] [])) t
    refine XS.lloadN X0.here hx rfl (hb hby d13_0) rfl ?_
    show Steps p.tables e below (s₁.setTop (mkF m 1 #[.val (.ref o0), .val (.long z), .second] [(.long z)])) t
    refine XS.aloadN X0.here hx rfl (hb hby d13_1) rfl rfl ?_
    exact k
  refine OFin.go S1 ?_
  obtain ⟨_, T2, Lc2, X2, hQ2, st2⟩ := virtQ X0 hx hZ (y := (⟨"com/example/clockwrap/clockwrap/store/GarbageEstimate", "compactedLength", "()J"⟩ : MethodName)) hown (hw _ (List.mem_of_getElem? (i := 80) rfl)) (hw _ (List.mem_of_getElem? (i := 57) rfl)) (hw _ (List.mem_of_getElem? (i := 2) rfl)) (hw _ (List.mem_of_getElem? (i := 59) rfl)) (hw _ (List.mem_of_getElem? (i := 56) rfl)) (hw _ (List.mem_of_getElem? (i := 58) rfl)) (by decide) E_o0 (argsL := []) (rest := [(.long z)]) (rm9 l Z a0 hw [] o0  z0 ap rd x0 y0 x1 y1 h0 n0 Z0 E_o0 F_o0_compactedLengthRead F_o0_appended F_o0_read E_ap F_ap_additionsLength F_ap_removedLength F_rd_additionsLength F_rd_removedLength) (W := 2) (by decide) (by decide) e0 (g := (mkF m 2 #[.val (.ref o0), .val (.long z), .second] [(.ref o0), (.long z)])) rfl (by rw [hml]; rfl) (lenOf pd_4 rfl) rfl (by show 2 * 0 + _ ≤ _; exact Nat.le_of_eq rfl) (hb hby d13_2) (Nat.le_of_ble_eq_true rfl) (Nat.le_of_ble_eq_true rfl)
  obtain ⟨rfl, N2q, K2q⟩ := hQ2
  have Z2 : n0 ≤ T2.heap.size := Nat.le_trans Z0 K2q.1
  have K2 := Keep.trans K0 K2q all0
  have N2 := Fr.app N0 N2q
  refine OFin.go st2 ?_
  show OFin p e below _ (T2.setTop (mkF m 5 #[.val (.ref o0), .val (.long z), .second] [(.long ((z0 + (x0 - x1)) - (y0 - y1))), (.long z)]))
  have S3 : ∀ t, Steps p.tables e below (T2.setTop (mkF m 6 #[.val (.ref o0), .val (.long z), .second] [(.long (z - ((z0 + (x0 - x1)) - (y0 - y1))))])) t → Steps p.tables e below (T2.setTop (mkF m 5 #[.val (.ref o0), .val (.long z), .second] [(.long ((z0 + (x0 - x1)) - (y0 - y1))), (.long z)])) t := by
    intro t k
    show Steps p.tables e below (T2.setTop (mkF m 5 #[.val (.ref o0), .val (.long z), .second] [(.long ((z0 + (x0 - x1)) - (y0 - y1))), (.long z)])) t
    refine XS.lsub X2.here hx rfl (hb hby d13_5) rfl ?_
    exact k
  refine OFin.go S3 ?_
  exact finJ X2 hx Bd.notSynchronized Bd.returns (hb hby d13_6) (by decide) (by decide) (by exact ⟨rfl, N2, K2⟩)
theorem ef_rm14 (m : MethodId) (o0 : Addr) : entryFrame m #[(.ref o0)] 1 = mkF m 0 #[.val (.ref o0)] [] := by first | (simp [entryFrame, mkF, argsToLocals, Value.category]; done) | rfl
def Q_rm14 (Z : State) (o0 : Addr) (ap : Addr) (h0 : Heap) (n0 : Nat) (v : Option Value) (h : Heap) (L : List Loc) : Prop := v = some (.ref ap) ∧ Fr n0 L ∧ h = h0
theorem d14_0 : decode prog_29_method_6_code 0 = .ok (.aload_n 0, 1) := by decide +kernel
theorem d14_1 : decode prog_29_method_6_code 1 = .ok (.getfield 13, 3) := by decide +kernel
theorem d14_4 : decode prog_29_method_6_code 4 = .ok (.areturn, 1) := by decide +kernel
set_option maxRecDepth 65536 in
set_option maxHeartbeats 40000000 in
theorem rm14 (l : Launch) (Z : State) (a0 : Array Value) (hw : ∀ d ∈ tables_1, d.before a0 Z = true) (ws : List Jvm.Cond) (o0 : Addr) (ap : Addr) (h0 : Heap) (n0 : Nat) (Z0 : n0 ≤ h0.size) (F_o0_appended : Fld Z h0 o0 "com/example/clockwrap/clockwrap/store/GarbageEstimate" "appended" "Lcom/example/clockwrap/clockwrap/store/TimerLog$Tally;" (.ref ap)) :
    MetFree l (⟨"com/example/clockwrap/clockwrap/store/GarbageEstimate", "appendedSoFar", "()Lcom/example/clockwrap/clockwrap/store/TimerLog$Tally;"⟩ : MethodName) (head1 (Jvm.Cond.code (⟨"com/example/clockwrap/clockwrap/store/GarbageEstimate", "appendedSoFar", "()Lcom/example/clockwrap/clockwrap/store/TimerLog$Tally;"⟩ : MethodName) prog_29_method_6_code 1 (some (.object "com/example/clockwrap/clockwrap/store/TimerLog$Tally")) :: ws) ({ frames := 0, cells := 0, slots := 0, locals := 0 } : Room)) (fun a U => a = #[(.ref o0)] ∧ Z.Warmed39 U.vm ∧ U.heap = h0) (fun _ _ _ _ _ => True) (fun _ U o U' => ∃ v L, o = .returned v ∧ (Q_rm14 Z o0 ap h0 n0) v U'.heap L ∧ FrameEnd U o U' L ({ frames := 0, cells := 0, slots := 0, locals := 0 } : Room).cells ({ frames := 0, cells := 0, slots := 0, locals := 0 } : Room).slots) := by
  refine MetFree.of_bodySF (plainFor_of_name pn_2) hisR ?_
  intro p e s m args below meth c s₁ Bd hml0 hP hK
  obtain ⟨rfl, hZ, hh⟩ := hP
  have hx := Bd.exec
  have hby := Bd.bytes
  have hml : c.maxLocals = 1 := hml0
  have hown : s.vm.findClass "com/example/clockwrap/clockwrap/store/GarbageEstimate" = some m.cls := findClass_of_methodNamed Bd.named
  have hnm := (name_of_methodNamed Bd.named Bd.method).1
  have X0 : Stand p l e ({ frames := 0, cells := 0, slots := 0, locals := 0 } : Room) s m #[(.ref o0)] below meth c s₁ [] 0 0 := Stand.of_body Bd
  have e0 : s₁.heap = h0 := by rw [← hh, Bd.state]; rfl
  have N0 := Fr.nil n0
  show OFin p e below (ORet (Q_rm14 Z o0 ap h0 n0) s ({ frames := 0, cells := 0, slots := 0, locals := 0 } : Room).cells ({ frames := 0, cells := 0, slots := 0, locals := 0 } : Room).slots) (s₁.setTop (entryFrame m #[(.ref o0)] 1))
  refine OFin.go (fun t k => castTop (ef_rm14 m o0) k) ?_
  show OFin p e below (ORet (Q_rm14 Z o0 ap h0 n0) s ({ frames := 0, cells := 0, slots := 0, locals := 0 } : Room).cells ({ frames := 0, cells := 0, slots := 0, locals := 0 } : Room).slots) (s₁.setTop (mkF m 0 #[.val (.ref o0)] []))
  have S1 : ∀ t, Steps p.tables e below (s₁.setTop (mkF m 1 #[.val (.ref o0)] [(.ref o0)])) t → Steps p.tables e below (s₁.setTop (mkF m 0 #[.val (.ref o0)] [])) t := by
    intro t k
    show Steps p.tables e below (s₁.setTop (mkF m 0 #[.val (.ref o0)] [])) t
    refine XS.aloadN X0.here hx rfl (hb hby d14_0) rfl rfl ?_
    exact k
  refine OFin.go S1 ?_
  obtain ⟨T2, X2, e2, st2⟩ := getF X0 hx hZ hown (host := "") (Or.inl (hw _ (List.mem_of_getElem? (i := 12) rfl))) Via.refl e0 F_o0_appended (g := (mkF m 1 #[.val (.ref o0)] [(.ref o0)])) rfl rfl (hb hby d14_1)
  refine OFin.go st2 ?_
  show OFin p e below _ (T2.setTop (mkF m 4 #[.val (.ref o0)] [(.ref ap)]))
  exact finA X2 hx Bd.notSynchronized rfl Bd.returns rfl (hb hby d14_4) (by decide) (by decide) (⟨rfl, N0, e2⟩)
theorem ef_rm0 (m : MethodId) (j0 : Int64) (j1 : Int64) (j2 : Int64) (j3 : Int64) (j4 : Int64) (j5 : Int64) : entryFrame m #[(.long j0), (.long j1), (.long j2), (.long j3), (.long j4), (.long j5)] maxLocals = mkF m 0 #[.val (.long j0), .second, .val (.long j1), .second, .val (.long j2), .second, .val (.long j3), .second, .val (.long j4), .second, .val (.long j5), .second, .unset, .unset, .unset, .unset, .unset, .unset, .unset, .unset] [] := by first | (simp [entryFrame, mkF, argsToLocals, Value.category, maxLocals]; done) | rfl
theorem pn_3 : plainName "com/example/clockwrap/clockwrap/store/GarbageEstimateTakeAllAsLivePinLaw" = true := by first | (simp [plainName, overriddenIn]; done) | decide +kernel
def Q_rm0 (Z : State) (j0 : Int64) (j1 : Int64) (j2 : Int64) (j3 : Int64) (j4 : Int64) (j5 : Int64) (aN : Addr) (h0 : Heap) (n0 : Nat) (v : Option Value) (h : Heap) (L : List Loc) : Prop := v = some (.int (1 : Int32)) ∧ Fr n0 L
theorem pd_5 : parseMethodDescriptor "(J)V" = some ⟨[.long], none⟩ := by decide +kernel
theorem pd_6 : parseMethodDescriptor "(Lcom/example/clockwrap/clockwrap/store/TimerLog$Tally;)V" = some ⟨[(.object "com/example/clockwrap/clockwrap/store/TimerLog$Tally")], none⟩ := by decide +kernel
theorem own_l57 (j0 j1 j2 j3 j4 j5 : Int64)  : (((j3 + (((0 : Int64) + j1) - ((0 : Int64) + j1))) - (((0 : Int64) + j2) - ((0 : Int64) + j2))) = j3) := by
  grind
theorem pd_7 : parseMethodDescriptor "(J)J" = some ⟨[.long], some .long⟩ := by decide +kernel
theorem own_l78 (j0 j1 j2 j3 j4 j5 : Int64)  : ((j0 - ((j3 + (((0 : Int64) + j1) - ((0 : Int64) + j1))) - (((0 : Int64) + j2) - ((0 : Int64) + j2)))) = (j0 - j3)) := by
  grind
theorem pd_8 : parseMethodDescriptor "()Lcom/example/clockwrap/clockwrap/store/TimerLog$Tally;" = some ⟨[], some (.object "com/example/clockwrap/clockwrap/store/TimerLog$Tally")⟩ := by decide +kernel
theorem own_l102 (j0 j1 j2 j3 j4 j5 : Int64)  : (((0 : Int64) + j1) = j1) := by
  grind
theorem own_l113 (j0 j1 j2 j3 j4 j5 : Int64)  : (((0 : Int64) + j2) = j2) := by
  grind
theorem own_l144 (j0 j1 j2 j3 j4 j5 : Int64)  : (((j3 + ((((0 : Int64) + j1) + j4) - ((0 : Int64) + j1))) - ((((0 : Int64) + j2) + j5) - ((0 : Int64) + j2))) = ((j3 + j4) - j5)) := by
  grind
set_option maxRecDepth 65536 in
set_option maxHeartbeats 40000000 in
theorem rm0 (l : Launch) (Z : State) (a0 : Array Value) (hw : ∀ d ∈ tables_1, d.before a0 Z = true) (ws : List Jvm.Cond) (j0 : Int64) (j1 : Int64) (j2 : Int64) (j3 : Int64) (j4 : Int64) (j5 : Int64) (aN : Addr) (h0 : Heap) (n0 : Nat) (Z0 : n0 ≤ h0.size) (SN : Sta Z h0 "com/example/clockwrap/clockwrap/store/TimerLog$Tally" "NONE" "Lcom/example/clockwrap/clockwrap/store/TimerLog$Tally;" (.ref aN)) (E_aN : Exa Z h0 aN "com/example/clockwrap/clockwrap/store/TimerLog$Tally") (F_aN_additionsLength : Fld Z h0 aN "com/example/clockwrap/clockwrap/store/TimerLog$Tally" "additionsLength" "J" (.long (0 : Int64))) (F_aN_removedLength : Fld Z h0 aN "com/example/clockwrap/clockwrap/store/TimerLog$Tally" "removedLength" "J" (.long (0 : Int64))) :
    MetFree l x (head1 (Jvm.Cond.code x code maxLocals ret :: ws) room_1) (fun a U => a = #[(.long j0), (.long j1), (.long j2), (.long j3), (.long j4), (.long j5)] ∧ Z.Warmed39 U.vm ∧ U.heap = h0) (fun _ _ _ _ _ => True) (fun _ U o U' => ∃ v L, o = .returned v ∧ (Q_rm0 Z j0 j1 j2 j3 j4 j5 aN h0 n0) v U'.heap L ∧ FrameEnd U o U' L 24 128) := by
  refine MetFree.of_bodySF (plainFor_of_name pn_3) hisR ?_
  intro p e s m args below meth c s₁ Bd hml0 hP hK
  obtain ⟨rfl, hZ, hh⟩ := hP
  have hx := Bd.exec
  have hby := Bd.bytes
  have hml : c.maxLocals = 20 := hml0
  have hown : s.vm.findClass "com/example/clockwrap/clockwrap/store/GarbageEstimateTakeAllAsLivePinLaw" = some m.cls := findClass_of_methodNamed Bd.named
  have hnm := (name_of_methodNamed Bd.named Bd.method).1
  have X0 : Stand p l e room_1 s m #[(.long j0), (.long j1), (.long j2), (.long j3), (.long j4), (.long j5)] below meth c s₁ [] 0 0 := Stand.of_body Bd
  have e0 : s₁.heap = h0 := by rw [← hh, Bd.state]; rfl
  have N0 := Fr.nil n0
  show OFin p e below (ORet (Q_rm0 Z j0 j1 j2 j3 j4 j5 aN h0 n0) s 24 128) (s₁.setTop (entryFrame m #[(.long j0), (.long j1), (.long j2), (.long j3), (.long j4), (.long j5)] maxLocals))
  refine OFin.go (fun t k => castTop (ef_rm0 m j0 j1 j2 j3 j4 j5) k) ?_
  show OFin p e below (ORet (Q_rm0 Z j0 j1 j2 j3 j4 j5 aN h0 n0) s 24 128) (s₁.setTop (mkF m 0 #[.val (.long j0), .second, .val (.long j1), .second, .val (.long j2), .second, .val (.long j3), .second, .val (.long j4), .second, .val (.long j5), .second, .unset, .unset, .unset, .unset, .unset, .unset, .unset, .unset] []))
  obtain ⟨T1, h1, X1, e1, E1, A1, D1, -, st1⟩ := newO X0 hx hZ hown (hw _ (List.mem_of_getElem? (i := 0) rfl)) (hw _ (List.mem_of_getElem? (i := 1) rfl)) (hw _ (List.mem_of_getElem? (i := 2) rfl)) e0 (g := (mkF m 0 #[.val (.long j0), .second, .val (.long j1), .second, .val (.long j2), .second, .val (.long j3), .second, .val (.long j4), .second, .val (.long j5), .second, .unset, .unset, .unset, .unset, .unset, .unset, .unset, .unset] [])) rfl (hb hby at_0) (Nat.le_of_ble_eq_true rfl) (Nat.le_of_ble_eq_true rfl)
  obtain ⟨b1, g1⟩ : ∃ z, z = h0.size := ⟨_, rfl⟩
  rw [← g1] at A1 D1 st1
  have q2 : aN ≠ b1 := up_lt E_aN.lt g1
  have ge1 : n0 ≤ b1 := Nat.le_trans Z0 (Nat.le_of_eq g1.symm)
  have Z1 : n0 ≤ h1.size := Nat.le_trans Z0 E1.1
  have F1_appended : Fld Z h1 b1 "com/example/clockwrap/clockwrap/store/GarbageEstimate" "appended" "Lcom/example/clockwrap/clockwrap/store/TimerLog$Tally;" .null := D1 (Or.inl (hw _ (List.mem_of_getElem? (i := 13) rfl))) (ty := (.object "com/example/clockwrap/clockwrap/store/TimerLog$Tally")) (by decide)
  have F1_read : Fld Z h1 b1 "com/example/clockwrap/clockwrap/store/GarbageEstimate" "read" "Lcom/example/clockwrap/clockwrap/store/TimerLog$Tally;" .null := D1 (Or.inl (hw _ (List.mem_of_getElem? (i := 15) rfl))) (ty := (.object "com/example/clockwrap/clockwrap/store/TimerLog$Tally")) (by decide)
  have F1_compactedLengthRead : Fld Z h1 b1 "com/example/clockwrap/clockwrap/store/GarbageEstimate" "compactedLengthRead" "J" (.long (0 : Int64)) := D1 (Or.inl (hw _ (List.mem_of_getElem? (i := 22) rfl))) (ty := .long) (by decide)
  refine OFin.go st1 ?_
  show OFin p e below _ (T1.setTop (mkF m 3 #[.val (.long j0), .second, .val (.long j1), .second, .val (.long j2), .second, .val (.long j3), .second, .val (.long j4), .second, .val (.long j5), .second, .unset, .unset, .unset, .unset, .unset, .unset, .unset, .unset] [(.ref b1)]))
  have S3 : ∀ t, Steps p.tables e below (T1.setTop (mkF m 5 #[.val (.long j0), .second, .val (.long j1), .second, .val (.long j2), .second, .val (.long j3), .second, .val (.long j4), .second, .val (.long j5), .second, .unset, .unset, .unset, .unset, .unset, .unset, .unset, .unset] [(.long j0), (.ref b1), (.ref b1)])) t → Steps p.tables e below (T1.setTop (mkF m 3 #[.val (.long j0), .second, .val (.long j1), .second, .val (.long j2), .second, .val (.long j3), .second, .val (.long j4), .second, .val (.long j5), .second, .unset, .unset, .unset, .unset, .unset, .unset, .unset, .unset] [(.ref b1)])) t := by
    intro t k
    show Steps p.tables e below (T1.setTop (mkF m 3 #[.val (.long j0), .second, .val (.long j1), .second, .val (.long j2), .second, .val (.long j3), .second, .val (.long j4), .second, .val (.long j5), .second, .unset, .unset, .unset, .unset, .unset, .unset, .unset, .unset] [(.ref b1)])) t
    refine XS.dup X1.here hx rfl (hb hby at_3) rfl rfl ?_
    show Steps p.tables e below (T1.setTop (mkF m 4 #[.val (.long j0), .second, .val (.long j1), .second, .val (.long j2), .second, .val (.long j3), .second, .val (.long j4), .second, .val (.long j5), .second, .unset, .unset, .unset, .unset, .unset, .unset, .unset, .unset] [(.ref b1), (.ref b1)])) t
    refine XS.lloadN X1.here hx rfl (hb hby at_4) rfl ?_
    exact k
  refine OFin.go S3 ?_
  have F5 := SN.ext E1
  obtain ⟨_, T4, Lc4, X4, hQ4, st4⟩ := specQ X1 hx hZ (y := (⟨"com/example/clockwrap/clockwrap/store/GarbageEstimate", "<init>", "(J)V"⟩ : MethodName)) rfl hown (hw _ (List.mem_of_getElem? (i := 3) rfl)) (hw _ (List.mem_of_getElem? (i := 4) rfl)) (hw _ (List.mem_of_getElem? (i := 2) rfl)) (hw _ (List.mem_of_getElem? (i := 5) rfl)) (by decide) (a := b1) (argsL := [(.long j0)]) (rest := [(.ref b1)]) (rm1 l Z a0 hw [] b1 j0 aN h1 n0 Z1 ge1 F5 A1 F1_compactedLengthRead F1_appended F1_read) (W := 1) (by decide) (by decide) e1 (g := (mkF m 5 #[.val (.long j0), .second, .val (.long j1), .second, .val (.long j2), .second, .val (.long j3), .second, .val (.long j4), .second, .val (.long j5), .second, .unset, .unset, .unset, .unset, .unset, .unset, .unset, .unset] [(.long j0), (.ref b1), (.ref b1)])) rfl (by rw [hml]; rfl) (lenOf pd_5 rfl) rfl (by show 2 * 0 + _ ≤ _; exact Nat.le_of_eq rfl) (hb hby at_5) (Nat.le_of_ble_eq_true rfl) (Nat.le_of_ble_eq_true rfl)
  obtain ⟨rfl, N4q, K4q, F4_b1_compactedLengthRead, F4_b1_appended, F4_b1_read⟩ := hQ4
  have Z4 : n0 ≤ T4.heap.size := Nat.le_trans Z1 K4q.1
  have N4 := Fr.app N0 N4q
  refine OFin.go st4 ?_
  show OFin p e below _ (T4.setTop (mkF m 8 #[.val (.long j0), .second, .val (.long j1), .second, .val (.long j2), .second, .val (.long j3), .second, .val (.long j4), .second, .val (.long j5), .second, .unset, .unset, .unset, .unset, .unset, .unset, .unset, .unset] [(.ref b1)]))
  have S6 : ∀ t, Steps p.tables e below (T4.setTop (mkF m 10 #[.val (.long j0), .second, .val (.long j1), .second, .val (.long j2), .second, .val (.long j3), .second, .val (.long j4), .second, .val (.long j5), .second, .val (.ref b1), .unset, .unset, .unset, .unset, .unset, .unset, .unset] [])) t → Steps p.tables e below (T4.setTop (mkF m 8 #[.val (.long j0), .second, .val (.long j1), .second, .val (.long j2), .second, .val (.long j3), .second, .val (.long j4), .second, .val (.long j5), .second, .unset, .unset, .unset, .unset, .unset, .unset, .unset, .unset] [(.ref b1)])) t := by
    intro t k
    show Steps p.tables e below (T4.setTop (mkF m 8 #[.val (.long j0), .second, .val (.long j1), .second, .val (.long j2), .second, .val (.long j3), .second, .val (.long j4), .second, .val (.long j5), .second, .unset, .unset, .unset, .unset, .unset, .unset, .unset, .unset] [(.ref b1)])) t
    refine XS.astore X4.here hx rfl (hb hby at_8) rfl rfl (l' := #[.val (.long j0), .second, .val (.long j1), .second, .val (.long j2), .second, .val (.long j3), .second, .val (.long j4), .second, .val (.long j5), .second, .val (.ref b1), .unset, .unset, .unset, .unset, .unset, .unset, .unset]) rfl ?_
    exact k
  refine OFin.go S6 ?_
  obtain ⟨T7, h7, X7, e7, E7, A7, D7, -, st7⟩ := newO X4 hx hZ hown (hw _ (List.mem_of_getElem? (i := 23) rfl)) (hw _ (List.mem_of_getElem? (i := 24) rfl)) (hw _ (List.mem_of_getElem? (i := 10) rfl)) rfl (g := (mkF m 10 #[.val (.long j0), .second, .val (.long j1), .second, .val (.long j2), .second, .val (.long j3), .second, .val (.long j4), .second, .val (.long j5), .second, .val (.ref b1), .unset, .unset, .unset, .unset, .unset, .unset, .unset] [])) rfl (hb hby at_10) (Nat.le_of_ble_eq_true rfl) (Nat.le_of_ble_eq_true rfl)
  obtain ⟨b7, g7⟩ : ∃ z, z = T4.heap.size := ⟨_, rfl⟩
  rw [← g7] at A7 D7 st7
  have F8 := E_aN.ext E1
  have F9 := F8.keep K4q
  have q10 : aN ≠ b7 := up_lt F9.lt g7
  have F11 := A1.keep K4q
  have q12 : b1 ≠ b7 := up_lt F11.lt g7
  have ge7 : n0 ≤ b7 := Nat.le_trans Z4 (Nat.le_of_eq g7.symm)
  have Z7 : n0 ≤ h7.size := Nat.le_trans Z4 E7.1
  have F7_additionsLength : Fld Z h7 b7 "com/example/clockwrap/clockwrap/store/TimerLog$Tally" "additionsLength" "J" (.long (0 : Int64)) := D7 (Or.inr (hw _ (List.mem_of_getElem? (i := 35) rfl))) (ty := .long) (by decide)
  have F7_removedLength : Fld Z h7 b7 "com/example/clockwrap/clockwrap/store/TimerLog$Tally" "removedLength" "J" (.long (0 : Int64)) := D7 (Or.inr (hw _ (List.mem_of_getElem? (i := 37) rfl))) (ty := .long) (by decide)
  refine OFin.go st7 ?_
  show OFin p e below _ (T7.setTop (mkF m 13 #[.val (.long j0), .second, .val (.long j1), .second, .val (.long j2), .second, .val (.long j3), .second, .val (.long j4), .second, .val (.long j5), .second, .val (.ref b1), .unset, .unset, .unset, .unset, .unset, .unset, .unset] [(.ref b7)]))
  have S13 : ∀ t, Steps p.tables e below (T7.setTop (mkF m 17 #[.val (.long j0), .second, .val (.long j1), .second, .val (.long j2), .second, .val (.long j3), .second, .val (.long j4), .second, .val (.long j5), .second, .val (.ref b1), .unset, .unset, .unset, .unset, .unset, .unset, .unset] [(.long j2), (.long j1), (.ref b7), (.ref b7)])) t → Steps p.tables e below (T7.setTop (mkF m 13 #[.val (.long j0), .second, .val (.long j1), .second, .val (.long j2), .second, .val (.long j3), .second, .val (.long j4), .second, .val (.long j5), .second, .val (.ref b1), .unset, .unset, .unset, .unset, .unset, .unset, .unset] [(.ref b7)])) t := by
    intro t k
    show Steps p.tables e below (T7.setTop (mkF m 13 #[.val (.long j0), .second, .val (.long j1), .second, .val (.long j2), .second, .val (.long j3), .second, .val (.long j4), .second, .val (.long j5), .second, .val (.ref b1), .unset, .unset, .unset, .unset, .unset, .unset, .unset] [(.ref b7)])) t
    refine XS.dup X7.here hx rfl (hb hby at_13) rfl rfl ?_
    show Steps p.tables e below (T7.setTop (mkF m 14 #[.val (.long j0), .second, .val (.long j1), .second, .val (.long j2), .second, .val (.long j3), .second, .val (.long j4), .second, .val (.long j5), .second, .val (.ref b1), .unset, .unset, .unset, .unset, .unset, .unset, .unset] [(.ref b7), (.ref b7)])) t
    refine XS.lloadN X7.here hx rfl (hb hby at_14) rfl ?_
    show Steps p.tables e below (T7.setTop (mkF m 15 #[.val (.long j0), .second, .val (.long j1), .second, .val (.long j2), .second, .val (.long j3), .second, .val (.long j4), .second, .val (.long j5), .second, .val (.ref b1), .unset, .unset, .unset, .unset, .unset, .unset, .unset] [(.long j1), (.ref b7), (.ref b7)])) t
    refine XS.lload X7.here hx rfl (hb hby at_15) rfl ?_
    exact k
  refine OFin.go S13 ?_
  obtain ⟨_, T14, Lc14, X14, hQ14, st14⟩ := specQ X7 hx hZ (y := (⟨"com/example/clockwrap/clockwrap/store/TimerLog$Tally", "<init>", "(JJ)V"⟩ : MethodName)) rfl hown (hw _ (List.mem_of_getElem? (i := 25) rfl)) (hw _ (List.mem_of_getElem? (i := 26) rfl)) (hw _ (List.mem_of_getElem? (i := 10) rfl)) (hw _ (List.mem_of_getElem? (i := 27) rfl)) (by decide) (a := b7) (argsL := [(.long j1), (.long j2)]) (rest := [(.ref b7)]) (rm4 l Z a0 hw [] b7 j1 j2 h7 n0 Z7 ge7 A7 F7_additionsLength F7_removedLength) (W := 1) (by decide) (by decide) e7 (g := (mkF m 17 #[.val (.long j0), .second, .val (.long j1), .second, .val (.long j2), .second, .val (.long j3), .second, .val (.long j4), .second, .val (.long j5), .second, .val (.ref b1), .unset, .unset, .unset, .unset, .unset, .unset, .unset] [(.long j2), (.long j1), (.ref b7), (.ref b7)])) rfl (by rw [hml]; rfl) (lenOf pd_1 rfl) rfl (by show 2 * 0 + _ ≤ _; exact Nat.le_of_eq rfl) (hb hby at_17) (Nat.le_of_ble_eq_true rfl) (Nat.le_of_ble_eq_true rfl)
  obtain ⟨rfl, N14q, K14q, F14_b7_additionsLength, F14_b7_removedLength⟩ := hQ14
  have Z14 : n0 ≤ T14.heap.size := Nat.le_trans Z7 K14q.1
  have N14 := Fr.app N4 N14q
  refine OFin.go st14 ?_
  show OFin p e below _ (T14.setTop (mkF m 20 #[.val (.long j0), .second, .val (.long j1), .second, .val (.long j2), .second, .val (.long j3), .second, .val (.long j4), .second, .val (.long j5), .second, .val (.ref b1), .unset, .unset, .unset, .unset, .unset, .unset, .unset] [(.ref b7)]))
  have S15 : ∀ t, Steps p.tables e below (T14.setTop (mkF m 22 #[.val (.long j0), .second, .val (.long j1), .second, .val (.long j2), .second, .val (.long j3), .second, .val (.long j4), .second, .val (.long j5), .second, .val (.ref b1), .val (.ref b7), .unset, .unset, .unset, .unset, .unset, .unset] [])) t → Steps p.tables e below (T14.setTop (mkF m 20 #[.val (.long j0), .second, .val (.long j1), .second, .val (.long j2), .second, .val (.long j3), .second, .val (.long j4), .second, .val (.long j5), .second, .val (.ref b1), .unset, .unset, .unset, .unset, .unset, .unset, .unset] [(.ref b7)])) t := by
    intro t k
    show Steps p.tables e below (T14.setTop (mkF m 20 #[.val (.long j0), .second, .val (.long j1), .second, .val (.long j2), .second, .val (.long j3), .second, .val (.long j4), .second, .val (.long j5), .second, .val (.ref b1), .unset, .unset, .unset, .unset, .unset, .unset, .unset] [(.ref b7)])) t
    refine XS.astore X14.here hx rfl (hb hby at_20) rfl rfl (l' := #[.val (.long j0), .second, .val (.long j1), .second, .val (.long j2), .second, .val (.long j3), .second, .val (.long j4), .second, .val (.long j5), .second, .val (.ref b1), .val (.ref b7), .unset, .unset, .unset, .unset, .unset, .unset]) rfl ?_
    exact k
  refine OFin.go S15 ?_
  obtain ⟨T16, h16, X16, e16, E16, A16, D16, -, st16⟩ := newO X14 hx hZ hown (hw _ (List.mem_of_getElem? (i := 23) rfl)) (hw _ (List.mem_of_getElem? (i := 24) rfl)) (hw _ (List.mem_of_getElem? (i := 10) rfl)) rfl (g := (mkF m 22 #[.val (.long j0), .second, .val (.long j1), .second, .val (.long j2), .second, .val (.long j3), .second, .val (.long j4), .second, .val (.long j5), .second, .val (.ref b1), .val (.ref b7), .unset, .unset, .unset, .unset, .unset, .unset] [])) rfl (hb hby at_22) (Nat.le_of_ble_eq_true rfl) (Nat.le_of_ble_eq_true rfl)
  obtain ⟨b16, g16⟩ : ∃ z, z = T14.heap.size := ⟨_, rfl⟩
  rw [← g16] at A16 D16 st16
  have F17 := F9.ext E7
  have F18 := F17.keep K14q
  have q19 : aN ≠ b16 := up_lt F18.lt g16
  have F20 := F11.ext E7
  have F21 := F20.keep K14q
  have q22 : b1 ≠ b16 := up_lt F21.lt g16
  have F23 := A7.keep K14q
  have q24 : b7 ≠ b16 := up_lt F23.lt g16
  have ge16 : n0 ≤ b16 := Nat.le_trans Z14 (Nat.le_of_eq g16.symm)
  have Z16 : n0 ≤ h16.size := Nat.le_trans Z14 E16.1
  have F16_additionsLength : Fld Z h16 b16 "com/example/clockwrap/clockwrap/store/TimerLog$Tally" "additionsLength" "J" (.long (0 : Int64)) := D16 (Or.inr (hw _ (List.mem_of_getElem? (i := 35) rfl))) (ty := .long) (by decide)
  have F16_removedLength : Fld Z h16 b16 "com/example/clockwrap/clockwrap/store/TimerLog$Tally" "removedLength" "J" (.long (0 : Int64)) := D16 (Or.inr (hw _ (List.mem_of_getElem? (i := 37) rfl))) (ty := .long) (by decide)
  refine OFin.go st16 ?_
  show OFin p e below _ (T16.setTop (mkF m 25 #[.val (.long j0), .second, .val (.long j1), .second, .val (.long j2), .second, .val (.long j3), .second, .val (.long j4), .second, .val (.long j5), .second, .val (.ref b1), .val (.ref b7), .unset, .unset, .unset, .unset, .unset, .unset] [(.ref b16)]))
  have S25 : ∀ t, Steps p.tables e below (T16.setTop (mkF m 30 #[.val (.long j0), .second, .val (.long j1), .second, .val (.long j2), .second, .val (.long j3), .second, .val (.long j4), .second, .val (.long j5), .second, .val (.ref b1), .val (.ref b7), .unset, .unset, .unset, .unset, .unset, .unset] [(.long j5), (.long j4), (.ref b16), (.ref b16)])) t → Steps p.tables e below (T16.setTop (mkF m 25 #[.val (.long j0), .second, .val (.long j1), .second, .val (.long j2), .second, .val (.long j3), .second, .val (.long j4), .second, .val (.long j5), .second, .val (.ref b1), .val (.ref b7), .unset, .unset, .unset, .unset, .unset, .unset] [(.ref b16)])) t := by
    intro t k
    show Steps p.tables e below (T16.setTop (mkF m 25 #[.val (.long j0), .second, .val (.long j1), .second, .val (.long j2), .second, .val (.long j3), .second, .val (.long j4), .second, .val (.long j5), .second, .val (.ref b1), .val (.ref b7), .unset, .unset, .unset, .unset, .unset, .unset] [(.ref b16)])) t
    refine XS.dup X16.here hx rfl (hb hby at_25) rfl rfl ?_
    show Steps p.tables e below (T16.setTop (mkF m 26 #[.val (.long j0), .second, .val (.long j1), .second, .val (.long j2), .second, .val (.long j3), .second, .val (.long j4), .second, .val (.long j5), .second, .val (.ref b1), .val (.ref b7), .unset, .unset, .unset, .unset, .unset, .unset] [(.ref b16), (.ref b16)])) t
    refine XS.lload X16.here hx rfl (hb hby at_26) rfl ?_
    show Steps p.tables e below (T16.setTop (mkF m 28 #[.val (.long j0), .second, .val (.long j1), .second, .val (.long j2), .second, .val (.long j3), .second, .val (.long j4), .second, .val (.long j5), .second, .val (.ref b1), .val (.ref b7), .unset, .unset, .unset, .unset, .unset, .unset] [(.long j4), (.ref b16), (.ref b16)])) t
    refine XS.lload X16.here hx rfl (hb hby at_28) rfl ?_
    exact k
  refine OFin.go S25 ?_
  obtain ⟨_, T26, Lc26, X26, hQ26, st26⟩ := specQ X16 hx hZ (y := (⟨"com/example/clockwrap/clockwrap/store/TimerLog$Tally", "<init>", "(JJ)V"⟩ : MethodName)) rfl hown (hw _ (List.mem_of_getElem? (i := 25) rfl)) (hw _ (List.mem_of_getElem? (i := 26) rfl)) (hw _ (List.mem_of_getElem? (i := 10) rfl)) (hw _ (List.mem_of_getElem? (i := 27) rfl)) (by decide) (a := b16) (argsL := [(.long j4), (.long j5)]) (rest := [(.ref b16)]) (rm4 l Z a0 hw [] b16 j4 j5 h16 n0 Z16 ge16 A16 F16_additionsLength F16_removedLength) (W := 1) (by decide) (by decide) e16 (g := (mkF m 30 #[.val (.long j0), .second, .val (.long j1), .second, .val (.long j2), .second, .val (.long j3), .second, .val (.long j4), .second, .val (.long j5), .second, .val (.ref b1), .val (.ref b7), .unset, .unset, .unset, .unset, .unset, .unset] [(.long j5), (.long j4), (.ref b16), (.ref b16)])) rfl (by rw [hml]; rfl) (lenOf pd_1 rfl) rfl (by show 2 * 0 + _ ≤ _; exact Nat.le_of_eq rfl) (hb hby at_30) (Nat.le_of_ble_eq_true rfl) (Nat.le_of_ble_eq_true rfl)
  obtain ⟨rfl, N26q, K26q, F26_b16_additionsLength, F26_b16_removedLength⟩ := hQ26
  have Z26 : n0 ≤ T26.heap.size := Nat.le_trans Z16 K26q.1
  have N26 := Fr.app N14 N26q
  refine OFin.go st26 ?_
  show OFin p e below _ (T26.setTop (mkF m 33 #[.val (.long j0), .second, .val (.long j1), .second, .val (.long j2), .second, .val (.long j3), .second, .val (.long j4), .second, .val (.long j5), .second, .val (.ref b1), .val (.ref b7), .unset, .unset, .unset, .unset, .unset, .unset] [(.ref b16)]))
  have S27 : ∀ t, Steps p.tables e below (T26.setTop (mkF m 39 #[.val (.long j0), .second, .val (.long j1), .second, .val (.long j2), .second, .val (.long j3), .second, .val (.long j4), .second, .val (.long j5), .second, .val (.ref b1), .val (.ref b7), .val (.ref b16), .unset, .unset, .unset, .unset, .unset] [(.ref b7), (.ref b1)])) t → Steps p.tables e below (T26.setTop (mkF m 33 #[.val (.long j0), .second, .val (.long j1), .second, .val (.long j2), .second, .val (.long j3), .second, .val (.long j4), .second, .val (.long j5), .second, .val (.ref b1), .val (.ref b7), .unset, .unset, .unset, .unset, .unset, .unset] [(.ref b16)])) t := by
    intro t k
    show Steps p.tables e below (T26.setTop (mkF m 33 #[.val (.long j0), .second, .val (.long j1), .second, .val (.long j2), .second, .val (.long j3), .second, .val (.long j4), .second, .val (.long j5), .second, .val (.ref b1), .val (.ref b7), .unset, .unset, .unset, .unset, .unset, .unset] [(.ref b16)])) t
    refine XS.astore X26.here hx rfl (hb hby at_33) rfl rfl (l' := #[.val (.long j0), .second, .val (.long j1), .second, .val (.long j2), .second, .val (.long j3), .second, .val (.long j4), .second, .val (.long j5), .second, .val (.ref b1), .val (.ref b7), .val (.ref b16), .unset, .unset, .unset, .unset, .unset]) rfl ?_
    show Steps p.tables e below (T26.setTop (mkF m 35 #[.val (.long j0), .second, .val (.long j1), .second, .val (.long j2), .second, .val (.long j3), .second, .val (.long j4), .second, .val (.long j5), .second, .val (.ref b1), .val (.ref b7), .val (.ref b16), .unset, .unset, .unset, .unset, .unset] [])) t
    refine XS.aload X26.here hx rfl (hb hby at_35) rfl rfl ?_
    show Steps p.tables e below (T26.setTop (mkF m 37 #[.val (.long j0), .second, .val (.long j1), .second, .val (.long j2), .second, .val (.long j3), .second, .val (.long j4), .second, .val (.long j5), .second, .val (.ref b1), .val (.ref b7), .val (.ref b16), .unset, .unset, .unset, .unset, .unset] [(.ref b1)])) t
    refine XS.aload X26.here hx rfl (hb hby at_37) rfl rfl ?_
    exact k
  refine OFin.go S27 ?_
  have F29 := F4_b1_compactedLengthRead.ext E7
  have F30 := F29.keep K14q (ninS q12 nin0)
  have F31 := F30.ext E16
  have F32 := F31.keep K26q (ninS q22 nin0)
  have F33 := F4_b1_appended.ext E7
  have F34 := F33.keep K14q (ninS q12 nin0)
  have F35 := F34.ext E16
  have F36 := F35.keep K26q (ninS q22 nin0)
  have F37 := F4_b1_read.ext E7
  have F38 := F37.keep K14q (ninS q12 nin0)
  have F39 := F38.ext E16
  have F40 := F39.keep K26q (ninS q22 nin0)
  have F41 := F_aN_additionsLength.ext E1
  have F42 := F41.keep K4q (ninS q2 nin0)
  have F43 := F42.ext E7
  have F44 := F43.keep K14q (ninS q10 nin0)
  have F45 := F44.ext E16
  have F46 := F45.keep K26q (ninS q19 nin0)
  have F47 := F_aN_removedLength.ext E1
  have F48 := F47.keep K4q (ninS q2 nin0)
  have F49 := F48.ext E7
  have F50 := F49.keep K14q (ninS q10 nin0)
  have F51 := F50.ext E16
  have F52 := F51.keep K26q (ninS q19 nin0)
  have F53 := F14_b7_additionsLength.ext E16
  have F54 := F53.keep K26q (ninS q24 nin0)
  have F55 := F14_b7_removedLength.ext E16
  have F56 := F55.keep K26q (ninS q24 nin0)
  have F57 := F21.ext E16
  have F58 := F57.keep K26q
  have F59 := F18.ext E16
  have F60 := F59.keep K26q
  obtain ⟨_, T28, Lc28, X28, hQ28, st28⟩ := virtQ X26 hx hZ (y := (⟨"com/example/clockwrap/clockwrap/store/GarbageEstimate", "appended", "(Lcom/example/clockwrap/clockwrap/store/TimerLog$Tally;)V"⟩ : MethodName)) hown (hw _ (List.mem_of_getElem? (i := 38) rfl)) (hw _ (List.mem_of_getElem? (i := 40) rfl)) (hw _ (List.mem_of_getElem? (i := 2) rfl)) (hw _ (List.mem_of_getElem? (i := 42) rfl)) (hw _ (List.mem_of_getElem? (i := 39) rfl)) (hw _ (List.mem_of_getElem? (i := 41) rfl)) (by decide) F58 (argsL := [(.ref b7)]) (rest := []) (rm6 l Z a0 hw [] b1 b7 j0 aN aN (0 : Int64) (0 : Int64) j1 j2 T26.heap n0 Z26 ge1 F58 F32 F36 F40 F60 F46 F52 F54 F56) (W := 0) (by decide) (by decide) rfl (g := (mkF m 39 #[.val (.long j0), .second, .val (.long j1), .second, .val (.long j2), .second, .val (.long j3), .second, .val (.long j4), .second, .val (.long j5), .second, .val (.ref b1), .val (.ref b7), .val (.ref b16), .unset, .unset, .unset, .unset, .unset] [(.ref b7), (.ref b1)])) rfl (by rw [hml]; rfl) (lenOf pd_6 rfl) rfl (by show 2 * 0 + _ ≤ _; exact Nat.le_of_eq rfl) (hb hby at_39) (Nat.le_of_ble_eq_true rfl) (Nat.le_of_ble_eq_true rfl)
  obtain ⟨b28, rfl, N28q, K28q, hb28, F28_b1_compactedLengthRead, F28_b1_appended, F28_b1_read, E28_b28, F28_b28_additionsLength, F28_b28_removedLength⟩ := hQ28
  have q61 : aN ≠ b28 := Nat.ne_of_lt (Nat.lt_of_lt_of_le F60.lt hb28)
  have q62 : b1 ≠ b28 := Nat.ne_of_lt (Nat.lt_of_lt_of_le F58.lt hb28)
  have F63 := F23.ext E16
  have F64 := F63.keep K26q
  have q65 : b7 ≠ b28 := Nat.ne_of_lt (Nat.lt_of_lt_of_le F64.lt hb28)
  have F66 := A16.keep K26q
  have q67 : b16 ≠ b28 := Nat.ne_of_lt (Nat.lt_of_lt_of_le F66.lt hb28)
  have ge28 : n0 ≤ b28 := Nat.le_trans Z26 hb28
  have Z28 : n0 ≤ T28.heap.size := Nat.le_trans Z26 K28q.1
  have N28 := Fr.app N26 N28q
  refine OFin.go st28 ?_
  show OFin p e below _ (T28.setTop (mkF m 42 #[.val (.long j0), .second, .val (.long j1), .second, .val (.long j2), .second, .val (.long j3), .second, .val (.long j4), .second, .val (.long j5), .second, .val (.ref b1), .val (.ref b7), .val (.ref b16), .unset, .unset, .unset, .unset, .unset] []))
  have S68 : ∀ t, Steps p.tables e below (T28.setTop (mkF m 46 #[.val (.long j0), .second, .val (.long j1), .second, .val (.long j2), .second, .val (.long j3), .second, .val (.long j4), .second, .val (.long j5), .second, .val (.ref b1), .val (.ref b7), .val (.ref b16), .unset, .unset, .unset, .unset, .unset] [(.long j3), (.ref b1)])) t → Steps p.tables e below (T28.setTop (mkF m 42 #[.val (.long j0), .second, .val (.long j1), .second, .val (.long j2), .second, .val (.long j3), .second, .val (.long j4), .second, .val (.long j5), .second, .val (.ref b1), .val (.ref b7), .val (.ref b16), .unset, .unset, .unset, .unset, .unset] [])) t := by
    intro t k
    show Steps p.tables e below (T28.setTop (mkF m 42 #[.val (.long j0), .second, .val (.long j1), .second, .val (.long j2), .second, .val (.long j3), .second, .val (.long j4), .second, .val (.long j5), .second, .val (.ref b1), .val (.ref b7), .val (.ref b16), .unset, .unset, .unset, .unset, .unset] [])) t
    refine XS.aload X28.here hx rfl (hb hby at_42) rfl rfl ?_
    show Steps p.tables e below (T28.setTop (mkF m 44 #[.val (.long j0), .second, .val (.long j1), .second, .val (.long j2), .second, .val (.long j3), .second, .val (.long j4), .second, .val (.long j5), .second, .val (.ref b1), .val (.ref b7), .val (.ref b16), .unset, .unset, .unset, .unset, .unset] [(.ref b1)])) t
    refine XS.lload X28.here hx rfl (hb hby at_44) rfl ?_
    exact k
  refine OFin.go S68 ?_
  have F70 := F58.keep K28q
  obtain ⟨_, T69, Lc69, X69, hQ69, st69⟩ := virtQ X28 hx hZ (y := (⟨"com/example/clockwrap/clockwrap/store/GarbageEstimate", "takeAllAsLive", "(J)V"⟩ : MethodName)) hown (hw _ (List.mem_of_getElem? (i := 50) rfl)) (hw _ (List.mem_of_getElem? (i := 52) rfl)) (hw _ (List.mem_of_getElem? (i := 2) rfl)) (hw _ (List.mem_of_getElem? (i := 54) rfl)) (hw _ (List.mem_of_getElem? (i := 51) rfl)) (hw _ (List.mem_of_getElem? (i := 53) rfl)) (by decide) F70 (argsL := [(.long j3)]) (rest := []) (rm8 l Z a0 hw [] b1 j3 j0 b28 aN T28.heap n0 Z28 ge1 F70 F28_b1_compactedLengthRead F28_b1_appended F28_b1_read) (W := 0) (by decide) (by decide) rfl (g := (mkF m 46 #[.val (.long j0), .second, .val (.long j1), .second, .val (.long j2), .second, .val (.long j3), .second, .val (.long j4), .second, .val (.long j5), .second, .val (.ref b1), .val (.ref b7), .val (.ref b16), .unset, .unset, .unset, .unset, .unset] [(.long j3), (.ref b1)])) rfl (by rw [hml]; rfl) (lenOf pd_5 rfl) rfl (by show 2 * 0 + _ ≤ _; exact Nat.le_of_eq rfl) (hb hby at_46) (Nat.le_of_ble_eq_true rfl) (Nat.le_of_ble_eq_true rfl)
  obtain ⟨rfl, N69q, K69q, F69_b1_compactedLengthRead, F69_b1_appended, F69_b1_read⟩ := hQ69
  have Z69 : n0 ≤ T69.heap.size := Nat.le_trans Z28 K69q.1
  have N69 := Fr.app N28 N69q
  refine OFin.go st69 ?_
  show OFin p e below _ (T69.setTop (mkF m 49 #[.val (.long j0), .second, .val (.long j1), .second, .val (.long j2), .second, .val (.long j3), .second, .val (.long j4), .second, .val (.long j5), .second, .val (.ref b1), .val (.ref b7), .val (.ref b16), .unset, .unset, .unset, .unset, .unset] []))
  have S71 : ∀ t, Steps p.tables e below (T69.setTop (mkF m 51 #[.val (.long j0), .second, .val (.long j1), .second, .val (.long j2), .second, .val (.long j3), .second, .val (.long j4), .second, .val (.long j5), .second, .val (.ref b1), .val (.ref b7), .val (.ref b16), .unset, .unset, .unset, .unset, .unset] [(.ref b1)])) t → Steps p.tables e below (T69.setTop (mkF m 49 #[.val (.long j0), .second, .val (.long j1), .second, .val (.long j2), .second, .val (.long j3), .second, .val (.long j4), .second, .val (.long j5), .second, .val (.ref b1), .val (.ref b7), .val (.ref b16), .unset, .unset, .unset, .unset, .unset] [])) t := by
    intro t k
    show Steps p.tables e below (T69.setTop (mkF m 49 #[.val (.long j0), .second, .val (.long j1), .second, .val (.long j2), .second, .val (.long j3), .second, .val (.long j4), .second, .val (.long j5), .second, .val (.ref b1), .val (.ref b7), .val (.ref b16), .unset, .unset, .unset, .unset, .unset] [])) t
    refine XS.aload X69.here hx rfl (hb hby at_49) rfl rfl ?_
    exact k
  refine OFin.go S71 ?_
  have F73 := F28_b28_additionsLength.keep K69q (ninS (Ne.symm q62) nin0)
  have F74 := F28_b28_removedLength.keep K69q (ninS (Ne.symm q62) nin0)
  have F75 := F70.keep K69q
  have F76 := E28_b28.keep K69q
  obtain ⟨_, T72, Lc72, X72, hQ72, st72⟩ := virtQ X69 hx hZ (y := (⟨"com/example/clockwrap/clockwrap/store/GarbageEstimate", "compactedLength", "()J"⟩ : MethodName)) hown (hw _ (List.mem_of_getElem? (i := 55) rfl)) (hw _ (List.mem_of_getElem? (i := 57) rfl)) (hw _ (List.mem_of_getElem? (i := 2) rfl)) (hw _ (List.mem_of_getElem? (i := 59) rfl)) (hw _ (List.mem_of_getElem? (i := 56) rfl)) (hw _ (List.mem_of_getElem? (i := 58) rfl)) (by decide) F75 (argsL := []) (rest := []) (rm9 l Z a0 hw [] b1  j3 b28 b28 ((0 : Int64) + j1) ((0 : Int64) + j2) ((0 : Int64) + j1) ((0 : Int64) + j2) T69.heap n0 Z69 F75 F69_b1_compactedLengthRead F69_b1_appended F69_b1_read F76 F73 F74 F73 F74) (W := 0) (by decide) (by decide) rfl (g := (mkF m 51 #[.val (.long j0), .second, .val (.long j1), .second, .val (.long j2), .second, .val (.long j3), .second, .val (.long j4), .second, .val (.long j5), .second, .val (.ref b1), .val (.ref b7), .val (.ref b16), .unset, .unset, .unset, .unset, .unset] [(.ref b1)])) rfl (by rw [hml]; rfl) (lenOf pd_4 rfl) rfl (by show 2 * 0 + _ ≤ _; exact Nat.le_of_eq rfl) (hb hby at_51) (Nat.le_of_ble_eq_true rfl) (Nat.le_of_ble_eq_true rfl)
  obtain ⟨rfl, N72q, K72q⟩ := hQ72
  have Z72 : n0 ≤ T72.heap.size := Nat.le_trans Z69 K72q.1
  have N72 := Fr.app N69 N72q
  refine OFin.go st72 ?_
  show OFin p e below _ (T72.setTop (mkF m 54 #[.val (.long j0), .second, .val (.long j1), .second, .val (.long j2), .second, .val (.long j3), .second, .val (.long j4), .second, .val (.long j5), .second, .val (.ref b1), .val (.ref b7), .val (.ref b16), .unset, .unset, .unset, .unset, .unset] [(.long ((j3 + (((0 : Int64) + j1) - ((0 : Int64) + j1))) - (((0 : Int64) + j2) - ((0 : Int64) + j2))))]))
  have S77 : ∀ t, Steps p.tables e below (T72.setTop (mkF m 57 #[.val (.long j0), .second, .val (.long j1), .second, .val (.long j2), .second, .val (.long j3), .second, .val (.long j4), .second, .val (.long j5), .second, .val (.ref b1), .val (.ref b7), .val (.ref b16), .unset, .unset, .unset, .unset, .unset] [(.int (lcmpW ((j3 + (((0 : Int64) + j1) - ((0 : Int64) + j1))) - (((0 : Int64) + j2) - ((0 : Int64) + j2))) j3))])) t → Steps p.tables e below (T72.setTop (mkF m 54 #[.val (.long j0), .second, .val (.long j1), .second, .val (.long j2), .second, .val (.long j3), .second, .val (.long j4), .second, .val (.long j5), .second, .val (.ref b1), .val (.ref b7), .val (.ref b16), .unset, .unset, .unset, .unset, .unset] [(.long ((j3 + (((0 : Int64) + j1) - ((0 : Int64) + j1))) - (((0 : Int64) + j2) - ((0 : Int64) + j2))))])) t := by
    intro t k
    show Steps p.tables e below (T72.setTop (mkF m 54 #[.val (.long j0), .second, .val (.long j1), .second, .val (.long j2), .second, .val (.long j3), .second, .val (.long j4), .second, .val (.long j5), .second, .val (.ref b1), .val (.ref b7), .val (.ref b16), .unset, .unset, .unset, .unset, .unset] [(.long ((j3 + (((0 : Int64) + j1) - ((0 : Int64) + j1))) - (((0 : Int64) + j2) - ((0 : Int64) + j2))))])) t
    refine XS.lload X72.here hx rfl (hb hby at_54) rfl ?_
    show Steps p.tables e below (T72.setTop (mkF m 56 #[.val (.long j0), .second, .val (.long j1), .second, .val (.long j2), .second, .val (.long j3), .second, .val (.long j4), .second, .val (.long j5), .second, .val (.ref b1), .val (.ref b7), .val (.ref b16), .unset, .unset, .unset, .unset, .unset] [(.long j3), (.long ((j3 + (((0 : Int64) + j1) - ((0 : Int64) + j1))) - (((0 : Int64) + j2) - ((0 : Int64) + j2))))])) t
    refine XS.lcmp X72.here hx rfl (hb hby at_56) rfl ?_
    exact k
  refine OFin.go S77 ?_
  have S78 : ∀ t, Steps p.tables e below (T72.setTop (mkF m 60 #[.val (.long j0), .second, .val (.long j1), .second, .val (.long j2), .second, .val (.long j3), .second, .val (.long j4), .second, .val (.long j5), .second, .val (.ref b1), .val (.ref b7), .val (.ref b16), .unset, .unset, .unset, .unset, .unset] [])) t → Steps p.tables e below (T72.setTop (mkF m 57 #[.val (.long j0), .second, .val (.long j1), .second, .val (.long j2), .second, .val (.long j3), .second, .val (.long j4), .second, .val (.long j5), .second, .val (.ref b1), .val (.ref b7), .val (.ref b16), .unset, .unset, .unset, .unset, .unset] [(.int (lcmpW ((j3 + (((0 : Int64) + j1) - ((0 : Int64) + j1))) - (((0 : Int64) + j2) - ((0 : Int64) + j2))) j3))])) t := by
    intro t k
    show Steps p.tables e below (T72.setTop (mkF m 57 #[.val (.long j0), .second, .val (.long j1), .second, .val (.long j2), .second, .val (.long j3), .second, .val (.long j4), .second, .val (.long j5), .second, .val (.ref b1), .val (.ref b7), .val (.ref b16), .unset, .unset, .unset, .unset, .unset] [(.int (lcmpW ((j3 + (((0 : Int64) + j1) - ((0 : Int64) + j1))) - (((0 : Int64) + j2) - ((0 : Int64) + j2))) j3))])) t
    refine XS.ifNo X72.here hx rfl (hb hby at_57) rfl (lc_ne_f (own_l57 j0 j1 j2 j3 j4 j5 )) ?_
    exact k
  refine OFin.go S78 ?_
  have S79 : ∀ t, Steps p.tables e below (T72.setTop (mkF m 70 #[.val (.long j0), .second, .val (.long j1), .second, .val (.long j2), .second, .val (.long j3), .second, .val (.long j4), .second, .val (.long j5), .second, .val (.ref b1), .val (.ref b7), .val (.ref b16), .val (.int (1 : Int32)), .unset, .unset, .unset, .unset] [(.long j0), (.ref b1)])) t → Steps p.tables e below (T72.setTop (mkF m 60 #[.val (.long j0), .second, .val (.long j1), .second, .val (.long j2), .second, .val (.long j3), .second, .val (.long j4), .second, .val (.long j5), .second, .val (.ref b1), .val (.ref b7), .val (.ref b16), .unset, .unset, .unset, .unset, .unset] [])) t := by
    intro t k
    show Steps p.tables e below (T72.setTop (mkF m 60 #[.val (.long j0), .second, .val (.long j1), .second, .val (.long j2), .second, .val (.long j3), .second, .val (.long j4), .second, .val (.long j5), .second, .val (.ref b1), .val (.ref b7), .val (.ref b16), .unset, .unset, .unset, .unset, .unset] [])) t
    refine XS.iconst X72.here hx rfl (hb hby at_60) ?_
    show Steps p.tables e below (T72.setTop (mkF m 61 #[.val (.long j0), .second, .val (.long j1), .second, .val (.long j2), .second, .val (.long j3), .second, .val (.long j4), .second, .val (.long j5), .second, .val (.ref b1), .val (.ref b7), .val (.ref b16), .unset, .unset, .unset, .unset, .unset] [(.int (1 : Int32))])) t
    refine XS.goto X72.here hx rfl (pc0 := 61) (pc' := 65) rfl (hb hby at_61) (by decide) (by decide) ?_
    show Steps p.tables e below (T72.setTop (mkF m 65 #[.val (.long j0), .second, .val (.long j1), .second, .val (.long j2), .second, .val (.long j3), .second, .val (.long j4), .second, .val (.long j5), .second, .val (.ref b1), .val (.ref b7), .val (.ref b16), .unset, .unset, .unset, .unset, .unset] [(.int (1 : Int32))])) t
    refine XS.istore X72.here hx rfl (hb hby at_65) rfl (l' := #[.val (.long j0), .second, .val (.long j1), .second, .val (.long j2), .second, .val (.long j3), .second, .val (.long j4), .second, .val (.long j5), .second, .val (.ref b1), .val (.ref b7), .val (.ref b16), .val (.int (1 : Int32)), .unset, .unset, .unset, .unset]) rfl ?_
    show Steps p.tables e below (T72.setTop (mkF m 67 #[.val (.long j0), .second, .val (.long j1), .second, .val (.long j2), .second, .val (.long j3), .second, .val (.long j4), .second, .val (.long j5), .second, .val (.ref b1), .val (.ref b7), .val (.ref b16), .val (.int (1 : Int32)), .unset, .unset, .unset, .unset] [])) t
    refine XS.aload X72.here hx rfl (hb hby at_67) rfl rfl ?_
    show Steps p.tables e below (T72.setTop (mkF m 69 #[.val (.long j0), .second, .val (.long j1), .second, .val (.long j2), .second, .val (.long j3), .second, .val (.long j4), .second, .val (.long j5), .second, .val (.ref b1), .val (.ref b7), .val (.ref b16), .val (.int (1 : Int32)), .unset, .unset, .unset, .unset] [(.ref b1)])) t
    refine XS.lloadN X72.here hx rfl (hb hby at_69) rfl ?_
    exact k
  refine OFin.go S79 ?_
  have F81 := F69_b1_compactedLengthRead.keep K72q nin0
  have F82 := F69_b1_appended.keep K72q nin0
  have F83 := F69_b1_read.keep K72q nin0
  have F84 := F73.keep K72q nin0
  have F85 := F74.keep K72q nin0
  have F86 := F75.keep K72q
  have F87 := F76.keep K72q
  obtain ⟨_, T80, Lc80, X80, hQ80, st80⟩ := virtQ X72 hx hZ (y := (⟨"com/example/clockwrap/clockwrap/store/GarbageEstimate", "garbage", "(J)J"⟩ : MethodName)) hown (hw _ (List.mem_of_getElem? (i := 75) rfl)) (hw _ (List.mem_of_getElem? (i := 77) rfl)) (hw _ (List.mem_of_getElem? (i := 2) rfl)) (hw _ (List.mem_of_getElem? (i := 79) rfl)) (hw _ (List.mem_of_getElem? (i := 76) rfl)) (hw _ (List.mem_of_getElem? (i := 78) rfl)) (by decide) F86 (argsL := [(.long j0)]) (rest := []) (rm13 l Z a0 hw [] b1 j0 j3 b28 b28 ((0 : Int64) + j1) ((0 : Int64) + j2) ((0 : Int64) + j1) ((0 : Int64) + j2) T72.heap n0 Z72 F86 F81 F82 F83 F87 F84 F85 F84 F85) (W := 0) (by decide) (by decide) rfl (g := (mkF m 70 #[.val (.long j0), .second, .val (.long j1), .second, .val (.long j2), .second, .val (.long j3), .second, .val (.long j4), .second, .val (.long j5), .second, .val (.ref b1), .val (.ref b7), .val (.ref b16), .val (.int (1 : Int32)), .unset, .unset, .unset, .unset] [(.long j0), (.ref b1)])) rfl (by rw [hml]; rfl) (lenOf pd_7 rfl) rfl (by show 2 * 0 + _ ≤ _; exact Nat.le_of_eq rfl) (hb hby at_70) (Nat.le_of_ble_eq_true rfl) (Nat.le_of_ble_eq_true rfl)
  obtain ⟨rfl, N80q, K80q⟩ := hQ80
  have Z80 : n0 ≤ T80.heap.size := Nat.le_trans Z72 K80q.1
  have N80 := Fr.app N72 N80q
  refine OFin.go st80 ?_
  show OFin p e below _ (T80.setTop (mkF m 73 #[.val (.long j0), .second, .val (.long j1), .second, .val (.long j2), .second, .val (.long j3), .second, .val (.long j4), .second, .val (.long j5), .second, .val (.ref b1), .val (.ref b7), .val (.ref b16), .val (.int (1 : Int32)), .unset, .unset, .unset, .unset] [(.long (j0 - ((j3 + (((0 : Int64) + j1) - ((0 : Int64) + j1))) - (((0 : Int64) + j2) - ((0 : Int64) + j2)))))]))
  have S88 : ∀ t, Steps p.tables e below (T80.setTop (mkF m 78 #[.val (.long j0), .second, .val (.long j1), .second, .val (.long j2), .second, .val (.long j3), .second, .val (.long j4), .second, .val (.long j5), .second, .val (.ref b1), .val (.ref b7), .val (.ref b16), .val (.int (1 : Int32)), .unset, .unset, .unset, .unset] [(.int (lcmpW (j0 - ((j3 + (((0 : Int64) + j1) - ((0 : Int64) + j1))) - (((0 : Int64) + j2) - ((0 : Int64) + j2)))) (j0 - j3)))])) t → Steps p.tables e below (T80.setTop (mkF m 73 #[.val (.long j0), .second, .val (.long j1), .second, .val (.long j2), .second, .val (.long j3), .second, .val (.long j4), .second, .val (.long j5), .second, .val (.ref b1), .val (.ref b7), .val (.ref b16), .val (.int (1 : Int32)), .unset, .unset, .unset, .unset] [(.long (j0 - ((j3 + (((0 : Int64) + j1) - ((0 : Int64) + j1))) - (((0 : Int64) + j2) - ((0 : Int64) + j2)))))])) t := by
    intro t k
    show Steps p.tables e below (T80.setTop (mkF m 73 #[.val (.long j0), .second, .val (.long j1), .second, .val (.long j2), .second, .val (.long j3), .second, .val (.long j4), .second, .val (.long j5), .second, .val (.ref b1), .val (.ref b7), .val (.ref b16), .val (.int (1 : Int32)), .unset, .unset, .unset, .unset] [(.long (j0 - ((j3 + (((0 : Int64) + j1) - ((0 : Int64) + j1))) - (((0 : Int64) + j2) - ((0 : Int64) + j2)))))])) t
    refine XS.lloadN X80.here hx rfl (hb hby at_73) rfl ?_
    show Steps p.tables e below (T80.setTop (mkF m 74 #[.val (.long j0), .second, .val (.long j1), .second, .val (.long j2), .second, .val (.long j3), .second, .val (.long j4), .second, .val (.long j5), .second, .val (.ref b1), .val (.ref b7), .val (.ref b16), .val (.int (1 : Int32)), .unset, .unset, .unset, .unset] [(.long j0), (.long (j0 - ((j3 + (((0 : Int64) + j1) - ((0 : Int64) + j1))) - (((0 : Int64) + j2) - ((0 : Int64) + j2)))))])) t
    refine XS.lload X80.here hx rfl (hb hby at_74) rfl ?_
    show Steps p.tables e below (T80.setTop (mkF m 76 #[.val (.long j0), .second, .val (.long j1), .second, .val (.long j2), .second, .val (.long j3), .second, .val (.long j4), .second, .val (.long j5), .second, .val (.ref b1), .val (.ref b7), .val (.ref b16), .val (.int (1 : Int32)), .unset, .unset, .unset, .unset] [(.long j3), (.long j0), (.long (j0 - ((j3 + (((0 : Int64) + j1) - ((0 : Int64) + j1))) - (((0 : Int64) + j2) - ((0 : Int64) + j2)))))])) t
    refine XS.lsub X80.here hx rfl (hb hby at_76) rfl ?_
    show Steps p.tables e below (T80.setTop (mkF m 77 #[.val (.long j0), .second, .val (.long j1), .second, .val (.long j2), .second, .val (.long j3), .second, .val (.long j4), .second, .val (.long j5), .second, .val (.ref b1), .val (.ref b7), .val (.ref b16), .val (.int (1 : Int32)), .unset, .unset, .unset, .unset] [(.long (j0 - j3)), (.long (j0 - ((j3 + (((0 : Int64) + j1) - ((0 : Int64) + j1))) - (((0 : Int64) + j2) - ((0 : Int64) + j2)))))])) t
    refine XS.lcmp X80.here hx rfl (hb hby at_77) rfl ?_
    exact k
  refine OFin.go S88 ?_
  have S89 : ∀ t, Steps p.tables e below (T80.setTop (mkF m 81 #[.val (.long j0), .second, .val (.long j1), .second, .val (.long j2), .second, .val (.long j3), .second, .val (.long j4), .second, .val (.long j5), .second, .val (.ref b1), .val (.ref b7), .val (.ref b16), .val (.int (1 : Int32)), .unset, .unset, .unset, .unset] [])) t → Steps p.tables e below (T80.setTop (mkF m 78 #[.val (.long j0), .second, .val (.long j1), .second, .val (.long j2), .second, .val (.long j3), .second, .val (.long j4), .second, .val (.long j5), .second, .val (.ref b1), .val (.ref b7), .val (.ref b16), .val (.int (1 : Int32)), .unset, .unset, .unset, .unset] [(.int (lcmpW (j0 - ((j3 + (((0 : Int64) + j1) - ((0 : Int64) + j1))) - (((0 : Int64) + j2) - ((0 : Int64) + j2)))) (j0 - j3)))])) t := by
    intro t k
    show Steps p.tables e below (T80.setTop (mkF m 78 #[.val (.long j0), .second, .val (.long j1), .second, .val (.long j2), .second, .val (.long j3), .second, .val (.long j4), .second, .val (.long j5), .second, .val (.ref b1), .val (.ref b7), .val (.ref b16), .val (.int (1 : Int32)), .unset, .unset, .unset, .unset] [(.int (lcmpW (j0 - ((j3 + (((0 : Int64) + j1) - ((0 : Int64) + j1))) - (((0 : Int64) + j2) - ((0 : Int64) + j2)))) (j0 - j3)))])) t
    refine XS.ifNo X80.here hx rfl (hb hby at_78) rfl (lc_ne_f (own_l78 j0 j1 j2 j3 j4 j5 )) ?_
    exact k
  refine OFin.go S89 ?_
  have S90 : ∀ t, Steps p.tables e below (T80.setTop (mkF m 90 #[.val (.long j0), .second, .val (.long j1), .second, .val (.long j2), .second, .val (.long j3), .second, .val (.long j4), .second, .val (.long j5), .second, .val (.ref b1), .val (.ref b7), .val (.ref b16), .val (.int (1 : Int32)), .val (.int (1 : Int32)), .unset, .unset, .unset] [(.ref b1)])) t → Steps p.tables e below (T80.setTop (mkF m 81 #[.val (.long j0), .second, .val (.long j1), .second, .val (.long j2), .second, .val (.long j3), .second, .val (.long j4), .second, .val (.long j5), .second, .val (.ref b1), .val (.ref b7), .val (.ref b16), .val (.int (1 : Int32)), .unset, .unset, .unset, .unset] [])) t := by
    intro t k
    show Steps p.tables e below (T80.setTop (mkF m 81 #[.val (.long j0), .second, .val (.long j1), .second, .val (.long j2), .second, .val (.long j3), .second, .val (.long j4), .second, .val (.long j5), .second, .val (.ref b1), .val (.ref b7), .val (.ref b16), .val (.int (1 : Int32)), .unset, .unset, .unset, .unset] [])) t
    refine XS.iconst X80.here hx rfl (hb hby at_81) ?_
    show Steps p.tables e below (T80.setTop (mkF m 82 #[.val (.long j0), .second, .val (.long j1), .second, .val (.long j2), .second, .val (.long j3), .second, .val (.long j4), .second, .val (.long j5), .second, .val (.ref b1), .val (.ref b7), .val (.ref b16), .val (.int (1 : Int32)), .unset, .unset, .unset, .unset] [(.int (1 : Int32))])) t
    refine XS.goto X80.here hx rfl (pc0 := 82) (pc' := 86) rfl (hb hby at_82) (by decide) (by decide) ?_
    show Steps p.tables e below (T80.setTop (mkF m 86 #[.val (.long j0), .second, .val (.long j1), .second, .val (.long j2), .second, .val (.long j3), .second, .val (.long j4), .second, .val (.long j5), .second, .val (.ref b1), .val (.ref b7), .val (.ref b16), .val (.int (1 : Int32)), .unset, .unset, .unset, .unset] [(.int (1 : Int32))])) t
    refine XS.istore X80.here hx rfl (hb hby at_86) rfl (l' := #[.val (.long j0), .second, .val (.long j1), .second, .val (.long j2), .second, .val (.long j3), .second, .val (.long j4), .second, .val (.long j5), .second, .val (.ref b1), .val (.ref b7), .val (.ref b16), .val (.int (1 : Int32)), .val (.int (1 : Int32)), .unset, .unset, .unset]) rfl ?_
    show Steps p.tables e below (T80.setTop (mkF m 88 #[.val (.long j0), .second, .val (.long j1), .second, .val (.long j2), .second, .val (.long j3), .second, .val (.long j4), .second, .val (.long j5), .second, .val (.ref b1), .val (.ref b7), .val (.ref b16), .val (.int (1 : Int32)), .val (.int (1 : Int32)), .unset, .unset, .unset] [])) t
    refine XS.aload X80.here hx rfl (hb hby at_88) rfl rfl ?_
    exact k
  refine OFin.go S90 ?_
  have F92 := F82.keep K80q nin0
  have F93 := F86.keep K80q
  obtain ⟨_, T91, Lc91, X91, hQ91, st91⟩ := virtQ X80 hx hZ (y := (⟨"com/example/clockwrap/clockwrap/store/GarbageEstimate", "appendedSoFar", "()Lcom/example/clockwrap/clockwrap/store/TimerLog$Tally;"⟩ : MethodName)) hown (hw _ (List.mem_of_getElem? (i := 81) rfl)) (hw _ (List.mem_of_getElem? (i := 83) rfl)) (hw _ (List.mem_of_getElem? (i := 2) rfl)) (hw _ (List.mem_of_getElem? (i := 85) rfl)) (hw _ (List.mem_of_getElem? (i := 82) rfl)) (hw _ (List.mem_of_getElem? (i := 84) rfl)) (by decide) F93 (argsL := []) (rest := []) (rm14 l Z a0 hw [] b1 b28 T80.heap n0 Z80 F92) (W := 0) (by decide) (by decide) rfl (g := (mkF m 90 #[.val (.long j0), .second, .val (.long j1), .second, .val (.long j2), .second, .val (.long j3), .second, .val (.long j4), .second, .val (.long j5), .second, .val (.ref b1), .val (.ref b7), .val (.ref b16), .val (.int (1 : Int32)), .val (.int (1 : Int32)), .unset, .unset, .unset] [(.ref b1)])) rfl (by rw [hml]; rfl) (lenOf pd_8 rfl) rfl (by show 2 * 0 + _ ≤ _; exact Nat.le_of_eq rfl) (hb hby at_90) (Nat.le_of_ble_eq_true rfl) (Nat.le_of_ble_eq_true rfl)
  obtain ⟨rfl, N91q, e91⟩ := hQ91
  have N91 := Fr.app N80 N91q
  refine OFin.go st91 ?_
  show OFin p e below _ (T91.setTop (mkF m 93 #[.val (.long j0), .second, .val (.long j1), .second, .val (.long j2), .second, .val (.long j3), .second, .val (.long j4), .second, .val (.long j5), .second, .val (.ref b1), .val (.ref b7), .val (.ref b16), .val (.int (1 : Int32)), .val (.int (1 : Int32)), .unset, .unset, .unset] [(.ref b28)]))
  have S94 : ∀ t, Steps p.tables e below (T91.setTop (mkF m 97 #[.val (.long j0), .second, .val (.long j1), .second, .val (.long j2), .second, .val (.long j3), .second, .val (.long j4), .second, .val (.long j5), .second, .val (.ref b1), .val (.ref b7), .val (.ref b16), .val (.int (1 : Int32)), .val (.int (1 : Int32)), .val (.ref b28), .unset, .unset] [(.ref b28)])) t → Steps p.tables e below (T91.setTop (mkF m 93 #[.val (.long j0), .second, .val (.long j1), .second, .val (.long j2), .second, .val (.long j3), .second, .val (.long j4), .second, .val (.long j5), .second, .val (.ref b1), .val (.ref b7), .val (.ref b16), .val (.int (1 : Int32)), .val (.int (1 : Int32)), .unset, .unset, .unset] [(.ref b28)])) t := by
    intro t k
    show Steps p.tables e below (T91.setTop (mkF m 93 #[.val (.long j0), .second, .val (.long j1), .second, .val (.long j2), .second, .val (.long j3), .second, .val (.long j4), .second, .val (.long j5), .second, .val (.ref b1), .val (.ref b7), .val (.ref b16), .val (.int (1 : Int32)), .val (.int (1 : Int32)), .unset, .unset, .unset] [(.ref b28)])) t
    refine XS.astore X91.here hx rfl (hb hby at_93) rfl rfl (l' := #[.val (.long j0), .second, .val (.long j1), .second, .val (.long j2), .second, .val (.long j3), .second, .val (.long j4), .second, .val (.long j5), .second, .val (.ref b1), .val (.ref b7), .val (.ref b16), .val (.int (1 : Int32)), .val (.int (1 : Int32)), .val (.ref b28), .unset, .unset]) rfl ?_
    show Steps p.tables e below (T91.setTop (mkF m 95 #[.val (.long j0), .second, .val (.long j1), .second, .val (.long j2), .second, .val (.long j3), .second, .val (.long j4), .second, .val (.long j5), .second, .val (.ref b1), .val (.ref b7), .val (.ref b16), .val (.int (1 : Int32)), .val (.int (1 : Int32)), .val (.ref b28), .unset, .unset] [])) t
    refine XS.aload X91.here hx rfl (hb hby at_95) rfl rfl ?_
    exact k
  refine OFin.go S94 ?_
  have F96 := F84.keep K80q nin0
  have F97 := F87.keep K80q
  obtain ⟨_, T95, Lc95, X95, hQ95, st95⟩ := virtQ X91 hx hZ (y := (⟨"com/example/clockwrap/clockwrap/store/TimerLog$Tally", "additionsLength", "()J"⟩ : MethodName)) hown (hw _ (List.mem_of_getElem? (i := 86) rfl)) (hw _ (List.mem_of_getElem? (i := 67) rfl)) (hw _ (List.mem_of_getElem? (i := 10) rfl)) (hw _ (List.mem_of_getElem? (i := 69) rfl)) (hw _ (List.mem_of_getElem? (i := 66) rfl)) (hw _ (List.mem_of_getElem? (i := 68) rfl)) (by decide) F97 (argsL := []) (rest := []) (rm11 l Z a0 hw [] b28 ((0 : Int64) + j1) T80.heap n0 Z80 F96) (W := 0) (by decide) (by decide) e91 (g := (mkF m 97 #[.val (.long j0), .second, .val (.long j1), .second, .val (.long j2), .second, .val (.long j3), .second, .val (.long j4), .second, .val (.long j5), .second, .val (.ref b1), .val (.ref b7), .val (.ref b16), .val (.int (1 : Int32)), .val (.int (1 : Int32)), .val (.ref b28), .unset, .unset] [(.ref b28)])) rfl (by rw [hml]; rfl) (lenOf pd_4 rfl) rfl (by show 2 * 0 + _ ≤ _; exact Nat.le_of_eq rfl) (hb hby at_97) (Nat.le_of_ble_eq_true rfl) (Nat.le_of_ble_eq_true rfl)
  obtain ⟨rfl, N95q, e95⟩ := hQ95
  have N95 := Fr.app N91 N95q
  refine OFin.go st95 ?_
  show OFin p e below _ (T95.setTop (mkF m 100 #[.val (.long j0), .second, .val (.long j1), .second, .val (.long j2), .second, .val (.long j3), .second, .val (.long j4), .second, .val (.long j5), .second, .val (.ref b1), .val (.ref b7), .val (.ref b16), .val (.int (1 : Int32)), .val (.int (1 : Int32)), .val (.ref b28), .unset, .unset] [(.long ((0 : Int64) + j1))]))
  have S98 : ∀ t, Steps p.tables e below (T95.setTop (mkF m 102 #[.val (.long j0), .second, .val (.long j1), .second, .val (.long j2), .second, .val (.long j3), .second, .val (.long j4), .second, .val (.long j5), .second, .val (.ref b1), .val (.ref b7), .val (.ref b16), .val (.int (1 : Int32)), .val (.int (1 : Int32)), .val (.ref b28), .unset, .unset] [(.int (lcmpW ((0 : Int64) + j1) j1))])) t → Steps p.tables e below (T95.setTop (mkF m 100 #[.val (.long j0), .second, .val (.long j1), .second, .val (.long j2), .second, .val (.long j3), .second, .val (.long j4), .second, .val (.long j5), .second, .val (.ref b1), .val (.ref b7), .val (.ref b16), .val (.int (1 : Int32)), .val (.int (1 : Int32)), .val (.ref b28), .unset, .unset] [(.long ((0 : Int64) + j1))])) t := by
    intro t k
    show Steps p.tables e below (T95.setTop (mkF m 100 #[.val (.long j0), .second, .val (.long j1), .second, .val (.long j2), .second, .val (.long j3), .second, .val (.long j4), .second, .val (.long j5), .second, .val (.ref b1), .val (.ref b7), .val (.ref b16), .val (.int (1 : Int32)), .val (.int (1 : Int32)), .val (.ref b28), .unset, .unset] [(.long ((0 : Int64) + j1))])) t
    refine XS.lloadN X95.here hx rfl (hb hby at_100) rfl ?_
    show Steps p.tables e below (T95.setTop (mkF m 101 #[.val (.long j0), .second, .val (.long j1), .second, .val (.long j2), .second, .val (.long j3), .second, .val (.long j4), .second, .val (.long j5), .second, .val (.ref b1), .val (.ref b7), .val (.ref b16), .val (.int (1 : Int32)), .val (.int (1 : Int32)), .val (.ref b28), .unset, .unset] [(.long j1), (.long ((0 : Int64) + j1))])) t
    refine XS.lcmp X95.here hx rfl (hb hby at_101) rfl ?_
    exact k
  refine OFin.go S98 ?_
  have S99 : ∀ t, Steps p.tables e below (T95.setTop (mkF m 105 #[.val (.long j0), .second, .val (.long j1), .second, .val (.long j2), .second, .val (.long j3), .second, .val (.long j4), .second, .val (.long j5), .second, .val (.ref b1), .val (.ref b7), .val (.ref b16), .val (.int (1 : Int32)), .val (.int (1 : Int32)), .val (.ref b28), .unset, .unset] [])) t → Steps p.tables e below (T95.setTop (mkF m 102 #[.val (.long j0), .second, .val (.long j1), .second, .val (.long j2), .second, .val (.long j3), .second, .val (.long j4), .second, .val (.long j5), .second, .val (.ref b1), .val (.ref b7), .val (.ref b16), .val (.int (1 : Int32)), .val (.int (1 : Int32)), .val (.ref b28), .unset, .unset] [(.int (lcmpW ((0 : Int64) + j1) j1))])) t := by
    intro t k
    show Steps p.tables e below (T95.setTop (mkF m 102 #[.val (.long j0), .second, .val (.long j1), .second, .val (.long j2), .second, .val (.long j3), .second, .val (.long j4), .second, .val (.long j5), .second, .val (.ref b1), .val (.ref b7), .val (.ref b16), .val (.int (1 : Int32)), .val (.int (1 : Int32)), .val (.ref b28), .unset, .unset] [(.int (lcmpW ((0 : Int64) + j1) j1))])) t
    refine XS.ifNo X95.here hx rfl (hb hby at_102) rfl (lc_ne_f (own_l102 j0 j1 j2 j3 j4 j5 )) ?_
    exact k
  refine OFin.go S99 ?_
  have S100 : ∀ t, Steps p.tables e below (T95.setTop (mkF m 107 #[.val (.long j0), .second, .val (.long j1), .second, .val (.long j2), .second, .val (.long j3), .second, .val (.long j4), .second, .val (.long j5), .second, .val (.ref b1), .val (.ref b7), .val (.ref b16), .val (.int (1 : Int32)), .val (.int (1 : Int32)), .val (.ref b28), .unset, .unset] [(.ref b28)])) t → Steps p.tables e below (T95.setTop (mkF m 105 #[.val (.long j0), .second, .val (.long j1), .second, .val (.long j2), .second, .val (.long j3), .second, .val (.long j4), .second, .val (.long j5), .second, .val (.ref b1), .val (.ref b7), .val (.ref b16), .val (.int (1 : Int32)), .val (.int (1 : Int32)), .val (.ref b28), .unset, .unset] [])) t := by
    intro t k
    show Steps p.tables e below (T95.setTop (mkF m 105 #[.val (.long j0), .second, .val (.long j1), .second, .val (.long j2), .second, .val (.long j3), .second, .val (.long j4), .second, .val (.long j5), .second, .val (.ref b1), .val (.ref b7), .val (.ref b16), .val (.int (1 : Int32)), .val (.int (1 : Int32)), .val (.ref b28), .unset, .unset] [])) t
    refine XS.aload X95.here hx rfl (hb hby at_105) rfl rfl ?_
    exact k
  refine OFin.go S100 ?_
  have F102 := F85.keep K80q nin0
  obtain ⟨_, T101, Lc101, X101, hQ101, st101⟩ := virtQ X95 hx hZ (y := (⟨"com/example/clockwrap/clockwrap/store/TimerLog$Tally", "removedLength", "()J"⟩ : MethodName)) hown (hw _ (List.mem_of_getElem? (i := 87) rfl)) (hw _ (List.mem_of_getElem? (i := 72) rfl)) (hw _ (List.mem_of_getElem? (i := 10) rfl)) (hw _ (List.mem_of_getElem? (i := 74) rfl)) (hw _ (List.mem_of_getElem? (i := 71) rfl)) (hw _ (List.mem_of_getElem? (i := 73) rfl)) (by decide) F97 (argsL := []) (rest := []) (rm12 l Z a0 hw [] b28 ((0 : Int64) + j2) T80.heap n0 Z80 F102) (W := 0) (by decide) (by decide) e95 (g := (mkF m 107 #[.val (.long j0), .second, .val (.long j1), .second, .val (.long j2), .second, .val (.long j3), .second, .val (.long j4), .second, .val (.long j5), .second, .val (.ref b1), .val (.ref b7), .val (.ref b16), .val (.int (1 : Int32)), .val (.int (1 : Int32)), .val (.ref b28), .unset, .unset] [(.ref b28)])) rfl (by rw [hml]; rfl) (lenOf pd_4 rfl) rfl (by show 2 * 0 + _ ≤ _; exact Nat.le_of_eq rfl) (hb hby at_107) (Nat.le_of_ble_eq_true rfl) (Nat.le_of_ble_eq_true rfl)
  obtain ⟨rfl, N101q, e101⟩ := hQ101
  have N101 := Fr.app N95 N101q
  refine OFin.go st101 ?_
  show OFin p e below _ (T101.setTop (mkF m 110 #[.val (.long j0), .second, .val (.long j1), .second, .val (.long j2), .second, .val (.long j3), .second, .val (.long j4), .second, .val (.long j5), .second, .val (.ref b1), .val (.ref b7), .val (.ref b16), .val (.int (1 : Int32)), .val (.int (1 : Int32)), .val (.ref b28), .unset, .unset] [(.long ((0 : Int64) + j2))]))
  have S103 : ∀ t, Steps p.tables e below (T101.setTop (mkF m 113 #[.val (.long j0), .second, .val (.long j1), .second, .val (.long j2), .second, .val (.long j3), .second, .val (.long j4), .second, .val (.long j5), .second, .val (.ref b1), .val (.ref b7), .val (.ref b16), .val (.int (1 : Int32)), .val (.int (1 : Int32)), .val (.ref b28), .unset, .unset] [(.int (lcmpW ((0 : Int64) + j2) j2))])) t → Steps p.tables e below (T101.setTop (mkF m 110 #[.val (.long j0), .second, .val (.long j1), .second, .val (.long j2), .second, .val (.long j3), .second, .val (.long j4), .second, .val (.long j5), .second, .val (.ref b1), .val (.ref b7), .val (.ref b16), .val (.int (1 : Int32)), .val (.int (1 : Int32)), .val (.ref b28), .unset, .unset] [(.long ((0 : Int64) + j2))])) t := by
    intro t k
    show Steps p.tables e below (T101.setTop (mkF m 110 #[.val (.long j0), .second, .val (.long j1), .second, .val (.long j2), .second, .val (.long j3), .second, .val (.long j4), .second, .val (.long j5), .second, .val (.ref b1), .val (.ref b7), .val (.ref b16), .val (.int (1 : Int32)), .val (.int (1 : Int32)), .val (.ref b28), .unset, .unset] [(.long ((0 : Int64) + j2))])) t
    refine XS.lload X101.here hx rfl (hb hby at_110) rfl ?_
    show Steps p.tables e below (T101.setTop (mkF m 112 #[.val (.long j0), .second, .val (.long j1), .second, .val (.long j2), .second, .val (.long j3), .second, .val (.long j4), .second, .val (.long j5), .second, .val (.ref b1), .val (.ref b7), .val (.ref b16), .val (.int (1 : Int32)), .val (.int (1 : Int32)), .val (.ref b28), .unset, .unset] [(.long j2), (.long ((0 : Int64) + j2))])) t
    refine XS.lcmp X101.here hx rfl (hb hby at_112) rfl ?_
    exact k
  refine OFin.go S103 ?_
  have S104 : ∀ t, Steps p.tables e below (T101.setTop (mkF m 116 #[.val (.long j0), .second, .val (.long j1), .second, .val (.long j2), .second, .val (.long j3), .second, .val (.long j4), .second, .val (.long j5), .second, .val (.ref b1), .val (.ref b7), .val (.ref b16), .val (.int (1 : Int32)), .val (.int (1 : Int32)), .val (.ref b28), .unset, .unset] [])) t → Steps p.tables e below (T101.setTop (mkF m 113 #[.val (.long j0), .second, .val (.long j1), .second, .val (.long j2), .second, .val (.long j3), .second, .val (.long j4), .second, .val (.long j5), .second, .val (.ref b1), .val (.ref b7), .val (.ref b16), .val (.int (1 : Int32)), .val (.int (1 : Int32)), .val (.ref b28), .unset, .unset] [(.int (lcmpW ((0 : Int64) + j2) j2))])) t := by
    intro t k
    show Steps p.tables e below (T101.setTop (mkF m 113 #[.val (.long j0), .second, .val (.long j1), .second, .val (.long j2), .second, .val (.long j3), .second, .val (.long j4), .second, .val (.long j5), .second, .val (.ref b1), .val (.ref b7), .val (.ref b16), .val (.int (1 : Int32)), .val (.int (1 : Int32)), .val (.ref b28), .unset, .unset] [(.int (lcmpW ((0 : Int64) + j2) j2))])) t
    refine XS.ifNo X101.here hx rfl (hb hby at_113) rfl (lc_ne_f (own_l113 j0 j1 j2 j3 j4 j5 )) ?_
    exact k
  refine OFin.go S104 ?_
  have S105 : ∀ t, Steps p.tables e below (T101.setTop (mkF m 127 #[.val (.long j0), .second, .val (.long j1), .second, .val (.long j2), .second, .val (.long j3), .second, .val (.long j4), .second, .val (.long j5), .second, .val (.ref b1), .val (.ref b7), .val (.ref b16), .val (.int (1 : Int32)), .val (.int (1 : Int32)), .val (.ref b28), .val (.int (1 : Int32)), .unset] [(.ref b16), (.ref b1)])) t → Steps p.tables e below (T101.setTop (mkF m 116 #[.val (.long j0), .second, .val (.long j1), .second, .val (.long j2), .second, .val (.long j3), .second, .val (.long j4), .second, .val (.long j5), .second, .val (.ref b1), .val (.ref b7), .val (.ref b16), .val (.int (1 : Int32)), .val (.int (1 : Int32)), .val (.ref b28), .unset, .unset] [])) t := by
    intro t k
    show Steps p.tables e below (T101.setTop (mkF m 116 #[.val (.long j0), .second, .val (.long j1), .second, .val (.long j2), .second, .val (.long j3), .second, .val (.long j4), .second, .val (.long j5), .second, .val (.ref b1), .val (.ref b7), .val (.ref b16), .val (.int (1 : Int32)), .val (.int (1 : Int32)), .val (.ref b28), .unset, .unset] [])) t
    refine XS.iconst X101.here hx rfl (hb hby at_116) ?_
    show Steps p.tables e below (T101.setTop (mkF m 117 #[.val (.long j0), .second, .val (.long j1), .second, .val (.long j2), .second, .val (.long j3), .second, .val (.long j4), .second, .val (.long j5), .second, .val (.ref b1), .val (.ref b7), .val (.ref b16), .val (.int (1 : Int32)), .val (.int (1 : Int32)), .val (.ref b28), .unset, .unset] [(.int (1 : Int32))])) t
    refine XS.goto X101.here hx rfl (pc0 := 117) (pc' := 121) rfl (hb hby at_117) (by decide) (by decide) ?_
    show Steps p.tables e below (T101.setTop (mkF m 121 #[.val (.long j0), .second, .val (.long j1), .second, .val (.long j2), .second, .val (.long j3), .second, .val (.long j4), .second, .val (.long j5), .second, .val (.ref b1), .val (.ref b7), .val (.ref b16), .val (.int (1 : Int32)), .val (.int (1 : Int32)), .val (.ref b28), .unset, .unset] [(.int (1 : Int32))])) t
    refine XS.istore X101.here hx rfl (hb hby at_121) rfl (l' := #[.val (.long j0), .second, .val (.long j1), .second, .val (.long j2), .second, .val (.long j3), .second, .val (.long j4), .second, .val (.long j5), .second, .val (.ref b1), .val (.ref b7), .val (.ref b16), .val (.int (1 : Int32)), .val (.int (1 : Int32)), .val (.ref b28), .val (.int (1 : Int32)), .unset]) rfl ?_
    show Steps p.tables e below (T101.setTop (mkF m 123 #[.val (.long j0), .second, .val (.long j1), .second, .val (.long j2), .second, .val (.long j3), .second, .val (.long j4), .second, .val (.long j5), .second, .val (.ref b1), .val (.ref b7), .val (.ref b16), .val (.int (1 : Int32)), .val (.int (1 : Int32)), .val (.ref b28), .val (.int (1 : Int32)), .unset] [])) t
    refine XS.aload X101.here hx rfl (hb hby at_123) rfl rfl ?_
    show Steps p.tables e below (T101.setTop (mkF m 125 #[.val (.long j0), .second, .val (.long j1), .second, .val (.long j2), .second, .val (.long j3), .second, .val (.long j4), .second, .val (.long j5), .second, .val (.ref b1), .val (.ref b7), .val (.ref b16), .val (.int (1 : Int32)), .val (.int (1 : Int32)), .val (.ref b28), .val (.int (1 : Int32)), .unset] [(.ref b1)])) t
    refine XS.aload X101.here hx rfl (hb hby at_125) rfl rfl ?_
    exact k
  refine OFin.go S105 ?_
  have F107 := F81.keep K80q nin0
  have F108 := F83.keep K80q nin0
  have F109 := F26_b16_additionsLength.keep K28q (ninS (Ne.symm q22) nin0)
  have F110 := F109.keep K69q (ninS (Ne.symm q22) nin0)
  have F111 := F110.keep K72q nin0
  have F112 := F111.keep K80q nin0
  have F113 := F26_b16_removedLength.keep K28q (ninS (Ne.symm q22) nin0)
  have F114 := F113.keep K69q (ninS (Ne.symm q22) nin0)
  have F115 := F114.keep K72q nin0
  have F116 := F115.keep K80q nin0
  obtain ⟨_, T106, Lc106, X106, hQ106, st106⟩ := virtQ X101 hx hZ (y := (⟨"com/example/clockwrap/clockwrap/store/GarbageEstimate", "appended", "(Lcom/example/clockwrap/clockwrap/store/TimerLog$Tally;)V"⟩ : MethodName)) hown (hw _ (List.mem_of_getElem? (i := 38) rfl)) (hw _ (List.mem_of_getElem? (i := 40) rfl)) (hw _ (List.mem_of_getElem? (i := 2) rfl)) (hw _ (List.mem_of_getElem? (i := 42) rfl)) (hw _ (List.mem_of_getElem? (i := 39) rfl)) (hw _ (List.mem_of_getElem? (i := 41) rfl)) (by decide) F93 (argsL := [(.ref b16)]) (rest := []) (rm6 l Z a0 hw [] b1 b16 j3 b28 b28 ((0 : Int64) + j1) ((0 : Int64) + j2) j4 j5 T80.heap n0 Z80 ge1 F93 F107 F92 F108 F97 F96 F102 F112 F116) (W := 0) (by decide) (by decide) e101 (g := (mkF m 127 #[.val (.long j0), .second, .val (.long j1), .second, .val (.long j2), .second, .val (.long j3), .second, .val (.long j4), .second, .val (.long j5), .second, .val (.ref b1), .val (.ref b7), .val (.ref b16), .val (.int (1 : Int32)), .val (.int (1 : Int32)), .val (.ref b28), .val (.int (1 : Int32)), .unset] [(.ref b16), (.ref b1)])) rfl (by rw [hml]; rfl) (lenOf pd_6 rfl) rfl (by show 2 * 0 + _ ≤ _; exact Nat.le_of_eq rfl) (hb hby at_127) (Nat.le_of_ble_eq_true rfl) (Nat.le_of_ble_eq_true rfl)
  obtain ⟨b106, rfl, N106q, K106q, hb106, F106_b1_compactedLengthRead, F106_b1_appended, F106_b1_read, E106_b106, F106_b106_additionsLength, F106_b106_removedLength⟩ := hQ106
  have F117 := F60.keep K28q
  have F118 := F117.keep K69q
  have F119 := F118.keep K72q
  have F120 := F119.keep K80q
  have q121 : aN ≠ b106 := Nat.ne_of_lt (Nat.lt_of_lt_of_le F120.lt hb106)
  have q122 : b1 ≠ b106 := Nat.ne_of_lt (Nat.lt_of_lt_of_le F93.lt hb106)
  have F123 := F64.keep K28q
  have F124 := F123.keep K69q
  have F125 := F124.keep K72q
  have F126 := F125.keep K80q
  have q127 : b7 ≠ b106 := Nat.ne_of_lt (Nat.lt_of_lt_of_le F126.lt hb106)
  have F128 := F66.keep K28q
  have F129 := F128.keep K69q
  have F130 := F129.keep K72q
  have F131 := F130.keep K80q
  have q132 : b16 ≠ b106 := Nat.ne_of_lt (Nat.lt_of_lt_of_le F131.lt hb106)
  have q133 : b28 ≠ b106 := Nat.ne_of_lt (Nat.lt_of_lt_of_le F97.lt hb106)
  have ge106 : n0 ≤ b106 := Nat.le_trans Z80 hb106
  have Z106 : n0 ≤ T106.heap.size := Nat.le_trans Z80 K106q.1
  have N106 := Fr.app N101 N106q
  refine OFin.go st106 ?_
  show OFin p e below _ (T106.setTop (mkF m 130 #[.val (.long j0), .second, .val (.long j1), .second, .val (.long j2), .second, .val (.long j3), .second, .val (.long j4), .second, .val (.long j5), .second, .val (.ref b1), .val (.ref b7), .val (.ref b16), .val (.int (1 : Int32)), .val (.int (1 : Int32)), .val (.ref b28), .val (.int (1 : Int32)), .unset] []))
  have S134 : ∀ t, Steps p.tables e below (T106.setTop (mkF m 132 #[.val (.long j0), .second, .val (.long j1), .second, .val (.long j2), .second, .val (.long j3), .second, .val (.long j4), .second, .val (.long j5), .second, .val (.ref b1), .val (.ref b7), .val (.ref b16), .val (.int (1 : Int32)), .val (.int (1 : Int32)), .val (.ref b28), .val (.int (1 : Int32)), .unset] [(.ref b1)])) t → Steps p.tables e below (T106.setTop (mkF m 130 #[.val (.long j0), .second, .val (.long j1), .second, .val (.long j2), .second, .val (.long j3), .second, .val (.long j4), .second, .val (.long j5), .second, .val (.ref b1), .val (.ref b7), .val (.ref b16), .val (.int (1 : Int32)), .val (.int (1 : Int32)), .val (.ref b28), .val (.int (1 : Int32)), .unset] [])) t := by
    intro t k
    show Steps p.tables e below (T106.setTop (mkF m 130 #[.val (.long j0), .second, .val (.long j1), .second, .val (.long j2), .second, .val (.long j3), .second, .val (.long j4), .second, .val (.long j5), .second, .val (.ref b1), .val (.ref b7), .val (.ref b16), .val (.int (1 : Int32)), .val (.int (1 : Int32)), .val (.ref b28), .val (.int (1 : Int32)), .unset] [])) t
    refine XS.aload X106.here hx rfl (hb hby at_130) rfl rfl ?_
    exact k
  refine OFin.go S134 ?_
  have F136 := F96.keep K106q (ninS (Ne.symm q62) nin0)
  have F137 := F102.keep K106q (ninS (Ne.symm q62) nin0)
  have F138 := F93.keep K106q
  obtain ⟨_, T135, Lc135, X135, hQ135, st135⟩ := virtQ X106 hx hZ (y := (⟨"com/example/clockwrap/clockwrap/store/GarbageEstimate", "compactedLength", "()J"⟩ : MethodName)) hown (hw _ (List.mem_of_getElem? (i := 55) rfl)) (hw _ (List.mem_of_getElem? (i := 57) rfl)) (hw _ (List.mem_of_getElem? (i := 2) rfl)) (hw _ (List.mem_of_getElem? (i := 59) rfl)) (hw _ (List.mem_of_getElem? (i := 56) rfl)) (hw _ (List.mem_of_getElem? (i := 58) rfl)) (by decide) F138 (argsL := []) (rest := []) (rm9 l Z a0 hw [] b1  j3 b106 b28 (((0 : Int64) + j1) + j4) (((0 : Int64) + j2) + j5) ((0 : Int64) + j1) ((0 : Int64) + j2) T106.heap n0 Z106 F138 F106_b1_compactedLengthRead F106_b1_appended F106_b1_read E106_b106 F106_b106_additionsLength F106_b106_removedLength F136 F137) (W := 0) (by decide) (by decide) rfl (g := (mkF m 132 #[.val (.long j0), .second, .val (.long j1), .second, .val (.long j2), .second, .val (.long j3), .second, .val (.long j4), .second, .val (.long j5), .second, .val (.ref b1), .val (.ref b7), .val (.ref b16), .val (.int (1 : Int32)), .val (.int (1 : Int32)), .val (.ref b28), .val (.int (1 : Int32)), .unset] [(.ref b1)])) rfl (by rw [hml]; rfl) (lenOf pd_4 rfl) rfl (by show 2 * 0 + _ ≤ _; exact Nat.le_of_eq rfl) (hb hby at_132) (Nat.le_of_ble_eq_true rfl) (Nat.le_of_ble_eq_true rfl)
  obtain ⟨rfl, N135q, K135q⟩ := hQ135
  have Z135 : n0 ≤ T135.heap.size := Nat.le_trans Z106 K135q.1
  have N135 := Fr.app N106 N135q
  refine OFin.go st135 ?_
  show OFin p e below _ (T135.setTop (mkF m 135 #[.val (.long j0), .second, .val (.long j1), .second, .val (.long j2), .second, .val (.long j3), .second, .val (.long j4), .second, .val (.long j5), .second, .val (.ref b1), .val (.ref b7), .val (.ref b16), .val (.int (1 : Int32)), .val (.int (1 : Int32)), .val (.ref b28), .val (.int (1 : Int32)), .unset] [(.long ((j3 + ((((0 : Int64) + j1) + j4) - ((0 : Int64) + j1))) - ((((0 : Int64) + j2) + j5) - ((0 : Int64) + j2))))]))
  have S139 : ∀ t, Steps p.tables e below (T135.setTop (mkF m 144 #[.val (.long j0), .second, .val (.long j1), .second, .val (.long j2), .second, .val (.long j3), .second, .val (.long j4), .second, .val (.long j5), .second, .val (.ref b1), .val (.ref b7), .val (.ref b16), .val (.int (1 : Int32)), .val (.int (1 : Int32)), .val (.ref b28), .val (.int (1 : Int32)), .unset] [(.int (lcmpW ((j3 + ((((0 : Int64) + j1) + j4) - ((0 : Int64) + j1))) - ((((0 : Int64) + j2) + j5) - ((0 : Int64) + j2))) ((j3 + j4) - j5)))])) t → Steps p.tables e below (T135.setTop (mkF m 135 #[.val (.long j0), .second, .val (.long j1), .second, .val (.long j2), .second, .val (.long j3), .second, .val (.long j4), .second, .val (.long j5), .second, .val (.ref b1), .val (.ref b7), .val (.ref b16), .val (.int (1 : Int32)), .val (.int (1 : Int32)), .val (.ref b28), .val (.int (1 : Int32)), .unset] [(.long ((j3 + ((((0 : Int64) + j1) + j4) - ((0 : Int64) + j1))) - ((((0 : Int64) + j2) + j5) - ((0 : Int64) + j2))))])) t := by
    intro t k
    show Steps p.tables e below (T135.setTop (mkF m 135 #[.val (.long j0), .second, .val (.long j1), .second, .val (.long j2), .second, .val (.long j3), .second, .val (.long j4), .second, .val (.long j5), .second, .val (.ref b1), .val (.ref b7), .val (.ref b16), .val (.int (1 : Int32)), .val (.int (1 : Int32)), .val (.ref b28), .val (.int (1 : Int32)), .unset] [(.long ((j3 + ((((0 : Int64) + j1) + j4) - ((0 : Int64) + j1))) - ((((0 : Int64) + j2) + j5) - ((0 : Int64) + j2))))])) t
    refine XS.lload X135.here hx rfl (hb hby at_135) rfl ?_
    show Steps p.tables e below (T135.setTop (mkF m 137 #[.val (.long j0), .second, .val (.long j1), .second, .val (.long j2), .second, .val (.long j3), .second, .val (.long j4), .second, .val (.long j5), .second, .val (.ref b1), .val (.ref b7), .val (.ref b16), .val (.int (1 : Int32)), .val (.int (1 : Int32)), .val (.ref b28), .val (.int (1 : Int32)), .unset] [(.long j3), (.long ((j3 + ((((0 : Int64) + j1) + j4) - ((0 : Int64) + j1))) - ((((0 : Int64) + j2) + j5) - ((0 : Int64) + j2))))])) t
    refine XS.lload X135.here hx rfl (hb hby at_137) rfl ?_
    show Steps p.tables e below (T135.setTop (mkF m 139 #[.val (.long j0), .second, .val (.long j1), .second, .val (.long j2), .second, .val (.long j3), .second, .val (.long j4), .second, .val (.long j5), .second, .val (.ref b1), .val (.ref b7), .val (.ref b16), .val (.int (1 : Int32)), .val (.int (1 : Int32)), .val (.ref b28), .val (.int (1 : Int32)), .unset] [(.long j4), (.long j3), (.long ((j3 + ((((0 : Int64) + j1) + j4) - ((0 : Int64) + j1))) - ((((0 : Int64) + j2) + j5) - ((0 : Int64) + j2))))])) t
    refine XS.ladd X135.here hx rfl (hb hby at_139) rfl ?_
    show Steps p.tables e below (T135.setTop (mkF m 140 #[.val (.long j0), .second, .val (.long j1), .second, .val (.long j2), .second, .val (.long j3), .second, .val (.long j4), .second, .val (.long j5), .second, .val (.ref b1), .val (.ref b7), .val (.ref b16), .val (.int (1 : Int32)), .val (.int (1 : Int32)), .val (.ref b28), .val (.int (1 : Int32)), .unset] [(.long (j3 + j4)), (.long ((j3 + ((((0 : Int64) + j1) + j4) - ((0 : Int64) + j1))) - ((((0 : Int64) + j2) + j5) - ((0 : Int64) + j2))))])) t
    refine XS.lload X135.here hx rfl (hb hby at_140) rfl ?_
    show Steps p.tables e below (T135.setTop (mkF m 142 #[.val (.long j0), .second, .val (.long j1), .second, .val (.long j2), .second, .val (.long j3), .second, .val (.long j4), .second, .val (.long j5), .second, .val (.ref b1), .val (.ref b7), .val (.ref b16), .val (.int (1 : Int32)), .val (.int (1 : Int32)), .val (.ref b28), .val (.int (1 : Int32)), .unset] [(.long j5), (.long (j3 + j4)), (.long ((j3 + ((((0 : Int64) + j1) + j4) - ((0 : Int64) + j1))) - ((((0 : Int64) + j2) + j5) - ((0 : Int64) + j2))))])) t
    refine XS.lsub X135.here hx rfl (hb hby at_142) rfl ?_
    show Steps p.tables e below (T135.setTop (mkF m 143 #[.val (.long j0), .second, .val (.long j1), .second, .val (.long j2), .second, .val (.long j3), .second, .val (.long j4), .second, .val (.long j5), .second, .val (.ref b1), .val (.ref b7), .val (.ref b16), .val (.int (1 : Int32)), .val (.int (1 : Int32)), .val (.ref b28), .val (.int (1 : Int32)), .unset] [(.long ((j3 + j4) - j5)), (.long ((j3 + ((((0 : Int64) + j1) + j4) - ((0 : Int64) + j1))) - ((((0 : Int64) + j2) + j5) - ((0 : Int64) + j2))))])) t
    refine XS.lcmp X135.here hx rfl (hb hby at_143) rfl ?_
    exact k
  refine OFin.go S139 ?_
  have S140 : ∀ t, Steps p.tables e below (T135.setTop (mkF m 147 #[.val (.long j0), .second, .val (.long j1), .second, .val (.long j2), .second, .val (.long j3), .second, .val (.long j4), .second, .val (.long j5), .second, .val (.ref b1), .val (.ref b7), .val (.ref b16), .val (.int (1 : Int32)), .val (.int (1 : Int32)), .val (.ref b28), .val (.int (1 : Int32)), .unset] [])) t → Steps p.tables e below (T135.setTop (mkF m 144 #[.val (.long j0), .second, .val (.long j1), .second, .val (.long j2), .second, .val (.long j3), .second, .val (.long j4), .second, .val (.long j5), .second, .val (.ref b1), .val (.ref b7), .val (.ref b16), .val (.int (1 : Int32)), .val (.int (1 : Int32)), .val (.ref b28), .val (.int (1 : Int32)), .unset] [(.int (lcmpW ((j3 + ((((0 : Int64) + j1) + j4) - ((0 : Int64) + j1))) - ((((0 : Int64) + j2) + j5) - ((0 : Int64) + j2))) ((j3 + j4) - j5)))])) t := by
    intro t k
    show Steps p.tables e below (T135.setTop (mkF m 144 #[.val (.long j0), .second, .val (.long j1), .second, .val (.long j2), .second, .val (.long j3), .second, .val (.long j4), .second, .val (.long j5), .second, .val (.ref b1), .val (.ref b7), .val (.ref b16), .val (.int (1 : Int32)), .val (.int (1 : Int32)), .val (.ref b28), .val (.int (1 : Int32)), .unset] [(.int (lcmpW ((j3 + ((((0 : Int64) + j1) + j4) - ((0 : Int64) + j1))) - ((((0 : Int64) + j2) + j5) - ((0 : Int64) + j2))) ((j3 + j4) - j5)))])) t
    refine XS.ifNo X135.here hx rfl (hb hby at_144) rfl (lc_ne_f (own_l144 j0 j1 j2 j3 j4 j5 )) ?_
    exact k
  refine OFin.go S140 ?_
  have S141 : ∀ t, Steps p.tables e below (T135.setTop (mkF m 156 #[.val (.long j0), .second, .val (.long j1), .second, .val (.long j2), .second, .val (.long j3), .second, .val (.long j4), .second, .val (.long j5), .second, .val (.ref b1), .val (.ref b7), .val (.ref b16), .val (.int (1 : Int32)), .val (.int (1 : Int32)), .val (.ref b28), .val (.int (1 : Int32)), .val (.int (1 : Int32))] [(.int (1 : Int32))])) t → Steps p.tables e below (T135.setTop (mkF m 147 #[.val (.long j0), .second, .val (.long j1), .second, .val (.long j2), .second, .val (.long j3), .second, .val (.long j4), .second, .val (.long j5), .second, .val (.ref b1), .val (.ref b7), .val (.ref b16), .val (.int (1 : Int32)), .val (.int (1 : Int32)), .val (.ref b28), .val (.int (1 : Int32)), .unset] [])) t := by
    intro t k
    show Steps p.tables e below (T135.setTop (mkF m 147 #[.val (.long j0), .second, .val (.long j1), .second, .val (.long j2), .second, .val (.long j3), .second, .val (.long j4), .second, .val (.long j5), .second, .val (.ref b1), .val (.ref b7), .val (.ref b16), .val (.int (1 : Int32)), .val (.int (1 : Int32)), .val (.ref b28), .val (.int (1 : Int32)), .unset] [])) t
    refine XS.iconst X135.here hx rfl (hb hby at_147) ?_
    show Steps p.tables e below (T135.setTop (mkF m 148 #[.val (.long j0), .second, .val (.long j1), .second, .val (.long j2), .second, .val (.long j3), .second, .val (.long j4), .second, .val (.long j5), .second, .val (.ref b1), .val (.ref b7), .val (.ref b16), .val (.int (1 : Int32)), .val (.int (1 : Int32)), .val (.ref b28), .val (.int (1 : Int32)), .unset] [(.int (1 : Int32))])) t
    refine XS.goto X135.here hx rfl (pc0 := 148) (pc' := 152) rfl (hb hby at_148) (by decide) (by decide) ?_
    show Steps p.tables e below (T135.setTop (mkF m 152 #[.val (.long j0), .second, .val (.long j1), .second, .val (.long j2), .second, .val (.long j3), .second, .val (.long j4), .second, .val (.long j5), .second, .val (.ref b1), .val (.ref b7), .val (.ref b16), .val (.int (1 : Int32)), .val (.int (1 : Int32)), .val (.ref b28), .val (.int (1 : Int32)), .unset] [(.int (1 : Int32))])) t
    refine XS.istore X135.here hx rfl (hb hby at_152) rfl (l' := #[.val (.long j0), .second, .val (.long j1), .second, .val (.long j2), .second, .val (.long j3), .second, .val (.long j4), .second, .val (.long j5), .second, .val (.ref b1), .val (.ref b7), .val (.ref b16), .val (.int (1 : Int32)), .val (.int (1 : Int32)), .val (.ref b28), .val (.int (1 : Int32)), .val (.int (1 : Int32))]) rfl ?_
    show Steps p.tables e below (T135.setTop (mkF m 154 #[.val (.long j0), .second, .val (.long j1), .second, .val (.long j2), .second, .val (.long j3), .second, .val (.long j4), .second, .val (.long j5), .second, .val (.ref b1), .val (.ref b7), .val (.ref b16), .val (.int (1 : Int32)), .val (.int (1 : Int32)), .val (.ref b28), .val (.int (1 : Int32)), .val (.int (1 : Int32))] [])) t
    refine XS.iload X135.here hx rfl (hb hby at_154) rfl ?_
    exact k
  refine OFin.go S141 ?_
  have S142 : ∀ t, Steps p.tables e below (T135.setTop (mkF m 159 #[.val (.long j0), .second, .val (.long j1), .second, .val (.long j2), .second, .val (.long j3), .second, .val (.long j4), .second, .val (.long j5), .second, .val (.ref b1), .val (.ref b7), .val (.ref b16), .val (.int (1 : Int32)), .val (.int (1 : Int32)), .val (.ref b28), .val (.int (1 : Int32)), .val (.int (1 : Int32))] [])) t → Steps p.tables e below (T135.setTop (mkF m 156 #[.val (.long j0), .second, .val (.long j1), .second, .val (.long j2), .second, .val (.long j3), .second, .val (.long j4), .second, .val (.long j5), .second, .val (.ref b1), .val (.ref b7), .val (.ref b16), .val (.int (1 : Int32)), .val (.int (1 : Int32)), .val (.ref b28), .val (.int (1 : Int32)), .val (.int (1 : Int32))] [(.int (1 : Int32))])) t := by
    intro t k
    show Steps p.tables e below (T135.setTop (mkF m 156 #[.val (.long j0), .second, .val (.long j1), .second, .val (.long j2), .second, .val (.long j3), .second, .val (.long j4), .second, .val (.long j5), .second, .val (.ref b1), .val (.ref b7), .val (.ref b16), .val (.int (1 : Int32)), .val (.int (1 : Int32)), .val (.ref b28), .val (.int (1 : Int32)), .val (.int (1 : Int32))] [(.int (1 : Int32))])) t
    refine XS.ifNo X135.here hx rfl (hb hby at_156) rfl ((if0 _ _).trans (feq (by decide)).1) ?_
    exact k
  refine OFin.go S142 ?_
  have S143 : ∀ t, Steps p.tables e below (T135.setTop (mkF m 161 #[.val (.long j0), .second, .val (.long j1), .second, .val (.long j2), .second, .val (.long j3), .second, .val (.long j4), .second, .val (.long j5), .second, .val (.ref b1), .val (.ref b7), .val (.ref b16), .val (.int (1 : Int32)), .val (.int (1 : Int32)), .val (.ref b28), .val (.int (1 : Int32)), .val (.int (1 : Int32))] [(.int (1 : Int32))])) t → Steps p.tables e below (T135.setTop (mkF m 159 #[.val (.long j0), .second, .val (.long j1), .second, .val (.long j2), .second, .val (.long j3), .second, .val (.long j4), .second, .val (.long j5), .second, .val (.ref b1), .val (.ref b7), .val (.ref b16), .val (.int (1 : Int32)), .val (.int (1 : Int32)), .val (.ref b28), .val (.int (1 : Int32)), .val (.int (1 : Int32))] [])) t := by
    intro t k
    show Steps p.tables e below (T135.setTop (mkF m 159 #[.val (.long j0), .second, .val (.long j1), .second, .val (.long j2), .second, .val (.long j3), .second, .val (.long j4), .second, .val (.long j5), .second, .val (.ref b1), .val (.ref b7), .val (.ref b16), .val (.int (1 : Int32)), .val (.int (1 : Int32)), .val (.ref b28), .val (.int (1 : Int32)), .val (.int (1 : Int32))] [])) t
    refine XS.iload X135.here hx rfl (hb hby at_159) rfl ?_
    exact k
  refine OFin.go S143 ?_
  have S144 : ∀ t, Steps p.tables e below (T135.setTop (mkF m 164 #[.val (.long j0), .second, .val (.long j1), .second, .val (.long j2), .second, .val (.long j3), .second, .val (.long j4), .second, .val (.long j5), .second, .val (.ref b1), .val (.ref b7), .val (.ref b16), .val (.int (1 : Int32)), .val (.int (1 : Int32)), .val (.ref b28), .val (.int (1 : Int32)), .val (.int (1 : Int32))] [])) t → Steps p.tables e below (T135.setTop (mkF m 161 #[.val (.long j0), .second, .val (.long j1), .second, .val (.long j2), .second, .val (.long j3), .second, .val (.long j4), .second, .val (.long j5), .second, .val (.ref b1), .val (.ref b7), .val (.ref b16), .val (.int (1 : Int32)), .val (.int (1 : Int32)), .val (.ref b28), .val (.int (1 : Int32)), .val (.int (1 : Int32))] [(.int (1 : Int32))])) t := by
    intro t k
    show Steps p.tables e below (T135.setTop (mkF m 161 #[.val (.long j0), .second, .val (.long j1), .second, .val (.long j2), .second, .val (.long j3), .second, .val (.long j4), .second, .val (.long j5), .second, .val (.ref b1), .val (.ref b7), .val (.ref b16), .val (.int (1 : Int32)), .val (.int (1 : Int32)), .val (.ref b28), .val (.int (1 : Int32)), .val (.int (1 : Int32))] [(.int (1 : Int32))])) t
    refine XS.ifNo X135.here hx rfl (hb hby at_161) rfl ((if0 _ _).trans (feq (by decide)).1) ?_
    exact k
  refine OFin.go S144 ?_
  have S145 : ∀ t, Steps p.tables e below (T135.setTop (mkF m 166 #[.val (.long j0), .second, .val (.long j1), .second, .val (.long j2), .second, .val (.long j3), .second, .val (.long j4), .second, .val (.long j5), .second, .val (.ref b1), .val (.ref b7), .val (.ref b16), .val (.int (1 : Int32)), .val (.int (1 : Int32)), .val (.ref b28), .val (.int (1 : Int32)), .val (.int (1 : Int32))] [(.int (1 : Int32))])) t → Steps p.tables e below (T135.setTop (mkF m 164 #[.val (.long j0), .second, .val (.long j1), .second, .val (.long j2), .second, .val (.long j3), .second, .val (.long j4), .second, .val (.long j5), .second, .val (.ref b1), .val (.ref b7), .val (.ref b16), .val (.int (1 : Int32)), .val (.int (1 : Int32)), .val (.ref b28), .val (.int (1 : Int32)), .val (.int (1 : Int32))] [])) t := by
    intro t k
    show Steps p.tables e below (T135.setTop (mkF m 164 #[.val (.long j0), .second, .val (.long j1), .second, .val (.long j2), .second, .val (.long j3), .second, .val (.long j4), .second, .val (.long j5), .second, .val (.ref b1), .val (.ref b7), .val (.ref b16), .val (.int (1 : Int32)), .val (.int (1 : Int32)), .val (.ref b28), .val (.int (1 : Int32)), .val (.int (1 : Int32))] [])) t
    refine XS.iload X135.here hx rfl (hb hby at_164) rfl ?_
    exact k
  refine OFin.go S145 ?_
  have S146 : ∀ t, Steps p.tables e below (T135.setTop (mkF m 169 #[.val (.long j0), .second, .val (.long j1), .second, .val (.long j2), .second, .val (.long j3), .second, .val (.long j4), .second, .val (.long j5), .second, .val (.ref b1), .val (.ref b7), .val (.ref b16), .val (.int (1 : Int32)), .val (.int (1 : Int32)), .val (.ref b28), .val (.int (1 : Int32)), .val (.int (1 : Int32))] [])) t → Steps p.tables e below (T135.setTop (mkF m 166 #[.val (.long j0), .second, .val (.long j1), .second, .val (.long j2), .second, .val (.long j3), .second, .val (.long j4), .second, .val (.long j5), .second, .val (.ref b1), .val (.ref b7), .val (.ref b16), .val (.int (1 : Int32)), .val (.int (1 : Int32)), .val (.ref b28), .val (.int (1 : Int32)), .val (.int (1 : Int32))] [(.int (1 : Int32))])) t := by
    intro t k
    show Steps p.tables e below (T135.setTop (mkF m 166 #[.val (.long j0), .second, .val (.long j1), .second, .val (.long j2), .second, .val (.long j3), .second, .val (.long j4), .second, .val (.long j5), .second, .val (.ref b1), .val (.ref b7), .val (.ref b16), .val (.int (1 : Int32)), .val (.int (1 : Int32)), .val (.ref b28), .val (.int (1 : Int32)), .val (.int (1 : Int32))] [(.int (1 : Int32))])) t
    refine XS.ifNo X135.here hx rfl (hb hby at_166) rfl ((if0 _ _).trans (feq (by decide)).1) ?_
    exact k
  refine OFin.go S146 ?_
  have S147 : ∀ t, Steps p.tables e below (T135.setTop (mkF m 171 #[.val (.long j0), .second, .val (.long j1), .second, .val (.long j2), .second, .val (.long j3), .second, .val (.long j4), .second, .val (.long j5), .second, .val (.ref b1), .val (.ref b7), .val (.ref b16), .val (.int (1 : Int32)), .val (.int (1 : Int32)), .val (.ref b28), .val (.int (1 : Int32)), .val (.int (1 : Int32))] [(.int (1 : Int32))])) t → Steps p.tables e below (T135.setTop (mkF m 169 #[.val (.long j0), .second, .val (.long j1), .second, .val (.long j2), .second, .val (.long j3), .second, .val (.long j4), .second, .val (.long j5), .second, .val (.ref b1), .val (.ref b7), .val (.ref b16), .val (.int (1 : Int32)), .val (.int (1 : Int32)), .val (.ref b28), .val (.int (1 : Int32)), .val (.int (1 : Int32))] [])) t := by
    intro t k
    show Steps p.tables e below (T135.setTop (mkF m 169 #[.val (.long j0), .second, .val (.long j1), .second, .val (.long j2), .second, .val (.long j3), .second, .val (.long j4), .second, .val (.long j5), .second, .val (.ref b1), .val (.ref b7), .val (.ref b16), .val (.int (1 : Int32)), .val (.int (1 : Int32)), .val (.ref b28), .val (.int (1 : Int32)), .val (.int (1 : Int32))] [])) t
    refine XS.iload X135.here hx rfl (hb hby at_169) rfl ?_
    exact k
  refine OFin.go S147 ?_
  have S148 : ∀ t, Steps p.tables e below (T135.setTop (mkF m 174 #[.val (.long j0), .second, .val (.long j1), .second, .val (.long j2), .second, .val (.long j3), .second, .val (.long j4), .second, .val (.long j5), .second, .val (.ref b1), .val (.ref b7), .val (.ref b16), .val (.int (1 : Int32)), .val (.int (1 : Int32)), .val (.ref b28), .val (.int (1 : Int32)), .val (.int (1 : Int32))] [])) t → Steps p.tables e below (T135.setTop (mkF m 171 #[.val (.long j0), .second, .val (.long j1), .second, .val (.long j2), .second, .val (.long j3), .second, .val (.long j4), .second, .val (.long j5), .second, .val (.ref b1), .val (.ref b7), .val (.ref b16), .val (.int (1 : Int32)), .val (.int (1 : Int32)), .val (.ref b28), .val (.int (1 : Int32)), .val (.int (1 : Int32))] [(.int (1 : Int32))])) t := by
    intro t k
    show Steps p.tables e below (T135.setTop (mkF m 171 #[.val (.long j0), .second, .val (.long j1), .second, .val (.long j2), .second, .val (.long j3), .second, .val (.long j4), .second, .val (.long j5), .second, .val (.ref b1), .val (.ref b7), .val (.ref b16), .val (.int (1 : Int32)), .val (.int (1 : Int32)), .val (.ref b28), .val (.int (1 : Int32)), .val (.int (1 : Int32))] [(.int (1 : Int32))])) t
    refine XS.ifNo X135.here hx rfl (hb hby at_171) rfl ((if0 _ _).trans (feq (by decide)).1) ?_
    exact k
  refine OFin.go S148 ?_
  have S149 : ∀ t, Steps p.tables e below (T135.setTop (mkF m 179 #[.val (.long j0), .second, .val (.long j1), .second, .val (.long j2), .second, .val (.long j3), .second, .val (.long j4), .second, .val (.long j5), .second, .val (.ref b1), .val (.ref b7), .val (.ref b16), .val (.int (1 : Int32)), .val (.int (1 : Int32)), .val (.ref b28), .val (.int (1 : Int32)), .val (.int (1 : Int32))] [(.int (1 : Int32))])) t → Steps p.tables e below (T135.setTop (mkF m 174 #[.val (.long j0), .second, .val (.long j1), .second, .val (.long j2), .second, .val (.long j3), .second, .val (.long j4), .second, .val (.long j5), .second, .val (.ref b1), .val (.ref b7), .val (.ref b16), .val (.int (1 : Int32)), .val (.int (1 : Int32)), .val (.ref b28), .val (.int (1 : Int32)), .val (.int (1 : Int32))] [])) t := by
    intro t k
    show Steps p.tables e below (T135.setTop (mkF m 174 #[.val (.long j0), .second, .val (.long j1), .second, .val (.long j2), .second, .val (.long j3), .second, .val (.long j4), .second, .val (.long j5), .second, .val (.ref b1), .val (.ref b7), .val (.ref b16), .val (.int (1 : Int32)), .val (.int (1 : Int32)), .val (.ref b28), .val (.int (1 : Int32)), .val (.int (1 : Int32))] [])) t
    refine XS.iconst X135.here hx rfl (hb hby at_174) ?_
    show Steps p.tables e below (T135.setTop (mkF m 175 #[.val (.long j0), .second, .val (.long j1), .second, .val (.long j2), .second, .val (.long j3), .second, .val (.long j4), .second, .val (.long j5), .second, .val (.ref b1), .val (.ref b7), .val (.ref b16), .val (.int (1 : Int32)), .val (.int (1 : Int32)), .val (.ref b28), .val (.int (1 : Int32)), .val (.int (1 : Int32))] [(.int (1 : Int32))])) t
    refine XS.goto X135.here hx rfl (pc0 := 175) (pc' := 179) rfl (hb hby at_175) (by decide) (by decide) ?_
    exact k
  refine OFin.go S149 ?_
  exact finZ X135 hx Bd.notSynchronized (t := .boolean) Bd.returns (by simp) (hb hby at_179) rfl (by decide) (by decide) (⟨congrArg (fun z => some (Value.int z)) (rfl : (1 : Int32) = (1 : Int32)), N135⟩)
set_option maxRecDepth 65536 in
set_option maxHeartbeats 40000000 in
theorem comes_1 {Post : Tables → Env → Array Value → State → Outcome → State → Prop} (hpost : ∀ tb e args s v u, (limb_1_1.after args s (.returned v) u = true ∧ limb_1_2.after args s (.returned v) u = true ∧ True) → FrameEnd s (.returned v) u (Jvm.fieldLocs frame_1_writes args s ++ Jvm.arrayLocs frame_1_arrays args s ++ Jvm.staticLocs frame_1_statics s) 24 128 → Post tb e args s (.returned v) u) :
    ArmFor flags0 classFile x code maxLocals ret World_1 tables_1 room_1 Calls_1 rest_1 Pre_1 Post := by
  intro l hfl _ _ p e ha hc hk s m args below hf hA hF happ hP
  obtain ⟨hcalls, hrest, hpre⟩ := hP
  obtain ⟨-, -, -, hnamed, -, -, -, hat⟩ := (Spec.applies_iff hf).mp happ
  obtain ⟨hg, hn⟩ := and_e (Cond.before_iff.mp (show (Jvm.Cond.and given_1 narrow_1).before args s = true from hpre))
  obtain ⟨gg2, gg3⟩ := and_e hg
  obtain ⟨gg4, gg5⟩ := and_e gg3
  obtain ⟨gg6, gg7⟩ := and_e gg5
  obtain ⟨gg8, gg9⟩ := and_e gg7
  obtain ⟨gg10, gg11⟩ := and_e gg9
  obtain ⟨gg12, gg13⟩ := and_e gg11
  obtain ⟨w0, w1, w2, w3, w4, w5, rfl⟩ : ∃ w0 w1 w2 w3 w4 w5 : Value, args = #[w0, w1, w2, w3, w4, w5] := by
    have hs : args.size = 6 := by simpa [Cond.value, given_1] using gg2
    obtain ⟨L⟩ := args
    match L, hs with
    | [w0, w1, w2, w3, w4, w5], _ => exact ⟨w0, w1, w2, w3, w4, w5, rfl⟩
  have hw := fun d (hd : d ∈ tables_1) => atoms_spec (ws := Jvm.Cond.code x code maxLocals ret :: tables_1) hat d (List.mem_cons_of_mem _ hd)
  have hfit : Fit s := fun {y c} hc i hi => by
    obtain ⟨ha, rfl⟩ := Array.getElem?_eq_some_iff.mp hc
    have q := List.all_eq_true.mp ((Array.all_eq_true_iff_forall_mem.mp hF) _ (Array.getElem_mem ha)) i (List.mem_range.mpr hi)
    simpa [Array.getElem?_eq_getElem hi] using q
  obtain ⟨i0, ei0⟩ := isL_v gg4
  obtain rfl : w0 = (.long i0) := Option.some.inj ei0
  obtain ⟨i1, ei1⟩ := isL_v gg6
  obtain rfl : w1 = (.long i1) := Option.some.inj ei1
  obtain ⟨i2, ei2⟩ := isL_v gg8
  obtain rfl : w2 = (.long i2) := Option.some.inj ei2
  obtain ⟨i3, ei3⟩ := isL_v gg10
  obtain rfl : w3 = (.long i3) := Option.some.inj ei3
  obtain ⟨i4, ei4⟩ := isL_v gg12
  obtain rfl : w4 = (.long i4) := Option.some.inj ei4
  obtain ⟨i5, ei5⟩ := isL_v gg13
  obtain rfl : w5 = (.long i5) := Option.some.inj ei5
  obtain ⟨m0, hn⟩ := and_e hn
  obtain ⟨m1, hn⟩ := and_e hn
  have m2 := hn
  obtain ⟨a_NONE, ev_NONE⟩ := exa_v m0
  have E_NONE := Exa.start ev_NONE m0
  have S_NONE := Sta.start ev_NONE (Or.inr ⟨(hw _ (List.mem_of_getElem? (i := 10) rfl)), (hw _ (List.mem_of_getElem? (i := 11) rfl))⟩)
  have F_NONE_additionsLength := Fld.start ((fld_at ev_NONE).symm.trans (eqv_l (long_at _) m1))
  have F_NONE_removedLength := Fld.start ((fld_at ev_NONE).symm.trans (eqv_l (long_at _) m2))
  obtain ⟨n, o, h1, h2, h3, _, L, rfl, ⟨rfl, N⟩, hq⟩ := rm0 l s _ hw tables_1 i0 i1 i2 i3 i4 i5 a_NONE s.heap s.heap.size (Nat.le_refl _) S_NONE E_NONE F_NONE_additionsLength F_NONE_removedLength p e ha hc hk s m _ below hf ((Spec.applies_iff_loose hf).mp happ).1 ⟨rfl, State.Warmed39.refl s, rfl⟩ trivial
  refine ⟨n, _, h1, h2, h3, hpost _ _ _ _ _ _ ⟨Cond.after_iff.mpr rfl, Cond.after_iff.mpr (eq_i res_at (Term.int_eval (1)) rfl), trivial⟩ ⟨hq.1, hq.2.1, (hq.2.2.sift fun y hy => Or.inr (N y hy)).mono (by decide) (by decide)⟩⟩
theorem main_1_1 : Claimed_1_1 := comes_1 fun _ _ _ _ _ _ h hF => ⟨h.1, hF⟩
theorem main_1_2 : Claimed_1_2 := comes_1 fun _ _ _ _ _ _ h hF => ⟨h.2.1, hF⟩
end Jvm.Pilot.@@N@@
namespace Jvm.Pilot.@@N@@
open Jvm Jvm.ClassFile Sem Op Lib Jvm.Free Jvm.Stand Jvm.Pilot.@@N@@.Jvm.D
/-! MADE BY PROGRAM (witnessworld.py) out of the Statement's table words and the real class files: 11 classes; the members and pool entries that the words name. The judged class is class 1, her method 1. -/
namespace start1
open Jvm.ClassFile
def u (s : String) : CpInfo := .utf8 (stringToUtf16 s)
/-- a pool by its gaps: so many unusable entries, then the entry; so many at the end -/
def gap : Nat → List CpInfo → List CpInfo
  | 0, r => r
  | n + 1, r => .unusable :: gap n r
def poolList (es : List (Nat × CpInfo)) (last : Nat) : List CpInfo := es.foldr (fun e r => gap e.1 (e.2 :: r)) (gap last [])
def pool (es : List (Nat × CpInfo)) (last : Nat) : Array CpInfo := ⟨poolList es last⟩
def fileOf (pool : Array CpInfo) (this : Nat) (attrs : Array Attribute := #[]) (ms : Array MethodInfo := #[]) (fl : Nat := 33) (sup : Nat := 0) (ifs : Array Nat := #[]) (fds : Array FieldInfo := #[]) : ClassFile where
  minorVersion := 0
  majorVersion := 65
  constantPool := pool
  accessFlags := fl
  thisClass := this
  superClass := sup
  interfaces := ifs
  fields := fds
  methods := ms
  attributes := attrs
def plain (name : String) (sup : Option ClassId) : Class where
  name := name
  kind := .ordinary
  loader := none
  accessFlags := 33
  super := sup
  interfaces := #[]
  cf := none
  fields := #[]
  methods := #[]
  instanceTypes := #[]
  staticTypes := #[]
  resolved := #[]
  callSites := []
  init := .initialized
  statics := none
  mirror := none

def pool0 : Array CpInfo := pool [(5, u "<init>"), (0, u "()V"), (1, .class_ 10), (1, u "java/lang/Object")] 113

def k0c0 : Code := { maxStack := 0, maxLocals := 1, code := object_method_1_code, exceptionTable := #[], attributes := #[] }
def k0m0 : Method := { name := "<init>", desc := "()V", sig := { parameters := [], returnType := none }, accessFlags := 1, code := some k0c0 }
/-- java/lang/Object -/
def k0 : Class := { plain "java/lang/Object" none with
  accessFlags := 33
  interfaces := #[]
  cf := some (fileOf pool0 8 #[] #[{ accessFlags := 1, nameIndex := 5, descriptorIndex := 6, attributes := #[] }] 33 0 #[] #[])
  fields := #[]
  methods := #[k0m0]
  instanceTypes := #[]
  staticTypes := #[]
  resolved := Array.replicate 124 none
  statics := none }

def pool1 : Array CpInfo := pool [(2, .class_ 4), (1, u "java/lang/Object"), (0, u "<init>"), (0, u "()V"), (0, .class_ 8), (0, u "com/example/clockwrap/clockwrap/store/GarbageEstimate"), (0, .methodref 7 10), (0, .nameAndType 5 11), (0, u "(J)V"), (0, .class_ 13), (0, u "com/example/clockwrap/clockwrap/store/TimerLog$Tally"), (0, .methodref 12 15), (0, .nameAndType 5 16), (0, u "(JJ)V"), (0, .methodref 7 18), (0, .nameAndType 19 20), (0, u "appended"), (0, u "(Lcom/example/clockwrap/clockwrap/store/TimerLog$Tally;)V"), (0, .methodref 7 22), (0, .nameAndType 23 11), (0, u "takeAllAsLive"), (0, .methodref 7 25), (0, .nameAndType 26 27), (0, u "compactedLength"), (0, u "()J"), (0, .methodref 7 29), (0, .nameAndType 30 31), (0, u "garbage"), (0, u "(J)J"), (0, .methodref 7 33), (0, .nameAndType 34 35), (0, u "appendedSoFar"), (0, u "()Lcom/example/clockwrap/clockwrap/store/TimerLog$Tally;"), (0, .methodref 12 37), (0, .nameAndType 38 27), (0, u "additionsLength"), (0, .methodref 12 40), (0, .nameAndType 41 27), (0, u "removedLength"), (0, .class_ 43), (0, u "com/example/clockwrap/clockwrap/store/GarbageEstimateTakeAllAsLivePinLaw"), (2, u "law"), (0, u "(JJJJJJ)Z")] 7

def k1m0 : Method := { name := "<init>", desc := "()V", sig := { parameters := [], returnType := none }, accessFlags := 2, code := none }
def k1c1 : Code := { maxStack := 6, maxLocals := 20, code := code, exceptionTable := #[], attributes := #[] }
def k1m1 : Method := { name := "law", desc := "(JJJJJJ)Z", sig := { parameters := [.long, .long, .long, .long, .long, .long], returnType := some .boolean }, accessFlags := 9, code := some k1c1 }
/-- com/example/clockwrap/clockwrap/store/GarbageEstimateTakeAllAsLivePinLaw -/
def k1 : Class := { plain "com/example/clockwrap/clockwrap/store/GarbageEstimateTakeAllAsLivePinLaw" (some 0) with
  accessFlags := 49
  interfaces := #[]
  cf := some (fileOf pool1 42 #[] #[{ accessFlags := 2, nameIndex := 5, descriptorIndex := 6, attributes := #[] }, { accessFlags := 9, nameIndex := 46, descriptorIndex := 47, attributes := #[] }] 49 2 #[] #[])
  fields := #[]
  methods := #[k1m0, k1m1]
  instanceTypes := #[]
  staticTypes := #[]
  resolved := Array.replicate 55 none
  statics := none }

def pool2 : Array CpInfo := pool [(1, .methodref 2 3), (0, .class_ 4), (0, .nameAndType 5 6), (0, u "java/lang/Object"), (0, u "<init>"), (0, u "()V"), (0, .fieldref 8 9), (0, .class_ 10), (0, .nameAndType 11 12), (0, u "com/example/clockwrap/clockwrap/store/TimerLog$Tally"), (0, u "NONE"), (0, u "Lcom/example/clockwrap/clockwrap/store/TimerLog$Tally;"), (0, .fieldref 14 15), (0, .class_ 16), (0, .nameAndType 17 12), (0, u "com/example/clockwrap/clockwrap/store/GarbageEstimate"), (0, u "appended"), (0, .fieldref 14 19), (0, .nameAndType 20 12), (0, u "read"), (0, .methodref 14 22), (0, .nameAndType 20 23), (0, u "(JLcom/example/clockwrap/clockwrap/store/TimerLog$Tally;)V"), (0, .methodref 8 25), (0, .nameAndType 26 27), (0, u "minus"), (0, u "(Lcom/example/clockwrap/clockwrap/store/TimerLog$Tally;)Lcom/example/clockwrap/clockwrap/store/TimerLog$Tally;"), (0, .fieldref 14 29), (0, .nameAndType 30 31), (0, u "compactedLengthRead"), (0, u "J"), (0, .methodref 8 33), (0, .nameAndType 34 35), (0, u "additionsLength"), (0, u "()J"), (0, .methodref 8 37), (0, .nameAndType 38 35), (0, u "removedLength"), (0, .methodref 14 40), (0, .nameAndType 41 35), (0, u "compactedLength"), (0, .methodref 8 43), (0, .nameAndType 44 27), (0, u "plus"), (0, u "(J)V"), (2, u "garbage"), (0, u "(J)J"), (0, u "(Lcom/example/clockwrap/clockwrap/store/TimerLog$Tally;)V"), (1, u "appendedSoFar"), (0, u "()Lcom/example/clockwrap/clockwrap/store/TimerLog$Tally;"), (0, u "takeAllAsLive")] 6

def k2c0 : Code := { maxStack := 4, maxLocals := 3, code := prog_29_method_1_code, exceptionTable := #[], attributes := #[] }
def k2m0 : Method := { name := "<init>", desc := "(J)V", sig := { parameters := [.long], returnType := none }, accessFlags := 0, code := some k2c0 }
def k2c1 : Code := { maxStack := 4, maxLocals := 2, code := prog_29_method_2_code, exceptionTable := #[], attributes := #[] }
def k2m1 : Method := { name := "compactedLength", desc := "()J", sig := { parameters := [], returnType := some .long }, accessFlags := 0, code := some k2c1 }
def k2c2 : Code := { maxStack := 4, maxLocals := 3, code := prog_29_method_3_code, exceptionTable := #[], attributes := #[] }
def k2m2 : Method := { name := "garbage", desc := "(J)J", sig := { parameters := [.long], returnType := some .long }, accessFlags := 0, code := some k2c2 }
def k2c3 : Code := { maxStack := 3, maxLocals := 2, code := prog_29_method_4_code, exceptionTable := #[], attributes := #[] }
def k2m3 : Method := { name := "appended", desc := "(Lcom/example/clockwrap/clockwrap/store/TimerLog$Tally;)V", sig := { parameters := [(.object "com/example/clockwrap/clockwrap/store/TimerLog$Tally")], returnType := none }, accessFlags := 0, code := some k2c3 }
def k2c4 : Code := { maxStack := 1, maxLocals := 1, code := prog_29_method_6_code, exceptionTable := #[], attributes := #[] }
def k2m4 : Method := { name := "appendedSoFar", desc := "()Lcom/example/clockwrap/clockwrap/store/TimerLog$Tally;", sig := { parameters := [], returnType := some (.object "com/example/clockwrap/clockwrap/store/TimerLog$Tally") }, accessFlags := 0, code := some k2c4 }
def k2c5 : Code := { maxStack := 3, maxLocals := 4, code := prog_29_method_7_code, exceptionTable := #[], attributes := #[] }
def k2m5 : Method := { name := "read", desc := "(JLcom/example/clockwrap/clockwrap/store/TimerLog$Tally;)V", sig := { parameters := [.long, (.object "com/example/clockwrap/clockwrap/store/TimerLog$Tally")], returnType := none }, accessFlags := 0, code := some k2c5 }
def k2c6 : Code := { maxStack := 3, maxLocals := 3, code := prog_29_method_8_code, exceptionTable := #[], attributes := #[] }
def k2m6 : Method := { name := "takeAllAsLive", desc := "(J)V", sig := { parameters := [.long], returnType := none }, accessFlags := 0, code := some k2c6 }
/-- com/example/clockwrap/clockwrap/store/GarbageEstimate -/
def k2 : Class := { plain "com/example/clockwrap/clockwrap/store/GarbageEstimate" (some 0) with
  accessFlags := 48
  interfaces := #[]
  cf := some (fileOf pool2 14 #[] #[{ accessFlags := 0, nameIndex := 5, descriptorIndex := 45, attributes := #[] }, { accessFlags := 0, nameIndex := 41, descriptorIndex := 35, attributes := #[] }, { accessFlags := 0, nameIndex := 48, descriptorIndex := 49, attributes := #[] }, { accessFlags := 0, nameIndex := 17, descriptorIndex := 50, attributes := #[] }, { accessFlags := 0, nameIndex := 52, descriptorIndex := 53, attributes := #[] }, { accessFlags := 0, nameIndex := 20, descriptorIndex := 23, attributes := #[] }, { accessFlags := 0, nameIndex := 54, descriptorIndex := 45, attributes := #[] }] 48 2 #[] #[{ accessFlags := 2, nameIndex := 30, descriptorIndex := 31, attributes := #[] }, { accessFlags := 2, nameIndex := 17, descriptorIndex := 12, attributes := #[] }, { accessFlags := 2, nameIndex := 20, descriptorIndex := 12, attributes := #[] }])
  fields := #[{ name := "compactedLengthRead", type := .long, accessFlags := 2, slot := 0, constantValue := 0 }, { name := "appended", type := (.object "com/example/clockwrap/clockwrap/store/TimerLog$Tally"), accessFlags := 2, slot := 1, constantValue := 0 }, { name := "read", type := (.object "com/example/clockwrap/clockwrap/store/TimerLog$Tally"), accessFlags := 2, slot := 2, constantValue := 0 }]
  methods := #[k2m0, k2m1, k2m2, k2m3, k2m4, k2m5, k2m6]
  instanceTypes := #[.long, (.object "com/example/clockwrap/clockwrap/store/TimerLog$Tally"), (.object "com/example/clockwrap/clockwrap/store/TimerLog$Tally")]
  staticTypes := #[]
  resolved := Array.replicate 61 none
  statics := none }

def pool3 : Array CpInfo := pool [(1, .methodref 2 3), (0, .class_ 4), (0, .nameAndType 5 6), (0, u "java/lang/Object"), (0, u "<init>"), (0, u "()V"), (0, .class_ 8), (0, u "java/lang/Record")] 13

def k3c0 : Code := { maxStack := 1, maxLocals := 1, code := jdk_30_method_1_code, exceptionTable := #[], attributes := #[] }
def k3m0 : Method := { name := "<init>", desc := "()V", sig := { parameters := [], returnType := none }, accessFlags := 4, code := some k3c0 }
/-- java/lang/Record -/
def k3 : Class := { plain "java/lang/Record" (some 0) with
  accessFlags := 1057
  interfaces := #[]
  cf := some (fileOf pool3 7 #[] #[{ accessFlags := 4, nameIndex := 5, descriptorIndex := 6, attributes := #[] }] 1057 2 #[] #[])
  fields := #[]
  methods := #[k3m0]
  instanceTypes := #[]
  staticTypes := #[]
  resolved := Array.replicate 22 none
  statics := none }

def pool4 : Array CpInfo := pool [(1, .class_ 2), (0, u "com/example/clockwrap/clockwrap/store/TimerLog"), (0, .methodref 4 5), (0, .class_ 6), (0, .nameAndType 7 8), (0, u "java/lang/Record"), (0, u "<init>"), (0, u "()V"), (0, .fieldref 10 11), (0, .class_ 12), (0, .nameAndType 13 14), (0, u "com/example/clockwrap/clockwrap/store/TimerLog$Tally"), (0, u "additionsLength"), (0, u "J"), (0, .fieldref 10 16), (0, .nameAndType 17 14), (0, u "removedLength"), (32, .methodref 10 51), (0, .nameAndType 7 52), (0, u "(JJ)V"), (14, u "NONE"), (0, u "Lcom/example/clockwrap/clockwrap/store/TimerLog$Tally;"), (10, u "plus"), (0, u "(Lcom/example/clockwrap/clockwrap/store/TimerLog$Tally;)Lcom/example/clockwrap/clockwrap/store/TimerLog$Tally;"), (0, u "minus"), (2, u "()J")] 24

def k4c0 : Code := { maxStack := 3, maxLocals := 5, code := prog_50_method_1_code, exceptionTable := #[], attributes := #[] }
def k4m0 : Method := { name := "<init>", desc := "(JJ)V", sig := { parameters := [.long, .long], returnType := none }, accessFlags := 0, code := some k4c0 }
def k4c1 : Code := { maxStack := 8, maxLocals := 2, code := prog_50_method_3_code, exceptionTable := #[], attributes := #[] }
def k4m1 : Method := { name := "plus", desc := "(Lcom/example/clockwrap/clockwrap/store/TimerLog$Tally;)Lcom/example/clockwrap/clockwrap/store/TimerLog$Tally;", sig := { parameters := [(.object "com/example/clockwrap/clockwrap/store/TimerLog$Tally")], returnType := some (.object "com/example/clockwrap/clockwrap/store/TimerLog$Tally") }, accessFlags := 0, code := some k4c1 }
def k4c2 : Code := { maxStack := 8, maxLocals := 2, code := prog_50_method_4_code, exceptionTable := #[], attributes := #[] }
def k4m2 : Method := { name := "minus", desc := "(Lcom/example/clockwrap/clockwrap/store/TimerLog$Tally;)Lcom/example/clockwrap/clockwrap/store/TimerLog$Tally;", sig := { parameters := [(.object "com/example/clockwrap/clockwrap/store/TimerLog$Tally")], returnType := some (.object "com/example/clockwrap/clockwrap/store/TimerLog$Tally") }, accessFlags := 0, code := some k4c2 }
def k4c3 : Code := { maxStack := 2, maxLocals := 1, code := prog_50_method_8_code, exceptionTable := #[], attributes := #[] }
def k4m3 : Method := { name := "additionsLength", desc := "()J", sig := { parameters := [], returnType := some .long }, accessFlags := 1, code := some k4c3 }
def k4c4 : Code := { maxStack := 2, maxLocals := 1, code := prog_50_method_9_code, exceptionTable := #[], attributes := #[] }
def k4m4 : Method := { name := "removedLength", desc := "()J", sig := { parameters := [], returnType := some .long }, accessFlags := 1, code := some k4c4 }
/-- com/example/clockwrap/clockwrap/store/TimerLog$Tally -/
def k4 : Class := { plain "com/example/clockwrap/clockwrap/store/TimerLog$Tally" (some 3) with
  accessFlags := 48
  interfaces := #[]
  cf := some (fileOf pool4 10 #[.nestHost 1] #[{ accessFlags := 0, nameIndex := 7, descriptorIndex := 52, attributes := #[] }, { accessFlags := 0, nameIndex := 79, descriptorIndex := 80, attributes := #[] }, { accessFlags := 0, nameIndex := 81, descriptorIndex := 80, attributes := #[] }, { accessFlags := 1, nameIndex := 13, descriptorIndex := 84, attributes := #[] }, { accessFlags := 1, nameIndex := 17, descriptorIndex := 84, attributes := #[] }] 48 4 #[] #[{ accessFlags := 18, nameIndex := 13, descriptorIndex := 14, attributes := #[] }, { accessFlags := 18, nameIndex := 17, descriptorIndex := 14, attributes := #[] }, { accessFlags := 24, nameIndex := 67, descriptorIndex := 68, attributes := #[] }])
  fields := #[{ name := "additionsLength", type := .long, accessFlags := 18, slot := 0, constantValue := 0 }, { name := "removedLength", type := .long, accessFlags := 18, slot := 1, constantValue := 0 }, { name := "NONE", type := (.object "com/example/clockwrap/clockwrap/store/TimerLog$Tally"), accessFlags := 24, slot := 0, constantValue := 0 }]
  methods := #[k4m0, k4m1, k4m2, k4m3, k4m4]
  instanceTypes := #[.long, .long]
  staticTypes := #[(.object "com/example/clockwrap/clockwrap/store/TimerLog$Tally")]
  resolved := Array.replicate 109 none
  statics := some 0 }

def pool5 : Array CpInfo := pool [(1, u "java/lang/Cloneable"), (0, .class_ 1), (0, u "java/lang/Object"), (0, .class_ 3)] 3

/-- java/lang/Cloneable -/
def k5 : Class := { plain "java/lang/Cloneable" (some 0) with
  accessFlags := 1537
  interfaces := #[]
  cf := some (fileOf pool5 2 #[] #[] 1537 4 #[] #[])
  fields := #[]
  methods := #[]
  instanceTypes := #[]
  staticTypes := #[]
  resolved := Array.replicate 8 none
  statics := none }

def pool6 : Array CpInfo := pool [(1, u "java/io/Serializable"), (0, .class_ 1), (0, u "java/lang/Object"), (0, .class_ 3)] 3

/-- java/io/Serializable -/
def k6 : Class := { plain "java/io/Serializable" (some 0) with
  accessFlags := 1537
  interfaces := #[]
  cf := some (fileOf pool6 2 #[] #[] 1537 4 #[] #[])
  fields := #[]
  methods := #[]
  instanceTypes := #[]
  staticTypes := #[]
  resolved := Array.replicate 8 none
  statics := none }

/-- the primitive byte -/
def k7 : Class := { plain "byte" none with kind := .primitive 'B', accessFlags := 0x411 }
/-- [B -/
def k8 : Class := { plain "[B" (some 0) with kind := .array 7 .byte, interfaces := #[5, 6], accessFlags := 1041 }

/-- the primitive int -/
def k9 : Class := { plain "int" none with kind := .primitive 'I', accessFlags := 0x411 }
/-- [I -/
def k10 : Class := { plain "[I" (some 0) with kind := .array 9 .int, interfaces := #[5, 6], accessFlags := 1041 }

def heap : Heap := #[{ cls := 4, slots := #[.ref 1], vm := .statics 4 },
  { cls := 4, slots := #[.long 0, .long 0], vm := .none }]
def classes : Array Class := #[k0, k1, k2, k3, k4, k5, k6, k7, k8, k9, k10]
def interned : List (Array UInt16 × Addr) := []
def slotsUsed : Nat := 3
def theMethod : MethodId := ⟨1, 1⟩
def args0 : Array Value := #[.long 1, .long 2, .long 3, .long 4, .long 5, .long 6]
def aboutOver (below : List Frame) : State where
  vm := { classes := classes, interned := interned.toArray }
  heap := heap
  slotsUsed := slotsUsed
  threads := #[{ frames := .invoking theMethod args0 :: below }]
def below0 : List Frame := [.native { method := ⟨0, 0⟩, args := #[] }]
def about1 : State := aboutOver below0
def p0 : Program := .bare "" "" ""
def e0 : Env := launch0.env 0 0 0
theorem w_frames : about1.frames = Frame.invoking theMethod args0 :: below0 := rfl
set_option maxRecDepth 65536 in
theorem w_args : argsFit about1.vm theMethod args0 = true := by decide +kernel
set_option maxRecDepth 65536 in
theorem w_heap : heapFits about1 = true := by decide +kernel
set_option maxRecDepth 65536 in
theorem w_runnable : about1.curStatus? = some .runnable := by decide +kernel
set_option maxRecDepth 65536 in
theorem w_alone : about1.alone = true := by decide +kernel
set_option maxRecDepth 65536 in
theorem w_named : about1.methodNamed? x = some theMethod := by decide +kernel
set_option maxRecDepth 65536 in
theorem w_hears : about1.hears theMethod below0 = true := by decide +kernel
set_option maxRecDepth 65536 in
theorem w_ripe : about1.ripe theMethod args0 below0 = true := by decide +kernel
theorem w_running : about1.status = .running := rfl
set_option maxRecDepth 65536 in
theorem w_room : about1.hasRoom e0.platform room_1 = true :=
  launch0.hasRoom_least _ room_1 (by decide +kernel) (by decide +kernel) (by decide +kernel) (by decide +kernel) (by decide +kernel) (by decide +kernel)
theorem allAtoms_all (ts : List Jvm.Cond) (a : Array Jvm.Value) (st : Jvm.State) : (allAtoms ts).before a st = ts.all (fun c => c.before a st) := by
  induction ts with
  | nil => rfl
  | cons c t ih =>
    show (Jvm.Cond.and c (allAtoms t)).before a st = _
    rw [Jvm.Cond.before_and, ih, List.all_cons]
def words1 : List Jvm.Cond := Jvm.Cond.code x code maxLocals ret :: tables_1
/-- a 'code' word, met by the world's own term for the bytes: nothing is compared byte by byte -/
theorem code_word {y : MethodName} {bytes : ByteArray} {mx : Nat} {rt : Option FieldType} {a : Array Value} {s : State} {m : MethodId} {meth : Method} {c : Code} (h1 : s.methodNamed? y = some m) (h2 : s.vm.method? m = some meth) (h3 : meth.code = some c) (h4 : c.code = bytes)
    (h5 : (c.maxLocals == mx && c.exceptionTable.isEmpty && decide (c.maxStack ≤ mostOperands) && decide (meth.sig.returnType = rt) && !meth.locks && decide (parseMethodDescriptor y.desc = some meth.sig)) = true) : (Jvm.Cond.code y bytes mx rt).before a s = true := by
  simp only [Bool.and_eq_true, beq_iff_eq, Bool.not_eq_true', decide_eq_true_eq] at h5
  obtain ⟨⟨⟨⟨⟨g1, g2⟩, g3⟩, g4⟩, g5⟩, g6⟩ := h5
  simp [Cond.before, Cond.holds, Cond.value, h1, h2, h3, h4, g1, g2, g3, g4, g5, g6]
def isCode : Jvm.Cond → Bool
  | .code _ _ _ _ => true
  | _ => false
theorem all_split {L : List Jvm.Cond} {P : Jvm.Cond → Bool} (h1 : L.all (fun c => isCode c || P c) = true) (h2 : ∀ c ∈ L.filter isCode, P c = true) : L.all P = true := by
  refine List.all_eq_true.mpr fun c hc => ?_
  have h := List.all_eq_true.mp h1 c hc
  rcases Bool.eq_false_or_eq_true (isCode c) with hi | hi
  · exact h2 c (List.mem_filter.mpr ⟨hc, hi⟩)
  · simpa [hi] using h
set_option maxRecDepth 65536 in
theorem w_c0 : (Jvm.Cond.code x code maxLocals ret).before args0 about1 = true := code_word (m := ⟨1, 1⟩) (meth := k1m1) (c := k1c1) (by decide +kernel) rfl rfl rfl (by decide +kernel)
set_option maxRecDepth 65536 in
theorem w_c1 : (Jvm.Cond.code ({ cls := "com/example/clockwrap/clockwrap/store/GarbageEstimate", name := "<init>", desc := "(J)V" } : Jvm.MethodName) prog_29_method_1_code (3 : Nat) (Option.none : Option Jvm.ClassFile.FieldType)).before args0 about1 = true := code_word (m := ⟨2, 0⟩) (meth := k2m0) (c := k2c0) (by decide +kernel) rfl rfl rfl (by decide +kernel)
set_option maxRecDepth 65536 in
theorem w_c2 : (Jvm.Cond.code ({ cls := "java/lang/Object", name := "<init>", desc := "()V" } : Jvm.MethodName) object_method_1_code (1 : Nat) (Option.none : Option Jvm.ClassFile.FieldType)).before args0 about1 = true := code_word (m := ⟨0, 0⟩) (meth := k0m0) (c := k0c0) (by decide +kernel) rfl rfl rfl (by decide +kernel)
set_option maxRecDepth 65536 in
theorem w_c3 : (Jvm.Cond.code ({ cls := "com/example/clockwrap/clockwrap/store/GarbageEstimate", name := "read", desc := "(JLcom/example/clockwrap/clockwrap/store/TimerLog$Tally;)V" } : Jvm.MethodName) prog_29_method_7_code (4 : Nat) (Option.none : Option Jvm.ClassFile.FieldType)).before args0 about1 = true := code_word (m := ⟨2, 5⟩) (meth := k2m5) (c := k2c5) (by decide +kernel) rfl rfl rfl (by decide +kernel)
set_option maxRecDepth 65536 in
theorem w_c4 : (Jvm.Cond.code ({ cls := "com/example/clockwrap/clockwrap/store/TimerLog$Tally", name := "<init>", desc := "(JJ)V" } : Jvm.MethodName) prog_50_method_1_code (5 : Nat) (Option.none : Option Jvm.ClassFile.FieldType)).before args0 about1 = true := code_word (m := ⟨4, 0⟩) (meth := k4m0) (c := k4c0) (by decide +kernel) rfl rfl rfl (by decide +kernel)
set_option maxRecDepth 65536 in
theorem w_c5 : (Jvm.Cond.code ({ cls := "java/lang/Record", name := "<init>", desc := "()V" } : Jvm.MethodName) jdk_30_method_1_code (1 : Nat) (Option.none : Option Jvm.ClassFile.FieldType)).before args0 about1 = true := code_word (m := ⟨3, 0⟩) (meth := k3m0) (c := k3c0) (by decide +kernel) rfl rfl rfl (by decide +kernel)
set_option maxRecDepth 65536 in
theorem w_c6 : (Jvm.Cond.code ({ cls := "com/example/clockwrap/clockwrap/store/GarbageEstimate", name := "appended", desc := "(Lcom/example/clockwrap/clockwrap/store/TimerLog$Tally;)V" } : Jvm.MethodName) prog_29_method_4_code (2 : Nat) (Option.none : Option Jvm.ClassFile.FieldType)).before args0 about1 = true := code_word (m := ⟨2, 3⟩) (meth := k2m3) (c := k2c3) (by decide +kernel) rfl rfl rfl (by decide +kernel)
set_option maxRecDepth 65536 in
theorem w_c7 : (Jvm.Cond.code ({ cls := "com/example/clockwrap/clockwrap/store/TimerLog$Tally", name := "plus", desc := "(Lcom/example/clockwrap/clockwrap/store/TimerLog$Tally;)Lcom/example/clockwrap/clockwrap/store/TimerLog$Tally;" } : Jvm.MethodName) prog_50_method_3_code (2 : Nat) (Option.some (Jvm.ClassFile.FieldType.object "com/example/clockwrap/clockwrap/store/TimerLog$Tally"))).before args0 about1 = true := code_word (m := ⟨4, 1⟩) (meth := k4m1) (c := k4c1) (by decide +kernel) rfl rfl rfl (by decide +kernel)
set_option maxRecDepth 65536 in
theorem w_c8 : (Jvm.Cond.code ({ cls := "com/example/clockwrap/clockwrap/store/GarbageEstimate", name := "takeAllAsLive", desc := "(J)V" } : Jvm.MethodName) prog_29_method_8_code (3 : Nat) (Option.none : Option Jvm.ClassFile.FieldType)).before args0 about1 = true := code_word (m := ⟨2, 6⟩) (meth := k2m6) (c := k2c6) (by decide +kernel) rfl rfl rfl (by decide +kernel)
set_option maxRecDepth 65536 in
theorem w_c9 : (Jvm.Cond.code ({ cls := "com/example/clockwrap/clockwrap/store/GarbageEstimate", name := "compactedLength", desc := "()J" } : Jvm.MethodName) prog_29_method_2_code (2 : Nat) (Option.some Jvm.ClassFile.FieldType.long)).before args0 about1 = true := code_word (m := ⟨2, 1⟩) (meth := k2m1) (c := k2c1) (by decide +kernel) rfl rfl rfl (by decide +kernel)
set_option maxRecDepth 65536 in
theorem w_c10 : (Jvm.Cond.code ({ cls := "com/example/clockwrap/clockwrap/store/TimerLog$Tally", name := "minus", desc := "(Lcom/example/clockwrap/clockwrap/store/TimerLog$Tally;)Lcom/example/clockwrap/clockwrap/store/TimerLog$Tally;" } : Jvm.MethodName) prog_50_method_4_code (2 : Nat) (Option.some (Jvm.ClassFile.FieldType.object "com/example/clockwrap/clockwrap/store/TimerLog$Tally"))).before args0 about1 = true := code_word (m := ⟨4, 2⟩) (meth := k4m2) (c := k4c2) (by decide +kernel) rfl rfl rfl (by decide +kernel)
set_option maxRecDepth 65536 in
theorem w_c11 : (Jvm.Cond.code ({ cls := "com/example/clockwrap/clockwrap/store/TimerLog$Tally", name := "additionsLength", desc := "()J" } : Jvm.MethodName) prog_50_method_8_code (1 : Nat) (Option.some Jvm.ClassFile.FieldType.long)).before args0 about1 = true := code_word (m := ⟨4, 3⟩) (meth := k4m3) (c := k4c3) (by decide +kernel) rfl rfl rfl (by decide +kernel)
set_option maxRecDepth 65536 in
theorem w_c12 : (Jvm.Cond.code ({ cls := "com/example/clockwrap/clockwrap/store/TimerLog$Tally", name := "removedLength", desc := "()J" } : Jvm.MethodName) prog_50_method_9_code (1 : Nat) (Option.some Jvm.ClassFile.FieldType.long)).before args0 about1 = true := code_word (m := ⟨4, 4⟩) (meth := k4m4) (c := k4c4) (by decide +kernel) rfl rfl rfl (by decide +kernel)
set_option maxRecDepth 65536 in
theorem w_c13 : (Jvm.Cond.code ({ cls := "com/example/clockwrap/clockwrap/store/GarbageEstimate", name := "garbage", desc := "(J)J" } : Jvm.MethodName) prog_29_method_3_code (3 : Nat) (Option.some Jvm.ClassFile.FieldType.long)).before args0 about1 = true := code_word (m := ⟨2, 2⟩) (meth := k2m2) (c := k2c2) (by decide +kernel) rfl rfl rfl (by decide +kernel)
set_option maxRecDepth 65536 in
theorem w_c14 : (Jvm.Cond.code ({ cls := "com/example/clockwrap/clockwrap/store/GarbageEstimate", name := "appendedSoFar", desc := "()Lcom/example/clockwrap/clockwrap/store/TimerLog$Tally;" } : Jvm.MethodName) prog_29_method_6_code (1 : Nat) (Option.some (Jvm.ClassFile.FieldType.object "com/example/clockwrap/clockwrap/store/TimerLog$Tally"))).before args0 about1 = true := code_word (m := ⟨2, 4⟩) (meth := k2m4) (c := k2c4) (by decide +kernel) rfl rfl rfl (by decide +kernel)
def codes1 : List Jvm.Cond := [Jvm.Cond.code x code maxLocals ret, Jvm.Cond.code ({ cls := "com/example/clockwrap/clockwrap/store/GarbageEstimate", name := "<init>", desc := "(J)V" } : Jvm.MethodName) prog_29_method_1_code (3 : Nat) (Option.none : Option Jvm.ClassFile.FieldType), Jvm.Cond.code ({ cls := "java/lang/Object", name := "<init>", desc := "()V" } : Jvm.MethodName) object_method_1_code (1 : Nat) (Option.none : Option Jvm.ClassFile.FieldType), Jvm.Cond.code ({ cls := "com/example/clockwrap/clockwrap/store/GarbageEstimate", name := "read", desc := "(JLcom/example/clockwrap/clockwrap/store/TimerLog$Tally;)V" } : Jvm.MethodName) prog_29_method_7_code (4 : Nat) (Option.none : Option Jvm.ClassFile.FieldType), Jvm.Cond.code ({ cls := "com/example/clockwrap/clockwrap/store/TimerLog$Tally", name := "<init>", desc := "(JJ)V" } : Jvm.MethodName) prog_50_method_1_code (5 : Nat) (Option.none : Option Jvm.ClassFile.FieldType), Jvm.Cond.code ({ cls := "java/lang/Record", name := "<init>", desc := "()V" } : Jvm.MethodName) jdk_30_method_1_code (1 : Nat) (Option.none : Option Jvm.ClassFile.FieldType), Jvm.Cond.code ({ cls := "com/example/clockwrap/clockwrap/store/GarbageEstimate", name := "appended", desc := "(Lcom/example/clockwrap/clockwrap/store/TimerLog$Tally;)V" } : Jvm.MethodName) prog_29_method_4_code (2 : Nat) (Option.none : Option Jvm.ClassFile.FieldType), Jvm.Cond.code ({ cls := "com/example/clockwrap/clockwrap/store/TimerLog$Tally", name := "plus", desc := "(Lcom/example/clockwrap/clockwrap/store/TimerLog$Tally;)Lcom/example/clockwrap/clockwrap/store/TimerLog$Tally;" } : Jvm.MethodName) prog_50_method_3_code (2 : Nat) (Option.some (Jvm.ClassFile.FieldType.object "com/example/clockwrap/clockwrap/store/TimerLog$Tally")), Jvm.Cond.code ({ cls := "com/example/clockwrap/clockwrap/store/GarbageEstimate", name := "takeAllAsLive", desc := "(J)V" } : Jvm.MethodName) prog_29_method_8_code (3 : Nat) (Option.none : Option Jvm.ClassFile.FieldType), Jvm.Cond.code ({ cls := "com/example/clockwrap/clockwrap/store/GarbageEstimate", name := "compactedLength", desc := "()J" } : Jvm.MethodName) prog_29_method_2_code (2 : Nat) (Option.some Jvm.ClassFile.FieldType.long), Jvm.Cond.code ({ cls := "com/example/clockwrap/clockwrap/store/TimerLog$Tally", name := "minus", desc := "(Lcom/example/clockwrap/clockwrap/store/TimerLog$Tally;)Lcom/example/clockwrap/clockwrap/store/TimerLog$Tally;" } : Jvm.MethodName) prog_50_method_4_code (2 : Nat) (Option.some (Jvm.ClassFile.FieldType.object "com/example/clockwrap/clockwrap/store/TimerLog$Tally")), Jvm.Cond.code ({ cls := "com/example/clockwrap/clockwrap/store/TimerLog$Tally", name := "additionsLength", desc := "()J" } : Jvm.MethodName) prog_50_method_8_code (1 : Nat) (Option.some Jvm.ClassFile.FieldType.long), Jvm.Cond.code ({ cls := "com/example/clockwrap/clockwrap/store/TimerLog$Tally", name := "removedLength", desc := "()J" } : Jvm.MethodName) prog_50_method_9_code (1 : Nat) (Option.some Jvm.ClassFile.FieldType.long), Jvm.Cond.code ({ cls := "com/example/clockwrap/clockwrap/store/GarbageEstimate", name := "garbage", desc := "(J)J" } : Jvm.MethodName) prog_29_method_3_code (3 : Nat) (Option.some Jvm.ClassFile.FieldType.long), Jvm.Cond.code ({ cls := "com/example/clockwrap/clockwrap/store/GarbageEstimate", name := "appendedSoFar", desc := "()Lcom/example/clockwrap/clockwrap/store/TimerLog$Tally;" } : Jvm.MethodName) prog_29_method_6_code (1 : Nat) (Option.some (Jvm.ClassFile.FieldType.object "com/example/clockwrap/clockwrap/store/TimerLog$Tally"))]
set_option maxRecDepth 65536 in
theorem codes_eq : words1.filter isCode = codes1 := rfl
theorem w_codes : ∀ c ∈ words1.filter isCode, c.before args0 about1 = true := by
  rw [codes_eq]
  intro c hc
  simp only [codes1, List.mem_cons, List.not_mem_nil, or_false] at hc
  rcases hc with rfl | rfl | rfl | rfl | rfl | rfl | rfl | rfl | rfl | rfl | rfl | rfl | rfl | rfl | rfl
  · exact w_c0
  · exact w_c1
  · exact w_c2
  · exact w_c3
  · exact w_c4
  · exact w_c5
  · exact w_c6
  · exact w_c7
  · exact w_c8
  · exact w_c9
  · exact w_c10
  · exact w_c11
  · exact w_c12
  · exact w_c13
  · exact w_c14
set_option maxRecDepth 65536 in
theorem w_t1 : (words1.take 24).all (fun c => isCode c || c.before args0 about1) = true := by decide +kernel
set_option maxRecDepth 65536 in
theorem w_t2 : ((words1.drop 24).take 24).all (fun c => isCode c || c.before args0 about1) = true := by decide +kernel
set_option maxRecDepth 65536 in
theorem w_t3 : (((words1.drop 24).drop 24).take 24).all (fun c => isCode c || c.before args0 about1) = true := by decide +kernel
set_option maxRecDepth 65536 in
theorem w_t4 : (((words1.drop 24).drop 24).drop 24).all (fun c => isCode c || c.before args0 about1) = true := by decide +kernel
theorem w_tables : (allAtoms (Jvm.Cond.code x code maxLocals ret :: tables_1)).before args0 about1 = true := by
  rw [allAtoms_all]
  show words1.all (fun c => c.before args0 about1) = true
  refine all_split ?_ w_codes
  rw [← List.take_append_drop 24 words1, List.all_append, w_t1, ← List.take_append_drop 24 (words1.drop 24), List.all_append, w_t2, ← List.take_append_drop 24 ((words1.drop 24).drop 24), List.all_append, w_t3, w_t4]
  rfl
set_option maxRecDepth 65536 in
theorem w_case : (Jvm.Cond.and given_1 narrow_1).before args0 about1 = true := by decide +kernel
theorem w_applies : (headSpec (Jvm.Cond.code x code maxLocals ret :: tables_1) room_1).applies x e0.platform about1 = true :=
  (Spec.applies_iff w_frames).mpr ⟨w_running, w_runnable, w_alone, w_named, w_hears, w_ripe, w_room, w_tables⟩
theorem atStart : AtStart classFile x code maxLocals ret World_1 tables_1 room_1 Calls_1 rest_1 Pre_1 launch0 p0 e0 about1 theMethod args0 below0 :=
  ⟨lists_1, trivial, launch0.admits_env _ _ _, launch0.least_env, fairChoices_fair.cas, fairChoices_fair.clock, w_frames, w_args, w_heap, w_applies, trivial, trivial, w_case⟩
end start1
theorem witness_1 : WitnessClaimed_1 := ⟨start1.p0, start1.e0, start1.about1, start1.theMethod, start1.args0, start1.below0, start1.atStart⟩
end Jvm.Pilot.@@N@@
